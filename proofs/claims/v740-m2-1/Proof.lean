import JvmDerived
import JvmDerived.Pilot.@@N@@Statement
import JvmDerived.Pilot.@@N@@Code
set_option linter.unusedVariables false
set_option linter.unusedSimpArgs false
namespace Jvm.Pilot.@@N@@
open Jvm Jvm.ClassFile Sem Op Lib Jvm.Free Jvm.Stand Jvm.LawKit Jvm.RoadKit Bundle Jvm.Pilot.@@N@@.Jvm.D
/-- from U the run comes to a state of which K holds -/
def own_Go (tb : Tables) (e : Env) (below : List Frame) (K : State → Prop) (U : State) : Prop := ∃ t, Steps tb e below U t ∧ K t
theorem own_by {tb : Tables} {e : Env} {below : List Frame} {K : State → Prop} {U U' : State} (k : ∀ t, Steps tb e below U' t → Steps tb e below U t) (h : own_Go tb e below K U') : own_Go tb e below K U := by
  obtain ⟨t, a, b⟩ := h
  exact ⟨t, k t a, b⟩
/-- what a returning instruction needs: the frames that it leaves, and that K holds there -/
def own_Out (e : Env) (m : MethodId) (K : State → Prop) (T : State) (v : Option Value) : Prop := ∃ fs, (∀ (f : JFrame) (acts : List Action), f.method = m → f.locked = none → f.entered = [] → (doReturn e (T.setTop f) acts v).1 = T.setFrames fs) ∧ K (T.setFrames fs)
theorem own_met {l : Launch} {y : MethodName} {bytes : ByteArray} {ml : Nat} {ret : Option FieldType} {ws : List Jvm.Cond} {rm : Room} {as' : Array Value} {Z : State} {h0 : Heap} {k n : Nat} {Q : Option Value → Heap → List Loc → Prop} (hp : plainFor y = true)
    (body : ∀ (p : Program) (e : Env) (s : State) (m : MethodId) (below : List Frame) (meth : Method) (c : Code) (s₁ : State) (K : State → Prop), p.tables.exec = Jvm.exec → c.code = bytes → c.maxLocals = ml → s.vm.findClass y.cls = some m.cls → meth.name = y.name → meth.sig.returnType = ret →
      Z.Warmed39 s.vm → Stand p l e rm s m as' below meth c s₁ [] 0 0 → s₁.heap = h0 →
      (∀ (v : Option Value) {T : State} {L : List Loc} {k' n' : Nat}, Stand p l e rm s m as' below meth c T L k' n' → (meth.sig.returnType = none → v = none) → Q v T.heap L → k' ≤ k → n' ≤ n → own_Out e m K T v) →
      own_Go p.tables e below K (s₁.setTop (entryFrame m as' ml))) :
    MetFree l y (head1 (Jvm.Cond.code y bytes ml ret :: ws) rm) (fun a U => a = as' ∧ Z.Warmed39 U.vm ∧ U.heap = h0) (fun _ _ _ _ _ => True) (fun _ U o U' => ∃ v L, o = .returned v ∧ Q v U'.heap L ∧ FrameEnd U o U' L k n) := by
  refine MetFree.of_bodySF hp hisR ?_
  intro p e s m args below meth c s₁ Bd hml0 hP hK
  obtain ⟨rfl, hZ, hh⟩ := hP
  have hown : s.vm.findClass y.cls = some m.cls := findClass_of_methodNamed Bd.named
  obtain ⟨t, hs, o, h1, h2, h3⟩ := body p e s m below meth c s₁ (fun t => ∃ o, t.status = .running ∧ Ended t below o ∧ ∃ v L, o = .returned v ∧ Q v t.heap L ∧ FrameEnd s o t L k n) Bd.exec Bd.bytes hml0 hown (name_of_methodNamed Bd.named Bd.method).1 Bd.returns hZ (Stand.of_body Bd) (by rw [← hh, Bd.state]; rfl) (by
    intro v T L k' n' X hv hq hk hn
    obtain ⟨fs, hr, hrun, hended, hW, hsame⟩ := X.leave (v := v) hv
    exact ⟨fs, hr, _, hrun, hended, v, L, rfl, hq, ⟨_, rfl⟩, hW, hsame.mono hk hn⟩)
  exact ⟨t, o, hs, h1, h2, h3⟩
section OwnRet
variable {p : Program} {l : Launch} {e : Env} {R : Room} {s : State} {m : MethodId} {args : Array Value} {below : List Frame} {meth : Method} {c : Code} {T : State} {locs : List Loc} {cells slots : Nat} {K : State → Prop}
theorem own_retI (X : Stand p l e R s m args below meth c T locs cells slots) (hx : p.tables.exec = Jvm.exec) (hret : meth.sig.returnType = some .int) {pc : Nat} {Ls : Array Slot} {z : Int32} {rest : List Value} (hd : decode c.code pc = .ok (.ireturn, 1)) (hq : own_Out e m K T (some (.int z))) : own_Go p.tables e below K (T.setTop (mkF m pc Ls (.int z :: rest))) := by
  obtain ⟨fs, hr, hk⟩ := hq
  exact ⟨_, retOut X hx hret rfl (Or.inl ⟨rfl, Or.inl rfl, _, rfl⟩) hd hr, hk⟩
theorem own_retZ (X : Stand p l e R s m args below meth c T locs cells slots) (hx : p.tables.exec = Jvm.exec) {t : FieldType} (hret : meth.sig.returnType = some t) (ht : t = .boolean ∨ t = .byte ∨ t = .char ∨ t = .short) {pc : Nat} {Ls : Array Slot} {z : Int32} {rest : List Value} (hd : decode c.code pc = .ok (.ireturn, 1)) (hq : own_Out e m K T (some (.int (nar t z)))) : own_Go p.tables e below K (T.setTop (mkF m pc Ls (.int z :: rest))) := by
  obtain ⟨fs, hr, hk⟩ := hq
  exact ⟨_, retN X hx hret ht hd hr, hk⟩
theorem own_retJ (X : Stand p l e R s m args below meth c T locs cells slots) (hx : p.tables.exec = Jvm.exec) (hret : meth.sig.returnType = some .long) {pc : Nat} {Ls : Array Slot} {z : Int64} {rest : List Value} (hd : decode c.code pc = .ok (.lreturn, 1)) (hq : own_Out e m K T (some (.long z))) : own_Go p.tables e below K (T.setTop (mkF m pc Ls (.long z :: rest))) := by
  obtain ⟨fs, hr, hk⟩ := hq
  exact ⟨_, retOut X hx hret rfl (Or.inr (Or.inl ⟨rfl, rfl, _, rfl⟩)) hd hr, hk⟩
theorem own_retA (X : Stand p l e R s m args below meth c T locs cells slots) (hx : p.tables.exec = Jvm.exec) {t : FieldType} (hret : meth.sig.returnType = some t) (ht : t.isReference = true) {pc : Nat} {Ls : Array Slot} {w : Value} {rest : List Value} (hn : narrow t w = w) (hw : w.isRef = true) (hd : decode c.code pc = .ok (.areturn, 1)) (hq : own_Out e m K T (some w)) : own_Go p.tables e below K (T.setTop (mkF m pc Ls (w :: rest))) := by
  obtain ⟨fs, hr, hk⟩ := hq
  exact ⟨_, retOut X hx hret hn (Or.inr (Or.inr (Or.inr (Or.inr ⟨rfl, ht, hw⟩)))) hd hr, hk⟩
theorem own_retV (X : Stand p l e R s m args below meth c T locs cells slots) (hx : p.tables.exec = Jvm.exec) (hret : meth.sig.returnType = none) {pc : Nat} {Ls : Array Slot} (hd : decode c.code pc = .ok (.return_, 1)) (hq : own_Out e m K T none) : own_Go p.tables e below K (T.setTop (mkF m pc Ls [])) := by
  obtain ⟨fs, hr, hk⟩ := hq
  exact ⟨_, X.returnOut hx hret hd hr, hk⟩
end OwnRet
theorem own_nar {C : String} {w : Value} (h : w.isRef = true) : narrow (.object C) w = w := by cases w <;> rfl
theorem own_fit {C : String} {w : Value} (h : w.isRef = true) : fits (.object C) w = true := by cases w <;> first | rfl | (simp [Value.isRef] at h)
theorem own_more {p : Program} {l : Launch} {e : Env} {R : Room} {s : State} {m : MethodId} {args : Array Value} {below : List Frame} {meth : Method} {c : Code} {T : State} {locs : List Loc} {k n k' n' : Nat} (X : Stand p l e R s m args below meth c T locs k n) (hk : k ≤ k') (hn : n ≤ n') : Stand p l e R s m args below meth c T locs k' n' := { X with same := X.same.mono hk hn }
/-- a condition as 0 or 1 -/
def own_tern (x : Int32) : Int32 := if x = 0 then 0 else 1
theorem own_t0 {x : Int32} (h : x = 0) : own_tern x = 0 := if_pos h
theorem own_t1 {x : Int32} (h : ¬ x = 0) : own_tern x = 1 := if_neg h
theorem own_t01 (x : Int32) : own_tern x = 0 ∨ own_tern x = 1 := by unfold own_tern; split <;> simp
theorem own_nb {x : Int32} (h : x = 0 ∨ x = 1) : nar .boolean x = x := by rcases h with rfl | rfl <;> rfl
theorem own_b53 (x : Int32) : B53 x.toInt64 := by
  have h1 := x.toInt_lt; have h2 := x.le_toInt
  unfold B53
  rw [Int32.toInt_toInt64]
  omega
theorem own_i64 (x y : Int32) : x.toInt64 < y.toInt64 ↔ x < y := by rw [Int64.lt_iff_toInt_lt, Int32.lt_iff_toInt_lt, Int32.toInt_toInt64, Int32.toInt_toInt64]
theorem own_ni {x y : Int32} (h : ¬ x = y) {n : Int} (e : y.toInt = n) : ¬ x.toInt = n := fun q => h (Int32.toInt_inj.mp (q.trans e.symm))
theorem own_llt {x y : Int64} (h : x < y) : ifCond.holds .lt (lcmpW x y) = true ∧ ifCond.holds .ge (lcmpW x y) = false := by
  have q := tlt (by rw [lcW]; exact (lc_lt x y).mpr h : lcmpW x y < 0)
  exact ⟨(if0 _ _).trans q.1, (if0 _ _).trans q.2.1⟩
theorem own_lge {x y : Int64} (h : ¬ x < y) : ifCond.holds .lt (lcmpW x y) = false ∧ ifCond.holds .ge (lcmpW x y) = true := by
  have q := flt (by rw [lcW]; exact fun z => h ((lc_lt x y).mp z) : ¬ lcmpW x y < 0)
  exact ⟨(if0 _ _).trans q.1, (if0 _ _).trans q.2.1⟩
theorem own_lgt {x y : Int64} (h : y < x) : ifCond.holds .gt (lcmpW x y) = true ∧ ifCond.holds .le (lcmpW x y) = false := by
  have q := tlt (by rw [lcW]; exact (lc_gt x y).mpr h : 0 < lcmpW x y)
  exact ⟨(if0 _ _).trans q.2.2.1, (if0 _ _).trans q.2.2.2⟩
theorem own_lle {x y : Int64} (h : ¬ y < x) : ifCond.holds .gt (lcmpW x y) = false ∧ ifCond.holds .le (lcmpW x y) = true := by
  have q := flt (by rw [lcW]; exact fun z => h ((lc_gt x y).mp z) : ¬ 0 < lcmpW x y)
  exact ⟨(if0 _ _).trans q.2.2.1, (if0 _ _).trans q.2.2.2⟩
theorem own_leq {x y : Int64} (h : x = y) : ifCond.holds .eq (lcmpW x y) = true ∧ ifCond.holds .ne (lcmpW x y) = false := by
  have q := teq (by rw [lcW]; exact (lc_eq x y).mpr h : lcmpW x y = 0)
  exact ⟨(if0 _ _).trans q.1, (if0 _ _).trans q.2⟩
theorem own_lne {x y : Int64} (h : ¬ x = y) : ifCond.holds .eq (lcmpW x y) = false ∧ ifCond.holds .ne (lcmpW x y) = true := by
  have q := feq (by rw [lcW]; exact fun z => h ((lc_eq x y).mp z) : ¬ lcmpW x y = 0)
  exact ⟨(if0 _ _).trans q.1, (if0 _ _).trans q.2⟩
theorem own_metW {l : Launch} {y : MethodName} {bytes : ByteArray} {ml : Nat} {ret : Option FieldType} {ws : List Jvm.Cond} {rm : Room} {as' : Array Value} {Z : State} {k n : Nat} {Q : Option Value → Heap → List Loc → Prop} (hp : plainFor y = true)
    (body : ∀ (p : Program) (e : Env) (m : MethodId) (below : List Frame) (meth : Method) (c : Code) (s₁ : State) (K : State → Prop), p.tables.exec = Jvm.exec → c.code = bytes → c.maxLocals = ml → Z.vm.findClass y.cls = some m.cls → meth.name = y.name → meth.sig.returnType = ret →
      Stand p l e rm Z m as' below meth c s₁ [] 0 0 → s₁.heap = Z.heap →
      (∀ (v : Option Value) {T : State} {L : List Loc} {k' n' n1 : Nat} {vm1 : Vm}, Stand p l e rm (Z.setVm vm1) m as' below meth c T L k' n' → Z.Since vm1 n1 → n1 ≤ T.heap.size → (meth.sig.returnType = none → v = none) → Q v T.heap L → k' ≤ k → n' ≤ n → own_Out e m K T v) →
      own_Go p.tables e below K (s₁.setTop (entryFrame m as' ml))) :
    MetFree l y (head1 (Jvm.Cond.code y bytes ml ret :: ws) rm) (fun a U => a = as' ∧ U = Z) (fun _ _ _ _ _ => True) (fun _ U o U' => ∃ v L, o = .returned v ∧ Q v U'.heap L ∧ ReturnedEndW U o U' L k n) := by
  refine MetFree.of_bodySF hp hisR ?_
  intro p e s m args below meth c s₁ Bd hml0 hP hK
  obtain ⟨rfl, rfl⟩ := hP
  have hown : s.vm.findClass y.cls = some m.cls := findClass_of_methodNamed Bd.named
  obtain ⟨t, hs, o, h1, h2, h3⟩ := body p e m below meth c s₁ (fun t => ∃ o, t.status = .running ∧ Ended t below o ∧ ∃ v L, o = .returned v ∧ Q v t.heap L ∧ ReturnedEndW s o t L k n) Bd.exec Bd.bytes hml0 hown (name_of_methodNamed Bd.named Bd.method).1 Bd.returns (Stand.of_body Bd) (by rw [Bd.state]; rfl) (by
    intro v T L k' n' n1 vm1 X hS hn1 hv hq hk hn
    obtain ⟨fs, hr, hrun, hended, hE⟩ := X.leaveW hS hn1 (v := v) hv
    exact ⟨fs, hr, _, hrun, hended, v, L, rfl, hq, hE.1, hE.2.1, hE.2.2.1, hE.2.2.2.mono hk hn⟩)
  exact ⟨t, o, hs, h1, h2, h3⟩
/-- an Object[] of the length z that holds vs -/
def own_Ar (Z : State) (h : Heap) (a : Addr) (k : ClassId) (z : Int32) (vs : List Value) : Prop := Arv Z h a k (.object "java/lang/Object") z vs .null ∧ Exa Z h a "[Ljava/lang/Object;" ∧ Ovr Z k "java/lang/Object"
theorem own_Ar.ext {Z : State} {h h' : Heap} {a : Addr} {k : ClassId} {z : Int32} {vs : List Value} (F : own_Ar Z h a k z vs) (E : Ext h h') : own_Ar Z h' a k z vs := ⟨F.1.ext E, F.2.1.ext E, F.2.2⟩
theorem own_Ar.keep {Z : State} {h h' : Heap} {a : Addr} {k : ClassId} {z : Int32} {vs : List Value} {ws : List Addr} (F : own_Ar Z h a k z vs) (K : Keep h h' ws) (q : a ∉ ws) : own_Ar Z h' a k z vs := ⟨F.1.keep K q, F.2.1.keep K, F.2.2⟩
theorem own_Ar.other {Z : State} {h h' : Heap} {a b : Addr} {k : ClassId} {z : Int32} {vs : List Value} {sl : Nat} {v : Value} (F : own_Ar Z h a k z vs) (W : Wr h h' b sl v) (q : a ≠ b) : own_Ar Z h' a k z vs := ⟨F.1.other W q, F.2.1.wr W, F.2.2⟩
theorem own_Ar.lt {Z : State} {h : Heap} {a : Addr} {k : ClassId} {z : Int32} {vs : List Value} (F : own_Ar Z h a k z vs) : a < h.size := F.1.lt
theorem own_Ar.ne {Z : State} {h : Heap} {a x : Addr} {k : ClassId} {z : Int32} {vs : List Value} {C : String} {a0 : Array Value} {n : Nat} (E : Exa Z h x C) (F : own_Ar Z h a k z vs) (w : (Jvm.Cond.instantiable C n).before a0 Z = true) : x ≠ a := by obtain ⟨⟨cl, A, -⟩, -⟩ := F; exact ne_arr E w A
/-- an Object[] of the length n -/
def own_len (Z : State) (h : Heap) (a : Addr) (n : Int32) : Prop := ∃ cl : Cell, Arr Z h a cl (.object "java/lang/Object") ∧ cl.slots.size.toInt32 = n
theorem own_len.keep {Z : State} {h h' : Heap} {a : Addr} {n : Int32} {ws : List Addr} (F : own_len Z h a n) (K : Keep h h' ws) : own_len Z h' a n := by
  obtain ⟨cl, ⟨h1, h2, h3⟩, r⟩ := F
  obtain ⟨c', q, e1, e2, e3⟩ := K.2.2 _ _ h1
  exact ⟨c', ⟨q, ⟨by rw [e2]; exact h2.1, by rw [e1]; exact h2.2⟩, by rw [e2]; exact h3⟩, by rw [e3]; exact r⟩
theorem own_len.ext {Z : State} {h h' : Heap} {a : Addr} {n : Int32} (F : own_len Z h a n) (E : Ext h h') : own_len Z h' a n := by obtain ⟨cl, A, r⟩ := F; exact ⟨cl, A.ext E, r⟩
theorem own_Ar.len {Z : State} {h : Heap} {a : Addr} {k : ClassId} {z : Int32} {vs : List Value} (F : own_Ar Z h a k z vs) : own_len Z h a z := by obtain ⟨⟨cl, A, -, S, M, -⟩, -⟩ := F; exact ⟨cl, A, len_of S M⟩
/-- the array under a list of n elements, each of them w -/
def own_Vs (Z : State) (h : Heap) (a w : Addr) (n : Int32) : Prop := (n = 0 ∧ own_len Z h a 0) ∨ (n = 1 ∧ ∃ k, own_Ar Z h a k 10 [(.ref w), .null, .null, .null, .null, .null, .null, .null, .null, .null] ∧ Exa Z h w "com/example/skyroster/skyroster/UsedWindow")
theorem own_Vs.ext {Z : State} {h h' : Heap} {a w : Addr} {n : Int32} (F : own_Vs Z h a w n) (E : Ext h h') : own_Vs Z h' a w n := by
  rcases F with ⟨q, A⟩ | ⟨q, k, A, E9⟩
  · exact Or.inl ⟨q, A.ext E⟩
  · exact Or.inr (⟨q, k, A.ext E, E9.ext E⟩)
theorem own_Vs.keep {Z : State} {h h' : Heap} {a w : Addr} {n : Int32} {ws : List Addr} (F : own_Vs Z h a w n) (K : Keep h h' ws) (r : a ∉ ws) : own_Vs Z h' a w n := by
  rcases F with ⟨q, A⟩ | ⟨q, k, A, E9⟩
  · exact Or.inl ⟨q, A.keep K⟩
  · exact Or.inr (⟨q, k, A.keep K r, E9.keep K⟩)
theorem own_Vs.other {Z : State} {h h' : Heap} {a b w : Addr} {n : Int32} {sl : Nat} {v : Value} (F : own_Vs Z h a w n) (W : Wr h h' b sl v) (q : a ≠ b) : own_Vs Z h' a w n := F.keep (Keep.of_wr W) (ninS q nin0)
theorem own_Vs.lenn {Z : State} {h : Heap} {a w : Addr} {n : Int32} (F : own_Vs Z h a w n) : ∃ z, own_len Z h a z := by
  rcases F with ⟨q, A⟩ | ⟨q, k, A, E9⟩
  · exact ⟨_, A⟩
  all_goals exact ⟨_, A.len⟩
theorem own_Vs.lt {Z : State} {h : Heap} {a w : Addr} {n : Int32} (F : own_Vs Z h a w n) : a < h.size := by obtain ⟨z, cl, A, -⟩ := F.lenn; exact A.lt
theorem own_Vs.ne {Z : State} {h : Heap} {a x w : Addr} {z : Int32} {C : String} {a0 : Array Value} {n : Nat} (E : Exa Z h x C) (F : own_Vs Z h a w z) (i : (Jvm.Cond.instantiable C n).before a0 Z = true) : x ≠ a := by obtain ⟨z, cl, A, -⟩ := F.lenn; exact ne_arr E i A
def own_AL (Z : State) (h : Heap) (a el : Addr) (n mc : Int32) : Prop := Exa Z h a "java/util/ArrayList" ∧ Fld Z h a "java/util/AbstractList" "modCount" "I" (.int mc) ∧ Fld Z h a "java/util/ArrayList" "elementData" "[Ljava/lang/Object;" (.ref el) ∧ Fld Z h a "java/util/ArrayList" "size" "I" (.int n)
/-- a list that copyOf made, of the size n -/
def own_SZ (Z : State) (h : Heap) (a em : Addr) (n : Int32) : Prop := (Exa Z h a "java/util/ImmutableCollections$ListN" ∧ ∃ e, Fld Z h a "java/util/ImmutableCollections$ListN" "elements" "[Ljava/lang/Object;" (.ref e) ∧ own_len Z h e n) ∨ (Exa Z h a "java/util/ImmutableCollections$List12" ∧ ∃ e, Fld Z h a "java/util/ImmutableCollections$List12" "e1" "Ljava/lang/Object;" (.ref e) ∧ ((n = 1 ∧ e = em) ∨ (n = 2 ∧ ¬ e = em)))
theorem own_SZ.keep {Z : State} {h h' : Heap} {a em : Addr} {n : Int32} {ws : List Addr} (F : own_SZ Z h a em n) (K : Keep h h' ws) (r : a ∉ ws) : own_SZ Z h' a em n := by
  rcases F with ⟨E, x, G, A⟩ | ⟨E, x, G, q⟩
  · exact Or.inl ⟨E.keep K, x, G.keep K r, A.keep K⟩
  · exact Or.inr ⟨E.keep K, x, G.keep K r, q⟩
theorem own_SZ.ext {Z : State} {h h' : Heap} {a em : Addr} {n : Int32} (F : own_SZ Z h a em n) (X : Ext h h') : own_SZ Z h' a em n := by
  rcases F with ⟨E, x, G, A⟩ | ⟨E, x, G, q⟩
  · exact Or.inl ⟨E.ext X, x, G.ext X, A.ext X⟩
  · exact Or.inr ⟨E.ext X, x, G.ext X, q⟩
theorem own_SZ.other {Z : State} {h h' : Heap} {a b em : Addr} {n : Int32} {sl : Nat} {v : Value} (F : own_SZ Z h a em n) (W : Wr h h' b sl v) (q : a ≠ b) : own_SZ Z h' a em n := F.keep (Keep.of_wr W) (ninS q nin0)
theorem own_SZ.lt {Z : State} {h : Heap} {a em : Addr} {n : Int32} (F : own_SZ Z h a em n) : a < h.size := by rcases F with ⟨E, -⟩ | ⟨E, -⟩ <;> exact E.lt
theorem own_SZ.ne {Z : State} {h : Heap} {a x em : Addr} {n : Int32} {C : String} (E : Exa Z h x C) (F : own_SZ Z h a em n) (q1 : C ≠ "java/util/ImmutableCollections$ListN") (q2 : C ≠ "java/util/ImmutableCollections$List12") : x ≠ a := by
  rcases F with ⟨G, -⟩ | ⟨G, -⟩
  · exact Exa.ne E G q1
  · exact Exa.ne E G q2
/-- the Class object of Object[] -/
def own_Mi (Z : State) (mr : Addr) : Prop := ∃ (c : ClassId) (k : Class), Z.vm.findClass "[Ljava/lang/Object;" = some c ∧ Z.vm.classes[c]? = some k ∧ k.mirror = some mr
/-- what lies there before the law: the collections' own constants -/
def own_St (Z : State) (dd lz ez em mr : Addr) : Prop := Sta Z Z.heap "java/util/ArrayList" "DEFAULTCAPACITY_EMPTY_ELEMENTDATA" "[Ljava/lang/Object;" (.ref dd) ∧ own_len Z Z.heap dd 0 ∧ Sta Z Z.heap "java/util/ImmutableCollections" "EMPTY_LIST" "Ljava/util/ImmutableCollections$ListN;" (.ref lz) ∧ Exa Z Z.heap lz "java/util/ImmutableCollections$ListN" ∧ Fld Z Z.heap lz "java/util/ImmutableCollections$ListN" "elements" "[Ljava/lang/Object;" (.ref ez) ∧ own_len Z Z.heap ez 0 ∧ Sta Z Z.heap "java/util/ImmutableCollections" "EMPTY" "Ljava/lang/Object;" (.ref em) ∧ Exa Z Z.heap em "java/lang/Object" ∧ own_Mi Z mr
theorem own_mvMN {Z s : State} {a0 args : Array Value} {own host : String} {index : Nat} {y : MethodName} (hZ : Z.Warmed39 s.vm) (w : (Jvm.Cond.methodLinkNest own index y host).before a0 Z = true) : (Jvm.Cond.methodLinkNest own index y host).before args s = true := (Cond.methodLinkNest_wide hZ w :)
theorem own_noI {Z : State} {a0 : Array Value} {K : String} {n : Nat} (w1 : (Jvm.Cond.superclass "java/util/ArrayList" "java/util/AbstractList").before a0 Z = true) (w2 : (Jvm.Cond.superclass "java/util/AbstractList" "java/util/AbstractCollection").before a0 Z = true) (w3 : (Jvm.Cond.superclass "java/util/AbstractCollection" "java/lang/Object").before a0 Z = true) (w4 : (Jvm.Cond.noSuperclass "java/lang/Object").before a0 Z = true) (w5 : (Jvm.Cond.instantiable K n).before a0 Z = true)
    (hn : K ∉ ["java/util/ArrayList", "java/util/AbstractList", "java/util/AbstractCollection", "java/lang/Object"]) : ∃ c t, Z.vm.findClass "java/util/ArrayList" = some c ∧ Z.vm.findClass K = some t ∧ Z.vm.assignable c t = false := by
  obtain ⟨t, k, h1, h2, h3, h4, -⟩ := Cond.instantiable_spec w5
  obtain ⟨c, hc⟩ := found_sup w1
  refine ⟨c, t, hc, h1, Vm.notAssignable_of_chain (args := a0) (t := ["java/util/AbstractList", "java/util/AbstractCollection", "java/lang/Object"]) hc h1 h2 h3 (by simp only [Bool.or_eq_false_iff] at h4; exact h4.1) ?_ hn⟩
  intro w hm
  simp only [Cond.chainWords, List.mem_cons, List.not_mem_nil, or_false] at hm
  rcases hm with rfl | rfl | rfl | rfl
  · exact w1
  · exact w2
  · exact w3
  · exact w4
theorem own_noF {Z : State} {a0 : Array Value} {K : String} {xi : MethodName} {n d : String} (w1 : (Jvm.Cond.superclass "java/util/ArrayList" "java/util/AbstractList").before a0 Z = true) (w2 : (Jvm.Cond.superclass "java/util/AbstractList" "java/util/AbstractCollection").before a0 Z = true) (w3 : (Jvm.Cond.superclass "java/util/AbstractCollection" "java/lang/Object").before a0 Z = true) (w4 : (Jvm.Cond.noSuperclass "java/lang/Object").before a0 Z = true) (w5 : (Jvm.Cond.selects K xi ⟨K, n, d⟩).before a0 Z = true)
    (hn : K ∉ ["java/util/ArrayList", "java/util/AbstractList", "java/util/AbstractCollection", "java/lang/Object"]) : ∃ c t, Z.vm.findClass "java/util/ArrayList" = some c ∧ Z.vm.findClass K = some t ∧ Z.vm.assignable c t = false := by
  obtain ⟨t, r, m, h1, -, h3, -, k, h4, h5⟩ := Cond.selects_spec w5
  have h6 : t = m.cls := Option.some.inj (h1.symm.trans (findClass_of_methodNamed h3))
  subst h6
  obtain ⟨c, hc⟩ := found_sup w1
  have hw : ∀ w ∈ Cond.chainWords ["java/util/ArrayList", "java/util/AbstractList", "java/util/AbstractCollection", "java/lang/Object"], w.before a0 Z = true := by
    intro w hm
    simp only [Cond.chainWords, List.mem_cons, List.not_mem_nil, or_false] at hm
    rcases hm with rfl | rfl | rfl | rfl
    · exact w1
    · exact w2
    · exact w3
    · exact w4
  obtain ⟨c', k', g1, g2, g3, -⟩ := Cond.chain_head hw
  cases hc.symm.trans g1
  have hne : c ≠ m.cls := Vm.findClass_ne hc h1 (fun e => hn (by simp [← e]))
  have hs := Cond.chain_notSub h1 _ _ c hc hw hn
  refine ⟨c, _, hc, h1, ?_⟩
  show Z.vm.assignableAux (255 + 1) c m.cls = false
  cases hk : k.kind <;> simp [Vm.assignableAux, hne, g2, h4, g3, hk, h5, Vm.isSubclass, hs]
section OwnMir
variable {p : Program} {l : Launch} {e : Env} {R : Room} {s : State} {m : MethodId} {args : Array Value} {below : List Frame} {meth : Method} {c : Code} {T : State} {locs : List Loc} {cells slots : Nat} {Z : State} {h : Heap}
theorem own_ldcM (X : Stand p l e R s m args below meth c T locs cells slots) (hx : p.tables.exec = Jvm.exec) (hZ : Z.Warmed39 s.vm) {a0 : Array Value} {own : String} {index : Nat} (hown : s.vm.findClass own = some m.cls) (w : (Jvm.Cond.classLink own index "[Ljava/lang/Object;").before a0 Z = true) {mr : Addr} (M : own_Mi Z mr) (eT : T.heap = h)
    {g : JFrame} (hg : g.method = m) (hd : decode c.code g.pc = .ok (.ldc index, 2)) : ∃ T', Stand p l e R s m args below meth c T' locs cells slots ∧ T'.heap = h ∧ ∀ target, Steps p.tables e below (T'.setTop { g with pc := g.pc + 2, stack := .ref mr :: g.stack }) target → Steps p.tables e below (T.setTop g) target := by
  obtain ⟨cc, k, m1, m2, m3⟩ := M
  obtain ⟨k', q, ek⟩ := hZ.alike.2.2 _ _ m2
  have f1 : s.vm.findClass "[Ljava/lang/Object;" = some cc := by rw [hZ.alike.findClass]; exact m1
  have f3 : k'.mirror = some mr := by rw [ek]; exact m3
  obtain ⟨vm', X', st⟩ := X.ldcMirror hx hown (mvT hZ w) (a := mr) (by simp [Term.eval, f1, q, f3]) hg hd
  exact ⟨_, X', eT, st⟩
theorem own_gcls (X : Stand p l e R s m args below meth c T locs cells slots) (hx : p.tables.exec = Jvm.exec) (hZ : Z.Warmed39 s.vm) {a0 : Array Value} {own : String} {index : Nat} (hown : s.vm.findClass own = some m.cls)
    (w1 : (Jvm.Cond.methodLink own index Stand.gcN).before a0 Z = true) (w2 : (Jvm.Cond.declares Stand.gcN).before a0 Z = true) (w3 : (Jvm.Cond.noSuperclass "java/lang/Object").before a0 Z = true) (w4 : (Jvm.Cond.selects "[Ljava/lang/Object;" Stand.gcN Stand.gcN).before a0 Z = true) (w5 : (Jvm.Cond.instanceMethod Stand.gcN).before a0 Z = true) (w6 : (Jvm.Cond.native Stand.gcN).before a0 Z = true)
    (eT : T.heap = h) {a : Addr} (E : Exa Z h a "[Ljava/lang/Object;") {mr : Addr} (M : own_Mi Z mr) {g : JFrame} (hg : g.method = m) (hsize : g.locals.size = c.maxLocals) {rest : List Value} (hs : g.stack = .ref a :: rest) (hd : decode c.code g.pc = .ok (.invokevirtual index, 3)) (hf : 1 ≤ R.frames) {W : Nat} (hW : 2 * g.monitorRoom + (rest.map fun v => v.category).sum ≤ W) (hl : W + (nativeFrameWords "java/lang/Object" "getClass" 1 + 11) ≤ R.locals) :
    ∃ T', Stand p l e R s m args below meth c T' locs cells slots ∧ T'.heap = h ∧ ∀ target, Steps p.tables e below (T'.setTop { g with pc := g.pc + 3, stack := .ref mr :: rest }) target → Steps p.tables e below (T.setTop g) target := by
  obtain ⟨cB, kB, i1, i2, i3⟩ := isOf hZ eT E
  obtain ⟨cc, kc, m1, m2, m3⟩ := M
  have f1 : s.vm.findClass "[Ljava/lang/Object;" = some cc := by rw [hZ.alike.findClass]; exact m1
  obtain rfl : cB = cc := Option.some.inj (i1.symm.trans f1)
  obtain ⟨k', q, ek⟩ := hZ.alike.2.2 _ _ m2
  obtain ⟨vm', X', st⟩ := X.getClassOf hx hown (mvT hZ w1) (mvT hZ w2) (nf_top (args := #[]) (mvT hZ w3)) (mvT hZ w4) (mvT hZ w5) (mvT hZ w6) f1 i3 q (by rw [ek]; exact m3) hg hsize hs hd hf (by omega)
  exact ⟨_, X', eT, st⟩
end OwnMir
def own_mxI (a b : Int32) : Int32 := if a < b then b else a
def own_mnI (a b : Int32) : Int32 := if b < a then b else a
def own_zI (a : Int32) : Int32 := if a = 0 then 1 else 0
def own_CS (Z : State) (h : Heap) (a : Addr) (dc : UInt64) (u c : Int32) (ds co : UInt64) : Prop := Exa Z h a "com/example/skyroster/skyroster/CostShare" ∧ Fld Z h a "com/example/skyroster/skyroster/CostShare" "coefficient" "D" (.double dc) ∧ Fld Z h a "com/example/skyroster/skyroster/CostShare" "usedCount" "I" (.int u) ∧ Fld Z h a "com/example/skyroster/skyroster/CostShare" "taskCount" "I" (.int c) ∧ Fld Z h a "com/example/skyroster/skyroster/CostShare" "taskCostSum" "D" (.double ds) ∧ Fld Z h a "com/example/skyroster/skyroster/CostShare" "cost" "D" (.double co)
theorem own_retD {p : Program} {l : Launch} {e : Env} {R : Room} {s : State} {m : MethodId} {args : Array Value} {below : List Frame} {meth : Method} {c : Code} {T : State} {locs : List Loc} {cells slots : Nat} {K : State → Prop} (X : Stand p l e R s m args below meth c T locs cells slots) (hx : p.tables.exec = Jvm.exec) (hret : meth.sig.returnType = some .double) {pc : Nat} {Ls : Array Slot} {z : UInt64} {rest : List Value} (hd : decode c.code pc = .ok (.dreturn, 1)) (hq : own_Out e m K T (some (.double z))) : own_Go p.tables e below K (T.setTop (mkF m pc Ls (.double z :: rest))) := by
  obtain ⟨fs, hr, hk⟩ := hq
  exact ⟨_, retOut X hx hret rfl (Or.inr (Or.inr (Or.inl ⟨rfl, rfl, _, rfl⟩))) hd hr, hk⟩
def own_inc (dc : UInt64) (u cc : Int32) (ds d1 : UInt64) : UInt64 := FP.dmul dc (FP.dadd (FP.dmul (FP.l2d (cc + u + (1 : Int32)).toInt64) d1) ds)
def own_cst (dc : UInt64) (u cc : Int32) (s : UInt64) : UInt64 := FP.dmul (FP.dmul dc (FP.l2d (cc + u).toInt64)) s
theorem own_mm {K : Nat} {x : UInt64} (h : Jvm.Free.Fl.Mag64 K x) (hK : K ≤ 2047) : Jvm.Free.Fl.NoNaN64 x := (h.fin hK).noNaN
theorem own_cN {dc : UInt64} {u cc : Int32} {s : UInt64} (h1 : Jvm.Free.Fl.Mag64 1088 dc) (h2 : Jvm.Free.Fl.Mag64 1202 s) : Jvm.Free.Fl.NoNaN64 (FP.dmul dc (FP.l2d (cc + u).toInt64)) ∧ Jvm.Free.Fl.NoNaN64 (own_cst dc u cc s) := by
  have a := Jvm.Free.Fl.dmul_mag h1 (Jvm.Free.Fl.l2d_mag (cc + u).toInt64) (by decide) (by decide)
  exact ⟨own_mm a (by decide), own_mm (Jvm.Free.Fl.dmul_mag a h2 (by decide) (by decide)) (by decide)⟩
theorem own_iN {dc : UInt64} {u cc : Int32} {ds d1 : UInt64} (h1 : Jvm.Free.Fl.Mag64 1088 dc) (h2 : Jvm.Free.Fl.Mag64 1200 ds) (h3 : Jvm.Free.Fl.Mag64 1088 d1) : Jvm.Free.Fl.NoNaN64 (FP.dmul (FP.l2d (cc + u + (1 : Int32)).toInt64) d1) ∧ Jvm.Free.Fl.NoNaN64 (FP.dadd (FP.dmul (FP.l2d (cc + u + (1 : Int32)).toInt64) d1) ds) ∧ Jvm.Free.Fl.NoNaN64 (own_inc dc u cc ds d1) := by
  have a := Jvm.Free.Fl.dmul_mag (Jvm.Free.Fl.l2d_mag (cc + u + (1 : Int32)).toInt64) h3 (by decide) (by decide)
  have b := Jvm.Free.Fl.dadd_mag (K := 1200) (a.mono (by decide)) h2 (by decide)
  exact ⟨own_mm a (by decide), own_mm b (by decide), own_mm (Jvm.Free.Fl.dmul_mag h1 b (by decide) (by decide)) (by decide)⟩
theorem own_pn3 : plainName "java/util/AbstractCollection" = true := by first | (simp [plainName, overriddenIn]; done) | decide +kernel
theorem own_d3_0 : decode jdk_22_method_1_code 0 = .ok (.aload_n 0, 1) := by decide +kernel
theorem own_d3_1 : decode jdk_22_method_1_code 1 = .ok (.invokespecial 1, 3) := by decide +kernel
theorem own_d3_4 : decode jdk_22_method_1_code 4 = .ok (.return_, 1) := by decide +kernel
theorem own_efaci (m : MethodId) (a1 : Addr) : entryFrame m #[(.ref a1)] 1 = mkF m 0 #[.val (.ref a1)] [] := by first | (simp [entryFrame, mkF, argsToLocals, Value.category]; done) | rfl
def own_Qaci (Z : State) (a1 : Addr) (h0 : Heap) (n0 : Nat) (v : Option Value) (h : Heap) (L : List Loc) : Prop := v = none ∧ Fr n0 L ∧ h = h0
set_option maxRecDepth 65536 in
set_option maxHeartbeats 40000000 in
theorem own_rmaci (l : Launch) (Z : State) (aw : Array Value) (hw : ∀ d ∈ tables_1, d.before aw Z = true) (ws : List Jvm.Cond) (a1 : Addr) (h0 : Heap) (n0 : Nat) (Z0 : n0 ≤ h0.size)  :
    MetFree l (⟨"java/util/AbstractCollection", "<init>", "()V"⟩ : MethodName) (head1 (Jvm.Cond.code (⟨"java/util/AbstractCollection", "<init>", "()V"⟩ : MethodName) jdk_22_method_1_code 1 none :: ws) ({ frames := 1, cells := 0, slots := 0, locals := 12 } : Room)) (fun a U => a = #[(.ref a1)] ∧ Z.Warmed39 U.vm ∧ U.heap = h0) (fun _ _ _ _ _ => True) (fun _ U o U' => ∃ v L, o = .returned v ∧ own_Qaci Z a1 h0 n0 v U'.heap L ∧ FrameEnd U o U' L ({ frames := 1, cells := 0, slots := 0, locals := 12 } : Room).cells ({ frames := 1, cells := 0, slots := 0, locals := 12 } : Room).slots) := by
  refine own_met (Q := own_Qaci Z a1 h0 n0) (plainFor_of_name own_pn3) ?_
  intro p e s m below meth c s₁ K hx hby hml hown hnm hret hZ X0 e0 hK
  have hown : s.vm.findClass "java/util/AbstractCollection" = some m.cls := hown
  have hnm : meth.name = "<init>" := hnm
  have N0 := Fr.nil n0
  refine own_by (fun t k => castTop (own_efaci m a1) k) ?_
  show own_Go p.tables e below K (s₁.setTop (mkF m 0 #[.val (.ref a1)] []))
  refine own_by (fun t k => XS.aloadN X0.here hx rfl (hb hby own_d3_0) rfl rfl k) ?_
  show own_Go p.tables e below K (s₁.setTop (mkF m 1 #[.val (.ref a1)] [(.ref a1)]))
  obtain ⟨T1, X1, e1, st1⟩ := initO X0 hx hZ hown (hw _ (List.mem_of_getElem? (i := 18) rfl)) (hw _ (List.mem_of_getElem? (i := 19) rfl)) (hw _ (List.mem_of_getElem? (i := 20) rfl)) e0 (g := (mkF m 1 #[.val (.ref a1)] [(.ref a1)])) rfl (by rw [hml]; rfl) rfl (hb hby own_d3_1) (by decide) (W := 0) (by show 2 * 0 + _ ≤ _; exact Nat.le_of_eq rfl) (by decide)
  refine own_by st1 ?_
  show own_Go p.tables e below K (T1.setTop (mkF m 4 #[.val (.ref a1)] []))
  exact own_retV X1 hx hret (hb hby own_d3_4) (hK none X1 (fun _ => rfl) (⟨rfl, N0, e1⟩) (by decide) (by decide))
theorem own_pn6 : plainName "java/lang/Record" = true := by first | (simp [plainName, overriddenIn]; done) | decide +kernel
theorem own_d6_0 : decode jdk_30_method_1_code 0 = .ok (.aload_n 0, 1) := by decide +kernel
theorem own_d6_1 : decode jdk_30_method_1_code 1 = .ok (.invokespecial 1, 3) := by decide +kernel
theorem own_d6_4 : decode jdk_30_method_1_code 4 = .ok (.return_, 1) := by decide +kernel
theorem own_efrci (m : MethodId) (a1 : Addr) : entryFrame m #[(.ref a1)] 1 = mkF m 0 #[.val (.ref a1)] [] := by first | (simp [entryFrame, mkF, argsToLocals, Value.category]; done) | rfl
def own_Qrci (Z : State) (a1 : Addr) (h0 : Heap) (n0 : Nat) (v : Option Value) (h : Heap) (L : List Loc) : Prop := v = none ∧ Fr n0 L ∧ h = h0
set_option maxRecDepth 65536 in
set_option maxHeartbeats 40000000 in
theorem own_rmrci (l : Launch) (Z : State) (aw : Array Value) (hw : ∀ d ∈ tables_1, d.before aw Z = true) (ws : List Jvm.Cond) (a1 : Addr) (h0 : Heap) (n0 : Nat) (Z0 : n0 ≤ h0.size)  :
    MetFree l (⟨"java/lang/Record", "<init>", "()V"⟩ : MethodName) (head1 (Jvm.Cond.code (⟨"java/lang/Record", "<init>", "()V"⟩ : MethodName) jdk_30_method_1_code 1 none :: ws) ({ frames := 1, cells := 0, slots := 0, locals := 12 } : Room)) (fun a U => a = #[(.ref a1)] ∧ Z.Warmed39 U.vm ∧ U.heap = h0) (fun _ _ _ _ _ => True) (fun _ U o U' => ∃ v L, o = .returned v ∧ own_Qrci Z a1 h0 n0 v U'.heap L ∧ FrameEnd U o U' L ({ frames := 1, cells := 0, slots := 0, locals := 12 } : Room).cells ({ frames := 1, cells := 0, slots := 0, locals := 12 } : Room).slots) := by
  refine own_met (Q := own_Qrci Z a1 h0 n0) (plainFor_of_name own_pn6) ?_
  intro p e s m below meth c s₁ K hx hby hml hown hnm hret hZ X0 e0 hK
  have hown : s.vm.findClass "java/lang/Record" = some m.cls := hown
  have hnm : meth.name = "<init>" := hnm
  have N0 := Fr.nil n0
  refine own_by (fun t k => castTop (own_efrci m a1) k) ?_
  show own_Go p.tables e below K (s₁.setTop (mkF m 0 #[.val (.ref a1)] []))
  refine own_by (fun t k => XS.aloadN X0.here hx rfl (hb hby own_d6_0) rfl rfl k) ?_
  show own_Go p.tables e below K (s₁.setTop (mkF m 1 #[.val (.ref a1)] [(.ref a1)]))
  obtain ⟨T2, X2, e2, st2⟩ := initO X0 hx hZ hown (hw _ (List.mem_of_getElem? (i := 37) rfl)) (hw _ (List.mem_of_getElem? (i := 19) rfl)) (hw _ (List.mem_of_getElem? (i := 20) rfl)) e0 (g := (mkF m 1 #[.val (.ref a1)] [(.ref a1)])) rfl (by rw [hml]; rfl) rfl (hb hby own_d6_1) (by decide) (W := 0) (by show 2 * 0 + _ ≤ _; exact Nat.le_of_eq rfl) (by decide)
  refine own_by st2 ?_
  show own_Go p.tables e below K (T2.setTop (mkF m 4 #[.val (.ref a1)] []))
  exact own_retV X2 hx hret (hb hby own_d6_4) (hK none X2 (fun _ => rfl) (⟨rfl, N0, e2⟩) (by decide) (by decide))
theorem own_pd0 : parseMethodDescriptor "()V" = some ⟨[], none⟩ := by decide +kernel
theorem own_pn24 : plainName "java/util/ImmutableCollections$AbstractImmutableCollection" = true := by first | (simp [plainName, overriddenIn]; done) | decide +kernel
theorem own_d24_0 : decode jdk_47_method_1_code 0 = .ok (.aload_n 0, 1) := by decide +kernel
theorem own_d24_1 : decode jdk_47_method_1_code 1 = .ok (.invokespecial 1, 3) := by decide +kernel
theorem own_d24_4 : decode jdk_47_method_1_code 4 = .ok (.return_, 1) := by decide +kernel
theorem own_efaic (m : MethodId) (a1 : Addr) : entryFrame m #[(.ref a1)] 1 = mkF m 0 #[.val (.ref a1)] [] := by first | (simp [entryFrame, mkF, argsToLocals, Value.category]; done) | rfl
def own_Qaic (Z : State) (a1 : Addr) (h0 : Heap) (n0 : Nat) (v : Option Value) (h : Heap) (L : List Loc) : Prop := v = none ∧ Fr n0 L ∧ h = h0
set_option maxRecDepth 65536 in
set_option maxHeartbeats 40000000 in
theorem own_rmaic (l : Launch) (Z : State) (aw : Array Value) (hw : ∀ d ∈ tables_1, d.before aw Z = true) (ws : List Jvm.Cond) (a1 : Addr) (h0 : Heap) (n0 : Nat) (Z0 : n0 ≤ h0.size)  :
    MetFree l (⟨"java/util/ImmutableCollections$AbstractImmutableCollection", "<init>", "()V"⟩ : MethodName) (head1 (Jvm.Cond.code (⟨"java/util/ImmutableCollections$AbstractImmutableCollection", "<init>", "()V"⟩ : MethodName) jdk_47_method_1_code 1 none :: ws) ({ frames := 2, cells := 0, slots := 0, locals := 24 } : Room)) (fun a U => a = #[(.ref a1)] ∧ Z.Warmed39 U.vm ∧ U.heap = h0) (fun _ _ _ _ _ => True) (fun _ U o U' => ∃ v L, o = .returned v ∧ own_Qaic Z a1 h0 n0 v U'.heap L ∧ FrameEnd U o U' L ({ frames := 2, cells := 0, slots := 0, locals := 24 } : Room).cells ({ frames := 2, cells := 0, slots := 0, locals := 24 } : Room).slots) := by
  refine own_met (Q := own_Qaic Z a1 h0 n0) (plainFor_of_name own_pn24) ?_
  intro p e s m below meth c s₁ K hx hby hml hown hnm hret hZ X0 e0 hK
  have hown : s.vm.findClass "java/util/ImmutableCollections$AbstractImmutableCollection" = some m.cls := hown
  have hnm : meth.name = "<init>" := hnm
  have N0 := Fr.nil n0
  refine own_by (fun t k => castTop (own_efaic m a1) k) ?_
  show own_Go p.tables e below K (s₁.setTop (mkF m 0 #[.val (.ref a1)] []))
  refine own_by (fun t k => XS.aloadN X0.here hx rfl (hb hby own_d24_0) rfl rfl k) ?_
  show own_Go p.tables e below K (s₁.setTop (mkF m 1 #[.val (.ref a1)] [(.ref a1)]))
  obtain ⟨_, _, ⟨T3, L3, k3, n3⟩, -, X3, ⟨Lc3, hQ3, l3, y3, z3⟩, st3⟩ := X0.specialBack hx (y := (⟨"java/util/AbstractCollection", "<init>", "()V"⟩ : MethodName)) rfl hown (mvT hZ (hw _ (List.mem_of_getElem? (i := 170) rfl))) (mvT hZ (hw _ (List.mem_of_getElem? (i := 13) rfl))) (mvT hZ (hw _ (List.mem_of_getElem? (i := 17) rfl))) (by decide) (backOf (W := 0) (own_rmaci l Z aw hw [] a1 h0 n0 Z0) hZ (hw _ (List.mem_of_getElem? (i := 17) rfl)) (hw _ (List.mem_of_getElem? (i := 16) rfl)) (by decide) (by decide)) (g := (mkF m 1 #[.val (.ref a1)] [(.ref a1)])) rfl (by rw [hml]; rfl) (Steps.refl _) (a := a1) (argsL := []) (rest := []) (lenOf own_pd0 rfl) rfl (by show 2 * 0 + _ ≤ _; exact Nat.le_of_eq rfl) (hb hby own_d24_1) (fun _ _ => ⟨rfl, e0, (by decide : 0 + 0 ≤ _), (by decide : 0 + 0 ≤ _)⟩)
  dsimp only [Pt.U, Pt.locs, Pt.cells, Pt.slots] at X3 l3 y3 z3 st3 hQ3
  subst l3 y3 z3
  obtain ⟨rfl, N3q, e3⟩ := hQ3
  have N3 := Fr.app N0 N3q
  refine own_by (fun t k => st3.trans k) ?_
  show own_Go p.tables e below K (T3.setTop (mkF m 4 #[.val (.ref a1)] []))
  exact own_retV X3 hx hret (hb hby own_d24_4) (hK none X3 (fun _ => rfl) (⟨rfl, N3, e3⟩) (by decide) (by decide))
theorem own_pn23 : plainName "java/util/ImmutableCollections$AbstractImmutableList" = true := by first | (simp [plainName, overriddenIn]; done) | decide +kernel
theorem own_d23_0 : decode jdk_46_method_1_code 0 = .ok (.aload_n 0, 1) := by decide +kernel
theorem own_d23_1 : decode jdk_46_method_1_code 1 = .ok (.invokespecial 1, 3) := by decide +kernel
theorem own_d23_4 : decode jdk_46_method_1_code 4 = .ok (.return_, 1) := by decide +kernel
theorem own_efail (m : MethodId) (a1 : Addr) : entryFrame m #[(.ref a1)] 1 = mkF m 0 #[.val (.ref a1)] [] := by first | (simp [entryFrame, mkF, argsToLocals, Value.category]; done) | rfl
def own_Qail (Z : State) (a1 : Addr) (h0 : Heap) (n0 : Nat) (v : Option Value) (h : Heap) (L : List Loc) : Prop := v = none ∧ Fr n0 L ∧ h = h0
set_option maxRecDepth 65536 in
set_option maxHeartbeats 40000000 in
theorem own_rmail (l : Launch) (Z : State) (aw : Array Value) (hw : ∀ d ∈ tables_1, d.before aw Z = true) (ws : List Jvm.Cond) (a1 : Addr) (h0 : Heap) (n0 : Nat) (Z0 : n0 ≤ h0.size)  :
    MetFree l (⟨"java/util/ImmutableCollections$AbstractImmutableList", "<init>", "()V"⟩ : MethodName) (head1 (Jvm.Cond.code (⟨"java/util/ImmutableCollections$AbstractImmutableList", "<init>", "()V"⟩ : MethodName) jdk_46_method_1_code 1 none :: ws) ({ frames := 3, cells := 0, slots := 0, locals := 36 } : Room)) (fun a U => a = #[(.ref a1)] ∧ Z.Warmed39 U.vm ∧ U.heap = h0) (fun _ _ _ _ _ => True) (fun _ U o U' => ∃ v L, o = .returned v ∧ own_Qail Z a1 h0 n0 v U'.heap L ∧ FrameEnd U o U' L ({ frames := 3, cells := 0, slots := 0, locals := 36 } : Room).cells ({ frames := 3, cells := 0, slots := 0, locals := 36 } : Room).slots) := by
  refine own_met (Q := own_Qail Z a1 h0 n0) (plainFor_of_name own_pn23) ?_
  intro p e s m below meth c s₁ K hx hby hml hown hnm hret hZ X0 e0 hK
  have hown : s.vm.findClass "java/util/ImmutableCollections$AbstractImmutableList" = some m.cls := hown
  have hnm : meth.name = "<init>" := hnm
  have N0 := Fr.nil n0
  refine own_by (fun t k => castTop (own_efail m a1) k) ?_
  show own_Go p.tables e below K (s₁.setTop (mkF m 0 #[.val (.ref a1)] []))
  refine own_by (fun t k => XS.aloadN X0.here hx rfl (hb hby own_d23_0) rfl rfl k) ?_
  show own_Go p.tables e below K (s₁.setTop (mkF m 1 #[.val (.ref a1)] [(.ref a1)]))
  obtain ⟨_, _, ⟨T4, L4, k4, n4⟩, -, X4, ⟨Lc4, hQ4, l4, y4, z4⟩, st4⟩ := X0.specialBack hx (y := (⟨"java/util/ImmutableCollections$AbstractImmutableCollection", "<init>", "()V"⟩ : MethodName)) rfl hown (mvT hZ (hw _ (List.mem_of_getElem? (i := 164) rfl))) (mvT hZ (hw _ (List.mem_of_getElem? (i := 165) rfl))) (mvT hZ (hw _ (List.mem_of_getElem? (i := 169) rfl))) (by decide) (backOf (W := 0) (own_rmaic l Z aw hw [] a1 h0 n0 Z0) hZ (hw _ (List.mem_of_getElem? (i := 169) rfl)) (hw _ (List.mem_of_getElem? (i := 168) rfl)) (by decide) (by decide)) (g := (mkF m 1 #[.val (.ref a1)] [(.ref a1)])) rfl (by rw [hml]; rfl) (Steps.refl _) (a := a1) (argsL := []) (rest := []) (lenOf own_pd0 rfl) rfl (by show 2 * 0 + _ ≤ _; exact Nat.le_of_eq rfl) (hb hby own_d23_1) (fun _ _ => ⟨rfl, e0, (by decide : 0 + 0 ≤ _), (by decide : 0 + 0 ≤ _)⟩)
  dsimp only [Pt.U, Pt.locs, Pt.cells, Pt.slots] at X4 l4 y4 z4 st4 hQ4
  subst l4 y4 z4
  obtain ⟨rfl, N4q, e4⟩ := hQ4
  have N4 := Fr.app N0 N4q
  refine own_by (fun t k => st4.trans k) ?_
  show own_Go p.tables e below K (T4.setTop (mkF m 4 #[.val (.ref a1)] []))
  exact own_retV X4 hx hret (hb hby own_d23_4) (hK none X4 (fun _ => rfl) (⟨rfl, N4, e4⟩) (by decide) (by decide))
theorem own_pn2 : plainName "java/util/AbstractList" = true := by first | (simp [plainName, overriddenIn]; done) | decide +kernel
theorem own_d2_0 : decode jdk_39_method_1_code 0 = .ok (.aload_n 0, 1) := by decide +kernel
theorem own_d2_1 : decode jdk_39_method_1_code 1 = .ok (.invokespecial 1, 3) := by decide +kernel
theorem own_d2_4 : decode jdk_39_method_1_code 4 = .ok (.aload_n 0, 1) := by decide +kernel
theorem own_d2_5 : decode jdk_39_method_1_code 5 = .ok (.iconst 0, 1) := by decide +kernel
theorem own_d2_6 : decode jdk_39_method_1_code 6 = .ok (.putfield 7, 3) := by decide +kernel
theorem own_d2_9 : decode jdk_39_method_1_code 9 = .ok (.return_, 1) := by decide +kernel
theorem own_efali (m : MethodId) (a1 : Addr) : entryFrame m #[(.ref a1)] 1 = mkF m 0 #[.val (.ref a1)] [] := by first | (simp [entryFrame, mkF, argsToLocals, Value.category]; done) | rfl
def own_Qali (Z : State) (a1 : Addr)  (h0 : Heap) (n0 : Nat) (v : Option Value) (h : Heap) (L : List Loc) : Prop := v = none ∧ Fr n0 L ∧ Keep h0 h [a1] ∧ Exa Z h a1 "java/util/ArrayList" ∧ Fld Z h a1 "java/util/AbstractList" "modCount" "I" (.int 0) ∧ Fld Z h a1 "java/util/ArrayList" "elementData" "[Ljava/lang/Object;" .null ∧ Fld Z h a1 "java/util/ArrayList" "size" "I" (.int 0)
set_option maxRecDepth 65536 in
set_option maxHeartbeats 40000000 in
theorem own_rmali (l : Launch) (Z : State) (aw : Array Value) (hw : ∀ d ∈ tables_1, d.before aw Z = true) (ws : List Jvm.Cond) (a1 : Addr)  (h0 : Heap) (n0 : Nat) (Z0 : n0 ≤ h0.size) (E0 : Exa Z h0 a1 "java/util/ArrayList") (ga : n0 ≤ a1) (F0_modCount : Fld Z h0 a1 "java/util/AbstractList" "modCount" "I" (.int (0 : Int32))) (F0_elementData : Fld Z h0 a1 "java/util/ArrayList" "elementData" "[Ljava/lang/Object;" .null) (F0_size : Fld Z h0 a1 "java/util/ArrayList" "size" "I" (.int (0 : Int32)))  :
    MetFree l (⟨"java/util/AbstractList", "<init>", "()V"⟩ : MethodName) (head1 (Jvm.Cond.code (⟨"java/util/AbstractList", "<init>", "()V"⟩ : MethodName) jdk_39_method_1_code 1 none :: ws) ({ frames := 2, cells := 0, slots := 0, locals := 24 } : Room)) (fun a U => a = #[(.ref a1)] ∧ Z.Warmed39 U.vm ∧ U.heap = h0) (fun _ _ _ _ _ => True) (fun _ U o U' => ∃ v L, o = .returned v ∧ own_Qali Z a1 h0 n0 v U'.heap L ∧ FrameEnd U o U' L ({ frames := 2, cells := 0, slots := 0, locals := 24 } : Room).cells ({ frames := 2, cells := 0, slots := 0, locals := 24 } : Room).slots) := by
  refine own_met (Q := own_Qali Z a1 h0 n0) (plainFor_of_name own_pn2) ?_
  intro p e s m below meth c s₁ K hx hby hml hown hnm hret hZ X0 e0 hK
  have hown : s.vm.findClass "java/util/AbstractList" = some m.cls := hown
  have hnm : meth.name = "<init>" := hnm
  have N0 := Fr.nil n0
  refine own_by (fun t k => castTop (own_efali m a1) k) ?_
  show own_Go p.tables e below K (s₁.setTop (mkF m 0 #[.val (.ref a1)] []))
  refine own_by (fun t k => XS.aloadN X0.here hx rfl (hb hby own_d2_0) rfl rfl k) ?_
  show own_Go p.tables e below K (s₁.setTop (mkF m 1 #[.val (.ref a1)] [(.ref a1)]))
  obtain ⟨_, _, ⟨T5, L5, k5, n5⟩, -, X5, ⟨Lc5, hQ5, l5, y5, z5⟩, st5⟩ := X0.specialBack hx (y := (⟨"java/util/AbstractCollection", "<init>", "()V"⟩ : MethodName)) rfl hown (mvT hZ (hw _ (List.mem_of_getElem? (i := 12) rfl))) (mvT hZ (hw _ (List.mem_of_getElem? (i := 13) rfl))) (mvT hZ (hw _ (List.mem_of_getElem? (i := 17) rfl))) (by decide) (backOf (W := 0) (own_rmaci l Z aw hw [] a1 h0 n0 Z0) hZ (hw _ (List.mem_of_getElem? (i := 17) rfl)) (hw _ (List.mem_of_getElem? (i := 16) rfl)) (by decide) (by decide)) (g := (mkF m 1 #[.val (.ref a1)] [(.ref a1)])) rfl (by rw [hml]; rfl) (Steps.refl _) (a := a1) (argsL := []) (rest := []) (lenOf own_pd0 rfl) rfl (by show 2 * 0 + _ ≤ _; exact Nat.le_of_eq rfl) (hb hby own_d2_1) (fun _ _ => ⟨rfl, e0, (by decide : 0 + 0 ≤ _), (by decide : 0 + 0 ≤ _)⟩)
  dsimp only [Pt.U, Pt.locs, Pt.cells, Pt.slots] at X5 l5 y5 z5 st5 hQ5
  subst l5 y5 z5
  obtain ⟨rfl, N5q, e5⟩ := hQ5
  have N5 := Fr.app N0 N5q
  refine own_by (fun t k => st5.trans k) ?_
  show own_Go p.tables e below K (T5.setTop (mkF m 4 #[.val (.ref a1)] []))
  refine own_by (fun t k => XS.aloadN X5.here hx rfl (hb hby own_d2_4) rfl rfl k) ?_
  show own_Go p.tables e below K (T5.setTop (mkF m 5 #[.val (.ref a1)] [(.ref a1)]))
  refine own_by (fun t k => XS.iconst X5.here hx rfl (hb hby own_d2_5) k) ?_
  show own_Go p.tables e below K (T5.setTop (mkF m 6 #[.val (.ref a1)] [(.int (0 : Int32)), (.ref a1)]))
  obtain ⟨T6, h6, X6, e6, W6, st6⟩ := putF X5 hx hZ hown (host := "") (Or.inl (hw _ (List.mem_of_getElem? (i := 21) rfl))) Via.refl e5 F0_modCount E0 (Or.inl (hw _ (List.mem_of_getElem? (i := 22) rfl))) (hw _ (List.mem_of_getElem? (i := 1) rfl)) (ty := .int) (by decide) rfl rfl (g := (mkF m 6 #[.val (.ref a1)] [(.int (0 : Int32)), (.ref a1)])) rfl rfl (hb hby own_d2_6)
  refine own_by st6 ?_
  have F6_modCount_a1 := F0_modCount.same W6
  have F6_elementData_a1 := F0_elementData.other W6 (Or.inr (slot_ne (Or.inl (hw _ (List.mem_of_getElem? (i := 25) rfl))) (Or.inl (hw _ (List.mem_of_getElem? (i := 22) rfl))) (by decide) (t := (.array (.object "java/lang/Object"))) (t' := .int) (by decide) (by decide)))
  have F6_size_a1 := F0_size.other W6 (Or.inr (slot_ne (Or.inl (hw _ (List.mem_of_getElem? (i := 52) rfl))) (Or.inl (hw _ (List.mem_of_getElem? (i := 22) rfl))) (by decide) (t := .int) (t' := .int) (by decide) (by decide)))
  have Ex6_a1 := E0.wr W6
  have K6 := (Keep.refl h0 [a1]).wr W6 (Or.inl (by simp))
  have Z6 := Nat.le_trans Z0 (Keep.of_wr W6).1
  have N6 := Fr.snoc X6 N5 ga
  show own_Go p.tables e below K (T6.setTop (mkF m 9 #[.val (.ref a1)] []))
  exact own_retV X6 hx hret (hb hby own_d2_9) (hK none X6 (fun _ => rfl) (by rw [e6]; exact ⟨rfl, N6, K6, Ex6_a1, F6_modCount_a1, F6_elementData_a1, F6_size_a1⟩) (by decide) (by decide))
theorem own_pn1 : plainName "java/util/ArrayList" = true := by first | (simp [plainName, overriddenIn]; done) | decide +kernel
theorem own_d1_0 : decode jdk_38_method_2_code 0 = .ok (.aload_n 0, 1) := by decide +kernel
theorem own_d1_1 : decode jdk_38_method_2_code 1 = .ok (.invokespecial 1, 3) := by decide +kernel
theorem own_d1_4 : decode jdk_38_method_2_code 4 = .ok (.aload_n 0, 1) := by decide +kernel
theorem own_d1_5 : decode jdk_38_method_2_code 5 = .ok (.getstatic 39, 3) := by decide +kernel
theorem own_d1_8 : decode jdk_38_method_2_code 8 = .ok (.putfield 9, 3) := by decide +kernel
theorem own_d1_11 : decode jdk_38_method_2_code 11 = .ok (.return_, 1) := by decide +kernel
theorem own_efaln (m : MethodId) (a1 : Addr) : entryFrame m #[(.ref a1)] 1 = mkF m 0 #[.val (.ref a1)] [] := by first | (simp [entryFrame, mkF, argsToLocals, Value.category]; done) | rfl
def own_Qaln (Z : State) (a1 : Addr) (dd : Addr) (lz : Addr) (ez : Addr) (em : Addr) (mr : Addr) (h0 : Heap) (n0 : Nat) (v : Option Value) (h : Heap) (L : List Loc) : Prop := v = none ∧ Fr n0 L ∧ Keep h0 h [a1] ∧ own_AL Z h a1 dd 0 0
set_option maxRecDepth 65536 in
set_option maxHeartbeats 40000000 in
theorem own_rmaln (l : Launch) (Z : State) (aw : Array Value) (hw : ∀ d ∈ tables_1, d.before aw Z = true) (ws : List Jvm.Cond) (a1 : Addr) (dd : Addr) (lz : Addr) (ez : Addr) (em : Addr) (mr : Addr) (h0 : Heap) (n0 : Nat) (Z0 : n0 ≤ h0.size) (E0 : Exa Z h0 a1 "java/util/ArrayList") (ga : n0 ≤ a1) (F0_modCount : Fld Z h0 a1 "java/util/AbstractList" "modCount" "I" (.int (0 : Int32))) (F0_elementData : Fld Z h0 a1 "java/util/ArrayList" "elementData" "[Ljava/lang/Object;" .null) (F0_size : Fld Z h0 a1 "java/util/ArrayList" "size" "I" (.int (0 : Int32))) (O0 : Old Z n0 h0) (S0 : own_St Z dd lz ez em mr) :
    MetFree l (⟨"java/util/ArrayList", "<init>", "()V"⟩ : MethodName) (head1 (Jvm.Cond.code (⟨"java/util/ArrayList", "<init>", "()V"⟩ : MethodName) jdk_38_method_2_code 1 none :: ws) ({ frames := 3, cells := 0, slots := 0, locals := 36 } : Room)) (fun a U => a = #[(.ref a1)] ∧ Z.Warmed39 U.vm ∧ U.heap = h0) (fun _ _ _ _ _ => True) (fun _ U o U' => ∃ v L, o = .returned v ∧ own_Qaln Z a1 dd lz ez em mr h0 n0 v U'.heap L ∧ FrameEnd U o U' L ({ frames := 3, cells := 0, slots := 0, locals := 36 } : Room).cells ({ frames := 3, cells := 0, slots := 0, locals := 36 } : Room).slots) := by
  refine own_met (Q := own_Qaln Z a1 dd lz ez em mr h0 n0) (plainFor_of_name own_pn1) ?_
  intro p e s m below meth c s₁ K hx hby hml hown hnm hret hZ X0 e0 hK
  have hown : s.vm.findClass "java/util/ArrayList" = some m.cls := hown
  have hnm : meth.name = "<init>" := hnm
  have N0 := Fr.nil n0
  refine own_by (fun t k => castTop (own_efaln m a1) k) ?_
  show own_Go p.tables e below K (s₁.setTop (mkF m 0 #[.val (.ref a1)] []))
  refine own_by (fun t k => XS.aloadN X0.here hx rfl (hb hby own_d1_0) rfl rfl k) ?_
  show own_Go p.tables e below K (s₁.setTop (mkF m 1 #[.val (.ref a1)] [(.ref a1)]))
  obtain ⟨_, _, ⟨T7, L7, k7, n7⟩, -, X7, ⟨Lc7, hQ7, l7, y7, z7⟩, st7⟩ := X0.specialBack hx (y := (⟨"java/util/AbstractList", "<init>", "()V"⟩ : MethodName)) rfl hown (mvT hZ (hw _ (List.mem_of_getElem? (i := 6) rfl))) (mvT hZ (hw _ (List.mem_of_getElem? (i := 7) rfl))) (mvT hZ (hw _ (List.mem_of_getElem? (i := 11) rfl))) (by decide) (backOf (W := 0) (own_rmali l Z aw hw [] a1 h0 n0 Z0 E0 ga F0_modCount F0_elementData F0_size) hZ (hw _ (List.mem_of_getElem? (i := 11) rfl)) (hw _ (List.mem_of_getElem? (i := 10) rfl)) (by decide) (by decide)) (g := (mkF m 1 #[.val (.ref a1)] [(.ref a1)])) rfl (by rw [hml]; rfl) (Steps.refl _) (a := a1) (argsL := []) (rest := []) (lenOf own_pd0 rfl) rfl (by show 2 * 0 + _ ≤ _; exact Nat.le_of_eq rfl) (hb hby own_d1_1) (fun _ _ => ⟨rfl, e0, (by decide : 0 + 0 ≤ _), (by decide : 0 + 0 ≤ _)⟩)
  dsimp only [Pt.U, Pt.locs, Pt.cells, Pt.slots] at X7 l7 y7 z7 st7 hQ7
  subst l7 y7 z7
  obtain ⟨rfl, N7q, Kp7, Xp7, F1p7, F2p7, F3p7⟩ := hQ7
  have N7 := Fr.app N0 N7q
  refine own_by (fun t k => st7.trans k) ?_
  have Ex7_a1 := E0.keep Kp7
  have K7 := (Keep.refl h0 [a1]).trans Kp7 (allS (Or.inl (by simp)) (all0))
  have Z7 := Nat.le_trans Z0 Kp7.1
  have O7 := O0.keep Kp7 (allS ga (all0))
  show own_Go p.tables e below K (T7.setTop (mkF m 4 #[.val (.ref a1)] []))
  refine own_by (fun t k => XS.aloadN X7.here hx rfl (hb hby own_d1_4) rfl rfl k) ?_
  show own_Go p.tables e below K (T7.setTop (mkF m 5 #[.val (.ref a1)] [(.ref a1)]))
  obtain ⟨T8, X8, e8, st8⟩ := getS2 X7 hx hZ hown (host := "") (Or.inl (hw _ (List.mem_of_getElem? (i := 23) rfl))) Via.refl rfl (S0.1.ext O7.2) (g := (mkF m 5 #[.val (.ref a1)] [(.ref a1)])) rfl (hb hby own_d1_5)
  refine own_by st8 ?_
  show own_Go p.tables e below K (T8.setTop (mkF m 8 #[.val (.ref a1)] [(.ref dd), (.ref a1)]))
  obtain ⟨T9, h9, X9, e9, W9, st9⟩ := putF X8 hx hZ hown (host := "") (Or.inl (hw _ (List.mem_of_getElem? (i := 24) rfl))) Via.refl e8 F2p7 Xp7 (Or.inl (hw _ (List.mem_of_getElem? (i := 25) rfl))) (hw _ (List.mem_of_getElem? (i := 1) rfl)) (ty := (.array (.object "java/lang/Object"))) (by decide) rfl rfl (g := (mkF m 8 #[.val (.ref a1)] [(.ref dd), (.ref a1)])) rfl rfl (hb hby own_d1_8)
  refine own_by st9 ?_
  have F9_modCount_a1 := F1p7.other W9 (Or.inr (slot_ne (Or.inl (hw _ (List.mem_of_getElem? (i := 22) rfl))) (Or.inl (hw _ (List.mem_of_getElem? (i := 25) rfl))) (by decide) (t := .int) (t' := (.array (.object "java/lang/Object"))) (by decide) (by decide)))
  have F9_elementData_a1 := F2p7.same W9
  have F9_size_a1 := F3p7.other W9 (Or.inr (slot_ne (Or.inl (hw _ (List.mem_of_getElem? (i := 52) rfl))) (Or.inl (hw _ (List.mem_of_getElem? (i := 25) rfl))) (by decide) (t := .int) (t' := (.array (.object "java/lang/Object"))) (by decide) (by decide)))
  have Ex9_a1 := Xp7.wr W9
  have K9 := K7.wr W9 (Or.inl (by simp))
  have Z9 := Nat.le_trans Z7 (Keep.of_wr W9).1
  have O9 := O7.wr W9 ga
  have N9 := Fr.snoc X9 N7 ga
  show own_Go p.tables e below K (T9.setTop (mkF m 11 #[.val (.ref a1)] []))
  exact own_retV X9 hx hret (hb hby own_d1_11) (hK none X9 (fun _ => rfl) (by rw [e9]; exact ⟨rfl, N9, K9, ⟨Ex9_a1, F9_modCount_a1, F9_elementData_a1, F9_size_a1⟩⟩) (by decide) (by decide))
theorem own_d11_0 : decode jdk_29_method_65_code 0 = .ok (.iload_n 0, 1) := by decide +kernel
theorem own_d11_1 : decode jdk_29_method_65_code 1 = .ok (.iload_n 1, 1) := by decide +kernel
theorem own_d11_2 : decode jdk_29_method_65_code 2 = .ok (.if_icmp .lt 7, 3) := by decide +kernel
theorem own_d11_5 : decode jdk_29_method_65_code 5 = .ok (.iload_n 0, 1) := by decide +kernel
theorem own_d11_6 : decode jdk_29_method_65_code 6 = .ok (.goto 4, 3) := by decide +kernel
theorem own_d11_9 : decode jdk_29_method_65_code 9 = .ok (.iload_n 1, 1) := by decide +kernel
theorem own_d11_10 : decode jdk_29_method_65_code 10 = .ok (.ireturn, 1) := by decide +kernel
theorem own_efmxI (m : MethodId) (q1 : Int32) (q2 : Int32) : entryFrame m #[(.int q1), (.int q2)] 2 = mkF m 0 #[.val (.int q1), .val (.int q2)] [] := by first | (simp [entryFrame, mkF, argsToLocals, Value.category]; done) | rfl
def own_QmxI (Z : State) (q1 : Int32) (q2 : Int32) (h0 : Heap) (n0 : Nat) (v : Option Value) (h : Heap) (L : List Loc) : Prop := v = some (.int (own_mxI q1 q2)) ∧ Fr n0 L ∧ h = h0
set_option maxRecDepth 65536 in
set_option maxHeartbeats 40000000 in
theorem own_rmmxI (l : Launch) (Z : State) (aw : Array Value) (hw : ∀ d ∈ tables_1, d.before aw Z = true) (ws : List Jvm.Cond) (q1 : Int32) (q2 : Int32) (h0 : Heap) (n0 : Nat) (Z0 : n0 ≤ h0.size)  :
    MetFree l (⟨"java/lang/Math", "max", "(II)I"⟩ : MethodName) (head1 (Jvm.Cond.code (⟨"java/lang/Math", "max", "(II)I"⟩ : MethodName) jdk_29_method_65_code 2 (some .int) :: ws) ({ frames := 0, cells := 0, slots := 0, locals := 0 } : Room)) (fun a U => a = #[(.int q1), (.int q2)] ∧ Z.Warmed39 U.vm ∧ U.heap = h0) (fun _ _ _ _ _ => True) (fun _ U o U' => ∃ v L, o = .returned v ∧ own_QmxI Z q1 q2 h0 n0 v U'.heap L ∧ FrameEnd U o U' L ({ frames := 0, cells := 0, slots := 0, locals := 0 } : Room).cells ({ frames := 0, cells := 0, slots := 0, locals := 0 } : Room).slots) := by
  refine own_met (Q := own_QmxI Z q1 q2 h0 n0) (Jvm.Free.JP.mathPlain rfl (by decide +kernel)) ?_
  intro p e s m below meth c s₁ K hx hby hml hown hnm hret hZ X0 e0 hK
  have hown : s.vm.findClass "java/lang/Math" = some m.cls := hown
  have N0 := Fr.nil n0
  refine own_by (fun t k => castTop (own_efmxI m q1 q2) k) ?_
  show own_Go p.tables e below K (s₁.setTop (mkF m 0 #[.val (.int q1), .val (.int q2)] []))
  refine own_by (fun t k => XS.iloadN X0.here hx rfl (hb hby own_d11_0) rfl k) ?_
  show own_Go p.tables e below K (s₁.setTop (mkF m 1 #[.val (.int q1), .val (.int q2)] [(.int q1)]))
  refine own_by (fun t k => XS.iloadN X0.here hx rfl (hb hby own_d11_1) rfl k) ?_
  show own_Go p.tables e below K (s₁.setTop (mkF m 2 #[.val (.int q1), .val (.int q2)] [(.int q2), (.int q1)]))
  by_cases hc2 : q1 < q2
  · refine own_by (fun t k => XS.icmpYes X0.here hx rfl (pc0 := 2) (pc' := 9) rfl (hb hby own_d11_2) rfl (tlt hc2).1 (by decide) (by decide) k) ?_
    show own_Go p.tables e below K (s₁.setTop (mkF m 9 #[.val (.int q1), .val (.int q2)] []))
    refine own_by (fun t k => XS.iloadN X0.here hx rfl (hb hby own_d11_9) rfl k) ?_
    show own_Go p.tables e below K (s₁.setTop (mkF m 10 #[.val (.int q1), .val (.int q2)] [(.int q2)]))
    exact own_retI X0 hx hret (hb hby own_d11_10) (hK (some (.int q2)) X0 (fun h => by rw [hret] at h; cases h) (⟨by simp [own_mxI, *], N0, e0⟩) (by decide) (by decide))
  · refine own_by (fun t k => XS.icmpNo X0.here hx rfl (hb hby own_d11_2) rfl (flt hc2).1 k) ?_
    show own_Go p.tables e below K (s₁.setTop (mkF m 5 #[.val (.int q1), .val (.int q2)] []))
    refine own_by (fun t k => XS.iloadN X0.here hx rfl (hb hby own_d11_5) rfl k) ?_
    show own_Go p.tables e below K (s₁.setTop (mkF m 6 #[.val (.int q1), .val (.int q2)] [(.int q1)]))
    refine own_by (fun t k => XS.goto X0.here hx rfl (pc0 := 6) (pc' := 10) rfl (hb hby own_d11_6) (by decide) (by decide) k) ?_
    show own_Go p.tables e below K (s₁.setTop (mkF m 10 #[.val (.int q1), .val (.int q2)] [(.int q1)]))
    exact own_retI X0 hx hret (hb hby own_d11_10) (hK (some (.int q1)) X0 (fun h => by rw [hret] at h; cases h) (⟨by simp [own_mxI, *], N0, e0⟩) (by decide) (by decide))
theorem own_d20_0 : decode jdk_29_method_69_code 0 = .ok (.iload_n 0, 1) := by decide +kernel
theorem own_d20_1 : decode jdk_29_method_69_code 1 = .ok (.iload_n 1, 1) := by decide +kernel
theorem own_d20_2 : decode jdk_29_method_69_code 2 = .ok (.if_icmp .gt 7, 3) := by decide +kernel
theorem own_d20_5 : decode jdk_29_method_69_code 5 = .ok (.iload_n 0, 1) := by decide +kernel
theorem own_d20_6 : decode jdk_29_method_69_code 6 = .ok (.goto 4, 3) := by decide +kernel
theorem own_d20_9 : decode jdk_29_method_69_code 9 = .ok (.iload_n 1, 1) := by decide +kernel
theorem own_d20_10 : decode jdk_29_method_69_code 10 = .ok (.ireturn, 1) := by decide +kernel
theorem own_efmnI (m : MethodId) (q1 : Int32) (q2 : Int32) : entryFrame m #[(.int q1), (.int q2)] 2 = mkF m 0 #[.val (.int q1), .val (.int q2)] [] := by first | (simp [entryFrame, mkF, argsToLocals, Value.category]; done) | rfl
def own_QmnI (Z : State) (q1 : Int32) (q2 : Int32) (h0 : Heap) (n0 : Nat) (v : Option Value) (h : Heap) (L : List Loc) : Prop := v = some (.int (own_mnI q1 q2)) ∧ Fr n0 L ∧ h = h0
set_option maxRecDepth 65536 in
set_option maxHeartbeats 40000000 in
theorem own_rmmnI (l : Launch) (Z : State) (aw : Array Value) (hw : ∀ d ∈ tables_1, d.before aw Z = true) (ws : List Jvm.Cond) (q1 : Int32) (q2 : Int32) (h0 : Heap) (n0 : Nat) (Z0 : n0 ≤ h0.size)  :
    MetFree l (⟨"java/lang/Math", "min", "(II)I"⟩ : MethodName) (head1 (Jvm.Cond.code (⟨"java/lang/Math", "min", "(II)I"⟩ : MethodName) jdk_29_method_69_code 2 (some .int) :: ws) ({ frames := 0, cells := 0, slots := 0, locals := 0 } : Room)) (fun a U => a = #[(.int q1), (.int q2)] ∧ Z.Warmed39 U.vm ∧ U.heap = h0) (fun _ _ _ _ _ => True) (fun _ U o U' => ∃ v L, o = .returned v ∧ own_QmnI Z q1 q2 h0 n0 v U'.heap L ∧ FrameEnd U o U' L ({ frames := 0, cells := 0, slots := 0, locals := 0 } : Room).cells ({ frames := 0, cells := 0, slots := 0, locals := 0 } : Room).slots) := by
  refine own_met (Q := own_QmnI Z q1 q2 h0 n0) (Jvm.Free.JP.mathPlain rfl (by decide +kernel)) ?_
  intro p e s m below meth c s₁ K hx hby hml hown hnm hret hZ X0 e0 hK
  have hown : s.vm.findClass "java/lang/Math" = some m.cls := hown
  have N0 := Fr.nil n0
  refine own_by (fun t k => castTop (own_efmnI m q1 q2) k) ?_
  show own_Go p.tables e below K (s₁.setTop (mkF m 0 #[.val (.int q1), .val (.int q2)] []))
  refine own_by (fun t k => XS.iloadN X0.here hx rfl (hb hby own_d20_0) rfl k) ?_
  show own_Go p.tables e below K (s₁.setTop (mkF m 1 #[.val (.int q1), .val (.int q2)] [(.int q1)]))
  refine own_by (fun t k => XS.iloadN X0.here hx rfl (hb hby own_d20_1) rfl k) ?_
  show own_Go p.tables e below K (s₁.setTop (mkF m 2 #[.val (.int q1), .val (.int q2)] [(.int q2), (.int q1)]))
  by_cases hc2 : q2 < q1
  · refine own_by (fun t k => XS.icmpYes X0.here hx rfl (pc0 := 2) (pc' := 9) rfl (hb hby own_d20_2) rfl (tlt hc2).2.2.1 (by decide) (by decide) k) ?_
    show own_Go p.tables e below K (s₁.setTop (mkF m 9 #[.val (.int q1), .val (.int q2)] []))
    refine own_by (fun t k => XS.iloadN X0.here hx rfl (hb hby own_d20_9) rfl k) ?_
    show own_Go p.tables e below K (s₁.setTop (mkF m 10 #[.val (.int q1), .val (.int q2)] [(.int q2)]))
    exact own_retI X0 hx hret (hb hby own_d20_10) (hK (some (.int q2)) X0 (fun h => by rw [hret] at h; cases h) (⟨by simp [own_mnI, *], N0, e0⟩) (by decide) (by decide))
  · refine own_by (fun t k => XS.icmpNo X0.here hx rfl (hb hby own_d20_2) rfl (flt hc2).2.2.1 k) ?_
    show own_Go p.tables e below K (s₁.setTop (mkF m 5 #[.val (.int q1), .val (.int q2)] []))
    refine own_by (fun t k => XS.iloadN X0.here hx rfl (hb hby own_d20_5) rfl k) ?_
    show own_Go p.tables e below K (s₁.setTop (mkF m 6 #[.val (.int q1), .val (.int q2)] [(.int q1)]))
    refine own_by (fun t k => XS.goto X0.here hx rfl (pc0 := 6) (pc' := 10) rfl (hb hby own_d20_6) (by decide) (by decide) k) ?_
    show own_Go p.tables e below K (s₁.setTop (mkF m 10 #[.val (.int q1), .val (.int q2)] [(.int q1)]))
    exact own_retI X0 hx hret (hb hby own_d20_10) (hK (some (.int q1)) X0 (fun h => by rw [hret] at h; cases h) (⟨by simp [own_mnI, *], N0, e0⟩) (by decide) (by decide))
theorem own_pd1 : parseMethodDescriptor "(II)I" = some ⟨[.int, .int], some .int⟩ := by decide +kernel
theorem own_d10_0 : decode jdk_38_method_6_code 0 = .ok (.aload_n 0, 1) := by decide +kernel
theorem own_d10_1 : decode jdk_38_method_6_code 1 = .ok (.getfield 9, 3) := by decide +kernel
theorem own_d10_4 : decode jdk_38_method_6_code 4 = .ok (.arraylength, 1) := by decide +kernel
theorem own_d10_5 : decode jdk_38_method_6_code 5 = .ok (.istore_n 2, 1) := by decide +kernel
theorem own_d10_6 : decode jdk_38_method_6_code 6 = .ok (.iload_n 2, 1) := by decide +kernel
theorem own_d10_7 : decode jdk_38_method_6_code 7 = .ok (.ifCond .gt 13, 3) := by decide +kernel
theorem own_d10_10 : decode jdk_38_method_6_code 10 = .ok (.aload_n 0, 1) := by decide +kernel
theorem own_d10_11 : decode jdk_38_method_6_code 11 = .ok (.getfield 9, 3) := by decide +kernel
theorem own_d10_14 : decode jdk_38_method_6_code 14 = .ok (.getstatic 39, 3) := by decide +kernel
theorem own_d10_17 : decode jdk_38_method_6_code 17 = .ok (.if_acmp .eq 28, 3) := by decide +kernel
theorem own_d10_45 : decode jdk_38_method_6_code 45 = .ok (.aload_n 0, 1) := by decide +kernel
theorem own_d10_46 : decode jdk_38_method_6_code 46 = .ok (.bipush 10, 2) := by decide +kernel
theorem own_d10_48 : decode jdk_38_method_6_code 48 = .ok (.iload_n 1, 1) := by decide +kernel
theorem own_d10_49 : decode jdk_38_method_6_code 49 = .ok (.invokestatic 79, 3) := by decide +kernel
theorem own_d10_52 : decode jdk_38_method_6_code 52 = .ok (.anewarray 7, 3) := by decide +kernel
theorem own_d10_55 : decode jdk_38_method_6_code 55 = .ok (.dup_x1, 1) := by decide +kernel
theorem own_d10_56 : decode jdk_38_method_6_code 56 = .ok (.putfield 9, 3) := by decide +kernel
theorem own_d10_59 : decode jdk_38_method_6_code 59 = .ok (.areturn, 1) := by decide +kernel
theorem own_efgri (m : MethodId) (a1 : Addr) : entryFrame m #[(.ref a1), (.int (1 : Int32))] 4 = mkF m 0 #[.val (.ref a1), .val (.int (1 : Int32)), .unset, .unset] [] := by first | (simp [entryFrame, mkF, argsToLocals, Value.category]; done) | rfl
def own_Qgri (Z : State) (a1 : Addr) (mc : Int32) (dd : Addr) (lz : Addr) (ez : Addr) (em : Addr) (mr : Addr) (h0 : Heap) (n0 : Nat) (v : Option Value) (h : Heap) (L : List Loc) : Prop := ∃ (el : Addr) (k : ClassId), v = some (.ref el) ∧ Fr n0 L ∧ Keep h0 h [a1] ∧ n0 ≤ el ∧ h0.size ≤ el ∧ own_AL Z h a1 el 0 mc ∧ own_Ar Z h el k 10 [.null, .null, .null, .null, .null, .null, .null, .null, .null, .null]
set_option maxRecDepth 65536 in
set_option maxHeartbeats 40000000 in
theorem own_rmgri (l : Launch) (Z : State) (aw : Array Value) (hw : ∀ d ∈ tables_1, d.before aw Z = true) (ws : List Jvm.Cond) (a1 : Addr) (mc : Int32) (dd : Addr) (lz : Addr) (ez : Addr) (em : Addr) (mr : Addr) (h0 : Heap) (n0 : Nat) (Z0 : n0 ≤ h0.size) (B0 : own_AL Z h0 a1 dd 0 mc) (ga : n0 ≤ a1) (O0 : Old Z n0 h0) (S0 : own_St Z dd lz ez em mr) :
    MetFree l (⟨"java/util/ArrayList", "grow", "(I)[Ljava/lang/Object;"⟩ : MethodName) (head1 (Jvm.Cond.code (⟨"java/util/ArrayList", "grow", "(I)[Ljava/lang/Object;"⟩ : MethodName) jdk_38_method_6_code 4 (some (.array (.object "java/lang/Object"))) :: ws) ({ frames := 1, cells := 1, slots := 10, locals := 20 } : Room)) (fun a U => a = #[(.ref a1), (.int (1 : Int32))] ∧ Z.Warmed39 U.vm ∧ U.heap = h0) (fun _ _ _ _ _ => True) (fun _ U o U' => ∃ v L, o = .returned v ∧ own_Qgri Z a1 mc dd lz ez em mr h0 n0 v U'.heap L ∧ FrameEnd U o U' L ({ frames := 1, cells := 1, slots := 10, locals := 20 } : Room).cells ({ frames := 1, cells := 1, slots := 10, locals := 20 } : Room).slots) := by
  refine own_met (Q := own_Qgri Z a1 mc dd lz ez em mr h0 n0) (plainFor_of_name own_pn1) ?_
  intro p e s m below meth c s₁ K hx hby hml hown hnm hret hZ X0 e0 hK
  have hown : s.vm.findClass "java/util/ArrayList" = some m.cls := hown
  have N0 := Fr.nil n0
  refine own_by (fun t k => castTop (own_efgri m a1) k) ?_
  show own_Go p.tables e below K (s₁.setTop (mkF m 0 #[.val (.ref a1), .val (.int (1 : Int32)), .unset, .unset] []))
  refine own_by (fun t k => XS.aloadN X0.here hx rfl (hb hby own_d10_0) rfl rfl k) ?_
  show own_Go p.tables e below K (s₁.setTop (mkF m 1 #[.val (.ref a1), .val (.int (1 : Int32)), .unset, .unset] [(.ref a1)]))
  obtain ⟨T10, X10, e10, st10⟩ := getF X0 hx hZ hown (host := "") (Or.inl (hw _ (List.mem_of_getElem? (i := 24) rfl))) Via.refl e0 B0.2.2.1 (g := (mkF m 1 #[.val (.ref a1), .val (.int (1 : Int32)), .unset, .unset] [(.ref a1)])) rfl rfl (hb hby own_d10_1)
  refine own_by st10 ?_
  show own_Go p.tables e below K (T10.setTop (mkF m 4 #[.val (.ref a1), .val (.int (1 : Int32)), .unset, .unset] [(.ref dd)]))
  obtain ⟨cl11, Ar11, S11⟩ := id (S0.2.1.ext O0.2)
  refine own_by (fun t k => X10.arraylength hx (by rw [e10]; exact Ar11.1) (State.isArrayOf_alike hZ.alike Ar11.2.1) (g := (mkF m 4 #[.val (.ref a1), .val (.int (1 : Int32)), .unset, .unset] [(.ref dd)])) rfl rfl (hb hby own_d10_4) t k) ?_
  rw [S11]
  show own_Go p.tables e below K (T10.setTop (mkF m 5 #[.val (.ref a1), .val (.int (1 : Int32)), .unset, .unset] [(.int (0 : Int32))]))
  refine own_by (fun t k => XS.istoreN X10.here hx rfl (hb hby own_d10_5) rfl (l' := #[.val (.ref a1), .val (.int (1 : Int32)), .val (.int (0 : Int32)), .unset]) rfl k) ?_
  show own_Go p.tables e below K (T10.setTop (mkF m 6 #[.val (.ref a1), .val (.int (1 : Int32)), .val (.int (0 : Int32)), .unset] []))
  refine own_by (fun t k => XS.iloadN X10.here hx rfl (hb hby own_d10_6) rfl k) ?_
  show own_Go p.tables e below K (T10.setTop (mkF m 7 #[.val (.ref a1), .val (.int (1 : Int32)), .val (.int (0 : Int32)), .unset] [(.int (0 : Int32))]))
  have hc7 : ¬ ((0 : Int32) < (0 : Int32)) := by decide
  refine own_by (fun t k => XS.ifNo X10.here hx rfl (hb hby own_d10_7) rfl ((if0 _ _).trans (flt hc7).2.2.1) k) ?_
  show own_Go p.tables e below K (T10.setTop (mkF m 10 #[.val (.ref a1), .val (.int (1 : Int32)), .val (.int (0 : Int32)), .unset] []))
  refine own_by (fun t k => XS.aloadN X10.here hx rfl (hb hby own_d10_10) rfl rfl k) ?_
  show own_Go p.tables e below K (T10.setTop (mkF m 11 #[.val (.ref a1), .val (.int (1 : Int32)), .val (.int (0 : Int32)), .unset] [(.ref a1)]))
  obtain ⟨T12, X12, e12, st12⟩ := getF X10 hx hZ hown (host := "") (Or.inl (hw _ (List.mem_of_getElem? (i := 24) rfl))) Via.refl e10 B0.2.2.1 (g := (mkF m 11 #[.val (.ref a1), .val (.int (1 : Int32)), .val (.int (0 : Int32)), .unset] [(.ref a1)])) rfl rfl (hb hby own_d10_11)
  refine own_by st12 ?_
  show own_Go p.tables e below K (T12.setTop (mkF m 14 #[.val (.ref a1), .val (.int (1 : Int32)), .val (.int (0 : Int32)), .unset] [(.ref dd)]))
  obtain ⟨T13, X13, e13, st13⟩ := getS2 X12 hx hZ hown (host := "") (Or.inl (hw _ (List.mem_of_getElem? (i := 23) rfl))) Via.refl e12 (S0.1.ext O0.2) (g := (mkF m 14 #[.val (.ref a1), .val (.int (1 : Int32)), .val (.int (0 : Int32)), .unset] [(.ref dd)])) rfl (hb hby own_d10_14)
  refine own_by st13 ?_
  show own_Go p.tables e below K (T13.setTop (mkF m 17 #[.val (.ref a1), .val (.int (1 : Int32)), .val (.int (0 : Int32)), .unset] [(.ref dd), (.ref dd)]))
  refine own_by (fun t k => acmp X13 hx rfl rfl rfl (pc0 := 17) (pc' := 45) (same := true) rfl (hb hby own_d10_17) rfl (by simp) (by decide) (by decide) k) ?_
  show own_Go p.tables e below K (T13.setTop (mkF m 45 #[.val (.ref a1), .val (.int (1 : Int32)), .val (.int (0 : Int32)), .unset] []))
  refine own_by (fun t k => XS.aloadN X13.here hx rfl (hb hby own_d10_45) rfl rfl k) ?_
  show own_Go p.tables e below K (T13.setTop (mkF m 46 #[.val (.ref a1), .val (.int (1 : Int32)), .val (.int (0 : Int32)), .unset] [(.ref a1)]))
  refine own_by (fun t k => XS.bipush X13.here hx rfl (hb hby own_d10_46) k) ?_
  show own_Go p.tables e below K (T13.setTop (mkF m 48 #[.val (.ref a1), .val (.int (1 : Int32)), .val (.int (0 : Int32)), .unset] [(.int (10 : Int32)), (.ref a1)]))
  refine own_by (fun t k => XS.iloadN X13.here hx rfl (hb hby own_d10_48) rfl k) ?_
  show own_Go p.tables e below K (T13.setTop (mkF m 49 #[.val (.ref a1), .val (.int (1 : Int32)), .val (.int (0 : Int32)), .unset] [(.int (1 : Int32)), (.int (10 : Int32)), (.ref a1)]))
  obtain ⟨_, _, ⟨T14, L14, k14, n14⟩, -, X14, ⟨Lc14, hQ14, l14, y14, z14⟩, st14⟩ := Jvm.LawKit.callS X13 hx (y := (⟨"java/lang/Math", "max", "(II)I"⟩ : MethodName)) hown (mvT hZ (hw _ (List.mem_of_getElem? (i := 68) rfl))) (mvT hZ (hw _ (List.mem_of_getElem? (i := 69) rfl))) (mvT hZ (hw _ (List.mem_of_getElem? (i := 70) rfl))) (mvT hZ (hw _ (List.mem_of_getElem? (i := 71) rfl))) (by decide) (backOf (W := 1) (own_rmmxI l Z aw hw [] 10 1 h0 n0 Z0) hZ (hw _ (List.mem_of_getElem? (i := 71) rfl)) (hw _ (List.mem_of_getElem? (i := 70) rfl)) (by decide) (by decide)) (g := (mkF m 49 #[.val (.ref a1), .val (.int (1 : Int32)), .val (.int (0 : Int32)), .unset] [(.int (1 : Int32)), (.int (10 : Int32)), (.ref a1)])) rfl (by rw [hml]; rfl) (argsL := [(.int (10 : Int32)), (.int (1 : Int32))]) (rest := [(.ref a1)]) (lenOf own_pd1 rfl) rfl (by show 2 * 0 + _ ≤ _; exact Nat.le_of_eq rfl) (hb hby own_d10_49) (fun _ _ => ⟨rfl, e13, (by decide : 0 + 0 ≤ _), (by decide : 0 + 0 ≤ _)⟩)
  dsimp only [Pt.U, Pt.locs, Pt.cells, Pt.slots] at X14 l14 y14 z14 st14 hQ14
  subst l14 y14 z14
  obtain ⟨rfl, N14q, e14⟩ := hQ14
  have N14 := Fr.app N0 N14q
  refine own_by st14 ?_
  show own_Go p.tables e below K (T14.setTop (mkF m 52 #[.val (.ref a1), .val (.int (1 : Int32)), .val (.int (0 : Int32)), .unset] [(.int (10 : Int32)), (.ref a1)]))
  obtain ⟨T15, h15, k15, X15, e15, E15, A15, Ea15, Ov15, st15⟩ := newRE X14 hx hZ hown (hw _ (List.mem_of_getElem? (i := 72) rfl)) (hw _ (List.mem_of_getElem? (i := 73) rfl)) e14 (g := (mkF m 52 #[.val (.ref a1), .val (.int (1 : Int32)), .val (.int (0 : Int32)), .unset] [(.int (10 : Int32)), (.ref a1)])) rfl (hb hby own_d10_52) rfl (by decide) (cap := 10) (by decide) (by decide) (by decide) (by decide) (ad := "[Ljava/lang/Object;") (by decide +kernel)
  obtain ⟨b15, g15⟩ : ∃ z, z = h0.size := ⟨_, rfl⟩
  rw [← g15] at A15 Ea15 st15
  refine own_by st15 ?_
  have gn_b15 : n0 ≤ b15 := Nat.le_trans Z0 (Nat.le_of_eq g15.symm)
  have sz_b15 : h0.size ≤ b15 := Nat.le_trans (Keep.refl h0 [a1]).1 (Nat.le_of_eq g15.symm)
  have ne_a1_b15 : a1 ≠ b15 := Nat.ne_of_lt (Nat.lt_of_lt_of_le B0.1.lt (Nat.le_of_eq g15.symm))
  have F15_modCount_a1 := B0.2.1.ext E15
  have F15_elementData_a1 := B0.2.2.1.ext E15
  have F15_size_a1 := B0.2.2.2.ext E15
  have Ex15_a1 := B0.1.ext E15
  have K15 := (Keep.refl h0 [a1]).ext E15
  have Z15 := Nat.le_trans Z0 E15.1
  have O15 := O0.ext E15
  have xn15 : own_Ar Z h15 b15 k15 (10 : Int32) [.null, .null, .null, .null, .null, .null, .null, .null, .null, .null] := ⟨(Arv.new A15 (by decide)).pad (pad_rep [] .null 10), Ea15, Ov15⟩
  show own_Go p.tables e below K (T15.setTop (mkF m 55 #[.val (.ref a1), .val (.int (1 : Int32)), .val (.int (0 : Int32)), .unset] [(.ref b15), (.ref a1)]))
  refine own_by (fun t k => XS.dupX1 X15.here hx rfl (hb hby own_d10_55) rfl rfl rfl k) ?_
  show own_Go p.tables e below K (T15.setTop (mkF m 56 #[.val (.ref a1), .val (.int (1 : Int32)), .val (.int (0 : Int32)), .unset] [(.ref b15), (.ref a1), (.ref b15)]))
  obtain ⟨T16, h16, X16, e16, W16, st16⟩ := putF X15 hx hZ hown (host := "") (Or.inl (hw _ (List.mem_of_getElem? (i := 24) rfl))) Via.refl e15 F15_elementData_a1 Ex15_a1 (Or.inl (hw _ (List.mem_of_getElem? (i := 25) rfl))) (hw _ (List.mem_of_getElem? (i := 1) rfl)) (ty := (.array (.object "java/lang/Object"))) (by decide) rfl rfl (g := (mkF m 56 #[.val (.ref a1), .val (.int (1 : Int32)), .val (.int (0 : Int32)), .unset] [(.ref b15), (.ref a1), (.ref b15)])) rfl rfl (hb hby own_d10_56)
  refine own_by st16 ?_
  have F16_modCount_a1 := F15_modCount_a1.other W16 (Or.inr (slot_ne (Or.inl (hw _ (List.mem_of_getElem? (i := 22) rfl))) (Or.inl (hw _ (List.mem_of_getElem? (i := 25) rfl))) (by decide) (t := .int) (t' := (.array (.object "java/lang/Object"))) (by decide) (by decide)))
  have F16_elementData_a1 := F15_elementData_a1.same W16
  have F16_size_a1 := F15_size_a1.other W16 (Or.inr (slot_ne (Or.inl (hw _ (List.mem_of_getElem? (i := 52) rfl))) (Or.inl (hw _ (List.mem_of_getElem? (i := 25) rfl))) (by decide) (t := .int) (t' := (.array (.object "java/lang/Object"))) (by decide) (by decide)))
  have xa16_b15 := xn15.other W16 (Ne.symm ne_a1_b15)
  have Ex16_a1 := Ex15_a1.wr W16
  have K16 := K15.wr W16 (Or.inl (by simp))
  have Z16 := Nat.le_trans Z15 (Keep.of_wr W16).1
  have O16 := O15.wr W16 ga
  have N16 := Fr.snoc X16 N14 ga
  show own_Go p.tables e below K (T16.setTop (mkF m 59 #[.val (.ref a1), .val (.int (1 : Int32)), .val (.int (0 : Int32)), .unset] [(.ref b15)]))
  exact own_retA X16 hx hret rfl rfl rfl (hb hby own_d10_59) (hK (some (.ref b15)) X16 (fun h => by rw [hret] at h; cases h) (by rw [e16]; exact ⟨_, _, rfl, N16, K16, gn_b15, sz_b15, ⟨Ex16_a1, F16_modCount_a1, F16_elementData_a1, F16_size_a1⟩, xa16_b15⟩) (by decide) (by decide))
theorem own_pd2 : parseMethodDescriptor "(I)[Ljava/lang/Object;" = some ⟨[.int], some (.array (.object "java/lang/Object"))⟩ := by decide +kernel
theorem own_d9_0 : decode jdk_38_method_7_code 0 = .ok (.aload_n 0, 1) := by decide +kernel
theorem own_d9_1 : decode jdk_38_method_7_code 1 = .ok (.aload_n 0, 1) := by decide +kernel
theorem own_d9_2 : decode jdk_38_method_7_code 2 = .ok (.getfield 48, 3) := by decide +kernel
theorem own_d9_5 : decode jdk_38_method_7_code 5 = .ok (.iconst 1, 1) := by decide +kernel
theorem own_d9_6 : decode jdk_38_method_7_code 6 = .ok (.iadd, 1) := by decide +kernel
theorem own_d9_7 : decode jdk_38_method_7_code 7 = .ok (.invokevirtual 69, 3) := by decide +kernel
theorem own_d9_10 : decode jdk_38_method_7_code 10 = .ok (.areturn, 1) := by decide +kernel
theorem own_efgr0 (m : MethodId) (a1 : Addr) : entryFrame m #[(.ref a1)] 1 = mkF m 0 #[.val (.ref a1)] [] := by first | (simp [entryFrame, mkF, argsToLocals, Value.category]; done) | rfl
def own_Qgr0 (Z : State) (a1 : Addr) (mc : Int32) (dd : Addr) (lz : Addr) (ez : Addr) (em : Addr) (mr : Addr) (h0 : Heap) (n0 : Nat) (v : Option Value) (h : Heap) (L : List Loc) : Prop := ∃ (el : Addr) (k : ClassId), v = some (.ref el) ∧ Fr n0 L ∧ Keep h0 h [a1] ∧ n0 ≤ el ∧ h0.size ≤ el ∧ own_AL Z h a1 el 0 mc ∧ own_Ar Z h el k 10 [.null, .null, .null, .null, .null, .null, .null, .null, .null, .null]
set_option maxRecDepth 65536 in
set_option maxHeartbeats 40000000 in
theorem own_rmgr0 (l : Launch) (Z : State) (aw : Array Value) (hw : ∀ d ∈ tables_1, d.before aw Z = true) (ws : List Jvm.Cond) (a1 : Addr) (mc : Int32) (dd : Addr) (lz : Addr) (ez : Addr) (em : Addr) (mr : Addr) (h0 : Heap) (n0 : Nat) (Z0 : n0 ≤ h0.size) (B0 : own_AL Z h0 a1 dd 0 mc) (ga : n0 ≤ a1) (O0 : Old Z n0 h0) (S0 : own_St Z dd lz ez em mr) :
    MetFree l (⟨"java/util/ArrayList", "grow", "()[Ljava/lang/Object;"⟩ : MethodName) (head1 (Jvm.Cond.code (⟨"java/util/ArrayList", "grow", "()[Ljava/lang/Object;"⟩ : MethodName) jdk_38_method_7_code 1 (some (.array (.object "java/lang/Object"))) :: ws) ({ frames := 2, cells := 1, slots := 10, locals := 40 } : Room)) (fun a U => a = #[(.ref a1)] ∧ Z.Warmed39 U.vm ∧ U.heap = h0) (fun _ _ _ _ _ => True) (fun _ U o U' => ∃ v L, o = .returned v ∧ own_Qgr0 Z a1 mc dd lz ez em mr h0 n0 v U'.heap L ∧ FrameEnd U o U' L ({ frames := 2, cells := 1, slots := 10, locals := 40 } : Room).cells ({ frames := 2, cells := 1, slots := 10, locals := 40 } : Room).slots) := by
  refine own_met (Q := own_Qgr0 Z a1 mc dd lz ez em mr h0 n0) (plainFor_of_name own_pn1) ?_
  intro p e s m below meth c s₁ K hx hby hml hown hnm hret hZ X0 e0 hK
  have hown : s.vm.findClass "java/util/ArrayList" = some m.cls := hown
  have N0 := Fr.nil n0
  refine own_by (fun t k => castTop (own_efgr0 m a1) k) ?_
  show own_Go p.tables e below K (s₁.setTop (mkF m 0 #[.val (.ref a1)] []))
  refine own_by (fun t k => XS.aloadN X0.here hx rfl (hb hby own_d9_0) rfl rfl k) ?_
  show own_Go p.tables e below K (s₁.setTop (mkF m 1 #[.val (.ref a1)] [(.ref a1)]))
  refine own_by (fun t k => XS.aloadN X0.here hx rfl (hb hby own_d9_1) rfl rfl k) ?_
  show own_Go p.tables e below K (s₁.setTop (mkF m 2 #[.val (.ref a1)] [(.ref a1), (.ref a1)]))
  obtain ⟨T17, X17, e17, st17⟩ := getF X0 hx hZ hown (host := "") (Or.inl (hw _ (List.mem_of_getElem? (i := 51) rfl))) Via.refl e0 B0.2.2.2 (g := (mkF m 2 #[.val (.ref a1)] [(.ref a1), (.ref a1)])) rfl rfl (hb hby own_d9_2)
  refine own_by st17 ?_
  show own_Go p.tables e below K (T17.setTop (mkF m 5 #[.val (.ref a1)] [(.int (0 : Int32)), (.ref a1)]))
  refine own_by (fun t k => XS.iconst X17.here hx rfl (hb hby own_d9_5) k) ?_
  show own_Go p.tables e below K (T17.setTop (mkF m 6 #[.val (.ref a1)] [(.int (1 : Int32)), (.int (0 : Int32)), (.ref a1)]))
  refine own_by (fun t k => XS.iadd X17.here hx rfl (hb hby own_d9_6) rfl k) ?_
  show own_Go p.tables e below K (T17.setTop (mkF m 7 #[.val (.ref a1)] [(.int (1 : Int32)), (.ref a1)]))
  obtain ⟨cp18, kp18, pa18, -, -, pb18, -⟩ := id B0.1
  obtain ⟨_, _, ⟨T18, L18, k18, n18⟩, -, X18, ⟨Lc18, hQ18, l18, y18, z18⟩, st18⟩ := X17.privateBack hx (y := (⟨"java/util/ArrayList", "grow", "(I)[Ljava/lang/Object;"⟩ : MethodName)) hown (mvT hZ (hw _ (List.mem_of_getElem? (i := 63) rfl))) (mvT hZ (hw _ (List.mem_of_getElem? (i := 64) rfl))) (mvT hZ (hw _ (List.mem_of_getElem? (i := 66) rfl))) (Cond.privateMethod_at (args := #[]) (mvT hZ (hw _ (List.mem_of_getElem? (i := 65) rfl)))) (mvT hZ (hw _ (List.mem_of_getElem? (i := 67) rfl))) (by decide) (backOf (W := 0) (own_rmgri l Z aw hw [] a1 mc dd lz ez em mr h0 n0 Z0 B0 ga O0 S0) hZ (hw _ (List.mem_of_getElem? (i := 67) rfl)) (hw _ (List.mem_of_getElem? (i := 2) rfl)) (by decide) (by decide)) (g := (mkF m 7 #[.val (.ref a1)] [(.int (1 : Int32)), (.ref a1)])) rfl (by rw [hml]; rfl) (Steps.refl _) (a := a1) (by rw [e17]; exact pa18) (fun z q => by rw [q] at pb18; cases pb18) (argsL := [(.int (1 : Int32))]) (rest := []) (lenOf own_pd2 rfl) rfl (by show 2 * 0 + _ ≤ _; exact Nat.le_of_eq rfl) (hb hby own_d9_7) (fun _ _ => ⟨rfl, e17, (by decide : 0 + 1 ≤ _), (by decide : 0 + 10 ≤ _)⟩)
  dsimp only [Pt.U, Pt.locs, Pt.cells, Pt.slots] at X18 l18 y18 z18 st18 hQ18
  subst l18 y18 z18
  obtain ⟨el18, k18c, rfl, N18q, r18⟩ := hQ18
  have N18 := Fr.app N0 N18q
  refine own_by (fun t k => st18.trans k) ?_
  show own_Go p.tables e below K (T18.setTop (mkF m 10 #[.val (.ref a1)] [(.ref el18)]))
  exact own_retA X18 hx hret rfl rfl rfl (hb hby own_d9_10) (hK (some (.ref el18)) X18 (fun h => by rw [hret] at h; cases h) (⟨_, _, rfl, N18, r18⟩) (by decide) (by decide))
theorem own_pd3 : parseMethodDescriptor "()[Ljava/lang/Object;" = some ⟨[], some (.array (.object "java/lang/Object"))⟩ := by decide +kernel
theorem own_d8_0 : decode jdk_38_method_24_code 0 = .ok (.iload_n 3, 1) := by decide +kernel
theorem own_d8_1 : decode jdk_38_method_24_code 1 = .ok (.aload_n 2, 1) := by decide +kernel
theorem own_d8_2 : decode jdk_38_method_24_code 2 = .ok (.arraylength, 1) := by decide +kernel
theorem own_d8_3 : decode jdk_38_method_24_code 3 = .ok (.if_icmp .ne 8, 3) := by decide +kernel
theorem own_d8_6 : decode jdk_38_method_24_code 6 = .ok (.aload_n 0, 1) := by decide +kernel
theorem own_d8_7 : decode jdk_38_method_24_code 7 = .ok (.invokevirtual 129, 3) := by decide +kernel
theorem own_d8_10 : decode jdk_38_method_24_code 10 = .ok (.astore_n 2, 1) := by decide +kernel
theorem own_d8_11 : decode jdk_38_method_24_code 11 = .ok (.aload_n 2, 1) := by decide +kernel
theorem own_d8_12 : decode jdk_38_method_24_code 12 = .ok (.iload_n 3, 1) := by decide +kernel
theorem own_d8_13 : decode jdk_38_method_24_code 13 = .ok (.aload_n 1, 1) := by decide +kernel
theorem own_d8_14 : decode jdk_38_method_24_code 14 = .ok (.aastore, 1) := by decide +kernel
theorem own_d8_15 : decode jdk_38_method_24_code 15 = .ok (.aload_n 0, 1) := by decide +kernel
theorem own_d8_16 : decode jdk_38_method_24_code 16 = .ok (.iload_n 3, 1) := by decide +kernel
theorem own_d8_17 : decode jdk_38_method_24_code 17 = .ok (.iconst 1, 1) := by decide +kernel
theorem own_d8_18 : decode jdk_38_method_24_code 18 = .ok (.iadd, 1) := by decide +kernel
theorem own_d8_19 : decode jdk_38_method_24_code 19 = .ok (.putfield 48, 3) := by decide +kernel
theorem own_d8_22 : decode jdk_38_method_24_code 22 = .ok (.return_, 1) := by decide +kernel
theorem own_efadi0 (m : MethodId) (a1 : Addr) (w : Addr) (dd : Addr) : entryFrame m #[(.ref a1), (.ref w), (.ref dd), (.int (0 : Int32))] 4 = mkF m 0 #[.val (.ref a1), .val (.ref w), .val (.ref dd), .val (.int (0 : Int32))] [] := by first | (simp [entryFrame, mkF, argsToLocals, Value.category]; done) | rfl
def own_Qadi0 (Z : State) (a1 : Addr) (w : Addr) (mc : Int32) (dd : Addr) (lz : Addr) (ez : Addr) (em : Addr) (mr : Addr) (h0 : Heap) (n0 : Nat) (v : Option Value) (h : Heap) (L : List Loc) : Prop := ∃ (el : Addr) (k : ClassId), v = none ∧ Fr n0 L ∧ Keep h0 h [a1] ∧ n0 ≤ el ∧ own_AL Z h a1 el (1 : Int32) mc ∧ own_Ar Z h el k 10 [(.ref w), .null, .null, .null, .null, .null, .null, .null, .null, .null]
set_option maxRecDepth 65536 in
set_option maxHeartbeats 40000000 in
theorem own_rmadi0 (l : Launch) (Z : State) (aw : Array Value) (hw : ∀ d ∈ tables_1, d.before aw Z = true) (ws : List Jvm.Cond) (a1 : Addr) (w : Addr) (mc : Int32) (dd : Addr) (lz : Addr) (ez : Addr) (em : Addr) (mr : Addr) (h0 : Heap) (n0 : Nat) (Z0 : n0 ≤ h0.size) (B0 : own_AL Z h0 a1 dd (0 : Int32) mc) (Ew : Exa Z h0 w "com/example/skyroster/skyroster/UsedWindow") (ga : n0 ≤ a1)  (O0 : Old Z n0 h0) (S0 : own_St Z dd lz ez em mr) :
    MetFree l (⟨"java/util/ArrayList", "add", "(Ljava/lang/Object;[Ljava/lang/Object;I)V"⟩ : MethodName) (head1 (Jvm.Cond.code (⟨"java/util/ArrayList", "add", "(Ljava/lang/Object;[Ljava/lang/Object;I)V"⟩ : MethodName) jdk_38_method_24_code 4 none :: ws) ({ frames := 3, cells := 1, slots := 10, locals := 60 } : Room)) (fun a U => a = #[(.ref a1), (.ref w), (.ref dd), (.int (0 : Int32))] ∧ Z.Warmed39 U.vm ∧ U.heap = h0) (fun _ _ _ _ _ => True) (fun _ U o U' => ∃ v L, o = .returned v ∧ own_Qadi0 Z a1 w mc dd lz ez em mr h0 n0 v U'.heap L ∧ FrameEnd U o U' L ({ frames := 3, cells := 1, slots := 10, locals := 60 } : Room).cells ({ frames := 3, cells := 1, slots := 10, locals := 60 } : Room).slots) := by
  refine own_met (Q := own_Qadi0 Z a1 w mc dd lz ez em mr h0 n0) (plainFor_of_name own_pn1) ?_
  intro p e s m below meth c s₁ K hx hby hml hown hnm hret hZ X0 e0 hK
  have hown : s.vm.findClass "java/util/ArrayList" = some m.cls := hown
  have N0 := Fr.nil n0
  refine own_by (fun t k => castTop (own_efadi0 m a1 w dd) k) ?_
  show own_Go p.tables e below K (s₁.setTop (mkF m 0 #[.val (.ref a1), .val (.ref w), .val (.ref dd), .val (.int (0 : Int32))] []))
  refine own_by (fun t k => XS.iloadN X0.here hx rfl (hb hby own_d8_0) rfl k) ?_
  show own_Go p.tables e below K (s₁.setTop (mkF m 1 #[.val (.ref a1), .val (.ref w), .val (.ref dd), .val (.int (0 : Int32))] [(.int (0 : Int32))]))
  refine own_by (fun t k => XS.aloadN X0.here hx rfl (hb hby own_d8_1) rfl rfl k) ?_
  show own_Go p.tables e below K (s₁.setTop (mkF m 2 #[.val (.ref a1), .val (.ref w), .val (.ref dd), .val (.int (0 : Int32))] [(.ref dd), (.int (0 : Int32))]))
  obtain ⟨cl19, Ar19, S19⟩ := id (S0.2.1.ext O0.2)
  refine own_by (fun t k => X0.arraylength hx (by rw [e0]; exact Ar19.1) (State.isArrayOf_alike hZ.alike Ar19.2.1) (g := (mkF m 2 #[.val (.ref a1), .val (.ref w), .val (.ref dd), .val (.int (0 : Int32))] [(.ref dd), (.int (0 : Int32))])) rfl rfl (hb hby own_d8_2) t k) ?_
  rw [S19]
  show own_Go p.tables e below K (s₁.setTop (mkF m 3 #[.val (.ref a1), .val (.ref w), .val (.ref dd), .val (.int (0 : Int32))] [(.int (0 : Int32)), (.int (0 : Int32))]))
  have hc3 : (0 : Int32) = (0 : Int32) := by decide
  refine own_by (fun t k => XS.icmpNo X0.here hx rfl (hb hby own_d8_3) rfl (teq hc3).2 k) ?_
  show own_Go p.tables e below K (s₁.setTop (mkF m 6 #[.val (.ref a1), .val (.ref w), .val (.ref dd), .val (.int (0 : Int32))] []))
  refine own_by (fun t k => XS.aloadN X0.here hx rfl (hb hby own_d8_6) rfl rfl k) ?_
  show own_Go p.tables e below K (s₁.setTop (mkF m 7 #[.val (.ref a1), .val (.ref w), .val (.ref dd), .val (.int (0 : Int32))] [(.ref a1)]))
  obtain ⟨cp20, kp20, pa20, -, -, pb20, -⟩ := id B0.1
  obtain ⟨_, _, ⟨T20, L20, k20, n20⟩, -, X20, ⟨Lc20, hQ20, l20, y20, z20⟩, st20⟩ := X0.privateBack hx (y := (⟨"java/util/ArrayList", "grow", "()[Ljava/lang/Object;"⟩ : MethodName)) hown (mvT hZ (hw _ (List.mem_of_getElem? (i := 58) rfl))) (mvT hZ (hw _ (List.mem_of_getElem? (i := 59) rfl))) (mvT hZ (hw _ (List.mem_of_getElem? (i := 61) rfl))) (Cond.privateMethod_at (args := #[]) (mvT hZ (hw _ (List.mem_of_getElem? (i := 60) rfl)))) (mvT hZ (hw _ (List.mem_of_getElem? (i := 62) rfl))) (by decide) (backOf (W := 0) (own_rmgr0 l Z aw hw [] a1 mc dd lz ez em mr h0 n0 Z0 B0 ga O0 S0) hZ (hw _ (List.mem_of_getElem? (i := 62) rfl)) (hw _ (List.mem_of_getElem? (i := 2) rfl)) (by decide) (by decide)) (g := (mkF m 7 #[.val (.ref a1), .val (.ref w), .val (.ref dd), .val (.int (0 : Int32))] [(.ref a1)])) rfl (by rw [hml]; rfl) (Steps.refl _) (a := a1) (by rw [e0]; exact pa20) (fun z q => by rw [q] at pb20; cases pb20) (argsL := []) (rest := []) (lenOf own_pd3 rfl) rfl (by show 2 * 0 + _ ≤ _; exact Nat.le_of_eq rfl) (hb hby own_d8_7) (fun _ _ => ⟨rfl, e0, (by decide : 0 + 1 ≤ _), (by decide : 0 + 10 ≤ _)⟩)
  dsimp only [Pt.U, Pt.locs, Pt.cells, Pt.slots] at X20 l20 y20 z20 st20 hQ20
  subst l20 y20 z20
  obtain ⟨el20, k20c, rfl, N20q, Kp20, gp20, sp20, Bp20, Ap20⟩ := hQ20
  have N20 := Fr.app N0 N20q
  refine own_by (fun t k => st20.trans k) ?_
  have Ex20_a1 := B0.1.keep Kp20
  have Ex20_w := Ew.keep Kp20
  have K20 := (Keep.refl h0 [a1]).trans Kp20 (allS (Or.inl (by simp)) (all0))
  have Z20 := Nat.le_trans Z0 Kp20.1
  have O20 := O0.keep Kp20 (allS ga (all0))
  have sz_el20 : h0.size ≤ el20 := sp20
  show own_Go p.tables e below K (T20.setTop (mkF m 10 #[.val (.ref a1), .val (.ref w), .val (.ref dd), .val (.int (0 : Int32))] [(.ref el20)]))
  refine own_by (fun t k => XS.astoreN X20.here hx rfl (hb hby own_d8_10) rfl rfl (l' := #[.val (.ref a1), .val (.ref w), .val (.ref el20), .val (.int (0 : Int32))]) rfl k) ?_
  show own_Go p.tables e below K (T20.setTop (mkF m 11 #[.val (.ref a1), .val (.ref w), .val (.ref el20), .val (.int (0 : Int32))] []))
  refine own_by (fun t k => XS.aloadN X20.here hx rfl (hb hby own_d8_11) rfl rfl k) ?_
  show own_Go p.tables e below K (T20.setTop (mkF m 12 #[.val (.ref a1), .val (.ref w), .val (.ref el20), .val (.int (0 : Int32))] [(.ref el20)]))
  refine own_by (fun t k => XS.iloadN X20.here hx rfl (hb hby own_d8_12) rfl k) ?_
  show own_Go p.tables e below K (T20.setTop (mkF m 13 #[.val (.ref a1), .val (.ref w), .val (.ref el20), .val (.int (0 : Int32))] [(.int (0 : Int32)), (.ref el20)]))
  refine own_by (fun t k => XS.aloadN X20.here hx rfl (hb hby own_d8_13) rfl rfl k) ?_
  show own_Go p.tables e below K (T20.setTop (mkF m 14 #[.val (.ref a1), .val (.ref w), .val (.ref el20), .val (.int (0 : Int32))] [(.ref w), (.int (0 : Int32)), (.ref el20)]))
  obtain ⟨⟨cl21, Ar21, q21, S21, M21, H21, U21⟩, Ea21, Ov21⟩ := id Ap20
  obtain ⟨T21, h21, X21, e21, W21, st21⟩ := stR X20 hx hZ rfl Ar21 (j := (0 : Int32)) (inb_of S21 ⟨by decide, by decide⟩) rfl (Sto.ofV Ar21 q21 Ov21 (Ins.of_exa Ex20_w (hw _ (List.mem_of_getElem? (i := 74) rfl)))) (g := (mkF m 14 #[.val (.ref a1), .val (.ref w), .val (.ref el20), .val (.int (0 : Int32))] [(.ref w), (.int (0 : Int32)), (.ref el20)])) rfl rfl (hb hby own_d8_14)
  refine own_by st21 ?_
  have xs21 : own_Ar Z h21 el20 k20c (10 : Int32) [(.ref w), .null, .null, .null, .null, .null, .null, .null, .null, .null] := ⟨Arv.set Ar21 q21 S21 M21 H21 U21 rfl W21 0 rfl (Nat.le_of_ble_eq_true rfl), Ea21.wr W21, Ov21⟩
  have F21_modCount_a1 := Bp20.2.1.other W21 (Or.inl (own_Ar.ne Bp20.1 Ap20 (hw _ (List.mem_of_getElem? (i := 1) rfl))))
  have F21_elementData_a1 := Bp20.2.2.1.other W21 (Or.inl (own_Ar.ne Bp20.1 Ap20 (hw _ (List.mem_of_getElem? (i := 1) rfl))))
  have F21_size_a1 := Bp20.2.2.2.other W21 (Or.inl (own_Ar.ne Bp20.1 Ap20 (hw _ (List.mem_of_getElem? (i := 1) rfl))))
  have Ex21_a1 := Bp20.1.wr W21
  have Ex21_w := Ex20_w.wr W21
  have K21 := K20.wr W21 (Or.inr sz_el20)
  have Z21 := Nat.le_trans Z20 (Keep.of_wr W21).1
  have O21 := O20.wr W21 gp20
  have N21 := Fr.snoc X21 N20 gp20
  show own_Go p.tables e below K (T21.setTop (mkF m 15 #[.val (.ref a1), .val (.ref w), .val (.ref el20), .val (.int (0 : Int32))] []))
  refine own_by (fun t k => XS.aloadN X21.here hx rfl (hb hby own_d8_15) rfl rfl k) ?_
  show own_Go p.tables e below K (T21.setTop (mkF m 16 #[.val (.ref a1), .val (.ref w), .val (.ref el20), .val (.int (0 : Int32))] [(.ref a1)]))
  refine own_by (fun t k => XS.iloadN X21.here hx rfl (hb hby own_d8_16) rfl k) ?_
  show own_Go p.tables e below K (T21.setTop (mkF m 17 #[.val (.ref a1), .val (.ref w), .val (.ref el20), .val (.int (0 : Int32))] [(.int (0 : Int32)), (.ref a1)]))
  refine own_by (fun t k => XS.iconst X21.here hx rfl (hb hby own_d8_17) k) ?_
  show own_Go p.tables e below K (T21.setTop (mkF m 18 #[.val (.ref a1), .val (.ref w), .val (.ref el20), .val (.int (0 : Int32))] [(.int (1 : Int32)), (.int (0 : Int32)), (.ref a1)]))
  refine own_by (fun t k => XS.iadd X21.here hx rfl (hb hby own_d8_18) rfl k) ?_
  show own_Go p.tables e below K (T21.setTop (mkF m 19 #[.val (.ref a1), .val (.ref w), .val (.ref el20), .val (.int (0 : Int32))] [(.int (1 : Int32)), (.ref a1)]))
  obtain ⟨T22, h22, X22, e22, W22, st22⟩ := putF X21 hx hZ hown (host := "") (Or.inl (hw _ (List.mem_of_getElem? (i := 51) rfl))) Via.refl e21 F21_size_a1 Ex21_a1 (Or.inl (hw _ (List.mem_of_getElem? (i := 52) rfl))) (hw _ (List.mem_of_getElem? (i := 1) rfl)) (ty := .int) (by decide) rfl rfl (g := (mkF m 19 #[.val (.ref a1), .val (.ref w), .val (.ref el20), .val (.int (0 : Int32))] [(.int (1 : Int32)), (.ref a1)])) rfl rfl (hb hby own_d8_19)
  refine own_by st22 ?_
  have F22_modCount_a1 := F21_modCount_a1.other W22 (Or.inr (slot_ne (Or.inl (hw _ (List.mem_of_getElem? (i := 22) rfl))) (Or.inl (hw _ (List.mem_of_getElem? (i := 52) rfl))) (by decide) (t := .int) (t' := .int) (by decide) (by decide)))
  have F22_elementData_a1 := F21_elementData_a1.other W22 (Or.inr (slot_ne (Or.inl (hw _ (List.mem_of_getElem? (i := 25) rfl))) (Or.inl (hw _ (List.mem_of_getElem? (i := 52) rfl))) (by decide) (t := (.array (.object "java/lang/Object"))) (t' := .int) (by decide) (by decide)))
  have F22_size_a1 := F21_size_a1.same W22
  have xa22_el20 := xs21.other W22 (Ne.symm (own_Ar.ne Ex21_a1 xs21 (hw _ (List.mem_of_getElem? (i := 1) rfl))))
  have Ex22_a1 := Ex21_a1.wr W22
  have Ex22_w := Ex21_w.wr W22
  have K22 := K21.wr W22 (Or.inl (by simp))
  have Z22 := Nat.le_trans Z21 (Keep.of_wr W22).1
  have O22 := O21.wr W22 ga
  have N22 := Fr.snoc X22 N21 ga
  show own_Go p.tables e below K (T22.setTop (mkF m 22 #[.val (.ref a1), .val (.ref w), .val (.ref el20), .val (.int (0 : Int32))] []))
  exact own_retV X22 hx hret (hb hby own_d8_22) (hK none X22 (fun _ => rfl) (by rw [e22]; exact ⟨_, _, rfl, N22, K22, gp20, ⟨Ex22_a1, F22_modCount_a1, F22_elementData_a1, F22_size_a1⟩, xa22_el20⟩) (by decide) (by decide))
theorem own_pd4 : parseMethodDescriptor "(Ljava/lang/Object;[Ljava/lang/Object;I)V" = some ⟨[(.object "java/lang/Object"), (.array (.object "java/lang/Object")), .int], none⟩ := by decide +kernel
theorem own_d7_0 : decode jdk_38_method_25_code 0 = .ok (.aload_n 0, 1) := by decide +kernel
theorem own_d7_1 : decode jdk_38_method_25_code 1 = .ok (.dup, 1) := by decide +kernel
theorem own_d7_2 : decode jdk_38_method_25_code 2 = .ok (.getfield 63, 3) := by decide +kernel
theorem own_d7_5 : decode jdk_38_method_25_code 5 = .ok (.iconst 1, 1) := by decide +kernel
theorem own_d7_6 : decode jdk_38_method_25_code 6 = .ok (.iadd, 1) := by decide +kernel
theorem own_d7_7 : decode jdk_38_method_25_code 7 = .ok (.putfield 63, 3) := by decide +kernel
theorem own_d7_10 : decode jdk_38_method_25_code 10 = .ok (.aload_n 0, 1) := by decide +kernel
theorem own_d7_11 : decode jdk_38_method_25_code 11 = .ok (.aload_n 1, 1) := by decide +kernel
theorem own_d7_12 : decode jdk_38_method_25_code 12 = .ok (.aload_n 0, 1) := by decide +kernel
theorem own_d7_13 : decode jdk_38_method_25_code 13 = .ok (.getfield 9, 3) := by decide +kernel
theorem own_d7_16 : decode jdk_38_method_25_code 16 = .ok (.aload_n 0, 1) := by decide +kernel
theorem own_d7_17 : decode jdk_38_method_25_code 17 = .ok (.getfield 48, 3) := by decide +kernel
theorem own_d7_20 : decode jdk_38_method_25_code 20 = .ok (.invokevirtual 131, 3) := by decide +kernel
theorem own_d7_23 : decode jdk_38_method_25_code 23 = .ok (.iconst 1, 1) := by decide +kernel
theorem own_d7_24 : decode jdk_38_method_25_code 24 = .ok (.ireturn, 1) := by decide +kernel
theorem own_efadd0 (m : MethodId) (a1 : Addr) (w : Addr) : entryFrame m #[(.ref a1), (.ref w)] 2 = mkF m 0 #[.val (.ref a1), .val (.ref w)] [] := by first | (simp [entryFrame, mkF, argsToLocals, Value.category]; done) | rfl
def own_Qadd0 (Z : State) (a1 : Addr) (w : Addr) (mc : Int32) (dd : Addr) (lz : Addr) (ez : Addr) (em : Addr) (mr : Addr) (h0 : Heap) (n0 : Nat) (v : Option Value) (h : Heap) (L : List Loc) : Prop := ∃ (el : Addr) (k : ClassId), v = (some (.int (1 : Int32))) ∧ Fr n0 L ∧ Keep h0 h [a1] ∧ n0 ≤ el ∧ own_AL Z h a1 el (1 : Int32) (mc + 1) ∧ own_Ar Z h el k 10 [(.ref w), .null, .null, .null, .null, .null, .null, .null, .null, .null]
set_option maxRecDepth 65536 in
set_option maxHeartbeats 40000000 in
theorem own_rmadd0 (l : Launch) (Z : State) (aw : Array Value) (hw : ∀ d ∈ tables_1, d.before aw Z = true) (ws : List Jvm.Cond) (a1 : Addr) (w : Addr) (mc : Int32) (dd : Addr) (lz : Addr) (ez : Addr) (em : Addr) (mr : Addr) (h0 : Heap) (n0 : Nat) (Z0 : n0 ≤ h0.size) (B0 : own_AL Z h0 a1 dd (0 : Int32) mc) (Ew : Exa Z h0 w "com/example/skyroster/skyroster/UsedWindow") (ga : n0 ≤ a1)  (O0 : Old Z n0 h0) (S0 : own_St Z dd lz ez em mr) :
    MetFree l (⟨"java/util/ArrayList", "add", "(Ljava/lang/Object;)Z"⟩ : MethodName) (head1 (Jvm.Cond.code (⟨"java/util/ArrayList", "add", "(Ljava/lang/Object;)Z"⟩ : MethodName) jdk_38_method_25_code 2 (some .boolean) :: ws) ({ frames := 4, cells := 1, slots := 10, locals := 80 } : Room)) (fun a U => a = #[(.ref a1), (.ref w)] ∧ Z.Warmed39 U.vm ∧ U.heap = h0) (fun _ _ _ _ _ => True) (fun _ U o U' => ∃ v L, o = .returned v ∧ own_Qadd0 Z a1 w mc dd lz ez em mr h0 n0 v U'.heap L ∧ FrameEnd U o U' L ({ frames := 4, cells := 1, slots := 10, locals := 80 } : Room).cells ({ frames := 4, cells := 1, slots := 10, locals := 80 } : Room).slots) := by
  refine own_met (Q := own_Qadd0 Z a1 w mc dd lz ez em mr h0 n0) (plainFor_of_name own_pn1) ?_
  intro p e s m below meth c s₁ K hx hby hml hown hnm hret hZ X0 e0 hK
  have hown : s.vm.findClass "java/util/ArrayList" = some m.cls := hown
  have N0 := Fr.nil n0
  refine own_by (fun t k => castTop (own_efadd0 m a1 w) k) ?_
  show own_Go p.tables e below K (s₁.setTop (mkF m 0 #[.val (.ref a1), .val (.ref w)] []))
  refine own_by (fun t k => XS.aloadN X0.here hx rfl (hb hby own_d7_0) rfl rfl k) ?_
  show own_Go p.tables e below K (s₁.setTop (mkF m 1 #[.val (.ref a1), .val (.ref w)] [(.ref a1)]))
  refine own_by (fun t k => XS.dup X0.here hx rfl (hb hby own_d7_1) rfl rfl k) ?_
  show own_Go p.tables e below K (s₁.setTop (mkF m 2 #[.val (.ref a1), .val (.ref w)] [(.ref a1), (.ref a1)]))
  obtain ⟨T23, X23, e23, st23⟩ := getF X0 hx hZ hown (host := "") (Or.inl (hw _ (List.mem_of_getElem? (i := 49) rfl))) (Via.of (hw _ (List.mem_of_getElem? (i := 50) rfl))) e0 B0.2.1 (g := (mkF m 2 #[.val (.ref a1), .val (.ref w)] [(.ref a1), (.ref a1)])) rfl rfl (hb hby own_d7_2)
  refine own_by st23 ?_
  show own_Go p.tables e below K (T23.setTop (mkF m 5 #[.val (.ref a1), .val (.ref w)] [(.int mc), (.ref a1)]))
  refine own_by (fun t k => XS.iconst X23.here hx rfl (hb hby own_d7_5) k) ?_
  show own_Go p.tables e below K (T23.setTop (mkF m 6 #[.val (.ref a1), .val (.ref w)] [(.int (1 : Int32)), (.int mc), (.ref a1)]))
  refine own_by (fun t k => XS.iadd X23.here hx rfl (hb hby own_d7_6) rfl k) ?_
  show own_Go p.tables e below K (T23.setTop (mkF m 7 #[.val (.ref a1), .val (.ref w)] [(.int (mc + (1 : Int32))), (.ref a1)]))
  obtain ⟨T24, h24, X24, e24, W24, st24⟩ := putF X23 hx hZ hown (host := "") (Or.inl (hw _ (List.mem_of_getElem? (i := 49) rfl))) (Via.of (hw _ (List.mem_of_getElem? (i := 50) rfl))) e23 B0.2.1 B0.1 (Or.inl (hw _ (List.mem_of_getElem? (i := 22) rfl))) (hw _ (List.mem_of_getElem? (i := 1) rfl)) (ty := .int) (by decide) rfl rfl (g := (mkF m 7 #[.val (.ref a1), .val (.ref w)] [(.int (mc + (1 : Int32))), (.ref a1)])) rfl rfl (hb hby own_d7_7)
  refine own_by st24 ?_
  have F24_modCount_a1 := B0.2.1.same W24
  have F24_elementData_a1 := B0.2.2.1.other W24 (Or.inr (slot_ne (Or.inl (hw _ (List.mem_of_getElem? (i := 25) rfl))) (Or.inl (hw _ (List.mem_of_getElem? (i := 22) rfl))) (by decide) (t := (.array (.object "java/lang/Object"))) (t' := .int) (by decide) (by decide)))
  have F24_size_a1 := B0.2.2.2.other W24 (Or.inr (slot_ne (Or.inl (hw _ (List.mem_of_getElem? (i := 52) rfl))) (Or.inl (hw _ (List.mem_of_getElem? (i := 22) rfl))) (by decide) (t := .int) (t' := .int) (by decide) (by decide)))
  have Ex24_a1 := B0.1.wr W24
  have Ex24_w := Ew.wr W24
  have K24 := (Keep.refl h0 [a1]).wr W24 (Or.inl (by simp))
  have Z24 := Nat.le_trans Z0 (Keep.of_wr W24).1
  have O24 := O0.wr W24 ga
  have N24 := Fr.snoc X24 N0 ga
  show own_Go p.tables e below K (T24.setTop (mkF m 10 #[.val (.ref a1), .val (.ref w)] []))
  refine own_by (fun t k => XS.aloadN X24.here hx rfl (hb hby own_d7_10) rfl rfl k) ?_
  show own_Go p.tables e below K (T24.setTop (mkF m 11 #[.val (.ref a1), .val (.ref w)] [(.ref a1)]))
  refine own_by (fun t k => XS.aloadN X24.here hx rfl (hb hby own_d7_11) rfl rfl k) ?_
  show own_Go p.tables e below K (T24.setTop (mkF m 12 #[.val (.ref a1), .val (.ref w)] [(.ref w), (.ref a1)]))
  refine own_by (fun t k => XS.aloadN X24.here hx rfl (hb hby own_d7_12) rfl rfl k) ?_
  show own_Go p.tables e below K (T24.setTop (mkF m 13 #[.val (.ref a1), .val (.ref w)] [(.ref a1), (.ref w), (.ref a1)]))
  obtain ⟨T25, X25, e25, st25⟩ := getF X24 hx hZ hown (host := "") (Or.inl (hw _ (List.mem_of_getElem? (i := 24) rfl))) Via.refl e24 F24_elementData_a1 (g := (mkF m 13 #[.val (.ref a1), .val (.ref w)] [(.ref a1), (.ref w), (.ref a1)])) rfl rfl (hb hby own_d7_13)
  refine own_by st25 ?_
  show own_Go p.tables e below K (T25.setTop (mkF m 16 #[.val (.ref a1), .val (.ref w)] [(.ref dd), (.ref w), (.ref a1)]))
  refine own_by (fun t k => XS.aloadN X25.here hx rfl (hb hby own_d7_16) rfl rfl k) ?_
  show own_Go p.tables e below K (T25.setTop (mkF m 17 #[.val (.ref a1), .val (.ref w)] [(.ref a1), (.ref dd), (.ref w), (.ref a1)]))
  obtain ⟨T26, X26, e26, st26⟩ := getF X25 hx hZ hown (host := "") (Or.inl (hw _ (List.mem_of_getElem? (i := 51) rfl))) Via.refl e25 F24_size_a1 (g := (mkF m 17 #[.val (.ref a1), .val (.ref w)] [(.ref a1), (.ref dd), (.ref w), (.ref a1)])) rfl rfl (hb hby own_d7_17)
  refine own_by st26 ?_
  show own_Go p.tables e below K (T26.setTop (mkF m 20 #[.val (.ref a1), .val (.ref w)] [(.int (0 : Int32)), (.ref dd), (.ref w), (.ref a1)]))
  obtain ⟨cp27, kp27, pa27, -, -, pb27, -⟩ := id Ex24_a1
  obtain ⟨_, _, ⟨T27, L27, k27, n27⟩, -, X27, ⟨Lc27, hQ27, l27, y27, z27⟩, st27⟩ := X26.privateBack hx (y := (⟨"java/util/ArrayList", "add", "(Ljava/lang/Object;[Ljava/lang/Object;I)V"⟩ : MethodName)) hown (mvT hZ (hw _ (List.mem_of_getElem? (i := 53) rfl))) (mvT hZ (hw _ (List.mem_of_getElem? (i := 54) rfl))) (mvT hZ (hw _ (List.mem_of_getElem? (i := 56) rfl))) (Cond.privateMethod_at (args := #[]) (mvT hZ (hw _ (List.mem_of_getElem? (i := 55) rfl)))) (mvT hZ (hw _ (List.mem_of_getElem? (i := 57) rfl))) (by decide) (backOf (W := 0) (own_rmadi0 l Z aw hw [] a1 w (mc + 1) dd lz ez em mr h24 n0 Z24 ⟨Ex24_a1, F24_modCount_a1, F24_elementData_a1, F24_size_a1⟩ Ex24_w ga O24 S0) hZ (hw _ (List.mem_of_getElem? (i := 57) rfl)) (hw _ (List.mem_of_getElem? (i := 2) rfl)) (by decide) (by decide)) (g := (mkF m 20 #[.val (.ref a1), .val (.ref w)] [(.int (0 : Int32)), (.ref dd), (.ref w), (.ref a1)])) rfl (by rw [hml]; rfl) (Steps.refl _) (a := a1) (by rw [e26]; exact pa27) (fun z q => by rw [q] at pb27; cases pb27) (argsL := [(.ref w), (.ref dd), (.int (0 : Int32))]) (rest := []) (lenOf own_pd4 rfl) rfl (by show 2 * 0 + _ ≤ _; exact Nat.le_of_eq rfl) (hb hby own_d7_20) (fun _ _ => ⟨rfl, e26, (by decide : 0 + 1 ≤ _), (by decide : 0 + 10 ≤ _)⟩)
  dsimp only [Pt.U, Pt.locs, Pt.cells, Pt.slots] at X27 l27 y27 z27 st27 hQ27
  subst l27 y27 z27
  obtain ⟨el27, k27c, rfl, N27q, Kp27, r27⟩ := hQ27
  have N27 := Fr.app N24 N27q
  refine own_by (fun t k => st27.trans k) ?_
  have Ex27_a1 := Ex24_a1.keep Kp27
  have Ex27_w := Ex24_w.keep Kp27
  have K27 := K24.trans Kp27 (allS (Or.inl (by simp)) (all0))
  have Z27 := Nat.le_trans Z24 Kp27.1
  have O27 := O24.keep Kp27 (allS ga (all0))
  show own_Go p.tables e below K (T27.setTop (mkF m 23 #[.val (.ref a1), .val (.ref w)] []))
  refine own_by (fun t k => XS.iconst X27.here hx rfl (hb hby own_d7_23) k) ?_
  show own_Go p.tables e below K (T27.setTop (mkF m 24 #[.val (.ref a1), .val (.ref w)] [(.int (1 : Int32))]))
  exact own_retZ X27 hx (t := .boolean) hret (by simp) (hb hby own_d7_24) (hK (some (.int (1 : Int32))) X27 (fun h => by rw [hret] at h; cases h) (⟨_, _, rfl, N27, K27, r27⟩) (by decide) (by decide))
theorem own_d15_0 : decode jdk_38_method_9_code 0 = .ok (.aload_n 0, 1) := by decide +kernel
theorem own_d15_1 : decode jdk_38_method_9_code 1 = .ok (.getfield 48, 3) := by decide +kernel
theorem own_d15_4 : decode jdk_38_method_9_code 4 = .ok (.ifCond .ne 7, 3) := by decide +kernel
theorem own_d15_7 : decode jdk_38_method_9_code 7 = .ok (.iconst 1, 1) := by decide +kernel
theorem own_d15_8 : decode jdk_38_method_9_code 8 = .ok (.goto 4, 3) := by decide +kernel
theorem own_d15_11 : decode jdk_38_method_9_code 11 = .ok (.iconst 0, 1) := by decide +kernel
theorem own_d15_12 : decode jdk_38_method_9_code 12 = .ok (.ireturn, 1) := by decide +kernel
theorem own_efise (m : MethodId) (a1 : Addr) : entryFrame m #[(.ref a1)] 1 = mkF m 0 #[.val (.ref a1)] [] := by first | (simp [entryFrame, mkF, argsToLocals, Value.category]; done) | rfl
def own_Qise (Z : State) (a1 : Addr) (el : Addr) (n : Int32) (mc : Int32) (h0 : Heap) (n0 : Nat) (v : Option Value) (h : Heap) (L : List Loc) : Prop := v = some (.int (own_zI n)) ∧ Fr n0 L ∧ h = h0
set_option maxRecDepth 65536 in
set_option maxHeartbeats 40000000 in
theorem own_rmise (l : Launch) (Z : State) (aw : Array Value) (hw : ∀ d ∈ tables_1, d.before aw Z = true) (ws : List Jvm.Cond) (a1 : Addr) (el : Addr) (n : Int32) (mc : Int32) (h0 : Heap) (n0 : Nat) (Z0 : n0 ≤ h0.size) (B0 : own_AL Z h0 a1 el n mc) :
    MetFree l (⟨"java/util/ArrayList", "isEmpty", "()Z"⟩ : MethodName) (head1 (Jvm.Cond.code (⟨"java/util/ArrayList", "isEmpty", "()Z"⟩ : MethodName) jdk_38_method_9_code 1 (some .boolean) :: ws) ({ frames := 0, cells := 0, slots := 0, locals := 0 } : Room)) (fun a U => a = #[(.ref a1)] ∧ Z.Warmed39 U.vm ∧ U.heap = h0) (fun _ _ _ _ _ => True) (fun _ U o U' => ∃ v L, o = .returned v ∧ own_Qise Z a1 el n mc h0 n0 v U'.heap L ∧ FrameEnd U o U' L ({ frames := 0, cells := 0, slots := 0, locals := 0 } : Room).cells ({ frames := 0, cells := 0, slots := 0, locals := 0 } : Room).slots) := by
  refine own_met (Q := own_Qise Z a1 el n mc h0 n0) (plainFor_of_name own_pn1) ?_
  intro p e s m below meth c s₁ K hx hby hml hown hnm hret hZ X0 e0 hK
  have hown : s.vm.findClass "java/util/ArrayList" = some m.cls := hown
  have N0 := Fr.nil n0
  refine own_by (fun t k => castTop (own_efise m a1) k) ?_
  show own_Go p.tables e below K (s₁.setTop (mkF m 0 #[.val (.ref a1)] []))
  refine own_by (fun t k => XS.aloadN X0.here hx rfl (hb hby own_d15_0) rfl rfl k) ?_
  show own_Go p.tables e below K (s₁.setTop (mkF m 1 #[.val (.ref a1)] [(.ref a1)]))
  obtain ⟨T28, X28, e28, st28⟩ := getF X0 hx hZ hown (host := "") (Or.inl (hw _ (List.mem_of_getElem? (i := 51) rfl))) Via.refl e0 B0.2.2.2 (g := (mkF m 1 #[.val (.ref a1)] [(.ref a1)])) rfl rfl (hb hby own_d15_1)
  refine own_by st28 ?_
  show own_Go p.tables e below K (T28.setTop (mkF m 4 #[.val (.ref a1)] [(.int n)]))
  by_cases hc4 : n = (0 : Int32)
  · refine own_by (fun t k => XS.ifNo X28.here hx rfl (hb hby own_d15_4) rfl ((if0 _ _).trans (teq hc4).2) k) ?_
    show own_Go p.tables e below K (T28.setTop (mkF m 7 #[.val (.ref a1)] []))
    refine own_by (fun t k => XS.iconst X28.here hx rfl (hb hby own_d15_7) k) ?_
    show own_Go p.tables e below K (T28.setTop (mkF m 8 #[.val (.ref a1)] [(.int (1 : Int32))]))
    refine own_by (fun t k => XS.goto X28.here hx rfl (pc0 := 8) (pc' := 12) rfl (hb hby own_d15_8) (by decide) (by decide) k) ?_
    show own_Go p.tables e below K (T28.setTop (mkF m 12 #[.val (.ref a1)] [(.int (1 : Int32))]))
    exact own_retZ X28 hx (t := .boolean) hret (by simp) (hb hby own_d15_12) (hK (some (.int (nar .boolean (1 : Int32)))) X28 (fun h => by rw [hret] at h; cases h) (⟨by simp [own_zI, *]; rfl, N0, e28⟩) (by decide) (by decide))
  · refine own_by (fun t k => XS.ifYes X28.here hx rfl (pc0 := 4) (pc' := 11) rfl (hb hby own_d15_4) rfl ((if0 _ _).trans (feq hc4).2) (by decide) (by decide) k) ?_
    show own_Go p.tables e below K (T28.setTop (mkF m 11 #[.val (.ref a1)] []))
    refine own_by (fun t k => XS.iconst X28.here hx rfl (hb hby own_d15_11) k) ?_
    show own_Go p.tables e below K (T28.setTop (mkF m 12 #[.val (.ref a1)] [(.int (0 : Int32))]))
    exact own_retZ X28 hx (t := .boolean) hret (by simp) (hb hby own_d15_12) (hK (some (.int (nar .boolean (0 : Int32)))) X28 (fun h => by rw [hret] at h; cases h) (⟨by simp [own_zI, *]; rfl, N0, e28⟩) (by decide) (by decide))
theorem own_pn16 : plainName "java/util/List" = true := by first | (simp [plainName, overriddenIn]; done) | decide +kernel
theorem own_d16_0 : decode jdk_40_method_36_code 0 = .ok (.getstatic 90, 3) := by decide +kernel
theorem own_d16_3 : decode jdk_40_method_36_code 3 = .ok (.areturn, 1) := by decide +kernel
theorem own_efof0 (m : MethodId)  : entryFrame m #[] 0 = mkF m 0 #[] [] := by first | (simp [entryFrame, mkF, argsToLocals, Value.category]; done) | rfl
def own_Qof0 (Z : State) (dd : Addr) (lz : Addr) (ez : Addr) (em : Addr) (mr : Addr) (h0 : Heap) (n0 : Nat) (v : Option Value) (h : Heap) (L : List Loc) : Prop := v = some (.ref lz) ∧ Fr n0 L ∧ h = h0
set_option maxRecDepth 65536 in
set_option maxHeartbeats 40000000 in
theorem own_rmof0 (l : Launch) (Z : State) (aw : Array Value) (hw : ∀ d ∈ tables_1, d.before aw Z = true) (ws : List Jvm.Cond) (dd : Addr) (lz : Addr) (ez : Addr) (em : Addr) (mr : Addr) (h0 : Heap) (n0 : Nat) (Z0 : n0 ≤ h0.size) (O0 : Old Z n0 h0) (S0 : own_St Z dd lz ez em mr) :
    MetFree l (⟨"java/util/List", "of", "()Ljava/util/List;"⟩ : MethodName) (head1 (Jvm.Cond.code (⟨"java/util/List", "of", "()Ljava/util/List;"⟩ : MethodName) jdk_40_method_36_code 0 (some (.object "java/util/List")) :: ws) ({ frames := 0, cells := 0, slots := 0, locals := 0 } : Room)) (fun a U => a = #[] ∧ Z.Warmed39 U.vm ∧ U.heap = h0) (fun _ _ _ _ _ => True) (fun _ U o U' => ∃ v L, o = .returned v ∧ own_Qof0 Z dd lz ez em mr h0 n0 v U'.heap L ∧ FrameEnd U o U' L ({ frames := 0, cells := 0, slots := 0, locals := 0 } : Room).cells ({ frames := 0, cells := 0, slots := 0, locals := 0 } : Room).slots) := by
  refine own_met (Q := own_Qof0 Z dd lz ez em mr h0 n0) (plainFor_of_name own_pn16) ?_
  intro p e s m below meth c s₁ K hx hby hml hown hnm hret hZ X0 e0 hK
  have hown : s.vm.findClass "java/util/List" = some m.cls := hown
  have N0 := Fr.nil n0
  refine own_by (fun t k => castTop (own_efof0 m ) k) ?_
  show own_Go p.tables e below K (s₁.setTop (mkF m 0 #[] []))
  obtain ⟨T29, X29, e29, st29⟩ := getS2 X0 hx hZ hown (host := "") (Or.inl (hw _ (List.mem_of_getElem? (i := 117) rfl))) Via.refl e0 (S0.2.2.1.ext O0.2) (g := (mkF m 0 #[] [])) rfl (hb hby own_d16_0)
  refine own_by st29 ?_
  show own_Go p.tables e below K (T29.setTop (mkF m 3 #[] [(.ref lz)]))
  exact own_retA X29 hx hret rfl rfl rfl (hb hby own_d16_3) (hK (some (.ref lz)) X29 (fun h => by rw [hret] at h; cases h) (⟨rfl, N0, e29⟩) (by decide) (by decide))
theorem own_pn25 : plainName "java/util/Objects" = true := by first | (simp [plainName, overriddenIn]; done) | decide +kernel
theorem own_d25_0 : decode jdk_31_method_10_code 0 = .ok (.aload_n 0, 1) := by decide +kernel
theorem own_d25_1 : decode jdk_31_method_10_code 1 = .ok (.ifnonnull 11, 3) := by decide +kernel
theorem own_d25_12 : decode jdk_31_method_10_code 12 = .ok (.aload_n 0, 1) := by decide +kernel
theorem own_d25_13 : decode jdk_31_method_10_code 13 = .ok (.areturn, 1) := by decide +kernel
theorem own_efrnn (m : MethodId) (r1 : Addr) : entryFrame m #[(.ref r1)] 1 = mkF m 0 #[.val (.ref r1)] [] := by first | (simp [entryFrame, mkF, argsToLocals, Value.category]; done) | rfl
def own_Qrnn (Z : State) (r1 : Addr) (h0 : Heap) (n0 : Nat) (v : Option Value) (h : Heap) (L : List Loc) : Prop := v = some (.ref r1) ∧ Fr n0 L ∧ h = h0
set_option maxRecDepth 65536 in
set_option maxHeartbeats 40000000 in
theorem own_rmrnn (l : Launch) (Z : State) (aw : Array Value) (hw : ∀ d ∈ tables_1, d.before aw Z = true) (ws : List Jvm.Cond) (r1 : Addr) (h0 : Heap) (n0 : Nat) (Z0 : n0 ≤ h0.size)  :
    MetFree l (⟨"java/util/Objects", "requireNonNull", "(Ljava/lang/Object;)Ljava/lang/Object;"⟩ : MethodName) (head1 (Jvm.Cond.code (⟨"java/util/Objects", "requireNonNull", "(Ljava/lang/Object;)Ljava/lang/Object;"⟩ : MethodName) jdk_31_method_10_code 1 (some (.object "java/lang/Object")) :: ws) ({ frames := 0, cells := 0, slots := 0, locals := 0 } : Room)) (fun a U => a = #[(.ref r1)] ∧ Z.Warmed39 U.vm ∧ U.heap = h0) (fun _ _ _ _ _ => True) (fun _ U o U' => ∃ v L, o = .returned v ∧ own_Qrnn Z r1 h0 n0 v U'.heap L ∧ FrameEnd U o U' L ({ frames := 0, cells := 0, slots := 0, locals := 0 } : Room).cells ({ frames := 0, cells := 0, slots := 0, locals := 0 } : Room).slots) := by
  refine own_met (Q := own_Qrnn Z r1 h0 n0) (plainFor_of_name own_pn25) ?_
  intro p e s m below meth c s₁ K hx hby hml hown hnm hret hZ X0 e0 hK
  have hown : s.vm.findClass "java/util/Objects" = some m.cls := hown
  have N0 := Fr.nil n0
  refine own_by (fun t k => castTop (own_efrnn m r1) k) ?_
  show own_Go p.tables e below K (s₁.setTop (mkF m 0 #[.val (.ref r1)] []))
  refine own_by (fun t k => XS.aloadN X0.here hx rfl (hb hby own_d25_0) rfl rfl k) ?_
  show own_Go p.tables e below K (s₁.setTop (mkF m 1 #[.val (.ref r1)] [(.ref r1)]))
  refine own_by (fun t k => XS.ifnonnullYes X0.here hx rfl (pc0 := 1) (pc' := 12) rfl (hb hby own_d25_1) rfl (by decide) (by decide) k) ?_
  show own_Go p.tables e below K (s₁.setTop (mkF m 12 #[.val (.ref r1)] []))
  refine own_by (fun t k => XS.aloadN X0.here hx rfl (hb hby own_d25_12) rfl rfl k) ?_
  show own_Go p.tables e below K (s₁.setTop (mkF m 13 #[.val (.ref r1)] [(.ref r1)]))
  exact own_retA X0 hx hret rfl rfl rfl (hb hby own_d25_13) (hK (some (.ref r1)) X0 (fun h => by rw [hret] at h; cases h) (⟨rfl, N0, e0⟩) (by decide) (by decide))
theorem own_pd5 : parseMethodDescriptor "(Ljava/lang/Object;)Ljava/lang/Object;" = some ⟨[(.object "java/lang/Object")], some (.object "java/lang/Object")⟩ := by decide +kernel
theorem own_pn22 : plainName "java/util/ImmutableCollections$List12" = true := by first | (simp [plainName, overriddenIn]; done) | decide +kernel
theorem own_d22_0 : decode jdk_44_method_1_code 0 = .ok (.aload_n 0, 1) := by decide +kernel
theorem own_d22_1 : decode jdk_44_method_1_code 1 = .ok (.invokespecial 1, 3) := by decide +kernel
theorem own_d22_4 : decode jdk_44_method_1_code 4 = .ok (.aload_n 0, 1) := by decide +kernel
theorem own_d22_5 : decode jdk_44_method_1_code 5 = .ok (.aload_n 1, 1) := by decide +kernel
theorem own_d22_6 : decode jdk_44_method_1_code 6 = .ok (.invokestatic 7, 3) := by decide +kernel
theorem own_d22_9 : decode jdk_44_method_1_code 9 = .ok (.putfield 13, 3) := by decide +kernel
theorem own_d22_12 : decode jdk_44_method_1_code 12 = .ok (.aload_n 0, 1) := by decide +kernel
theorem own_d22_13 : decode jdk_44_method_1_code 13 = .ok (.getstatic 19, 3) := by decide +kernel
theorem own_d22_16 : decode jdk_44_method_1_code 16 = .ok (.putfield 24, 3) := by decide +kernel
theorem own_d22_19 : decode jdk_44_method_1_code 19 = .ok (.return_, 1) := by decide +kernel
theorem own_efl1i (m : MethodId) (a1 : Addr) (r1 : Addr) : entryFrame m #[(.ref a1), (.ref r1)] 2 = mkF m 0 #[.val (.ref a1), .val (.ref r1)] [] := by first | (simp [entryFrame, mkF, argsToLocals, Value.category]; done) | rfl
def own_Ql1i (Z : State) (a1 : Addr) (r1 : Addr) (dd : Addr) (lz : Addr) (ez : Addr) (em : Addr) (mr : Addr) (h0 : Heap) (n0 : Nat) (v : Option Value) (h : Heap) (L : List Loc) : Prop := v = none ∧ Fr n0 L ∧ Keep h0 h [a1] ∧ Exa Z h a1 "java/util/ImmutableCollections$List12" ∧ Fld Z h a1 "java/util/ImmutableCollections$List12" "e1" "Ljava/lang/Object;" (.ref em)
set_option maxRecDepth 65536 in
set_option maxHeartbeats 40000000 in
theorem own_rml1i (l : Launch) (Z : State) (aw : Array Value) (hw : ∀ d ∈ tables_1, d.before aw Z = true) (ws : List Jvm.Cond) (a1 : Addr) (r1 : Addr) (dd : Addr) (lz : Addr) (ez : Addr) (em : Addr) (mr : Addr) (h0 : Heap) (n0 : Nat) (Z0 : n0 ≤ h0.size) (E0 : Exa Z h0 a1 "java/util/ImmutableCollections$List12") (ga : n0 ≤ a1) (F0_e0 : Fld Z h0 a1 "java/util/ImmutableCollections$List12" "e0" "Ljava/lang/Object;" .null) (F0_e1 : Fld Z h0 a1 "java/util/ImmutableCollections$List12" "e1" "Ljava/lang/Object;" .null) (O0 : Old Z n0 h0) (S0 : own_St Z dd lz ez em mr) :
    MetFree l (⟨"java/util/ImmutableCollections$List12", "<init>", "(Ljava/lang/Object;)V"⟩ : MethodName) (head1 (Jvm.Cond.code (⟨"java/util/ImmutableCollections$List12", "<init>", "(Ljava/lang/Object;)V"⟩ : MethodName) jdk_44_method_1_code 2 none :: ws) ({ frames := 4, cells := 0, slots := 0, locals := 50 } : Room)) (fun a U => a = #[(.ref a1), (.ref r1)] ∧ Z.Warmed39 U.vm ∧ U.heap = h0) (fun _ _ _ _ _ => True) (fun _ U o U' => ∃ v L, o = .returned v ∧ own_Ql1i Z a1 r1 dd lz ez em mr h0 n0 v U'.heap L ∧ FrameEnd U o U' L ({ frames := 4, cells := 0, slots := 0, locals := 50 } : Room).cells ({ frames := 4, cells := 0, slots := 0, locals := 50 } : Room).slots) := by
  refine own_met (Q := own_Ql1i Z a1 r1 dd lz ez em mr h0 n0) (plainFor_of_name own_pn22) ?_
  intro p e s m below meth c s₁ K hx hby hml hown hnm hret hZ X0 e0 hK
  have hown : s.vm.findClass "java/util/ImmutableCollections$List12" = some m.cls := hown
  have hnm : meth.name = "<init>" := hnm
  have N0 := Fr.nil n0
  refine own_by (fun t k => castTop (own_efl1i m a1 r1) k) ?_
  show own_Go p.tables e below K (s₁.setTop (mkF m 0 #[.val (.ref a1), .val (.ref r1)] []))
  refine own_by (fun t k => XS.aloadN X0.here hx rfl (hb hby own_d22_0) rfl rfl k) ?_
  show own_Go p.tables e below K (s₁.setTop (mkF m 1 #[.val (.ref a1), .val (.ref r1)] [(.ref a1)]))
  obtain ⟨_, _, ⟨T30, L30, k30, n30⟩, -, X30, ⟨Lc30, hQ30, l30, y30, z30⟩, st30⟩ := X0.specialBack hx (y := (⟨"java/util/ImmutableCollections$AbstractImmutableList", "<init>", "()V"⟩ : MethodName)) rfl hown (mvT hZ (hw _ (List.mem_of_getElem? (i := 158) rfl))) (mvT hZ (hw _ (List.mem_of_getElem? (i := 159) rfl))) (mvT hZ (hw _ (List.mem_of_getElem? (i := 163) rfl))) (by decide) (backOf (W := 0) (own_rmail l Z aw hw [] a1 h0 n0 Z0) hZ (hw _ (List.mem_of_getElem? (i := 163) rfl)) (hw _ (List.mem_of_getElem? (i := 162) rfl)) (by decide) (by decide)) (g := (mkF m 1 #[.val (.ref a1), .val (.ref r1)] [(.ref a1)])) rfl (by rw [hml]; rfl) (Steps.refl _) (a := a1) (argsL := []) (rest := []) (lenOf own_pd0 rfl) rfl (by show 2 * 0 + _ ≤ _; exact Nat.le_of_eq rfl) (hb hby own_d22_1) (fun _ _ => ⟨rfl, e0, (by decide : 0 + 0 ≤ _), (by decide : 0 + 0 ≤ _)⟩)
  dsimp only [Pt.U, Pt.locs, Pt.cells, Pt.slots] at X30 l30 y30 z30 st30 hQ30
  subst l30 y30 z30
  obtain ⟨rfl, N30q, e30⟩ := hQ30
  have N30 := Fr.app N0 N30q
  refine own_by (fun t k => st30.trans k) ?_
  show own_Go p.tables e below K (T30.setTop (mkF m 4 #[.val (.ref a1), .val (.ref r1)] []))
  refine own_by (fun t k => XS.aloadN X30.here hx rfl (hb hby own_d22_4) rfl rfl k) ?_
  show own_Go p.tables e below K (T30.setTop (mkF m 5 #[.val (.ref a1), .val (.ref r1)] [(.ref a1)]))
  refine own_by (fun t k => XS.aloadN X30.here hx rfl (hb hby own_d22_5) rfl rfl k) ?_
  show own_Go p.tables e below K (T30.setTop (mkF m 6 #[.val (.ref a1), .val (.ref r1)] [(.ref r1), (.ref a1)]))
  obtain ⟨_, _, ⟨T31, L31, k31, n31⟩, -, X31, ⟨Lc31, hQ31, l31, y31, z31⟩, st31⟩ := Jvm.LawKit.callS X30 hx (y := (⟨"java/util/Objects", "requireNonNull", "(Ljava/lang/Object;)Ljava/lang/Object;"⟩ : MethodName)) hown (mvT hZ (hw _ (List.mem_of_getElem? (i := 172) rfl))) (mvT hZ (hw _ (List.mem_of_getElem? (i := 173) rfl))) (mvT hZ (hw _ (List.mem_of_getElem? (i := 174) rfl))) (mvT hZ (hw _ (List.mem_of_getElem? (i := 175) rfl))) (by decide) (backOf (W := 1) (own_rmrnn l Z aw hw [] r1 h0 n0 Z0) hZ (hw _ (List.mem_of_getElem? (i := 175) rfl)) (hw _ (List.mem_of_getElem? (i := 174) rfl)) (by decide) (by decide)) (g := (mkF m 6 #[.val (.ref a1), .val (.ref r1)] [(.ref r1), (.ref a1)])) rfl (by rw [hml]; rfl) (argsL := [(.ref r1)]) (rest := [(.ref a1)]) (lenOf own_pd5 rfl) rfl (by show 2 * 0 + _ ≤ _; exact Nat.le_of_eq rfl) (hb hby own_d22_6) (fun _ _ => ⟨rfl, e30, (by decide : 0 + 0 ≤ _), (by decide : 0 + 0 ≤ _)⟩)
  dsimp only [Pt.U, Pt.locs, Pt.cells, Pt.slots] at X31 l31 y31 z31 st31 hQ31
  subst l31 y31 z31
  obtain ⟨rfl, N31q, e31⟩ := hQ31
  have N31 := Fr.app N30 N31q
  refine own_by st31 ?_
  show own_Go p.tables e below K (T31.setTop (mkF m 9 #[.val (.ref a1), .val (.ref r1)] [(.ref r1), (.ref a1)]))
  obtain ⟨T32, h32, X32, e32, W32, st32⟩ := putF X31 hx hZ hown (host := "") (Or.inl (hw _ (List.mem_of_getElem? (i := 176) rfl))) Via.refl e31 F0_e0 E0 (Or.inr ⟨(hw _ (List.mem_of_getElem? (i := 177) rfl)), rfl, hnm⟩) (hw _ (List.mem_of_getElem? (i := 152) rfl)) (ty := (.object "java/lang/Object")) (by decide) rfl rfl (g := (mkF m 9 #[.val (.ref a1), .val (.ref r1)] [(.ref r1), (.ref a1)])) rfl rfl (hb hby own_d22_9)
  refine own_by st32 ?_
  have F32_e0_a1 := F0_e0.same W32
  have F32_e1_a1 := F0_e1.other W32 (Or.inr (slot_ne (Or.inr (hw _ (List.mem_of_getElem? (i := 180) rfl))) (Or.inr (hw _ (List.mem_of_getElem? (i := 177) rfl))) (by decide) (t := (.object "java/lang/Object")) (t' := (.object "java/lang/Object")) (by decide) (by decide)))
  have Ex32_a1 := E0.wr W32
  have K32 := (Keep.refl h0 [a1]).wr W32 (Or.inl (by simp))
  have Z32 := Nat.le_trans Z0 (Keep.of_wr W32).1
  have O32 := O0.wr W32 ga
  have N32 := Fr.snoc X32 N31 ga
  show own_Go p.tables e below K (T32.setTop (mkF m 12 #[.val (.ref a1), .val (.ref r1)] []))
  refine own_by (fun t k => XS.aloadN X32.here hx rfl (hb hby own_d22_12) rfl rfl k) ?_
  show own_Go p.tables e below K (T32.setTop (mkF m 13 #[.val (.ref a1), .val (.ref r1)] [(.ref a1)]))
  obtain ⟨T33, X33, e33, st33⟩ := getS2 X32 hx hZ hown (Or.inr (hw _ (List.mem_of_getElem? (i := 178) rfl))) Via.refl e32 (S0.2.2.2.2.2.2.1.ext O32.2) (g := (mkF m 13 #[.val (.ref a1), .val (.ref r1)] [(.ref a1)])) rfl (hb hby own_d22_13)
  refine own_by st33 ?_
  show own_Go p.tables e below K (T33.setTop (mkF m 16 #[.val (.ref a1), .val (.ref r1)] [(.ref em), (.ref a1)]))
  obtain ⟨T34, h34, X34, e34, W34, st34⟩ := putF X33 hx hZ hown (host := "") (Or.inl (hw _ (List.mem_of_getElem? (i := 179) rfl))) Via.refl e33 F32_e1_a1 Ex32_a1 (Or.inr ⟨(hw _ (List.mem_of_getElem? (i := 180) rfl)), rfl, hnm⟩) (hw _ (List.mem_of_getElem? (i := 152) rfl)) (ty := (.object "java/lang/Object")) (by decide) rfl rfl (g := (mkF m 16 #[.val (.ref a1), .val (.ref r1)] [(.ref em), (.ref a1)])) rfl rfl (hb hby own_d22_16)
  refine own_by st34 ?_
  have F34_e0_a1 := F32_e0_a1.other W34 (Or.inr (slot_ne (Or.inr (hw _ (List.mem_of_getElem? (i := 177) rfl))) (Or.inr (hw _ (List.mem_of_getElem? (i := 180) rfl))) (by decide) (t := (.object "java/lang/Object")) (t' := (.object "java/lang/Object")) (by decide) (by decide)))
  have F34_e1_a1 := F32_e1_a1.same W34
  have Ex34_a1 := Ex32_a1.wr W34
  have K34 := K32.wr W34 (Or.inl (by simp))
  have Z34 := Nat.le_trans Z32 (Keep.of_wr W34).1
  have O34 := O32.wr W34 ga
  have N34 := Fr.snoc X34 N32 ga
  show own_Go p.tables e below K (T34.setTop (mkF m 19 #[.val (.ref a1), .val (.ref r1)] []))
  exact own_retV X34 hx hret (hb hby own_d22_19) (hK none X34 (fun _ => rfl) (by rw [e34]; exact ⟨rfl, N34, K34, Ex34_a1, F34_e1_a1⟩) (by decide) (by decide))
theorem own_pd6 : parseMethodDescriptor "(Ljava/lang/Object;)V" = some ⟨[(.object "java/lang/Object")], none⟩ := by decide +kernel
theorem own_d21_0 : decode jdk_40_method_47_code 0 = .ok (.aload_n 0, 1) := by decide +kernel
theorem own_d21_1 : decode jdk_40_method_47_code 1 = .ok (.arraylength, 1) := by decide +kernel
theorem own_d21_2 : decode jdk_40_method_47_code 2 = .ok (.tableswitch 57 0 2 #[26, 32, 43], 26) := by decide +kernel
theorem own_d21_34 : decode jdk_40_method_47_code 34 = .ok (.new 96, 3) := by decide +kernel
theorem own_d21_37 : decode jdk_40_method_47_code 37 = .ok (.dup, 1) := by decide +kernel
theorem own_d21_38 : decode jdk_40_method_47_code 38 = .ok (.aload_n 0, 1) := by decide +kernel
theorem own_d21_39 : decode jdk_40_method_47_code 39 = .ok (.iconst 0, 1) := by decide +kernel
theorem own_d21_40 : decode jdk_40_method_47_code 40 = .ok (.aaload, 1) := by decide +kernel
theorem own_d21_41 : decode jdk_40_method_47_code 41 = .ok (.invokespecial 98, 3) := by decide +kernel
theorem own_d21_44 : decode jdk_40_method_47_code 44 = .ok (.areturn, 1) := by decide +kernel
theorem own_efofa1 (m : MethodId) (ra : Addr) : entryFrame m #[(.ref ra)] 2 = mkF m 0 #[.val (.ref ra), .unset] [] := by first | (simp [entryFrame, mkF, argsToLocals, Value.category]; done) | rfl
def own_Qofa1 (Z : State) (ra : Addr) (w : Addr) (k : ClassId) (dd : Addr) (lz : Addr) (ez : Addr) (em : Addr) (mr : Addr) (h0 : Heap) (n0 : Nat) (v : Option Value) (h : Heap) (L : List Loc) : Prop := ∃ lw : Addr, v = some (.ref lw) ∧ Fr n0 L ∧ Keep h0 h [] ∧ own_SZ Z h lw em 1
set_option maxRecDepth 65536 in
set_option maxHeartbeats 40000000 in
theorem own_rmofa1 (l : Launch) (Z : State) (aw : Array Value) (hw : ∀ d ∈ tables_1, d.before aw Z = true) (ws : List Jvm.Cond) (ra : Addr) (w : Addr) (k : ClassId) (dd : Addr) (lz : Addr) (ez : Addr) (em : Addr) (mr : Addr) (h0 : Heap) (n0 : Nat) (Z0 : n0 ≤ h0.size) (A0 : own_Ar Z h0 ra k 1 [(.ref w)]) (Ew : Exa Z h0 w "com/example/skyroster/skyroster/UsedWindow") (O0 : Old Z n0 h0) (S0 : own_St Z dd lz ez em mr) :
    MetFree l (⟨"java/util/List", "of", "([Ljava/lang/Object;)Ljava/util/List;"⟩ : MethodName) (head1 (Jvm.Cond.code (⟨"java/util/List", "of", "([Ljava/lang/Object;)Ljava/util/List;"⟩ : MethodName) jdk_40_method_47_code 2 (some (.object "java/util/List")) :: ws) ({ frames := 6, cells := 2, slots := 5, locals := 90 } : Room)) (fun a U => a = #[(.ref ra)] ∧ Z.Warmed39 U.vm ∧ U.heap = h0) (fun _ _ _ _ _ => True) (fun _ U o U' => ∃ v L, o = .returned v ∧ own_Qofa1 Z ra w k dd lz ez em mr h0 n0 v U'.heap L ∧ FrameEnd U o U' L ({ frames := 6, cells := 2, slots := 5, locals := 90 } : Room).cells ({ frames := 6, cells := 2, slots := 5, locals := 90 } : Room).slots) := by
  refine own_met (Q := own_Qofa1 Z ra w k dd lz ez em mr h0 n0) (plainFor_of_name own_pn16) ?_
  intro p e s m below meth c s₁ K hx hby hml hown hnm hret hZ X0 e0 hK
  have hown : s.vm.findClass "java/util/List" = some m.cls := hown
  have N0 := Fr.nil n0
  refine own_by (fun t k => castTop (own_efofa1 m ra) k) ?_
  show own_Go p.tables e below K (s₁.setTop (mkF m 0 #[.val (.ref ra), .unset] []))
  refine own_by (fun t k => XS.aloadN X0.here hx rfl (hb hby own_d21_0) rfl rfl k) ?_
  show own_Go p.tables e below K (s₁.setTop (mkF m 1 #[.val (.ref ra), .unset] [(.ref ra)]))
  obtain ⟨⟨cl35, Ar35, -, S35, M35, -⟩, -⟩ := id A0
  refine own_by (fun t k => X0.arraylength hx (by rw [e0]; exact Ar35.1) (State.isArrayOf_alike hZ.alike Ar35.2.1) (g := (mkF m 1 #[.val (.ref ra), .unset] [(.ref ra)])) rfl rfl (hb hby own_d21_1) t k) ?_
  rw [len_of S35 M35]
  show own_Go p.tables e below K (s₁.setTop (mkF m 2 #[.val (.ref ra), .unset] [(.int (1 : Int32))]))
  have hs2_0 : ¬ (1 : Int32) = (0 : Int32) := by decide
  have hs2_1 : (1 : Int32) = (1 : Int32) := by decide
  refine own_by (fun t k => XS.tswIn X0.here hx rfl (pc0 := 2) (pc' := 34) (o := 32) rfl (hb hby own_d21_2) rfl (by rw [hs2_1]; decide) (by rw [hs2_1]; rfl) (by decide) (by decide) k) ?_
  show own_Go p.tables e below K (s₁.setTop (mkF m 34 #[.val (.ref ra), .unset] []))
  obtain ⟨T36, h36, X36, e36, E36, A36, D36, -, st36⟩ := newO X0 hx hZ hown (hw _ (List.mem_of_getElem? (i := 151) rfl)) (hw _ (List.mem_of_getElem? (i := 152) rfl)) (hw _ (List.mem_of_getElem? (i := 153) rfl)) e0 (g := (mkF m 34 #[.val (.ref ra), .unset] [])) rfl (hb hby own_d21_34) (by decide) (by decide)
  obtain ⟨b36, g36⟩ : ∃ z, z = h0.size := ⟨_, rfl⟩
  rw [← g36] at A36 D36 st36
  refine own_by st36 ?_
  have gn_b36 : n0 ≤ b36 := Nat.le_trans Z0 (Nat.le_of_eq g36.symm)
  have ne_ra_b36 : ra ≠ b36 := Nat.ne_of_lt (Nat.lt_of_lt_of_le A0.lt (Nat.le_of_eq g36.symm))
  have sz_b36 : h0.size ≤ b36 := Nat.le_trans (Keep.refl h0 []).1 (Nat.le_of_eq g36.symm)
  have ne_w_b36 : w ≠ b36 := Nat.ne_of_lt (Nat.lt_of_lt_of_le Ew.lt (Nat.le_of_eq g36.symm))
  have Ex36_w := Ew.ext E36
  have xa36_ra := A0.ext E36
  have K36 := (Keep.refl h0 []).ext E36
  have Z36 := Nat.le_trans Z0 E36.1
  have O36 := O0.ext E36
  have F36_e0_b36 : Fld Z h36 b36 "java/util/ImmutableCollections$List12" "e0" "Ljava/lang/Object;" .null := D36 (Or.inr (hw _ (List.mem_of_getElem? (i := 177) rfl))) (ty := (.object "java/lang/Object")) (by decide)
  have F36_e1_b36 : Fld Z h36 b36 "java/util/ImmutableCollections$List12" "e1" "Ljava/lang/Object;" .null := D36 (Or.inr (hw _ (List.mem_of_getElem? (i := 180) rfl))) (ty := (.object "java/lang/Object")) (by decide)
  show own_Go p.tables e below K (T36.setTop (mkF m 37 #[.val (.ref ra), .unset] [(.ref b36)]))
  refine own_by (fun t k => XS.dup X36.here hx rfl (hb hby own_d21_37) rfl rfl k) ?_
  show own_Go p.tables e below K (T36.setTop (mkF m 38 #[.val (.ref ra), .unset] [(.ref b36), (.ref b36)]))
  refine own_by (fun t k => XS.aloadN X36.here hx rfl (hb hby own_d21_38) rfl rfl k) ?_
  show own_Go p.tables e below K (T36.setTop (mkF m 39 #[.val (.ref ra), .unset] [(.ref ra), (.ref b36), (.ref b36)]))
  refine own_by (fun t k => XS.iconst X36.here hx rfl (hb hby own_d21_39) k) ?_
  show own_Go p.tables e below K (T36.setTop (mkF m 40 #[.val (.ref ra), .unset] [(.int (0 : Int32)), (.ref ra), (.ref b36), (.ref b36)]))
  obtain ⟨⟨cl37, Ar37, -, S37, M37, H37, -⟩, -⟩ := id xa36_ra
  refine own_by (fun t k => X36.aaload hx (j := (0 : Int32)) (v := (.ref w)) (by rw [e36]; exact Ar37.1) (State.isArrayOf_alike hZ.alike Ar37.2.1) rfl Ar37.2.2 (inb_of S37 ⟨by decide, by decide⟩) (H37 0 (by rw [S37]; decide)) (g := (mkF m 40 #[.val (.ref ra), .unset] [(.int (0 : Int32)), (.ref ra), (.ref b36), (.ref b36)])) rfl rfl (hb hby own_d21_40) t k) ?_
  show own_Go p.tables e below K (T36.setTop (mkF m 41 #[.val (.ref ra), .unset] [(.ref w), (.ref b36), (.ref b36)]))
  obtain ⟨_, _, ⟨T38, L38, k38, n38⟩, -, X38, ⟨Lc38, hQ38, l38, y38, z38⟩, st38⟩ := X36.specialBack hx (y := (⟨"java/util/ImmutableCollections$List12", "<init>", "(Ljava/lang/Object;)V"⟩ : MethodName)) rfl hown (mvT hZ (hw _ (List.mem_of_getElem? (i := 154) rfl))) (mvT hZ (hw _ (List.mem_of_getElem? (i := 155) rfl))) (mvT hZ (hw _ (List.mem_of_getElem? (i := 157) rfl))) (by decide) (backOf (W := 1) (own_rml1i l Z aw hw [] b36 w dd lz ez em mr h36 n0 Z36 A36 gn_b36 F36_e0_b36 F36_e1_b36 O36 S0) hZ (hw _ (List.mem_of_getElem? (i := 157) rfl)) (hw _ (List.mem_of_getElem? (i := 153) rfl)) (by decide) (by decide)) (g := (mkF m 41 #[.val (.ref ra), .unset] [(.ref w), (.ref b36), (.ref b36)])) rfl (by rw [hml]; rfl) (Steps.refl _) (a := b36) (argsL := [(.ref w)]) (rest := [(.ref b36)]) (lenOf own_pd6 rfl) rfl (by show 2 * 0 + _ ≤ _; exact Nat.le_of_eq rfl) (hb hby own_d21_41) (fun _ _ => ⟨rfl, e36, (by decide : 1 + 0 ≤ _), (by decide : 2 + 0 ≤ _)⟩)
  dsimp only [Pt.U, Pt.locs, Pt.cells, Pt.slots] at X38 l38 y38 z38 st38 hQ38
  subst l38 y38 z38
  obtain ⟨rfl, N38q, Kp38, Xp38, Fp38⟩ := hQ38
  have N38 := Fr.app N0 N38q
  refine own_by (fun t k => st38.trans k) ?_
  have xa38_ra := xa36_ra.keep Kp38 (ninS ne_ra_b36 nin0)
  have Ex38_w := Ex36_w.keep Kp38
  have Ex38_b36 := A36.keep Kp38
  have K38 := K36.trans Kp38 (allS (Or.inr sz_b36) (all0))
  have Z38 := Nat.le_trans Z36 Kp38.1
  have O38 := O36.keep Kp38 (allS gn_b36 (all0))
  show own_Go p.tables e below K (T38.setTop (mkF m 44 #[.val (.ref ra), .unset] [(.ref b36)]))
  exact own_retA X38 hx hret rfl rfl rfl (hb hby own_d21_44) (hK (some (.ref b36)) X38 (fun h => by rw [hret] at h; cases h) (⟨_, rfl, N38, K38, Or.inr ⟨Xp38, _, Fp38, Or.inl ⟨rfl, rfl⟩⟩⟩) (by decide) (by decide))
theorem own_pn19 : plainName "java/util/Arrays" = true := by first | (simp [plainName, overriddenIn]; done) | decide +kernel
theorem own_d19_0 : decode jdk_65_method_120_code 0 = .ok (.aload_n 2, 1) := by decide +kernel
theorem own_d19_1 : decode jdk_65_method_120_code 1 = .ok (.ldc 110, 2) := by decide +kernel
theorem own_d19_3 : decode jdk_65_method_120_code 3 = .ok (.if_acmp .ne 10, 3) := by decide +kernel
theorem own_d19_6 : decode jdk_65_method_120_code 6 = .ok (.iload_n 1, 1) := by decide +kernel
theorem own_d19_7 : decode jdk_65_method_120_code 7 = .ok (.anewarray 2, 3) := by decide +kernel
theorem own_d19_10 : decode jdk_65_method_120_code 10 = .ok (.goto 14, 3) := by decide +kernel
theorem own_d19_24 : decode jdk_65_method_120_code 24 = .ok (.astore_n 3, 1) := by decide +kernel
theorem own_d19_25 : decode jdk_65_method_120_code 25 = .ok (.aload_n 0, 1) := by decide +kernel
theorem own_d19_26 : decode jdk_65_method_120_code 26 = .ok (.iconst 0, 1) := by decide +kernel
theorem own_d19_27 : decode jdk_65_method_120_code 27 = .ok (.aload_n 3, 1) := by decide +kernel
theorem own_d19_28 : decode jdk_65_method_120_code 28 = .ok (.iconst 0, 1) := by decide +kernel
theorem own_d19_29 : decode jdk_65_method_120_code 29 = .ok (.aload_n 0, 1) := by decide +kernel
theorem own_d19_30 : decode jdk_65_method_120_code 30 = .ok (.arraylength, 1) := by decide +kernel
theorem own_d19_31 : decode jdk_65_method_120_code 31 = .ok (.iload_n 1, 1) := by decide +kernel
theorem own_d19_32 : decode jdk_65_method_120_code 32 = .ok (.invokestatic 304, 3) := by decide +kernel
theorem own_d19_35 : decode jdk_65_method_120_code 35 = .ok (.invokestatic 150, 3) := by decide +kernel
theorem own_d19_38 : decode jdk_65_method_120_code 38 = .ok (.aload_n 3, 1) := by decide +kernel
theorem own_d19_39 : decode jdk_65_method_120_code 39 = .ok (.areturn, 1) := by decide +kernel
theorem own_efcc1 (m : MethodId) (el : Addr) (mr : Addr) : entryFrame m #[(.ref el), (.int (1 : Int32)), (.ref mr)] 4 = mkF m 0 #[.val (.ref el), .val (.int (1 : Int32)), .val (.ref mr), .unset] [] := by first | (simp [entryFrame, mkF, argsToLocals, Value.category]; done) | rfl
def own_Qcc1 (Z : State) (el : Addr) (mr : Addr) (w : Addr) (k : ClassId) (h0 : Heap) (n0 : Nat) (v : Option Value) (h : Heap) (L : List Loc) : Prop := ∃ (rb : Addr) (kb : ClassId), v = some (.ref rb) ∧ Fr n0 L ∧ Keep h0 h [] ∧ own_Ar Z h rb kb 1 [(.ref w)]
set_option maxRecDepth 65536 in
set_option maxHeartbeats 40000000 in
theorem own_rmcc1 (l : Launch) (Z : State) (aw : Array Value) (hw : ∀ d ∈ tables_1, d.before aw Z = true) (ws : List Jvm.Cond) (el : Addr) (mr : Addr) (w : Addr) (k : ClassId) (h0 : Heap) (n0 : Nat) (Z0 : n0 ≤ h0.size) (A0 : own_Ar Z h0 el k 10 [(.ref w), .null, .null, .null, .null, .null, .null, .null, .null, .null]) (Ew : Exa Z h0 w "com/example/skyroster/skyroster/UsedWindow") (M0 : own_Mi Z mr) :
    MetFree l (⟨"java/util/Arrays", "copyOf", "([Ljava/lang/Object;ILjava/lang/Class;)[Ljava/lang/Object;"⟩ : MethodName) (head1 (Jvm.Cond.code (⟨"java/util/Arrays", "copyOf", "([Ljava/lang/Object;ILjava/lang/Class;)[Ljava/lang/Object;"⟩ : MethodName) jdk_65_method_120_code 4 (some (.array (.object "java/lang/Object"))) :: ws) ({ frames := 1, cells := 1, slots := 1, locals := 24 } : Room)) (fun a U => a = #[(.ref el), (.int (1 : Int32)), (.ref mr)] ∧ Z.Warmed39 U.vm ∧ U.heap = h0) (fun _ _ _ _ _ => True) (fun _ U o U' => ∃ v L, o = .returned v ∧ own_Qcc1 Z el mr w k h0 n0 v U'.heap L ∧ FrameEnd U o U' L ({ frames := 1, cells := 1, slots := 1, locals := 24 } : Room).cells ({ frames := 1, cells := 1, slots := 1, locals := 24 } : Room).slots) := by
  refine own_met (Q := own_Qcc1 Z el mr w k h0 n0) (plainFor_of_name own_pn19) ?_
  intro p e s m below meth c s₁ K hx hby hml hown hnm hret hZ X0 e0 hK
  have hown : s.vm.findClass "java/util/Arrays" = some m.cls := hown
  have N0 := Fr.nil n0
  refine own_by (fun t k => castTop (own_efcc1 m el mr) k) ?_
  show own_Go p.tables e below K (s₁.setTop (mkF m 0 #[.val (.ref el), .val (.int (1 : Int32)), .val (.ref mr), .unset] []))
  refine own_by (fun t k => XS.aloadN X0.here hx rfl (hb hby own_d19_0) rfl rfl k) ?_
  show own_Go p.tables e below K (s₁.setTop (mkF m 1 #[.val (.ref el), .val (.int (1 : Int32)), .val (.ref mr), .unset] [(.ref mr)]))
  obtain ⟨T39, X39, e39, st39⟩ := own_ldcM X0 hx hZ hown (hw _ (List.mem_of_getElem? (i := 139) rfl)) M0 e0 (g := (mkF m 1 #[.val (.ref el), .val (.int (1 : Int32)), .val (.ref mr), .unset] [(.ref mr)])) rfl (hb hby own_d19_1)
  refine own_by st39 ?_
  show own_Go p.tables e below K (T39.setTop (mkF m 3 #[.val (.ref el), .val (.int (1 : Int32)), .val (.ref mr), .unset] [(.ref mr), (.ref mr)]))
  refine own_by (fun t k => acmp X39 hx rfl rfl rfl (pc0 := 3) (pc' := 6) (same := true) rfl (hb hby own_d19_3) rfl (by simp) (by decide) (by decide) k) ?_
  show own_Go p.tables e below K (T39.setTop (mkF m 6 #[.val (.ref el), .val (.int (1 : Int32)), .val (.ref mr), .unset] []))
  refine own_by (fun t k => XS.iloadN X39.here hx rfl (hb hby own_d19_6) rfl k) ?_
  show own_Go p.tables e below K (T39.setTop (mkF m 7 #[.val (.ref el), .val (.int (1 : Int32)), .val (.ref mr), .unset] [(.int (1 : Int32))]))
  obtain ⟨T40, h40, k40, X40, e40, E40, A40, Ea40, Ov40, st40⟩ := newRE X39 hx hZ hown (hw _ (List.mem_of_getElem? (i := 140) rfl)) (hw _ (List.mem_of_getElem? (i := 73) rfl)) e39 (g := (mkF m 7 #[.val (.ref el), .val (.int (1 : Int32)), .val (.ref mr), .unset] [(.int (1 : Int32))])) rfl (hb hby own_d19_7) rfl (by decide) (cap := 1) (by decide) (by decide) (by decide) (by decide) (ad := "[Ljava/lang/Object;") (by decide +kernel)
  obtain ⟨b40, g40⟩ : ∃ z, z = h0.size := ⟨_, rfl⟩
  rw [← g40] at A40 Ea40 st40
  refine own_by st40 ?_
  have gn_b40 : n0 ≤ b40 := Nat.le_trans Z0 (Nat.le_of_eq g40.symm)
  have sz_b40 : h0.size ≤ b40 := Nat.le_trans (Keep.refl h0 []).1 (Nat.le_of_eq g40.symm)
  have ne_w_b40 : w ≠ b40 := Nat.ne_of_lt (Nat.lt_of_lt_of_le Ew.lt (Nat.le_of_eq g40.symm))
  have ne_el_b40 : el ≠ b40 := Nat.ne_of_lt (Nat.lt_of_lt_of_le A0.lt (Nat.le_of_eq g40.symm))
  have Ex40_w := Ew.ext E40
  have xa40_el := A0.ext E40
  have K40 := (Keep.refl h0 []).ext E40
  have Z40 := Nat.le_trans Z0 E40.1
  have xn40 : own_Ar Z h40 b40 k40 (1 : Int32) [.null] := ⟨(Arv.new A40 (by decide)).pad (pad_rep [] .null 1), Ea40, Ov40⟩
  show own_Go p.tables e below K (T40.setTop (mkF m 10 #[.val (.ref el), .val (.int (1 : Int32)), .val (.ref mr), .unset] [(.ref b40)]))
  refine own_by (fun t k => XS.goto X40.here hx rfl (pc0 := 10) (pc' := 24) rfl (hb hby own_d19_10) (by decide) (by decide) k) ?_
  show own_Go p.tables e below K (T40.setTop (mkF m 24 #[.val (.ref el), .val (.int (1 : Int32)), .val (.ref mr), .unset] [(.ref b40)]))
  refine own_by (fun t k => XS.astoreN X40.here hx rfl (hb hby own_d19_24) rfl rfl (l' := #[.val (.ref el), .val (.int (1 : Int32)), .val (.ref mr), .val (.ref b40)]) rfl k) ?_
  show own_Go p.tables e below K (T40.setTop (mkF m 25 #[.val (.ref el), .val (.int (1 : Int32)), .val (.ref mr), .val (.ref b40)] []))
  refine own_by (fun t k => XS.aloadN X40.here hx rfl (hb hby own_d19_25) rfl rfl k) ?_
  show own_Go p.tables e below K (T40.setTop (mkF m 26 #[.val (.ref el), .val (.int (1 : Int32)), .val (.ref mr), .val (.ref b40)] [(.ref el)]))
  refine own_by (fun t k => XS.iconst X40.here hx rfl (hb hby own_d19_26) k) ?_
  show own_Go p.tables e below K (T40.setTop (mkF m 27 #[.val (.ref el), .val (.int (1 : Int32)), .val (.ref mr), .val (.ref b40)] [(.int (0 : Int32)), (.ref el)]))
  refine own_by (fun t k => XS.aloadN X40.here hx rfl (hb hby own_d19_27) rfl rfl k) ?_
  show own_Go p.tables e below K (T40.setTop (mkF m 28 #[.val (.ref el), .val (.int (1 : Int32)), .val (.ref mr), .val (.ref b40)] [(.ref b40), (.int (0 : Int32)), (.ref el)]))
  refine own_by (fun t k => XS.iconst X40.here hx rfl (hb hby own_d19_28) k) ?_
  show own_Go p.tables e below K (T40.setTop (mkF m 29 #[.val (.ref el), .val (.int (1 : Int32)), .val (.ref mr), .val (.ref b40)] [(.int (0 : Int32)), (.ref b40), (.int (0 : Int32)), (.ref el)]))
  refine own_by (fun t k => XS.aloadN X40.here hx rfl (hb hby own_d19_29) rfl rfl k) ?_
  show own_Go p.tables e below K (T40.setTop (mkF m 30 #[.val (.ref el), .val (.int (1 : Int32)), .val (.ref mr), .val (.ref b40)] [(.ref el), (.int (0 : Int32)), (.ref b40), (.int (0 : Int32)), (.ref el)]))
  obtain ⟨⟨cl41, Ar41, -, S41, M41, -⟩, -⟩ := id xa40_el
  refine own_by (fun t k => X40.arraylength hx (by rw [e40]; exact Ar41.1) (State.isArrayOf_alike hZ.alike Ar41.2.1) (g := (mkF m 30 #[.val (.ref el), .val (.int (1 : Int32)), .val (.ref mr), .val (.ref b40)] [(.ref el), (.int (0 : Int32)), (.ref b40), (.int (0 : Int32)), (.ref el)])) rfl rfl (hb hby own_d19_30) t k) ?_
  rw [len_of S41 M41]
  show own_Go p.tables e below K (T40.setTop (mkF m 31 #[.val (.ref el), .val (.int (1 : Int32)), .val (.ref mr), .val (.ref b40)] [(.int (10 : Int32)), (.int (0 : Int32)), (.ref b40), (.int (0 : Int32)), (.ref el)]))
  refine own_by (fun t k => XS.iloadN X40.here hx rfl (hb hby own_d19_31) rfl k) ?_
  show own_Go p.tables e below K (T40.setTop (mkF m 32 #[.val (.ref el), .val (.int (1 : Int32)), .val (.ref mr), .val (.ref b40)] [(.int (1 : Int32)), (.int (10 : Int32)), (.int (0 : Int32)), (.ref b40), (.int (0 : Int32)), (.ref el)]))
  obtain ⟨_, _, ⟨T42, L42, k42, n42⟩, -, X42, ⟨Lc42, hQ42, l42, y42, z42⟩, st42⟩ := Jvm.LawKit.callS X40 hx (y := (⟨"java/lang/Math", "min", "(II)I"⟩ : MethodName)) hown (mvT hZ (hw _ (List.mem_of_getElem? (i := 141) rfl))) (mvT hZ (hw _ (List.mem_of_getElem? (i := 142) rfl))) (mvT hZ (hw _ (List.mem_of_getElem? (i := 70) rfl))) (mvT hZ (hw _ (List.mem_of_getElem? (i := 143) rfl))) (by decide) (backOf (W := 4) (own_rmmnI l Z aw hw [] 10 (1 : Int32) h40 n0 Z40) hZ (hw _ (List.mem_of_getElem? (i := 143) rfl)) (hw _ (List.mem_of_getElem? (i := 70) rfl)) (by decide) (by decide)) (g := (mkF m 32 #[.val (.ref el), .val (.int (1 : Int32)), .val (.ref mr), .val (.ref b40)] [(.int (1 : Int32)), (.int (10 : Int32)), (.int (0 : Int32)), (.ref b40), (.int (0 : Int32)), (.ref el)])) rfl (by rw [hml]; rfl) (argsL := [(.int (10 : Int32)), (.int (1 : Int32))]) (rest := [(.int (0 : Int32)), (.ref b40), (.int (0 : Int32)), (.ref el)]) (lenOf own_pd1 rfl) rfl (by show 2 * 0 + _ ≤ _; exact Nat.le_of_eq rfl) (hb hby own_d19_32) (fun _ _ => ⟨rfl, e40, (by decide : 1 + 0 ≤ _), (by decide : 1 + 0 ≤ _)⟩)
  dsimp only [Pt.U, Pt.locs, Pt.cells, Pt.slots] at X42 l42 y42 z42 st42 hQ42
  subst l42 y42 z42
  obtain ⟨rfl, N42q, e42⟩ := hQ42
  have N42 := Fr.app N0 N42q
  refine own_by st42 ?_
  show own_Go p.tables e below K (T42.setTop (mkF m 35 #[.val (.ref el), .val (.int (1 : Int32)), .val (.ref mr), .val (.ref b40)] [(.int (1 : Int32)), (.int (0 : Int32)), (.ref b40), (.int (0 : Int32)), (.ref el)]))
  obtain ⟨⟨cl43, Ar43, q43, S43, M43, H43, U43⟩, Ea43, Ov43⟩ := id xn40
  obtain ⟨T43, h43, L43, X43, e43, N43, Kc43, V43, st43⟩ := cpA (a0 := aw) (us := [(.ref w)]) X42 hx hZ hown (hw _ (List.mem_of_getElem? (i := 144) rfl)) (hw _ (List.mem_of_getElem? (i := 147) rfl)) (hw _ (List.mem_of_getElem? (i := 145) rfl)) (hw _ (List.mem_of_getElem? (i := 146) rfl)) e42 xa40_el.1 xn40.1 (Or.inr ⟨rfl, rfl, ⟨(Sto.ofV Ar43 q43 Ov43 (Ins.of_exa Ex40_w (hw _ (List.mem_of_getElem? (i := 74) rfl)))), trivial⟩⟩) (by decide) (by decide) (by decide) (by decide) (by decide) rfl (by decide) N42 gn_b40 (g := (mkF m 35 #[.val (.ref el), .val (.int (1 : Int32)), .val (.ref mr), .val (.ref b40)] [(.int (1 : Int32)), (.int (0 : Int32)), (.ref b40), (.int (0 : Int32)), (.ref el)])) rfl (by rw [hml]; rfl) rfl (hb hby own_d19_35) (by decide) (W := 0) (by show 2 * 0 + _ ≤ _; exact Nat.le_of_eq rfl) (by decide)
  refine own_by st43 ?_
  have xc43 : own_Ar Z h43 b40 k40 (1 : Int32) [(.ref w)] := ⟨V43, xn40.2.1.keep Kc43, Ov43⟩
  have xa43_el := xa40_el.keep Kc43 (ninS ne_el_b40 nin0)
  have Ex43_w := Ex40_w.keep Kc43
  have K43 := K40.trans Kc43 (allS (Or.inr sz_b40) (all0))
  have Z43 := Nat.le_trans Z40 Kc43.1
  show own_Go p.tables e below K (T43.setTop (mkF m 38 #[.val (.ref el), .val (.int (1 : Int32)), .val (.ref mr), .val (.ref b40)] []))
  refine own_by (fun t k => XS.aloadN X43.here hx rfl (hb hby own_d19_38) rfl rfl k) ?_
  show own_Go p.tables e below K (T43.setTop (mkF m 39 #[.val (.ref el), .val (.int (1 : Int32)), .val (.ref mr), .val (.ref b40)] [(.ref b40)]))
  exact own_retA X43 hx hret rfl rfl rfl (hb hby own_d19_39) (hK (some (.ref b40)) X43 (fun h => by rw [hret] at h; cases h) (by rw [e43]; exact ⟨_, _, rfl, N43, K43, xc43⟩) (by decide) (by decide))
theorem own_pd7 : parseMethodDescriptor "([Ljava/lang/Object;ILjava/lang/Class;)[Ljava/lang/Object;" = some ⟨[(.array (.object "java/lang/Object")), .int, (.object "java/lang/Class")], some (.array (.object "java/lang/Object"))⟩ := by decide +kernel
theorem own_d18_0 : decode jdk_65_method_119_code 0 = .ok (.aload_n 0, 1) := by decide +kernel
theorem own_d18_1 : decode jdk_65_method_119_code 1 = .ok (.iload_n 1, 1) := by decide +kernel
theorem own_d18_2 : decode jdk_65_method_119_code 2 = .ok (.aload_n 0, 1) := by decide +kernel
theorem own_d18_3 : decode jdk_65_method_119_code 3 = .ok (.invokevirtual 86, 3) := by decide +kernel
theorem own_d18_6 : decode jdk_65_method_119_code 6 = .ok (.invokestatic 300, 3) := by decide +kernel
theorem own_d18_9 : decode jdk_65_method_119_code 9 = .ok (.areturn, 1) := by decide +kernel
theorem own_efcb1 (m : MethodId) (el : Addr) : entryFrame m #[(.ref el), (.int (1 : Int32))] 2 = mkF m 0 #[.val (.ref el), .val (.int (1 : Int32))] [] := by first | (simp [entryFrame, mkF, argsToLocals, Value.category]; done) | rfl
def own_Qcb1 (Z : State) (el : Addr) (mr : Addr) (w : Addr) (k : ClassId) (h0 : Heap) (n0 : Nat) (v : Option Value) (h : Heap) (L : List Loc) : Prop := ∃ (rb : Addr) (kb : ClassId), v = some (.ref rb) ∧ Fr n0 L ∧ Keep h0 h [] ∧ own_Ar Z h rb kb 1 [(.ref w)]
set_option maxRecDepth 65536 in
set_option maxHeartbeats 40000000 in
theorem own_rmcb1 (l : Launch) (Z : State) (aw : Array Value) (hw : ∀ d ∈ tables_1, d.before aw Z = true) (ws : List Jvm.Cond) (el : Addr) (mr : Addr) (w : Addr) (k : ClassId) (h0 : Heap) (n0 : Nat) (Z0 : n0 ≤ h0.size) (A0 : own_Ar Z h0 el k 10 [(.ref w), .null, .null, .null, .null, .null, .null, .null, .null, .null]) (Ew : Exa Z h0 w "com/example/skyroster/skyroster/UsedWindow") (M0 : own_Mi Z mr) :
    MetFree l (⟨"java/util/Arrays", "copyOf", "([Ljava/lang/Object;I)[Ljava/lang/Object;"⟩ : MethodName) (head1 (Jvm.Cond.code (⟨"java/util/Arrays", "copyOf", "([Ljava/lang/Object;I)[Ljava/lang/Object;"⟩ : MethodName) jdk_65_method_119_code 2 (some (.array (.object "java/lang/Object"))) :: ws) ({ frames := 2, cells := 1, slots := 1, locals := 40 } : Room)) (fun a U => a = #[(.ref el), (.int (1 : Int32))] ∧ Z.Warmed39 U.vm ∧ U.heap = h0) (fun _ _ _ _ _ => True) (fun _ U o U' => ∃ v L, o = .returned v ∧ own_Qcb1 Z el mr w k h0 n0 v U'.heap L ∧ FrameEnd U o U' L ({ frames := 2, cells := 1, slots := 1, locals := 40 } : Room).cells ({ frames := 2, cells := 1, slots := 1, locals := 40 } : Room).slots) := by
  refine own_met (Q := own_Qcb1 Z el mr w k h0 n0) (plainFor_of_name own_pn19) ?_
  intro p e s m below meth c s₁ K hx hby hml hown hnm hret hZ X0 e0 hK
  have hown : s.vm.findClass "java/util/Arrays" = some m.cls := hown
  have N0 := Fr.nil n0
  refine own_by (fun t k => castTop (own_efcb1 m el) k) ?_
  show own_Go p.tables e below K (s₁.setTop (mkF m 0 #[.val (.ref el), .val (.int (1 : Int32))] []))
  refine own_by (fun t k => XS.aloadN X0.here hx rfl (hb hby own_d18_0) rfl rfl k) ?_
  show own_Go p.tables e below K (s₁.setTop (mkF m 1 #[.val (.ref el), .val (.int (1 : Int32))] [(.ref el)]))
  refine own_by (fun t k => XS.iloadN X0.here hx rfl (hb hby own_d18_1) rfl k) ?_
  show own_Go p.tables e below K (s₁.setTop (mkF m 2 #[.val (.ref el), .val (.int (1 : Int32))] [(.int (1 : Int32)), (.ref el)]))
  refine own_by (fun t k => XS.aloadN X0.here hx rfl (hb hby own_d18_2) rfl rfl k) ?_
  show own_Go p.tables e below K (s₁.setTop (mkF m 3 #[.val (.ref el), .val (.int (1 : Int32))] [(.ref el), (.int (1 : Int32)), (.ref el)]))
  obtain ⟨T44, X44, e44, st44⟩ := own_gcls X0 hx hZ hown (hw _ (List.mem_of_getElem? (i := 130) rfl)) (hw _ (List.mem_of_getElem? (i := 131) rfl)) (hw _ (List.mem_of_getElem? (i := 103) rfl)) (hw _ (List.mem_of_getElem? (i := 133) rfl)) (hw _ (List.mem_of_getElem? (i := 132) rfl)) (hw _ (List.mem_of_getElem? (i := 134) rfl)) e0 A0.2.1 M0 (g := (mkF m 3 #[.val (.ref el), .val (.int (1 : Int32))] [(.ref el), (.int (1 : Int32)), (.ref el)])) rfl (by rw [hml]; rfl) rfl (hb hby own_d18_3) (by decide) (W := 2) (by show 2 * 0 + _ ≤ _; exact Nat.le_of_eq rfl) (by decide)
  refine own_by st44 ?_
  show own_Go p.tables e below K (T44.setTop (mkF m 6 #[.val (.ref el), .val (.int (1 : Int32))] [(.ref mr), (.int (1 : Int32)), (.ref el)]))
  obtain ⟨_, _, ⟨T45, L45, k45, n45⟩, -, X45, ⟨Lc45, hQ45, l45, y45, z45⟩, st45⟩ := Jvm.LawKit.callS X44 hx (y := (⟨"java/util/Arrays", "copyOf", "([Ljava/lang/Object;ILjava/lang/Class;)[Ljava/lang/Object;"⟩ : MethodName)) hown (mvT hZ (hw _ (List.mem_of_getElem? (i := 136) rfl))) (mvT hZ (hw _ (List.mem_of_getElem? (i := 137) rfl))) (mvT hZ (hw _ (List.mem_of_getElem? (i := 128) rfl))) (mvT hZ (hw _ (List.mem_of_getElem? (i := 138) rfl))) (by decide) (backOf (W := 0) (own_rmcc1 l Z aw hw [] el mr w k h0 n0 Z0 A0 Ew M0) hZ (hw _ (List.mem_of_getElem? (i := 138) rfl)) (hw _ (List.mem_of_getElem? (i := 128) rfl)) (by decide) (by decide)) (g := (mkF m 6 #[.val (.ref el), .val (.int (1 : Int32))] [(.ref mr), (.int (1 : Int32)), (.ref el)])) rfl (by rw [hml]; rfl) (argsL := [(.ref el), (.int (1 : Int32)), (.ref mr)]) (rest := []) (lenOf own_pd7 rfl) rfl (by show 2 * 0 + _ ≤ _; exact Nat.le_of_eq rfl) (hb hby own_d18_6) (fun _ _ => ⟨rfl, e44, (by decide : 0 + 1 ≤ _), (by decide : 0 + 1 ≤ _)⟩)
  dsimp only [Pt.U, Pt.locs, Pt.cells, Pt.slots] at X45 l45 y45 z45 st45 hQ45
  subst l45 y45 z45
  obtain ⟨rb45, kb45, rfl, N45q, r45⟩ := hQ45
  have N45 := Fr.app N0 N45q
  refine own_by st45 ?_
  show own_Go p.tables e below K (T45.setTop (mkF m 9 #[.val (.ref el), .val (.int (1 : Int32))] [(.ref rb45)]))
  exact own_retA X45 hx hret rfl rfl rfl (hb hby own_d18_9) (hK (some (.ref rb45)) X45 (fun h => by rw [hret] at h; cases h) (⟨_, _, rfl, N45, r45⟩) (by decide) (by decide))
theorem own_pd8 : parseMethodDescriptor "([Ljava/lang/Object;I)[Ljava/lang/Object;" = some ⟨[(.array (.object "java/lang/Object")), .int], some (.array (.object "java/lang/Object"))⟩ := by decide +kernel
theorem own_d17_0 : decode jdk_38_method_16_code 0 = .ok (.aload_n 0, 1) := by decide +kernel
theorem own_d17_1 : decode jdk_38_method_16_code 1 = .ok (.getfield 9, 3) := by decide +kernel
theorem own_d17_4 : decode jdk_38_method_16_code 4 = .ok (.aload_n 0, 1) := by decide +kernel
theorem own_d17_5 : decode jdk_38_method_16_code 5 = .ok (.getfield 48, 3) := by decide +kernel
theorem own_d17_8 : decode jdk_38_method_16_code 8 = .ok (.invokestatic 66, 3) := by decide +kernel
theorem own_d17_11 : decode jdk_38_method_16_code 11 = .ok (.areturn, 1) := by decide +kernel
theorem own_efta1 (m : MethodId) (a1 : Addr) : entryFrame m #[(.ref a1)] 1 = mkF m 0 #[.val (.ref a1)] [] := by first | (simp [entryFrame, mkF, argsToLocals, Value.category]; done) | rfl
def own_Qta1 (Z : State) (a1 : Addr) (el : Addr) (mc : Int32) (mr : Addr) (w : Addr) (k : ClassId) (h0 : Heap) (n0 : Nat) (v : Option Value) (h : Heap) (L : List Loc) : Prop := ∃ (rb : Addr) (kb : ClassId), v = some (.ref rb) ∧ Fr n0 L ∧ Keep h0 h [] ∧ own_Ar Z h rb kb 1 [(.ref w)]
set_option maxRecDepth 65536 in
set_option maxHeartbeats 40000000 in
theorem own_rmta1 (l : Launch) (Z : State) (aw : Array Value) (hw : ∀ d ∈ tables_1, d.before aw Z = true) (ws : List Jvm.Cond) (a1 : Addr) (el : Addr) (mc : Int32) (mr : Addr) (w : Addr) (k : ClassId) (h0 : Heap) (n0 : Nat) (Z0 : n0 ≤ h0.size) (B0 : own_AL Z h0 a1 el 1 mc) (A0 : own_Ar Z h0 el k 10 [(.ref w), .null, .null, .null, .null, .null, .null, .null, .null, .null]) (Ew : Exa Z h0 w "com/example/skyroster/skyroster/UsedWindow") (M0 : own_Mi Z mr) :
    MetFree l (⟨"java/util/ArrayList", "toArray", "()[Ljava/lang/Object;"⟩ : MethodName) (head1 (Jvm.Cond.code (⟨"java/util/ArrayList", "toArray", "()[Ljava/lang/Object;"⟩ : MethodName) jdk_38_method_16_code 1 (some (.array (.object "java/lang/Object"))) :: ws) ({ frames := 3, cells := 1, slots := 1, locals := 56 } : Room)) (fun a U => a = #[(.ref a1)] ∧ Z.Warmed39 U.vm ∧ U.heap = h0) (fun _ _ _ _ _ => True) (fun _ U o U' => ∃ v L, o = .returned v ∧ own_Qta1 Z a1 el mc mr w k h0 n0 v U'.heap L ∧ FrameEnd U o U' L ({ frames := 3, cells := 1, slots := 1, locals := 56 } : Room).cells ({ frames := 3, cells := 1, slots := 1, locals := 56 } : Room).slots) := by
  refine own_met (Q := own_Qta1 Z a1 el mc mr w k h0 n0) (plainFor_of_name own_pn1) ?_
  intro p e s m below meth c s₁ K hx hby hml hown hnm hret hZ X0 e0 hK
  have hown : s.vm.findClass "java/util/ArrayList" = some m.cls := hown
  have N0 := Fr.nil n0
  refine own_by (fun t k => castTop (own_efta1 m a1) k) ?_
  show own_Go p.tables e below K (s₁.setTop (mkF m 0 #[.val (.ref a1)] []))
  refine own_by (fun t k => XS.aloadN X0.here hx rfl (hb hby own_d17_0) rfl rfl k) ?_
  show own_Go p.tables e below K (s₁.setTop (mkF m 1 #[.val (.ref a1)] [(.ref a1)]))
  obtain ⟨T46, X46, e46, st46⟩ := getF X0 hx hZ hown (host := "") (Or.inl (hw _ (List.mem_of_getElem? (i := 24) rfl))) Via.refl e0 B0.2.2.1 (g := (mkF m 1 #[.val (.ref a1)] [(.ref a1)])) rfl rfl (hb hby own_d17_1)
  refine own_by st46 ?_
  show own_Go p.tables e below K (T46.setTop (mkF m 4 #[.val (.ref a1)] [(.ref el)]))
  refine own_by (fun t k => XS.aloadN X46.here hx rfl (hb hby own_d17_4) rfl rfl k) ?_
  show own_Go p.tables e below K (T46.setTop (mkF m 5 #[.val (.ref a1)] [(.ref a1), (.ref el)]))
  obtain ⟨T47, X47, e47, st47⟩ := getF X46 hx hZ hown (host := "") (Or.inl (hw _ (List.mem_of_getElem? (i := 51) rfl))) Via.refl e46 B0.2.2.2 (g := (mkF m 5 #[.val (.ref a1)] [(.ref a1), (.ref el)])) rfl rfl (hb hby own_d17_5)
  refine own_by st47 ?_
  show own_Go p.tables e below K (T47.setTop (mkF m 8 #[.val (.ref a1)] [(.int (1 : Int32)), (.ref el)]))
  obtain ⟨_, _, ⟨T48, L48, k48, n48⟩, -, X48, ⟨Lc48, hQ48, l48, y48, z48⟩, st48⟩ := Jvm.LawKit.callS X47 hx (y := (⟨"java/util/Arrays", "copyOf", "([Ljava/lang/Object;I)[Ljava/lang/Object;"⟩ : MethodName)) hown (mvT hZ (hw _ (List.mem_of_getElem? (i := 126) rfl))) (mvT hZ (hw _ (List.mem_of_getElem? (i := 127) rfl))) (mvT hZ (hw _ (List.mem_of_getElem? (i := 128) rfl))) (mvT hZ (hw _ (List.mem_of_getElem? (i := 129) rfl))) (by decide) (backOf (W := 0) (own_rmcb1 l Z aw hw [] el mr w k h0 n0 Z0 A0 Ew M0) hZ (hw _ (List.mem_of_getElem? (i := 129) rfl)) (hw _ (List.mem_of_getElem? (i := 128) rfl)) (by decide) (by decide)) (g := (mkF m 8 #[.val (.ref a1)] [(.int (1 : Int32)), (.ref el)])) rfl (by rw [hml]; rfl) (argsL := [(.ref el), (.int (1 : Int32))]) (rest := []) (lenOf own_pd8 rfl) rfl (by show 2 * 0 + _ ≤ _; exact Nat.le_of_eq rfl) (hb hby own_d17_8) (fun _ _ => ⟨rfl, e47, (by decide : 0 + 1 ≤ _), (by decide : 0 + 1 ≤ _)⟩)
  dsimp only [Pt.U, Pt.locs, Pt.cells, Pt.slots] at X48 l48 y48 z48 st48 hQ48
  subst l48 y48 z48
  obtain ⟨rb48, kb48, rfl, N48q, r48⟩ := hQ48
  have N48 := Fr.app N0 N48q
  refine own_by st48 ?_
  show own_Go p.tables e below K (T48.setTop (mkF m 11 #[.val (.ref a1)] [(.ref rb48)]))
  exact own_retA X48 hx hret rfl rfl rfl (hb hby own_d17_11) (hK (some (.ref rb48)) X48 (fun h => by rw [hret] at h; cases h) (⟨_, _, rfl, N48, r48⟩) (by decide) (by decide))
theorem own_pd9 : parseMethodDescriptor "()Z" = some ⟨[], some .boolean⟩ := by decide +kernel
theorem own_pd10 : parseMethodDescriptor "()Ljava/util/List;" = some ⟨[], some (.object "java/util/List")⟩ := by decide +kernel
theorem own_pn14 : plainName "java/util/ImmutableCollections" = true := by first | (simp [plainName, overriddenIn]; done) | decide +kernel
theorem own_d14_0 : decode jdk_56_method_3_code 0 = .ok (.aload_n 0, 1) := by decide +kernel
theorem own_d14_1 : decode jdk_56_method_3_code 1 = .ok (.instanceof 10, 3) := by decide +kernel
theorem own_d14_4 : decode jdk_56_method_3_code 4 = .ok (.ifCond .ne 22, 3) := by decide +kernel
theorem own_d14_7 : decode jdk_56_method_3_code 7 = .ok (.aload_n 0, 1) := by decide +kernel
theorem own_d14_8 : decode jdk_56_method_3_code 8 = .ok (.instanceof 12, 3) := by decide +kernel
theorem own_d14_11 : decode jdk_56_method_3_code 11 = .ok (.ifCond .eq 20, 3) := by decide +kernel
theorem own_d14_31 : decode jdk_56_method_3_code 31 = .ok (.aload_n 0, 1) := by decide +kernel
theorem own_d14_32 : decode jdk_56_method_3_code 32 = .ok (.invokeinterface 20 1, 5) := by decide +kernel
theorem own_d14_37 : decode jdk_56_method_3_code 37 = .ok (.ifCond .eq 7, 3) := by decide +kernel
theorem own_d14_40 : decode jdk_56_method_3_code 40 = .ok (.invokestatic 26, 3) := by decide +kernel
theorem own_d14_43 : decode jdk_56_method_3_code 43 = .ok (.areturn, 1) := by decide +kernel
theorem own_eflcp0 (m : MethodId) (al : Addr) : entryFrame m #[(.ref al)] 2 = mkF m 0 #[.val (.ref al), .unset] [] := by first | (simp [entryFrame, mkF, argsToLocals, Value.category]; done) | rfl
def own_Qlcp0 (Z : State) (al : Addr) (el : Addr) (mc : Int32) (w : Addr) (dd : Addr) (lz : Addr) (ez : Addr) (em : Addr) (mr : Addr) (h0 : Heap) (n0 : Nat) (v : Option Value) (h : Heap) (L : List Loc) : Prop := ∃ lw : Addr, v = some (.ref lw) ∧ Fr n0 L ∧ Keep h0 h [] ∧ own_SZ Z h lw em 0
set_option maxRecDepth 65536 in
set_option maxHeartbeats 40000000 in
theorem own_rmlcp0 (l : Launch) (Z : State) (aw : Array Value) (hw : ∀ d ∈ tables_1, d.before aw Z = true) (ws : List Jvm.Cond) (al : Addr) (el : Addr) (mc : Int32) (w : Addr) (dd : Addr) (lz : Addr) (ez : Addr) (em : Addr) (mr : Addr) (h0 : Heap) (n0 : Nat) (Z0 : n0 ≤ h0.size) (B0 : own_AL Z h0 al el 0 mc)  (O0 : Old Z n0 h0) (S0 : own_St Z dd lz ez em mr) :
    MetFree l (⟨"java/util/ImmutableCollections", "listCopy", "(Ljava/util/Collection;)Ljava/util/List;"⟩ : MethodName) (head1 (Jvm.Cond.code (⟨"java/util/ImmutableCollections", "listCopy", "(Ljava/util/Collection;)Ljava/util/List;"⟩ : MethodName) jdk_56_method_3_code 2 (some (.object "java/util/List")) :: ws) ({ frames := 7, cells := 3, slots := 8, locals := 110 } : Room)) (fun a U => a = #[(.ref al)] ∧ Z.Warmed39 U.vm ∧ U.heap = h0) (fun _ _ _ _ _ => True) (fun _ U o U' => ∃ v L, o = .returned v ∧ own_Qlcp0 Z al el mc w dd lz ez em mr h0 n0 v U'.heap L ∧ FrameEnd U o U' L ({ frames := 7, cells := 3, slots := 8, locals := 110 } : Room).cells ({ frames := 7, cells := 3, slots := 8, locals := 110 } : Room).slots) := by
  refine own_met (Q := own_Qlcp0 Z al el mc w dd lz ez em mr h0 n0) (plainFor_of_name own_pn14) ?_
  intro p e s m below meth c s₁ K hx hby hml hown hnm hret hZ X0 e0 hK
  have hown : s.vm.findClass "java/util/ImmutableCollections" = some m.cls := hown
  have N0 := Fr.nil n0
  refine own_by (fun t k => castTop (own_eflcp0 m al) k) ?_
  show own_Go p.tables e below K (s₁.setTop (mkF m 0 #[.val (.ref al), .unset] []))
  refine own_by (fun t k => XS.aloadN X0.here hx rfl (hb hby own_d14_0) rfl rfl k) ?_
  show own_Go p.tables e below K (s₁.setTop (mkF m 1 #[.val (.ref al), .unset] [(.ref al)]))
  obtain ⟨T49, X49, e49, st49⟩ := instNo X0 hx hZ hown (hw _ (List.mem_of_getElem? (i := 99) rfl)) e0 B0.1 (own_noI (hw _ (List.mem_of_getElem? (i := 100) rfl)) (hw _ (List.mem_of_getElem? (i := 101) rfl)) (hw _ (List.mem_of_getElem? (i := 102) rfl)) (hw _ (List.mem_of_getElem? (i := 103) rfl)) (hw _ (List.mem_of_getElem? (i := 152) rfl)) (by decide)) (g := (mkF m 1 #[.val (.ref al), .unset] [(.ref al)])) rfl rfl (hb hby own_d14_1)
  refine own_by st49 ?_
  show own_Go p.tables e below K (T49.setTop (mkF m 4 #[.val (.ref al), .unset] [(.int (0 : Int32))]))
  have hc4 : (0 : Int32) = (0 : Int32) := by decide
  refine own_by (fun t k => XS.ifNo X49.here hx rfl (hb hby own_d14_4) rfl ((if0 _ _).trans (teq hc4).2) k) ?_
  show own_Go p.tables e below K (T49.setTop (mkF m 7 #[.val (.ref al), .unset] []))
  refine own_by (fun t k => XS.aloadN X49.here hx rfl (hb hby own_d14_7) rfl rfl k) ?_
  show own_Go p.tables e below K (T49.setTop (mkF m 8 #[.val (.ref al), .unset] [(.ref al)]))
  obtain ⟨T50, X50, e50, st50⟩ := instNo X49 hx hZ hown (hw _ (List.mem_of_getElem? (i := 104) rfl)) e49 B0.1 (own_noF (hw _ (List.mem_of_getElem? (i := 100) rfl)) (hw _ (List.mem_of_getElem? (i := 101) rfl)) (hw _ (List.mem_of_getElem? (i := 102) rfl)) (hw _ (List.mem_of_getElem? (i := 103) rfl)) (hw _ (List.mem_of_getElem? (i := 259) rfl)) (by decide)) (g := (mkF m 8 #[.val (.ref al), .unset] [(.ref al)])) rfl rfl (hb hby own_d14_8)
  refine own_by st50 ?_
  show own_Go p.tables e below K (T50.setTop (mkF m 11 #[.val (.ref al), .unset] [(.int (0 : Int32))]))
  have hc11 : (0 : Int32) = (0 : Int32) := by decide
  refine own_by (fun t k => XS.ifYes X50.here hx rfl (pc0 := 11) (pc' := 31) rfl (hb hby own_d14_11) rfl ((if0 _ _).trans (teq hc11).1) (by decide) (by decide) k) ?_
  show own_Go p.tables e below K (T50.setTop (mkF m 31 #[.val (.ref al), .unset] []))
  refine own_by (fun t k => XS.aloadN X50.here hx rfl (hb hby own_d14_31) rfl rfl k) ?_
  show own_Go p.tables e below K (T50.setTop (mkF m 32 #[.val (.ref al), .unset] [(.ref al)]))
  obtain ⟨cq51, kq51, q51a, q51b, q51c⟩ := isOf hZ e50 B0.1
  obtain ⟨_, _, ⟨T51, L51, k51, n51⟩, -, X51, ⟨Lc51, hQ51, l51, y51, z51⟩, st51⟩ := X50.interfaceBack hx (xi := (⟨"java/util/Collection", "isEmpty", "()Z"⟩ : MethodName)) (y := (⟨"java/util/ArrayList", "isEmpty", "()Z"⟩ : MethodName)) hown (mvT hZ (hw _ (List.mem_of_getElem? (i := 105) rfl))) (mvT hZ (hw _ (List.mem_of_getElem? (i := 106) rfl))) (mvT hZ (hw _ (List.mem_of_getElem? (i := 107) rfl))) (mvT hZ (hw _ (List.mem_of_getElem? (i := 108) rfl))) (mvT hZ (hw _ (List.mem_of_getElem? (i := 109) rfl))) (mvT hZ (hw _ (List.mem_of_getElem? (i := 110) rfl))) (mvT hZ (hw _ (List.mem_of_getElem? (i := 111) rfl))) (mvT hZ (hw _ (List.mem_of_getElem? (i := 112) rfl))) (by decide) (backOf (W := 0) (own_rmise l Z aw hw [] al el (0 : Int32) mc h0 n0 Z0 ⟨B0.1, B0.2.1, B0.2.2.1, B0.2.2.2⟩) hZ (hw _ (List.mem_of_getElem? (i := 113) rfl)) (hw _ (List.mem_of_getElem? (i := 2) rfl)) (by decide) (by decide)) q51a q51b q51c (g := (mkF m 32 #[.val (.ref al), .unset] [(.ref al)])) rfl (by rw [hml]; rfl) (Steps.refl _) (argsL := []) (rest := []) (lenOf own_pd9 rfl) rfl (by show 2 * 0 + _ ≤ _; exact Nat.le_of_eq rfl) (hb hby own_d14_32) (fun _ _ => ⟨rfl, e50, (by decide : 0 + 0 ≤ _), (by decide : 0 + 0 ≤ _)⟩)
  dsimp only [Pt.U, Pt.locs, Pt.cells, Pt.slots] at X51 l51 y51 z51 st51 hQ51
  subst l51 y51 z51
  obtain ⟨rfl, N51q, e51⟩ := hQ51
  have N51 := Fr.app N0 N51q
  refine own_by (fun t k => st51.trans k) ?_
  show own_Go p.tables e below K (T51.setTop (mkF m 37 #[.val (.ref al), .unset] [(.int (1 : Int32))]))
  have hc37 : ¬ ((1 : Int32) = (0 : Int32)) := by decide
  refine own_by (fun t k => XS.ifNo X51.here hx rfl (hb hby own_d14_37) rfl ((if0 _ _).trans (feq hc37).1) k) ?_
  show own_Go p.tables e below K (T51.setTop (mkF m 40 #[.val (.ref al), .unset] []))
  obtain ⟨_, _, ⟨T52, L52, k52, n52⟩, -, X52, ⟨Lc52, hQ52, l52, y52, z52⟩, st52⟩ := Jvm.LawKit.callS X51 hx (y := (⟨"java/util/List", "of", "()Ljava/util/List;"⟩ : MethodName)) hown (mvT hZ (hw _ (List.mem_of_getElem? (i := 114) rfl))) (mvT hZ (hw _ (List.mem_of_getElem? (i := 115) rfl))) (mvT hZ (hw _ (List.mem_of_getElem? (i := 93) rfl))) (mvT hZ (hw _ (List.mem_of_getElem? (i := 116) rfl))) (by decide) (backOf (W := 0) (own_rmof0 l Z aw hw [] dd lz ez em mr h0 n0 Z0 O0 S0) hZ (hw _ (List.mem_of_getElem? (i := 116) rfl)) (hw _ (List.mem_of_getElem? (i := 93) rfl)) (by decide) (by decide)) (g := (mkF m 40 #[.val (.ref al), .unset] [])) rfl (by rw [hml]; rfl) (argsL := []) (rest := []) (lenOf own_pd10 rfl) rfl (by show 2 * 0 + _ ≤ _; exact Nat.le_of_eq rfl) (hb hby own_d14_40) (fun _ _ => ⟨rfl, e51, (by decide : 0 + 0 ≤ _), (by decide : 0 + 0 ≤ _)⟩)
  dsimp only [Pt.U, Pt.locs, Pt.cells, Pt.slots] at X52 l52 y52 z52 st52 hQ52
  subst l52 y52 z52
  obtain ⟨rfl, N52q, e52⟩ := hQ52
  have N52 := Fr.app N51 N52q
  refine own_by st52 ?_
  show own_Go p.tables e below K (T52.setTop (mkF m 43 #[.val (.ref al), .unset] [(.ref lz)]))
  exact own_retA X52 hx hret rfl rfl rfl (hb hby own_d14_43) (hK (some (.ref lz)) X52 (fun h => by rw [hret] at h; cases h) (by rw [e52]; exact ⟨_, rfl, N52, (Keep.refl h0 []), Or.inl ⟨S0.2.2.2.1.ext O0.2, _, S0.2.2.2.2.1.ext O0.2, S0.2.2.2.2.2.1.ext O0.2⟩⟩) (by decide) (by decide))
theorem own_pd11 : parseMethodDescriptor "([Ljava/lang/Object;)Ljava/util/List;" = some ⟨[(.array (.object "java/lang/Object"))], some (.object "java/util/List")⟩ := by decide +kernel
theorem own_d14_44 : decode jdk_56_method_3_code 44 = .ok (.aload_n 0, 1) := by decide +kernel
theorem own_d14_45 : decode jdk_56_method_3_code 45 = .ok (.invokeinterface 30 1, 5) := by decide +kernel
theorem own_d14_50 : decode jdk_56_method_3_code 50 = .ok (.invokestatic 34, 3) := by decide +kernel
theorem own_d14_53 : decode jdk_56_method_3_code 53 = .ok (.areturn, 1) := by decide +kernel
theorem own_eflcp1 (m : MethodId) (al : Addr) : entryFrame m #[(.ref al)] 2 = mkF m 0 #[.val (.ref al), .unset] [] := by first | (simp [entryFrame, mkF, argsToLocals, Value.category]; done) | rfl
def own_Qlcp1 (Z : State) (al : Addr) (el : Addr) (mc : Int32) (w : Addr) (k : ClassId) (dd : Addr) (lz : Addr) (ez : Addr) (em : Addr) (mr : Addr) (h0 : Heap) (n0 : Nat) (v : Option Value) (h : Heap) (L : List Loc) : Prop := ∃ lw : Addr, v = some (.ref lw) ∧ Fr n0 L ∧ Keep h0 h [] ∧ own_SZ Z h lw em 1
set_option maxRecDepth 65536 in
set_option maxHeartbeats 40000000 in
theorem own_rmlcp1 (l : Launch) (Z : State) (aw : Array Value) (hw : ∀ d ∈ tables_1, d.before aw Z = true) (ws : List Jvm.Cond) (al : Addr) (el : Addr) (mc : Int32) (w : Addr) (k : ClassId) (dd : Addr) (lz : Addr) (ez : Addr) (em : Addr) (mr : Addr) (h0 : Heap) (n0 : Nat) (Z0 : n0 ≤ h0.size) (B0 : own_AL Z h0 al el 1 mc) (A0 : own_Ar Z h0 el k 10 [(.ref w), .null, .null, .null, .null, .null, .null, .null, .null, .null]) (Ew : Exa Z h0 w "com/example/skyroster/skyroster/UsedWindow") (O0 : Old Z n0 h0) (S0 : own_St Z dd lz ez em mr) :
    MetFree l (⟨"java/util/ImmutableCollections", "listCopy", "(Ljava/util/Collection;)Ljava/util/List;"⟩ : MethodName) (head1 (Jvm.Cond.code (⟨"java/util/ImmutableCollections", "listCopy", "(Ljava/util/Collection;)Ljava/util/List;"⟩ : MethodName) jdk_56_method_3_code 2 (some (.object "java/util/List")) :: ws) ({ frames := 7, cells := 3, slots := 8, locals := 110 } : Room)) (fun a U => a = #[(.ref al)] ∧ Z.Warmed39 U.vm ∧ U.heap = h0) (fun _ _ _ _ _ => True) (fun _ U o U' => ∃ v L, o = .returned v ∧ own_Qlcp1 Z al el mc w k dd lz ez em mr h0 n0 v U'.heap L ∧ FrameEnd U o U' L ({ frames := 7, cells := 3, slots := 8, locals := 110 } : Room).cells ({ frames := 7, cells := 3, slots := 8, locals := 110 } : Room).slots) := by
  refine own_met (Q := own_Qlcp1 Z al el mc w k dd lz ez em mr h0 n0) (plainFor_of_name own_pn14) ?_
  intro p e s m below meth c s₁ K hx hby hml hown hnm hret hZ X0 e0 hK
  have hown : s.vm.findClass "java/util/ImmutableCollections" = some m.cls := hown
  have N0 := Fr.nil n0
  refine own_by (fun t k => castTop (own_eflcp1 m al) k) ?_
  show own_Go p.tables e below K (s₁.setTop (mkF m 0 #[.val (.ref al), .unset] []))
  refine own_by (fun t k => XS.aloadN X0.here hx rfl (hb hby own_d14_0) rfl rfl k) ?_
  show own_Go p.tables e below K (s₁.setTop (mkF m 1 #[.val (.ref al), .unset] [(.ref al)]))
  obtain ⟨T53, X53, e53, st53⟩ := instNo X0 hx hZ hown (hw _ (List.mem_of_getElem? (i := 99) rfl)) e0 B0.1 (own_noI (hw _ (List.mem_of_getElem? (i := 100) rfl)) (hw _ (List.mem_of_getElem? (i := 101) rfl)) (hw _ (List.mem_of_getElem? (i := 102) rfl)) (hw _ (List.mem_of_getElem? (i := 103) rfl)) (hw _ (List.mem_of_getElem? (i := 152) rfl)) (by decide)) (g := (mkF m 1 #[.val (.ref al), .unset] [(.ref al)])) rfl rfl (hb hby own_d14_1)
  refine own_by st53 ?_
  show own_Go p.tables e below K (T53.setTop (mkF m 4 #[.val (.ref al), .unset] [(.int (0 : Int32))]))
  have hc4 : (0 : Int32) = (0 : Int32) := by decide
  refine own_by (fun t k => XS.ifNo X53.here hx rfl (hb hby own_d14_4) rfl ((if0 _ _).trans (teq hc4).2) k) ?_
  show own_Go p.tables e below K (T53.setTop (mkF m 7 #[.val (.ref al), .unset] []))
  refine own_by (fun t k => XS.aloadN X53.here hx rfl (hb hby own_d14_7) rfl rfl k) ?_
  show own_Go p.tables e below K (T53.setTop (mkF m 8 #[.val (.ref al), .unset] [(.ref al)]))
  obtain ⟨T54, X54, e54, st54⟩ := instNo X53 hx hZ hown (hw _ (List.mem_of_getElem? (i := 104) rfl)) e53 B0.1 (own_noF (hw _ (List.mem_of_getElem? (i := 100) rfl)) (hw _ (List.mem_of_getElem? (i := 101) rfl)) (hw _ (List.mem_of_getElem? (i := 102) rfl)) (hw _ (List.mem_of_getElem? (i := 103) rfl)) (hw _ (List.mem_of_getElem? (i := 259) rfl)) (by decide)) (g := (mkF m 8 #[.val (.ref al), .unset] [(.ref al)])) rfl rfl (hb hby own_d14_8)
  refine own_by st54 ?_
  show own_Go p.tables e below K (T54.setTop (mkF m 11 #[.val (.ref al), .unset] [(.int (0 : Int32))]))
  have hc11 : (0 : Int32) = (0 : Int32) := by decide
  refine own_by (fun t k => XS.ifYes X54.here hx rfl (pc0 := 11) (pc' := 31) rfl (hb hby own_d14_11) rfl ((if0 _ _).trans (teq hc11).1) (by decide) (by decide) k) ?_
  show own_Go p.tables e below K (T54.setTop (mkF m 31 #[.val (.ref al), .unset] []))
  refine own_by (fun t k => XS.aloadN X54.here hx rfl (hb hby own_d14_31) rfl rfl k) ?_
  show own_Go p.tables e below K (T54.setTop (mkF m 32 #[.val (.ref al), .unset] [(.ref al)]))
  obtain ⟨cq55, kq55, q55a, q55b, q55c⟩ := isOf hZ e54 B0.1
  obtain ⟨_, _, ⟨T55, L55, k55, n55⟩, -, X55, ⟨Lc55, hQ55, l55, y55, z55⟩, st55⟩ := X54.interfaceBack hx (xi := (⟨"java/util/Collection", "isEmpty", "()Z"⟩ : MethodName)) (y := (⟨"java/util/ArrayList", "isEmpty", "()Z"⟩ : MethodName)) hown (mvT hZ (hw _ (List.mem_of_getElem? (i := 105) rfl))) (mvT hZ (hw _ (List.mem_of_getElem? (i := 106) rfl))) (mvT hZ (hw _ (List.mem_of_getElem? (i := 107) rfl))) (mvT hZ (hw _ (List.mem_of_getElem? (i := 108) rfl))) (mvT hZ (hw _ (List.mem_of_getElem? (i := 109) rfl))) (mvT hZ (hw _ (List.mem_of_getElem? (i := 110) rfl))) (mvT hZ (hw _ (List.mem_of_getElem? (i := 111) rfl))) (mvT hZ (hw _ (List.mem_of_getElem? (i := 112) rfl))) (by decide) (backOf (W := 0) (own_rmise l Z aw hw [] al el (1 : Int32) mc h0 n0 Z0 ⟨B0.1, B0.2.1, B0.2.2.1, B0.2.2.2⟩) hZ (hw _ (List.mem_of_getElem? (i := 113) rfl)) (hw _ (List.mem_of_getElem? (i := 2) rfl)) (by decide) (by decide)) q55a q55b q55c (g := (mkF m 32 #[.val (.ref al), .unset] [(.ref al)])) rfl (by rw [hml]; rfl) (Steps.refl _) (argsL := []) (rest := []) (lenOf own_pd9 rfl) rfl (by show 2 * 0 + _ ≤ _; exact Nat.le_of_eq rfl) (hb hby own_d14_32) (fun _ _ => ⟨rfl, e54, (by decide : 0 + 0 ≤ _), (by decide : 0 + 0 ≤ _)⟩)
  dsimp only [Pt.U, Pt.locs, Pt.cells, Pt.slots] at X55 l55 y55 z55 st55 hQ55
  subst l55 y55 z55
  obtain ⟨rfl, N55q, e55⟩ := hQ55
  have N55 := Fr.app N0 N55q
  refine own_by (fun t k => st55.trans k) ?_
  show own_Go p.tables e below K (T55.setTop (mkF m 37 #[.val (.ref al), .unset] [(.int (0 : Int32))]))
  have hc37 : (0 : Int32) = (0 : Int32) := by decide
  refine own_by (fun t k => XS.ifYes X55.here hx rfl (pc0 := 37) (pc' := 44) rfl (hb hby own_d14_37) rfl ((if0 _ _).trans (teq hc37).1) (by decide) (by decide) k) ?_
  show own_Go p.tables e below K (T55.setTop (mkF m 44 #[.val (.ref al), .unset] []))
  refine own_by (fun t k => XS.aloadN X55.here hx rfl (hb hby own_d14_44) rfl rfl k) ?_
  show own_Go p.tables e below K (T55.setTop (mkF m 45 #[.val (.ref al), .unset] [(.ref al)]))
  obtain ⟨cq56, kq56, q56a, q56b, q56c⟩ := isOf hZ e55 B0.1
  obtain ⟨_, _, ⟨T56, L56, k56, n56⟩, -, X56, ⟨Lc56, hQ56, l56, y56, z56⟩, st56⟩ := X55.interfaceBack hx (xi := (⟨"java/util/Collection", "toArray", "()[Ljava/lang/Object;"⟩ : MethodName)) (y := (⟨"java/util/ArrayList", "toArray", "()[Ljava/lang/Object;"⟩ : MethodName)) hown (mvT hZ (hw _ (List.mem_of_getElem? (i := 118) rfl))) (mvT hZ (hw _ (List.mem_of_getElem? (i := 119) rfl))) (mvT hZ (hw _ (List.mem_of_getElem? (i := 120) rfl))) (mvT hZ (hw _ (List.mem_of_getElem? (i := 121) rfl))) (mvT hZ (hw _ (List.mem_of_getElem? (i := 122) rfl))) (mvT hZ (hw _ (List.mem_of_getElem? (i := 123) rfl))) (mvT hZ (hw _ (List.mem_of_getElem? (i := 124) rfl))) (mvT hZ (hw _ (List.mem_of_getElem? (i := 112) rfl))) (by decide) (backOf (W := 0) (own_rmta1 l Z aw hw [] al el mc mr w k h0 n0 Z0 ⟨B0.1, B0.2.1, B0.2.2.1, B0.2.2.2⟩ A0 Ew S0.2.2.2.2.2.2.2.2) hZ (hw _ (List.mem_of_getElem? (i := 125) rfl)) (hw _ (List.mem_of_getElem? (i := 2) rfl)) (by decide) (by decide)) q56a q56b q56c (g := (mkF m 45 #[.val (.ref al), .unset] [(.ref al)])) rfl (by rw [hml]; rfl) (Steps.refl _) (argsL := []) (rest := []) (lenOf own_pd3 rfl) rfl (by show 2 * 0 + _ ≤ _; exact Nat.le_of_eq rfl) (hb hby own_d14_45) (fun _ _ => ⟨rfl, e55, (by decide : 0 + 1 ≤ _), (by decide : 0 + 1 ≤ _)⟩)
  dsimp only [Pt.U, Pt.locs, Pt.cells, Pt.slots] at X56 l56 y56 z56 st56 hQ56
  subst l56 y56 z56
  obtain ⟨rb56, kb56, rfl, N56q, Kp56, Ap56⟩ := hQ56
  have N56 := Fr.app N55 N56q
  refine own_by (fun t k => st56.trans k) ?_
  have xa56_el := A0.keep Kp56 nin0
  have F56_modCount_al := B0.2.1.keep Kp56 nin0
  have F56_elementData_al := B0.2.2.1.keep Kp56 nin0
  have F56_size_al := B0.2.2.2.keep Kp56 nin0
  have Ex56_al := B0.1.keep Kp56
  have Ex56_w := Ew.keep Kp56
  have K56 := (Keep.refl h0 []).trans Kp56 (all0)
  have Z56 := Nat.le_trans Z0 Kp56.1
  have O56 := O0.keep Kp56 (all0)
  show own_Go p.tables e below K (T56.setTop (mkF m 50 #[.val (.ref al), .unset] [(.ref rb56)]))
  obtain ⟨_, _, ⟨T57, L57, k57, n57⟩, -, X57, ⟨Lc57, hQ57, l57, y57, z57⟩, st57⟩ := Jvm.LawKit.callS X56 hx (y := (⟨"java/util/List", "of", "([Ljava/lang/Object;)Ljava/util/List;"⟩ : MethodName)) hown (mvT hZ (hw _ (List.mem_of_getElem? (i := 148) rfl))) (mvT hZ (hw _ (List.mem_of_getElem? (i := 149) rfl))) (mvT hZ (hw _ (List.mem_of_getElem? (i := 93) rfl))) (mvT hZ (hw _ (List.mem_of_getElem? (i := 150) rfl))) (by decide) (backOf (W := 0) (own_rmofa1 l Z aw hw [] rb56 w kb56 dd lz ez em mr T56.heap n0 Z56 Ap56 Ex56_w O56 S0) hZ (hw _ (List.mem_of_getElem? (i := 150) rfl)) (hw _ (List.mem_of_getElem? (i := 93) rfl)) (by decide) (by decide)) (g := (mkF m 50 #[.val (.ref al), .unset] [(.ref rb56)])) rfl (by rw [hml]; rfl) (argsL := [(.ref rb56)]) (rest := []) (lenOf own_pd11 rfl) rfl (by show 2 * 0 + _ ≤ _; exact Nat.le_of_eq rfl) (hb hby own_d14_50) (fun _ _ => ⟨rfl, rfl, (by decide : 1 + 2 ≤ _), (by decide : 1 + 5 ≤ _)⟩)
  dsimp only [Pt.U, Pt.locs, Pt.cells, Pt.slots] at X57 l57 y57 z57 st57 hQ57
  subst l57 y57 z57
  obtain ⟨lw57, rfl, N57q, Kp57, sp57⟩ := hQ57
  have N57 := Fr.app N56 N57q
  refine own_by st57 ?_
  have xa57_el := xa56_el.keep Kp57 nin0
  have F57_modCount_al := F56_modCount_al.keep Kp57 nin0
  have F57_elementData_al := F56_elementData_al.keep Kp57 nin0
  have F57_size_al := F56_size_al.keep Kp57 nin0
  have Ex57_al := Ex56_al.keep Kp57
  have Ex57_w := Ex56_w.keep Kp57
  have K57 := K56.trans Kp57 (all0)
  have Z57 := Nat.le_trans Z56 Kp57.1
  have O57 := O56.keep Kp57 (all0)
  show own_Go p.tables e below K (T57.setTop (mkF m 53 #[.val (.ref al), .unset] [(.ref lw57)]))
  exact own_retA X57 hx hret rfl rfl rfl (hb hby own_d14_53) (hK (some (.ref lw57)) X57 (fun h => by rw [hret] at h; cases h) (⟨_, rfl, N57, K57, sp57⟩) (by decide) (by decide))
def own_Qlcp (Z : State) (em : Addr) (n : Int32) (h0 : Heap) (n0 : Nat) (v : Option Value) (h : Heap) (L : List Loc) : Prop := ∃ lw : Addr, v = some (.ref lw) ∧ Fr n0 L ∧ Keep h0 h [] ∧ own_SZ Z h lw em n
theorem own_rmlcp (l : Launch) (Z : State) (aw : Array Value) (hw : ∀ d ∈ tables_1, d.before aw Z = true) (ws : List Jvm.Cond) (al : Addr) (el : Addr) (n : Int32) (mc : Int32) (w : Addr) (dd : Addr) (lz : Addr) (ez : Addr) (em : Addr) (mr : Addr) (h0 : Heap) (n0 : Nat) (Z0 : n0 ≤ h0.size) (B0 : own_AL Z h0 al el n mc) (A0 : own_Vs Z h0 el w n) (O0 : Old Z n0 h0) (S0 : own_St Z dd lz ez em mr) :
    MetFree l (⟨"java/util/ImmutableCollections", "listCopy", "(Ljava/util/Collection;)Ljava/util/List;"⟩ : MethodName) (head1 (Jvm.Cond.code (⟨"java/util/ImmutableCollections", "listCopy", "(Ljava/util/Collection;)Ljava/util/List;"⟩ : MethodName) jdk_56_method_3_code 2 (some (.object "java/util/List")) :: ws) ({ frames := 7, cells := 3, slots := 8, locals := 110 } : Room)) (fun a U => a = #[.ref al] ∧ Z.Warmed39 U.vm ∧ U.heap = h0) (fun _ _ _ _ _ => True) (fun _ U o U' => ∃ v L, o = .returned v ∧ own_Qlcp Z em n h0 n0 v U'.heap L ∧ FrameEnd U o U' L ({ frames := 7, cells := 3, slots := 8, locals := 110 } : Room).cells ({ frames := 7, cells := 3, slots := 8, locals := 110 } : Room).slots) := by
  rcases A0 with ⟨rfl, A⟩ | ⟨rfl, k, A, Ew⟩
  · exact own_rmlcp0 l Z aw hw ws al el mc w dd lz ez em mr h0 n0 Z0 B0 O0 S0
  · exact own_rmlcp1 l Z aw hw ws al el mc w k dd lz ez em mr h0 n0 Z0 B0 A Ew O0 S0
theorem own_pd12 : parseMethodDescriptor "(Ljava/util/Collection;)Ljava/util/List;" = some ⟨[(.object "java/util/Collection")], some (.object "java/util/List")⟩ := by decide +kernel
theorem own_d13_0 : decode jdk_40_method_48_code 0 = .ok (.aload_n 0, 1) := by decide +kernel
theorem own_d13_1 : decode jdk_40_method_48_code 1 = .ok (.invokestatic 112, 3) := by decide +kernel
theorem own_d13_4 : decode jdk_40_method_48_code 4 = .ok (.areturn, 1) := by decide +kernel
theorem own_efcpy (m : MethodId) (al : Addr) : entryFrame m #[(.ref al)] 1 = mkF m 0 #[.val (.ref al)] [] := by first | (simp [entryFrame, mkF, argsToLocals, Value.category]; done) | rfl
def own_Qcpy (Z : State) (al : Addr) (el : Addr) (n : Int32) (mc : Int32) (w : Addr) (dd : Addr) (lz : Addr) (ez : Addr) (em : Addr) (mr : Addr) (h0 : Heap) (n0 : Nat) (v : Option Value) (h : Heap) (L : List Loc) : Prop := ∃ lw : Addr, v = some (.ref lw) ∧ Fr n0 L ∧ Keep h0 h [] ∧ own_SZ Z h lw em n
set_option maxRecDepth 65536 in
set_option maxHeartbeats 40000000 in
theorem own_rmcpy (l : Launch) (Z : State) (aw : Array Value) (hw : ∀ d ∈ tables_1, d.before aw Z = true) (ws : List Jvm.Cond) (al : Addr) (el : Addr) (n : Int32) (mc : Int32) (w : Addr) (dd : Addr) (lz : Addr) (ez : Addr) (em : Addr) (mr : Addr) (h0 : Heap) (n0 : Nat) (Z0 : n0 ≤ h0.size) (B0 : own_AL Z h0 al el n mc) (A0 : own_Vs Z h0 el w n) (O0 : Old Z n0 h0) (S0 : own_St Z dd lz ez em mr) :
    MetFree l (⟨"java/util/List", "copyOf", "(Ljava/util/Collection;)Ljava/util/List;"⟩ : MethodName) (head1 (Jvm.Cond.code (⟨"java/util/List", "copyOf", "(Ljava/util/Collection;)Ljava/util/List;"⟩ : MethodName) jdk_40_method_48_code 1 (some (.object "java/util/List")) :: ws) ({ frames := 8, cells := 3, slots := 8, locals := 130 } : Room)) (fun a U => a = #[(.ref al)] ∧ Z.Warmed39 U.vm ∧ U.heap = h0) (fun _ _ _ _ _ => True) (fun _ U o U' => ∃ v L, o = .returned v ∧ own_Qcpy Z al el n mc w dd lz ez em mr h0 n0 v U'.heap L ∧ FrameEnd U o U' L ({ frames := 8, cells := 3, slots := 8, locals := 130 } : Room).cells ({ frames := 8, cells := 3, slots := 8, locals := 130 } : Room).slots) := by
  refine own_met (Q := own_Qcpy Z al el n mc w dd lz ez em mr h0 n0) (plainFor_of_name own_pn16) ?_
  intro p e s m below meth c s₁ K hx hby hml hown hnm hret hZ X0 e0 hK
  have hown : s.vm.findClass "java/util/List" = some m.cls := hown
  have N0 := Fr.nil n0
  refine own_by (fun t k => castTop (own_efcpy m al) k) ?_
  show own_Go p.tables e below K (s₁.setTop (mkF m 0 #[.val (.ref al)] []))
  refine own_by (fun t k => XS.aloadN X0.here hx rfl (hb hby own_d13_0) rfl rfl k) ?_
  show own_Go p.tables e below K (s₁.setTop (mkF m 1 #[.val (.ref al)] [(.ref al)]))
  obtain ⟨_, _, ⟨T58, L58, k58, n58⟩, -, X58, ⟨Lc58, hQ58, l58, y58, z58⟩, st58⟩ := Jvm.LawKit.callS X0 hx (y := (⟨"java/util/ImmutableCollections", "listCopy", "(Ljava/util/Collection;)Ljava/util/List;"⟩ : MethodName)) hown (mvT hZ (hw _ (List.mem_of_getElem? (i := 95) rfl))) (mvT hZ (hw _ (List.mem_of_getElem? (i := 96) rfl))) (mvT hZ (hw _ (List.mem_of_getElem? (i := 97) rfl))) (mvT hZ (hw _ (List.mem_of_getElem? (i := 98) rfl))) (by decide) (backOf (W := 0) (own_rmlcp l Z aw hw [] al el n mc w dd lz ez em mr h0 n0 Z0 B0 A0 O0 S0) hZ (hw _ (List.mem_of_getElem? (i := 98) rfl)) (hw _ (List.mem_of_getElem? (i := 97) rfl)) (by decide) (by decide)) (g := (mkF m 1 #[.val (.ref al)] [(.ref al)])) rfl (by rw [hml]; rfl) (argsL := [(.ref al)]) (rest := []) (lenOf own_pd12 rfl) rfl (by show 2 * 0 + _ ≤ _; exact Nat.le_of_eq rfl) (hb hby own_d13_1) (fun _ _ => ⟨rfl, e0, (by decide : 0 + 3 ≤ _), (by decide : 0 + 8 ≤ _)⟩)
  dsimp only [Pt.U, Pt.locs, Pt.cells, Pt.slots] at X58 l58 y58 z58 st58 hQ58
  subst l58 y58 z58
  obtain ⟨lw58, rfl, N58q, r58⟩ := hQ58
  have N58 := Fr.app N0 N58q
  refine own_by st58 ?_
  show own_Go p.tables e below K (T58.setTop (mkF m 4 #[.val (.ref al)] [(.ref lw58)]))
  exact own_retA X58 hx hret rfl rfl rfl (hb hby own_d13_4) (hK (some (.ref lw58)) X58 (fun h => by rw [hret] at h; cases h) (⟨_, rfl, N58, r58⟩) (by decide) (by decide))
theorem own_pn34 : plainName "java/util/ImmutableCollections$ListN" = true := by first | (simp [plainName, overriddenIn]; done) | decide +kernel
theorem own_d34_0 : decode jdk_45_method_3_code 0 = .ok (.aload_n 0, 1) := by decide +kernel
theorem own_d34_1 : decode jdk_45_method_3_code 1 = .ok (.getfield 7, 3) := by decide +kernel
theorem own_d34_4 : decode jdk_45_method_3_code 4 = .ok (.arraylength, 1) := by decide +kernel
theorem own_d34_5 : decode jdk_45_method_3_code 5 = .ok (.ireturn, 1) := by decide +kernel
theorem own_efszn (m : MethodId) (a1 : Addr) : entryFrame m #[(.ref a1)] 1 = mkF m 0 #[.val (.ref a1)] [] := by first | (simp [entryFrame, mkF, argsToLocals, Value.category]; done) | rfl
def own_Qszn (Z : State) (a1 : Addr) (e1 : Addr) (n : Int32) (h0 : Heap) (n0 : Nat) (v : Option Value) (h : Heap) (L : List Loc) : Prop := v = some (.int n) ∧ Fr n0 L ∧ h = h0
set_option maxRecDepth 65536 in
set_option maxHeartbeats 40000000 in
theorem own_rmszn (l : Launch) (Z : State) (aw : Array Value) (hw : ∀ d ∈ tables_1, d.before aw Z = true) (ws : List Jvm.Cond) (a1 : Addr) (e1 : Addr) (n : Int32) (h0 : Heap) (n0 : Nat) (Z0 : n0 ≤ h0.size) (F0 : Fld Z h0 a1 "java/util/ImmutableCollections$ListN" "elements" "[Ljava/lang/Object;" (.ref e1)) (A0 : own_len Z h0 e1 n) :
    MetFree l (⟨"java/util/ImmutableCollections$ListN", "size", "()I"⟩ : MethodName) (head1 (Jvm.Cond.code (⟨"java/util/ImmutableCollections$ListN", "size", "()I"⟩ : MethodName) jdk_45_method_3_code 1 (some .int) :: ws) ({ frames := 0, cells := 0, slots := 0, locals := 0 } : Room)) (fun a U => a = #[(.ref a1)] ∧ Z.Warmed39 U.vm ∧ U.heap = h0) (fun _ _ _ _ _ => True) (fun _ U o U' => ∃ v L, o = .returned v ∧ own_Qszn Z a1 e1 n h0 n0 v U'.heap L ∧ FrameEnd U o U' L ({ frames := 0, cells := 0, slots := 0, locals := 0 } : Room).cells ({ frames := 0, cells := 0, slots := 0, locals := 0 } : Room).slots) := by
  refine own_met (Q := own_Qszn Z a1 e1 n h0 n0) (plainFor_of_name own_pn34) ?_
  intro p e s m below meth c s₁ K hx hby hml hown hnm hret hZ X0 e0 hK
  have hown : s.vm.findClass "java/util/ImmutableCollections$ListN" = some m.cls := hown
  have N0 := Fr.nil n0
  refine own_by (fun t k => castTop (own_efszn m a1) k) ?_
  show own_Go p.tables e below K (s₁.setTop (mkF m 0 #[.val (.ref a1)] []))
  refine own_by (fun t k => XS.aloadN X0.here hx rfl (hb hby own_d34_0) rfl rfl k) ?_
  show own_Go p.tables e below K (s₁.setTop (mkF m 1 #[.val (.ref a1)] [(.ref a1)]))
  obtain ⟨T59, X59, e59, st59⟩ := getF X0 hx hZ hown (host := "") (Or.inl (hw _ (List.mem_of_getElem? (i := 266) rfl))) Via.refl e0 F0 (g := (mkF m 1 #[.val (.ref a1)] [(.ref a1)])) rfl rfl (hb hby own_d34_1)
  refine own_by st59 ?_
  show own_Go p.tables e below K (T59.setTop (mkF m 4 #[.val (.ref a1)] [(.ref e1)]))
  obtain ⟨cl60, Ar60, S60⟩ := id A0
  refine own_by (fun t k => X59.arraylength hx (by rw [e59]; exact Ar60.1) (State.isArrayOf_alike hZ.alike Ar60.2.1) (g := (mkF m 4 #[.val (.ref a1)] [(.ref e1)])) rfl rfl (hb hby own_d34_4) t k) ?_
  rw [S60]
  show own_Go p.tables e below K (T59.setTop (mkF m 5 #[.val (.ref a1)] [(.int n)]))
  exact own_retI X59 hx hret (hb hby own_d34_5) (hK (some (.int n)) X59 (fun h => by rw [hret] at h; cases h) (⟨rfl, N0, e59⟩) (by decide) (by decide))
theorem own_d29_0 : decode jdk_44_method_3_code 0 = .ok (.aload_n 0, 1) := by decide +kernel
theorem own_d29_1 : decode jdk_44_method_3_code 1 = .ok (.getfield 24, 3) := by decide +kernel
theorem own_d29_4 : decode jdk_44_method_3_code 4 = .ok (.getstatic 19, 3) := by decide +kernel
theorem own_d29_7 : decode jdk_44_method_3_code 7 = .ok (.if_acmp .eq 7, 3) := by decide +kernel
theorem own_d29_14 : decode jdk_44_method_3_code 14 = .ok (.iconst 1, 1) := by decide +kernel
theorem own_d29_15 : decode jdk_44_method_3_code 15 = .ok (.ireturn, 1) := by decide +kernel
theorem own_efsz1 (m : MethodId) (a1 : Addr) : entryFrame m #[(.ref a1)] 1 = mkF m 0 #[.val (.ref a1)] [] := by first | (simp [entryFrame, mkF, argsToLocals, Value.category]; done) | rfl
def own_Qsz1 (Z : State) (a1 : Addr) (e1 : Addr) (dd : Addr) (lz : Addr) (ez : Addr) (em : Addr) (mr : Addr) (h0 : Heap) (n0 : Nat) (v : Option Value) (h : Heap) (L : List Loc) : Prop := v = some (.int (1 : Int32)) ∧ Fr n0 L ∧ h = h0
set_option maxRecDepth 65536 in
set_option maxHeartbeats 40000000 in
theorem own_rmsz1 (l : Launch) (Z : State) (aw : Array Value) (hw : ∀ d ∈ tables_1, d.before aw Z = true) (ws : List Jvm.Cond) (a1 : Addr) (e1 : Addr) (dd : Addr) (lz : Addr) (ez : Addr) (em : Addr) (mr : Addr) (h0 : Heap) (n0 : Nat) (Z0 : n0 ≤ h0.size) (F0 : Fld Z h0 a1 "java/util/ImmutableCollections$List12" "e1" "Ljava/lang/Object;" (.ref em)) (O0 : Old Z n0 h0) (S0 : own_St Z dd lz ez em mr) :
    MetFree l (⟨"java/util/ImmutableCollections$List12", "size", "()I"⟩ : MethodName) (head1 (Jvm.Cond.code (⟨"java/util/ImmutableCollections$List12", "size", "()I"⟩ : MethodName) jdk_44_method_3_code 1 (some .int) :: ws) ({ frames := 0, cells := 0, slots := 0, locals := 0 } : Room)) (fun a U => a = #[(.ref a1)] ∧ Z.Warmed39 U.vm ∧ U.heap = h0) (fun _ _ _ _ _ => True) (fun _ U o U' => ∃ v L, o = .returned v ∧ own_Qsz1 Z a1 e1 dd lz ez em mr h0 n0 v U'.heap L ∧ FrameEnd U o U' L ({ frames := 0, cells := 0, slots := 0, locals := 0 } : Room).cells ({ frames := 0, cells := 0, slots := 0, locals := 0 } : Room).slots) := by
  refine own_met (Q := own_Qsz1 Z a1 e1 dd lz ez em mr h0 n0) (plainFor_of_name own_pn22) ?_
  intro p e s m below meth c s₁ K hx hby hml hown hnm hret hZ X0 e0 hK
  have hown : s.vm.findClass "java/util/ImmutableCollections$List12" = some m.cls := hown
  have N0 := Fr.nil n0
  refine own_by (fun t k => castTop (own_efsz1 m a1) k) ?_
  show own_Go p.tables e below K (s₁.setTop (mkF m 0 #[.val (.ref a1)] []))
  refine own_by (fun t k => XS.aloadN X0.here hx rfl (hb hby own_d29_0) rfl rfl k) ?_
  show own_Go p.tables e below K (s₁.setTop (mkF m 1 #[.val (.ref a1)] [(.ref a1)]))
  obtain ⟨T61, X61, e61, st61⟩ := getF X0 hx hZ hown (host := "") (Or.inl (hw _ (List.mem_of_getElem? (i := 179) rfl))) Via.refl e0 F0 (g := (mkF m 1 #[.val (.ref a1)] [(.ref a1)])) rfl rfl (hb hby own_d29_1)
  refine own_by st61 ?_
  show own_Go p.tables e below K (T61.setTop (mkF m 4 #[.val (.ref a1)] [(.ref em)]))
  obtain ⟨T62, X62, e62, st62⟩ := getS2 X61 hx hZ hown (Or.inr (hw _ (List.mem_of_getElem? (i := 178) rfl))) Via.refl e61 (S0.2.2.2.2.2.2.1.ext O0.2) (g := (mkF m 4 #[.val (.ref a1)] [(.ref em)])) rfl (hb hby own_d29_4)
  refine own_by st62 ?_
  show own_Go p.tables e below K (T62.setTop (mkF m 7 #[.val (.ref a1)] [(.ref em), (.ref em)]))
  refine own_by (fun t k => acmp X62 hx rfl rfl rfl (pc0 := 7) (pc' := 14) (same := true) rfl (hb hby own_d29_7) rfl (by simp) (by decide) (by decide) k) ?_
  show own_Go p.tables e below K (T62.setTop (mkF m 14 #[.val (.ref a1)] []))
  refine own_by (fun t k => XS.iconst X62.here hx rfl (hb hby own_d29_14) k) ?_
  show own_Go p.tables e below K (T62.setTop (mkF m 15 #[.val (.ref a1)] [(.int (1 : Int32))]))
  exact own_retI X62 hx hret (hb hby own_d29_15) (hK (some (.int (1 : Int32))) X62 (fun h => by rw [hret] at h; cases h) (⟨rfl, N0, e62⟩) (by decide) (by decide))
theorem own_d29_10 : decode jdk_44_method_3_code 10 = .ok (.iconst 2, 1) := by decide +kernel
theorem own_d29_11 : decode jdk_44_method_3_code 11 = .ok (.goto 4, 3) := by decide +kernel
theorem own_efsz2 (m : MethodId) (a1 : Addr) : entryFrame m #[(.ref a1)] 1 = mkF m 0 #[.val (.ref a1)] [] := by first | (simp [entryFrame, mkF, argsToLocals, Value.category]; done) | rfl
def own_Qsz2 (Z : State) (a1 : Addr) (e1 : Addr) (dd : Addr) (lz : Addr) (ez : Addr) (em : Addr) (mr : Addr) (h0 : Heap) (n0 : Nat) (v : Option Value) (h : Heap) (L : List Loc) : Prop := v = some (.int (2 : Int32)) ∧ Fr n0 L ∧ h = h0
set_option maxRecDepth 65536 in
set_option maxHeartbeats 40000000 in
theorem own_rmsz2 (l : Launch) (Z : State) (aw : Array Value) (hw : ∀ d ∈ tables_1, d.before aw Z = true) (ws : List Jvm.Cond) (a1 : Addr) (e1 : Addr) (dd : Addr) (lz : Addr) (ez : Addr) (em : Addr) (mr : Addr) (h0 : Heap) (n0 : Nat) (Z0 : n0 ≤ h0.size) (F0 : Fld Z h0 a1 "java/util/ImmutableCollections$List12" "e1" "Ljava/lang/Object;" (.ref e1)) (hne : ¬ e1 = em) (O0 : Old Z n0 h0) (S0 : own_St Z dd lz ez em mr) :
    MetFree l (⟨"java/util/ImmutableCollections$List12", "size", "()I"⟩ : MethodName) (head1 (Jvm.Cond.code (⟨"java/util/ImmutableCollections$List12", "size", "()I"⟩ : MethodName) jdk_44_method_3_code 1 (some .int) :: ws) ({ frames := 0, cells := 0, slots := 0, locals := 0 } : Room)) (fun a U => a = #[(.ref a1)] ∧ Z.Warmed39 U.vm ∧ U.heap = h0) (fun _ _ _ _ _ => True) (fun _ U o U' => ∃ v L, o = .returned v ∧ own_Qsz2 Z a1 e1 dd lz ez em mr h0 n0 v U'.heap L ∧ FrameEnd U o U' L ({ frames := 0, cells := 0, slots := 0, locals := 0 } : Room).cells ({ frames := 0, cells := 0, slots := 0, locals := 0 } : Room).slots) := by
  refine own_met (Q := own_Qsz2 Z a1 e1 dd lz ez em mr h0 n0) (plainFor_of_name own_pn22) ?_
  intro p e s m below meth c s₁ K hx hby hml hown hnm hret hZ X0 e0 hK
  have hown : s.vm.findClass "java/util/ImmutableCollections$List12" = some m.cls := hown
  have N0 := Fr.nil n0
  refine own_by (fun t k => castTop (own_efsz2 m a1) k) ?_
  show own_Go p.tables e below K (s₁.setTop (mkF m 0 #[.val (.ref a1)] []))
  refine own_by (fun t k => XS.aloadN X0.here hx rfl (hb hby own_d29_0) rfl rfl k) ?_
  show own_Go p.tables e below K (s₁.setTop (mkF m 1 #[.val (.ref a1)] [(.ref a1)]))
  obtain ⟨T63, X63, e63, st63⟩ := getF X0 hx hZ hown (host := "") (Or.inl (hw _ (List.mem_of_getElem? (i := 179) rfl))) Via.refl e0 F0 (g := (mkF m 1 #[.val (.ref a1)] [(.ref a1)])) rfl rfl (hb hby own_d29_1)
  refine own_by st63 ?_
  show own_Go p.tables e below K (T63.setTop (mkF m 4 #[.val (.ref a1)] [(.ref e1)]))
  obtain ⟨T64, X64, e64, st64⟩ := getS2 X63 hx hZ hown (Or.inr (hw _ (List.mem_of_getElem? (i := 178) rfl))) Via.refl e63 (S0.2.2.2.2.2.2.1.ext O0.2) (g := (mkF m 4 #[.val (.ref a1)] [(.ref e1)])) rfl (hb hby own_d29_4)
  refine own_by st64 ?_
  show own_Go p.tables e below K (T64.setTop (mkF m 7 #[.val (.ref a1)] [(.ref em), (.ref e1)]))
  refine own_by (fun t k => acmp X64 hx rfl rfl rfl (pc0 := 7) (pc' := 10) (same := false) rfl (hb hby own_d29_7) rfl (by simp [hne]) (by decide) (by decide) k) ?_
  show own_Go p.tables e below K (T64.setTop (mkF m 10 #[.val (.ref a1)] []))
  refine own_by (fun t k => XS.iconst X64.here hx rfl (hb hby own_d29_10) k) ?_
  show own_Go p.tables e below K (T64.setTop (mkF m 11 #[.val (.ref a1)] [(.int (2 : Int32))]))
  refine own_by (fun t k => XS.goto X64.here hx rfl (pc0 := 11) (pc' := 15) rfl (hb hby own_d29_11) (by decide) (by decide) k) ?_
  show own_Go p.tables e below K (T64.setTop (mkF m 15 #[.val (.ref a1)] [(.int (2 : Int32))]))
  exact own_retI X64 hx hret (hb hby own_d29_15) (hK (some (.int (2 : Int32))) X64 (fun h => by rw [hret] at h; cases h) (⟨rfl, N0, e64⟩) (by decide) (by decide))
theorem own_pn5 : plainName "com/example/skyroster/skyroster/UsedWindow" = true := by first | (simp [plainName, overriddenIn]; done) | decide +kernel
theorem own_d5_0 : decode prog_24_method_1_code 0 = .ok (.aload_n 0, 1) := by decide +kernel
theorem own_d5_1 : decode prog_24_method_1_code 1 = .ok (.invokespecial 1, 3) := by decide +kernel
theorem own_d5_4 : decode prog_24_method_1_code 4 = .ok (.aload_n 0, 1) := by decide +kernel
theorem own_d5_5 : decode prog_24_method_1_code 5 = .ok (.lload_n 1, 1) := by decide +kernel
theorem own_d5_6 : decode prog_24_method_1_code 6 = .ok (.putfield 7, 3) := by decide +kernel
theorem own_d5_9 : decode prog_24_method_1_code 9 = .ok (.aload_n 0, 1) := by decide +kernel
theorem own_d5_10 : decode prog_24_method_1_code 10 = .ok (.lload_n 3, 1) := by decide +kernel
theorem own_d5_11 : decode prog_24_method_1_code 11 = .ok (.putfield 13, 3) := by decide +kernel
theorem own_d5_14 : decode prog_24_method_1_code 14 = .ok (.aload_n 0, 1) := by decide +kernel
theorem own_d5_15 : decode prog_24_method_1_code 15 = .ok (.lload 5, 2) := by decide +kernel
theorem own_d5_17 : decode prog_24_method_1_code 17 = .ok (.putfield 16, 3) := by decide +kernel
theorem own_d5_20 : decode prog_24_method_1_code 20 = .ok (.return_, 1) := by decide +kernel
theorem own_efuwi (m : MethodId) (a1 : Addr) (j1 : Int64) (j2 : Int64) (j3 : Int64) : entryFrame m #[(.ref a1), (.long j1), (.long j2), (.long j3)] 7 = mkF m 0 #[.val (.ref a1), .val (.long j1), .second, .val (.long j2), .second, .val (.long j3), .second] [] := by first | (simp [entryFrame, mkF, argsToLocals, Value.category]; done) | rfl
def own_Quwi (Z : State) (a1 : Addr) (j1 : Int64) (j2 : Int64) (j3 : Int64) (h0 : Heap) (n0 : Nat) (v : Option Value) (h : Heap) (L : List Loc) : Prop := v = none ∧ Fr n0 L ∧ Keep h0 h [a1] ∧ Exa Z h a1 "com/example/skyroster/skyroster/UsedWindow"
set_option maxRecDepth 65536 in
set_option maxHeartbeats 40000000 in
theorem own_rmuwi (l : Launch) (Z : State) (aw : Array Value) (hw : ∀ d ∈ tables_1, d.before aw Z = true) (ws : List Jvm.Cond) (a1 : Addr) (j1 : Int64) (j2 : Int64) (j3 : Int64) (h0 : Heap) (n0 : Nat) (Z0 : n0 ≤ h0.size) (E0 : Exa Z h0 a1 "com/example/skyroster/skyroster/UsedWindow") (ga : n0 ≤ a1) (F0_startS : Fld Z h0 a1 "com/example/skyroster/skyroster/UsedWindow" "startS" "J" (.long (0 : Int64))) (F0_endS : Fld Z h0 a1 "com/example/skyroster/skyroster/UsedWindow" "endS" "J" (.long (0 : Int64))) (F0_orbit : Fld Z h0 a1 "com/example/skyroster/skyroster/UsedWindow" "orbit" "J" (.long (0 : Int64)))  :
    MetFree l (⟨"com/example/skyroster/skyroster/UsedWindow", "<init>", "(JJJ)V"⟩ : MethodName) (head1 (Jvm.Cond.code (⟨"com/example/skyroster/skyroster/UsedWindow", "<init>", "(JJJ)V"⟩ : MethodName) prog_24_method_1_code 7 none :: ws) ({ frames := 2, cells := 0, slots := 0, locals := 24 } : Room)) (fun a U => a = #[(.ref a1), (.long j1), (.long j2), (.long j3)] ∧ Z.Warmed39 U.vm ∧ U.heap = h0) (fun _ _ _ _ _ => True) (fun _ U o U' => ∃ v L, o = .returned v ∧ own_Quwi Z a1 j1 j2 j3 h0 n0 v U'.heap L ∧ FrameEnd U o U' L ({ frames := 2, cells := 0, slots := 0, locals := 24 } : Room).cells ({ frames := 2, cells := 0, slots := 0, locals := 24 } : Room).slots) := by
  refine own_met (Q := own_Quwi Z a1 j1 j2 j3 h0 n0) (plainFor_of_name own_pn5) ?_
  intro p e s m below meth c s₁ K hx hby hml hown hnm hret hZ X0 e0 hK
  have hown : s.vm.findClass "com/example/skyroster/skyroster/UsedWindow" = some m.cls := hown
  have hnm : meth.name = "<init>" := hnm
  have N0 := Fr.nil n0
  refine own_by (fun t k => castTop (own_efuwi m a1 j1 j2 j3) k) ?_
  show own_Go p.tables e below K (s₁.setTop (mkF m 0 #[.val (.ref a1), .val (.long j1), .second, .val (.long j2), .second, .val (.long j3), .second] []))
  refine own_by (fun t k => XS.aloadN X0.here hx rfl (hb hby own_d5_0) rfl rfl k) ?_
  show own_Go p.tables e below K (s₁.setTop (mkF m 1 #[.val (.ref a1), .val (.long j1), .second, .val (.long j2), .second, .val (.long j3), .second] [(.ref a1)]))
  obtain ⟨_, _, ⟨T65, L65, k65, n65⟩, -, X65, ⟨Lc65, hQ65, l65, y65, z65⟩, st65⟩ := X0.specialBack hx (y := (⟨"java/lang/Record", "<init>", "()V"⟩ : MethodName)) rfl hown (mvT hZ (hw _ (List.mem_of_getElem? (i := 32) rfl))) (mvT hZ (hw _ (List.mem_of_getElem? (i := 33) rfl))) (mvT hZ (hw _ (List.mem_of_getElem? (i := 36) rfl))) (by decide) (backOf (W := 0) (own_rmrci l Z aw hw [] a1 h0 n0 Z0) hZ (hw _ (List.mem_of_getElem? (i := 36) rfl)) (hw _ (List.mem_of_getElem? (i := 35) rfl)) (by decide) (by decide)) (g := (mkF m 1 #[.val (.ref a1), .val (.long j1), .second, .val (.long j2), .second, .val (.long j3), .second] [(.ref a1)])) rfl (by rw [hml]; rfl) (Steps.refl _) (a := a1) (argsL := []) (rest := []) (lenOf own_pd0 rfl) rfl (by show 2 * 0 + _ ≤ _; exact Nat.le_of_eq rfl) (hb hby own_d5_1) (fun _ _ => ⟨rfl, e0, (by decide : 0 + 0 ≤ _), (by decide : 0 + 0 ≤ _)⟩)
  dsimp only [Pt.U, Pt.locs, Pt.cells, Pt.slots] at X65 l65 y65 z65 st65 hQ65
  subst l65 y65 z65
  obtain ⟨rfl, N65q, e65⟩ := hQ65
  have N65 := Fr.app N0 N65q
  refine own_by (fun t k => st65.trans k) ?_
  show own_Go p.tables e below K (T65.setTop (mkF m 4 #[.val (.ref a1), .val (.long j1), .second, .val (.long j2), .second, .val (.long j3), .second] []))
  refine own_by (fun t k => XS.aloadN X65.here hx rfl (hb hby own_d5_4) rfl rfl k) ?_
  show own_Go p.tables e below K (T65.setTop (mkF m 5 #[.val (.ref a1), .val (.long j1), .second, .val (.long j2), .second, .val (.long j3), .second] [(.ref a1)]))
  refine own_by (fun t k => XS.lloadN X65.here hx rfl (hb hby own_d5_5) rfl k) ?_
  show own_Go p.tables e below K (T65.setTop (mkF m 6 #[.val (.ref a1), .val (.long j1), .second, .val (.long j2), .second, .val (.long j3), .second] [(.long j1), (.ref a1)]))
  obtain ⟨T66, h66, X66, e66, W66, st66⟩ := putF X65 hx hZ hown (host := "") (Or.inl (hw _ (List.mem_of_getElem? (i := 38) rfl))) Via.refl e65 F0_startS E0 (Or.inr ⟨(hw _ (List.mem_of_getElem? (i := 39) rfl)), rfl, hnm⟩) (hw _ (List.mem_of_getElem? (i := 27) rfl)) (ty := .long) (by decide) rfl rfl (g := (mkF m 6 #[.val (.ref a1), .val (.long j1), .second, .val (.long j2), .second, .val (.long j3), .second] [(.long j1), (.ref a1)])) rfl rfl (hb hby own_d5_6)
  refine own_by st66 ?_
  have F66_startS_a1 := F0_startS.same W66
  have F66_endS_a1 := F0_endS.other W66 (Or.inr (slot_ne (Or.inr (hw _ (List.mem_of_getElem? (i := 41) rfl))) (Or.inr (hw _ (List.mem_of_getElem? (i := 39) rfl))) (by decide) (t := .long) (t' := .long) (by decide) (by decide)))
  have F66_orbit_a1 := F0_orbit.other W66 (Or.inr (slot_ne (Or.inr (hw _ (List.mem_of_getElem? (i := 43) rfl))) (Or.inr (hw _ (List.mem_of_getElem? (i := 39) rfl))) (by decide) (t := .long) (t' := .long) (by decide) (by decide)))
  have Ex66_a1 := E0.wr W66
  have K66 := (Keep.refl h0 [a1]).wr W66 (Or.inl (by simp))
  have Z66 := Nat.le_trans Z0 (Keep.of_wr W66).1
  have N66 := Fr.snoc X66 N65 ga
  show own_Go p.tables e below K (T66.setTop (mkF m 9 #[.val (.ref a1), .val (.long j1), .second, .val (.long j2), .second, .val (.long j3), .second] []))
  refine own_by (fun t k => XS.aloadN X66.here hx rfl (hb hby own_d5_9) rfl rfl k) ?_
  show own_Go p.tables e below K (T66.setTop (mkF m 10 #[.val (.ref a1), .val (.long j1), .second, .val (.long j2), .second, .val (.long j3), .second] [(.ref a1)]))
  refine own_by (fun t k => XS.lloadN X66.here hx rfl (hb hby own_d5_10) rfl k) ?_
  show own_Go p.tables e below K (T66.setTop (mkF m 11 #[.val (.ref a1), .val (.long j1), .second, .val (.long j2), .second, .val (.long j3), .second] [(.long j2), (.ref a1)]))
  obtain ⟨T67, h67, X67, e67, W67, st67⟩ := putF X66 hx hZ hown (host := "") (Or.inl (hw _ (List.mem_of_getElem? (i := 40) rfl))) Via.refl e66 F66_endS_a1 Ex66_a1 (Or.inr ⟨(hw _ (List.mem_of_getElem? (i := 41) rfl)), rfl, hnm⟩) (hw _ (List.mem_of_getElem? (i := 27) rfl)) (ty := .long) (by decide) rfl rfl (g := (mkF m 11 #[.val (.ref a1), .val (.long j1), .second, .val (.long j2), .second, .val (.long j3), .second] [(.long j2), (.ref a1)])) rfl rfl (hb hby own_d5_11)
  refine own_by st67 ?_
  have F67_startS_a1 := F66_startS_a1.other W67 (Or.inr (slot_ne (Or.inr (hw _ (List.mem_of_getElem? (i := 39) rfl))) (Or.inr (hw _ (List.mem_of_getElem? (i := 41) rfl))) (by decide) (t := .long) (t' := .long) (by decide) (by decide)))
  have F67_endS_a1 := F66_endS_a1.same W67
  have F67_orbit_a1 := F66_orbit_a1.other W67 (Or.inr (slot_ne (Or.inr (hw _ (List.mem_of_getElem? (i := 43) rfl))) (Or.inr (hw _ (List.mem_of_getElem? (i := 41) rfl))) (by decide) (t := .long) (t' := .long) (by decide) (by decide)))
  have Ex67_a1 := Ex66_a1.wr W67
  have K67 := K66.wr W67 (Or.inl (by simp))
  have Z67 := Nat.le_trans Z66 (Keep.of_wr W67).1
  have N67 := Fr.snoc X67 N66 ga
  show own_Go p.tables e below K (T67.setTop (mkF m 14 #[.val (.ref a1), .val (.long j1), .second, .val (.long j2), .second, .val (.long j3), .second] []))
  refine own_by (fun t k => XS.aloadN X67.here hx rfl (hb hby own_d5_14) rfl rfl k) ?_
  show own_Go p.tables e below K (T67.setTop (mkF m 15 #[.val (.ref a1), .val (.long j1), .second, .val (.long j2), .second, .val (.long j3), .second] [(.ref a1)]))
  refine own_by (fun t k => XS.lload X67.here hx rfl (hb hby own_d5_15) rfl k) ?_
  show own_Go p.tables e below K (T67.setTop (mkF m 17 #[.val (.ref a1), .val (.long j1), .second, .val (.long j2), .second, .val (.long j3), .second] [(.long j3), (.ref a1)]))
  obtain ⟨T68, h68, X68, e68, W68, st68⟩ := putF X67 hx hZ hown (host := "") (Or.inl (hw _ (List.mem_of_getElem? (i := 42) rfl))) Via.refl e67 F67_orbit_a1 Ex67_a1 (Or.inr ⟨(hw _ (List.mem_of_getElem? (i := 43) rfl)), rfl, hnm⟩) (hw _ (List.mem_of_getElem? (i := 27) rfl)) (ty := .long) (by decide) rfl rfl (g := (mkF m 17 #[.val (.ref a1), .val (.long j1), .second, .val (.long j2), .second, .val (.long j3), .second] [(.long j3), (.ref a1)])) rfl rfl (hb hby own_d5_17)
  refine own_by st68 ?_
  have F68_startS_a1 := F67_startS_a1.other W68 (Or.inr (slot_ne (Or.inr (hw _ (List.mem_of_getElem? (i := 39) rfl))) (Or.inr (hw _ (List.mem_of_getElem? (i := 43) rfl))) (by decide) (t := .long) (t' := .long) (by decide) (by decide)))
  have F68_endS_a1 := F67_endS_a1.other W68 (Or.inr (slot_ne (Or.inr (hw _ (List.mem_of_getElem? (i := 41) rfl))) (Or.inr (hw _ (List.mem_of_getElem? (i := 43) rfl))) (by decide) (t := .long) (t' := .long) (by decide) (by decide)))
  have F68_orbit_a1 := F67_orbit_a1.same W68
  have Ex68_a1 := Ex67_a1.wr W68
  have K68 := K67.wr W68 (Or.inl (by simp))
  have Z68 := Nat.le_trans Z67 (Keep.of_wr W68).1
  have N68 := Fr.snoc X68 N67 ga
  show own_Go p.tables e below K (T68.setTop (mkF m 20 #[.val (.ref a1), .val (.long j1), .second, .val (.long j2), .second, .val (.long j3), .second] []))
  exact own_retV X68 hx hret (hb hby own_d5_20) (hK none X68 (fun _ => rfl) (by rw [e68]; exact ⟨rfl, N68, K68, Ex68_a1⟩) (by decide) (by decide))
theorem own_pn12 : plainName "com/example/skyroster/skyroster/Satellite" = true := by first | (simp [plainName, overriddenIn]; done) | decide +kernel
theorem own_d12_0 : decode prog_15_method_1_code 0 = .ok (.aload_n 0, 1) := by decide +kernel
theorem own_d12_1 : decode prog_15_method_1_code 1 = .ok (.invokespecial 1, 3) := by decide +kernel
theorem own_d12_4 : decode prog_15_method_1_code 4 = .ok (.aload_n 3, 1) := by decide +kernel
theorem own_d12_5 : decode prog_15_method_1_code 5 = .ok (.invokestatic 7, 3) := by decide +kernel
theorem own_d12_8 : decode prog_15_method_1_code 8 = .ok (.astore_n 3, 1) := by decide +kernel
theorem own_d12_9 : decode prog_15_method_1_code 9 = .ok (.aload 12, 2) := by decide +kernel
theorem own_d12_11 : decode prog_15_method_1_code 11 = .ok (.invokestatic 7, 3) := by decide +kernel
theorem own_d12_14 : decode prog_15_method_1_code 14 = .ok (.astore 12, 2) := by decide +kernel
theorem own_d12_16 : decode prog_15_method_1_code 16 = .ok (.aload_n 0, 1) := by decide +kernel
theorem own_d12_17 : decode prog_15_method_1_code 17 = .ok (.aload_n 1, 1) := by decide +kernel
theorem own_d12_18 : decode prog_15_method_1_code 18 = .ok (.putfield 13, 3) := by decide +kernel
theorem own_d12_21 : decode prog_15_method_1_code 21 = .ok (.aload_n 0, 1) := by decide +kernel
theorem own_d12_22 : decode prog_15_method_1_code 22 = .ok (.aload_n 2, 1) := by decide +kernel
theorem own_d12_23 : decode prog_15_method_1_code 23 = .ok (.putfield 19, 3) := by decide +kernel
theorem own_d12_26 : decode prog_15_method_1_code 26 = .ok (.aload_n 0, 1) := by decide +kernel
theorem own_d12_27 : decode prog_15_method_1_code 27 = .ok (.aload_n 3, 1) := by decide +kernel
theorem own_d12_28 : decode prog_15_method_1_code 28 = .ok (.putfield 22, 3) := by decide +kernel
theorem own_d12_31 : decode prog_15_method_1_code 31 = .ok (.aload_n 0, 1) := by decide +kernel
theorem own_d12_32 : decode prog_15_method_1_code 32 = .ok (.dload 4, 2) := by decide +kernel
theorem own_d12_34 : decode prog_15_method_1_code 34 = .ok (.putfield 26, 3) := by decide +kernel
theorem own_d12_37 : decode prog_15_method_1_code 37 = .ok (.aload_n 0, 1) := by decide +kernel
theorem own_d12_38 : decode prog_15_method_1_code 38 = .ok (.lload 6, 2) := by decide +kernel
theorem own_d12_40 : decode prog_15_method_1_code 40 = .ok (.putfield 30, 3) := by decide +kernel
theorem own_d12_43 : decode prog_15_method_1_code 43 = .ok (.aload_n 0, 1) := by decide +kernel
theorem own_d12_44 : decode prog_15_method_1_code 44 = .ok (.lload 8, 2) := by decide +kernel
theorem own_d12_46 : decode prog_15_method_1_code 46 = .ok (.putfield 34, 3) := by decide +kernel
theorem own_d12_49 : decode prog_15_method_1_code 49 = .ok (.aload_n 0, 1) := by decide +kernel
theorem own_d12_50 : decode prog_15_method_1_code 50 = .ok (.lload 10, 2) := by decide +kernel
theorem own_d12_52 : decode prog_15_method_1_code 52 = .ok (.putfield 37, 3) := by decide +kernel
theorem own_d12_55 : decode prog_15_method_1_code 55 = .ok (.aload_n 0, 1) := by decide +kernel
theorem own_d12_56 : decode prog_15_method_1_code 56 = .ok (.aload 12, 2) := by decide +kernel
theorem own_d12_58 : decode prog_15_method_1_code 58 = .ok (.putfield 40, 3) := by decide +kernel
theorem own_d12_61 : decode prog_15_method_1_code 61 = .ok (.return_, 1) := by decide +kernel
theorem own_efsai (m : MethodId) (a1 : Addr) (s1 : Addr) (s2 : Addr) (r0 : Addr) (dc : UInt64) (j1 : Int64) (j2 : Int64) (j3 : Int64) (al : Addr) : entryFrame m #[(.ref a1), (.ref s1), (.ref s2), (.ref r0), (.double dc), (.long j1), (.long j2), (.long j3), (.ref al)] 13 = mkF m 0 #[.val (.ref a1), .val (.ref s1), .val (.ref s2), .val (.ref r0), .val (.double dc), .second, .val (.long j1), .second, .val (.long j2), .second, .val (.long j3), .second, .val (.ref al)] [] := by first | (simp [entryFrame, mkF, argsToLocals, Value.category]; done) | rfl
def own_Qsai (Z : State) (a1 : Addr) (s1 : Addr) (s2 : Addr) (r0 : Addr) (dc : UInt64) (j1 : Int64) (j2 : Int64) (j3 : Int64) (al : Addr) (mc0 : Int32) (el : Addr) (n : Int32) (mc : Int32) (w : Addr) (dd : Addr) (lz : Addr) (ez : Addr) (em : Addr) (mr : Addr) (h0 : Heap) (n0 : Nat) (v : Option Value) (h : Heap) (L : List Loc) : Prop := v = none ∧ Fr n0 L ∧ Keep h0 h [a1] ∧ Exa Z h a1 "com/example/skyroster/skyroster/Satellite" ∧ Fld Z h a1 "com/example/skyroster/skyroster/Satellite" "costCoefficient" "D" (.double dc) ∧ ∃ lw, Fld Z h a1 "com/example/skyroster/skyroster/Satellite" "usedWindows" "Ljava/util/List;" (.ref lw) ∧ own_SZ Z h lw em n
set_option maxRecDepth 65536 in
set_option maxHeartbeats 40000000 in
theorem own_rmsai (l : Launch) (Z : State) (aw : Array Value) (hw : ∀ d ∈ tables_1, d.before aw Z = true) (ws : List Jvm.Cond) (a1 : Addr) (s1 : Addr) (s2 : Addr) (r0 : Addr) (dc : UInt64) (j1 : Int64) (j2 : Int64) (j3 : Int64) (al : Addr) (mc0 : Int32) (el : Addr) (n : Int32) (mc : Int32) (w : Addr) (dd : Addr) (lz : Addr) (ez : Addr) (em : Addr) (mr : Addr) (h0 : Heap) (n0 : Nat) (Z0 : n0 ≤ h0.size) (E0 : Exa Z h0 a1 "com/example/skyroster/skyroster/Satellite") (ga : n0 ≤ a1) (F0_id : Fld Z h0 a1 "com/example/skyroster/skyroster/Satellite" "id" "Ljava/lang/String;" .null) (F0_name : Fld Z h0 a1 "com/example/skyroster/skyroster/Satellite" "name" "Ljava/lang/String;" .null) (F0_payloads : Fld Z h0 a1 "com/example/skyroster/skyroster/Satellite" "payloads" "Ljava/util/List;" .null) (F0_costCoefficient : Fld Z h0 a1 "com/example/skyroster/skyroster/Satellite" "costCoefficient" "D" (.double (0 : UInt64))) (F0_minGapS : Fld Z h0 a1 "com/example/skyroster/skyroster/Satellite" "minGapS" "J" (.long (0 : Int64))) (F0_maxOrbitS : Fld Z h0 a1 "com/example/skyroster/skyroster/Satellite" "maxOrbitS" "J" (.long (0 : Int64))) (F0_maxDayS : Fld Z h0 a1 "com/example/skyroster/skyroster/Satellite" "maxDayS" "J" (.long (0 : Int64))) (F0_usedWindows : Fld Z h0 a1 "com/example/skyroster/skyroster/Satellite" "usedWindows" "Ljava/util/List;" .null) (B1 : own_AL Z h0 r0 dd 0 mc0) (B0 : own_AL Z h0 al el n mc) (A0 : own_Vs Z h0 el w n) (O0 : Old Z n0 h0) (S0 : own_St Z dd lz ez em mr) :
    MetFree l (⟨"com/example/skyroster/skyroster/Satellite", "<init>", "(Ljava/lang/String;Ljava/lang/String;Ljava/util/List;DJJJLjava/util/List;)V"⟩ : MethodName) (head1 (Jvm.Cond.code (⟨"com/example/skyroster/skyroster/Satellite", "<init>", "(Ljava/lang/String;Ljava/lang/String;Ljava/util/List;DJJJLjava/util/List;)V"⟩ : MethodName) prog_15_method_1_code 13 none :: ws) ({ frames := 9, cells := 6, slots := 16, locals := 150 } : Room)) (fun a U => a = #[(.ref a1), (.ref s1), (.ref s2), (.ref r0), (.double dc), (.long j1), (.long j2), (.long j3), (.ref al)] ∧ Z.Warmed39 U.vm ∧ U.heap = h0) (fun _ _ _ _ _ => True) (fun _ U o U' => ∃ v L, o = .returned v ∧ own_Qsai Z a1 s1 s2 r0 dc j1 j2 j3 al mc0 el n mc w dd lz ez em mr h0 n0 v U'.heap L ∧ FrameEnd U o U' L ({ frames := 9, cells := 6, slots := 16, locals := 150 } : Room).cells ({ frames := 9, cells := 6, slots := 16, locals := 150 } : Room).slots) := by
  refine own_met (Q := own_Qsai Z a1 s1 s2 r0 dc j1 j2 j3 al mc0 el n mc w dd lz ez em mr h0 n0) (plainFor_of_name own_pn12) ?_
  intro p e s m below meth c s₁ K hx hby hml hown hnm hret hZ X0 e0 hK
  have hown : s.vm.findClass "com/example/skyroster/skyroster/Satellite" = some m.cls := hown
  have hnm : meth.name = "<init>" := hnm
  have N0 := Fr.nil n0
  refine own_by (fun t k => castTop (own_efsai m a1 s1 s2 r0 dc j1 j2 j3 al) k) ?_
  show own_Go p.tables e below K (s₁.setTop (mkF m 0 #[.val (.ref a1), .val (.ref s1), .val (.ref s2), .val (.ref r0), .val (.double dc), .second, .val (.long j1), .second, .val (.long j2), .second, .val (.long j3), .second, .val (.ref al)] []))
  refine own_by (fun t k => XS.aloadN X0.here hx rfl (hb hby own_d12_0) rfl rfl k) ?_
  show own_Go p.tables e below K (s₁.setTop (mkF m 1 #[.val (.ref a1), .val (.ref s1), .val (.ref s2), .val (.ref r0), .val (.double dc), .second, .val (.long j1), .second, .val (.long j2), .second, .val (.long j3), .second, .val (.ref al)] [(.ref a1)]))
  obtain ⟨_, _, ⟨T69, L69, k69, n69⟩, -, X69, ⟨Lc69, hQ69, l69, y69, z69⟩, st69⟩ := X0.specialBack hx (y := (⟨"java/lang/Record", "<init>", "()V"⟩ : MethodName)) rfl hown (mvT hZ (hw _ (List.mem_of_getElem? (i := 90) rfl))) (mvT hZ (hw _ (List.mem_of_getElem? (i := 33) rfl))) (mvT hZ (hw _ (List.mem_of_getElem? (i := 36) rfl))) (by decide) (backOf (W := 0) (own_rmrci l Z aw hw [] a1 h0 n0 Z0) hZ (hw _ (List.mem_of_getElem? (i := 36) rfl)) (hw _ (List.mem_of_getElem? (i := 35) rfl)) (by decide) (by decide)) (g := (mkF m 1 #[.val (.ref a1), .val (.ref s1), .val (.ref s2), .val (.ref r0), .val (.double dc), .second, .val (.long j1), .second, .val (.long j2), .second, .val (.long j3), .second, .val (.ref al)] [(.ref a1)])) rfl (by rw [hml]; rfl) (Steps.refl _) (a := a1) (argsL := []) (rest := []) (lenOf own_pd0 rfl) rfl (by show 2 * 0 + _ ≤ _; exact Nat.le_of_eq rfl) (hb hby own_d12_1) (fun _ _ => ⟨rfl, e0, (by decide : 0 + 0 ≤ _), (by decide : 0 + 0 ≤ _)⟩)
  dsimp only [Pt.U, Pt.locs, Pt.cells, Pt.slots] at X69 l69 y69 z69 st69 hQ69
  subst l69 y69 z69
  obtain ⟨rfl, N69q, e69⟩ := hQ69
  have N69 := Fr.app N0 N69q
  refine own_by (fun t k => st69.trans k) ?_
  show own_Go p.tables e below K (T69.setTop (mkF m 4 #[.val (.ref a1), .val (.ref s1), .val (.ref s2), .val (.ref r0), .val (.double dc), .second, .val (.long j1), .second, .val (.long j2), .second, .val (.long j3), .second, .val (.ref al)] []))
  refine own_by (fun t k => XS.aloadN X69.here hx rfl (hb hby own_d12_4) rfl rfl k) ?_
  show own_Go p.tables e below K (T69.setTop (mkF m 5 #[.val (.ref a1), .val (.ref s1), .val (.ref s2), .val (.ref r0), .val (.double dc), .second, .val (.long j1), .second, .val (.long j2), .second, .val (.long j3), .second, .val (.ref al)] [(.ref r0)]))
  obtain ⟨_, _, ⟨T70, L70, k70, n70⟩, -, X70, ⟨Lc70, hQ70, l70, y70, z70⟩, st70⟩ := Jvm.LawKit.callS X69 hx (y := (⟨"java/util/List", "copyOf", "(Ljava/util/Collection;)Ljava/util/List;"⟩ : MethodName)) hown (mvT hZ (hw _ (List.mem_of_getElem? (i := 91) rfl))) (mvT hZ (hw _ (List.mem_of_getElem? (i := 92) rfl))) (mvT hZ (hw _ (List.mem_of_getElem? (i := 93) rfl))) (mvT hZ (hw _ (List.mem_of_getElem? (i := 94) rfl))) (by decide) (backOf (W := 0) (own_rmcpy l Z aw hw [] r0 dd 0 mc0 w dd lz ez em mr h0 n0 Z0 ⟨B1.1, B1.2.1, B1.2.2.1, B1.2.2.2⟩ (Or.inl ⟨rfl, S0.2.1.ext O0.2⟩) O0 S0) hZ (hw _ (List.mem_of_getElem? (i := 94) rfl)) (hw _ (List.mem_of_getElem? (i := 93) rfl)) (by decide) (by decide)) (g := (mkF m 5 #[.val (.ref a1), .val (.ref s1), .val (.ref s2), .val (.ref r0), .val (.double dc), .second, .val (.long j1), .second, .val (.long j2), .second, .val (.long j3), .second, .val (.ref al)] [(.ref r0)])) rfl (by rw [hml]; rfl) (argsL := [(.ref r0)]) (rest := []) (lenOf own_pd12 rfl) rfl (by show 2 * 0 + _ ≤ _; exact Nat.le_of_eq rfl) (hb hby own_d12_5) (fun _ _ => ⟨rfl, e69, (by decide : 0 + 3 ≤ _), (by decide : 0 + 8 ≤ _)⟩)
  dsimp only [Pt.U, Pt.locs, Pt.cells, Pt.slots] at X70 l70 y70 z70 st70 hQ70
  subst l70 y70 z70
  obtain ⟨lw70, rfl, N70q, Kp70, -⟩ := hQ70
  have N70 := Fr.app N69 N70q
  refine own_by st70 ?_
  have xa70_el := A0.keep Kp70 nin0
  have F70_id_a1 := F0_id.keep Kp70 nin0
  have F70_name_a1 := F0_name.keep Kp70 nin0
  have F70_payloads_a1 := F0_payloads.keep Kp70 nin0
  have F70_costCoefficient_a1 := F0_costCoefficient.keep Kp70 nin0
  have F70_minGapS_a1 := F0_minGapS.keep Kp70 nin0
  have F70_maxOrbitS_a1 := F0_maxOrbitS.keep Kp70 nin0
  have F70_maxDayS_a1 := F0_maxDayS.keep Kp70 nin0
  have F70_usedWindows_a1 := F0_usedWindows.keep Kp70 nin0
  have F70_modCount_r0 := B1.2.1.keep Kp70 nin0
  have F70_elementData_r0 := B1.2.2.1.keep Kp70 nin0
  have F70_size_r0 := B1.2.2.2.keep Kp70 nin0
  have F70_modCount_al := B0.2.1.keep Kp70 nin0
  have F70_elementData_al := B0.2.2.1.keep Kp70 nin0
  have F70_size_al := B0.2.2.2.keep Kp70 nin0
  have Ex70_a1 := E0.keep Kp70
  have Ex70_r0 := B1.1.keep Kp70
  have Ex70_al := B0.1.keep Kp70
  have K70 := (Keep.refl h0 [a1]).trans Kp70 (all0)
  have Z70 := Nat.le_trans Z0 Kp70.1
  have O70 := O0.keep Kp70 (all0)
  show own_Go p.tables e below K (T70.setTop (mkF m 8 #[.val (.ref a1), .val (.ref s1), .val (.ref s2), .val (.ref r0), .val (.double dc), .second, .val (.long j1), .second, .val (.long j2), .second, .val (.long j3), .second, .val (.ref al)] [(.ref lw70)]))
  refine own_by (fun t k => XS.astoreN X70.here hx rfl (hb hby own_d12_8) rfl rfl (l' := #[.val (.ref a1), .val (.ref s1), .val (.ref s2), .val (.ref lw70), .val (.double dc), .second, .val (.long j1), .second, .val (.long j2), .second, .val (.long j3), .second, .val (.ref al)]) rfl k) ?_
  show own_Go p.tables e below K (T70.setTop (mkF m 9 #[.val (.ref a1), .val (.ref s1), .val (.ref s2), .val (.ref lw70), .val (.double dc), .second, .val (.long j1), .second, .val (.long j2), .second, .val (.long j3), .second, .val (.ref al)] []))
  refine own_by (fun t k => XS.aload X70.here hx rfl (hb hby own_d12_9) rfl rfl k) ?_
  show own_Go p.tables e below K (T70.setTop (mkF m 11 #[.val (.ref a1), .val (.ref s1), .val (.ref s2), .val (.ref lw70), .val (.double dc), .second, .val (.long j1), .second, .val (.long j2), .second, .val (.long j3), .second, .val (.ref al)] [(.ref al)]))
  obtain ⟨_, _, ⟨T71, L71, k71, n71⟩, -, X71, ⟨Lc71, hQ71, l71, y71, z71⟩, st71⟩ := Jvm.LawKit.callS X70 hx (y := (⟨"java/util/List", "copyOf", "(Ljava/util/Collection;)Ljava/util/List;"⟩ : MethodName)) hown (mvT hZ (hw _ (List.mem_of_getElem? (i := 91) rfl))) (mvT hZ (hw _ (List.mem_of_getElem? (i := 92) rfl))) (mvT hZ (hw _ (List.mem_of_getElem? (i := 93) rfl))) (mvT hZ (hw _ (List.mem_of_getElem? (i := 94) rfl))) (by decide) (backOf (W := 0) (own_rmcpy l Z aw hw [] al el n mc w dd lz ez em mr T70.heap n0 Z70 ⟨Ex70_al, F70_modCount_al, F70_elementData_al, F70_size_al⟩ xa70_el O70 S0) hZ (hw _ (List.mem_of_getElem? (i := 94) rfl)) (hw _ (List.mem_of_getElem? (i := 93) rfl)) (by decide) (by decide)) (g := (mkF m 11 #[.val (.ref a1), .val (.ref s1), .val (.ref s2), .val (.ref lw70), .val (.double dc), .second, .val (.long j1), .second, .val (.long j2), .second, .val (.long j3), .second, .val (.ref al)] [(.ref al)])) rfl (by rw [hml]; rfl) (argsL := [(.ref al)]) (rest := []) (lenOf own_pd12 rfl) rfl (by show 2 * 0 + _ ≤ _; exact Nat.le_of_eq rfl) (hb hby own_d12_11) (fun _ _ => ⟨rfl, rfl, (by decide : 3 + 3 ≤ _), (by decide : 8 + 8 ≤ _)⟩)
  dsimp only [Pt.U, Pt.locs, Pt.cells, Pt.slots] at X71 l71 y71 z71 st71 hQ71
  subst l71 y71 z71
  obtain ⟨lw71, rfl, N71q, Kp71, sp71⟩ := hQ71
  have N71 := Fr.app N70 N71q
  refine own_by st71 ?_
  have xa71_el := xa70_el.keep Kp71 nin0
  have F71_id_a1 := F70_id_a1.keep Kp71 nin0
  have F71_name_a1 := F70_name_a1.keep Kp71 nin0
  have F71_payloads_a1 := F70_payloads_a1.keep Kp71 nin0
  have F71_costCoefficient_a1 := F70_costCoefficient_a1.keep Kp71 nin0
  have F71_minGapS_a1 := F70_minGapS_a1.keep Kp71 nin0
  have F71_maxOrbitS_a1 := F70_maxOrbitS_a1.keep Kp71 nin0
  have F71_maxDayS_a1 := F70_maxDayS_a1.keep Kp71 nin0
  have F71_usedWindows_a1 := F70_usedWindows_a1.keep Kp71 nin0
  have F71_modCount_r0 := F70_modCount_r0.keep Kp71 nin0
  have F71_elementData_r0 := F70_elementData_r0.keep Kp71 nin0
  have F71_size_r0 := F70_size_r0.keep Kp71 nin0
  have F71_modCount_al := F70_modCount_al.keep Kp71 nin0
  have F71_elementData_al := F70_elementData_al.keep Kp71 nin0
  have F71_size_al := F70_size_al.keep Kp71 nin0
  have Ex71_a1 := Ex70_a1.keep Kp71
  have Ex71_r0 := Ex70_r0.keep Kp71
  have Ex71_al := Ex70_al.keep Kp71
  have K71 := K70.trans Kp71 (all0)
  have Z71 := Nat.le_trans Z70 Kp71.1
  have O71 := O70.keep Kp71 (all0)
  have ne_a1_lw71 : a1 ≠ lw71 := own_SZ.ne Ex71_a1 sp71 (by decide) (by decide)
  show own_Go p.tables e below K (T71.setTop (mkF m 14 #[.val (.ref a1), .val (.ref s1), .val (.ref s2), .val (.ref lw70), .val (.double dc), .second, .val (.long j1), .second, .val (.long j2), .second, .val (.long j3), .second, .val (.ref al)] [(.ref lw71)]))
  refine own_by (fun t k => XS.astore X71.here hx rfl (hb hby own_d12_14) rfl rfl (l' := #[.val (.ref a1), .val (.ref s1), .val (.ref s2), .val (.ref lw70), .val (.double dc), .second, .val (.long j1), .second, .val (.long j2), .second, .val (.long j3), .second, .val (.ref lw71)]) rfl k) ?_
  show own_Go p.tables e below K (T71.setTop (mkF m 16 #[.val (.ref a1), .val (.ref s1), .val (.ref s2), .val (.ref lw70), .val (.double dc), .second, .val (.long j1), .second, .val (.long j2), .second, .val (.long j3), .second, .val (.ref lw71)] []))
  refine own_by (fun t k => XS.aloadN X71.here hx rfl (hb hby own_d12_16) rfl rfl k) ?_
  show own_Go p.tables e below K (T71.setTop (mkF m 17 #[.val (.ref a1), .val (.ref s1), .val (.ref s2), .val (.ref lw70), .val (.double dc), .second, .val (.long j1), .second, .val (.long j2), .second, .val (.long j3), .second, .val (.ref lw71)] [(.ref a1)]))
  refine own_by (fun t k => XS.aloadN X71.here hx rfl (hb hby own_d12_17) rfl rfl k) ?_
  show own_Go p.tables e below K (T71.setTop (mkF m 18 #[.val (.ref a1), .val (.ref s1), .val (.ref s2), .val (.ref lw70), .val (.double dc), .second, .val (.long j1), .second, .val (.long j2), .second, .val (.long j3), .second, .val (.ref lw71)] [(.ref s1), (.ref a1)]))
  obtain ⟨T72, h72, X72, e72, W72, st72⟩ := putF X71 hx hZ hown (host := "") (Or.inl (hw _ (List.mem_of_getElem? (i := 181) rfl))) Via.refl rfl F71_id_a1 Ex71_a1 (Or.inr ⟨(hw _ (List.mem_of_getElem? (i := 182) rfl)), rfl, hnm⟩) (hw _ (List.mem_of_getElem? (i := 76) rfl)) (ty := (.object "java/lang/String")) (by decide) rfl rfl (g := (mkF m 18 #[.val (.ref a1), .val (.ref s1), .val (.ref s2), .val (.ref lw70), .val (.double dc), .second, .val (.long j1), .second, .val (.long j2), .second, .val (.long j3), .second, .val (.ref lw71)] [(.ref s1), (.ref a1)])) rfl rfl (hb hby own_d12_18)
  refine own_by st72 ?_
  have F72_id_a1 := F71_id_a1.same W72
  have F72_name_a1 := F71_name_a1.other W72 (Or.inr (slot_ne (Or.inr (hw _ (List.mem_of_getElem? (i := 184) rfl))) (Or.inr (hw _ (List.mem_of_getElem? (i := 182) rfl))) (by decide) (t := (.object "java/lang/String")) (t' := (.object "java/lang/String")) (by decide) (by decide)))
  have F72_payloads_a1 := F71_payloads_a1.other W72 (Or.inr (slot_ne (Or.inr (hw _ (List.mem_of_getElem? (i := 186) rfl))) (Or.inr (hw _ (List.mem_of_getElem? (i := 182) rfl))) (by decide) (t := (.object "java/util/List")) (t' := (.object "java/lang/String")) (by decide) (by decide)))
  have F72_costCoefficient_a1 := F71_costCoefficient_a1.other W72 (Or.inr (slot_ne (Or.inr (hw _ (List.mem_of_getElem? (i := 188) rfl))) (Or.inr (hw _ (List.mem_of_getElem? (i := 182) rfl))) (by decide) (t := .double) (t' := (.object "java/lang/String")) (by decide) (by decide)))
  have F72_minGapS_a1 := F71_minGapS_a1.other W72 (Or.inr (slot_ne (Or.inr (hw _ (List.mem_of_getElem? (i := 190) rfl))) (Or.inr (hw _ (List.mem_of_getElem? (i := 182) rfl))) (by decide) (t := .long) (t' := (.object "java/lang/String")) (by decide) (by decide)))
  have F72_maxOrbitS_a1 := F71_maxOrbitS_a1.other W72 (Or.inr (slot_ne (Or.inr (hw _ (List.mem_of_getElem? (i := 192) rfl))) (Or.inr (hw _ (List.mem_of_getElem? (i := 182) rfl))) (by decide) (t := .long) (t' := (.object "java/lang/String")) (by decide) (by decide)))
  have F72_maxDayS_a1 := F71_maxDayS_a1.other W72 (Or.inr (slot_ne (Or.inr (hw _ (List.mem_of_getElem? (i := 194) rfl))) (Or.inr (hw _ (List.mem_of_getElem? (i := 182) rfl))) (by decide) (t := .long) (t' := (.object "java/lang/String")) (by decide) (by decide)))
  have F72_usedWindows_a1 := F71_usedWindows_a1.other W72 (Or.inr (slot_ne (Or.inr (hw _ (List.mem_of_getElem? (i := 196) rfl))) (Or.inr (hw _ (List.mem_of_getElem? (i := 182) rfl))) (by decide) (t := (.object "java/util/List")) (t' := (.object "java/lang/String")) (by decide) (by decide)))
  have F72_modCount_r0 := F71_modCount_r0.other W72 (Or.inl (Exa.ne Ex71_r0 Ex71_a1 (by decide)))
  have F72_elementData_r0 := F71_elementData_r0.other W72 (Or.inl (Exa.ne Ex71_r0 Ex71_a1 (by decide)))
  have F72_size_r0 := F71_size_r0.other W72 (Or.inl (Exa.ne Ex71_r0 Ex71_a1 (by decide)))
  have F72_modCount_al := F71_modCount_al.other W72 (Or.inl (Exa.ne Ex71_al Ex71_a1 (by decide)))
  have F72_elementData_al := F71_elementData_al.other W72 (Or.inl (Exa.ne Ex71_al Ex71_a1 (by decide)))
  have F72_size_al := F71_size_al.other W72 (Or.inl (Exa.ne Ex71_al Ex71_a1 (by decide)))
  have xa72_el := xa71_el.other W72 (Ne.symm (own_Vs.ne Ex71_a1 xa71_el (hw _ (List.mem_of_getElem? (i := 76) rfl))))
  have xa72_lw71 := sp71.other W72 (Ne.symm ne_a1_lw71)
  have Ex72_a1 := Ex71_a1.wr W72
  have Ex72_r0 := Ex71_r0.wr W72
  have Ex72_al := Ex71_al.wr W72
  have K72 := K71.wr W72 (Or.inl (by simp))
  have Z72 := Nat.le_trans Z71 (Keep.of_wr W72).1
  have O72 := O71.wr W72 ga
  have N72 := Fr.snoc X72 N71 ga
  show own_Go p.tables e below K (T72.setTop (mkF m 21 #[.val (.ref a1), .val (.ref s1), .val (.ref s2), .val (.ref lw70), .val (.double dc), .second, .val (.long j1), .second, .val (.long j2), .second, .val (.long j3), .second, .val (.ref lw71)] []))
  refine own_by (fun t k => XS.aloadN X72.here hx rfl (hb hby own_d12_21) rfl rfl k) ?_
  show own_Go p.tables e below K (T72.setTop (mkF m 22 #[.val (.ref a1), .val (.ref s1), .val (.ref s2), .val (.ref lw70), .val (.double dc), .second, .val (.long j1), .second, .val (.long j2), .second, .val (.long j3), .second, .val (.ref lw71)] [(.ref a1)]))
  refine own_by (fun t k => XS.aloadN X72.here hx rfl (hb hby own_d12_22) rfl rfl k) ?_
  show own_Go p.tables e below K (T72.setTop (mkF m 23 #[.val (.ref a1), .val (.ref s1), .val (.ref s2), .val (.ref lw70), .val (.double dc), .second, .val (.long j1), .second, .val (.long j2), .second, .val (.long j3), .second, .val (.ref lw71)] [(.ref s2), (.ref a1)]))
  obtain ⟨T73, h73, X73, e73, W73, st73⟩ := putF X72 hx hZ hown (host := "") (Or.inl (hw _ (List.mem_of_getElem? (i := 183) rfl))) Via.refl e72 F72_name_a1 Ex72_a1 (Or.inr ⟨(hw _ (List.mem_of_getElem? (i := 184) rfl)), rfl, hnm⟩) (hw _ (List.mem_of_getElem? (i := 76) rfl)) (ty := (.object "java/lang/String")) (by decide) rfl rfl (g := (mkF m 23 #[.val (.ref a1), .val (.ref s1), .val (.ref s2), .val (.ref lw70), .val (.double dc), .second, .val (.long j1), .second, .val (.long j2), .second, .val (.long j3), .second, .val (.ref lw71)] [(.ref s2), (.ref a1)])) rfl rfl (hb hby own_d12_23)
  refine own_by st73 ?_
  have F73_id_a1 := F72_id_a1.other W73 (Or.inr (slot_ne (Or.inr (hw _ (List.mem_of_getElem? (i := 182) rfl))) (Or.inr (hw _ (List.mem_of_getElem? (i := 184) rfl))) (by decide) (t := (.object "java/lang/String")) (t' := (.object "java/lang/String")) (by decide) (by decide)))
  have F73_name_a1 := F72_name_a1.same W73
  have F73_payloads_a1 := F72_payloads_a1.other W73 (Or.inr (slot_ne (Or.inr (hw _ (List.mem_of_getElem? (i := 186) rfl))) (Or.inr (hw _ (List.mem_of_getElem? (i := 184) rfl))) (by decide) (t := (.object "java/util/List")) (t' := (.object "java/lang/String")) (by decide) (by decide)))
  have F73_costCoefficient_a1 := F72_costCoefficient_a1.other W73 (Or.inr (slot_ne (Or.inr (hw _ (List.mem_of_getElem? (i := 188) rfl))) (Or.inr (hw _ (List.mem_of_getElem? (i := 184) rfl))) (by decide) (t := .double) (t' := (.object "java/lang/String")) (by decide) (by decide)))
  have F73_minGapS_a1 := F72_minGapS_a1.other W73 (Or.inr (slot_ne (Or.inr (hw _ (List.mem_of_getElem? (i := 190) rfl))) (Or.inr (hw _ (List.mem_of_getElem? (i := 184) rfl))) (by decide) (t := .long) (t' := (.object "java/lang/String")) (by decide) (by decide)))
  have F73_maxOrbitS_a1 := F72_maxOrbitS_a1.other W73 (Or.inr (slot_ne (Or.inr (hw _ (List.mem_of_getElem? (i := 192) rfl))) (Or.inr (hw _ (List.mem_of_getElem? (i := 184) rfl))) (by decide) (t := .long) (t' := (.object "java/lang/String")) (by decide) (by decide)))
  have F73_maxDayS_a1 := F72_maxDayS_a1.other W73 (Or.inr (slot_ne (Or.inr (hw _ (List.mem_of_getElem? (i := 194) rfl))) (Or.inr (hw _ (List.mem_of_getElem? (i := 184) rfl))) (by decide) (t := .long) (t' := (.object "java/lang/String")) (by decide) (by decide)))
  have F73_usedWindows_a1 := F72_usedWindows_a1.other W73 (Or.inr (slot_ne (Or.inr (hw _ (List.mem_of_getElem? (i := 196) rfl))) (Or.inr (hw _ (List.mem_of_getElem? (i := 184) rfl))) (by decide) (t := (.object "java/util/List")) (t' := (.object "java/lang/String")) (by decide) (by decide)))
  have F73_modCount_r0 := F72_modCount_r0.other W73 (Or.inl (Exa.ne Ex72_r0 Ex72_a1 (by decide)))
  have F73_elementData_r0 := F72_elementData_r0.other W73 (Or.inl (Exa.ne Ex72_r0 Ex72_a1 (by decide)))
  have F73_size_r0 := F72_size_r0.other W73 (Or.inl (Exa.ne Ex72_r0 Ex72_a1 (by decide)))
  have F73_modCount_al := F72_modCount_al.other W73 (Or.inl (Exa.ne Ex72_al Ex72_a1 (by decide)))
  have F73_elementData_al := F72_elementData_al.other W73 (Or.inl (Exa.ne Ex72_al Ex72_a1 (by decide)))
  have F73_size_al := F72_size_al.other W73 (Or.inl (Exa.ne Ex72_al Ex72_a1 (by decide)))
  have xa73_el := xa72_el.other W73 (Ne.symm (own_Vs.ne Ex72_a1 xa72_el (hw _ (List.mem_of_getElem? (i := 76) rfl))))
  have xa73_lw71 := xa72_lw71.other W73 (Ne.symm ne_a1_lw71)
  have Ex73_a1 := Ex72_a1.wr W73
  have Ex73_r0 := Ex72_r0.wr W73
  have Ex73_al := Ex72_al.wr W73
  have K73 := K72.wr W73 (Or.inl (by simp))
  have Z73 := Nat.le_trans Z72 (Keep.of_wr W73).1
  have O73 := O72.wr W73 ga
  have N73 := Fr.snoc X73 N72 ga
  show own_Go p.tables e below K (T73.setTop (mkF m 26 #[.val (.ref a1), .val (.ref s1), .val (.ref s2), .val (.ref lw70), .val (.double dc), .second, .val (.long j1), .second, .val (.long j2), .second, .val (.long j3), .second, .val (.ref lw71)] []))
  refine own_by (fun t k => XS.aloadN X73.here hx rfl (hb hby own_d12_26) rfl rfl k) ?_
  show own_Go p.tables e below K (T73.setTop (mkF m 27 #[.val (.ref a1), .val (.ref s1), .val (.ref s2), .val (.ref lw70), .val (.double dc), .second, .val (.long j1), .second, .val (.long j2), .second, .val (.long j3), .second, .val (.ref lw71)] [(.ref a1)]))
  refine own_by (fun t k => XS.aloadN X73.here hx rfl (hb hby own_d12_27) rfl rfl k) ?_
  show own_Go p.tables e below K (T73.setTop (mkF m 28 #[.val (.ref a1), .val (.ref s1), .val (.ref s2), .val (.ref lw70), .val (.double dc), .second, .val (.long j1), .second, .val (.long j2), .second, .val (.long j3), .second, .val (.ref lw71)] [(.ref lw70), (.ref a1)]))
  obtain ⟨T74, h74, X74, e74, W74, st74⟩ := putF X73 hx hZ hown (host := "") (Or.inl (hw _ (List.mem_of_getElem? (i := 185) rfl))) Via.refl e73 F73_payloads_a1 Ex73_a1 (Or.inr ⟨(hw _ (List.mem_of_getElem? (i := 186) rfl)), rfl, hnm⟩) (hw _ (List.mem_of_getElem? (i := 76) rfl)) (ty := (.object "java/util/List")) (by decide) rfl rfl (g := (mkF m 28 #[.val (.ref a1), .val (.ref s1), .val (.ref s2), .val (.ref lw70), .val (.double dc), .second, .val (.long j1), .second, .val (.long j2), .second, .val (.long j3), .second, .val (.ref lw71)] [(.ref lw70), (.ref a1)])) rfl rfl (hb hby own_d12_28)
  refine own_by st74 ?_
  have F74_id_a1 := F73_id_a1.other W74 (Or.inr (slot_ne (Or.inr (hw _ (List.mem_of_getElem? (i := 182) rfl))) (Or.inr (hw _ (List.mem_of_getElem? (i := 186) rfl))) (by decide) (t := (.object "java/lang/String")) (t' := (.object "java/util/List")) (by decide) (by decide)))
  have F74_name_a1 := F73_name_a1.other W74 (Or.inr (slot_ne (Or.inr (hw _ (List.mem_of_getElem? (i := 184) rfl))) (Or.inr (hw _ (List.mem_of_getElem? (i := 186) rfl))) (by decide) (t := (.object "java/lang/String")) (t' := (.object "java/util/List")) (by decide) (by decide)))
  have F74_payloads_a1 := F73_payloads_a1.same W74
  have F74_costCoefficient_a1 := F73_costCoefficient_a1.other W74 (Or.inr (slot_ne (Or.inr (hw _ (List.mem_of_getElem? (i := 188) rfl))) (Or.inr (hw _ (List.mem_of_getElem? (i := 186) rfl))) (by decide) (t := .double) (t' := (.object "java/util/List")) (by decide) (by decide)))
  have F74_minGapS_a1 := F73_minGapS_a1.other W74 (Or.inr (slot_ne (Or.inr (hw _ (List.mem_of_getElem? (i := 190) rfl))) (Or.inr (hw _ (List.mem_of_getElem? (i := 186) rfl))) (by decide) (t := .long) (t' := (.object "java/util/List")) (by decide) (by decide)))
  have F74_maxOrbitS_a1 := F73_maxOrbitS_a1.other W74 (Or.inr (slot_ne (Or.inr (hw _ (List.mem_of_getElem? (i := 192) rfl))) (Or.inr (hw _ (List.mem_of_getElem? (i := 186) rfl))) (by decide) (t := .long) (t' := (.object "java/util/List")) (by decide) (by decide)))
  have F74_maxDayS_a1 := F73_maxDayS_a1.other W74 (Or.inr (slot_ne (Or.inr (hw _ (List.mem_of_getElem? (i := 194) rfl))) (Or.inr (hw _ (List.mem_of_getElem? (i := 186) rfl))) (by decide) (t := .long) (t' := (.object "java/util/List")) (by decide) (by decide)))
  have F74_usedWindows_a1 := F73_usedWindows_a1.other W74 (Or.inr (slot_ne (Or.inr (hw _ (List.mem_of_getElem? (i := 196) rfl))) (Or.inr (hw _ (List.mem_of_getElem? (i := 186) rfl))) (by decide) (t := (.object "java/util/List")) (t' := (.object "java/util/List")) (by decide) (by decide)))
  have F74_modCount_r0 := F73_modCount_r0.other W74 (Or.inl (Exa.ne Ex73_r0 Ex73_a1 (by decide)))
  have F74_elementData_r0 := F73_elementData_r0.other W74 (Or.inl (Exa.ne Ex73_r0 Ex73_a1 (by decide)))
  have F74_size_r0 := F73_size_r0.other W74 (Or.inl (Exa.ne Ex73_r0 Ex73_a1 (by decide)))
  have F74_modCount_al := F73_modCount_al.other W74 (Or.inl (Exa.ne Ex73_al Ex73_a1 (by decide)))
  have F74_elementData_al := F73_elementData_al.other W74 (Or.inl (Exa.ne Ex73_al Ex73_a1 (by decide)))
  have F74_size_al := F73_size_al.other W74 (Or.inl (Exa.ne Ex73_al Ex73_a1 (by decide)))
  have xa74_el := xa73_el.other W74 (Ne.symm (own_Vs.ne Ex73_a1 xa73_el (hw _ (List.mem_of_getElem? (i := 76) rfl))))
  have xa74_lw71 := xa73_lw71.other W74 (Ne.symm ne_a1_lw71)
  have Ex74_a1 := Ex73_a1.wr W74
  have Ex74_r0 := Ex73_r0.wr W74
  have Ex74_al := Ex73_al.wr W74
  have K74 := K73.wr W74 (Or.inl (by simp))
  have Z74 := Nat.le_trans Z73 (Keep.of_wr W74).1
  have O74 := O73.wr W74 ga
  have N74 := Fr.snoc X74 N73 ga
  show own_Go p.tables e below K (T74.setTop (mkF m 31 #[.val (.ref a1), .val (.ref s1), .val (.ref s2), .val (.ref lw70), .val (.double dc), .second, .val (.long j1), .second, .val (.long j2), .second, .val (.long j3), .second, .val (.ref lw71)] []))
  refine own_by (fun t k => XS.aloadN X74.here hx rfl (hb hby own_d12_31) rfl rfl k) ?_
  show own_Go p.tables e below K (T74.setTop (mkF m 32 #[.val (.ref a1), .val (.ref s1), .val (.ref s2), .val (.ref lw70), .val (.double dc), .second, .val (.long j1), .second, .val (.long j2), .second, .val (.long j3), .second, .val (.ref lw71)] [(.ref a1)]))
  refine own_by (fun t k => XS.dload X74.here hx rfl (hb hby own_d12_32) rfl k) ?_
  show own_Go p.tables e below K (T74.setTop (mkF m 34 #[.val (.ref a1), .val (.ref s1), .val (.ref s2), .val (.ref lw70), .val (.double dc), .second, .val (.long j1), .second, .val (.long j2), .second, .val (.long j3), .second, .val (.ref lw71)] [(.double dc), (.ref a1)]))
  obtain ⟨T75, h75, X75, e75, W75, st75⟩ := putF X74 hx hZ hown (host := "") (Or.inl (hw _ (List.mem_of_getElem? (i := 187) rfl))) Via.refl e74 F74_costCoefficient_a1 Ex74_a1 (Or.inr ⟨(hw _ (List.mem_of_getElem? (i := 188) rfl)), rfl, hnm⟩) (hw _ (List.mem_of_getElem? (i := 76) rfl)) (ty := .double) (by decide) rfl rfl (g := (mkF m 34 #[.val (.ref a1), .val (.ref s1), .val (.ref s2), .val (.ref lw70), .val (.double dc), .second, .val (.long j1), .second, .val (.long j2), .second, .val (.long j3), .second, .val (.ref lw71)] [(.double dc), (.ref a1)])) rfl rfl (hb hby own_d12_34)
  refine own_by st75 ?_
  have F75_id_a1 := F74_id_a1.other W75 (Or.inr (slot_ne (Or.inr (hw _ (List.mem_of_getElem? (i := 182) rfl))) (Or.inr (hw _ (List.mem_of_getElem? (i := 188) rfl))) (by decide) (t := (.object "java/lang/String")) (t' := .double) (by decide) (by decide)))
  have F75_name_a1 := F74_name_a1.other W75 (Or.inr (slot_ne (Or.inr (hw _ (List.mem_of_getElem? (i := 184) rfl))) (Or.inr (hw _ (List.mem_of_getElem? (i := 188) rfl))) (by decide) (t := (.object "java/lang/String")) (t' := .double) (by decide) (by decide)))
  have F75_payloads_a1 := F74_payloads_a1.other W75 (Or.inr (slot_ne (Or.inr (hw _ (List.mem_of_getElem? (i := 186) rfl))) (Or.inr (hw _ (List.mem_of_getElem? (i := 188) rfl))) (by decide) (t := (.object "java/util/List")) (t' := .double) (by decide) (by decide)))
  have F75_costCoefficient_a1 := F74_costCoefficient_a1.same W75
  have F75_minGapS_a1 := F74_minGapS_a1.other W75 (Or.inr (slot_ne (Or.inr (hw _ (List.mem_of_getElem? (i := 190) rfl))) (Or.inr (hw _ (List.mem_of_getElem? (i := 188) rfl))) (by decide) (t := .long) (t' := .double) (by decide) (by decide)))
  have F75_maxOrbitS_a1 := F74_maxOrbitS_a1.other W75 (Or.inr (slot_ne (Or.inr (hw _ (List.mem_of_getElem? (i := 192) rfl))) (Or.inr (hw _ (List.mem_of_getElem? (i := 188) rfl))) (by decide) (t := .long) (t' := .double) (by decide) (by decide)))
  have F75_maxDayS_a1 := F74_maxDayS_a1.other W75 (Or.inr (slot_ne (Or.inr (hw _ (List.mem_of_getElem? (i := 194) rfl))) (Or.inr (hw _ (List.mem_of_getElem? (i := 188) rfl))) (by decide) (t := .long) (t' := .double) (by decide) (by decide)))
  have F75_usedWindows_a1 := F74_usedWindows_a1.other W75 (Or.inr (slot_ne (Or.inr (hw _ (List.mem_of_getElem? (i := 196) rfl))) (Or.inr (hw _ (List.mem_of_getElem? (i := 188) rfl))) (by decide) (t := (.object "java/util/List")) (t' := .double) (by decide) (by decide)))
  have F75_modCount_r0 := F74_modCount_r0.other W75 (Or.inl (Exa.ne Ex74_r0 Ex74_a1 (by decide)))
  have F75_elementData_r0 := F74_elementData_r0.other W75 (Or.inl (Exa.ne Ex74_r0 Ex74_a1 (by decide)))
  have F75_size_r0 := F74_size_r0.other W75 (Or.inl (Exa.ne Ex74_r0 Ex74_a1 (by decide)))
  have F75_modCount_al := F74_modCount_al.other W75 (Or.inl (Exa.ne Ex74_al Ex74_a1 (by decide)))
  have F75_elementData_al := F74_elementData_al.other W75 (Or.inl (Exa.ne Ex74_al Ex74_a1 (by decide)))
  have F75_size_al := F74_size_al.other W75 (Or.inl (Exa.ne Ex74_al Ex74_a1 (by decide)))
  have xa75_el := xa74_el.other W75 (Ne.symm (own_Vs.ne Ex74_a1 xa74_el (hw _ (List.mem_of_getElem? (i := 76) rfl))))
  have xa75_lw71 := xa74_lw71.other W75 (Ne.symm ne_a1_lw71)
  have Ex75_a1 := Ex74_a1.wr W75
  have Ex75_r0 := Ex74_r0.wr W75
  have Ex75_al := Ex74_al.wr W75
  have K75 := K74.wr W75 (Or.inl (by simp))
  have Z75 := Nat.le_trans Z74 (Keep.of_wr W75).1
  have O75 := O74.wr W75 ga
  have N75 := Fr.snoc X75 N74 ga
  show own_Go p.tables e below K (T75.setTop (mkF m 37 #[.val (.ref a1), .val (.ref s1), .val (.ref s2), .val (.ref lw70), .val (.double dc), .second, .val (.long j1), .second, .val (.long j2), .second, .val (.long j3), .second, .val (.ref lw71)] []))
  refine own_by (fun t k => XS.aloadN X75.here hx rfl (hb hby own_d12_37) rfl rfl k) ?_
  show own_Go p.tables e below K (T75.setTop (mkF m 38 #[.val (.ref a1), .val (.ref s1), .val (.ref s2), .val (.ref lw70), .val (.double dc), .second, .val (.long j1), .second, .val (.long j2), .second, .val (.long j3), .second, .val (.ref lw71)] [(.ref a1)]))
  refine own_by (fun t k => XS.lload X75.here hx rfl (hb hby own_d12_38) rfl k) ?_
  show own_Go p.tables e below K (T75.setTop (mkF m 40 #[.val (.ref a1), .val (.ref s1), .val (.ref s2), .val (.ref lw70), .val (.double dc), .second, .val (.long j1), .second, .val (.long j2), .second, .val (.long j3), .second, .val (.ref lw71)] [(.long j1), (.ref a1)]))
  obtain ⟨T76, h76, X76, e76, W76, st76⟩ := putF X75 hx hZ hown (host := "") (Or.inl (hw _ (List.mem_of_getElem? (i := 189) rfl))) Via.refl e75 F75_minGapS_a1 Ex75_a1 (Or.inr ⟨(hw _ (List.mem_of_getElem? (i := 190) rfl)), rfl, hnm⟩) (hw _ (List.mem_of_getElem? (i := 76) rfl)) (ty := .long) (by decide) rfl rfl (g := (mkF m 40 #[.val (.ref a1), .val (.ref s1), .val (.ref s2), .val (.ref lw70), .val (.double dc), .second, .val (.long j1), .second, .val (.long j2), .second, .val (.long j3), .second, .val (.ref lw71)] [(.long j1), (.ref a1)])) rfl rfl (hb hby own_d12_40)
  refine own_by st76 ?_
  have F76_id_a1 := F75_id_a1.other W76 (Or.inr (slot_ne (Or.inr (hw _ (List.mem_of_getElem? (i := 182) rfl))) (Or.inr (hw _ (List.mem_of_getElem? (i := 190) rfl))) (by decide) (t := (.object "java/lang/String")) (t' := .long) (by decide) (by decide)))
  have F76_name_a1 := F75_name_a1.other W76 (Or.inr (slot_ne (Or.inr (hw _ (List.mem_of_getElem? (i := 184) rfl))) (Or.inr (hw _ (List.mem_of_getElem? (i := 190) rfl))) (by decide) (t := (.object "java/lang/String")) (t' := .long) (by decide) (by decide)))
  have F76_payloads_a1 := F75_payloads_a1.other W76 (Or.inr (slot_ne (Or.inr (hw _ (List.mem_of_getElem? (i := 186) rfl))) (Or.inr (hw _ (List.mem_of_getElem? (i := 190) rfl))) (by decide) (t := (.object "java/util/List")) (t' := .long) (by decide) (by decide)))
  have F76_costCoefficient_a1 := F75_costCoefficient_a1.other W76 (Or.inr (slot_ne (Or.inr (hw _ (List.mem_of_getElem? (i := 188) rfl))) (Or.inr (hw _ (List.mem_of_getElem? (i := 190) rfl))) (by decide) (t := .double) (t' := .long) (by decide) (by decide)))
  have F76_minGapS_a1 := F75_minGapS_a1.same W76
  have F76_maxOrbitS_a1 := F75_maxOrbitS_a1.other W76 (Or.inr (slot_ne (Or.inr (hw _ (List.mem_of_getElem? (i := 192) rfl))) (Or.inr (hw _ (List.mem_of_getElem? (i := 190) rfl))) (by decide) (t := .long) (t' := .long) (by decide) (by decide)))
  have F76_maxDayS_a1 := F75_maxDayS_a1.other W76 (Or.inr (slot_ne (Or.inr (hw _ (List.mem_of_getElem? (i := 194) rfl))) (Or.inr (hw _ (List.mem_of_getElem? (i := 190) rfl))) (by decide) (t := .long) (t' := .long) (by decide) (by decide)))
  have F76_usedWindows_a1 := F75_usedWindows_a1.other W76 (Or.inr (slot_ne (Or.inr (hw _ (List.mem_of_getElem? (i := 196) rfl))) (Or.inr (hw _ (List.mem_of_getElem? (i := 190) rfl))) (by decide) (t := (.object "java/util/List")) (t' := .long) (by decide) (by decide)))
  have F76_modCount_r0 := F75_modCount_r0.other W76 (Or.inl (Exa.ne Ex75_r0 Ex75_a1 (by decide)))
  have F76_elementData_r0 := F75_elementData_r0.other W76 (Or.inl (Exa.ne Ex75_r0 Ex75_a1 (by decide)))
  have F76_size_r0 := F75_size_r0.other W76 (Or.inl (Exa.ne Ex75_r0 Ex75_a1 (by decide)))
  have F76_modCount_al := F75_modCount_al.other W76 (Or.inl (Exa.ne Ex75_al Ex75_a1 (by decide)))
  have F76_elementData_al := F75_elementData_al.other W76 (Or.inl (Exa.ne Ex75_al Ex75_a1 (by decide)))
  have F76_size_al := F75_size_al.other W76 (Or.inl (Exa.ne Ex75_al Ex75_a1 (by decide)))
  have xa76_el := xa75_el.other W76 (Ne.symm (own_Vs.ne Ex75_a1 xa75_el (hw _ (List.mem_of_getElem? (i := 76) rfl))))
  have xa76_lw71 := xa75_lw71.other W76 (Ne.symm ne_a1_lw71)
  have Ex76_a1 := Ex75_a1.wr W76
  have Ex76_r0 := Ex75_r0.wr W76
  have Ex76_al := Ex75_al.wr W76
  have K76 := K75.wr W76 (Or.inl (by simp))
  have Z76 := Nat.le_trans Z75 (Keep.of_wr W76).1
  have O76 := O75.wr W76 ga
  have N76 := Fr.snoc X76 N75 ga
  show own_Go p.tables e below K (T76.setTop (mkF m 43 #[.val (.ref a1), .val (.ref s1), .val (.ref s2), .val (.ref lw70), .val (.double dc), .second, .val (.long j1), .second, .val (.long j2), .second, .val (.long j3), .second, .val (.ref lw71)] []))
  refine own_by (fun t k => XS.aloadN X76.here hx rfl (hb hby own_d12_43) rfl rfl k) ?_
  show own_Go p.tables e below K (T76.setTop (mkF m 44 #[.val (.ref a1), .val (.ref s1), .val (.ref s2), .val (.ref lw70), .val (.double dc), .second, .val (.long j1), .second, .val (.long j2), .second, .val (.long j3), .second, .val (.ref lw71)] [(.ref a1)]))
  refine own_by (fun t k => XS.lload X76.here hx rfl (hb hby own_d12_44) rfl k) ?_
  show own_Go p.tables e below K (T76.setTop (mkF m 46 #[.val (.ref a1), .val (.ref s1), .val (.ref s2), .val (.ref lw70), .val (.double dc), .second, .val (.long j1), .second, .val (.long j2), .second, .val (.long j3), .second, .val (.ref lw71)] [(.long j2), (.ref a1)]))
  obtain ⟨T77, h77, X77, e77, W77, st77⟩ := putF X76 hx hZ hown (host := "") (Or.inl (hw _ (List.mem_of_getElem? (i := 191) rfl))) Via.refl e76 F76_maxOrbitS_a1 Ex76_a1 (Or.inr ⟨(hw _ (List.mem_of_getElem? (i := 192) rfl)), rfl, hnm⟩) (hw _ (List.mem_of_getElem? (i := 76) rfl)) (ty := .long) (by decide) rfl rfl (g := (mkF m 46 #[.val (.ref a1), .val (.ref s1), .val (.ref s2), .val (.ref lw70), .val (.double dc), .second, .val (.long j1), .second, .val (.long j2), .second, .val (.long j3), .second, .val (.ref lw71)] [(.long j2), (.ref a1)])) rfl rfl (hb hby own_d12_46)
  refine own_by st77 ?_
  have F77_id_a1 := F76_id_a1.other W77 (Or.inr (slot_ne (Or.inr (hw _ (List.mem_of_getElem? (i := 182) rfl))) (Or.inr (hw _ (List.mem_of_getElem? (i := 192) rfl))) (by decide) (t := (.object "java/lang/String")) (t' := .long) (by decide) (by decide)))
  have F77_name_a1 := F76_name_a1.other W77 (Or.inr (slot_ne (Or.inr (hw _ (List.mem_of_getElem? (i := 184) rfl))) (Or.inr (hw _ (List.mem_of_getElem? (i := 192) rfl))) (by decide) (t := (.object "java/lang/String")) (t' := .long) (by decide) (by decide)))
  have F77_payloads_a1 := F76_payloads_a1.other W77 (Or.inr (slot_ne (Or.inr (hw _ (List.mem_of_getElem? (i := 186) rfl))) (Or.inr (hw _ (List.mem_of_getElem? (i := 192) rfl))) (by decide) (t := (.object "java/util/List")) (t' := .long) (by decide) (by decide)))
  have F77_costCoefficient_a1 := F76_costCoefficient_a1.other W77 (Or.inr (slot_ne (Or.inr (hw _ (List.mem_of_getElem? (i := 188) rfl))) (Or.inr (hw _ (List.mem_of_getElem? (i := 192) rfl))) (by decide) (t := .double) (t' := .long) (by decide) (by decide)))
  have F77_minGapS_a1 := F76_minGapS_a1.other W77 (Or.inr (slot_ne (Or.inr (hw _ (List.mem_of_getElem? (i := 190) rfl))) (Or.inr (hw _ (List.mem_of_getElem? (i := 192) rfl))) (by decide) (t := .long) (t' := .long) (by decide) (by decide)))
  have F77_maxOrbitS_a1 := F76_maxOrbitS_a1.same W77
  have F77_maxDayS_a1 := F76_maxDayS_a1.other W77 (Or.inr (slot_ne (Or.inr (hw _ (List.mem_of_getElem? (i := 194) rfl))) (Or.inr (hw _ (List.mem_of_getElem? (i := 192) rfl))) (by decide) (t := .long) (t' := .long) (by decide) (by decide)))
  have F77_usedWindows_a1 := F76_usedWindows_a1.other W77 (Or.inr (slot_ne (Or.inr (hw _ (List.mem_of_getElem? (i := 196) rfl))) (Or.inr (hw _ (List.mem_of_getElem? (i := 192) rfl))) (by decide) (t := (.object "java/util/List")) (t' := .long) (by decide) (by decide)))
  have F77_modCount_r0 := F76_modCount_r0.other W77 (Or.inl (Exa.ne Ex76_r0 Ex76_a1 (by decide)))
  have F77_elementData_r0 := F76_elementData_r0.other W77 (Or.inl (Exa.ne Ex76_r0 Ex76_a1 (by decide)))
  have F77_size_r0 := F76_size_r0.other W77 (Or.inl (Exa.ne Ex76_r0 Ex76_a1 (by decide)))
  have F77_modCount_al := F76_modCount_al.other W77 (Or.inl (Exa.ne Ex76_al Ex76_a1 (by decide)))
  have F77_elementData_al := F76_elementData_al.other W77 (Or.inl (Exa.ne Ex76_al Ex76_a1 (by decide)))
  have F77_size_al := F76_size_al.other W77 (Or.inl (Exa.ne Ex76_al Ex76_a1 (by decide)))
  have xa77_el := xa76_el.other W77 (Ne.symm (own_Vs.ne Ex76_a1 xa76_el (hw _ (List.mem_of_getElem? (i := 76) rfl))))
  have xa77_lw71 := xa76_lw71.other W77 (Ne.symm ne_a1_lw71)
  have Ex77_a1 := Ex76_a1.wr W77
  have Ex77_r0 := Ex76_r0.wr W77
  have Ex77_al := Ex76_al.wr W77
  have K77 := K76.wr W77 (Or.inl (by simp))
  have Z77 := Nat.le_trans Z76 (Keep.of_wr W77).1
  have O77 := O76.wr W77 ga
  have N77 := Fr.snoc X77 N76 ga
  show own_Go p.tables e below K (T77.setTop (mkF m 49 #[.val (.ref a1), .val (.ref s1), .val (.ref s2), .val (.ref lw70), .val (.double dc), .second, .val (.long j1), .second, .val (.long j2), .second, .val (.long j3), .second, .val (.ref lw71)] []))
  refine own_by (fun t k => XS.aloadN X77.here hx rfl (hb hby own_d12_49) rfl rfl k) ?_
  show own_Go p.tables e below K (T77.setTop (mkF m 50 #[.val (.ref a1), .val (.ref s1), .val (.ref s2), .val (.ref lw70), .val (.double dc), .second, .val (.long j1), .second, .val (.long j2), .second, .val (.long j3), .second, .val (.ref lw71)] [(.ref a1)]))
  refine own_by (fun t k => XS.lload X77.here hx rfl (hb hby own_d12_50) rfl k) ?_
  show own_Go p.tables e below K (T77.setTop (mkF m 52 #[.val (.ref a1), .val (.ref s1), .val (.ref s2), .val (.ref lw70), .val (.double dc), .second, .val (.long j1), .second, .val (.long j2), .second, .val (.long j3), .second, .val (.ref lw71)] [(.long j3), (.ref a1)]))
  obtain ⟨T78, h78, X78, e78, W78, st78⟩ := putF X77 hx hZ hown (host := "") (Or.inl (hw _ (List.mem_of_getElem? (i := 193) rfl))) Via.refl e77 F77_maxDayS_a1 Ex77_a1 (Or.inr ⟨(hw _ (List.mem_of_getElem? (i := 194) rfl)), rfl, hnm⟩) (hw _ (List.mem_of_getElem? (i := 76) rfl)) (ty := .long) (by decide) rfl rfl (g := (mkF m 52 #[.val (.ref a1), .val (.ref s1), .val (.ref s2), .val (.ref lw70), .val (.double dc), .second, .val (.long j1), .second, .val (.long j2), .second, .val (.long j3), .second, .val (.ref lw71)] [(.long j3), (.ref a1)])) rfl rfl (hb hby own_d12_52)
  refine own_by st78 ?_
  have F78_id_a1 := F77_id_a1.other W78 (Or.inr (slot_ne (Or.inr (hw _ (List.mem_of_getElem? (i := 182) rfl))) (Or.inr (hw _ (List.mem_of_getElem? (i := 194) rfl))) (by decide) (t := (.object "java/lang/String")) (t' := .long) (by decide) (by decide)))
  have F78_name_a1 := F77_name_a1.other W78 (Or.inr (slot_ne (Or.inr (hw _ (List.mem_of_getElem? (i := 184) rfl))) (Or.inr (hw _ (List.mem_of_getElem? (i := 194) rfl))) (by decide) (t := (.object "java/lang/String")) (t' := .long) (by decide) (by decide)))
  have F78_payloads_a1 := F77_payloads_a1.other W78 (Or.inr (slot_ne (Or.inr (hw _ (List.mem_of_getElem? (i := 186) rfl))) (Or.inr (hw _ (List.mem_of_getElem? (i := 194) rfl))) (by decide) (t := (.object "java/util/List")) (t' := .long) (by decide) (by decide)))
  have F78_costCoefficient_a1 := F77_costCoefficient_a1.other W78 (Or.inr (slot_ne (Or.inr (hw _ (List.mem_of_getElem? (i := 188) rfl))) (Or.inr (hw _ (List.mem_of_getElem? (i := 194) rfl))) (by decide) (t := .double) (t' := .long) (by decide) (by decide)))
  have F78_minGapS_a1 := F77_minGapS_a1.other W78 (Or.inr (slot_ne (Or.inr (hw _ (List.mem_of_getElem? (i := 190) rfl))) (Or.inr (hw _ (List.mem_of_getElem? (i := 194) rfl))) (by decide) (t := .long) (t' := .long) (by decide) (by decide)))
  have F78_maxOrbitS_a1 := F77_maxOrbitS_a1.other W78 (Or.inr (slot_ne (Or.inr (hw _ (List.mem_of_getElem? (i := 192) rfl))) (Or.inr (hw _ (List.mem_of_getElem? (i := 194) rfl))) (by decide) (t := .long) (t' := .long) (by decide) (by decide)))
  have F78_maxDayS_a1 := F77_maxDayS_a1.same W78
  have F78_usedWindows_a1 := F77_usedWindows_a1.other W78 (Or.inr (slot_ne (Or.inr (hw _ (List.mem_of_getElem? (i := 196) rfl))) (Or.inr (hw _ (List.mem_of_getElem? (i := 194) rfl))) (by decide) (t := (.object "java/util/List")) (t' := .long) (by decide) (by decide)))
  have F78_modCount_r0 := F77_modCount_r0.other W78 (Or.inl (Exa.ne Ex77_r0 Ex77_a1 (by decide)))
  have F78_elementData_r0 := F77_elementData_r0.other W78 (Or.inl (Exa.ne Ex77_r0 Ex77_a1 (by decide)))
  have F78_size_r0 := F77_size_r0.other W78 (Or.inl (Exa.ne Ex77_r0 Ex77_a1 (by decide)))
  have F78_modCount_al := F77_modCount_al.other W78 (Or.inl (Exa.ne Ex77_al Ex77_a1 (by decide)))
  have F78_elementData_al := F77_elementData_al.other W78 (Or.inl (Exa.ne Ex77_al Ex77_a1 (by decide)))
  have F78_size_al := F77_size_al.other W78 (Or.inl (Exa.ne Ex77_al Ex77_a1 (by decide)))
  have xa78_el := xa77_el.other W78 (Ne.symm (own_Vs.ne Ex77_a1 xa77_el (hw _ (List.mem_of_getElem? (i := 76) rfl))))
  have xa78_lw71 := xa77_lw71.other W78 (Ne.symm ne_a1_lw71)
  have Ex78_a1 := Ex77_a1.wr W78
  have Ex78_r0 := Ex77_r0.wr W78
  have Ex78_al := Ex77_al.wr W78
  have K78 := K77.wr W78 (Or.inl (by simp))
  have Z78 := Nat.le_trans Z77 (Keep.of_wr W78).1
  have O78 := O77.wr W78 ga
  have N78 := Fr.snoc X78 N77 ga
  show own_Go p.tables e below K (T78.setTop (mkF m 55 #[.val (.ref a1), .val (.ref s1), .val (.ref s2), .val (.ref lw70), .val (.double dc), .second, .val (.long j1), .second, .val (.long j2), .second, .val (.long j3), .second, .val (.ref lw71)] []))
  refine own_by (fun t k => XS.aloadN X78.here hx rfl (hb hby own_d12_55) rfl rfl k) ?_
  show own_Go p.tables e below K (T78.setTop (mkF m 56 #[.val (.ref a1), .val (.ref s1), .val (.ref s2), .val (.ref lw70), .val (.double dc), .second, .val (.long j1), .second, .val (.long j2), .second, .val (.long j3), .second, .val (.ref lw71)] [(.ref a1)]))
  refine own_by (fun t k => XS.aload X78.here hx rfl (hb hby own_d12_56) rfl rfl k) ?_
  show own_Go p.tables e below K (T78.setTop (mkF m 58 #[.val (.ref a1), .val (.ref s1), .val (.ref s2), .val (.ref lw70), .val (.double dc), .second, .val (.long j1), .second, .val (.long j2), .second, .val (.long j3), .second, .val (.ref lw71)] [(.ref lw71), (.ref a1)]))
  obtain ⟨T79, h79, X79, e79, W79, st79⟩ := putF X78 hx hZ hown (host := "") (Or.inl (hw _ (List.mem_of_getElem? (i := 195) rfl))) Via.refl e78 F78_usedWindows_a1 Ex78_a1 (Or.inr ⟨(hw _ (List.mem_of_getElem? (i := 196) rfl)), rfl, hnm⟩) (hw _ (List.mem_of_getElem? (i := 76) rfl)) (ty := (.object "java/util/List")) (by decide) rfl rfl (g := (mkF m 58 #[.val (.ref a1), .val (.ref s1), .val (.ref s2), .val (.ref lw70), .val (.double dc), .second, .val (.long j1), .second, .val (.long j2), .second, .val (.long j3), .second, .val (.ref lw71)] [(.ref lw71), (.ref a1)])) rfl rfl (hb hby own_d12_58)
  refine own_by st79 ?_
  have F79_id_a1 := F78_id_a1.other W79 (Or.inr (slot_ne (Or.inr (hw _ (List.mem_of_getElem? (i := 182) rfl))) (Or.inr (hw _ (List.mem_of_getElem? (i := 196) rfl))) (by decide) (t := (.object "java/lang/String")) (t' := (.object "java/util/List")) (by decide) (by decide)))
  have F79_name_a1 := F78_name_a1.other W79 (Or.inr (slot_ne (Or.inr (hw _ (List.mem_of_getElem? (i := 184) rfl))) (Or.inr (hw _ (List.mem_of_getElem? (i := 196) rfl))) (by decide) (t := (.object "java/lang/String")) (t' := (.object "java/util/List")) (by decide) (by decide)))
  have F79_payloads_a1 := F78_payloads_a1.other W79 (Or.inr (slot_ne (Or.inr (hw _ (List.mem_of_getElem? (i := 186) rfl))) (Or.inr (hw _ (List.mem_of_getElem? (i := 196) rfl))) (by decide) (t := (.object "java/util/List")) (t' := (.object "java/util/List")) (by decide) (by decide)))
  have F79_costCoefficient_a1 := F78_costCoefficient_a1.other W79 (Or.inr (slot_ne (Or.inr (hw _ (List.mem_of_getElem? (i := 188) rfl))) (Or.inr (hw _ (List.mem_of_getElem? (i := 196) rfl))) (by decide) (t := .double) (t' := (.object "java/util/List")) (by decide) (by decide)))
  have F79_minGapS_a1 := F78_minGapS_a1.other W79 (Or.inr (slot_ne (Or.inr (hw _ (List.mem_of_getElem? (i := 190) rfl))) (Or.inr (hw _ (List.mem_of_getElem? (i := 196) rfl))) (by decide) (t := .long) (t' := (.object "java/util/List")) (by decide) (by decide)))
  have F79_maxOrbitS_a1 := F78_maxOrbitS_a1.other W79 (Or.inr (slot_ne (Or.inr (hw _ (List.mem_of_getElem? (i := 192) rfl))) (Or.inr (hw _ (List.mem_of_getElem? (i := 196) rfl))) (by decide) (t := .long) (t' := (.object "java/util/List")) (by decide) (by decide)))
  have F79_maxDayS_a1 := F78_maxDayS_a1.other W79 (Or.inr (slot_ne (Or.inr (hw _ (List.mem_of_getElem? (i := 194) rfl))) (Or.inr (hw _ (List.mem_of_getElem? (i := 196) rfl))) (by decide) (t := .long) (t' := (.object "java/util/List")) (by decide) (by decide)))
  have F79_usedWindows_a1 := F78_usedWindows_a1.same W79
  have F79_modCount_r0 := F78_modCount_r0.other W79 (Or.inl (Exa.ne Ex78_r0 Ex78_a1 (by decide)))
  have F79_elementData_r0 := F78_elementData_r0.other W79 (Or.inl (Exa.ne Ex78_r0 Ex78_a1 (by decide)))
  have F79_size_r0 := F78_size_r0.other W79 (Or.inl (Exa.ne Ex78_r0 Ex78_a1 (by decide)))
  have F79_modCount_al := F78_modCount_al.other W79 (Or.inl (Exa.ne Ex78_al Ex78_a1 (by decide)))
  have F79_elementData_al := F78_elementData_al.other W79 (Or.inl (Exa.ne Ex78_al Ex78_a1 (by decide)))
  have F79_size_al := F78_size_al.other W79 (Or.inl (Exa.ne Ex78_al Ex78_a1 (by decide)))
  have xa79_el := xa78_el.other W79 (Ne.symm (own_Vs.ne Ex78_a1 xa78_el (hw _ (List.mem_of_getElem? (i := 76) rfl))))
  have xa79_lw71 := xa78_lw71.other W79 (Ne.symm ne_a1_lw71)
  have Ex79_a1 := Ex78_a1.wr W79
  have Ex79_r0 := Ex78_r0.wr W79
  have Ex79_al := Ex78_al.wr W79
  have K79 := K78.wr W79 (Or.inl (by simp))
  have Z79 := Nat.le_trans Z78 (Keep.of_wr W79).1
  have O79 := O78.wr W79 ga
  have N79 := Fr.snoc X79 N78 ga
  show own_Go p.tables e below K (T79.setTop (mkF m 61 #[.val (.ref a1), .val (.ref s1), .val (.ref s2), .val (.ref lw70), .val (.double dc), .second, .val (.long j1), .second, .val (.long j2), .second, .val (.long j3), .second, .val (.ref lw71)] []))
  exact own_retV X79 hx hret (hb hby own_d12_61) (hK none X79 (fun _ => rfl) (by rw [e79]; exact ⟨rfl, N79, K79, Ex79_a1, F79_costCoefficient_a1, _, F79_usedWindows_a1, xa79_lw71⟩) (by decide) (by decide))
theorem own_d27_0 : decode prog_15_method_8_code 0 = .ok (.aload_n 0, 1) := by decide +kernel
theorem own_d27_1 : decode prog_15_method_8_code 1 = .ok (.getfield 26, 3) := by decide +kernel
theorem own_d27_4 : decode prog_15_method_8_code 4 = .ok (.dreturn, 1) := by decide +kernel
theorem own_efscc (m : MethodId) (a1 : Addr) : entryFrame m #[(.ref a1)] 1 = mkF m 0 #[.val (.ref a1)] [] := by first | (simp [entryFrame, mkF, argsToLocals, Value.category]; done) | rfl
def own_Qscc (Z : State) (a1 : Addr) (dc : UInt64) (h0 : Heap) (n0 : Nat) (v : Option Value) (h : Heap) (L : List Loc) : Prop := v = some (.double dc) ∧ Fr n0 L ∧ h = h0
set_option maxRecDepth 65536 in
set_option maxHeartbeats 40000000 in
theorem own_rmscc (l : Launch) (Z : State) (aw : Array Value) (hw : ∀ d ∈ tables_1, d.before aw Z = true) (ws : List Jvm.Cond) (a1 : Addr) (dc : UInt64) (h0 : Heap) (n0 : Nat) (Z0 : n0 ≤ h0.size) (F0 : Fld Z h0 a1 "com/example/skyroster/skyroster/Satellite" "costCoefficient" "D" (.double dc)) :
    MetFree l (⟨"com/example/skyroster/skyroster/Satellite", "costCoefficient", "()D"⟩ : MethodName) (head1 (Jvm.Cond.code (⟨"com/example/skyroster/skyroster/Satellite", "costCoefficient", "()D"⟩ : MethodName) prog_15_method_8_code 1 (some .double) :: ws) ({ frames := 0, cells := 0, slots := 0, locals := 0 } : Room)) (fun a U => a = #[(.ref a1)] ∧ Z.Warmed39 U.vm ∧ U.heap = h0) (fun _ _ _ _ _ => True) (fun _ U o U' => ∃ v L, o = .returned v ∧ own_Qscc Z a1 dc h0 n0 v U'.heap L ∧ FrameEnd U o U' L ({ frames := 0, cells := 0, slots := 0, locals := 0 } : Room).cells ({ frames := 0, cells := 0, slots := 0, locals := 0 } : Room).slots) := by
  refine own_met (Q := own_Qscc Z a1 dc h0 n0) (plainFor_of_name own_pn12) ?_
  intro p e s m below meth c s₁ K hx hby hml hown hnm hret hZ X0 e0 hK
  have hown : s.vm.findClass "com/example/skyroster/skyroster/Satellite" = some m.cls := hown
  have N0 := Fr.nil n0
  refine own_by (fun t k => castTop (own_efscc m a1) k) ?_
  show own_Go p.tables e below K (s₁.setTop (mkF m 0 #[.val (.ref a1)] []))
  refine own_by (fun t k => XS.aloadN X0.here hx rfl (hb hby own_d27_0) rfl rfl k) ?_
  show own_Go p.tables e below K (s₁.setTop (mkF m 1 #[.val (.ref a1)] [(.ref a1)]))
  obtain ⟨T80, X80, e80, st80⟩ := getF X0 hx hZ hown (host := "") (Or.inl (hw _ (List.mem_of_getElem? (i := 187) rfl))) Via.refl e0 F0 (g := (mkF m 1 #[.val (.ref a1)] [(.ref a1)])) rfl rfl (hb hby own_d27_1)
  refine own_by st80 ?_
  show own_Go p.tables e below K (T80.setTop (mkF m 4 #[.val (.ref a1)] [(.double dc)]))
  exact own_retD X80 hx hret (hb hby own_d27_4) (hK (some (.double dc)) X80 (fun h => by rw [hret] at h; cases h) ⟨rfl, N0, e80⟩ (by decide) (by decide))
theorem own_d28_0 : decode prog_15_method_12_code 0 = .ok (.aload_n 0, 1) := by decide +kernel
theorem own_d28_1 : decode prog_15_method_12_code 1 = .ok (.getfield 40, 3) := by decide +kernel
theorem own_d28_4 : decode prog_15_method_12_code 4 = .ok (.areturn, 1) := by decide +kernel
theorem own_efsuw (m : MethodId) (a1 : Addr) : entryFrame m #[(.ref a1)] 1 = mkF m 0 #[.val (.ref a1)] [] := by first | (simp [entryFrame, mkF, argsToLocals, Value.category]; done) | rfl
def own_Qsuw (Z : State) (a1 : Addr) (lw : Addr) (h0 : Heap) (n0 : Nat) (v : Option Value) (h : Heap) (L : List Loc) : Prop := v = some (.ref lw) ∧ Fr n0 L ∧ h = h0
set_option maxRecDepth 65536 in
set_option maxHeartbeats 40000000 in
theorem own_rmsuw (l : Launch) (Z : State) (aw : Array Value) (hw : ∀ d ∈ tables_1, d.before aw Z = true) (ws : List Jvm.Cond) (a1 : Addr) (lw : Addr) (h0 : Heap) (n0 : Nat) (Z0 : n0 ≤ h0.size) (F0 : Fld Z h0 a1 "com/example/skyroster/skyroster/Satellite" "usedWindows" "Ljava/util/List;" (.ref lw)) :
    MetFree l (⟨"com/example/skyroster/skyroster/Satellite", "usedWindows", "()Ljava/util/List;"⟩ : MethodName) (head1 (Jvm.Cond.code (⟨"com/example/skyroster/skyroster/Satellite", "usedWindows", "()Ljava/util/List;"⟩ : MethodName) prog_15_method_12_code 1 (some (.object "java/util/List")) :: ws) ({ frames := 0, cells := 0, slots := 0, locals := 0 } : Room)) (fun a U => a = #[(.ref a1)] ∧ Z.Warmed39 U.vm ∧ U.heap = h0) (fun _ _ _ _ _ => True) (fun _ U o U' => ∃ v L, o = .returned v ∧ own_Qsuw Z a1 lw h0 n0 v U'.heap L ∧ FrameEnd U o U' L ({ frames := 0, cells := 0, slots := 0, locals := 0 } : Room).cells ({ frames := 0, cells := 0, slots := 0, locals := 0 } : Room).slots) := by
  refine own_met (Q := own_Qsuw Z a1 lw h0 n0) (plainFor_of_name own_pn12) ?_
  intro p e s m below meth c s₁ K hx hby hml hown hnm hret hZ X0 e0 hK
  have hown : s.vm.findClass "com/example/skyroster/skyroster/Satellite" = some m.cls := hown
  have N0 := Fr.nil n0
  refine own_by (fun t k => castTop (own_efsuw m a1) k) ?_
  show own_Go p.tables e below K (s₁.setTop (mkF m 0 #[.val (.ref a1)] []))
  refine own_by (fun t k => XS.aloadN X0.here hx rfl (hb hby own_d28_0) rfl rfl k) ?_
  show own_Go p.tables e below K (s₁.setTop (mkF m 1 #[.val (.ref a1)] [(.ref a1)]))
  obtain ⟨T81, X81, e81, st81⟩ := getF X0 hx hZ hown (host := "") (Or.inl (hw _ (List.mem_of_getElem? (i := 195) rfl))) Via.refl e0 F0 (g := (mkF m 1 #[.val (.ref a1)] [(.ref a1)])) rfl rfl (hb hby own_d28_1)
  refine own_by st81 ?_
  show own_Go p.tables e below K (T81.setTop (mkF m 4 #[.val (.ref a1)] [(.ref lw)]))
  exact own_retA X81 hx hret rfl rfl rfl (hb hby own_d28_4) (hK (some (.ref lw)) X81 (fun h => by rw [hret] at h; cases h) (⟨rfl, N0, e81⟩) (by decide) (by decide))
theorem own_pd13 : parseMethodDescriptor "()D" = some ⟨[], some .double⟩ := by decide +kernel
theorem own_pd14 : parseMethodDescriptor "()I" = some ⟨[], some .int⟩ := by decide +kernel
theorem own_pn26 : plainName "com/example/skyroster/skyroster/CostShare" = true := by first | (simp [plainName, overriddenIn]; done) | decide +kernel
theorem own_d26_0 : decode prog_2_method_1_code 0 = .ok (.aload_n 0, 1) := by decide +kernel
theorem own_d26_1 : decode prog_2_method_1_code 1 = .ok (.invokespecial 1, 3) := by decide +kernel
theorem own_d26_4 : decode prog_2_method_1_code 4 = .ok (.aload_n 0, 1) := by decide +kernel
theorem own_d26_5 : decode prog_2_method_1_code 5 = .ok (.aload_n 1, 1) := by decide +kernel
theorem own_d26_6 : decode prog_2_method_1_code 6 = .ok (.invokevirtual 7, 3) := by decide +kernel
theorem own_d26_9 : decode prog_2_method_1_code 9 = .ok (.putfield 13, 3) := by decide +kernel
theorem own_d26_12 : decode prog_2_method_1_code 12 = .ok (.aload_n 0, 1) := by decide +kernel
theorem own_d26_13 : decode prog_2_method_1_code 13 = .ok (.aload_n 1, 1) := by decide +kernel
theorem own_d26_14 : decode prog_2_method_1_code 14 = .ok (.invokevirtual 19, 3) := by decide +kernel
theorem own_d26_17 : decode prog_2_method_1_code 17 = .ok (.invokeinterface 23 1, 5) := by decide +kernel
theorem own_d26_22 : decode prog_2_method_1_code 22 = .ok (.putfield 29, 3) := by decide +kernel
theorem own_d26_25 : decode prog_2_method_1_code 25 = .ok (.return_, 1) := by decide +kernel
theorem own_efcsi (m : MethodId) (a1 : Addr) (r1 : Addr) : entryFrame m #[(.ref a1), (.ref r1)] 2 = mkF m 0 #[.val (.ref a1), .val (.ref r1)] [] := by first | (simp [entryFrame, mkF, argsToLocals, Value.category]; done) | rfl
def own_Qcsi (Z : State) (a1 : Addr) (r1 : Addr) (dc : UInt64) (lw : Addr) (n : Int32) (dd : Addr) (lz : Addr) (ez : Addr) (em : Addr) (mr : Addr) (h0 : Heap) (n0 : Nat) (v : Option Value) (h : Heap) (L : List Loc) : Prop := v = none ∧ Fr n0 L ∧ Keep h0 h [a1] ∧ own_CS Z h a1 dc n 0 (FP.l2d 0) 0
set_option maxRecDepth 65536 in
set_option maxHeartbeats 40000000 in
theorem own_rmcsi (l : Launch) (Z : State) (aw : Array Value) (hw : ∀ d ∈ tables_1, d.before aw Z = true) (ws : List Jvm.Cond) (a1 : Addr) (r1 : Addr) (dc : UInt64) (lw : Addr) (n : Int32) (dd : Addr) (lz : Addr) (ez : Addr) (em : Addr) (mr : Addr) (h0 : Heap) (n0 : Nat) (Z0 : n0 ≤ h0.size) (E0 : Exa Z h0 a1 "com/example/skyroster/skyroster/CostShare") (ga : n0 ≤ a1) (F0_coefficient : Fld Z h0 a1 "com/example/skyroster/skyroster/CostShare" "coefficient" "D" (.double (0 : UInt64))) (F0_usedCount : Fld Z h0 a1 "com/example/skyroster/skyroster/CostShare" "usedCount" "I" (.int (0 : Int32))) (F0_taskCount : Fld Z h0 a1 "com/example/skyroster/skyroster/CostShare" "taskCount" "I" (.int (0 : Int32))) (F0_taskCostSum : Fld Z h0 a1 "com/example/skyroster/skyroster/CostShare" "taskCostSum" "D" (.double (0 : UInt64))) (F0_cost : Fld Z h0 a1 "com/example/skyroster/skyroster/CostShare" "cost" "D" (.double (0 : UInt64))) (E1 : Exa Z h0 r1 "com/example/skyroster/skyroster/Satellite") (C1 : Fld Z h0 r1 "com/example/skyroster/skyroster/Satellite" "costCoefficient" "D" (.double dc)) (U1 : Fld Z h0 r1 "com/example/skyroster/skyroster/Satellite" "usedWindows" "Ljava/util/List;" (.ref lw)) (Z1 : own_SZ Z h0 lw em n) (O0 : Old Z n0 h0) (S0 : own_St Z dd lz ez em mr) :
    MetFree l (⟨"com/example/skyroster/skyroster/CostShare", "<init>", "(Lcom/example/skyroster/skyroster/Satellite;)V"⟩ : MethodName) (head1 (Jvm.Cond.code (⟨"com/example/skyroster/skyroster/CostShare", "<init>", "(Lcom/example/skyroster/skyroster/Satellite;)V"⟩ : MethodName) prog_2_method_1_code 2 none :: ws) ({ frames := 1, cells := 0, slots := 0, locals := 20 } : Room)) (fun a U => a = #[(.ref a1), (.ref r1)] ∧ Z.Warmed39 U.vm ∧ U.heap = h0) (fun _ _ _ _ _ => True) (fun _ U o U' => ∃ v L, o = .returned v ∧ own_Qcsi Z a1 r1 dc lw n dd lz ez em mr h0 n0 v U'.heap L ∧ FrameEnd U o U' L ({ frames := 1, cells := 0, slots := 0, locals := 20 } : Room).cells ({ frames := 1, cells := 0, slots := 0, locals := 20 } : Room).slots) := by
  refine own_met (Q := own_Qcsi Z a1 r1 dc lw n dd lz ez em mr h0 n0) (plainFor_of_name own_pn26) ?_
  intro p e s m below meth c s₁ K hx hby hml hown hnm hret hZ X0 e0 hK
  have hown : s.vm.findClass "com/example/skyroster/skyroster/CostShare" = some m.cls := hown
  have hnm : meth.name = "<init>" := hnm
  have N0 := Fr.nil n0
  refine own_by (fun t k => castTop (own_efcsi m a1 r1) k) ?_
  show own_Go p.tables e below K (s₁.setTop (mkF m 0 #[.val (.ref a1), .val (.ref r1)] []))
  refine own_by (fun t k => XS.aloadN X0.here hx rfl (hb hby own_d26_0) rfl rfl k) ?_
  show own_Go p.tables e below K (s₁.setTop (mkF m 1 #[.val (.ref a1), .val (.ref r1)] [(.ref a1)]))
  obtain ⟨T82, X82, e82, st82⟩ := initO X0 hx hZ hown (hw _ (List.mem_of_getElem? (i := 203) rfl)) (hw _ (List.mem_of_getElem? (i := 19) rfl)) (hw _ (List.mem_of_getElem? (i := 20) rfl)) e0 (g := (mkF m 1 #[.val (.ref a1), .val (.ref r1)] [(.ref a1)])) rfl (by rw [hml]; rfl) rfl (hb hby own_d26_1) (by decide) (W := 0) (by show 2 * 0 + _ ≤ _; exact Nat.le_of_eq rfl) (by decide)
  refine own_by st82 ?_
  show own_Go p.tables e below K (T82.setTop (mkF m 4 #[.val (.ref a1), .val (.ref r1)] []))
  refine own_by (fun t k => XS.aloadN X82.here hx rfl (hb hby own_d26_4) rfl rfl k) ?_
  show own_Go p.tables e below K (T82.setTop (mkF m 5 #[.val (.ref a1), .val (.ref r1)] [(.ref a1)]))
  refine own_by (fun t k => XS.aloadN X82.here hx rfl (hb hby own_d26_5) rfl rfl k) ?_
  show own_Go p.tables e below K (T82.setTop (mkF m 6 #[.val (.ref a1), .val (.ref r1)] [(.ref r1), (.ref a1)]))
  obtain ⟨cq83, kq83, q83a, q83b, q83c⟩ := isOf hZ e82 E1
  obtain ⟨_, _, ⟨T83, L83, k83, n83⟩, -, X83, ⟨Lc83, hQ83, l83, y83, z83⟩, st83⟩ := X82.virtualBack hx (y := (⟨"com/example/skyroster/skyroster/Satellite", "costCoefficient", "()D"⟩ : MethodName)) (z := (⟨"com/example/skyroster/skyroster/Satellite", "costCoefficient", "()D"⟩ : MethodName)) hown (mvT hZ (hw _ (List.mem_of_getElem? (i := 204) rfl))) (mvT hZ (hw _ (List.mem_of_getElem? (i := 205) rfl))) (notFace_of_selects (args := #[]) (mvT hZ (hw _ (List.mem_of_getElem? (i := 207) rfl)))) (mvT hZ (hw _ (List.mem_of_getElem? (i := 207) rfl))) (mvT hZ (hw _ (List.mem_of_getElem? (i := 206) rfl))) (by decide) (backOf (W := 1) (own_rmscc l Z aw hw [] r1 dc h0 n0 Z0 C1) hZ (hw _ (List.mem_of_getElem? (i := 208) rfl)) (hw _ (List.mem_of_getElem? (i := 77) rfl)) (by decide) (by decide)) q83a q83c (g := (mkF m 6 #[.val (.ref a1), .val (.ref r1)] [(.ref r1), (.ref a1)])) rfl (by rw [hml]; rfl) (Steps.refl _) (argsL := []) (rest := [(.ref a1)]) (lenOf own_pd13 rfl) rfl (by show 2 * 0 + _ ≤ _; exact Nat.le_of_eq rfl) (hb hby own_d26_6) (fun _ _ => ⟨rfl, e82, (by decide : 0 + 0 ≤ _), (by decide : 0 + 0 ≤ _)⟩)
  dsimp only [Pt.U, Pt.locs, Pt.cells, Pt.slots] at X83 l83 y83 z83 st83 hQ83
  subst l83 y83 z83
  obtain ⟨rfl, N83q, e83⟩ := hQ83
  have N83 := Fr.app N0 N83q
  refine own_by (fun t k => st83.trans k) ?_
  show own_Go p.tables e below K (T83.setTop (mkF m 9 #[.val (.ref a1), .val (.ref r1)] [(.double dc), (.ref a1)]))
  obtain ⟨T84, h84, X84, e84, W84, st84⟩ := putF X83 hx hZ hown (host := "") (Or.inl (hw _ (List.mem_of_getElem? (i := 209) rfl))) Via.refl e83 F0_coefficient E0 (Or.inr ⟨(hw _ (List.mem_of_getElem? (i := 210) rfl)), rfl, hnm⟩) (hw _ (List.mem_of_getElem? (i := 198) rfl)) (ty := .double) (by decide) rfl rfl (g := (mkF m 9 #[.val (.ref a1), .val (.ref r1)] [(.double dc), (.ref a1)])) rfl rfl (hb hby own_d26_9)
  refine own_by st84 ?_
  have F84_coefficient_a1 := F0_coefficient.same W84
  have F84_usedCount_a1 := F0_usedCount.other W84 (Or.inr (slot_ne (Or.inr (hw _ (List.mem_of_getElem? (i := 226) rfl))) (Or.inr (hw _ (List.mem_of_getElem? (i := 210) rfl))) (by decide) (t := .int) (t' := .double) (by decide) (by decide)))
  have F84_taskCount_a1 := F0_taskCount.other W84 (Or.inr (slot_ne (Or.inl (hw _ (List.mem_of_getElem? (i := 233) rfl))) (Or.inr (hw _ (List.mem_of_getElem? (i := 210) rfl))) (by decide) (t := .int) (t' := .double) (by decide) (by decide)))
  have F84_taskCostSum_a1 := F0_taskCostSum.other W84 (Or.inr (slot_ne (Or.inl (hw _ (List.mem_of_getElem? (i := 235) rfl))) (Or.inr (hw _ (List.mem_of_getElem? (i := 210) rfl))) (by decide) (t := .double) (t' := .double) (by decide) (by decide)))
  have F84_cost_a1 := F0_cost.other W84 (Or.inr (slot_ne (Or.inl (hw _ (List.mem_of_getElem? (i := 242) rfl))) (Or.inr (hw _ (List.mem_of_getElem? (i := 210) rfl))) (by decide) (t := .double) (t' := .double) (by decide) (by decide)))
  have F84_costCoefficient_r1 := C1.other W84 (Or.inl (Exa.ne E1 E0 (by decide)))
  have F84_usedWindows_r1 := U1.other W84 (Or.inl (Exa.ne E1 E0 (by decide)))
  have xa84_lw := Z1.other W84 (Ne.symm (own_SZ.ne E0 Z1 (by decide) (by decide)))
  have Ex84_a1 := E0.wr W84
  have Ex84_r1 := E1.wr W84
  have K84 := (Keep.refl h0 [a1]).wr W84 (Or.inl (by simp))
  have Z84 := Nat.le_trans Z0 (Keep.of_wr W84).1
  have O84 := O0.wr W84 ga
  have N84 := Fr.snoc X84 N83 ga
  show own_Go p.tables e below K (T84.setTop (mkF m 12 #[.val (.ref a1), .val (.ref r1)] []))
  refine own_by (fun t k => XS.aloadN X84.here hx rfl (hb hby own_d26_12) rfl rfl k) ?_
  show own_Go p.tables e below K (T84.setTop (mkF m 13 #[.val (.ref a1), .val (.ref r1)] [(.ref a1)]))
  refine own_by (fun t k => XS.aloadN X84.here hx rfl (hb hby own_d26_13) rfl rfl k) ?_
  show own_Go p.tables e below K (T84.setTop (mkF m 14 #[.val (.ref a1), .val (.ref r1)] [(.ref r1), (.ref a1)]))
  obtain ⟨cq85, kq85, q85a, q85b, q85c⟩ := isOf hZ e84 Ex84_r1
  obtain ⟨_, _, ⟨T85, L85, k85, n85⟩, -, X85, ⟨Lc85, hQ85, l85, y85, z85⟩, st85⟩ := X84.virtualBack hx (y := (⟨"com/example/skyroster/skyroster/Satellite", "usedWindows", "()Ljava/util/List;"⟩ : MethodName)) (z := (⟨"com/example/skyroster/skyroster/Satellite", "usedWindows", "()Ljava/util/List;"⟩ : MethodName)) hown (mvT hZ (hw _ (List.mem_of_getElem? (i := 211) rfl))) (mvT hZ (hw _ (List.mem_of_getElem? (i := 212) rfl))) (notFace_of_selects (args := #[]) (mvT hZ (hw _ (List.mem_of_getElem? (i := 214) rfl)))) (mvT hZ (hw _ (List.mem_of_getElem? (i := 214) rfl))) (mvT hZ (hw _ (List.mem_of_getElem? (i := 213) rfl))) (by decide) (backOf (W := 1) (own_rmsuw l Z aw hw [] r1 lw h84 n0 Z84 F84_usedWindows_r1) hZ (hw _ (List.mem_of_getElem? (i := 215) rfl)) (hw _ (List.mem_of_getElem? (i := 77) rfl)) (by decide) (by decide)) q85a q85c (g := (mkF m 14 #[.val (.ref a1), .val (.ref r1)] [(.ref r1), (.ref a1)])) rfl (by rw [hml]; rfl) (Steps.refl _) (argsL := []) (rest := [(.ref a1)]) (lenOf own_pd10 rfl) rfl (by show 2 * 0 + _ ≤ _; exact Nat.le_of_eq rfl) (hb hby own_d26_14) (fun _ _ => ⟨rfl, e84, (by decide : 0 + 0 ≤ _), (by decide : 0 + 0 ≤ _)⟩)
  dsimp only [Pt.U, Pt.locs, Pt.cells, Pt.slots] at X85 l85 y85 z85 st85 hQ85
  subst l85 y85 z85
  obtain ⟨rfl, N85q, e85⟩ := hQ85
  have N85 := Fr.app N84 N85q
  refine own_by (fun t k => st85.trans k) ?_
  rcases (id xa84_lw) with ⟨Es, x1, Fs, As⟩ | ⟨Es, x1, Fs, ⟨hn1, hx1⟩ | ⟨hn2, hx2⟩⟩
  · show own_Go p.tables e below K (T85.setTop (mkF m 17 #[.val (.ref a1), .val (.ref r1)] [(.ref lw), (.ref a1)]))
    obtain ⟨cq86, kq86, q86a, q86b, q86c⟩ := isOf hZ e85 Es
    obtain ⟨_, _, ⟨T86, L86, k86, n86⟩, -, X86, ⟨Lc86, hQ86, l86, y86, z86⟩, st86⟩ := X85.interfaceBack hx (xi := (⟨"java/util/List", "size", "()I"⟩ : MethodName)) (y := (⟨"java/util/ImmutableCollections$ListN", "size", "()I"⟩ : MethodName)) hown (mvT hZ (hw _ (List.mem_of_getElem? (i := 216) rfl))) (mvT hZ (hw _ (List.mem_of_getElem? (i := 217) rfl))) (mvT hZ (hw _ (List.mem_of_getElem? (i := 218) rfl))) (mvT hZ (hw _ (List.mem_of_getElem? (i := 259) rfl))) (mvT hZ (hw _ (List.mem_of_getElem? (i := 260) rfl))) (mvT hZ (hw _ (List.mem_of_getElem? (i := 261) rfl))) (mvT hZ (hw _ (List.mem_of_getElem? (i := 262) rfl))) (mvT hZ (hw _ (List.mem_of_getElem? (i := 263) rfl))) (by decide) (backOf (W := 1) (own_rmszn l Z aw hw [] lw x1 n h84 n0 Z84 Fs As) hZ (hw _ (List.mem_of_getElem? (i := 265) rfl)) (hw _ (List.mem_of_getElem? (i := 264) rfl)) (by decide) (by decide)) q86a q86b q86c (g := (mkF m 17 #[.val (.ref a1), .val (.ref r1)] [(.ref lw), (.ref a1)])) rfl (by rw [hml]; rfl) (Steps.refl _) (argsL := []) (rest := [(.ref a1)]) (lenOf own_pd14 rfl) rfl (by show 2 * 0 + _ ≤ _; exact Nat.le_of_eq rfl) (hb hby own_d26_17) (fun _ _ => ⟨rfl, e85, (by decide : 0 + 0 ≤ _), (by decide : 0 + 0 ≤ _)⟩)
    dsimp only [Pt.U, Pt.locs, Pt.cells, Pt.slots] at X86 l86 y86 z86 st86 hQ86
    subst l86 y86 z86
    obtain ⟨rfl, N86q, e86⟩ := hQ86
    have N86 := Fr.app N85 N86q
    refine own_by (fun t k => st86.trans k) ?_
    show own_Go p.tables e below K (T86.setTop (mkF m 22 #[.val (.ref a1), .val (.ref r1)] [(.int n), (.ref a1)]))
    obtain ⟨T87, h87, X87, e87, W87, st87⟩ := putF X86 hx hZ hown (host := "") (Or.inl (hw _ (List.mem_of_getElem? (i := 225) rfl))) Via.refl e86 F84_usedCount_a1 Ex84_a1 (Or.inr ⟨(hw _ (List.mem_of_getElem? (i := 226) rfl)), rfl, hnm⟩) (hw _ (List.mem_of_getElem? (i := 198) rfl)) (ty := .int) (by decide) rfl rfl (g := (mkF m 22 #[.val (.ref a1), .val (.ref r1)] [(.int n), (.ref a1)])) rfl rfl (hb hby own_d26_22)
    refine own_by st87 ?_
    have F87_coefficient_a1 := F84_coefficient_a1.other W87 (Or.inr (slot_ne (Or.inr (hw _ (List.mem_of_getElem? (i := 210) rfl))) (Or.inr (hw _ (List.mem_of_getElem? (i := 226) rfl))) (by decide) (t := .double) (t' := .int) (by decide) (by decide)))
    have F87_usedCount_a1 := F84_usedCount_a1.same W87
    have F87_taskCount_a1 := F84_taskCount_a1.other W87 (Or.inr (slot_ne (Or.inl (hw _ (List.mem_of_getElem? (i := 233) rfl))) (Or.inr (hw _ (List.mem_of_getElem? (i := 226) rfl))) (by decide) (t := .int) (t' := .int) (by decide) (by decide)))
    have F87_taskCostSum_a1 := F84_taskCostSum_a1.other W87 (Or.inr (slot_ne (Or.inl (hw _ (List.mem_of_getElem? (i := 235) rfl))) (Or.inr (hw _ (List.mem_of_getElem? (i := 226) rfl))) (by decide) (t := .double) (t' := .int) (by decide) (by decide)))
    have F87_cost_a1 := F84_cost_a1.other W87 (Or.inr (slot_ne (Or.inl (hw _ (List.mem_of_getElem? (i := 242) rfl))) (Or.inr (hw _ (List.mem_of_getElem? (i := 226) rfl))) (by decide) (t := .double) (t' := .int) (by decide) (by decide)))
    have F87_costCoefficient_r1 := F84_costCoefficient_r1.other W87 (Or.inl (Exa.ne Ex84_r1 Ex84_a1 (by decide)))
    have F87_usedWindows_r1 := F84_usedWindows_r1.other W87 (Or.inl (Exa.ne Ex84_r1 Ex84_a1 (by decide)))
    have xa87_lw := xa84_lw.other W87 (Ne.symm (own_SZ.ne E0 Z1 (by decide) (by decide)))
    have Ex87_a1 := Ex84_a1.wr W87
    have Ex87_r1 := Ex84_r1.wr W87
    have K87 := K84.wr W87 (Or.inl (by simp))
    have Z87 := Nat.le_trans Z84 (Keep.of_wr W87).1
    have O87 := O84.wr W87 ga
    have N87 := Fr.snoc X87 N86 ga
    show own_Go p.tables e below K (T87.setTop (mkF m 25 #[.val (.ref a1), .val (.ref r1)] []))
    exact own_retV X87 hx hret (hb hby own_d26_25) (hK none X87 (fun _ => rfl) (by rw [e87]; exact ⟨rfl, N87, K87, ⟨Ex87_a1, F87_coefficient_a1, F87_usedCount_a1, F87_taskCount_a1, Fld.zeroD F87_taskCostSum_a1, F87_cost_a1⟩⟩) (by decide) (by decide))
  · subst hn1; rw [hx1] at Fs
    show own_Go p.tables e below K (T85.setTop (mkF m 17 #[.val (.ref a1), .val (.ref r1)] [(.ref lw), (.ref a1)]))
    obtain ⟨cq88, kq88, q88a, q88b, q88c⟩ := isOf hZ e85 Es
    obtain ⟨_, _, ⟨T88, L88, k88, n88⟩, -, X88, ⟨Lc88, hQ88, l88, y88, z88⟩, st88⟩ := X85.interfaceBack hx (xi := (⟨"java/util/List", "size", "()I"⟩ : MethodName)) (y := (⟨"java/util/ImmutableCollections$List12", "size", "()I"⟩ : MethodName)) hown (mvT hZ (hw _ (List.mem_of_getElem? (i := 216) rfl))) (mvT hZ (hw _ (List.mem_of_getElem? (i := 217) rfl))) (mvT hZ (hw _ (List.mem_of_getElem? (i := 218) rfl))) (mvT hZ (hw _ (List.mem_of_getElem? (i := 219) rfl))) (mvT hZ (hw _ (List.mem_of_getElem? (i := 220) rfl))) (mvT hZ (hw _ (List.mem_of_getElem? (i := 221) rfl))) (mvT hZ (hw _ (List.mem_of_getElem? (i := 222) rfl))) (mvT hZ (hw _ (List.mem_of_getElem? (i := 223) rfl))) (by decide) (backOf (W := 1) (own_rmsz1 l Z aw hw [] lw x1 dd lz ez em mr h84 n0 Z84 Fs O84 S0) hZ (hw _ (List.mem_of_getElem? (i := 224) rfl)) (hw _ (List.mem_of_getElem? (i := 153) rfl)) (by decide) (by decide)) q88a q88b q88c (g := (mkF m 17 #[.val (.ref a1), .val (.ref r1)] [(.ref lw), (.ref a1)])) rfl (by rw [hml]; rfl) (Steps.refl _) (argsL := []) (rest := [(.ref a1)]) (lenOf own_pd14 rfl) rfl (by show 2 * 0 + _ ≤ _; exact Nat.le_of_eq rfl) (hb hby own_d26_17) (fun _ _ => ⟨rfl, e85, (by decide : 0 + 0 ≤ _), (by decide : 0 + 0 ≤ _)⟩)
    dsimp only [Pt.U, Pt.locs, Pt.cells, Pt.slots] at X88 l88 y88 z88 st88 hQ88
    subst l88 y88 z88
    obtain ⟨rfl, N88q, e88⟩ := hQ88
    have N88 := Fr.app N85 N88q
    refine own_by (fun t k => st88.trans k) ?_
    show own_Go p.tables e below K (T88.setTop (mkF m 22 #[.val (.ref a1), .val (.ref r1)] [(.int (1 : Int32)), (.ref a1)]))
    obtain ⟨T89, h89, X89, e89, W89, st89⟩ := putF X88 hx hZ hown (host := "") (Or.inl (hw _ (List.mem_of_getElem? (i := 225) rfl))) Via.refl e88 F84_usedCount_a1 Ex84_a1 (Or.inr ⟨(hw _ (List.mem_of_getElem? (i := 226) rfl)), rfl, hnm⟩) (hw _ (List.mem_of_getElem? (i := 198) rfl)) (ty := .int) (by decide) rfl rfl (g := (mkF m 22 #[.val (.ref a1), .val (.ref r1)] [(.int (1 : Int32)), (.ref a1)])) rfl rfl (hb hby own_d26_22)
    refine own_by st89 ?_
    have F89_coefficient_a1 := F84_coefficient_a1.other W89 (Or.inr (slot_ne (Or.inr (hw _ (List.mem_of_getElem? (i := 210) rfl))) (Or.inr (hw _ (List.mem_of_getElem? (i := 226) rfl))) (by decide) (t := .double) (t' := .int) (by decide) (by decide)))
    have F89_usedCount_a1 := F84_usedCount_a1.same W89
    have F89_taskCount_a1 := F84_taskCount_a1.other W89 (Or.inr (slot_ne (Or.inl (hw _ (List.mem_of_getElem? (i := 233) rfl))) (Or.inr (hw _ (List.mem_of_getElem? (i := 226) rfl))) (by decide) (t := .int) (t' := .int) (by decide) (by decide)))
    have F89_taskCostSum_a1 := F84_taskCostSum_a1.other W89 (Or.inr (slot_ne (Or.inl (hw _ (List.mem_of_getElem? (i := 235) rfl))) (Or.inr (hw _ (List.mem_of_getElem? (i := 226) rfl))) (by decide) (t := .double) (t' := .int) (by decide) (by decide)))
    have F89_cost_a1 := F84_cost_a1.other W89 (Or.inr (slot_ne (Or.inl (hw _ (List.mem_of_getElem? (i := 242) rfl))) (Or.inr (hw _ (List.mem_of_getElem? (i := 226) rfl))) (by decide) (t := .double) (t' := .int) (by decide) (by decide)))
    have F89_costCoefficient_r1 := F84_costCoefficient_r1.other W89 (Or.inl (Exa.ne Ex84_r1 Ex84_a1 (by decide)))
    have F89_usedWindows_r1 := F84_usedWindows_r1.other W89 (Or.inl (Exa.ne Ex84_r1 Ex84_a1 (by decide)))
    have xa89_lw := xa84_lw.other W89 (Ne.symm (own_SZ.ne E0 Z1 (by decide) (by decide)))
    have Ex89_a1 := Ex84_a1.wr W89
    have Ex89_r1 := Ex84_r1.wr W89
    have K89 := K84.wr W89 (Or.inl (by simp))
    have Z89 := Nat.le_trans Z84 (Keep.of_wr W89).1
    have O89 := O84.wr W89 ga
    have N89 := Fr.snoc X89 N88 ga
    show own_Go p.tables e below K (T89.setTop (mkF m 25 #[.val (.ref a1), .val (.ref r1)] []))
    exact own_retV X89 hx hret (hb hby own_d26_25) (hK none X89 (fun _ => rfl) (by rw [e89]; exact ⟨rfl, N89, K89, ⟨Ex89_a1, F89_coefficient_a1, F89_usedCount_a1, F89_taskCount_a1, Fld.zeroD F89_taskCostSum_a1, F89_cost_a1⟩⟩) (by decide) (by decide))
  · subst hn2
    show own_Go p.tables e below K (T85.setTop (mkF m 17 #[.val (.ref a1), .val (.ref r1)] [(.ref lw), (.ref a1)]))
    obtain ⟨cq90, kq90, q90a, q90b, q90c⟩ := isOf hZ e85 Es
    obtain ⟨_, _, ⟨T90, L90, k90, n90⟩, -, X90, ⟨Lc90, hQ90, l90, y90, z90⟩, st90⟩ := X85.interfaceBack hx (xi := (⟨"java/util/List", "size", "()I"⟩ : MethodName)) (y := (⟨"java/util/ImmutableCollections$List12", "size", "()I"⟩ : MethodName)) hown (mvT hZ (hw _ (List.mem_of_getElem? (i := 216) rfl))) (mvT hZ (hw _ (List.mem_of_getElem? (i := 217) rfl))) (mvT hZ (hw _ (List.mem_of_getElem? (i := 218) rfl))) (mvT hZ (hw _ (List.mem_of_getElem? (i := 219) rfl))) (mvT hZ (hw _ (List.mem_of_getElem? (i := 220) rfl))) (mvT hZ (hw _ (List.mem_of_getElem? (i := 221) rfl))) (mvT hZ (hw _ (List.mem_of_getElem? (i := 222) rfl))) (mvT hZ (hw _ (List.mem_of_getElem? (i := 223) rfl))) (by decide) (backOf (W := 1) (own_rmsz2 l Z aw hw [] lw x1 dd lz ez em mr h84 n0 Z84 Fs hx2 O84 S0) hZ (hw _ (List.mem_of_getElem? (i := 224) rfl)) (hw _ (List.mem_of_getElem? (i := 153) rfl)) (by decide) (by decide)) q90a q90b q90c (g := (mkF m 17 #[.val (.ref a1), .val (.ref r1)] [(.ref lw), (.ref a1)])) rfl (by rw [hml]; rfl) (Steps.refl _) (argsL := []) (rest := [(.ref a1)]) (lenOf own_pd14 rfl) rfl (by show 2 * 0 + _ ≤ _; exact Nat.le_of_eq rfl) (hb hby own_d26_17) (fun _ _ => ⟨rfl, e85, (by decide : 0 + 0 ≤ _), (by decide : 0 + 0 ≤ _)⟩)
    dsimp only [Pt.U, Pt.locs, Pt.cells, Pt.slots] at X90 l90 y90 z90 st90 hQ90
    subst l90 y90 z90
    obtain ⟨rfl, N90q, e90⟩ := hQ90
    have N90 := Fr.app N85 N90q
    refine own_by (fun t k => st90.trans k) ?_
    show own_Go p.tables e below K (T90.setTop (mkF m 22 #[.val (.ref a1), .val (.ref r1)] [(.int (2 : Int32)), (.ref a1)]))
    obtain ⟨T91, h91, X91, e91, W91, st91⟩ := putF X90 hx hZ hown (host := "") (Or.inl (hw _ (List.mem_of_getElem? (i := 225) rfl))) Via.refl e90 F84_usedCount_a1 Ex84_a1 (Or.inr ⟨(hw _ (List.mem_of_getElem? (i := 226) rfl)), rfl, hnm⟩) (hw _ (List.mem_of_getElem? (i := 198) rfl)) (ty := .int) (by decide) rfl rfl (g := (mkF m 22 #[.val (.ref a1), .val (.ref r1)] [(.int (2 : Int32)), (.ref a1)])) rfl rfl (hb hby own_d26_22)
    refine own_by st91 ?_
    have F91_coefficient_a1 := F84_coefficient_a1.other W91 (Or.inr (slot_ne (Or.inr (hw _ (List.mem_of_getElem? (i := 210) rfl))) (Or.inr (hw _ (List.mem_of_getElem? (i := 226) rfl))) (by decide) (t := .double) (t' := .int) (by decide) (by decide)))
    have F91_usedCount_a1 := F84_usedCount_a1.same W91
    have F91_taskCount_a1 := F84_taskCount_a1.other W91 (Or.inr (slot_ne (Or.inl (hw _ (List.mem_of_getElem? (i := 233) rfl))) (Or.inr (hw _ (List.mem_of_getElem? (i := 226) rfl))) (by decide) (t := .int) (t' := .int) (by decide) (by decide)))
    have F91_taskCostSum_a1 := F84_taskCostSum_a1.other W91 (Or.inr (slot_ne (Or.inl (hw _ (List.mem_of_getElem? (i := 235) rfl))) (Or.inr (hw _ (List.mem_of_getElem? (i := 226) rfl))) (by decide) (t := .double) (t' := .int) (by decide) (by decide)))
    have F91_cost_a1 := F84_cost_a1.other W91 (Or.inr (slot_ne (Or.inl (hw _ (List.mem_of_getElem? (i := 242) rfl))) (Or.inr (hw _ (List.mem_of_getElem? (i := 226) rfl))) (by decide) (t := .double) (t' := .int) (by decide) (by decide)))
    have F91_costCoefficient_r1 := F84_costCoefficient_r1.other W91 (Or.inl (Exa.ne Ex84_r1 Ex84_a1 (by decide)))
    have F91_usedWindows_r1 := F84_usedWindows_r1.other W91 (Or.inl (Exa.ne Ex84_r1 Ex84_a1 (by decide)))
    have xa91_lw := xa84_lw.other W91 (Ne.symm (own_SZ.ne E0 Z1 (by decide) (by decide)))
    have Ex91_a1 := Ex84_a1.wr W91
    have Ex91_r1 := Ex84_r1.wr W91
    have K91 := K84.wr W91 (Or.inl (by simp))
    have Z91 := Nat.le_trans Z84 (Keep.of_wr W91).1
    have O91 := O84.wr W91 ga
    have N91 := Fr.snoc X91 N90 ga
    show own_Go p.tables e below K (T91.setTop (mkF m 25 #[.val (.ref a1), .val (.ref r1)] []))
    exact own_retV X91 hx hret (hb hby own_d26_25) (hK none X91 (fun _ => rfl) (by rw [e91]; exact ⟨rfl, N91, K91, ⟨Ex91_a1, F91_coefficient_a1, F91_usedCount_a1, F91_taskCount_a1, Fld.zeroD F91_taskCostSum_a1, F91_cost_a1⟩⟩) (by decide) (by decide))
theorem own_d31_0 : decode prog_2_method_2_code 0 = .ok (.aload_n 0, 1) := by decide +kernel
theorem own_d31_1 : decode prog_2_method_2_code 1 = .ok (.getfield 33, 3) := by decide +kernel
theorem own_d31_4 : decode prog_2_method_2_code 4 = .ok (.aload_n 0, 1) := by decide +kernel
theorem own_d31_5 : decode prog_2_method_2_code 5 = .ok (.getfield 29, 3) := by decide +kernel
theorem own_d31_8 : decode prog_2_method_2_code 8 = .ok (.iadd, 1) := by decide +kernel
theorem own_d31_9 : decode prog_2_method_2_code 9 = .ok (.ireturn, 1) := by decide +kernel
theorem own_efwc (m : MethodId) (a1 : Addr) : entryFrame m #[(.ref a1)] 1 = mkF m 0 #[.val (.ref a1)] [] := by first | (simp [entryFrame, mkF, argsToLocals, Value.category]; done) | rfl
def own_Qwc (Z : State) (a1 : Addr) (dc : UInt64) (u : Int32) (cc : Int32) (ds : UInt64) (co : UInt64) (h0 : Heap) (n0 : Nat) (v : Option Value) (h : Heap) (L : List Loc) : Prop := v = some (.int (cc + u)) ∧ Fr n0 L ∧ h = h0
set_option maxRecDepth 65536 in
set_option maxHeartbeats 40000000 in
theorem own_rmwc (l : Launch) (Z : State) (aw : Array Value) (hw : ∀ d ∈ tables_1, d.before aw Z = true) (ws : List Jvm.Cond) (a1 : Addr) (dc : UInt64) (u : Int32) (cc : Int32) (ds : UInt64) (co : UInt64) (h0 : Heap) (n0 : Nat) (Z0 : n0 ≤ h0.size) (B0 : own_CS Z h0 a1 dc u cc ds co) :
    MetFree l (⟨"com/example/skyroster/skyroster/CostShare", "windowCount", "()I"⟩ : MethodName) (head1 (Jvm.Cond.code (⟨"com/example/skyroster/skyroster/CostShare", "windowCount", "()I"⟩ : MethodName) prog_2_method_2_code 1 (some .int) :: ws) ({ frames := 0, cells := 0, slots := 0, locals := 0 } : Room)) (fun a U => a = #[(.ref a1)] ∧ Z.Warmed39 U.vm ∧ U.heap = h0) (fun _ _ _ _ _ => True) (fun _ U o U' => ∃ v L, o = .returned v ∧ own_Qwc Z a1 dc u cc ds co h0 n0 v U'.heap L ∧ FrameEnd U o U' L ({ frames := 0, cells := 0, slots := 0, locals := 0 } : Room).cells ({ frames := 0, cells := 0, slots := 0, locals := 0 } : Room).slots) := by
  refine own_met (Q := own_Qwc Z a1 dc u cc ds co h0 n0) (plainFor_of_name own_pn26) ?_
  intro p e s m below meth c s₁ K hx hby hml hown hnm hret hZ X0 e0 hK
  have hown : s.vm.findClass "com/example/skyroster/skyroster/CostShare" = some m.cls := hown
  have N0 := Fr.nil n0
  refine own_by (fun t k => castTop (own_efwc m a1) k) ?_
  show own_Go p.tables e below K (s₁.setTop (mkF m 0 #[.val (.ref a1)] []))
  refine own_by (fun t k => XS.aloadN X0.here hx rfl (hb hby own_d31_0) rfl rfl k) ?_
  show own_Go p.tables e below K (s₁.setTop (mkF m 1 #[.val (.ref a1)] [(.ref a1)]))
  obtain ⟨T92, X92, e92, st92⟩ := getF X0 hx hZ hown (host := "") (Or.inl (hw _ (List.mem_of_getElem? (i := 232) rfl))) Via.refl e0 B0.2.2.2.1 (g := (mkF m 1 #[.val (.ref a1)] [(.ref a1)])) rfl rfl (hb hby own_d31_1)
  refine own_by st92 ?_
  show own_Go p.tables e below K (T92.setTop (mkF m 4 #[.val (.ref a1)] [(.int cc)]))
  refine own_by (fun t k => XS.aloadN X92.here hx rfl (hb hby own_d31_4) rfl rfl k) ?_
  show own_Go p.tables e below K (T92.setTop (mkF m 5 #[.val (.ref a1)] [(.ref a1), (.int cc)]))
  obtain ⟨T93, X93, e93, st93⟩ := getF X92 hx hZ hown (host := "") (Or.inl (hw _ (List.mem_of_getElem? (i := 225) rfl))) Via.refl e92 B0.2.2.1 (g := (mkF m 5 #[.val (.ref a1)] [(.ref a1), (.int cc)])) rfl rfl (hb hby own_d31_5)
  refine own_by st93 ?_
  show own_Go p.tables e below K (T93.setTop (mkF m 8 #[.val (.ref a1)] [(.int u), (.int cc)]))
  refine own_by (fun t k => XS.iadd X93.here hx rfl (hb hby own_d31_8) rfl k) ?_
  show own_Go p.tables e below K (T93.setTop (mkF m 9 #[.val (.ref a1)] [(.int (cc + u))]))
  exact own_retI X93 hx hret (hb hby own_d31_9) (hK (some (.int (cc + u))) X93 (fun h => by rw [hret] at h; cases h) (⟨rfl, N0, e93⟩) (by decide) (by decide))
theorem own_d30_0 : decode prog_2_method_4_code 0 = .ok (.aload_n 0, 1) := by decide +kernel
theorem own_d30_1 : decode prog_2_method_4_code 1 = .ok (.dup, 1) := by decide +kernel
theorem own_d30_2 : decode prog_2_method_4_code 2 = .ok (.getfield 33, 3) := by decide +kernel
theorem own_d30_5 : decode prog_2_method_4_code 5 = .ok (.iconst 1, 1) := by decide +kernel
theorem own_d30_6 : decode prog_2_method_4_code 6 = .ok (.iadd, 1) := by decide +kernel
theorem own_d30_7 : decode prog_2_method_4_code 7 = .ok (.putfield 33, 3) := by decide +kernel
theorem own_d30_10 : decode prog_2_method_4_code 10 = .ok (.aload_n 0, 1) := by decide +kernel
theorem own_d30_11 : decode prog_2_method_4_code 11 = .ok (.dup, 1) := by decide +kernel
theorem own_d30_12 : decode prog_2_method_4_code 12 = .ok (.getfield 39, 3) := by decide +kernel
theorem own_d30_15 : decode prog_2_method_4_code 15 = .ok (.dload_n 1, 1) := by decide +kernel
theorem own_d30_16 : decode prog_2_method_4_code 16 = .ok (.dadd, 1) := by decide +kernel
theorem own_d30_17 : decode prog_2_method_4_code 17 = .ok (.putfield 39, 3) := by decide +kernel
theorem own_d30_20 : decode prog_2_method_4_code 20 = .ok (.aload_n 0, 1) := by decide +kernel
theorem own_d30_21 : decode prog_2_method_4_code 21 = .ok (.aload_n 0, 1) := by decide +kernel
theorem own_d30_22 : decode prog_2_method_4_code 22 = .ok (.getfield 13, 3) := by decide +kernel
theorem own_d30_25 : decode prog_2_method_4_code 25 = .ok (.aload_n 0, 1) := by decide +kernel
theorem own_d30_26 : decode prog_2_method_4_code 26 = .ok (.invokevirtual 36, 3) := by decide +kernel
theorem own_d30_29 : decode prog_2_method_4_code 29 = .ok (.i2d, 1) := by decide +kernel
theorem own_d30_30 : decode prog_2_method_4_code 30 = .ok (.dmul, 1) := by decide +kernel
theorem own_d30_31 : decode prog_2_method_4_code 31 = .ok (.aload_n 0, 1) := by decide +kernel
theorem own_d30_32 : decode prog_2_method_4_code 32 = .ok (.getfield 39, 3) := by decide +kernel
theorem own_d30_35 : decode prog_2_method_4_code 35 = .ok (.dmul, 1) := by decide +kernel
theorem own_d30_36 : decode prog_2_method_4_code 36 = .ok (.putfield 42, 3) := by decide +kernel
theorem own_d30_39 : decode prog_2_method_4_code 39 = .ok (.return_, 1) := by decide +kernel
theorem own_efgiv (m : MethodId) (a1 : Addr) (d1 : UInt64) : entryFrame m #[(.ref a1), (.double d1)] 3 = mkF m 0 #[.val (.ref a1), .val (.double d1), .second] [] := by first | (simp [entryFrame, mkF, argsToLocals, Value.category]; done) | rfl
def own_Qgiv (Z : State) (a1 : Addr) (d1 : UInt64) (dc : UInt64) (u : Int32) (cc : Int32) (ds : UInt64) (co : UInt64) (kk : Nat) (h0 : Heap) (n0 : Nat) (v : Option Value) (h : Heap) (L : List Loc) : Prop := v = none ∧ Fr n0 L ∧ Keep h0 h [a1] ∧ own_CS Z h a1 dc u (cc + (1 : Int32)) (FP.dadd ds d1) (own_cst dc u (cc + (1 : Int32)) (FP.dadd ds d1)) ∧ Jvm.Free.Fl.NoNaN64 (own_cst dc u (cc + (1 : Int32)) (FP.dadd ds d1)) ∧ Jvm.Free.Fl.Mag64 (kk + 2) (FP.dadd ds d1)
set_option maxRecDepth 65536 in
set_option maxHeartbeats 40000000 in
theorem own_rmgiv (l : Launch) (Z : State) (aw : Array Value) (hw : ∀ d ∈ tables_1, d.before aw Z = true) (ws : List Jvm.Cond) (a1 : Addr) (d1 : UInt64) (dc : UInt64) (u : Int32) (cc : Int32) (ds : UInt64) (co : UInt64) (kk : Nat) (h0 : Heap) (n0 : Nat) (Z0 : n0 ≤ h0.size) (B0 : own_CS Z h0 a1 dc u cc ds co) (ga : n0 ≤ a1) (hdc : Jvm.Free.Fl.Mag64 1088 dc) (hd1 : Jvm.Free.Fl.Mag64 1088 d1) (hds : Jvm.Free.Fl.Mag64 kk ds) (hK1 : 1088 ≤ kk) (hK2 : kk ≤ 1200) :
    MetFree l (⟨"com/example/skyroster/skyroster/CostShare", "give", "(D)V"⟩ : MethodName) (head1 (Jvm.Cond.code (⟨"com/example/skyroster/skyroster/CostShare", "give", "(D)V"⟩ : MethodName) prog_2_method_4_code 3 none :: ws) ({ frames := 1, cells := 0, slots := 0, locals := 20 } : Room)) (fun a U => a = #[(.ref a1), (.double d1)] ∧ Z.Warmed39 U.vm ∧ U.heap = h0) (fun _ _ _ _ _ => True) (fun _ U o U' => ∃ v L, o = .returned v ∧ own_Qgiv Z a1 d1 dc u cc ds co kk h0 n0 v U'.heap L ∧ FrameEnd U o U' L ({ frames := 1, cells := 0, slots := 0, locals := 20 } : Room).cells ({ frames := 1, cells := 0, slots := 0, locals := 20 } : Room).slots) := by
  refine own_met (Q := own_Qgiv Z a1 d1 dc u cc ds co kk h0 n0) (plainFor_of_name own_pn26) ?_
  intro p e s m below meth c s₁ K hx hby hml hown hnm hret hZ X0 e0 hK
  have hown : s.vm.findClass "com/example/skyroster/skyroster/CostShare" = some m.cls := hown
  have N0 := Fr.nil n0
  refine own_by (fun t k => castTop (own_efgiv m a1 d1) k) ?_
  have hS := Jvm.Free.Fl.dadd_mag (hds.mono hK2) (hd1.mono (by decide : 1088 ≤ 1200)) (by decide)
  have hC := own_cN (u := u) (cc := (cc + (1 : Int32))) hdc hS
  show own_Go p.tables e below K (s₁.setTop (mkF m 0 #[.val (.ref a1), .val (.double d1), .second] []))
  refine own_by (fun t k => XS.aloadN X0.here hx rfl (hb hby own_d30_0) rfl rfl k) ?_
  show own_Go p.tables e below K (s₁.setTop (mkF m 1 #[.val (.ref a1), .val (.double d1), .second] [(.ref a1)]))
  refine own_by (fun t k => XS.dup X0.here hx rfl (hb hby own_d30_1) rfl rfl k) ?_
  show own_Go p.tables e below K (s₁.setTop (mkF m 2 #[.val (.ref a1), .val (.double d1), .second] [(.ref a1), (.ref a1)]))
  obtain ⟨T94, X94, e94, st94⟩ := getF X0 hx hZ hown (host := "") (Or.inl (hw _ (List.mem_of_getElem? (i := 232) rfl))) Via.refl e0 B0.2.2.2.1 (g := (mkF m 2 #[.val (.ref a1), .val (.double d1), .second] [(.ref a1), (.ref a1)])) rfl rfl (hb hby own_d30_2)
  refine own_by st94 ?_
  show own_Go p.tables e below K (T94.setTop (mkF m 5 #[.val (.ref a1), .val (.double d1), .second] [(.int cc), (.ref a1)]))
  refine own_by (fun t k => XS.iconst X94.here hx rfl (hb hby own_d30_5) k) ?_
  show own_Go p.tables e below K (T94.setTop (mkF m 6 #[.val (.ref a1), .val (.double d1), .second] [(.int (1 : Int32)), (.int cc), (.ref a1)]))
  refine own_by (fun t k => XS.iadd X94.here hx rfl (hb hby own_d30_6) rfl k) ?_
  show own_Go p.tables e below K (T94.setTop (mkF m 7 #[.val (.ref a1), .val (.double d1), .second] [(.int (cc + (1 : Int32))), (.ref a1)]))
  obtain ⟨T95, h95, X95, e95, W95, st95⟩ := putF X94 hx hZ hown (host := "") (Or.inl (hw _ (List.mem_of_getElem? (i := 232) rfl))) Via.refl e94 B0.2.2.2.1 B0.1 (Or.inl (hw _ (List.mem_of_getElem? (i := 233) rfl))) (hw _ (List.mem_of_getElem? (i := 198) rfl)) (ty := .int) (by decide) rfl rfl (g := (mkF m 7 #[.val (.ref a1), .val (.double d1), .second] [(.int (cc + (1 : Int32))), (.ref a1)])) rfl rfl (hb hby own_d30_7)
  refine own_by st95 ?_
  have F95_coefficient_a1 := B0.2.1.other W95 (Or.inr (slot_ne (Or.inr (hw _ (List.mem_of_getElem? (i := 210) rfl))) (Or.inl (hw _ (List.mem_of_getElem? (i := 233) rfl))) (by decide) (t := .double) (t' := .int) (by decide) (by decide)))
  have F95_usedCount_a1 := B0.2.2.1.other W95 (Or.inr (slot_ne (Or.inr (hw _ (List.mem_of_getElem? (i := 226) rfl))) (Or.inl (hw _ (List.mem_of_getElem? (i := 233) rfl))) (by decide) (t := .int) (t' := .int) (by decide) (by decide)))
  have F95_taskCount_a1 := B0.2.2.2.1.same W95
  have F95_taskCostSum_a1 := B0.2.2.2.2.1.other W95 (Or.inr (slot_ne (Or.inl (hw _ (List.mem_of_getElem? (i := 235) rfl))) (Or.inl (hw _ (List.mem_of_getElem? (i := 233) rfl))) (by decide) (t := .double) (t' := .int) (by decide) (by decide)))
  have F95_cost_a1 := B0.2.2.2.2.2.other W95 (Or.inr (slot_ne (Or.inl (hw _ (List.mem_of_getElem? (i := 242) rfl))) (Or.inl (hw _ (List.mem_of_getElem? (i := 233) rfl))) (by decide) (t := .double) (t' := .int) (by decide) (by decide)))
  have Ex95_a1 := B0.1.wr W95
  have K95 := (Keep.refl h0 [a1]).wr W95 (Or.inl (by simp))
  have Z95 := Nat.le_trans Z0 (Keep.of_wr W95).1
  have N95 := Fr.snoc X95 N0 ga
  show own_Go p.tables e below K (T95.setTop (mkF m 10 #[.val (.ref a1), .val (.double d1), .second] []))
  refine own_by (fun t k => XS.aloadN X95.here hx rfl (hb hby own_d30_10) rfl rfl k) ?_
  show own_Go p.tables e below K (T95.setTop (mkF m 11 #[.val (.ref a1), .val (.double d1), .second] [(.ref a1)]))
  refine own_by (fun t k => XS.dup X95.here hx rfl (hb hby own_d30_11) rfl rfl k) ?_
  show own_Go p.tables e below K (T95.setTop (mkF m 12 #[.val (.ref a1), .val (.double d1), .second] [(.ref a1), (.ref a1)]))
  obtain ⟨T96, X96, e96, st96⟩ := getF X95 hx hZ hown (host := "") (Or.inl (hw _ (List.mem_of_getElem? (i := 234) rfl))) Via.refl e95 F95_taskCostSum_a1 (g := (mkF m 12 #[.val (.ref a1), .val (.double d1), .second] [(.ref a1), (.ref a1)])) rfl rfl (hb hby own_d30_12)
  refine own_by st96 ?_
  show own_Go p.tables e below K (T96.setTop (mkF m 15 #[.val (.ref a1), .val (.double d1), .second] [(.double ds), (.ref a1)]))
  refine own_by (fun t k => XS.dloadN X96.here hx rfl (hb hby own_d30_15) rfl k) ?_
  show own_Go p.tables e below K (T96.setTop (mkF m 16 #[.val (.ref a1), .val (.double d1), .second] [(.double d1), (.double ds), (.ref a1)]))
  refine own_by (fun t k => XS.daddS X96.here hx rfl (hb hby own_d30_16) rfl (own_mm hS (by decide)) rfl k) ?_
  show own_Go p.tables e below K (T96.setTop (mkF m 17 #[.val (.ref a1), .val (.double d1), .second] [(.double (FP.dadd ds d1)), (.ref a1)]))
  obtain ⟨T97, h97, X97, e97, W97, st97⟩ := putF X96 hx hZ hown (host := "") (Or.inl (hw _ (List.mem_of_getElem? (i := 234) rfl))) Via.refl e96 F95_taskCostSum_a1 Ex95_a1 (Or.inl (hw _ (List.mem_of_getElem? (i := 235) rfl))) (hw _ (List.mem_of_getElem? (i := 198) rfl)) (ty := .double) (by decide) rfl rfl (g := (mkF m 17 #[.val (.ref a1), .val (.double d1), .second] [(.double (FP.dadd ds d1)), (.ref a1)])) rfl rfl (hb hby own_d30_17)
  refine own_by st97 ?_
  have F97_coefficient_a1 := F95_coefficient_a1.other W97 (Or.inr (slot_ne (Or.inr (hw _ (List.mem_of_getElem? (i := 210) rfl))) (Or.inl (hw _ (List.mem_of_getElem? (i := 235) rfl))) (by decide) (t := .double) (t' := .double) (by decide) (by decide)))
  have F97_usedCount_a1 := F95_usedCount_a1.other W97 (Or.inr (slot_ne (Or.inr (hw _ (List.mem_of_getElem? (i := 226) rfl))) (Or.inl (hw _ (List.mem_of_getElem? (i := 235) rfl))) (by decide) (t := .int) (t' := .double) (by decide) (by decide)))
  have F97_taskCount_a1 := F95_taskCount_a1.other W97 (Or.inr (slot_ne (Or.inl (hw _ (List.mem_of_getElem? (i := 233) rfl))) (Or.inl (hw _ (List.mem_of_getElem? (i := 235) rfl))) (by decide) (t := .int) (t' := .double) (by decide) (by decide)))
  have F97_taskCostSum_a1 := F95_taskCostSum_a1.same W97
  have F97_cost_a1 := F95_cost_a1.other W97 (Or.inr (slot_ne (Or.inl (hw _ (List.mem_of_getElem? (i := 242) rfl))) (Or.inl (hw _ (List.mem_of_getElem? (i := 235) rfl))) (by decide) (t := .double) (t' := .double) (by decide) (by decide)))
  have Ex97_a1 := Ex95_a1.wr W97
  have K97 := K95.wr W97 (Or.inl (by simp))
  have Z97 := Nat.le_trans Z95 (Keep.of_wr W97).1
  have N97 := Fr.snoc X97 N95 ga
  show own_Go p.tables e below K (T97.setTop (mkF m 20 #[.val (.ref a1), .val (.double d1), .second] []))
  refine own_by (fun t k => XS.aloadN X97.here hx rfl (hb hby own_d30_20) rfl rfl k) ?_
  show own_Go p.tables e below K (T97.setTop (mkF m 21 #[.val (.ref a1), .val (.double d1), .second] [(.ref a1)]))
  refine own_by (fun t k => XS.aloadN X97.here hx rfl (hb hby own_d30_21) rfl rfl k) ?_
  show own_Go p.tables e below K (T97.setTop (mkF m 22 #[.val (.ref a1), .val (.double d1), .second] [(.ref a1), (.ref a1)]))
  obtain ⟨T98, X98, e98, st98⟩ := getF X97 hx hZ hown (host := "") (Or.inl (hw _ (List.mem_of_getElem? (i := 209) rfl))) Via.refl e97 F97_coefficient_a1 (g := (mkF m 22 #[.val (.ref a1), .val (.double d1), .second] [(.ref a1), (.ref a1)])) rfl rfl (hb hby own_d30_22)
  refine own_by st98 ?_
  show own_Go p.tables e below K (T98.setTop (mkF m 25 #[.val (.ref a1), .val (.double d1), .second] [(.double dc), (.ref a1)]))
  refine own_by (fun t k => XS.aloadN X98.here hx rfl (hb hby own_d30_25) rfl rfl k) ?_
  show own_Go p.tables e below K (T98.setTop (mkF m 26 #[.val (.ref a1), .val (.double d1), .second] [(.ref a1), (.double dc), (.ref a1)]))
  obtain ⟨cq99, kq99, q99a, q99b, q99c⟩ := isOf hZ e98 Ex97_a1
  obtain ⟨_, _, ⟨T99, L99, k99, n99⟩, -, X99, ⟨Lc99, hQ99, l99, y99, z99⟩, st99⟩ := X98.virtualBack hx (y := (⟨"com/example/skyroster/skyroster/CostShare", "windowCount", "()I"⟩ : MethodName)) (z := (⟨"com/example/skyroster/skyroster/CostShare", "windowCount", "()I"⟩ : MethodName)) hown (mvT hZ (hw _ (List.mem_of_getElem? (i := 236) rfl))) (mvT hZ (hw _ (List.mem_of_getElem? (i := 237) rfl))) (notFace_of_selects (args := #[]) (mvT hZ (hw _ (List.mem_of_getElem? (i := 239) rfl)))) (mvT hZ (hw _ (List.mem_of_getElem? (i := 239) rfl))) (mvT hZ (hw _ (List.mem_of_getElem? (i := 238) rfl))) (by decide) (backOf (W := 3) (own_rmwc l Z aw hw [] a1 _ u (cc + (1 : Int32)) _ _ h97 n0 Z97 ⟨Ex97_a1, F97_coefficient_a1, F97_usedCount_a1, F97_taskCount_a1, F97_taskCostSum_a1, F97_cost_a1⟩) hZ (hw _ (List.mem_of_getElem? (i := 240) rfl)) (hw _ (List.mem_of_getElem? (i := 199) rfl)) (by decide) (by decide)) q99a q99c (g := (mkF m 26 #[.val (.ref a1), .val (.double d1), .second] [(.ref a1), (.double dc), (.ref a1)])) rfl (by rw [hml]; rfl) (Steps.refl _) (argsL := []) (rest := [(.double dc), (.ref a1)]) (lenOf own_pd14 rfl) rfl (by show 2 * 0 + _ ≤ _; exact Nat.le_of_eq rfl) (hb hby own_d30_26) (fun _ _ => ⟨rfl, e98, (by decide : 0 + 0 ≤ _), (by decide : 0 + 0 ≤ _)⟩)
  dsimp only [Pt.U, Pt.locs, Pt.cells, Pt.slots] at X99 l99 y99 z99 st99 hQ99
  subst l99 y99 z99
  obtain ⟨rfl, N99q, e99⟩ := hQ99
  have N99 := Fr.app N97 N99q
  refine own_by (fun t k => st99.trans k) ?_
  show own_Go p.tables e below K (T99.setTop (mkF m 29 #[.val (.ref a1), .val (.double d1), .second] [(.int ((cc + (1 : Int32)) + u)), (.double dc), (.ref a1)]))
  refine own_by (fun t k => XS.i2dS X99.here hx rfl (hb hby own_d30_29) rfl (i2d_w _) k) ?_
  show own_Go p.tables e below K (T99.setTop (mkF m 30 #[.val (.ref a1), .val (.double d1), .second] [(.double (FP.l2d ((cc + (1 : Int32)) + u).toInt64)), (.double dc), (.ref a1)]))
  refine own_by (fun t k => XS.dmulS X99.here hx rfl (hb hby own_d30_30) rfl hC.1 rfl k) ?_
  show own_Go p.tables e below K (T99.setTop (mkF m 31 #[.val (.ref a1), .val (.double d1), .second] [(.double (FP.dmul dc (FP.l2d ((cc + (1 : Int32)) + u).toInt64))), (.ref a1)]))
  refine own_by (fun t k => XS.aloadN X99.here hx rfl (hb hby own_d30_31) rfl rfl k) ?_
  show own_Go p.tables e below K (T99.setTop (mkF m 32 #[.val (.ref a1), .val (.double d1), .second] [(.ref a1), (.double (FP.dmul dc (FP.l2d ((cc + (1 : Int32)) + u).toInt64))), (.ref a1)]))
  obtain ⟨T100, X100, e100, st100⟩ := getF X99 hx hZ hown (host := "") (Or.inl (hw _ (List.mem_of_getElem? (i := 234) rfl))) Via.refl e99 F97_taskCostSum_a1 (g := (mkF m 32 #[.val (.ref a1), .val (.double d1), .second] [(.ref a1), (.double (FP.dmul dc (FP.l2d ((cc + (1 : Int32)) + u).toInt64))), (.ref a1)])) rfl rfl (hb hby own_d30_32)
  refine own_by st100 ?_
  show own_Go p.tables e below K (T100.setTop (mkF m 35 #[.val (.ref a1), .val (.double d1), .second] [(.double (FP.dadd ds d1)), (.double (FP.dmul dc (FP.l2d ((cc + (1 : Int32)) + u).toInt64))), (.ref a1)]))
  refine own_by (fun t k => XS.dmulS X100.here hx rfl (hb hby own_d30_35) rfl hC.2 rfl k) ?_
  show own_Go p.tables e below K (T100.setTop (mkF m 36 #[.val (.ref a1), .val (.double d1), .second] [(.double (own_cst dc u (cc + (1 : Int32)) (FP.dadd ds d1))), (.ref a1)]))
  obtain ⟨T101, h101, X101, e101, W101, st101⟩ := putF X100 hx hZ hown (host := "") (Or.inl (hw _ (List.mem_of_getElem? (i := 241) rfl))) Via.refl e100 F97_cost_a1 Ex97_a1 (Or.inl (hw _ (List.mem_of_getElem? (i := 242) rfl))) (hw _ (List.mem_of_getElem? (i := 198) rfl)) (ty := .double) (by decide) rfl rfl (g := (mkF m 36 #[.val (.ref a1), .val (.double d1), .second] [(.double (own_cst dc u (cc + (1 : Int32)) (FP.dadd ds d1))), (.ref a1)])) rfl rfl (hb hby own_d30_36)
  refine own_by st101 ?_
  have F101_coefficient_a1 := F97_coefficient_a1.other W101 (Or.inr (slot_ne (Or.inr (hw _ (List.mem_of_getElem? (i := 210) rfl))) (Or.inl (hw _ (List.mem_of_getElem? (i := 242) rfl))) (by decide) (t := .double) (t' := .double) (by decide) (by decide)))
  have F101_usedCount_a1 := F97_usedCount_a1.other W101 (Or.inr (slot_ne (Or.inr (hw _ (List.mem_of_getElem? (i := 226) rfl))) (Or.inl (hw _ (List.mem_of_getElem? (i := 242) rfl))) (by decide) (t := .int) (t' := .double) (by decide) (by decide)))
  have F101_taskCount_a1 := F97_taskCount_a1.other W101 (Or.inr (slot_ne (Or.inl (hw _ (List.mem_of_getElem? (i := 233) rfl))) (Or.inl (hw _ (List.mem_of_getElem? (i := 242) rfl))) (by decide) (t := .int) (t' := .double) (by decide) (by decide)))
  have F101_taskCostSum_a1 := F97_taskCostSum_a1.other W101 (Or.inr (slot_ne (Or.inl (hw _ (List.mem_of_getElem? (i := 235) rfl))) (Or.inl (hw _ (List.mem_of_getElem? (i := 242) rfl))) (by decide) (t := .double) (t' := .double) (by decide) (by decide)))
  have F101_cost_a1 := F97_cost_a1.same W101
  have Ex101_a1 := Ex97_a1.wr W101
  have K101 := K97.wr W101 (Or.inl (by simp))
  have Z101 := Nat.le_trans Z97 (Keep.of_wr W101).1
  have N101 := Fr.snoc X101 N99 ga
  show own_Go p.tables e below K (T101.setTop (mkF m 39 #[.val (.ref a1), .val (.double d1), .second] []))
  exact own_retV X101 hx hret (hb hby own_d30_39) (hK none X101 (fun _ => rfl) (by rw [e101]; exact ⟨rfl, N101, K101, ⟨Ex101_a1, F101_coefficient_a1, F101_usedCount_a1, F101_taskCount_a1, F101_taskCostSum_a1, F101_cost_a1⟩, hC.2, Jvm.Free.Fl.dadd_mag hds (hd1.mono hK1) (Nat.le_trans hK2 (by decide))⟩) (by decide) (by decide))
theorem own_d32_0 : decode prog_2_method_3_code 0 = .ok (.aload_n 0, 1) := by decide +kernel
theorem own_d32_1 : decode prog_2_method_3_code 1 = .ok (.getfield 13, 3) := by decide +kernel
theorem own_d32_4 : decode prog_2_method_3_code 4 = .ok (.aload_n 0, 1) := by decide +kernel
theorem own_d32_5 : decode prog_2_method_3_code 5 = .ok (.invokevirtual 36, 3) := by decide +kernel
theorem own_d32_8 : decode prog_2_method_3_code 8 = .ok (.iconst 1, 1) := by decide +kernel
theorem own_d32_9 : decode prog_2_method_3_code 9 = .ok (.iadd, 1) := by decide +kernel
theorem own_d32_10 : decode prog_2_method_3_code 10 = .ok (.i2d, 1) := by decide +kernel
theorem own_d32_11 : decode prog_2_method_3_code 11 = .ok (.dload_n 1, 1) := by decide +kernel
theorem own_d32_12 : decode prog_2_method_3_code 12 = .ok (.dmul, 1) := by decide +kernel
theorem own_d32_13 : decode prog_2_method_3_code 13 = .ok (.aload_n 0, 1) := by decide +kernel
theorem own_d32_14 : decode prog_2_method_3_code 14 = .ok (.getfield 39, 3) := by decide +kernel
theorem own_d32_17 : decode prog_2_method_3_code 17 = .ok (.dadd, 1) := by decide +kernel
theorem own_d32_18 : decode prog_2_method_3_code 18 = .ok (.dmul, 1) := by decide +kernel
theorem own_d32_19 : decode prog_2_method_3_code 19 = .ok (.dreturn, 1) := by decide +kernel
theorem own_efinc (m : MethodId) (a1 : Addr) (d1 : UInt64) : entryFrame m #[(.ref a1), (.double d1)] 3 = mkF m 0 #[.val (.ref a1), .val (.double d1), .second] [] := by first | (simp [entryFrame, mkF, argsToLocals, Value.category]; done) | rfl
def own_Qinc (Z : State) (a1 : Addr) (d1 : UInt64) (dc : UInt64) (u : Int32) (cc : Int32) (ds : UInt64) (co : UInt64) (h0 : Heap) (n0 : Nat) (v : Option Value) (h : Heap) (L : List Loc) : Prop := v = some (.double (own_inc dc u cc ds d1)) ∧ Fr n0 L ∧ h = h0
set_option maxRecDepth 65536 in
set_option maxHeartbeats 40000000 in
theorem own_rminc (l : Launch) (Z : State) (aw : Array Value) (hw : ∀ d ∈ tables_1, d.before aw Z = true) (ws : List Jvm.Cond) (a1 : Addr) (d1 : UInt64) (dc : UInt64) (u : Int32) (cc : Int32) (ds : UInt64) (co : UInt64) (h0 : Heap) (n0 : Nat) (Z0 : n0 ≤ h0.size) (B0 : own_CS Z h0 a1 dc u cc ds co) (hdc : Jvm.Free.Fl.Mag64 1088 dc) (hds : Jvm.Free.Fl.Mag64 1200 ds) (hd1 : Jvm.Free.Fl.Mag64 1088 d1) :
    MetFree l (⟨"com/example/skyroster/skyroster/CostShare", "increase", "(D)D"⟩ : MethodName) (head1 (Jvm.Cond.code (⟨"com/example/skyroster/skyroster/CostShare", "increase", "(D)D"⟩ : MethodName) prog_2_method_3_code 3 (some .double) :: ws) ({ frames := 1, cells := 0, slots := 0, locals := 20 } : Room)) (fun a U => a = #[(.ref a1), (.double d1)] ∧ Z.Warmed39 U.vm ∧ U.heap = h0) (fun _ _ _ _ _ => True) (fun _ U o U' => ∃ v L, o = .returned v ∧ own_Qinc Z a1 d1 dc u cc ds co h0 n0 v U'.heap L ∧ FrameEnd U o U' L ({ frames := 1, cells := 0, slots := 0, locals := 20 } : Room).cells ({ frames := 1, cells := 0, slots := 0, locals := 20 } : Room).slots) := by
  refine own_met (Q := own_Qinc Z a1 d1 dc u cc ds co h0 n0) (plainFor_of_name own_pn26) ?_
  intro p e s m below meth c s₁ K hx hby hml hown hnm hret hZ X0 e0 hK
  have hown : s.vm.findClass "com/example/skyroster/skyroster/CostShare" = some m.cls := hown
  have N0 := Fr.nil n0
  refine own_by (fun t k => castTop (own_efinc m a1 d1) k) ?_
  have hI := own_iN (u := u) (cc := cc) hdc hds hd1
  show own_Go p.tables e below K (s₁.setTop (mkF m 0 #[.val (.ref a1), .val (.double d1), .second] []))
  refine own_by (fun t k => XS.aloadN X0.here hx rfl (hb hby own_d32_0) rfl rfl k) ?_
  show own_Go p.tables e below K (s₁.setTop (mkF m 1 #[.val (.ref a1), .val (.double d1), .second] [(.ref a1)]))
  obtain ⟨T102, X102, e102, st102⟩ := getF X0 hx hZ hown (host := "") (Or.inl (hw _ (List.mem_of_getElem? (i := 209) rfl))) Via.refl e0 B0.2.1 (g := (mkF m 1 #[.val (.ref a1), .val (.double d1), .second] [(.ref a1)])) rfl rfl (hb hby own_d32_1)
  refine own_by st102 ?_
  show own_Go p.tables e below K (T102.setTop (mkF m 4 #[.val (.ref a1), .val (.double d1), .second] [(.double dc)]))
  refine own_by (fun t k => XS.aloadN X102.here hx rfl (hb hby own_d32_4) rfl rfl k) ?_
  show own_Go p.tables e below K (T102.setTop (mkF m 5 #[.val (.ref a1), .val (.double d1), .second] [(.ref a1), (.double dc)]))
  obtain ⟨cq103, kq103, q103a, q103b, q103c⟩ := isOf hZ e102 B0.1
  obtain ⟨_, _, ⟨T103, L103, k103, n103⟩, -, X103, ⟨Lc103, hQ103, l103, y103, z103⟩, st103⟩ := X102.virtualBack hx (y := (⟨"com/example/skyroster/skyroster/CostShare", "windowCount", "()I"⟩ : MethodName)) (z := (⟨"com/example/skyroster/skyroster/CostShare", "windowCount", "()I"⟩ : MethodName)) hown (mvT hZ (hw _ (List.mem_of_getElem? (i := 236) rfl))) (mvT hZ (hw _ (List.mem_of_getElem? (i := 237) rfl))) (notFace_of_selects (args := #[]) (mvT hZ (hw _ (List.mem_of_getElem? (i := 239) rfl)))) (mvT hZ (hw _ (List.mem_of_getElem? (i := 239) rfl))) (mvT hZ (hw _ (List.mem_of_getElem? (i := 238) rfl))) (by decide) (backOf (W := 2) (own_rmwc l Z aw hw [] a1 _ u cc _ _ h0 n0 Z0 ⟨B0.1, B0.2.1, B0.2.2.1, B0.2.2.2.1, B0.2.2.2.2.1, B0.2.2.2.2.2⟩) hZ (hw _ (List.mem_of_getElem? (i := 240) rfl)) (hw _ (List.mem_of_getElem? (i := 199) rfl)) (by decide) (by decide)) q103a q103c (g := (mkF m 5 #[.val (.ref a1), .val (.double d1), .second] [(.ref a1), (.double dc)])) rfl (by rw [hml]; rfl) (Steps.refl _) (argsL := []) (rest := [(.double dc)]) (lenOf own_pd14 rfl) rfl (by show 2 * 0 + _ ≤ _; exact Nat.le_of_eq rfl) (hb hby own_d32_5) (fun _ _ => ⟨rfl, e102, (by decide : 0 + 0 ≤ _), (by decide : 0 + 0 ≤ _)⟩)
  dsimp only [Pt.U, Pt.locs, Pt.cells, Pt.slots] at X103 l103 y103 z103 st103 hQ103
  subst l103 y103 z103
  obtain ⟨rfl, N103q, e103⟩ := hQ103
  have N103 := Fr.app N0 N103q
  refine own_by (fun t k => st103.trans k) ?_
  show own_Go p.tables e below K (T103.setTop (mkF m 8 #[.val (.ref a1), .val (.double d1), .second] [(.int (cc + u)), (.double dc)]))
  refine own_by (fun t k => XS.iconst X103.here hx rfl (hb hby own_d32_8) k) ?_
  show own_Go p.tables e below K (T103.setTop (mkF m 9 #[.val (.ref a1), .val (.double d1), .second] [(.int (1 : Int32)), (.int (cc + u)), (.double dc)]))
  refine own_by (fun t k => XS.iadd X103.here hx rfl (hb hby own_d32_9) rfl k) ?_
  show own_Go p.tables e below K (T103.setTop (mkF m 10 #[.val (.ref a1), .val (.double d1), .second] [(.int ((cc + u) + (1 : Int32))), (.double dc)]))
  refine own_by (fun t k => XS.i2dS X103.here hx rfl (hb hby own_d32_10) rfl (i2d_w _) k) ?_
  show own_Go p.tables e below K (T103.setTop (mkF m 11 #[.val (.ref a1), .val (.double d1), .second] [(.double (FP.l2d ((cc + u) + (1 : Int32)).toInt64)), (.double dc)]))
  refine own_by (fun t k => XS.dloadN X103.here hx rfl (hb hby own_d32_11) rfl k) ?_
  show own_Go p.tables e below K (T103.setTop (mkF m 12 #[.val (.ref a1), .val (.double d1), .second] [(.double d1), (.double (FP.l2d ((cc + u) + (1 : Int32)).toInt64)), (.double dc)]))
  refine own_by (fun t k => XS.dmulS X103.here hx rfl (hb hby own_d32_12) rfl hI.1 rfl k) ?_
  show own_Go p.tables e below K (T103.setTop (mkF m 13 #[.val (.ref a1), .val (.double d1), .second] [(.double (FP.dmul (FP.l2d (cc + u + (1 : Int32)).toInt64) d1)), (.double dc)]))
  refine own_by (fun t k => XS.aloadN X103.here hx rfl (hb hby own_d32_13) rfl rfl k) ?_
  show own_Go p.tables e below K (T103.setTop (mkF m 14 #[.val (.ref a1), .val (.double d1), .second] [(.ref a1), (.double (FP.dmul (FP.l2d (cc + u + (1 : Int32)).toInt64) d1)), (.double dc)]))
  obtain ⟨T104, X104, e104, st104⟩ := getF X103 hx hZ hown (host := "") (Or.inl (hw _ (List.mem_of_getElem? (i := 234) rfl))) Via.refl e103 B0.2.2.2.2.1 (g := (mkF m 14 #[.val (.ref a1), .val (.double d1), .second] [(.ref a1), (.double (FP.dmul (FP.l2d (cc + u + (1 : Int32)).toInt64) d1)), (.double dc)])) rfl rfl (hb hby own_d32_14)
  refine own_by st104 ?_
  show own_Go p.tables e below K (T104.setTop (mkF m 17 #[.val (.ref a1), .val (.double d1), .second] [(.double ds), (.double (FP.dmul (FP.l2d (cc + u + (1 : Int32)).toInt64) d1)), (.double dc)]))
  refine own_by (fun t k => XS.daddS X104.here hx rfl (hb hby own_d32_17) rfl hI.2.1 rfl k) ?_
  show own_Go p.tables e below K (T104.setTop (mkF m 18 #[.val (.ref a1), .val (.double d1), .second] [(.double (FP.dadd (FP.dmul (FP.l2d (cc + u + (1 : Int32)).toInt64) d1) ds)), (.double dc)]))
  refine own_by (fun t k => XS.dmulS X104.here hx rfl (hb hby own_d32_18) rfl hI.2.2 rfl k) ?_
  show own_Go p.tables e below K (T104.setTop (mkF m 19 #[.val (.ref a1), .val (.double d1), .second] [(.double (own_inc dc u cc ds d1))]))
  exact own_retD X104 hx hret (hb hby own_d32_19) (hK (some (.double (own_inc dc u cc ds d1))) X104 (fun h => by rw [hret] at h; cases h) ⟨rfl, N103, e104⟩ (by decide) (by decide))
theorem own_d33_0 : decode prog_2_method_5_code 0 = .ok (.aload_n 0, 1) := by decide +kernel
theorem own_d33_1 : decode prog_2_method_5_code 1 = .ok (.dup, 1) := by decide +kernel
theorem own_d33_2 : decode prog_2_method_5_code 2 = .ok (.getfield 33, 3) := by decide +kernel
theorem own_d33_5 : decode prog_2_method_5_code 5 = .ok (.iconst 1, 1) := by decide +kernel
theorem own_d33_6 : decode prog_2_method_5_code 6 = .ok (.isub, 1) := by decide +kernel
theorem own_d33_7 : decode prog_2_method_5_code 7 = .ok (.putfield 33, 3) := by decide +kernel
theorem own_d33_10 : decode prog_2_method_5_code 10 = .ok (.aload_n 0, 1) := by decide +kernel
theorem own_d33_11 : decode prog_2_method_5_code 11 = .ok (.dload_n 1, 1) := by decide +kernel
theorem own_d33_12 : decode prog_2_method_5_code 12 = .ok (.putfield 39, 3) := by decide +kernel
theorem own_d33_15 : decode prog_2_method_5_code 15 = .ok (.aload_n 0, 1) := by decide +kernel
theorem own_d33_16 : decode prog_2_method_5_code 16 = .ok (.dload_n 3, 1) := by decide +kernel
theorem own_d33_17 : decode prog_2_method_5_code 17 = .ok (.putfield 42, 3) := by decide +kernel
theorem own_d33_20 : decode prog_2_method_5_code 20 = .ok (.return_, 1) := by decide +kernel
theorem own_eftkb (m : MethodId) (a1 : Addr) (d1 : UInt64) (d2 : UInt64) : entryFrame m #[(.ref a1), (.double d1), (.double d2)] 5 = mkF m 0 #[.val (.ref a1), .val (.double d1), .second, .val (.double d2), .second] [] := by first | (simp [entryFrame, mkF, argsToLocals, Value.category]; done) | rfl
def own_Qtkb (Z : State) (a1 : Addr) (d1 : UInt64) (d2 : UInt64) (dc : UInt64) (u : Int32) (cc : Int32) (ds : UInt64) (co : UInt64) (h0 : Heap) (n0 : Nat) (v : Option Value) (h : Heap) (L : List Loc) : Prop := v = none ∧ Fr n0 L ∧ Keep h0 h [a1] ∧ own_CS Z h a1 dc u (cc - (1 : Int32)) d1 d2
set_option maxRecDepth 65536 in
set_option maxHeartbeats 40000000 in
theorem own_rmtkb (l : Launch) (Z : State) (aw : Array Value) (hw : ∀ d ∈ tables_1, d.before aw Z = true) (ws : List Jvm.Cond) (a1 : Addr) (d1 : UInt64) (d2 : UInt64) (dc : UInt64) (u : Int32) (cc : Int32) (ds : UInt64) (co : UInt64) (h0 : Heap) (n0 : Nat) (Z0 : n0 ≤ h0.size) (B0 : own_CS Z h0 a1 dc u cc ds co) (ga : n0 ≤ a1) :
    MetFree l (⟨"com/example/skyroster/skyroster/CostShare", "takeBack", "(DD)V"⟩ : MethodName) (head1 (Jvm.Cond.code (⟨"com/example/skyroster/skyroster/CostShare", "takeBack", "(DD)V"⟩ : MethodName) prog_2_method_5_code 5 none :: ws) ({ frames := 0, cells := 0, slots := 0, locals := 0 } : Room)) (fun a U => a = #[(.ref a1), (.double d1), (.double d2)] ∧ Z.Warmed39 U.vm ∧ U.heap = h0) (fun _ _ _ _ _ => True) (fun _ U o U' => ∃ v L, o = .returned v ∧ own_Qtkb Z a1 d1 d2 dc u cc ds co h0 n0 v U'.heap L ∧ FrameEnd U o U' L ({ frames := 0, cells := 0, slots := 0, locals := 0 } : Room).cells ({ frames := 0, cells := 0, slots := 0, locals := 0 } : Room).slots) := by
  refine own_met (Q := own_Qtkb Z a1 d1 d2 dc u cc ds co h0 n0) (plainFor_of_name own_pn26) ?_
  intro p e s m below meth c s₁ K hx hby hml hown hnm hret hZ X0 e0 hK
  have hown : s.vm.findClass "com/example/skyroster/skyroster/CostShare" = some m.cls := hown
  have N0 := Fr.nil n0
  refine own_by (fun t k => castTop (own_eftkb m a1 d1 d2) k) ?_
  show own_Go p.tables e below K (s₁.setTop (mkF m 0 #[.val (.ref a1), .val (.double d1), .second, .val (.double d2), .second] []))
  refine own_by (fun t k => XS.aloadN X0.here hx rfl (hb hby own_d33_0) rfl rfl k) ?_
  show own_Go p.tables e below K (s₁.setTop (mkF m 1 #[.val (.ref a1), .val (.double d1), .second, .val (.double d2), .second] [(.ref a1)]))
  refine own_by (fun t k => XS.dup X0.here hx rfl (hb hby own_d33_1) rfl rfl k) ?_
  show own_Go p.tables e below K (s₁.setTop (mkF m 2 #[.val (.ref a1), .val (.double d1), .second, .val (.double d2), .second] [(.ref a1), (.ref a1)]))
  obtain ⟨T105, X105, e105, st105⟩ := getF X0 hx hZ hown (host := "") (Or.inl (hw _ (List.mem_of_getElem? (i := 232) rfl))) Via.refl e0 B0.2.2.2.1 (g := (mkF m 2 #[.val (.ref a1), .val (.double d1), .second, .val (.double d2), .second] [(.ref a1), (.ref a1)])) rfl rfl (hb hby own_d33_2)
  refine own_by st105 ?_
  show own_Go p.tables e below K (T105.setTop (mkF m 5 #[.val (.ref a1), .val (.double d1), .second, .val (.double d2), .second] [(.int cc), (.ref a1)]))
  refine own_by (fun t k => XS.iconst X105.here hx rfl (hb hby own_d33_5) k) ?_
  show own_Go p.tables e below K (T105.setTop (mkF m 6 #[.val (.ref a1), .val (.double d1), .second, .val (.double d2), .second] [(.int (1 : Int32)), (.int cc), (.ref a1)]))
  refine own_by (fun t k => XS.isub X105.here hx rfl (hb hby own_d33_6) rfl k) ?_
  show own_Go p.tables e below K (T105.setTop (mkF m 7 #[.val (.ref a1), .val (.double d1), .second, .val (.double d2), .second] [(.int (cc - (1 : Int32))), (.ref a1)]))
  obtain ⟨T106, h106, X106, e106, W106, st106⟩ := putF X105 hx hZ hown (host := "") (Or.inl (hw _ (List.mem_of_getElem? (i := 232) rfl))) Via.refl e105 B0.2.2.2.1 B0.1 (Or.inl (hw _ (List.mem_of_getElem? (i := 233) rfl))) (hw _ (List.mem_of_getElem? (i := 198) rfl)) (ty := .int) (by decide) rfl rfl (g := (mkF m 7 #[.val (.ref a1), .val (.double d1), .second, .val (.double d2), .second] [(.int (cc - (1 : Int32))), (.ref a1)])) rfl rfl (hb hby own_d33_7)
  refine own_by st106 ?_
  have F106_coefficient_a1 := B0.2.1.other W106 (Or.inr (slot_ne (Or.inr (hw _ (List.mem_of_getElem? (i := 210) rfl))) (Or.inl (hw _ (List.mem_of_getElem? (i := 233) rfl))) (by decide) (t := .double) (t' := .int) (by decide) (by decide)))
  have F106_usedCount_a1 := B0.2.2.1.other W106 (Or.inr (slot_ne (Or.inr (hw _ (List.mem_of_getElem? (i := 226) rfl))) (Or.inl (hw _ (List.mem_of_getElem? (i := 233) rfl))) (by decide) (t := .int) (t' := .int) (by decide) (by decide)))
  have F106_taskCount_a1 := B0.2.2.2.1.same W106
  have F106_taskCostSum_a1 := B0.2.2.2.2.1.other W106 (Or.inr (slot_ne (Or.inl (hw _ (List.mem_of_getElem? (i := 235) rfl))) (Or.inl (hw _ (List.mem_of_getElem? (i := 233) rfl))) (by decide) (t := .double) (t' := .int) (by decide) (by decide)))
  have F106_cost_a1 := B0.2.2.2.2.2.other W106 (Or.inr (slot_ne (Or.inl (hw _ (List.mem_of_getElem? (i := 242) rfl))) (Or.inl (hw _ (List.mem_of_getElem? (i := 233) rfl))) (by decide) (t := .double) (t' := .int) (by decide) (by decide)))
  have Ex106_a1 := B0.1.wr W106
  have K106 := (Keep.refl h0 [a1]).wr W106 (Or.inl (by simp))
  have Z106 := Nat.le_trans Z0 (Keep.of_wr W106).1
  have N106 := Fr.snoc X106 N0 ga
  show own_Go p.tables e below K (T106.setTop (mkF m 10 #[.val (.ref a1), .val (.double d1), .second, .val (.double d2), .second] []))
  refine own_by (fun t k => XS.aloadN X106.here hx rfl (hb hby own_d33_10) rfl rfl k) ?_
  show own_Go p.tables e below K (T106.setTop (mkF m 11 #[.val (.ref a1), .val (.double d1), .second, .val (.double d2), .second] [(.ref a1)]))
  refine own_by (fun t k => XS.dloadN X106.here hx rfl (hb hby own_d33_11) rfl k) ?_
  show own_Go p.tables e below K (T106.setTop (mkF m 12 #[.val (.ref a1), .val (.double d1), .second, .val (.double d2), .second] [(.double d1), (.ref a1)]))
  obtain ⟨T107, h107, X107, e107, W107, st107⟩ := putF X106 hx hZ hown (host := "") (Or.inl (hw _ (List.mem_of_getElem? (i := 234) rfl))) Via.refl e106 F106_taskCostSum_a1 Ex106_a1 (Or.inl (hw _ (List.mem_of_getElem? (i := 235) rfl))) (hw _ (List.mem_of_getElem? (i := 198) rfl)) (ty := .double) (by decide) rfl rfl (g := (mkF m 12 #[.val (.ref a1), .val (.double d1), .second, .val (.double d2), .second] [(.double d1), (.ref a1)])) rfl rfl (hb hby own_d33_12)
  refine own_by st107 ?_
  have F107_coefficient_a1 := F106_coefficient_a1.other W107 (Or.inr (slot_ne (Or.inr (hw _ (List.mem_of_getElem? (i := 210) rfl))) (Or.inl (hw _ (List.mem_of_getElem? (i := 235) rfl))) (by decide) (t := .double) (t' := .double) (by decide) (by decide)))
  have F107_usedCount_a1 := F106_usedCount_a1.other W107 (Or.inr (slot_ne (Or.inr (hw _ (List.mem_of_getElem? (i := 226) rfl))) (Or.inl (hw _ (List.mem_of_getElem? (i := 235) rfl))) (by decide) (t := .int) (t' := .double) (by decide) (by decide)))
  have F107_taskCount_a1 := F106_taskCount_a1.other W107 (Or.inr (slot_ne (Or.inl (hw _ (List.mem_of_getElem? (i := 233) rfl))) (Or.inl (hw _ (List.mem_of_getElem? (i := 235) rfl))) (by decide) (t := .int) (t' := .double) (by decide) (by decide)))
  have F107_taskCostSum_a1 := F106_taskCostSum_a1.same W107
  have F107_cost_a1 := F106_cost_a1.other W107 (Or.inr (slot_ne (Or.inl (hw _ (List.mem_of_getElem? (i := 242) rfl))) (Or.inl (hw _ (List.mem_of_getElem? (i := 235) rfl))) (by decide) (t := .double) (t' := .double) (by decide) (by decide)))
  have Ex107_a1 := Ex106_a1.wr W107
  have K107 := K106.wr W107 (Or.inl (by simp))
  have Z107 := Nat.le_trans Z106 (Keep.of_wr W107).1
  have N107 := Fr.snoc X107 N106 ga
  show own_Go p.tables e below K (T107.setTop (mkF m 15 #[.val (.ref a1), .val (.double d1), .second, .val (.double d2), .second] []))
  refine own_by (fun t k => XS.aloadN X107.here hx rfl (hb hby own_d33_15) rfl rfl k) ?_
  show own_Go p.tables e below K (T107.setTop (mkF m 16 #[.val (.ref a1), .val (.double d1), .second, .val (.double d2), .second] [(.ref a1)]))
  refine own_by (fun t k => XS.dloadN X107.here hx rfl (hb hby own_d33_16) rfl k) ?_
  show own_Go p.tables e below K (T107.setTop (mkF m 17 #[.val (.ref a1), .val (.double d1), .second, .val (.double d2), .second] [(.double d2), (.ref a1)]))
  obtain ⟨T108, h108, X108, e108, W108, st108⟩ := putF X107 hx hZ hown (host := "") (Or.inl (hw _ (List.mem_of_getElem? (i := 241) rfl))) Via.refl e107 F107_cost_a1 Ex107_a1 (Or.inl (hw _ (List.mem_of_getElem? (i := 242) rfl))) (hw _ (List.mem_of_getElem? (i := 198) rfl)) (ty := .double) (by decide) rfl rfl (g := (mkF m 17 #[.val (.ref a1), .val (.double d1), .second, .val (.double d2), .second] [(.double d2), (.ref a1)])) rfl rfl (hb hby own_d33_17)
  refine own_by st108 ?_
  have F108_coefficient_a1 := F107_coefficient_a1.other W108 (Or.inr (slot_ne (Or.inr (hw _ (List.mem_of_getElem? (i := 210) rfl))) (Or.inl (hw _ (List.mem_of_getElem? (i := 242) rfl))) (by decide) (t := .double) (t' := .double) (by decide) (by decide)))
  have F108_usedCount_a1 := F107_usedCount_a1.other W108 (Or.inr (slot_ne (Or.inr (hw _ (List.mem_of_getElem? (i := 226) rfl))) (Or.inl (hw _ (List.mem_of_getElem? (i := 242) rfl))) (by decide) (t := .int) (t' := .double) (by decide) (by decide)))
  have F108_taskCount_a1 := F107_taskCount_a1.other W108 (Or.inr (slot_ne (Or.inl (hw _ (List.mem_of_getElem? (i := 233) rfl))) (Or.inl (hw _ (List.mem_of_getElem? (i := 242) rfl))) (by decide) (t := .int) (t' := .double) (by decide) (by decide)))
  have F108_taskCostSum_a1 := F107_taskCostSum_a1.other W108 (Or.inr (slot_ne (Or.inl (hw _ (List.mem_of_getElem? (i := 235) rfl))) (Or.inl (hw _ (List.mem_of_getElem? (i := 242) rfl))) (by decide) (t := .double) (t' := .double) (by decide) (by decide)))
  have F108_cost_a1 := F107_cost_a1.same W108
  have Ex108_a1 := Ex107_a1.wr W108
  have K108 := K107.wr W108 (Or.inl (by simp))
  have Z108 := Nat.le_trans Z107 (Keep.of_wr W108).1
  have N108 := Fr.snoc X108 N107 ga
  show own_Go p.tables e below K (T108.setTop (mkF m 20 #[.val (.ref a1), .val (.double d1), .second, .val (.double d2), .second] []))
  exact own_retV X108 hx hret (hb hby own_d33_20) (hK none X108 (fun _ => rfl) (by rw [e108]; exact ⟨rfl, N108, K108, ⟨Ex108_a1, F108_coefficient_a1, F108_usedCount_a1, F108_taskCount_a1, F108_taskCostSum_a1, F108_cost_a1⟩⟩) (by decide) (by decide))
theorem own_pd15 : parseMethodDescriptor "(Ljava/lang/String;Ljava/lang/String;Ljava/util/List;DJJJLjava/util/List;)V" = some ⟨[(.object "java/lang/String"), (.object "java/lang/String"), (.object "java/util/List"), .double, .long, .long, .long, (.object "java/util/List")], none⟩ := by decide +kernel
theorem own_pd16 : parseMethodDescriptor "(Lcom/example/skyroster/skyroster/Satellite;)V" = some ⟨[(.object "com/example/skyroster/skyroster/Satellite")], none⟩ := by decide +kernel
theorem own_pd17 : parseMethodDescriptor "(D)D" = some ⟨[.double], some .double⟩ := by decide +kernel
theorem own_pd18 : parseMethodDescriptor "(D)V" = some ⟨[.double], none⟩ := by decide +kernel
theorem own_pd19 : parseMethodDescriptor "(DD)V" = some ⟨[.double, .double], none⟩ := by decide +kernel
theorem own_pd20 : parseMethodDescriptor "(JJJ)V" = some ⟨[.long, .long, .long], none⟩ := by decide +kernel
theorem own_pd21 : parseMethodDescriptor "(Ljava/lang/Object;)Z" = some ⟨[(.object "java/lang/Object")], some .boolean⟩ := by decide +kernel
theorem own_pn0 : plainName "com/example/skyroster/skyroster/CostShareTakeBackPinLaw" = true := by first | (simp [plainName, overriddenIn]; done) | decide +kernel
theorem own_n0 : Jvm.Free.Fl.NoNaN64 0 := by unfold Jvm.Free.Fl.NoNaN64; decide +kernel
theorem own_ef0 (m : MethodId) (q1 q2 q3 q4 q5 q6 : Int32) : entryFrame m #[(.int q1), (.int q2), (.int q3), (.int q4), (.int q5), (.int q6)] maxLocals = mkF m 0 #[.val (.int q1), .val (.int q2), .val (.int q3), .val (.int q4), .val (.int q5), .val (.int q6), .unset, .unset, .unset, .unset, .unset, .unset, .unset, .unset, .unset, .unset, .unset, .unset, .unset, .unset, .unset, .unset, .unset, .unset, .unset, .unset, .unset, .unset, .unset, .unset, .unset, .unset, .unset] [] := by first | (simp [entryFrame, mkF, argsToLocals, Value.category, maxLocals]; done) | rfl
def own_Q0 (Z : State) (v : Option Value) (h : Heap) (L : List Loc) : Prop := v = some (.int (1 : Int32)) ∧ Fr Z.heap.size L
set_option maxRecDepth 65536 in
set_option maxHeartbeats 40000000 in
theorem own_rm0 (l : Launch) (Z : State) (aw : Array Value) (hw : ∀ d ∈ tables_1, d.before aw Z = true) (ws : List Jvm.Cond) (q1 : Int32) (q2 : Int32) (q3 : Int32) (q4 : Int32) (q5 : Int32) (q6 : Int32) (dd : Addr) (lz : Addr) (ez : Addr) (em : Addr) (mr : Addr) (S0 : own_St Z dd lz ez em mr) :
    MetFree l x (head1 (Jvm.Cond.code x code maxLocals ret :: ws) room_1) (fun a U => a = #[(.int q1), (.int q2), (.int q3), (.int q4), (.int q5), (.int q6)] ∧ U = Z) (fun _ _ _ _ _ => True) (fun _ U o U' => ∃ v L, o = .returned v ∧ own_Q0 Z v U'.heap L ∧ ReturnedEndW U o U' L 16 64) := by
  refine own_metW (Q := own_Q0 Z) (plainFor_of_name own_pn0) ?_
  intro p e m below meth c s₁ K hx hby hml hown hnm hret X0 e0 hK
  have hZ := State.Warmed39.refl Z
  obtain ⟨n0, hn0⟩ : ∃ n, n = Z.heap.size := ⟨_, rfl⟩
  have N0 := Fr.nil n0
  have Z0 : n0 ≤ Z.heap.size := Nat.le_of_eq hn0
  have O0 : Old Z n0 Z.heap := by rw [hn0]; exact Old.start Z
  refine own_by (fun t k => castTop (own_ef0 m q1 q2 q3 q4 q5 q6) k) ?_
  show own_Go p.tables e below K (s₁.setTop (mkF m 0 #[.val (.int q1), .val (.int q2), .val (.int q3), .val (.int q4), .val (.int q5), .val (.int q6), .unset, .unset, .unset, .unset, .unset, .unset, .unset, .unset, .unset, .unset, .unset, .unset, .unset, .unset, .unset, .unset, .unset, .unset, .unset, .unset, .unset, .unset, .unset, .unset, .unset, .unset, .unset] []))
  refine own_by (fun t k => XS.iloadN X0.here hx rfl (hb hby at_0) rfl k) ?_
  show own_Go p.tables e below K (s₁.setTop (mkF m 1 #[.val (.int q1), .val (.int q2), .val (.int q3), .val (.int q4), .val (.int q5), .val (.int q6), .unset, .unset, .unset, .unset, .unset, .unset, .unset, .unset, .unset, .unset, .unset, .unset, .unset, .unset, .unset, .unset, .unset, .unset, .unset, .unset, .unset, .unset, .unset, .unset, .unset, .unset, .unset] [(.int q1)]))
  refine own_by (fun t k => XS.i2dS X0.here hx rfl (hb hby at_1) rfl (i2d_w _) k) ?_
  show own_Go p.tables e below K (s₁.setTop (mkF m 2 #[.val (.int q1), .val (.int q2), .val (.int q3), .val (.int q4), .val (.int q5), .val (.int q6), .unset, .unset, .unset, .unset, .unset, .unset, .unset, .unset, .unset, .unset, .unset, .unset, .unset, .unset, .unset, .unset, .unset, .unset, .unset, .unset, .unset, .unset, .unset, .unset, .unset, .unset, .unset] [(.double (FP.l2d q1.toInt64))]))
  refine own_by (fun t k => XS.dstore X0.here hx rfl (hb hby at_2) rfl (l' := #[.val (.int q1), .val (.int q2), .val (.int q3), .val (.int q4), .val (.int q5), .val (.int q6), .val (.double (FP.l2d q1.toInt64)), .second, .unset, .unset, .unset, .unset, .unset, .unset, .unset, .unset, .unset, .unset, .unset, .unset, .unset, .unset, .unset, .unset, .unset, .unset, .unset, .unset, .unset, .unset, .unset, .unset, .unset]) rfl k) ?_
  show own_Go p.tables e below K (s₁.setTop (mkF m 4 #[.val (.int q1), .val (.int q2), .val (.int q3), .val (.int q4), .val (.int q5), .val (.int q6), .val (.double (FP.l2d q1.toInt64)), .second, .unset, .unset, .unset, .unset, .unset, .unset, .unset, .unset, .unset, .unset, .unset, .unset, .unset, .unset, .unset, .unset, .unset, .unset, .unset, .unset, .unset, .unset, .unset, .unset, .unset] []))
  obtain ⟨T109, h109, X109, e109, E109, A109, D109, -, st109⟩ := newO X0 hx hZ hown (hw _ (List.mem_of_getElem? (i := 0) rfl)) (hw _ (List.mem_of_getElem? (i := 1) rfl)) (hw _ (List.mem_of_getElem? (i := 2) rfl)) e0 (g := (mkF m 4 #[.val (.int q1), .val (.int q2), .val (.int q3), .val (.int q4), .val (.int q5), .val (.int q6), .val (.double (FP.l2d q1.toInt64)), .second, .unset, .unset, .unset, .unset, .unset, .unset, .unset, .unset, .unset, .unset, .unset, .unset, .unset, .unset, .unset, .unset, .unset, .unset, .unset, .unset, .unset, .unset, .unset, .unset, .unset] [])) rfl (hb hby at_4) (by decide) (by decide)
  obtain ⟨b109, g109⟩ : ∃ z, z = Z.heap.size := ⟨_, rfl⟩
  rw [← g109] at A109 D109 st109
  refine own_by st109 ?_
  have gn_b109 : n0 ≤ b109 := Nat.le_trans Z0 (Nat.le_of_eq g109.symm)
  have Z109 := Nat.le_trans Z0 E109.1
  have O109 := O0.ext E109
  have F109_modCount_b109 : Fld Z h109 b109 "java/util/AbstractList" "modCount" "I" (.int (0 : Int32)) := D109 (Or.inl (hw _ (List.mem_of_getElem? (i := 22) rfl))) (ty := .int) (by decide)
  have F109_elementData_b109 : Fld Z h109 b109 "java/util/ArrayList" "elementData" "[Ljava/lang/Object;" .null := D109 (Or.inl (hw _ (List.mem_of_getElem? (i := 25) rfl))) (ty := (.array (.object "java/lang/Object"))) (by decide)
  have F109_size_b109 : Fld Z h109 b109 "java/util/ArrayList" "size" "I" (.int (0 : Int32)) := D109 (Or.inl (hw _ (List.mem_of_getElem? (i := 52) rfl))) (ty := .int) (by decide)
  show own_Go p.tables e below K (T109.setTop (mkF m 7 #[.val (.int q1), .val (.int q2), .val (.int q3), .val (.int q4), .val (.int q5), .val (.int q6), .val (.double (FP.l2d q1.toInt64)), .second, .unset, .unset, .unset, .unset, .unset, .unset, .unset, .unset, .unset, .unset, .unset, .unset, .unset, .unset, .unset, .unset, .unset, .unset, .unset, .unset, .unset, .unset, .unset, .unset, .unset] [(.ref b109)]))
  refine own_by (fun t k => XS.dup X109.here hx rfl (hb hby at_7) rfl rfl k) ?_
  show own_Go p.tables e below K (T109.setTop (mkF m 8 #[.val (.int q1), .val (.int q2), .val (.int q3), .val (.int q4), .val (.int q5), .val (.int q6), .val (.double (FP.l2d q1.toInt64)), .second, .unset, .unset, .unset, .unset, .unset, .unset, .unset, .unset, .unset, .unset, .unset, .unset, .unset, .unset, .unset, .unset, .unset, .unset, .unset, .unset, .unset, .unset, .unset, .unset, .unset] [(.ref b109), (.ref b109)]))
  obtain ⟨_, _, ⟨T110, L110, k110, n110⟩, -, X110, ⟨Lc110, hQ110, l110, y110, z110⟩, st110⟩ := X109.specialBack hx (y := (⟨"java/util/ArrayList", "<init>", "()V"⟩ : MethodName)) rfl hown (mvT hZ (hw _ (List.mem_of_getElem? (i := 3) rfl))) (mvT hZ (hw _ (List.mem_of_getElem? (i := 4) rfl))) (mvT hZ (hw _ (List.mem_of_getElem? (i := 5) rfl))) (by decide) (backOf (W := 1) (own_rmaln l Z aw hw [] b109 dd lz ez em mr h109 n0 Z109 A109 gn_b109 F109_modCount_b109 F109_elementData_b109 F109_size_b109 O109 S0) hZ (hw _ (List.mem_of_getElem? (i := 5) rfl)) (hw _ (List.mem_of_getElem? (i := 2) rfl)) (by decide) (by decide)) (g := (mkF m 8 #[.val (.int q1), .val (.int q2), .val (.int q3), .val (.int q4), .val (.int q5), .val (.int q6), .val (.double (FP.l2d q1.toInt64)), .second, .unset, .unset, .unset, .unset, .unset, .unset, .unset, .unset, .unset, .unset, .unset, .unset, .unset, .unset, .unset, .unset, .unset, .unset, .unset, .unset, .unset, .unset, .unset, .unset, .unset] [(.ref b109), (.ref b109)])) rfl (by rw [hml]; rfl) (Steps.refl _) (a := b109) (argsL := []) (rest := [(.ref b109)]) (lenOf own_pd0 rfl) rfl (by show 2 * 0 + _ ≤ _; exact Nat.le_of_eq rfl) (hb hby at_8) (fun _ _ => ⟨rfl, e109, (by decide : 1 + 0 ≤ _), (by decide : 3 + 0 ≤ _)⟩)
  dsimp only [Pt.U, Pt.locs, Pt.cells, Pt.slots] at X110 l110 y110 z110 st110 hQ110
  subst l110 y110 z110
  obtain ⟨rfl, N110q, Kp110, Bp110⟩ := hQ110
  have N110 := Fr.app N0 N110q
  refine own_by (fun t k => st110.trans k) ?_
  have Ex110_b109 := A109.keep Kp110
  have Z110 := Nat.le_trans Z109 Kp110.1
  have O110 := O109.keep Kp110 (allS gn_b109 (all0))
  show own_Go p.tables e below K (T110.setTop (mkF m 11 #[.val (.int q1), .val (.int q2), .val (.int q3), .val (.int q4), .val (.int q5), .val (.int q6), .val (.double (FP.l2d q1.toInt64)), .second, .unset, .unset, .unset, .unset, .unset, .unset, .unset, .unset, .unset, .unset, .unset, .unset, .unset, .unset, .unset, .unset, .unset, .unset, .unset, .unset, .unset, .unset, .unset, .unset, .unset] [(.ref b109)]))
  refine own_by (fun t k => XS.astore X110.here hx rfl (hb hby at_11) rfl rfl (l' := #[.val (.int q1), .val (.int q2), .val (.int q3), .val (.int q4), .val (.int q5), .val (.int q6), .val (.double (FP.l2d q1.toInt64)), .second, .val (.ref b109), .unset, .unset, .unset, .unset, .unset, .unset, .unset, .unset, .unset, .unset, .unset, .unset, .unset, .unset, .unset, .unset, .unset, .unset, .unset, .unset, .unset, .unset, .unset, .unset]) rfl k) ?_
  show own_Go p.tables e below K (T110.setTop (mkF m 13 #[.val (.int q1), .val (.int q2), .val (.int q3), .val (.int q4), .val (.int q5), .val (.int q6), .val (.double (FP.l2d q1.toInt64)), .second, .val (.ref b109), .unset, .unset, .unset, .unset, .unset, .unset, .unset, .unset, .unset, .unset, .unset, .unset, .unset, .unset, .unset, .unset, .unset, .unset, .unset, .unset, .unset, .unset, .unset, .unset] []))
  obtain ⟨T111, h111, X111, e111, E111, A111, D111, -, st111⟩ := newO X110 hx hZ hown (hw _ (List.mem_of_getElem? (i := 0) rfl)) (hw _ (List.mem_of_getElem? (i := 1) rfl)) (hw _ (List.mem_of_getElem? (i := 2) rfl)) rfl (g := (mkF m 13 #[.val (.int q1), .val (.int q2), .val (.int q3), .val (.int q4), .val (.int q5), .val (.int q6), .val (.double (FP.l2d q1.toInt64)), .second, .val (.ref b109), .unset, .unset, .unset, .unset, .unset, .unset, .unset, .unset, .unset, .unset, .unset, .unset, .unset, .unset, .unset, .unset, .unset, .unset, .unset, .unset, .unset, .unset, .unset, .unset] [])) rfl (hb hby at_13) (by decide) (by decide)
  obtain ⟨b111, g111⟩ : ∃ z, z = T110.heap.size := ⟨_, rfl⟩
  rw [← g111] at A111 D111 st111
  refine own_by st111 ?_
  have gn_b111 : n0 ≤ b111 := Nat.le_trans Z110 (Nat.le_of_eq g111.symm)
  have ne_b109_b111 : b109 ≠ b111 := Nat.ne_of_lt (Nat.lt_of_lt_of_le Bp110.1.lt (Nat.le_of_eq g111.symm))
  have F111_modCount_b109 := Bp110.2.1.ext E111
  have F111_elementData_b109 := Bp110.2.2.1.ext E111
  have F111_size_b109 := Bp110.2.2.2.ext E111
  have Ex111_b109 := Bp110.1.ext E111
  have Z111 := Nat.le_trans Z110 E111.1
  have O111 := O110.ext E111
  have F111_modCount_b111 : Fld Z h111 b111 "java/util/AbstractList" "modCount" "I" (.int (0 : Int32)) := D111 (Or.inl (hw _ (List.mem_of_getElem? (i := 22) rfl))) (ty := .int) (by decide)
  have F111_elementData_b111 : Fld Z h111 b111 "java/util/ArrayList" "elementData" "[Ljava/lang/Object;" .null := D111 (Or.inl (hw _ (List.mem_of_getElem? (i := 25) rfl))) (ty := (.array (.object "java/lang/Object"))) (by decide)
  have F111_size_b111 : Fld Z h111 b111 "java/util/ArrayList" "size" "I" (.int (0 : Int32)) := D111 (Or.inl (hw _ (List.mem_of_getElem? (i := 52) rfl))) (ty := .int) (by decide)
  show own_Go p.tables e below K (T111.setTop (mkF m 16 #[.val (.int q1), .val (.int q2), .val (.int q3), .val (.int q4), .val (.int q5), .val (.int q6), .val (.double (FP.l2d q1.toInt64)), .second, .val (.ref b109), .unset, .unset, .unset, .unset, .unset, .unset, .unset, .unset, .unset, .unset, .unset, .unset, .unset, .unset, .unset, .unset, .unset, .unset, .unset, .unset, .unset, .unset, .unset, .unset] [(.ref b111)]))
  refine own_by (fun t k => XS.dup X111.here hx rfl (hb hby at_16) rfl rfl k) ?_
  show own_Go p.tables e below K (T111.setTop (mkF m 17 #[.val (.int q1), .val (.int q2), .val (.int q3), .val (.int q4), .val (.int q5), .val (.int q6), .val (.double (FP.l2d q1.toInt64)), .second, .val (.ref b109), .unset, .unset, .unset, .unset, .unset, .unset, .unset, .unset, .unset, .unset, .unset, .unset, .unset, .unset, .unset, .unset, .unset, .unset, .unset, .unset, .unset, .unset, .unset, .unset] [(.ref b111), (.ref b111)]))
  obtain ⟨_, _, ⟨T112, L112, k112, n112⟩, -, X112, ⟨Lc112, hQ112, l112, y112, z112⟩, st112⟩ := X111.specialBack hx (y := (⟨"java/util/ArrayList", "<init>", "()V"⟩ : MethodName)) rfl hown (mvT hZ (hw _ (List.mem_of_getElem? (i := 3) rfl))) (mvT hZ (hw _ (List.mem_of_getElem? (i := 4) rfl))) (mvT hZ (hw _ (List.mem_of_getElem? (i := 5) rfl))) (by decide) (backOf (W := 1) (own_rmaln l Z aw hw [] b111 dd lz ez em mr h111 n0 Z111 A111 gn_b111 F111_modCount_b111 F111_elementData_b111 F111_size_b111 O111 S0) hZ (hw _ (List.mem_of_getElem? (i := 5) rfl)) (hw _ (List.mem_of_getElem? (i := 2) rfl)) (by decide) (by decide)) (g := (mkF m 17 #[.val (.int q1), .val (.int q2), .val (.int q3), .val (.int q4), .val (.int q5), .val (.int q6), .val (.double (FP.l2d q1.toInt64)), .second, .val (.ref b109), .unset, .unset, .unset, .unset, .unset, .unset, .unset, .unset, .unset, .unset, .unset, .unset, .unset, .unset, .unset, .unset, .unset, .unset, .unset, .unset, .unset, .unset, .unset, .unset] [(.ref b111), (.ref b111)])) rfl (by rw [hml]; rfl) (Steps.refl _) (a := b111) (argsL := []) (rest := [(.ref b111)]) (lenOf own_pd0 rfl) rfl (by show 2 * 0 + _ ≤ _; exact Nat.le_of_eq rfl) (hb hby at_17) (fun _ _ => ⟨rfl, e111, (by decide : 2 + 0 ≤ _), (by decide : 6 + 0 ≤ _)⟩)
  dsimp only [Pt.U, Pt.locs, Pt.cells, Pt.slots] at X112 l112 y112 z112 st112 hQ112
  subst l112 y112 z112
  obtain ⟨rfl, N112q, Kp112, Bp112⟩ := hQ112
  have N112 := Fr.app N110 N112q
  refine own_by (fun t k => st112.trans k) ?_
  have F112_modCount_b109 := F111_modCount_b109.keep Kp112 (ninS ne_b109_b111 nin0)
  have F112_elementData_b109 := F111_elementData_b109.keep Kp112 (ninS ne_b109_b111 nin0)
  have F112_size_b109 := F111_size_b109.keep Kp112 (ninS ne_b109_b111 nin0)
  have Ex112_b109 := Ex111_b109.keep Kp112
  have Ex112_b111 := A111.keep Kp112
  have Z112 := Nat.le_trans Z111 Kp112.1
  have O112 := O111.keep Kp112 (allS gn_b111 (all0))
  show own_Go p.tables e below K (T112.setTop (mkF m 20 #[.val (.int q1), .val (.int q2), .val (.int q3), .val (.int q4), .val (.int q5), .val (.int q6), .val (.double (FP.l2d q1.toInt64)), .second, .val (.ref b109), .unset, .unset, .unset, .unset, .unset, .unset, .unset, .unset, .unset, .unset, .unset, .unset, .unset, .unset, .unset, .unset, .unset, .unset, .unset, .unset, .unset, .unset, .unset, .unset] [(.ref b111)]))
  refine own_by (fun t k => XS.astore X112.here hx rfl (hb hby at_20) rfl rfl (l' := #[.val (.int q1), .val (.int q2), .val (.int q3), .val (.int q4), .val (.int q5), .val (.int q6), .val (.double (FP.l2d q1.toInt64)), .second, .val (.ref b109), .val (.ref b111), .unset, .unset, .unset, .unset, .unset, .unset, .unset, .unset, .unset, .unset, .unset, .unset, .unset, .unset, .unset, .unset, .unset, .unset, .unset, .unset, .unset, .unset, .unset]) rfl k) ?_
  have J45 : ∀ (T' : State) (L' : List Loc) (u : Int32) (bw r0 al el : Addr) (mc : Int32), Stand p l e room_1 Z m #[(.int q1), (.int q2), (.int q3), (.int q4), (.int q5), (.int q6)] below meth c T' L' 4 19 → Fr n0 L' → n0 ≤ T'.heap.size → Old Z n0 T'.heap → own_AL Z T'.heap r0 dd 0 0 → own_AL Z T'.heap al el u mc → own_Vs Z T'.heap el bw u → own_Go p.tables e below K (T'.setTop (mkF m 45 #[.val (.int q1), .val (.int q2), .val (.int q3), .val (.int q4), .val (.int q5), .val (.int q6), .val (.double (FP.l2d q1.toInt64)), .second, .val (.ref r0), .val (.ref al), .unset, .unset, .unset, .unset, .unset, .unset, .unset, .unset, .unset, .unset, .unset, .unset, .unset, .unset, .unset, .unset, .unset, .unset, .unset, .unset, .unset, .unset, .unset] [])) := by
    intro T' L' u bw r0 al el mc X' N' Z' O' B1' B' A'
    show own_Go p.tables e below K (T'.setTop (mkF m 45 #[.val (.int q1), .val (.int q2), .val (.int q3), .val (.int q4), .val (.int q5), .val (.int q6), .val (.double (FP.l2d q1.toInt64)), .second, .val (.ref r0), .val (.ref al), .unset, .unset, .unset, .unset, .unset, .unset, .unset, .unset, .unset, .unset, .unset, .unset, .unset, .unset, .unset, .unset, .unset, .unset, .unset, .unset, .unset, .unset, .unset] []))
    obtain ⟨T113, h113, X113, e113, E113, A113, D113, -, st113⟩ := newO X' hx hZ hown (hw _ (List.mem_of_getElem? (i := 75) rfl)) (hw _ (List.mem_of_getElem? (i := 76) rfl)) (hw _ (List.mem_of_getElem? (i := 77) rfl)) rfl (g := (mkF m 45 #[.val (.int q1), .val (.int q2), .val (.int q3), .val (.int q4), .val (.int q5), .val (.int q6), .val (.double (FP.l2d q1.toInt64)), .second, .val (.ref r0), .val (.ref al), .unset, .unset, .unset, .unset, .unset, .unset, .unset, .unset, .unset, .unset, .unset, .unset, .unset, .unset, .unset, .unset, .unset, .unset, .unset, .unset, .unset, .unset, .unset] [])) rfl (hb hby at_45) (by decide) (by decide)
    obtain ⟨b113, g113⟩ : ∃ z, z = T'.heap.size := ⟨_, rfl⟩
    rw [← g113] at A113 D113 st113
    refine own_by st113 ?_
    have gn_b113 : n0 ≤ b113 := Nat.le_trans Z' (Nat.le_of_eq g113.symm)
    have ne_el_b113 : el ≠ b113 := Nat.ne_of_lt (Nat.lt_of_lt_of_le A'.lt (Nat.le_of_eq g113.symm))
    have ne_r0_b113 : r0 ≠ b113 := Nat.ne_of_lt (Nat.lt_of_lt_of_le B1'.1.lt (Nat.le_of_eq g113.symm))
    have ne_al_b113 : al ≠ b113 := Nat.ne_of_lt (Nat.lt_of_lt_of_le B'.1.lt (Nat.le_of_eq g113.symm))
    have F113_modCount_r0 := B1'.2.1.ext E113
    have F113_elementData_r0 := B1'.2.2.1.ext E113
    have F113_size_r0 := B1'.2.2.2.ext E113
    have F113_modCount_al := B'.2.1.ext E113
    have F113_elementData_al := B'.2.2.1.ext E113
    have F113_size_al := B'.2.2.2.ext E113
    have Ex113_r0 := B1'.1.ext E113
    have Ex113_al := B'.1.ext E113
    have xa113_el := A'.ext E113
    have Z113 := Nat.le_trans Z' E113.1
    have O113 := O'.ext E113
    have F113_id_b113 : Fld Z h113 b113 "com/example/skyroster/skyroster/Satellite" "id" "Ljava/lang/String;" .null := D113 (Or.inr (hw _ (List.mem_of_getElem? (i := 182) rfl))) (ty := (.object "java/lang/String")) (by decide)
    have F113_name_b113 : Fld Z h113 b113 "com/example/skyroster/skyroster/Satellite" "name" "Ljava/lang/String;" .null := D113 (Or.inr (hw _ (List.mem_of_getElem? (i := 184) rfl))) (ty := (.object "java/lang/String")) (by decide)
    have F113_payloads_b113 : Fld Z h113 b113 "com/example/skyroster/skyroster/Satellite" "payloads" "Ljava/util/List;" .null := D113 (Or.inr (hw _ (List.mem_of_getElem? (i := 186) rfl))) (ty := (.object "java/util/List")) (by decide)
    have F113_costCoefficient_b113 : Fld Z h113 b113 "com/example/skyroster/skyroster/Satellite" "costCoefficient" "D" (.double (0 : UInt64)) := D113 (Or.inr (hw _ (List.mem_of_getElem? (i := 188) rfl))) (ty := .double) (by decide)
    have F113_minGapS_b113 : Fld Z h113 b113 "com/example/skyroster/skyroster/Satellite" "minGapS" "J" (.long (0 : Int64)) := D113 (Or.inr (hw _ (List.mem_of_getElem? (i := 190) rfl))) (ty := .long) (by decide)
    have F113_maxOrbitS_b113 : Fld Z h113 b113 "com/example/skyroster/skyroster/Satellite" "maxOrbitS" "J" (.long (0 : Int64)) := D113 (Or.inr (hw _ (List.mem_of_getElem? (i := 192) rfl))) (ty := .long) (by decide)
    have F113_maxDayS_b113 : Fld Z h113 b113 "com/example/skyroster/skyroster/Satellite" "maxDayS" "J" (.long (0 : Int64)) := D113 (Or.inr (hw _ (List.mem_of_getElem? (i := 194) rfl))) (ty := .long) (by decide)
    have F113_usedWindows_b113 : Fld Z h113 b113 "com/example/skyroster/skyroster/Satellite" "usedWindows" "Ljava/util/List;" .null := D113 (Or.inr (hw _ (List.mem_of_getElem? (i := 196) rfl))) (ty := (.object "java/util/List")) (by decide)
    show own_Go p.tables e below K (T113.setTop (mkF m 48 #[.val (.int q1), .val (.int q2), .val (.int q3), .val (.int q4), .val (.int q5), .val (.int q6), .val (.double (FP.l2d q1.toInt64)), .second, .val (.ref r0), .val (.ref al), .unset, .unset, .unset, .unset, .unset, .unset, .unset, .unset, .unset, .unset, .unset, .unset, .unset, .unset, .unset, .unset, .unset, .unset, .unset, .unset, .unset, .unset, .unset] [(.ref b113)]))
    refine own_by (fun t k => XS.dup X113.here hx rfl (hb hby at_48) rfl rfl k) ?_
    show own_Go p.tables e below K (T113.setTop (mkF m 49 #[.val (.int q1), .val (.int q2), .val (.int q3), .val (.int q4), .val (.int q5), .val (.int q6), .val (.double (FP.l2d q1.toInt64)), .second, .val (.ref r0), .val (.ref al), .unset, .unset, .unset, .unset, .unset, .unset, .unset, .unset, .unset, .unset, .unset, .unset, .unset, .unset, .unset, .unset, .unset, .unset, .unset, .unset, .unset, .unset, .unset] [(.ref b113), (.ref b113)]))
    obtain ⟨sa114, T114, h114, k114, X114, e114, E114, hS114, hk114, hZ, hown, st114⟩ := ldcS (s := Z) (vm0 := Z.vm) X113 hx hZ hown (hw _ (List.mem_of_getElem? (i := 78) rfl)) (fun d hd => hw d ((by decide +kernel : ∀ d ∈ Bundle.stringAtoms, d ∈ tables_1) d hd)) e113 (k0 := 0) ((State.WarmedH.refl Z).since 0) (Nat.zero_le _) (g := (mkF m 49 #[.val (.int q1), .val (.int q2), .val (.int q3), .val (.int q4), .val (.int q5), .val (.int q6), .val (.double (FP.l2d q1.toInt64)), .second, .val (.ref r0), .val (.ref al), .unset, .unset, .unset, .unset, .unset, .unset, .unset, .unset, .unset, .unset, .unset, .unset, .unset, .unset, .unset, .unset, .unset, .unset, .unset, .unset, .unset, .unset, .unset] [(.ref b113), (.ref b113)])) rfl (hb hby at_49) (n := 4) (by decide +kernel) (by decide) (by decide) (by decide)
    refine own_by st114 ?_
    have F114_modCount_r0 := F113_modCount_r0.ext E114
    have F114_elementData_r0 := F113_elementData_r0.ext E114
    have F114_size_r0 := F113_size_r0.ext E114
    have F114_modCount_al := F113_modCount_al.ext E114
    have F114_elementData_al := F113_elementData_al.ext E114
    have F114_size_al := F113_size_al.ext E114
    have F114_id_b113 := F113_id_b113.ext E114
    have F114_name_b113 := F113_name_b113.ext E114
    have F114_payloads_b113 := F113_payloads_b113.ext E114
    have F114_costCoefficient_b113 := F113_costCoefficient_b113.ext E114
    have F114_minGapS_b113 := F113_minGapS_b113.ext E114
    have F114_maxOrbitS_b113 := F113_maxOrbitS_b113.ext E114
    have F114_maxDayS_b113 := F113_maxDayS_b113.ext E114
    have F114_usedWindows_b113 := F113_usedWindows_b113.ext E114
    have Ex114_r0 := Ex113_r0.ext E114
    have Ex114_al := Ex113_al.ext E114
    have Ex114_b113 := A113.ext E114
    have xa114_el := xa113_el.ext E114
    have Z114 := Nat.le_trans Z113 E114.1
    have O114 := O113.ext E114
    show own_Go p.tables e below K (T114.setTop (mkF m 51 #[.val (.int q1), .val (.int q2), .val (.int q3), .val (.int q4), .val (.int q5), .val (.int q6), .val (.double (FP.l2d q1.toInt64)), .second, .val (.ref r0), .val (.ref al), .unset, .unset, .unset, .unset, .unset, .unset, .unset, .unset, .unset, .unset, .unset, .unset, .unset, .unset, .unset, .unset, .unset, .unset, .unset, .unset, .unset, .unset, .unset] [(.ref sa114), (.ref b113), (.ref b113)]))
    obtain ⟨sa115, T115, h115, k115, X115, e115, E115, hS115, hk115, hZ, hown, st115⟩ := ldcS (s := Z) (vm0 := T114.vm) X114 hx hZ hown (hw _ (List.mem_of_getElem? (i := 86) rfl)) (fun d hd => hw d ((by decide +kernel : ∀ d ∈ Bundle.stringAtoms, d ∈ tables_1) d hd)) e114 (k0 := k114) hS114 hk114 (g := (mkF m 51 #[.val (.int q1), .val (.int q2), .val (.int q3), .val (.int q4), .val (.int q5), .val (.int q6), .val (.double (FP.l2d q1.toInt64)), .second, .val (.ref r0), .val (.ref al), .unset, .unset, .unset, .unset, .unset, .unset, .unset, .unset, .unset, .unset, .unset, .unset, .unset, .unset, .unset, .unset, .unset, .unset, .unset, .unset, .unset, .unset, .unset] [(.ref sa114), (.ref b113), (.ref b113)])) rfl (hb hby at_51) (n := 4) (by decide +kernel) (by decide) (by decide) (by decide)
    refine own_by st115 ?_
    have F115_modCount_r0 := F114_modCount_r0.ext E115
    have F115_elementData_r0 := F114_elementData_r0.ext E115
    have F115_size_r0 := F114_size_r0.ext E115
    have F115_modCount_al := F114_modCount_al.ext E115
    have F115_elementData_al := F114_elementData_al.ext E115
    have F115_size_al := F114_size_al.ext E115
    have F115_id_b113 := F114_id_b113.ext E115
    have F115_name_b113 := F114_name_b113.ext E115
    have F115_payloads_b113 := F114_payloads_b113.ext E115
    have F115_costCoefficient_b113 := F114_costCoefficient_b113.ext E115
    have F115_minGapS_b113 := F114_minGapS_b113.ext E115
    have F115_maxOrbitS_b113 := F114_maxOrbitS_b113.ext E115
    have F115_maxDayS_b113 := F114_maxDayS_b113.ext E115
    have F115_usedWindows_b113 := F114_usedWindows_b113.ext E115
    have Ex115_r0 := Ex114_r0.ext E115
    have Ex115_al := Ex114_al.ext E115
    have Ex115_b113 := Ex114_b113.ext E115
    have xa115_el := xa114_el.ext E115
    have Z115 := Nat.le_trans Z114 E115.1
    have O115 := O114.ext E115
    obtain ⟨h0, hh0⟩ : ∃ z, z = h115 := ⟨_, rfl⟩
    have K115 : Keep h0 h115 [b113] := by rw [hh0]; exact Keep.refl _ _
    show own_Go p.tables e below K (T115.setTop (mkF m 53 #[.val (.int q1), .val (.int q2), .val (.int q3), .val (.int q4), .val (.int q5), .val (.int q6), .val (.double (FP.l2d q1.toInt64)), .second, .val (.ref r0), .val (.ref al), .unset, .unset, .unset, .unset, .unset, .unset, .unset, .unset, .unset, .unset, .unset, .unset, .unset, .unset, .unset, .unset, .unset, .unset, .unset, .unset, .unset, .unset, .unset] [(.ref sa115), (.ref sa114), (.ref b113), (.ref b113)]))
    refine own_by (fun t k => XS.aload X115.here hx rfl (hb hby at_53) rfl rfl k) ?_
    show own_Go p.tables e below K (T115.setTop (mkF m 55 #[.val (.int q1), .val (.int q2), .val (.int q3), .val (.int q4), .val (.int q5), .val (.int q6), .val (.double (FP.l2d q1.toInt64)), .second, .val (.ref r0), .val (.ref al), .unset, .unset, .unset, .unset, .unset, .unset, .unset, .unset, .unset, .unset, .unset, .unset, .unset, .unset, .unset, .unset, .unset, .unset, .unset, .unset, .unset, .unset, .unset] [(.ref r0), (.ref sa115), (.ref sa114), (.ref b113), (.ref b113)]))
    refine own_by (fun t k => XS.dload X115.here hx rfl (hb hby at_55) rfl k) ?_
    show own_Go p.tables e below K (T115.setTop (mkF m 57 #[.val (.int q1), .val (.int q2), .val (.int q3), .val (.int q4), .val (.int q5), .val (.int q6), .val (.double (FP.l2d q1.toInt64)), .second, .val (.ref r0), .val (.ref al), .unset, .unset, .unset, .unset, .unset, .unset, .unset, .unset, .unset, .unset, .unset, .unset, .unset, .unset, .unset, .unset, .unset, .unset, .unset, .unset, .unset, .unset, .unset] [(.double (FP.l2d q1.toInt64)), (.ref r0), (.ref sa115), (.ref sa114), (.ref b113), (.ref b113)]))
    refine own_by (fun t k => XS.lconst X115.here hx rfl (hb hby at_57) k) ?_
    show own_Go p.tables e below K (T115.setTop (mkF m 58 #[.val (.int q1), .val (.int q2), .val (.int q3), .val (.int q4), .val (.int q5), .val (.int q6), .val (.double (FP.l2d q1.toInt64)), .second, .val (.ref r0), .val (.ref al), .unset, .unset, .unset, .unset, .unset, .unset, .unset, .unset, .unset, .unset, .unset, .unset, .unset, .unset, .unset, .unset, .unset, .unset, .unset, .unset, .unset, .unset, .unset] [(.long (0 : Int64)), (.double (FP.l2d q1.toInt64)), (.ref r0), (.ref sa115), (.ref sa114), (.ref b113), (.ref b113)]))
    refine own_by (fun t k => XS.lconst X115.here hx rfl (hb hby at_58) k) ?_
    show own_Go p.tables e below K (T115.setTop (mkF m 59 #[.val (.int q1), .val (.int q2), .val (.int q3), .val (.int q4), .val (.int q5), .val (.int q6), .val (.double (FP.l2d q1.toInt64)), .second, .val (.ref r0), .val (.ref al), .unset, .unset, .unset, .unset, .unset, .unset, .unset, .unset, .unset, .unset, .unset, .unset, .unset, .unset, .unset, .unset, .unset, .unset, .unset, .unset, .unset, .unset, .unset] [(.long (0 : Int64)), (.long (0 : Int64)), (.double (FP.l2d q1.toInt64)), (.ref r0), (.ref sa115), (.ref sa114), (.ref b113), (.ref b113)]))
    refine own_by (fun t k => XS.lconst X115.here hx rfl (hb hby at_59) k) ?_
    show own_Go p.tables e below K (T115.setTop (mkF m 60 #[.val (.int q1), .val (.int q2), .val (.int q3), .val (.int q4), .val (.int q5), .val (.int q6), .val (.double (FP.l2d q1.toInt64)), .second, .val (.ref r0), .val (.ref al), .unset, .unset, .unset, .unset, .unset, .unset, .unset, .unset, .unset, .unset, .unset, .unset, .unset, .unset, .unset, .unset, .unset, .unset, .unset, .unset, .unset, .unset, .unset] [(.long (0 : Int64)), (.long (0 : Int64)), (.long (0 : Int64)), (.double (FP.l2d q1.toInt64)), (.ref r0), (.ref sa115), (.ref sa114), (.ref b113), (.ref b113)]))
    refine own_by (fun t k => XS.aload X115.here hx rfl (hb hby at_60) rfl rfl k) ?_
    show own_Go p.tables e below K (T115.setTop (mkF m 62 #[.val (.int q1), .val (.int q2), .val (.int q3), .val (.int q4), .val (.int q5), .val (.int q6), .val (.double (FP.l2d q1.toInt64)), .second, .val (.ref r0), .val (.ref al), .unset, .unset, .unset, .unset, .unset, .unset, .unset, .unset, .unset, .unset, .unset, .unset, .unset, .unset, .unset, .unset, .unset, .unset, .unset, .unset, .unset, .unset, .unset] [(.ref al), (.long (0 : Int64)), (.long (0 : Int64)), (.long (0 : Int64)), (.double (FP.l2d q1.toInt64)), (.ref r0), (.ref sa115), (.ref sa114), (.ref b113), (.ref b113)]))
    obtain ⟨_, _, ⟨T116, L116, k116, n116⟩, -, X116, ⟨Lc116, hQ116, l116, y116, z116⟩, st116⟩ := X115.specialBack hx (y := (⟨"com/example/skyroster/skyroster/Satellite", "<init>", "(Ljava/lang/String;Ljava/lang/String;Ljava/util/List;DJJJLjava/util/List;)V"⟩ : MethodName)) rfl hown (mvT hZ (hw _ (List.mem_of_getElem? (i := 87) rfl))) (mvT hZ (hw _ (List.mem_of_getElem? (i := 88) rfl))) (mvT hZ (hw _ (List.mem_of_getElem? (i := 89) rfl))) (by decide) (backOf (W := 1) (own_rmsai l Z aw hw [] b113 sa114 sa115 r0 (FP.l2d q1.toInt64) 0 0 0 al 0 el u mc bw dd lz ez em mr h115 n0 Z115 Ex115_b113 gn_b113 F115_id_b113 F115_name_b113 F115_payloads_b113 F115_costCoefficient_b113 F115_minGapS_b113 F115_maxOrbitS_b113 F115_maxDayS_b113 F115_usedWindows_b113 ⟨Ex115_r0, F115_modCount_r0, F115_elementData_r0, F115_size_r0⟩ ⟨Ex115_al, F115_modCount_al, F115_elementData_al, F115_size_al⟩ xa115_el O115 S0) hZ (hw _ (List.mem_of_getElem? (i := 89) rfl)) (hw _ (List.mem_of_getElem? (i := 77) rfl)) (by decide) (by decide)) (g := (mkF m 62 #[.val (.int q1), .val (.int q2), .val (.int q3), .val (.int q4), .val (.int q5), .val (.int q6), .val (.double (FP.l2d q1.toInt64)), .second, .val (.ref r0), .val (.ref al), .unset, .unset, .unset, .unset, .unset, .unset, .unset, .unset, .unset, .unset, .unset, .unset, .unset, .unset, .unset, .unset, .unset, .unset, .unset, .unset, .unset, .unset, .unset] [(.ref al), (.long (0 : Int64)), (.long (0 : Int64)), (.long (0 : Int64)), (.double (FP.l2d q1.toInt64)), (.ref r0), (.ref sa115), (.ref sa114), (.ref b113), (.ref b113)])) rfl (by rw [hml]; rfl) (Steps.refl _) (a := b113) (argsL := [(.ref sa114), (.ref sa115), (.ref r0), (.double (FP.l2d q1.toInt64)), (.long (0 : Int64)), (.long (0 : Int64)), (.long (0 : Int64)), (.ref al)]) (rest := [(.ref b113)]) (lenOf own_pd15 rfl) rfl (by show 2 * 0 + _ ≤ _; exact Nat.le_of_eq rfl) (hb hby at_62) (fun _ _ => ⟨rfl, e115, (by decide : 9 + 6 ≤ _), (by decide : 43 + 16 ≤ _)⟩)
    dsimp only [Pt.U, Pt.locs, Pt.cells, Pt.slots] at X116 l116 y116 z116 st116 hQ116
    subst l116 y116 z116
    obtain ⟨rfl, N116q, Kp116, Xp116, Cp116, lw116, Up116, Sp116⟩ := hQ116
    have N116 := Fr.app N' N116q
    refine own_by (fun t k => st116.trans k) ?_
    have xa116_el := xa115_el.keep Kp116 (ninS ne_el_b113 nin0)
    have F116_modCount_r0 := F115_modCount_r0.keep Kp116 (ninS ne_r0_b113 nin0)
    have F116_elementData_r0 := F115_elementData_r0.keep Kp116 (ninS ne_r0_b113 nin0)
    have F116_size_r0 := F115_size_r0.keep Kp116 (ninS ne_r0_b113 nin0)
    have F116_modCount_al := F115_modCount_al.keep Kp116 (ninS ne_al_b113 nin0)
    have F116_elementData_al := F115_elementData_al.keep Kp116 (ninS ne_al_b113 nin0)
    have F116_size_al := F115_size_al.keep Kp116 (ninS ne_al_b113 nin0)
    have Ex116_r0 := Ex115_r0.keep Kp116
    have Ex116_al := Ex115_al.keep Kp116
    have Ex116_b113 := Ex115_b113.keep Kp116
    have K116 := K115.trans Kp116 (allS (Or.inl (by simp)) (all0))
    have Z116 := Nat.le_trans Z115 Kp116.1
    have O116 := O115.keep Kp116 (allS gn_b113 (all0))
    show own_Go p.tables e below K (T116.setTop (mkF m 65 #[.val (.int q1), .val (.int q2), .val (.int q3), .val (.int q4), .val (.int q5), .val (.int q6), .val (.double (FP.l2d q1.toInt64)), .second, .val (.ref r0), .val (.ref al), .unset, .unset, .unset, .unset, .unset, .unset, .unset, .unset, .unset, .unset, .unset, .unset, .unset, .unset, .unset, .unset, .unset, .unset, .unset, .unset, .unset, .unset, .unset] [(.ref b113)]))
    refine own_by (fun t k => XS.astore X116.here hx rfl (hb hby at_65) rfl rfl (l' := #[.val (.int q1), .val (.int q2), .val (.int q3), .val (.int q4), .val (.int q5), .val (.int q6), .val (.double (FP.l2d q1.toInt64)), .second, .val (.ref r0), .val (.ref al), .val (.ref b113), .unset, .unset, .unset, .unset, .unset, .unset, .unset, .unset, .unset, .unset, .unset, .unset, .unset, .unset, .unset, .unset, .unset, .unset, .unset, .unset, .unset, .unset]) rfl k) ?_
    show own_Go p.tables e below K (T116.setTop (mkF m 67 #[.val (.int q1), .val (.int q2), .val (.int q3), .val (.int q4), .val (.int q5), .val (.int q6), .val (.double (FP.l2d q1.toInt64)), .second, .val (.ref r0), .val (.ref al), .val (.ref b113), .unset, .unset, .unset, .unset, .unset, .unset, .unset, .unset, .unset, .unset, .unset, .unset, .unset, .unset, .unset, .unset, .unset, .unset, .unset, .unset, .unset, .unset] []))
    obtain ⟨T117, h117, X117, e117, E117, A117, D117, -, st117⟩ := newO X116 hx hZ hown (hw _ (List.mem_of_getElem? (i := 197) rfl)) (hw _ (List.mem_of_getElem? (i := 198) rfl)) (hw _ (List.mem_of_getElem? (i := 199) rfl)) rfl (g := (mkF m 67 #[.val (.int q1), .val (.int q2), .val (.int q3), .val (.int q4), .val (.int q5), .val (.int q6), .val (.double (FP.l2d q1.toInt64)), .second, .val (.ref r0), .val (.ref al), .val (.ref b113), .unset, .unset, .unset, .unset, .unset, .unset, .unset, .unset, .unset, .unset, .unset, .unset, .unset, .unset, .unset, .unset, .unset, .unset, .unset, .unset, .unset, .unset] [])) rfl (hb hby at_67) (by decide) (by decide)
    obtain ⟨b117, g117⟩ : ∃ z, z = T116.heap.size := ⟨_, rfl⟩
    rw [← g117] at A117 D117 st117
    refine own_by st117 ?_
    have gn_b117 : n0 ≤ b117 := Nat.le_trans Z116 (Nat.le_of_eq g117.symm)
    have ne_el_b117 : el ≠ b117 := Nat.ne_of_lt (Nat.lt_of_lt_of_le xa116_el.lt (Nat.le_of_eq g117.symm))
    have ne_lw116_b117 : lw116 ≠ b117 := Nat.ne_of_lt (Nat.lt_of_lt_of_le Sp116.lt (Nat.le_of_eq g117.symm))
    have sz_b117 : h0.size ≤ b117 := Nat.le_trans K116.1 (Nat.le_of_eq g117.symm)
    have ne_r0_b117 : r0 ≠ b117 := Nat.ne_of_lt (Nat.lt_of_lt_of_le Ex116_r0.lt (Nat.le_of_eq g117.symm))
    have ne_al_b117 : al ≠ b117 := Nat.ne_of_lt (Nat.lt_of_lt_of_le Ex116_al.lt (Nat.le_of_eq g117.symm))
    have ne_b113_b117 : b113 ≠ b117 := Nat.ne_of_lt (Nat.lt_of_lt_of_le Xp116.lt (Nat.le_of_eq g117.symm))
    have F117_modCount_r0 := F116_modCount_r0.ext E117
    have F117_elementData_r0 := F116_elementData_r0.ext E117
    have F117_size_r0 := F116_size_r0.ext E117
    have F117_modCount_al := F116_modCount_al.ext E117
    have F117_elementData_al := F116_elementData_al.ext E117
    have F117_size_al := F116_size_al.ext E117
    have F117_costCoefficient_b113 := Cp116.ext E117
    have F117_usedWindows_b113 := Up116.ext E117
    have Ex117_r0 := Ex116_r0.ext E117
    have Ex117_al := Ex116_al.ext E117
    have Ex117_b113 := Xp116.ext E117
    have xa117_el := xa116_el.ext E117
    have xa117_lw116 := Sp116.ext E117
    have K117 := K116.ext E117
    have Z117 := Nat.le_trans Z116 E117.1
    have O117 := O116.ext E117
    have F117_coefficient_b117 : Fld Z h117 b117 "com/example/skyroster/skyroster/CostShare" "coefficient" "D" (.double (0 : UInt64)) := D117 (Or.inr (hw _ (List.mem_of_getElem? (i := 210) rfl))) (ty := .double) (by decide)
    have F117_usedCount_b117 : Fld Z h117 b117 "com/example/skyroster/skyroster/CostShare" "usedCount" "I" (.int (0 : Int32)) := D117 (Or.inr (hw _ (List.mem_of_getElem? (i := 226) rfl))) (ty := .int) (by decide)
    have F117_taskCount_b117 : Fld Z h117 b117 "com/example/skyroster/skyroster/CostShare" "taskCount" "I" (.int (0 : Int32)) := D117 (Or.inl (hw _ (List.mem_of_getElem? (i := 233) rfl))) (ty := .int) (by decide)
    have F117_taskCostSum_b117 : Fld Z h117 b117 "com/example/skyroster/skyroster/CostShare" "taskCostSum" "D" (.double (0 : UInt64)) := D117 (Or.inl (hw _ (List.mem_of_getElem? (i := 235) rfl))) (ty := .double) (by decide)
    have F117_cost_b117 : Fld Z h117 b117 "com/example/skyroster/skyroster/CostShare" "cost" "D" (.double (0 : UInt64)) := D117 (Or.inl (hw _ (List.mem_of_getElem? (i := 242) rfl))) (ty := .double) (by decide)
    show own_Go p.tables e below K (T117.setTop (mkF m 70 #[.val (.int q1), .val (.int q2), .val (.int q3), .val (.int q4), .val (.int q5), .val (.int q6), .val (.double (FP.l2d q1.toInt64)), .second, .val (.ref r0), .val (.ref al), .val (.ref b113), .unset, .unset, .unset, .unset, .unset, .unset, .unset, .unset, .unset, .unset, .unset, .unset, .unset, .unset, .unset, .unset, .unset, .unset, .unset, .unset, .unset, .unset] [(.ref b117)]))
    refine own_by (fun t k => XS.dup X117.here hx rfl (hb hby at_70) rfl rfl k) ?_
    show own_Go p.tables e below K (T117.setTop (mkF m 71 #[.val (.int q1), .val (.int q2), .val (.int q3), .val (.int q4), .val (.int q5), .val (.int q6), .val (.double (FP.l2d q1.toInt64)), .second, .val (.ref r0), .val (.ref al), .val (.ref b113), .unset, .unset, .unset, .unset, .unset, .unset, .unset, .unset, .unset, .unset, .unset, .unset, .unset, .unset, .unset, .unset, .unset, .unset, .unset, .unset, .unset, .unset] [(.ref b117), (.ref b117)]))
    refine own_by (fun t k => XS.aload X117.here hx rfl (hb hby at_71) rfl rfl k) ?_
    show own_Go p.tables e below K (T117.setTop (mkF m 73 #[.val (.int q1), .val (.int q2), .val (.int q3), .val (.int q4), .val (.int q5), .val (.int q6), .val (.double (FP.l2d q1.toInt64)), .second, .val (.ref r0), .val (.ref al), .val (.ref b113), .unset, .unset, .unset, .unset, .unset, .unset, .unset, .unset, .unset, .unset, .unset, .unset, .unset, .unset, .unset, .unset, .unset, .unset, .unset, .unset, .unset, .unset] [(.ref b113), (.ref b117), (.ref b117)]))
    obtain ⟨_, _, ⟨T118, L118, k118, n118⟩, -, X118, ⟨Lc118, hQ118, l118, y118, z118⟩, st118⟩ := X117.specialBack hx (y := (⟨"com/example/skyroster/skyroster/CostShare", "<init>", "(Lcom/example/skyroster/skyroster/Satellite;)V"⟩ : MethodName)) rfl hown (mvT hZ (hw _ (List.mem_of_getElem? (i := 200) rfl))) (mvT hZ (hw _ (List.mem_of_getElem? (i := 201) rfl))) (mvT hZ (hw _ (List.mem_of_getElem? (i := 202) rfl))) (by decide) (backOf (W := 1) (own_rmcsi l Z aw hw [] b117 b113 (FP.l2d q1.toInt64) lw116 u dd lz ez em mr h117 n0 Z117 A117 gn_b117 F117_coefficient_b117 F117_usedCount_b117 F117_taskCount_b117 F117_taskCostSum_b117 F117_cost_b117 Ex117_b113 F117_costCoefficient_b113 F117_usedWindows_b113 xa117_lw116 O117 S0) hZ (hw _ (List.mem_of_getElem? (i := 202) rfl)) (hw _ (List.mem_of_getElem? (i := 199) rfl)) (by decide) (by decide)) (g := (mkF m 73 #[.val (.int q1), .val (.int q2), .val (.int q3), .val (.int q4), .val (.int q5), .val (.int q6), .val (.double (FP.l2d q1.toInt64)), .second, .val (.ref r0), .val (.ref al), .val (.ref b113), .unset, .unset, .unset, .unset, .unset, .unset, .unset, .unset, .unset, .unset, .unset, .unset, .unset, .unset, .unset, .unset, .unset, .unset, .unset, .unset, .unset, .unset] [(.ref b113), (.ref b117), (.ref b117)])) rfl (by rw [hml]; rfl) (Steps.refl _) (a := b117) (argsL := [(.ref b113)]) (rest := [(.ref b117)]) (lenOf own_pd16 rfl) rfl (by show 2 * 0 + _ ≤ _; exact Nat.le_of_eq rfl) (hb hby at_73) (fun _ _ => ⟨rfl, e117, (by decide : 16 + 0 ≤ _), (by decide : 64 + 0 ≤ _)⟩)
    dsimp only [Pt.U, Pt.locs, Pt.cells, Pt.slots] at X118 l118 y118 z118 st118 hQ118
    subst l118 y118 z118
    obtain ⟨rfl, N118q, Kp118, Bp118⟩ := hQ118
    have N118 := Fr.app N116 N118q
    refine own_by (fun t k => st118.trans k) ?_
    have xa118_el := xa117_el.keep Kp118 (ninS ne_el_b117 nin0)
    have xa118_lw116 := xa117_lw116.keep Kp118 (ninS ne_lw116_b117 nin0)
    have F118_modCount_r0 := F117_modCount_r0.keep Kp118 (ninS ne_r0_b117 nin0)
    have F118_elementData_r0 := F117_elementData_r0.keep Kp118 (ninS ne_r0_b117 nin0)
    have F118_size_r0 := F117_size_r0.keep Kp118 (ninS ne_r0_b117 nin0)
    have F118_modCount_al := F117_modCount_al.keep Kp118 (ninS ne_al_b117 nin0)
    have F118_elementData_al := F117_elementData_al.keep Kp118 (ninS ne_al_b117 nin0)
    have F118_size_al := F117_size_al.keep Kp118 (ninS ne_al_b117 nin0)
    have F118_costCoefficient_b113 := F117_costCoefficient_b113.keep Kp118 (ninS ne_b113_b117 nin0)
    have F118_usedWindows_b113 := F117_usedWindows_b113.keep Kp118 (ninS ne_b113_b117 nin0)
    have Ex118_r0 := Ex117_r0.keep Kp118
    have Ex118_al := Ex117_al.keep Kp118
    have Ex118_b113 := Ex117_b113.keep Kp118
    have Ex118_b117 := A117.keep Kp118
    have K118 := K117.trans Kp118 (allS (Or.inr sz_b117) (all0))
    have Z118 := Nat.le_trans Z117 Kp118.1
    have O118 := O117.keep Kp118 (allS gn_b117 (all0))
    show own_Go p.tables e below K (T118.setTop (mkF m 76 #[.val (.int q1), .val (.int q2), .val (.int q3), .val (.int q4), .val (.int q5), .val (.int q6), .val (.double (FP.l2d q1.toInt64)), .second, .val (.ref r0), .val (.ref al), .val (.ref b113), .unset, .unset, .unset, .unset, .unset, .unset, .unset, .unset, .unset, .unset, .unset, .unset, .unset, .unset, .unset, .unset, .unset, .unset, .unset, .unset, .unset, .unset] [(.ref b117)]))
    refine own_by (fun t k => XS.astore X118.here hx rfl (hb hby at_76) rfl rfl (l' := #[.val (.int q1), .val (.int q2), .val (.int q3), .val (.int q4), .val (.int q5), .val (.int q6), .val (.double (FP.l2d q1.toInt64)), .second, .val (.ref r0), .val (.ref al), .val (.ref b113), .val (.ref b117), .unset, .unset, .unset, .unset, .unset, .unset, .unset, .unset, .unset, .unset, .unset, .unset, .unset, .unset, .unset, .unset, .unset, .unset, .unset, .unset, .unset]) rfl k) ?_
    show own_Go p.tables e below K (T118.setTop (mkF m 78 #[.val (.int q1), .val (.int q2), .val (.int q3), .val (.int q4), .val (.int q5), .val (.int q6), .val (.double (FP.l2d q1.toInt64)), .second, .val (.ref r0), .val (.ref al), .val (.ref b113), .val (.ref b117), .unset, .unset, .unset, .unset, .unset, .unset, .unset, .unset, .unset, .unset, .unset, .unset, .unset, .unset, .unset, .unset, .unset, .unset, .unset, .unset, .unset] []))
    refine own_by (fun t k => XS.iloadN X118.here hx rfl (hb hby at_78) rfl k) ?_
    show own_Go p.tables e below K (T118.setTop (mkF m 79 #[.val (.int q1), .val (.int q2), .val (.int q3), .val (.int q4), .val (.int q5), .val (.int q6), .val (.double (FP.l2d q1.toInt64)), .second, .val (.ref r0), .val (.ref al), .val (.ref b113), .val (.ref b117), .unset, .unset, .unset, .unset, .unset, .unset, .unset, .unset, .unset, .unset, .unset, .unset, .unset, .unset, .unset, .unset, .unset, .unset, .unset, .unset, .unset] [(.int q2)]))
    refine own_by (fun t k => XS.i2dS X118.here hx rfl (hb hby at_79) rfl (i2d_w _) k) ?_
    show own_Go p.tables e below K (T118.setTop (mkF m 80 #[.val (.int q1), .val (.int q2), .val (.int q3), .val (.int q4), .val (.int q5), .val (.int q6), .val (.double (FP.l2d q1.toInt64)), .second, .val (.ref r0), .val (.ref al), .val (.ref b113), .val (.ref b117), .unset, .unset, .unset, .unset, .unset, .unset, .unset, .unset, .unset, .unset, .unset, .unset, .unset, .unset, .unset, .unset, .unset, .unset, .unset, .unset, .unset] [(.double (FP.l2d q2.toInt64))]))
    refine own_by (fun t k => XS.dstore X118.here hx rfl (hb hby at_80) rfl (l' := #[.val (.int q1), .val (.int q2), .val (.int q3), .val (.int q4), .val (.int q5), .val (.int q6), .val (.double (FP.l2d q1.toInt64)), .second, .val (.ref r0), .val (.ref al), .val (.ref b113), .val (.ref b117), .val (.double (FP.l2d q2.toInt64)), .second, .unset, .unset, .unset, .unset, .unset, .unset, .unset, .unset, .unset, .unset, .unset, .unset, .unset, .unset, .unset, .unset, .unset, .unset, .unset]) rfl k) ?_
    show own_Go p.tables e below K (T118.setTop (mkF m 82 #[.val (.int q1), .val (.int q2), .val (.int q3), .val (.int q4), .val (.int q5), .val (.int q6), .val (.double (FP.l2d q1.toInt64)), .second, .val (.ref r0), .val (.ref al), .val (.ref b113), .val (.ref b117), .val (.double (FP.l2d q2.toInt64)), .second, .unset, .unset, .unset, .unset, .unset, .unset, .unset, .unset, .unset, .unset, .unset, .unset, .unset, .unset, .unset, .unset, .unset, .unset, .unset] []))
    refine own_by (fun t k => XS.iloadN X118.here hx rfl (hb hby at_82) rfl k) ?_
    show own_Go p.tables e below K (T118.setTop (mkF m 83 #[.val (.int q1), .val (.int q2), .val (.int q3), .val (.int q4), .val (.int q5), .val (.int q6), .val (.double (FP.l2d q1.toInt64)), .second, .val (.ref r0), .val (.ref al), .val (.ref b113), .val (.ref b117), .val (.double (FP.l2d q2.toInt64)), .second, .unset, .unset, .unset, .unset, .unset, .unset, .unset, .unset, .unset, .unset, .unset, .unset, .unset, .unset, .unset, .unset, .unset, .unset, .unset] [(.int q3)]))
    refine own_by (fun t k => XS.bipush X118.here hx rfl (hb hby at_83) k) ?_
    show own_Go p.tables e below K (T118.setTop (mkF m 85 #[.val (.int q1), .val (.int q2), .val (.int q3), .val (.int q4), .val (.int q5), .val (.int q6), .val (.double (FP.l2d q1.toInt64)), .second, .val (.ref r0), .val (.ref al), .val (.ref b113), .val (.ref b117), .val (.double (FP.l2d q2.toInt64)), .second, .unset, .unset, .unset, .unset, .unset, .unset, .unset, .unset, .unset, .unset, .unset, .unset, .unset, .unset, .unset, .unset, .unset, .unset, .unset] [(.int (8 : Int32)), (.int q3)]))
    refine own_by (fun t k => XS.ishr X118.here hx rfl (hb hby at_85) rfl k) ?_
    show own_Go p.tables e below K (T118.setTop (mkF m 86 #[.val (.int q1), .val (.int q2), .val (.int q3), .val (.int q4), .val (.int q5), .val (.int q6), .val (.double (FP.l2d q1.toInt64)), .second, .val (.ref r0), .val (.ref al), .val (.ref b113), .val (.ref b117), .val (.double (FP.l2d q2.toInt64)), .second, .unset, .unset, .unset, .unset, .unset, .unset, .unset, .unset, .unset, .unset, .unset, .unset, .unset, .unset, .unset, .unset, .unset, .unset, .unset] [(.int (q3 >>> ((8 : Int32) &&& 31)))]))
    refine own_by (fun t k => XS.i2dS X118.here hx rfl (hb hby at_86) rfl (i2d_w _) k) ?_
    show own_Go p.tables e below K (T118.setTop (mkF m 87 #[.val (.int q1), .val (.int q2), .val (.int q3), .val (.int q4), .val (.int q5), .val (.int q6), .val (.double (FP.l2d q1.toInt64)), .second, .val (.ref r0), .val (.ref al), .val (.ref b113), .val (.ref b117), .val (.double (FP.l2d q2.toInt64)), .second, .unset, .unset, .unset, .unset, .unset, .unset, .unset, .unset, .unset, .unset, .unset, .unset, .unset, .unset, .unset, .unset, .unset, .unset, .unset] [(.double (FP.l2d (q3 >>> ((8 : Int32) &&& 31)).toInt64))]))
    refine own_by (fun t k => XS.dstore X118.here hx rfl (hb hby at_87) rfl (l' := #[.val (.int q1), .val (.int q2), .val (.int q3), .val (.int q4), .val (.int q5), .val (.int q6), .val (.double (FP.l2d q1.toInt64)), .second, .val (.ref r0), .val (.ref al), .val (.ref b113), .val (.ref b117), .val (.double (FP.l2d q2.toInt64)), .second, .val (.double (FP.l2d (q3 >>> ((8 : Int32) &&& 31)).toInt64)), .second, .unset, .unset, .unset, .unset, .unset, .unset, .unset, .unset, .unset, .unset, .unset, .unset, .unset, .unset, .unset, .unset, .unset]) rfl k) ?_
    show own_Go p.tables e below K (T118.setTop (mkF m 89 #[.val (.int q1), .val (.int q2), .val (.int q3), .val (.int q4), .val (.int q5), .val (.int q6), .val (.double (FP.l2d q1.toInt64)), .second, .val (.ref r0), .val (.ref al), .val (.ref b113), .val (.ref b117), .val (.double (FP.l2d q2.toInt64)), .second, .val (.double (FP.l2d (q3 >>> ((8 : Int32) &&& 31)).toInt64)), .second, .unset, .unset, .unset, .unset, .unset, .unset, .unset, .unset, .unset, .unset, .unset, .unset, .unset, .unset, .unset, .unset, .unset] []))
    refine own_by (fun t k => XS.iloadN X118.here hx rfl (hb hby at_89) rfl k) ?_
    show own_Go p.tables e below K (T118.setTop (mkF m 90 #[.val (.int q1), .val (.int q2), .val (.int q3), .val (.int q4), .val (.int q5), .val (.int q6), .val (.double (FP.l2d q1.toInt64)), .second, .val (.ref r0), .val (.ref al), .val (.ref b113), .val (.ref b117), .val (.double (FP.l2d q2.toInt64)), .second, .val (.double (FP.l2d (q3 >>> ((8 : Int32) &&& 31)).toInt64)), .second, .unset, .unset, .unset, .unset, .unset, .unset, .unset, .unset, .unset, .unset, .unset, .unset, .unset, .unset, .unset, .unset, .unset] [(.int q3)]))
    refine own_by (fun t k => XS.i2dS X118.here hx rfl (hb hby at_90) rfl (i2d_w _) k) ?_
    show own_Go p.tables e below K (T118.setTop (mkF m 91 #[.val (.int q1), .val (.int q2), .val (.int q3), .val (.int q4), .val (.int q5), .val (.int q6), .val (.double (FP.l2d q1.toInt64)), .second, .val (.ref r0), .val (.ref al), .val (.ref b113), .val (.ref b117), .val (.double (FP.l2d q2.toInt64)), .second, .val (.double (FP.l2d (q3 >>> ((8 : Int32) &&& 31)).toInt64)), .second, .unset, .unset, .unset, .unset, .unset, .unset, .unset, .unset, .unset, .unset, .unset, .unset, .unset, .unset, .unset, .unset, .unset] [(.double (FP.l2d q3.toInt64))]))
    refine own_by (fun t k => XS.dstore X118.here hx rfl (hb hby at_91) rfl (l' := #[.val (.int q1), .val (.int q2), .val (.int q3), .val (.int q4), .val (.int q5), .val (.int q6), .val (.double (FP.l2d q1.toInt64)), .second, .val (.ref r0), .val (.ref al), .val (.ref b113), .val (.ref b117), .val (.double (FP.l2d q2.toInt64)), .second, .val (.double (FP.l2d (q3 >>> ((8 : Int32) &&& 31)).toInt64)), .second, .val (.double (FP.l2d q3.toInt64)), .second, .unset, .unset, .unset, .unset, .unset, .unset, .unset, .unset, .unset, .unset, .unset, .unset, .unset, .unset, .unset]) rfl k) ?_
    have J121 : ∀ (T2' : State) (L2' : List Loc) (cc : Int32) (ds co : UInt64), Stand p l e room_1 (Z.setVm T115.vm) m #[(.int q1), (.int q2), (.int q3), (.int q4), (.int q5), (.int q6)] below meth c T2' L2' 16 64 → Fr n0 L2' → n0 ≤ T2'.heap.size → Old Z n0 T2'.heap → Keep h0 T2'.heap [b113] → own_CS Z T2'.heap b117 (FP.l2d q1.toInt64) u cc ds co → Jvm.Free.Fl.Mag64 1100 ds → Jvm.Free.Fl.NoNaN64 co → own_Go p.tables e below K (T2'.setTop (mkF m 121 #[.val (.int q1), .val (.int q2), .val (.int q3), .val (.int q4), .val (.int q5), .val (.int q6), .val (.double (FP.l2d q1.toInt64)), .second, .val (.ref r0), .val (.ref al), .val (.ref b113), .val (.ref b117), .val (.double (FP.l2d q2.toInt64)), .second, .val (.double (FP.l2d (q3 >>> ((8 : Int32) &&& 31)).toInt64)), .second, .val (.double (FP.l2d q3.toInt64)), .second, .unset, .unset, .unset, .unset, .unset, .unset, .unset, .unset, .unset, .unset, .unset, .unset, .unset, .unset, .unset] [])) := by
      intro T2' L2' cc ds co X2 N2 Z2 O2 K2 B2 hds hnco
      have hnds := own_mm hds (by decide)
      show own_Go p.tables e below K (T2'.setTop (mkF m 121 #[.val (.int q1), .val (.int q2), .val (.int q3), .val (.int q4), .val (.int q5), .val (.int q6), .val (.double (FP.l2d q1.toInt64)), .second, .val (.ref r0), .val (.ref al), .val (.ref b113), .val (.ref b117), .val (.double (FP.l2d q2.toInt64)), .second, .val (.double (FP.l2d (q3 >>> ((8 : Int32) &&& 31)).toInt64)), .second, .val (.double (FP.l2d q3.toInt64)), .second, .unset, .unset, .unset, .unset, .unset, .unset, .unset, .unset, .unset, .unset, .unset, .unset, .unset, .unset, .unset] []))
      refine own_by (fun t k => XS.aload X2.here hx rfl (hb hby at_121) rfl rfl k) ?_
      show own_Go p.tables e below K (T2'.setTop (mkF m 123 #[.val (.int q1), .val (.int q2), .val (.int q3), .val (.int q4), .val (.int q5), .val (.int q6), .val (.double (FP.l2d q1.toInt64)), .second, .val (.ref r0), .val (.ref al), .val (.ref b113), .val (.ref b117), .val (.double (FP.l2d q2.toInt64)), .second, .val (.double (FP.l2d (q3 >>> ((8 : Int32) &&& 31)).toInt64)), .second, .val (.double (FP.l2d q3.toInt64)), .second, .unset, .unset, .unset, .unset, .unset, .unset, .unset, .unset, .unset, .unset, .unset, .unset, .unset, .unset, .unset] [(.ref b117)]))
      obtain ⟨T119, X119, e119, st119⟩ := getF X2 hx hZ hown (host := "") (Or.inl (hw _ (List.mem_of_getElem? (i := 243) rfl))) Via.refl rfl B2.2.2.2.1 (g := (mkF m 123 #[.val (.int q1), .val (.int q2), .val (.int q3), .val (.int q4), .val (.int q5), .val (.int q6), .val (.double (FP.l2d q1.toInt64)), .second, .val (.ref r0), .val (.ref al), .val (.ref b113), .val (.ref b117), .val (.double (FP.l2d q2.toInt64)), .second, .val (.double (FP.l2d (q3 >>> ((8 : Int32) &&& 31)).toInt64)), .second, .val (.double (FP.l2d q3.toInt64)), .second, .unset, .unset, .unset, .unset, .unset, .unset, .unset, .unset, .unset, .unset, .unset, .unset, .unset, .unset, .unset] [(.ref b117)])) rfl rfl (hb hby at_123)
      refine own_by st119 ?_
      show own_Go p.tables e below K (T119.setTop (mkF m 126 #[.val (.int q1), .val (.int q2), .val (.int q3), .val (.int q4), .val (.int q5), .val (.int q6), .val (.double (FP.l2d q1.toInt64)), .second, .val (.ref r0), .val (.ref al), .val (.ref b113), .val (.ref b117), .val (.double (FP.l2d q2.toInt64)), .second, .val (.double (FP.l2d (q3 >>> ((8 : Int32) &&& 31)).toInt64)), .second, .val (.double (FP.l2d q3.toInt64)), .second, .unset, .unset, .unset, .unset, .unset, .unset, .unset, .unset, .unset, .unset, .unset, .unset, .unset, .unset, .unset] [(.int cc)]))
      refine own_by (fun t k => XS.istore X119.here hx rfl (hb hby at_126) rfl (l' := #[.val (.int q1), .val (.int q2), .val (.int q3), .val (.int q4), .val (.int q5), .val (.int q6), .val (.double (FP.l2d q1.toInt64)), .second, .val (.ref r0), .val (.ref al), .val (.ref b113), .val (.ref b117), .val (.double (FP.l2d q2.toInt64)), .second, .val (.double (FP.l2d (q3 >>> ((8 : Int32) &&& 31)).toInt64)), .second, .val (.double (FP.l2d q3.toInt64)), .second, .val (.int cc), .unset, .unset, .unset, .unset, .unset, .unset, .unset, .unset, .unset, .unset, .unset, .unset, .unset, .unset]) rfl k) ?_
      show own_Go p.tables e below K (T119.setTop (mkF m 128 #[.val (.int q1), .val (.int q2), .val (.int q3), .val (.int q4), .val (.int q5), .val (.int q6), .val (.double (FP.l2d q1.toInt64)), .second, .val (.ref r0), .val (.ref al), .val (.ref b113), .val (.ref b117), .val (.double (FP.l2d q2.toInt64)), .second, .val (.double (FP.l2d (q3 >>> ((8 : Int32) &&& 31)).toInt64)), .second, .val (.double (FP.l2d q3.toInt64)), .second, .val (.int cc), .unset, .unset, .unset, .unset, .unset, .unset, .unset, .unset, .unset, .unset, .unset, .unset, .unset, .unset] []))
      refine own_by (fun t k => XS.aload X119.here hx rfl (hb hby at_128) rfl rfl k) ?_
      show own_Go p.tables e below K (T119.setTop (mkF m 130 #[.val (.int q1), .val (.int q2), .val (.int q3), .val (.int q4), .val (.int q5), .val (.int q6), .val (.double (FP.l2d q1.toInt64)), .second, .val (.ref r0), .val (.ref al), .val (.ref b113), .val (.ref b117), .val (.double (FP.l2d q2.toInt64)), .second, .val (.double (FP.l2d (q3 >>> ((8 : Int32) &&& 31)).toInt64)), .second, .val (.double (FP.l2d q3.toInt64)), .second, .val (.int cc), .unset, .unset, .unset, .unset, .unset, .unset, .unset, .unset, .unset, .unset, .unset, .unset, .unset, .unset] [(.ref b117)]))
      obtain ⟨T120, X120, e120, st120⟩ := getF X119 hx hZ hown (host := "") (Or.inl (hw _ (List.mem_of_getElem? (i := 244) rfl))) Via.refl e119 B2.2.2.1 (g := (mkF m 130 #[.val (.int q1), .val (.int q2), .val (.int q3), .val (.int q4), .val (.int q5), .val (.int q6), .val (.double (FP.l2d q1.toInt64)), .second, .val (.ref r0), .val (.ref al), .val (.ref b113), .val (.ref b117), .val (.double (FP.l2d q2.toInt64)), .second, .val (.double (FP.l2d (q3 >>> ((8 : Int32) &&& 31)).toInt64)), .second, .val (.double (FP.l2d q3.toInt64)), .second, .val (.int cc), .unset, .unset, .unset, .unset, .unset, .unset, .unset, .unset, .unset, .unset, .unset, .unset, .unset, .unset] [(.ref b117)])) rfl rfl (hb hby at_130)
      refine own_by st120 ?_
      show own_Go p.tables e below K (T120.setTop (mkF m 133 #[.val (.int q1), .val (.int q2), .val (.int q3), .val (.int q4), .val (.int q5), .val (.int q6), .val (.double (FP.l2d q1.toInt64)), .second, .val (.ref r0), .val (.ref al), .val (.ref b113), .val (.ref b117), .val (.double (FP.l2d q2.toInt64)), .second, .val (.double (FP.l2d (q3 >>> ((8 : Int32) &&& 31)).toInt64)), .second, .val (.double (FP.l2d q3.toInt64)), .second, .val (.int cc), .unset, .unset, .unset, .unset, .unset, .unset, .unset, .unset, .unset, .unset, .unset, .unset, .unset, .unset] [(.int u)]))
      refine own_by (fun t k => XS.istore X120.here hx rfl (hb hby at_133) rfl (l' := #[.val (.int q1), .val (.int q2), .val (.int q3), .val (.int q4), .val (.int q5), .val (.int q6), .val (.double (FP.l2d q1.toInt64)), .second, .val (.ref r0), .val (.ref al), .val (.ref b113), .val (.ref b117), .val (.double (FP.l2d q2.toInt64)), .second, .val (.double (FP.l2d (q3 >>> ((8 : Int32) &&& 31)).toInt64)), .second, .val (.double (FP.l2d q3.toInt64)), .second, .val (.int cc), .val (.int u), .unset, .unset, .unset, .unset, .unset, .unset, .unset, .unset, .unset, .unset, .unset, .unset, .unset]) rfl k) ?_
      show own_Go p.tables e below K (T120.setTop (mkF m 135 #[.val (.int q1), .val (.int q2), .val (.int q3), .val (.int q4), .val (.int q5), .val (.int q6), .val (.double (FP.l2d q1.toInt64)), .second, .val (.ref r0), .val (.ref al), .val (.ref b113), .val (.ref b117), .val (.double (FP.l2d q2.toInt64)), .second, .val (.double (FP.l2d (q3 >>> ((8 : Int32) &&& 31)).toInt64)), .second, .val (.double (FP.l2d q3.toInt64)), .second, .val (.int cc), .val (.int u), .unset, .unset, .unset, .unset, .unset, .unset, .unset, .unset, .unset, .unset, .unset, .unset, .unset] []))
      refine own_by (fun t k => XS.aload X120.here hx rfl (hb hby at_135) rfl rfl k) ?_
      show own_Go p.tables e below K (T120.setTop (mkF m 137 #[.val (.int q1), .val (.int q2), .val (.int q3), .val (.int q4), .val (.int q5), .val (.int q6), .val (.double (FP.l2d q1.toInt64)), .second, .val (.ref r0), .val (.ref al), .val (.ref b113), .val (.ref b117), .val (.double (FP.l2d q2.toInt64)), .second, .val (.double (FP.l2d (q3 >>> ((8 : Int32) &&& 31)).toInt64)), .second, .val (.double (FP.l2d q3.toInt64)), .second, .val (.int cc), .val (.int u), .unset, .unset, .unset, .unset, .unset, .unset, .unset, .unset, .unset, .unset, .unset, .unset, .unset] [(.ref b117)]))
      obtain ⟨T121, X121, e121, st121⟩ := getF X120 hx hZ hown (host := "") (Or.inl (hw _ (List.mem_of_getElem? (i := 245) rfl))) Via.refl e120 B2.2.2.2.2.1 (g := (mkF m 137 #[.val (.int q1), .val (.int q2), .val (.int q3), .val (.int q4), .val (.int q5), .val (.int q6), .val (.double (FP.l2d q1.toInt64)), .second, .val (.ref r0), .val (.ref al), .val (.ref b113), .val (.ref b117), .val (.double (FP.l2d q2.toInt64)), .second, .val (.double (FP.l2d (q3 >>> ((8 : Int32) &&& 31)).toInt64)), .second, .val (.double (FP.l2d q3.toInt64)), .second, .val (.int cc), .val (.int u), .unset, .unset, .unset, .unset, .unset, .unset, .unset, .unset, .unset, .unset, .unset, .unset, .unset] [(.ref b117)])) rfl rfl (hb hby at_137)
      refine own_by st121 ?_
      show own_Go p.tables e below K (T121.setTop (mkF m 140 #[.val (.int q1), .val (.int q2), .val (.int q3), .val (.int q4), .val (.int q5), .val (.int q6), .val (.double (FP.l2d q1.toInt64)), .second, .val (.ref r0), .val (.ref al), .val (.ref b113), .val (.ref b117), .val (.double (FP.l2d q2.toInt64)), .second, .val (.double (FP.l2d (q3 >>> ((8 : Int32) &&& 31)).toInt64)), .second, .val (.double (FP.l2d q3.toInt64)), .second, .val (.int cc), .val (.int u), .unset, .unset, .unset, .unset, .unset, .unset, .unset, .unset, .unset, .unset, .unset, .unset, .unset] [(.double ds)]))
      refine own_by (fun t k => XS.dstore X121.here hx rfl (hb hby at_140) rfl (l' := #[.val (.int q1), .val (.int q2), .val (.int q3), .val (.int q4), .val (.int q5), .val (.int q6), .val (.double (FP.l2d q1.toInt64)), .second, .val (.ref r0), .val (.ref al), .val (.ref b113), .val (.ref b117), .val (.double (FP.l2d q2.toInt64)), .second, .val (.double (FP.l2d (q3 >>> ((8 : Int32) &&& 31)).toInt64)), .second, .val (.double (FP.l2d q3.toInt64)), .second, .val (.int cc), .val (.int u), .val (.double ds), .second, .unset, .unset, .unset, .unset, .unset, .unset, .unset, .unset, .unset, .unset, .unset]) rfl k) ?_
      show own_Go p.tables e below K (T121.setTop (mkF m 142 #[.val (.int q1), .val (.int q2), .val (.int q3), .val (.int q4), .val (.int q5), .val (.int q6), .val (.double (FP.l2d q1.toInt64)), .second, .val (.ref r0), .val (.ref al), .val (.ref b113), .val (.ref b117), .val (.double (FP.l2d q2.toInt64)), .second, .val (.double (FP.l2d (q3 >>> ((8 : Int32) &&& 31)).toInt64)), .second, .val (.double (FP.l2d q3.toInt64)), .second, .val (.int cc), .val (.int u), .val (.double ds), .second, .unset, .unset, .unset, .unset, .unset, .unset, .unset, .unset, .unset, .unset, .unset] []))
      refine own_by (fun t k => XS.aload X121.here hx rfl (hb hby at_142) rfl rfl k) ?_
      show own_Go p.tables e below K (T121.setTop (mkF m 144 #[.val (.int q1), .val (.int q2), .val (.int q3), .val (.int q4), .val (.int q5), .val (.int q6), .val (.double (FP.l2d q1.toInt64)), .second, .val (.ref r0), .val (.ref al), .val (.ref b113), .val (.ref b117), .val (.double (FP.l2d q2.toInt64)), .second, .val (.double (FP.l2d (q3 >>> ((8 : Int32) &&& 31)).toInt64)), .second, .val (.double (FP.l2d q3.toInt64)), .second, .val (.int cc), .val (.int u), .val (.double ds), .second, .unset, .unset, .unset, .unset, .unset, .unset, .unset, .unset, .unset, .unset, .unset] [(.ref b117)]))
      obtain ⟨T122, X122, e122, st122⟩ := getF X121 hx hZ hown (host := "") (Or.inl (hw _ (List.mem_of_getElem? (i := 246) rfl))) Via.refl e121 B2.2.2.2.2.2 (g := (mkF m 144 #[.val (.int q1), .val (.int q2), .val (.int q3), .val (.int q4), .val (.int q5), .val (.int q6), .val (.double (FP.l2d q1.toInt64)), .second, .val (.ref r0), .val (.ref al), .val (.ref b113), .val (.ref b117), .val (.double (FP.l2d q2.toInt64)), .second, .val (.double (FP.l2d (q3 >>> ((8 : Int32) &&& 31)).toInt64)), .second, .val (.double (FP.l2d q3.toInt64)), .second, .val (.int cc), .val (.int u), .val (.double ds), .second, .unset, .unset, .unset, .unset, .unset, .unset, .unset, .unset, .unset, .unset, .unset] [(.ref b117)])) rfl rfl (hb hby at_144)
      refine own_by st122 ?_
      show own_Go p.tables e below K (T122.setTop (mkF m 147 #[.val (.int q1), .val (.int q2), .val (.int q3), .val (.int q4), .val (.int q5), .val (.int q6), .val (.double (FP.l2d q1.toInt64)), .second, .val (.ref r0), .val (.ref al), .val (.ref b113), .val (.ref b117), .val (.double (FP.l2d q2.toInt64)), .second, .val (.double (FP.l2d (q3 >>> ((8 : Int32) &&& 31)).toInt64)), .second, .val (.double (FP.l2d q3.toInt64)), .second, .val (.int cc), .val (.int u), .val (.double ds), .second, .unset, .unset, .unset, .unset, .unset, .unset, .unset, .unset, .unset, .unset, .unset] [(.double co)]))
      refine own_by (fun t k => XS.dstore X122.here hx rfl (hb hby at_147) rfl (l' := #[.val (.int q1), .val (.int q2), .val (.int q3), .val (.int q4), .val (.int q5), .val (.int q6), .val (.double (FP.l2d q1.toInt64)), .second, .val (.ref r0), .val (.ref al), .val (.ref b113), .val (.ref b117), .val (.double (FP.l2d q2.toInt64)), .second, .val (.double (FP.l2d (q3 >>> ((8 : Int32) &&& 31)).toInt64)), .second, .val (.double (FP.l2d q3.toInt64)), .second, .val (.int cc), .val (.int u), .val (.double ds), .second, .val (.double co), .second, .unset, .unset, .unset, .unset, .unset, .unset, .unset, .unset, .unset]) rfl k) ?_
      show own_Go p.tables e below K (T122.setTop (mkF m 149 #[.val (.int q1), .val (.int q2), .val (.int q3), .val (.int q4), .val (.int q5), .val (.int q6), .val (.double (FP.l2d q1.toInt64)), .second, .val (.ref r0), .val (.ref al), .val (.ref b113), .val (.ref b117), .val (.double (FP.l2d q2.toInt64)), .second, .val (.double (FP.l2d (q3 >>> ((8 : Int32) &&& 31)).toInt64)), .second, .val (.double (FP.l2d q3.toInt64)), .second, .val (.int cc), .val (.int u), .val (.double ds), .second, .val (.double co), .second, .unset, .unset, .unset, .unset, .unset, .unset, .unset, .unset, .unset] []))
      refine own_by (fun t k => XS.aload X122.here hx rfl (hb hby at_149) rfl rfl k) ?_
      show own_Go p.tables e below K (T122.setTop (mkF m 151 #[.val (.int q1), .val (.int q2), .val (.int q3), .val (.int q4), .val (.int q5), .val (.int q6), .val (.double (FP.l2d q1.toInt64)), .second, .val (.ref r0), .val (.ref al), .val (.ref b113), .val (.ref b117), .val (.double (FP.l2d q2.toInt64)), .second, .val (.double (FP.l2d (q3 >>> ((8 : Int32) &&& 31)).toInt64)), .second, .val (.double (FP.l2d q3.toInt64)), .second, .val (.int cc), .val (.int u), .val (.double ds), .second, .val (.double co), .second, .unset, .unset, .unset, .unset, .unset, .unset, .unset, .unset, .unset] [(.ref b117)]))
      obtain ⟨cq123, kq123, q123a, q123b, q123c⟩ := isOf hZ e122 B2.1
      obtain ⟨_, _, ⟨T123, L123, k123, n123⟩, -, X123, ⟨Lc123, hQ123, l123, y123, z123⟩, st123⟩ := X122.virtualBack hx (y := (⟨"com/example/skyroster/skyroster/CostShare", "windowCount", "()I"⟩ : MethodName)) (z := (⟨"com/example/skyroster/skyroster/CostShare", "windowCount", "()I"⟩ : MethodName)) hown (mvT hZ (hw _ (List.mem_of_getElem? (i := 247) rfl))) (mvT hZ (hw _ (List.mem_of_getElem? (i := 237) rfl))) (notFace_of_selects (args := #[]) (mvT hZ (hw _ (List.mem_of_getElem? (i := 239) rfl)))) (mvT hZ (hw _ (List.mem_of_getElem? (i := 239) rfl))) (mvT hZ (hw _ (List.mem_of_getElem? (i := 238) rfl))) (by decide) (backOf (W := 0) (own_rmwc l Z aw hw [] b117 _ u cc _ _ T2'.heap n0 Z2 ⟨B2.1, B2.2.1, B2.2.2.1, B2.2.2.2.1, B2.2.2.2.2.1, B2.2.2.2.2.2⟩) hZ (hw _ (List.mem_of_getElem? (i := 240) rfl)) (hw _ (List.mem_of_getElem? (i := 199) rfl)) (by decide) (by decide)) q123a q123c (g := (mkF m 151 #[.val (.int q1), .val (.int q2), .val (.int q3), .val (.int q4), .val (.int q5), .val (.int q6), .val (.double (FP.l2d q1.toInt64)), .second, .val (.ref r0), .val (.ref al), .val (.ref b113), .val (.ref b117), .val (.double (FP.l2d q2.toInt64)), .second, .val (.double (FP.l2d (q3 >>> ((8 : Int32) &&& 31)).toInt64)), .second, .val (.double (FP.l2d q3.toInt64)), .second, .val (.int cc), .val (.int u), .val (.double ds), .second, .val (.double co), .second, .unset, .unset, .unset, .unset, .unset, .unset, .unset, .unset, .unset] [(.ref b117)])) rfl (by rw [hml]; rfl) (Steps.refl _) (argsL := []) (rest := []) (lenOf own_pd14 rfl) rfl (by show 2 * 0 + _ ≤ _; exact Nat.le_of_eq rfl) (hb hby at_151) (fun _ _ => ⟨rfl, e122, (by decide : 16 + 0 ≤ _), (by decide : 64 + 0 ≤ _)⟩)
      dsimp only [Pt.U, Pt.locs, Pt.cells, Pt.slots] at X123 l123 y123 z123 st123 hQ123
      subst l123 y123 z123
      obtain ⟨rfl, N123q, e123⟩ := hQ123
      have N123 := Fr.app N2 N123q
      refine own_by (fun t k => st123.trans k) ?_
      show own_Go p.tables e below K (T123.setTop (mkF m 154 #[.val (.int q1), .val (.int q2), .val (.int q3), .val (.int q4), .val (.int q5), .val (.int q6), .val (.double (FP.l2d q1.toInt64)), .second, .val (.ref r0), .val (.ref al), .val (.ref b113), .val (.ref b117), .val (.double (FP.l2d q2.toInt64)), .second, .val (.double (FP.l2d (q3 >>> ((8 : Int32) &&& 31)).toInt64)), .second, .val (.double (FP.l2d q3.toInt64)), .second, .val (.int cc), .val (.int u), .val (.double ds), .second, .val (.double co), .second, .unset, .unset, .unset, .unset, .unset, .unset, .unset, .unset, .unset] [(.int (cc + u))]))
      refine own_by (fun t k => XS.istore X123.here hx rfl (hb hby at_154) rfl (l' := #[.val (.int q1), .val (.int q2), .val (.int q3), .val (.int q4), .val (.int q5), .val (.int q6), .val (.double (FP.l2d q1.toInt64)), .second, .val (.ref r0), .val (.ref al), .val (.ref b113), .val (.ref b117), .val (.double (FP.l2d q2.toInt64)), .second, .val (.double (FP.l2d (q3 >>> ((8 : Int32) &&& 31)).toInt64)), .second, .val (.double (FP.l2d q3.toInt64)), .second, .val (.int cc), .val (.int u), .val (.double ds), .second, .val (.double co), .second, .val (.int (cc + u)), .unset, .unset, .unset, .unset, .unset, .unset, .unset, .unset]) rfl k) ?_
      show own_Go p.tables e below K (T123.setTop (mkF m 156 #[.val (.int q1), .val (.int q2), .val (.int q3), .val (.int q4), .val (.int q5), .val (.int q6), .val (.double (FP.l2d q1.toInt64)), .second, .val (.ref r0), .val (.ref al), .val (.ref b113), .val (.ref b117), .val (.double (FP.l2d q2.toInt64)), .second, .val (.double (FP.l2d (q3 >>> ((8 : Int32) &&& 31)).toInt64)), .second, .val (.double (FP.l2d q3.toInt64)), .second, .val (.int cc), .val (.int u), .val (.double ds), .second, .val (.double co), .second, .val (.int (cc + u)), .unset, .unset, .unset, .unset, .unset, .unset, .unset, .unset] []))
      refine own_by (fun t k => XS.aload X123.here hx rfl (hb hby at_156) rfl rfl k) ?_
      show own_Go p.tables e below K (T123.setTop (mkF m 158 #[.val (.int q1), .val (.int q2), .val (.int q3), .val (.int q4), .val (.int q5), .val (.int q6), .val (.double (FP.l2d q1.toInt64)), .second, .val (.ref r0), .val (.ref al), .val (.ref b113), .val (.ref b117), .val (.double (FP.l2d q2.toInt64)), .second, .val (.double (FP.l2d (q3 >>> ((8 : Int32) &&& 31)).toInt64)), .second, .val (.double (FP.l2d q3.toInt64)), .second, .val (.int cc), .val (.int u), .val (.double ds), .second, .val (.double co), .second, .val (.int (cc + u)), .unset, .unset, .unset, .unset, .unset, .unset, .unset, .unset] [(.ref b117)]))
      refine own_by (fun t k => XS.dload X123.here hx rfl (hb hby at_158) rfl k) ?_
      show own_Go p.tables e below K (T123.setTop (mkF m 160 #[.val (.int q1), .val (.int q2), .val (.int q3), .val (.int q4), .val (.int q5), .val (.int q6), .val (.double (FP.l2d q1.toInt64)), .second, .val (.ref r0), .val (.ref al), .val (.ref b113), .val (.ref b117), .val (.double (FP.l2d q2.toInt64)), .second, .val (.double (FP.l2d (q3 >>> ((8 : Int32) &&& 31)).toInt64)), .second, .val (.double (FP.l2d q3.toInt64)), .second, .val (.int cc), .val (.int u), .val (.double ds), .second, .val (.double co), .second, .val (.int (cc + u)), .unset, .unset, .unset, .unset, .unset, .unset, .unset, .unset] [(.double (FP.l2d q3.toInt64)), (.ref b117)]))
      obtain ⟨cq124, kq124, q124a, q124b, q124c⟩ := isOf hZ e123 B2.1
      obtain ⟨_, _, ⟨T124, L124, k124, n124⟩, -, X124, ⟨Lc124, hQ124, l124, y124, z124⟩, st124⟩ := X123.virtualBack hx (y := (⟨"com/example/skyroster/skyroster/CostShare", "increase", "(D)D"⟩ : MethodName)) (z := (⟨"com/example/skyroster/skyroster/CostShare", "increase", "(D)D"⟩ : MethodName)) hown (mvT hZ (hw _ (List.mem_of_getElem? (i := 248) rfl))) (mvT hZ (hw _ (List.mem_of_getElem? (i := 249) rfl))) (notFace_of_selects (args := #[]) (mvT hZ (hw _ (List.mem_of_getElem? (i := 251) rfl)))) (mvT hZ (hw _ (List.mem_of_getElem? (i := 251) rfl))) (mvT hZ (hw _ (List.mem_of_getElem? (i := 250) rfl))) (by decide) (backOf (W := 0) (own_rminc l Z aw hw [] b117 (FP.l2d q3.toInt64) (FP.l2d q1.toInt64) u cc ds co T2'.heap n0 Z2 ⟨B2.1, B2.2.1, B2.2.2.1, B2.2.2.2.1, B2.2.2.2.2.1, B2.2.2.2.2.2⟩ (Jvm.Free.Fl.l2d_mag _) (Jvm.Free.Fl.Mag64.mono hds (by decide)) (Jvm.Free.Fl.l2d_mag _)) hZ (hw _ (List.mem_of_getElem? (i := 252) rfl)) (hw _ (List.mem_of_getElem? (i := 199) rfl)) (by decide) (by decide)) q124a q124c (g := (mkF m 160 #[.val (.int q1), .val (.int q2), .val (.int q3), .val (.int q4), .val (.int q5), .val (.int q6), .val (.double (FP.l2d q1.toInt64)), .second, .val (.ref r0), .val (.ref al), .val (.ref b113), .val (.ref b117), .val (.double (FP.l2d q2.toInt64)), .second, .val (.double (FP.l2d (q3 >>> ((8 : Int32) &&& 31)).toInt64)), .second, .val (.double (FP.l2d q3.toInt64)), .second, .val (.int cc), .val (.int u), .val (.double ds), .second, .val (.double co), .second, .val (.int (cc + u)), .unset, .unset, .unset, .unset, .unset, .unset, .unset, .unset] [(.double (FP.l2d q3.toInt64)), (.ref b117)])) rfl (by rw [hml]; rfl) (Steps.refl _) (argsL := [(.double (FP.l2d q3.toInt64))]) (rest := []) (lenOf own_pd17 rfl) rfl (by show 2 * 0 + _ ≤ _; exact Nat.le_of_eq rfl) (hb hby at_160) (fun _ _ => ⟨rfl, e123, (by decide : 16 + 0 ≤ _), (by decide : 64 + 0 ≤ _)⟩)
      dsimp only [Pt.U, Pt.locs, Pt.cells, Pt.slots] at X124 l124 y124 z124 st124 hQ124
      subst l124 y124 z124
      obtain ⟨rfl, N124q, e124⟩ := hQ124
      have N124 := Fr.app N123 N124q
      refine own_by (fun t k => st124.trans k) ?_
      show own_Go p.tables e below K (T124.setTop (mkF m 163 #[.val (.int q1), .val (.int q2), .val (.int q3), .val (.int q4), .val (.int q5), .val (.int q6), .val (.double (FP.l2d q1.toInt64)), .second, .val (.ref r0), .val (.ref al), .val (.ref b113), .val (.ref b117), .val (.double (FP.l2d q2.toInt64)), .second, .val (.double (FP.l2d (q3 >>> ((8 : Int32) &&& 31)).toInt64)), .second, .val (.double (FP.l2d q3.toInt64)), .second, .val (.int cc), .val (.int u), .val (.double ds), .second, .val (.double co), .second, .val (.int (cc + u)), .unset, .unset, .unset, .unset, .unset, .unset, .unset, .unset] [(.double (own_inc (FP.l2d q1.toInt64) u cc ds (FP.l2d q3.toInt64)))]))
      refine own_by (fun t k => XS.dstore X124.here hx rfl (hb hby at_163) rfl (l' := #[.val (.int q1), .val (.int q2), .val (.int q3), .val (.int q4), .val (.int q5), .val (.int q6), .val (.double (FP.l2d q1.toInt64)), .second, .val (.ref r0), .val (.ref al), .val (.ref b113), .val (.ref b117), .val (.double (FP.l2d q2.toInt64)), .second, .val (.double (FP.l2d (q3 >>> ((8 : Int32) &&& 31)).toInt64)), .second, .val (.double (FP.l2d q3.toInt64)), .second, .val (.int cc), .val (.int u), .val (.double ds), .second, .val (.double co), .second, .val (.int (cc + u)), .val (.double (own_inc (FP.l2d q1.toInt64) u cc ds (FP.l2d q3.toInt64))), .second, .unset, .unset, .unset, .unset, .unset, .unset]) rfl k) ?_
      show own_Go p.tables e below K (T124.setTop (mkF m 165 #[.val (.int q1), .val (.int q2), .val (.int q3), .val (.int q4), .val (.int q5), .val (.int q6), .val (.double (FP.l2d q1.toInt64)), .second, .val (.ref r0), .val (.ref al), .val (.ref b113), .val (.ref b117), .val (.double (FP.l2d q2.toInt64)), .second, .val (.double (FP.l2d (q3 >>> ((8 : Int32) &&& 31)).toInt64)), .second, .val (.double (FP.l2d q3.toInt64)), .second, .val (.int cc), .val (.int u), .val (.double ds), .second, .val (.double co), .second, .val (.int (cc + u)), .val (.double (own_inc (FP.l2d q1.toInt64) u cc ds (FP.l2d q3.toInt64))), .second, .unset, .unset, .unset, .unset, .unset, .unset] []))
      refine own_by (fun t k => XS.aload X124.here hx rfl (hb hby at_165) rfl rfl k) ?_
      show own_Go p.tables e below K (T124.setTop (mkF m 167 #[.val (.int q1), .val (.int q2), .val (.int q3), .val (.int q4), .val (.int q5), .val (.int q6), .val (.double (FP.l2d q1.toInt64)), .second, .val (.ref r0), .val (.ref al), .val (.ref b113), .val (.ref b117), .val (.double (FP.l2d q2.toInt64)), .second, .val (.double (FP.l2d (q3 >>> ((8 : Int32) &&& 31)).toInt64)), .second, .val (.double (FP.l2d q3.toInt64)), .second, .val (.int cc), .val (.int u), .val (.double ds), .second, .val (.double co), .second, .val (.int (cc + u)), .val (.double (own_inc (FP.l2d q1.toInt64) u cc ds (FP.l2d q3.toInt64))), .second, .unset, .unset, .unset, .unset, .unset, .unset] [(.ref b117)]))
      refine own_by (fun t k => XS.dload X124.here hx rfl (hb hby at_167) rfl k) ?_
      show own_Go p.tables e below K (T124.setTop (mkF m 169 #[.val (.int q1), .val (.int q2), .val (.int q3), .val (.int q4), .val (.int q5), .val (.int q6), .val (.double (FP.l2d q1.toInt64)), .second, .val (.ref r0), .val (.ref al), .val (.ref b113), .val (.ref b117), .val (.double (FP.l2d q2.toInt64)), .second, .val (.double (FP.l2d (q3 >>> ((8 : Int32) &&& 31)).toInt64)), .second, .val (.double (FP.l2d q3.toInt64)), .second, .val (.int cc), .val (.int u), .val (.double ds), .second, .val (.double co), .second, .val (.int (cc + u)), .val (.double (own_inc (FP.l2d q1.toInt64) u cc ds (FP.l2d q3.toInt64))), .second, .unset, .unset, .unset, .unset, .unset, .unset] [(.double (FP.l2d q3.toInt64)), (.ref b117)]))
      obtain ⟨cq125, kq125, q125a, q125b, q125c⟩ := isOf hZ e124 B2.1
      obtain ⟨_, _, ⟨T125, L125, k125, n125⟩, -, X125, ⟨Lc125, hQ125, l125, y125, z125⟩, st125⟩ := X124.virtualBack hx (y := (⟨"com/example/skyroster/skyroster/CostShare", "give", "(D)V"⟩ : MethodName)) (z := (⟨"com/example/skyroster/skyroster/CostShare", "give", "(D)V"⟩ : MethodName)) hown (mvT hZ (hw _ (List.mem_of_getElem? (i := 227) rfl))) (mvT hZ (hw _ (List.mem_of_getElem? (i := 228) rfl))) (notFace_of_selects (args := #[]) (mvT hZ (hw _ (List.mem_of_getElem? (i := 230) rfl)))) (mvT hZ (hw _ (List.mem_of_getElem? (i := 230) rfl))) (mvT hZ (hw _ (List.mem_of_getElem? (i := 229) rfl))) (by decide) (backOf (W := 0) (own_rmgiv l Z aw hw [] b117 (FP.l2d q3.toInt64) (FP.l2d q1.toInt64) u cc ds co 1100 T2'.heap n0 Z2 ⟨B2.1, B2.2.1, B2.2.2.1, B2.2.2.2.1, B2.2.2.2.2.1, B2.2.2.2.2.2⟩ gn_b117 (Jvm.Free.Fl.l2d_mag _) (Jvm.Free.Fl.l2d_mag _) hds (by decide) (by decide)) hZ (hw _ (List.mem_of_getElem? (i := 231) rfl)) (hw _ (List.mem_of_getElem? (i := 199) rfl)) (by decide) (by decide)) q125a q125c (g := (mkF m 169 #[.val (.int q1), .val (.int q2), .val (.int q3), .val (.int q4), .val (.int q5), .val (.int q6), .val (.double (FP.l2d q1.toInt64)), .second, .val (.ref r0), .val (.ref al), .val (.ref b113), .val (.ref b117), .val (.double (FP.l2d q2.toInt64)), .second, .val (.double (FP.l2d (q3 >>> ((8 : Int32) &&& 31)).toInt64)), .second, .val (.double (FP.l2d q3.toInt64)), .second, .val (.int cc), .val (.int u), .val (.double ds), .second, .val (.double co), .second, .val (.int (cc + u)), .val (.double (own_inc (FP.l2d q1.toInt64) u cc ds (FP.l2d q3.toInt64))), .second, .unset, .unset, .unset, .unset, .unset, .unset] [(.double (FP.l2d q3.toInt64)), (.ref b117)])) rfl (by rw [hml]; rfl) (Steps.refl _) (argsL := [(.double (FP.l2d q3.toInt64))]) (rest := []) (lenOf own_pd18 rfl) rfl (by show 2 * 0 + _ ≤ _; exact Nat.le_of_eq rfl) (hb hby at_169) (fun _ _ => ⟨rfl, e124, (by decide : 16 + 0 ≤ _), (by decide : 64 + 0 ≤ _)⟩)
      dsimp only [Pt.U, Pt.locs, Pt.cells, Pt.slots] at X125 l125 y125 z125 st125 hQ125
      subst l125 y125 z125
      obtain ⟨rfl, N125q, Kp125, Bp125, np125, mp125⟩ := hQ125
      have N125 := Fr.app N124 N125q
      refine own_by (fun t k => st125.trans k) ?_
      have Ex125_b117 := B2.1.keep Kp125
      have K125 := K2.trans Kp125 (allS (Or.inr sz_b117) (all0))
      have Z125 := Nat.le_trans Z2 Kp125.1
      have O125 := O2.keep Kp125 (allS gn_b117 (all0))
      show own_Go p.tables e below K (T125.setTop (mkF m 172 #[.val (.int q1), .val (.int q2), .val (.int q3), .val (.int q4), .val (.int q5), .val (.int q6), .val (.double (FP.l2d q1.toInt64)), .second, .val (.ref r0), .val (.ref al), .val (.ref b113), .val (.ref b117), .val (.double (FP.l2d q2.toInt64)), .second, .val (.double (FP.l2d (q3 >>> ((8 : Int32) &&& 31)).toInt64)), .second, .val (.double (FP.l2d q3.toInt64)), .second, .val (.int cc), .val (.int u), .val (.double ds), .second, .val (.double co), .second, .val (.int (cc + u)), .val (.double (own_inc (FP.l2d q1.toInt64) u cc ds (FP.l2d q3.toInt64))), .second, .unset, .unset, .unset, .unset, .unset, .unset] []))
      refine own_by (fun t k => XS.iload X125.here hx rfl (hb hby at_172) rfl k) ?_
      show own_Go p.tables e below K (T125.setTop (mkF m 174 #[.val (.int q1), .val (.int q2), .val (.int q3), .val (.int q4), .val (.int q5), .val (.int q6), .val (.double (FP.l2d q1.toInt64)), .second, .val (.ref r0), .val (.ref al), .val (.ref b113), .val (.ref b117), .val (.double (FP.l2d q2.toInt64)), .second, .val (.double (FP.l2d (q3 >>> ((8 : Int32) &&& 31)).toInt64)), .second, .val (.double (FP.l2d q3.toInt64)), .second, .val (.int cc), .val (.int u), .val (.double ds), .second, .val (.double co), .second, .val (.int (cc + u)), .val (.double (own_inc (FP.l2d q1.toInt64) u cc ds (FP.l2d q3.toInt64))), .second, .unset, .unset, .unset, .unset, .unset, .unset] [(.int q6)]))
      refine own_by (fun t k => XS.bipush X125.here hx rfl (hb hby at_174) k) ?_
      show own_Go p.tables e below K (T125.setTop (mkF m 176 #[.val (.int q1), .val (.int q2), .val (.int q3), .val (.int q4), .val (.int q5), .val (.int q6), .val (.double (FP.l2d q1.toInt64)), .second, .val (.ref r0), .val (.ref al), .val (.ref b113), .val (.ref b117), .val (.double (FP.l2d q2.toInt64)), .second, .val (.double (FP.l2d (q3 >>> ((8 : Int32) &&& 31)).toInt64)), .second, .val (.double (FP.l2d q3.toInt64)), .second, .val (.int cc), .val (.int u), .val (.double ds), .second, .val (.double co), .second, .val (.int (cc + u)), .val (.double (own_inc (FP.l2d q1.toInt64) u cc ds (FP.l2d q3.toInt64))), .second, .unset, .unset, .unset, .unset, .unset, .unset] [(.int (8 : Int32)), (.int q6)]))
      refine own_by (fun t k => XS.iand X125.here hx rfl (hb hby at_176) rfl k) ?_
      show own_Go p.tables e below K (T125.setTop (mkF m 177 #[.val (.int q1), .val (.int q2), .val (.int q3), .val (.int q4), .val (.int q5), .val (.int q6), .val (.double (FP.l2d q1.toInt64)), .second, .val (.ref r0), .val (.ref al), .val (.ref b113), .val (.ref b117), .val (.double (FP.l2d q2.toInt64)), .second, .val (.double (FP.l2d (q3 >>> ((8 : Int32) &&& 31)).toInt64)), .second, .val (.double (FP.l2d q3.toInt64)), .second, .val (.int cc), .val (.int u), .val (.double ds), .second, .val (.double co), .second, .val (.int (cc + u)), .val (.double (own_inc (FP.l2d q1.toInt64) u cc ds (FP.l2d q3.toInt64))), .second, .unset, .unset, .unset, .unset, .unset, .unset] [(.int (q6 &&& (8 : Int32)))]))
      by_cases hc177 : (q6 &&& (8 : Int32)) = (0 : Int32)
      · refine own_by (fun t k => XS.ifNo X125.here hx rfl (hb hby at_177) rfl ((if0 _ _).trans (teq hc177).2) k) ?_
        show own_Go p.tables e below K (T125.setTop (mkF m 180 #[.val (.int q1), .val (.int q2), .val (.int q3), .val (.int q4), .val (.int q5), .val (.int q6), .val (.double (FP.l2d q1.toInt64)), .second, .val (.ref r0), .val (.ref al), .val (.ref b113), .val (.ref b117), .val (.double (FP.l2d q2.toInt64)), .second, .val (.double (FP.l2d (q3 >>> ((8 : Int32) &&& 31)).toInt64)), .second, .val (.double (FP.l2d q3.toInt64)), .second, .val (.int cc), .val (.int u), .val (.double ds), .second, .val (.double co), .second, .val (.int (cc + u)), .val (.double (own_inc (FP.l2d q1.toInt64) u cc ds (FP.l2d q3.toInt64))), .second, .unset, .unset, .unset, .unset, .unset, .unset] []))
        refine own_by (fun t k => XS.iconst X125.here hx rfl (hb hby at_180) k) ?_
        show own_Go p.tables e below K (T125.setTop (mkF m 181 #[.val (.int q1), .val (.int q2), .val (.int q3), .val (.int q4), .val (.int q5), .val (.int q6), .val (.double (FP.l2d q1.toInt64)), .second, .val (.ref r0), .val (.ref al), .val (.ref b113), .val (.ref b117), .val (.double (FP.l2d q2.toInt64)), .second, .val (.double (FP.l2d (q3 >>> ((8 : Int32) &&& 31)).toInt64)), .second, .val (.double (FP.l2d q3.toInt64)), .second, .val (.int cc), .val (.int u), .val (.double ds), .second, .val (.double co), .second, .val (.int (cc + u)), .val (.double (own_inc (FP.l2d q1.toInt64) u cc ds (FP.l2d q3.toInt64))), .second, .unset, .unset, .unset, .unset, .unset, .unset] [(.int (1 : Int32))]))
        refine own_by (fun t k => XS.goto X125.here hx rfl (pc0 := 181) (pc' := 185) rfl (hb hby at_181) (by decide) (by decide) k) ?_
        show own_Go p.tables e below K (T125.setTop (mkF m 185 #[.val (.int q1), .val (.int q2), .val (.int q3), .val (.int q4), .val (.int q5), .val (.int q6), .val (.double (FP.l2d q1.toInt64)), .second, .val (.ref r0), .val (.ref al), .val (.ref b113), .val (.ref b117), .val (.double (FP.l2d q2.toInt64)), .second, .val (.double (FP.l2d (q3 >>> ((8 : Int32) &&& 31)).toInt64)), .second, .val (.double (FP.l2d q3.toInt64)), .second, .val (.int cc), .val (.int u), .val (.double ds), .second, .val (.double co), .second, .val (.int (cc + u)), .val (.double (own_inc (FP.l2d q1.toInt64) u cc ds (FP.l2d q3.toInt64))), .second, .unset, .unset, .unset, .unset, .unset, .unset] [(.int (1 : Int32))]))
        refine own_by (fun t k => XS.istore X125.here hx rfl (hb hby at_185) rfl (l' := #[.val (.int q1), .val (.int q2), .val (.int q3), .val (.int q4), .val (.int q5), .val (.int q6), .val (.double (FP.l2d q1.toInt64)), .second, .val (.ref r0), .val (.ref al), .val (.ref b113), .val (.ref b117), .val (.double (FP.l2d q2.toInt64)), .second, .val (.double (FP.l2d (q3 >>> ((8 : Int32) &&& 31)).toInt64)), .second, .val (.double (FP.l2d q3.toInt64)), .second, .val (.int cc), .val (.int u), .val (.double ds), .second, .val (.double co), .second, .val (.int (cc + u)), .val (.double (own_inc (FP.l2d q1.toInt64) u cc ds (FP.l2d q3.toInt64))), .second, .val (.int (1 : Int32)), .unset, .unset, .unset, .unset, .unset]) rfl k) ?_
        show own_Go p.tables e below K (T125.setTop (mkF m 187 #[.val (.int q1), .val (.int q2), .val (.int q3), .val (.int q4), .val (.int q5), .val (.int q6), .val (.double (FP.l2d q1.toInt64)), .second, .val (.ref r0), .val (.ref al), .val (.ref b113), .val (.ref b117), .val (.double (FP.l2d q2.toInt64)), .second, .val (.double (FP.l2d (q3 >>> ((8 : Int32) &&& 31)).toInt64)), .second, .val (.double (FP.l2d q3.toInt64)), .second, .val (.int cc), .val (.int u), .val (.double ds), .second, .val (.double co), .second, .val (.int (cc + u)), .val (.double (own_inc (FP.l2d q1.toInt64) u cc ds (FP.l2d q3.toInt64))), .second, .val (.int (1 : Int32)), .unset, .unset, .unset, .unset, .unset] []))
        refine own_by (fun t k => XS.iload X125.here hx rfl (hb hby at_187) rfl k) ?_
        show own_Go p.tables e below K (T125.setTop (mkF m 189 #[.val (.int q1), .val (.int q2), .val (.int q3), .val (.int q4), .val (.int q5), .val (.int q6), .val (.double (FP.l2d q1.toInt64)), .second, .val (.ref r0), .val (.ref al), .val (.ref b113), .val (.ref b117), .val (.double (FP.l2d q2.toInt64)), .second, .val (.double (FP.l2d (q3 >>> ((8 : Int32) &&& 31)).toInt64)), .second, .val (.double (FP.l2d q3.toInt64)), .second, .val (.int cc), .val (.int u), .val (.double ds), .second, .val (.double co), .second, .val (.int (cc + u)), .val (.double (own_inc (FP.l2d q1.toInt64) u cc ds (FP.l2d q3.toInt64))), .second, .val (.int (1 : Int32)), .unset, .unset, .unset, .unset, .unset] [(.int (1 : Int32))]))
        have hc189 : ¬ ((1 : Int32) = (0 : Int32)) := by decide
        refine own_by (fun t k => XS.ifNo X125.here hx rfl (hb hby at_189) rfl ((if0 _ _).trans (feq hc189).1) k) ?_
        show own_Go p.tables e below K (T125.setTop (mkF m 192 #[.val (.int q1), .val (.int q2), .val (.int q3), .val (.int q4), .val (.int q5), .val (.int q6), .val (.double (FP.l2d q1.toInt64)), .second, .val (.ref r0), .val (.ref al), .val (.ref b113), .val (.ref b117), .val (.double (FP.l2d q2.toInt64)), .second, .val (.double (FP.l2d (q3 >>> ((8 : Int32) &&& 31)).toInt64)), .second, .val (.double (FP.l2d q3.toInt64)), .second, .val (.int cc), .val (.int u), .val (.double ds), .second, .val (.double co), .second, .val (.int (cc + u)), .val (.double (own_inc (FP.l2d q1.toInt64) u cc ds (FP.l2d q3.toInt64))), .second, .val (.int (1 : Int32)), .unset, .unset, .unset, .unset, .unset] []))
        refine own_by (fun t k => XS.dload X125.here hx rfl (hb hby at_192) rfl k) ?_
        show own_Go p.tables e below K (T125.setTop (mkF m 194 #[.val (.int q1), .val (.int q2), .val (.int q3), .val (.int q4), .val (.int q5), .val (.int q6), .val (.double (FP.l2d q1.toInt64)), .second, .val (.ref r0), .val (.ref al), .val (.ref b113), .val (.ref b117), .val (.double (FP.l2d q2.toInt64)), .second, .val (.double (FP.l2d (q3 >>> ((8 : Int32) &&& 31)).toInt64)), .second, .val (.double (FP.l2d q3.toInt64)), .second, .val (.int cc), .val (.int u), .val (.double ds), .second, .val (.double co), .second, .val (.int (cc + u)), .val (.double (own_inc (FP.l2d q1.toInt64) u cc ds (FP.l2d q3.toInt64))), .second, .val (.int (1 : Int32)), .unset, .unset, .unset, .unset, .unset] [(.double ds)]))
        refine own_by (fun t k => XS.goto X125.here hx rfl (pc0 := 194) (pc' := 199) rfl (hb hby at_194) (by decide) (by decide) k) ?_
        show own_Go p.tables e below K (T125.setTop (mkF m 199 #[.val (.int q1), .val (.int q2), .val (.int q3), .val (.int q4), .val (.int q5), .val (.int q6), .val (.double (FP.l2d q1.toInt64)), .second, .val (.ref r0), .val (.ref al), .val (.ref b113), .val (.ref b117), .val (.double (FP.l2d q2.toInt64)), .second, .val (.double (FP.l2d (q3 >>> ((8 : Int32) &&& 31)).toInt64)), .second, .val (.double (FP.l2d q3.toInt64)), .second, .val (.int cc), .val (.int u), .val (.double ds), .second, .val (.double co), .second, .val (.int (cc + u)), .val (.double (own_inc (FP.l2d q1.toInt64) u cc ds (FP.l2d q3.toInt64))), .second, .val (.int (1 : Int32)), .unset, .unset, .unset, .unset, .unset] [(.double ds)]))
        refine own_by (fun t k => XS.dstore X125.here hx rfl (hb hby at_199) rfl (l' := #[.val (.int q1), .val (.int q2), .val (.int q3), .val (.int q4), .val (.int q5), .val (.int q6), .val (.double (FP.l2d q1.toInt64)), .second, .val (.ref r0), .val (.ref al), .val (.ref b113), .val (.ref b117), .val (.double (FP.l2d q2.toInt64)), .second, .val (.double (FP.l2d (q3 >>> ((8 : Int32) &&& 31)).toInt64)), .second, .val (.double (FP.l2d q3.toInt64)), .second, .val (.int cc), .val (.int u), .val (.double ds), .second, .val (.double co), .second, .val (.int (cc + u)), .val (.double (own_inc (FP.l2d q1.toInt64) u cc ds (FP.l2d q3.toInt64))), .second, .val (.int (1 : Int32)), .val (.double ds), .second, .unset, .unset, .unset]) rfl k) ?_
        show own_Go p.tables e below K (T125.setTop (mkF m 201 #[.val (.int q1), .val (.int q2), .val (.int q3), .val (.int q4), .val (.int q5), .val (.int q6), .val (.double (FP.l2d q1.toInt64)), .second, .val (.ref r0), .val (.ref al), .val (.ref b113), .val (.ref b117), .val (.double (FP.l2d q2.toInt64)), .second, .val (.double (FP.l2d (q3 >>> ((8 : Int32) &&& 31)).toInt64)), .second, .val (.double (FP.l2d q3.toInt64)), .second, .val (.int cc), .val (.int u), .val (.double ds), .second, .val (.double co), .second, .val (.int (cc + u)), .val (.double (own_inc (FP.l2d q1.toInt64) u cc ds (FP.l2d q3.toInt64))), .second, .val (.int (1 : Int32)), .val (.double ds), .second, .unset, .unset, .unset] []))
        refine own_by (fun t k => XS.iload X125.here hx rfl (hb hby at_201) rfl k) ?_
        show own_Go p.tables e below K (T125.setTop (mkF m 203 #[.val (.int q1), .val (.int q2), .val (.int q3), .val (.int q4), .val (.int q5), .val (.int q6), .val (.double (FP.l2d q1.toInt64)), .second, .val (.ref r0), .val (.ref al), .val (.ref b113), .val (.ref b117), .val (.double (FP.l2d q2.toInt64)), .second, .val (.double (FP.l2d (q3 >>> ((8 : Int32) &&& 31)).toInt64)), .second, .val (.double (FP.l2d q3.toInt64)), .second, .val (.int cc), .val (.int u), .val (.double ds), .second, .val (.double co), .second, .val (.int (cc + u)), .val (.double (own_inc (FP.l2d q1.toInt64) u cc ds (FP.l2d q3.toInt64))), .second, .val (.int (1 : Int32)), .val (.double ds), .second, .unset, .unset, .unset] [(.int (1 : Int32))]))
        have hc203 : ¬ ((1 : Int32) = (0 : Int32)) := by decide
        refine own_by (fun t k => XS.ifNo X125.here hx rfl (hb hby at_203) rfl ((if0 _ _).trans (feq hc203).1) k) ?_
        show own_Go p.tables e below K (T125.setTop (mkF m 206 #[.val (.int q1), .val (.int q2), .val (.int q3), .val (.int q4), .val (.int q5), .val (.int q6), .val (.double (FP.l2d q1.toInt64)), .second, .val (.ref r0), .val (.ref al), .val (.ref b113), .val (.ref b117), .val (.double (FP.l2d q2.toInt64)), .second, .val (.double (FP.l2d (q3 >>> ((8 : Int32) &&& 31)).toInt64)), .second, .val (.double (FP.l2d q3.toInt64)), .second, .val (.int cc), .val (.int u), .val (.double ds), .second, .val (.double co), .second, .val (.int (cc + u)), .val (.double (own_inc (FP.l2d q1.toInt64) u cc ds (FP.l2d q3.toInt64))), .second, .val (.int (1 : Int32)), .val (.double ds), .second, .unset, .unset, .unset] []))
        refine own_by (fun t k => XS.dload X125.here hx rfl (hb hby at_206) rfl k) ?_
        show own_Go p.tables e below K (T125.setTop (mkF m 208 #[.val (.int q1), .val (.int q2), .val (.int q3), .val (.int q4), .val (.int q5), .val (.int q6), .val (.double (FP.l2d q1.toInt64)), .second, .val (.ref r0), .val (.ref al), .val (.ref b113), .val (.ref b117), .val (.double (FP.l2d q2.toInt64)), .second, .val (.double (FP.l2d (q3 >>> ((8 : Int32) &&& 31)).toInt64)), .second, .val (.double (FP.l2d q3.toInt64)), .second, .val (.int cc), .val (.int u), .val (.double ds), .second, .val (.double co), .second, .val (.int (cc + u)), .val (.double (own_inc (FP.l2d q1.toInt64) u cc ds (FP.l2d q3.toInt64))), .second, .val (.int (1 : Int32)), .val (.double ds), .second, .unset, .unset, .unset] [(.double co)]))
        refine own_by (fun t k => XS.goto X125.here hx rfl (pc0 := 208) (pc' := 214) rfl (hb hby at_208) (by decide) (by decide) k) ?_
        show own_Go p.tables e below K (T125.setTop (mkF m 214 #[.val (.int q1), .val (.int q2), .val (.int q3), .val (.int q4), .val (.int q5), .val (.int q6), .val (.double (FP.l2d q1.toInt64)), .second, .val (.ref r0), .val (.ref al), .val (.ref b113), .val (.ref b117), .val (.double (FP.l2d q2.toInt64)), .second, .val (.double (FP.l2d (q3 >>> ((8 : Int32) &&& 31)).toInt64)), .second, .val (.double (FP.l2d q3.toInt64)), .second, .val (.int cc), .val (.int u), .val (.double ds), .second, .val (.double co), .second, .val (.int (cc + u)), .val (.double (own_inc (FP.l2d q1.toInt64) u cc ds (FP.l2d q3.toInt64))), .second, .val (.int (1 : Int32)), .val (.double ds), .second, .unset, .unset, .unset] [(.double co)]))
        refine own_by (fun t k => XS.dstore X125.here hx rfl (hb hby at_214) rfl (l' := #[.val (.int q1), .val (.int q2), .val (.int q3), .val (.int q4), .val (.int q5), .val (.int q6), .val (.double (FP.l2d q1.toInt64)), .second, .val (.ref r0), .val (.ref al), .val (.ref b113), .val (.ref b117), .val (.double (FP.l2d q2.toInt64)), .second, .val (.double (FP.l2d (q3 >>> ((8 : Int32) &&& 31)).toInt64)), .second, .val (.double (FP.l2d q3.toInt64)), .second, .val (.int cc), .val (.int u), .val (.double ds), .second, .val (.double co), .second, .val (.int (cc + u)), .val (.double (own_inc (FP.l2d q1.toInt64) u cc ds (FP.l2d q3.toInt64))), .second, .val (.int (1 : Int32)), .val (.double ds), .second, .val (.double co), .second, .unset]) rfl k) ?_
        show own_Go p.tables e below K (T125.setTop (mkF m 216 #[.val (.int q1), .val (.int q2), .val (.int q3), .val (.int q4), .val (.int q5), .val (.int q6), .val (.double (FP.l2d q1.toInt64)), .second, .val (.ref r0), .val (.ref al), .val (.ref b113), .val (.ref b117), .val (.double (FP.l2d q2.toInt64)), .second, .val (.double (FP.l2d (q3 >>> ((8 : Int32) &&& 31)).toInt64)), .second, .val (.double (FP.l2d q3.toInt64)), .second, .val (.int cc), .val (.int u), .val (.double ds), .second, .val (.double co), .second, .val (.int (cc + u)), .val (.double (own_inc (FP.l2d q1.toInt64) u cc ds (FP.l2d q3.toInt64))), .second, .val (.int (1 : Int32)), .val (.double ds), .second, .val (.double co), .second, .unset] []))
        refine own_by (fun t k => XS.aload X125.here hx rfl (hb hby at_216) rfl rfl k) ?_
        show own_Go p.tables e below K (T125.setTop (mkF m 218 #[.val (.int q1), .val (.int q2), .val (.int q3), .val (.int q4), .val (.int q5), .val (.int q6), .val (.double (FP.l2d q1.toInt64)), .second, .val (.ref r0), .val (.ref al), .val (.ref b113), .val (.ref b117), .val (.double (FP.l2d q2.toInt64)), .second, .val (.double (FP.l2d (q3 >>> ((8 : Int32) &&& 31)).toInt64)), .second, .val (.double (FP.l2d q3.toInt64)), .second, .val (.int cc), .val (.int u), .val (.double ds), .second, .val (.double co), .second, .val (.int (cc + u)), .val (.double (own_inc (FP.l2d q1.toInt64) u cc ds (FP.l2d q3.toInt64))), .second, .val (.int (1 : Int32)), .val (.double ds), .second, .val (.double co), .second, .unset] [(.ref b117)]))
        refine own_by (fun t k => XS.dload X125.here hx rfl (hb hby at_218) rfl k) ?_
        show own_Go p.tables e below K (T125.setTop (mkF m 220 #[.val (.int q1), .val (.int q2), .val (.int q3), .val (.int q4), .val (.int q5), .val (.int q6), .val (.double (FP.l2d q1.toInt64)), .second, .val (.ref r0), .val (.ref al), .val (.ref b113), .val (.ref b117), .val (.double (FP.l2d q2.toInt64)), .second, .val (.double (FP.l2d (q3 >>> ((8 : Int32) &&& 31)).toInt64)), .second, .val (.double (FP.l2d q3.toInt64)), .second, .val (.int cc), .val (.int u), .val (.double ds), .second, .val (.double co), .second, .val (.int (cc + u)), .val (.double (own_inc (FP.l2d q1.toInt64) u cc ds (FP.l2d q3.toInt64))), .second, .val (.int (1 : Int32)), .val (.double ds), .second, .val (.double co), .second, .unset] [(.double ds), (.ref b117)]))
        refine own_by (fun t k => XS.dload X125.here hx rfl (hb hby at_220) rfl k) ?_
        show own_Go p.tables e below K (T125.setTop (mkF m 222 #[.val (.int q1), .val (.int q2), .val (.int q3), .val (.int q4), .val (.int q5), .val (.int q6), .val (.double (FP.l2d q1.toInt64)), .second, .val (.ref r0), .val (.ref al), .val (.ref b113), .val (.ref b117), .val (.double (FP.l2d q2.toInt64)), .second, .val (.double (FP.l2d (q3 >>> ((8 : Int32) &&& 31)).toInt64)), .second, .val (.double (FP.l2d q3.toInt64)), .second, .val (.int cc), .val (.int u), .val (.double ds), .second, .val (.double co), .second, .val (.int (cc + u)), .val (.double (own_inc (FP.l2d q1.toInt64) u cc ds (FP.l2d q3.toInt64))), .second, .val (.int (1 : Int32)), .val (.double ds), .second, .val (.double co), .second, .unset] [(.double co), (.double ds), (.ref b117)]))
        obtain ⟨cq126, kq126, q126a, q126b, q126c⟩ := isOf hZ rfl Bp125.1
        obtain ⟨_, _, ⟨T126, L126, k126, n126⟩, -, X126, ⟨Lc126, hQ126, l126, y126, z126⟩, st126⟩ := X125.virtualBack hx (y := (⟨"com/example/skyroster/skyroster/CostShare", "takeBack", "(DD)V"⟩ : MethodName)) (z := (⟨"com/example/skyroster/skyroster/CostShare", "takeBack", "(DD)V"⟩ : MethodName)) hown (mvT hZ (hw _ (List.mem_of_getElem? (i := 253) rfl))) (mvT hZ (hw _ (List.mem_of_getElem? (i := 254) rfl))) (notFace_of_selects (args := #[]) (mvT hZ (hw _ (List.mem_of_getElem? (i := 256) rfl)))) (mvT hZ (hw _ (List.mem_of_getElem? (i := 256) rfl))) (mvT hZ (hw _ (List.mem_of_getElem? (i := 255) rfl))) (by decide) (backOf (W := 0) (own_rmtkb l Z aw hw [] b117 ds co (FP.l2d q1.toInt64) u (cc + (1 : Int32)) (FP.dadd ds (FP.l2d q3.toInt64)) (own_cst (FP.l2d q1.toInt64) u (cc + (1 : Int32)) (FP.dadd ds (FP.l2d q3.toInt64))) T125.heap n0 Z125 ⟨Bp125.1, Bp125.2.1, Bp125.2.2.1, Bp125.2.2.2.1, Bp125.2.2.2.2.1, Bp125.2.2.2.2.2⟩ gn_b117) hZ (hw _ (List.mem_of_getElem? (i := 257) rfl)) (hw _ (List.mem_of_getElem? (i := 199) rfl)) (by decide) (by decide)) q126a q126c (g := (mkF m 222 #[.val (.int q1), .val (.int q2), .val (.int q3), .val (.int q4), .val (.int q5), .val (.int q6), .val (.double (FP.l2d q1.toInt64)), .second, .val (.ref r0), .val (.ref al), .val (.ref b113), .val (.ref b117), .val (.double (FP.l2d q2.toInt64)), .second, .val (.double (FP.l2d (q3 >>> ((8 : Int32) &&& 31)).toInt64)), .second, .val (.double (FP.l2d q3.toInt64)), .second, .val (.int cc), .val (.int u), .val (.double ds), .second, .val (.double co), .second, .val (.int (cc + u)), .val (.double (own_inc (FP.l2d q1.toInt64) u cc ds (FP.l2d q3.toInt64))), .second, .val (.int (1 : Int32)), .val (.double ds), .second, .val (.double co), .second, .unset] [(.double co), (.double ds), (.ref b117)])) rfl (by rw [hml]; rfl) (Steps.refl _) (argsL := [(.double ds), (.double co)]) (rest := []) (lenOf own_pd19 rfl) rfl (by show 2 * 0 + _ ≤ _; exact Nat.le_of_eq rfl) (hb hby at_222) (fun _ _ => ⟨rfl, rfl, (by decide : 16 + 0 ≤ _), (by decide : 64 + 0 ≤ _)⟩)
        dsimp only [Pt.U, Pt.locs, Pt.cells, Pt.slots] at X126 l126 y126 z126 st126 hQ126
        subst l126 y126 z126
        obtain ⟨rfl, N126q, Kp126, Bp126⟩ := hQ126
        have N126 := Fr.app N125 N126q
        refine own_by (fun t k => st126.trans k) ?_
        rw [Int32.add_sub_cancel] at Bp126
        have Ex126_b117 := Bp125.1.keep Kp126
        have K126 := K125.trans Kp126 (allS (Or.inr sz_b117) (all0))
        have Z126 := Nat.le_trans Z125 Kp126.1
        have O126 := O125.keep Kp126 (allS gn_b117 (all0))
        show own_Go p.tables e below K (T126.setTop (mkF m 225 #[.val (.int q1), .val (.int q2), .val (.int q3), .val (.int q4), .val (.int q5), .val (.int q6), .val (.double (FP.l2d q1.toInt64)), .second, .val (.ref r0), .val (.ref al), .val (.ref b113), .val (.ref b117), .val (.double (FP.l2d q2.toInt64)), .second, .val (.double (FP.l2d (q3 >>> ((8 : Int32) &&& 31)).toInt64)), .second, .val (.double (FP.l2d q3.toInt64)), .second, .val (.int cc), .val (.int u), .val (.double ds), .second, .val (.double co), .second, .val (.int (cc + u)), .val (.double (own_inc (FP.l2d q1.toInt64) u cc ds (FP.l2d q3.toInt64))), .second, .val (.int (1 : Int32)), .val (.double ds), .second, .val (.double co), .second, .unset] []))
        refine own_by (fun t k => XS.aload X126.here hx rfl (hb hby at_225) rfl rfl k) ?_
        show own_Go p.tables e below K (T126.setTop (mkF m 227 #[.val (.int q1), .val (.int q2), .val (.int q3), .val (.int q4), .val (.int q5), .val (.int q6), .val (.double (FP.l2d q1.toInt64)), .second, .val (.ref r0), .val (.ref al), .val (.ref b113), .val (.ref b117), .val (.double (FP.l2d q2.toInt64)), .second, .val (.double (FP.l2d (q3 >>> ((8 : Int32) &&& 31)).toInt64)), .second, .val (.double (FP.l2d q3.toInt64)), .second, .val (.int cc), .val (.int u), .val (.double ds), .second, .val (.double co), .second, .val (.int (cc + u)), .val (.double (own_inc (FP.l2d q1.toInt64) u cc ds (FP.l2d q3.toInt64))), .second, .val (.int (1 : Int32)), .val (.double ds), .second, .val (.double co), .second, .unset] [(.ref b117)]))
        obtain ⟨T127, X127, e127, st127⟩ := getF X126 hx hZ hown (host := "") (Or.inl (hw _ (List.mem_of_getElem? (i := 243) rfl))) Via.refl rfl Bp126.2.2.2.1 (g := (mkF m 227 #[.val (.int q1), .val (.int q2), .val (.int q3), .val (.int q4), .val (.int q5), .val (.int q6), .val (.double (FP.l2d q1.toInt64)), .second, .val (.ref r0), .val (.ref al), .val (.ref b113), .val (.ref b117), .val (.double (FP.l2d q2.toInt64)), .second, .val (.double (FP.l2d (q3 >>> ((8 : Int32) &&& 31)).toInt64)), .second, .val (.double (FP.l2d q3.toInt64)), .second, .val (.int cc), .val (.int u), .val (.double ds), .second, .val (.double co), .second, .val (.int (cc + u)), .val (.double (own_inc (FP.l2d q1.toInt64) u cc ds (FP.l2d q3.toInt64))), .second, .val (.int (1 : Int32)), .val (.double ds), .second, .val (.double co), .second, .unset] [(.ref b117)])) rfl rfl (hb hby at_227)
        refine own_by st127 ?_
        show own_Go p.tables e below K (T127.setTop (mkF m 230 #[.val (.int q1), .val (.int q2), .val (.int q3), .val (.int q4), .val (.int q5), .val (.int q6), .val (.double (FP.l2d q1.toInt64)), .second, .val (.ref r0), .val (.ref al), .val (.ref b113), .val (.ref b117), .val (.double (FP.l2d q2.toInt64)), .second, .val (.double (FP.l2d (q3 >>> ((8 : Int32) &&& 31)).toInt64)), .second, .val (.double (FP.l2d q3.toInt64)), .second, .val (.int cc), .val (.int u), .val (.double ds), .second, .val (.double co), .second, .val (.int (cc + u)), .val (.double (own_inc (FP.l2d q1.toInt64) u cc ds (FP.l2d q3.toInt64))), .second, .val (.int (1 : Int32)), .val (.double ds), .second, .val (.double co), .second, .unset] [(.int cc)]))
        refine own_by (fun t k => XS.iload X127.here hx rfl (hb hby at_230) rfl k) ?_
        show own_Go p.tables e below K (T127.setTop (mkF m 232 #[.val (.int q1), .val (.int q2), .val (.int q3), .val (.int q4), .val (.int q5), .val (.int q6), .val (.double (FP.l2d q1.toInt64)), .second, .val (.ref r0), .val (.ref al), .val (.ref b113), .val (.ref b117), .val (.double (FP.l2d q2.toInt64)), .second, .val (.double (FP.l2d (q3 >>> ((8 : Int32) &&& 31)).toInt64)), .second, .val (.double (FP.l2d q3.toInt64)), .second, .val (.int cc), .val (.int u), .val (.double ds), .second, .val (.double co), .second, .val (.int (cc + u)), .val (.double (own_inc (FP.l2d q1.toInt64) u cc ds (FP.l2d q3.toInt64))), .second, .val (.int (1 : Int32)), .val (.double ds), .second, .val (.double co), .second, .unset] [(.int cc), (.int cc)]))
        have hc232 : cc = cc := rfl
        refine own_by (fun t k => XS.icmpNo X127.here hx rfl (hb hby at_232) rfl (teq hc232).2 k) ?_
        show own_Go p.tables e below K (T127.setTop (mkF m 235 #[.val (.int q1), .val (.int q2), .val (.int q3), .val (.int q4), .val (.int q5), .val (.int q6), .val (.double (FP.l2d q1.toInt64)), .second, .val (.ref r0), .val (.ref al), .val (.ref b113), .val (.ref b117), .val (.double (FP.l2d q2.toInt64)), .second, .val (.double (FP.l2d (q3 >>> ((8 : Int32) &&& 31)).toInt64)), .second, .val (.double (FP.l2d q3.toInt64)), .second, .val (.int cc), .val (.int u), .val (.double ds), .second, .val (.double co), .second, .val (.int (cc + u)), .val (.double (own_inc (FP.l2d q1.toInt64) u cc ds (FP.l2d q3.toInt64))), .second, .val (.int (1 : Int32)), .val (.double ds), .second, .val (.double co), .second, .unset] []))
        refine own_by (fun t k => XS.aload X127.here hx rfl (hb hby at_235) rfl rfl k) ?_
        show own_Go p.tables e below K (T127.setTop (mkF m 237 #[.val (.int q1), .val (.int q2), .val (.int q3), .val (.int q4), .val (.int q5), .val (.int q6), .val (.double (FP.l2d q1.toInt64)), .second, .val (.ref r0), .val (.ref al), .val (.ref b113), .val (.ref b117), .val (.double (FP.l2d q2.toInt64)), .second, .val (.double (FP.l2d (q3 >>> ((8 : Int32) &&& 31)).toInt64)), .second, .val (.double (FP.l2d q3.toInt64)), .second, .val (.int cc), .val (.int u), .val (.double ds), .second, .val (.double co), .second, .val (.int (cc + u)), .val (.double (own_inc (FP.l2d q1.toInt64) u cc ds (FP.l2d q3.toInt64))), .second, .val (.int (1 : Int32)), .val (.double ds), .second, .val (.double co), .second, .unset] [(.ref b117)]))
        obtain ⟨T128, X128, e128, st128⟩ := getF X127 hx hZ hown (host := "") (Or.inl (hw _ (List.mem_of_getElem? (i := 244) rfl))) Via.refl e127 Bp126.2.2.1 (g := (mkF m 237 #[.val (.int q1), .val (.int q2), .val (.int q3), .val (.int q4), .val (.int q5), .val (.int q6), .val (.double (FP.l2d q1.toInt64)), .second, .val (.ref r0), .val (.ref al), .val (.ref b113), .val (.ref b117), .val (.double (FP.l2d q2.toInt64)), .second, .val (.double (FP.l2d (q3 >>> ((8 : Int32) &&& 31)).toInt64)), .second, .val (.double (FP.l2d q3.toInt64)), .second, .val (.int cc), .val (.int u), .val (.double ds), .second, .val (.double co), .second, .val (.int (cc + u)), .val (.double (own_inc (FP.l2d q1.toInt64) u cc ds (FP.l2d q3.toInt64))), .second, .val (.int (1 : Int32)), .val (.double ds), .second, .val (.double co), .second, .unset] [(.ref b117)])) rfl rfl (hb hby at_237)
        refine own_by st128 ?_
        show own_Go p.tables e below K (T128.setTop (mkF m 240 #[.val (.int q1), .val (.int q2), .val (.int q3), .val (.int q4), .val (.int q5), .val (.int q6), .val (.double (FP.l2d q1.toInt64)), .second, .val (.ref r0), .val (.ref al), .val (.ref b113), .val (.ref b117), .val (.double (FP.l2d q2.toInt64)), .second, .val (.double (FP.l2d (q3 >>> ((8 : Int32) &&& 31)).toInt64)), .second, .val (.double (FP.l2d q3.toInt64)), .second, .val (.int cc), .val (.int u), .val (.double ds), .second, .val (.double co), .second, .val (.int (cc + u)), .val (.double (own_inc (FP.l2d q1.toInt64) u cc ds (FP.l2d q3.toInt64))), .second, .val (.int (1 : Int32)), .val (.double ds), .second, .val (.double co), .second, .unset] [(.int u)]))
        refine own_by (fun t k => XS.iload X128.here hx rfl (hb hby at_240) rfl k) ?_
        show own_Go p.tables e below K (T128.setTop (mkF m 242 #[.val (.int q1), .val (.int q2), .val (.int q3), .val (.int q4), .val (.int q5), .val (.int q6), .val (.double (FP.l2d q1.toInt64)), .second, .val (.ref r0), .val (.ref al), .val (.ref b113), .val (.ref b117), .val (.double (FP.l2d q2.toInt64)), .second, .val (.double (FP.l2d (q3 >>> ((8 : Int32) &&& 31)).toInt64)), .second, .val (.double (FP.l2d q3.toInt64)), .second, .val (.int cc), .val (.int u), .val (.double ds), .second, .val (.double co), .second, .val (.int (cc + u)), .val (.double (own_inc (FP.l2d q1.toInt64) u cc ds (FP.l2d q3.toInt64))), .second, .val (.int (1 : Int32)), .val (.double ds), .second, .val (.double co), .second, .unset] [(.int u), (.int u)]))
        have hc242 : u = u := rfl
        refine own_by (fun t k => XS.icmpNo X128.here hx rfl (hb hby at_242) rfl (teq hc242).2 k) ?_
        show own_Go p.tables e below K (T128.setTop (mkF m 245 #[.val (.int q1), .val (.int q2), .val (.int q3), .val (.int q4), .val (.int q5), .val (.int q6), .val (.double (FP.l2d q1.toInt64)), .second, .val (.ref r0), .val (.ref al), .val (.ref b113), .val (.ref b117), .val (.double (FP.l2d q2.toInt64)), .second, .val (.double (FP.l2d (q3 >>> ((8 : Int32) &&& 31)).toInt64)), .second, .val (.double (FP.l2d q3.toInt64)), .second, .val (.int cc), .val (.int u), .val (.double ds), .second, .val (.double co), .second, .val (.int (cc + u)), .val (.double (own_inc (FP.l2d q1.toInt64) u cc ds (FP.l2d q3.toInt64))), .second, .val (.int (1 : Int32)), .val (.double ds), .second, .val (.double co), .second, .unset] []))
        refine own_by (fun t k => XS.aload X128.here hx rfl (hb hby at_245) rfl rfl k) ?_
        show own_Go p.tables e below K (T128.setTop (mkF m 247 #[.val (.int q1), .val (.int q2), .val (.int q3), .val (.int q4), .val (.int q5), .val (.int q6), .val (.double (FP.l2d q1.toInt64)), .second, .val (.ref r0), .val (.ref al), .val (.ref b113), .val (.ref b117), .val (.double (FP.l2d q2.toInt64)), .second, .val (.double (FP.l2d (q3 >>> ((8 : Int32) &&& 31)).toInt64)), .second, .val (.double (FP.l2d q3.toInt64)), .second, .val (.int cc), .val (.int u), .val (.double ds), .second, .val (.double co), .second, .val (.int (cc + u)), .val (.double (own_inc (FP.l2d q1.toInt64) u cc ds (FP.l2d q3.toInt64))), .second, .val (.int (1 : Int32)), .val (.double ds), .second, .val (.double co), .second, .unset] [(.ref b117)]))
        obtain ⟨T129, X129, e129, st129⟩ := getF X128 hx hZ hown (host := "") (Or.inl (hw _ (List.mem_of_getElem? (i := 258) rfl))) Via.refl e128 Bp126.2.1 (g := (mkF m 247 #[.val (.int q1), .val (.int q2), .val (.int q3), .val (.int q4), .val (.int q5), .val (.int q6), .val (.double (FP.l2d q1.toInt64)), .second, .val (.ref r0), .val (.ref al), .val (.ref b113), .val (.ref b117), .val (.double (FP.l2d q2.toInt64)), .second, .val (.double (FP.l2d (q3 >>> ((8 : Int32) &&& 31)).toInt64)), .second, .val (.double (FP.l2d q3.toInt64)), .second, .val (.int cc), .val (.int u), .val (.double ds), .second, .val (.double co), .second, .val (.int (cc + u)), .val (.double (own_inc (FP.l2d q1.toInt64) u cc ds (FP.l2d q3.toInt64))), .second, .val (.int (1 : Int32)), .val (.double ds), .second, .val (.double co), .second, .unset] [(.ref b117)])) rfl rfl (hb hby at_247)
        refine own_by st129 ?_
        show own_Go p.tables e below K (T129.setTop (mkF m 250 #[.val (.int q1), .val (.int q2), .val (.int q3), .val (.int q4), .val (.int q5), .val (.int q6), .val (.double (FP.l2d q1.toInt64)), .second, .val (.ref r0), .val (.ref al), .val (.ref b113), .val (.ref b117), .val (.double (FP.l2d q2.toInt64)), .second, .val (.double (FP.l2d (q3 >>> ((8 : Int32) &&& 31)).toInt64)), .second, .val (.double (FP.l2d q3.toInt64)), .second, .val (.int cc), .val (.int u), .val (.double ds), .second, .val (.double co), .second, .val (.int (cc + u)), .val (.double (own_inc (FP.l2d q1.toInt64) u cc ds (FP.l2d q3.toInt64))), .second, .val (.int (1 : Int32)), .val (.double ds), .second, .val (.double co), .second, .unset] [(.double (FP.l2d q1.toInt64))]))
        refine own_by (fun t k => XS.dload X129.here hx rfl (hb hby at_250) rfl k) ?_
        show own_Go p.tables e below K (T129.setTop (mkF m 252 #[.val (.int q1), .val (.int q2), .val (.int q3), .val (.int q4), .val (.int q5), .val (.int q6), .val (.double (FP.l2d q1.toInt64)), .second, .val (.ref r0), .val (.ref al), .val (.ref b113), .val (.ref b117), .val (.double (FP.l2d q2.toInt64)), .second, .val (.double (FP.l2d (q3 >>> ((8 : Int32) &&& 31)).toInt64)), .second, .val (.double (FP.l2d q3.toInt64)), .second, .val (.int cc), .val (.int u), .val (.double ds), .second, .val (.double co), .second, .val (.int (cc + u)), .val (.double (own_inc (FP.l2d q1.toInt64) u cc ds (FP.l2d q3.toInt64))), .second, .val (.int (1 : Int32)), .val (.double ds), .second, .val (.double co), .second, .unset] [(.double (FP.l2d q1.toInt64)), (.double (FP.l2d q1.toInt64))]))
        refine own_by (fun t k => XS.dcmpS (v := (0 : Int32)) X129.here hx rfl (hb hby at_252) rfl (dcmpV_self (nn_w rfl) _) k) ?_
        show own_Go p.tables e below K (T129.setTop (mkF m 253 #[.val (.int q1), .val (.int q2), .val (.int q3), .val (.int q4), .val (.int q5), .val (.int q6), .val (.double (FP.l2d q1.toInt64)), .second, .val (.ref r0), .val (.ref al), .val (.ref b113), .val (.ref b117), .val (.double (FP.l2d q2.toInt64)), .second, .val (.double (FP.l2d (q3 >>> ((8 : Int32) &&& 31)).toInt64)), .second, .val (.double (FP.l2d q3.toInt64)), .second, .val (.int cc), .val (.int u), .val (.double ds), .second, .val (.double co), .second, .val (.int (cc + u)), .val (.double (own_inc (FP.l2d q1.toInt64) u cc ds (FP.l2d q3.toInt64))), .second, .val (.int (1 : Int32)), .val (.double ds), .second, .val (.double co), .second, .unset] [(.int (0 : Int32))]))
        have hc253 : (0 : Int32) = (0 : Int32) := by decide
        refine own_by (fun t k => XS.ifNo X129.here hx rfl (hb hby at_253) rfl ((if0 _ _).trans (teq hc253).2) k) ?_
        show own_Go p.tables e below K (T129.setTop (mkF m 256 #[.val (.int q1), .val (.int q2), .val (.int q3), .val (.int q4), .val (.int q5), .val (.int q6), .val (.double (FP.l2d q1.toInt64)), .second, .val (.ref r0), .val (.ref al), .val (.ref b113), .val (.ref b117), .val (.double (FP.l2d q2.toInt64)), .second, .val (.double (FP.l2d (q3 >>> ((8 : Int32) &&& 31)).toInt64)), .second, .val (.double (FP.l2d q3.toInt64)), .second, .val (.int cc), .val (.int u), .val (.double ds), .second, .val (.double co), .second, .val (.int (cc + u)), .val (.double (own_inc (FP.l2d q1.toInt64) u cc ds (FP.l2d q3.toInt64))), .second, .val (.int (1 : Int32)), .val (.double ds), .second, .val (.double co), .second, .unset] []))
        refine own_by (fun t k => XS.aload X129.here hx rfl (hb hby at_256) rfl rfl k) ?_
        show own_Go p.tables e below K (T129.setTop (mkF m 258 #[.val (.int q1), .val (.int q2), .val (.int q3), .val (.int q4), .val (.int q5), .val (.int q6), .val (.double (FP.l2d q1.toInt64)), .second, .val (.ref r0), .val (.ref al), .val (.ref b113), .val (.ref b117), .val (.double (FP.l2d q2.toInt64)), .second, .val (.double (FP.l2d (q3 >>> ((8 : Int32) &&& 31)).toInt64)), .second, .val (.double (FP.l2d q3.toInt64)), .second, .val (.int cc), .val (.int u), .val (.double ds), .second, .val (.double co), .second, .val (.int (cc + u)), .val (.double (own_inc (FP.l2d q1.toInt64) u cc ds (FP.l2d q3.toInt64))), .second, .val (.int (1 : Int32)), .val (.double ds), .second, .val (.double co), .second, .unset] [(.ref b117)]))
        obtain ⟨T130, X130, e130, st130⟩ := getF X129 hx hZ hown (host := "") (Or.inl (hw _ (List.mem_of_getElem? (i := 245) rfl))) Via.refl e129 Bp126.2.2.2.2.1 (g := (mkF m 258 #[.val (.int q1), .val (.int q2), .val (.int q3), .val (.int q4), .val (.int q5), .val (.int q6), .val (.double (FP.l2d q1.toInt64)), .second, .val (.ref r0), .val (.ref al), .val (.ref b113), .val (.ref b117), .val (.double (FP.l2d q2.toInt64)), .second, .val (.double (FP.l2d (q3 >>> ((8 : Int32) &&& 31)).toInt64)), .second, .val (.double (FP.l2d q3.toInt64)), .second, .val (.int cc), .val (.int u), .val (.double ds), .second, .val (.double co), .second, .val (.int (cc + u)), .val (.double (own_inc (FP.l2d q1.toInt64) u cc ds (FP.l2d q3.toInt64))), .second, .val (.int (1 : Int32)), .val (.double ds), .second, .val (.double co), .second, .unset] [(.ref b117)])) rfl rfl (hb hby at_258)
        refine own_by st130 ?_
        show own_Go p.tables e below K (T130.setTop (mkF m 261 #[.val (.int q1), .val (.int q2), .val (.int q3), .val (.int q4), .val (.int q5), .val (.int q6), .val (.double (FP.l2d q1.toInt64)), .second, .val (.ref r0), .val (.ref al), .val (.ref b113), .val (.ref b117), .val (.double (FP.l2d q2.toInt64)), .second, .val (.double (FP.l2d (q3 >>> ((8 : Int32) &&& 31)).toInt64)), .second, .val (.double (FP.l2d q3.toInt64)), .second, .val (.int cc), .val (.int u), .val (.double ds), .second, .val (.double co), .second, .val (.int (cc + u)), .val (.double (own_inc (FP.l2d q1.toInt64) u cc ds (FP.l2d q3.toInt64))), .second, .val (.int (1 : Int32)), .val (.double ds), .second, .val (.double co), .second, .unset] [(.double ds)]))
        refine own_by (fun t k => XS.dload X130.here hx rfl (hb hby at_261) rfl k) ?_
        show own_Go p.tables e below K (T130.setTop (mkF m 263 #[.val (.int q1), .val (.int q2), .val (.int q3), .val (.int q4), .val (.int q5), .val (.int q6), .val (.double (FP.l2d q1.toInt64)), .second, .val (.ref r0), .val (.ref al), .val (.ref b113), .val (.ref b117), .val (.double (FP.l2d q2.toInt64)), .second, .val (.double (FP.l2d (q3 >>> ((8 : Int32) &&& 31)).toInt64)), .second, .val (.double (FP.l2d q3.toInt64)), .second, .val (.int cc), .val (.int u), .val (.double ds), .second, .val (.double co), .second, .val (.int (cc + u)), .val (.double (own_inc (FP.l2d q1.toInt64) u cc ds (FP.l2d q3.toInt64))), .second, .val (.int (1 : Int32)), .val (.double ds), .second, .val (.double co), .second, .unset] [(.double ds), (.double ds)]))
        refine own_by (fun t k => XS.dcmpS (v := (0 : Int32)) X130.here hx rfl (hb hby at_263) rfl (dcmpV_self hnds _) k) ?_
        show own_Go p.tables e below K (T130.setTop (mkF m 264 #[.val (.int q1), .val (.int q2), .val (.int q3), .val (.int q4), .val (.int q5), .val (.int q6), .val (.double (FP.l2d q1.toInt64)), .second, .val (.ref r0), .val (.ref al), .val (.ref b113), .val (.ref b117), .val (.double (FP.l2d q2.toInt64)), .second, .val (.double (FP.l2d (q3 >>> ((8 : Int32) &&& 31)).toInt64)), .second, .val (.double (FP.l2d q3.toInt64)), .second, .val (.int cc), .val (.int u), .val (.double ds), .second, .val (.double co), .second, .val (.int (cc + u)), .val (.double (own_inc (FP.l2d q1.toInt64) u cc ds (FP.l2d q3.toInt64))), .second, .val (.int (1 : Int32)), .val (.double ds), .second, .val (.double co), .second, .unset] [(.int (0 : Int32))]))
        have hc264 : (0 : Int32) = (0 : Int32) := by decide
        refine own_by (fun t k => XS.ifNo X130.here hx rfl (hb hby at_264) rfl ((if0 _ _).trans (teq hc264).2) k) ?_
        show own_Go p.tables e below K (T130.setTop (mkF m 267 #[.val (.int q1), .val (.int q2), .val (.int q3), .val (.int q4), .val (.int q5), .val (.int q6), .val (.double (FP.l2d q1.toInt64)), .second, .val (.ref r0), .val (.ref al), .val (.ref b113), .val (.ref b117), .val (.double (FP.l2d q2.toInt64)), .second, .val (.double (FP.l2d (q3 >>> ((8 : Int32) &&& 31)).toInt64)), .second, .val (.double (FP.l2d q3.toInt64)), .second, .val (.int cc), .val (.int u), .val (.double ds), .second, .val (.double co), .second, .val (.int (cc + u)), .val (.double (own_inc (FP.l2d q1.toInt64) u cc ds (FP.l2d q3.toInt64))), .second, .val (.int (1 : Int32)), .val (.double ds), .second, .val (.double co), .second, .unset] []))
        refine own_by (fun t k => XS.aload X130.here hx rfl (hb hby at_267) rfl rfl k) ?_
        show own_Go p.tables e below K (T130.setTop (mkF m 269 #[.val (.int q1), .val (.int q2), .val (.int q3), .val (.int q4), .val (.int q5), .val (.int q6), .val (.double (FP.l2d q1.toInt64)), .second, .val (.ref r0), .val (.ref al), .val (.ref b113), .val (.ref b117), .val (.double (FP.l2d q2.toInt64)), .second, .val (.double (FP.l2d (q3 >>> ((8 : Int32) &&& 31)).toInt64)), .second, .val (.double (FP.l2d q3.toInt64)), .second, .val (.int cc), .val (.int u), .val (.double ds), .second, .val (.double co), .second, .val (.int (cc + u)), .val (.double (own_inc (FP.l2d q1.toInt64) u cc ds (FP.l2d q3.toInt64))), .second, .val (.int (1 : Int32)), .val (.double ds), .second, .val (.double co), .second, .unset] [(.ref b117)]))
        obtain ⟨T131, X131, e131, st131⟩ := getF X130 hx hZ hown (host := "") (Or.inl (hw _ (List.mem_of_getElem? (i := 246) rfl))) Via.refl e130 Bp126.2.2.2.2.2 (g := (mkF m 269 #[.val (.int q1), .val (.int q2), .val (.int q3), .val (.int q4), .val (.int q5), .val (.int q6), .val (.double (FP.l2d q1.toInt64)), .second, .val (.ref r0), .val (.ref al), .val (.ref b113), .val (.ref b117), .val (.double (FP.l2d q2.toInt64)), .second, .val (.double (FP.l2d (q3 >>> ((8 : Int32) &&& 31)).toInt64)), .second, .val (.double (FP.l2d q3.toInt64)), .second, .val (.int cc), .val (.int u), .val (.double ds), .second, .val (.double co), .second, .val (.int (cc + u)), .val (.double (own_inc (FP.l2d q1.toInt64) u cc ds (FP.l2d q3.toInt64))), .second, .val (.int (1 : Int32)), .val (.double ds), .second, .val (.double co), .second, .unset] [(.ref b117)])) rfl rfl (hb hby at_269)
        refine own_by st131 ?_
        show own_Go p.tables e below K (T131.setTop (mkF m 272 #[.val (.int q1), .val (.int q2), .val (.int q3), .val (.int q4), .val (.int q5), .val (.int q6), .val (.double (FP.l2d q1.toInt64)), .second, .val (.ref r0), .val (.ref al), .val (.ref b113), .val (.ref b117), .val (.double (FP.l2d q2.toInt64)), .second, .val (.double (FP.l2d (q3 >>> ((8 : Int32) &&& 31)).toInt64)), .second, .val (.double (FP.l2d q3.toInt64)), .second, .val (.int cc), .val (.int u), .val (.double ds), .second, .val (.double co), .second, .val (.int (cc + u)), .val (.double (own_inc (FP.l2d q1.toInt64) u cc ds (FP.l2d q3.toInt64))), .second, .val (.int (1 : Int32)), .val (.double ds), .second, .val (.double co), .second, .unset] [(.double co)]))
        refine own_by (fun t k => XS.dload X131.here hx rfl (hb hby at_272) rfl k) ?_
        show own_Go p.tables e below K (T131.setTop (mkF m 274 #[.val (.int q1), .val (.int q2), .val (.int q3), .val (.int q4), .val (.int q5), .val (.int q6), .val (.double (FP.l2d q1.toInt64)), .second, .val (.ref r0), .val (.ref al), .val (.ref b113), .val (.ref b117), .val (.double (FP.l2d q2.toInt64)), .second, .val (.double (FP.l2d (q3 >>> ((8 : Int32) &&& 31)).toInt64)), .second, .val (.double (FP.l2d q3.toInt64)), .second, .val (.int cc), .val (.int u), .val (.double ds), .second, .val (.double co), .second, .val (.int (cc + u)), .val (.double (own_inc (FP.l2d q1.toInt64) u cc ds (FP.l2d q3.toInt64))), .second, .val (.int (1 : Int32)), .val (.double ds), .second, .val (.double co), .second, .unset] [(.double co), (.double co)]))
        refine own_by (fun t k => XS.dcmpS (v := (0 : Int32)) X131.here hx rfl (hb hby at_274) rfl (dcmpV_self hnco _) k) ?_
        show own_Go p.tables e below K (T131.setTop (mkF m 275 #[.val (.int q1), .val (.int q2), .val (.int q3), .val (.int q4), .val (.int q5), .val (.int q6), .val (.double (FP.l2d q1.toInt64)), .second, .val (.ref r0), .val (.ref al), .val (.ref b113), .val (.ref b117), .val (.double (FP.l2d q2.toInt64)), .second, .val (.double (FP.l2d (q3 >>> ((8 : Int32) &&& 31)).toInt64)), .second, .val (.double (FP.l2d q3.toInt64)), .second, .val (.int cc), .val (.int u), .val (.double ds), .second, .val (.double co), .second, .val (.int (cc + u)), .val (.double (own_inc (FP.l2d q1.toInt64) u cc ds (FP.l2d q3.toInt64))), .second, .val (.int (1 : Int32)), .val (.double ds), .second, .val (.double co), .second, .unset] [(.int (0 : Int32))]))
        have hc275 : (0 : Int32) = (0 : Int32) := by decide
        refine own_by (fun t k => XS.ifNo X131.here hx rfl (hb hby at_275) rfl ((if0 _ _).trans (teq hc275).2) k) ?_
        show own_Go p.tables e below K (T131.setTop (mkF m 278 #[.val (.int q1), .val (.int q2), .val (.int q3), .val (.int q4), .val (.int q5), .val (.int q6), .val (.double (FP.l2d q1.toInt64)), .second, .val (.ref r0), .val (.ref al), .val (.ref b113), .val (.ref b117), .val (.double (FP.l2d q2.toInt64)), .second, .val (.double (FP.l2d (q3 >>> ((8 : Int32) &&& 31)).toInt64)), .second, .val (.double (FP.l2d q3.toInt64)), .second, .val (.int cc), .val (.int u), .val (.double ds), .second, .val (.double co), .second, .val (.int (cc + u)), .val (.double (own_inc (FP.l2d q1.toInt64) u cc ds (FP.l2d q3.toInt64))), .second, .val (.int (1 : Int32)), .val (.double ds), .second, .val (.double co), .second, .unset] []))
        refine own_by (fun t k => XS.aload X131.here hx rfl (hb hby at_278) rfl rfl k) ?_
        show own_Go p.tables e below K (T131.setTop (mkF m 280 #[.val (.int q1), .val (.int q2), .val (.int q3), .val (.int q4), .val (.int q5), .val (.int q6), .val (.double (FP.l2d q1.toInt64)), .second, .val (.ref r0), .val (.ref al), .val (.ref b113), .val (.ref b117), .val (.double (FP.l2d q2.toInt64)), .second, .val (.double (FP.l2d (q3 >>> ((8 : Int32) &&& 31)).toInt64)), .second, .val (.double (FP.l2d q3.toInt64)), .second, .val (.int cc), .val (.int u), .val (.double ds), .second, .val (.double co), .second, .val (.int (cc + u)), .val (.double (own_inc (FP.l2d q1.toInt64) u cc ds (FP.l2d q3.toInt64))), .second, .val (.int (1 : Int32)), .val (.double ds), .second, .val (.double co), .second, .unset] [(.ref b117)]))
        obtain ⟨cq132, kq132, q132a, q132b, q132c⟩ := isOf hZ e131 Bp126.1
        obtain ⟨_, _, ⟨T132, L132, k132, n132⟩, -, X132, ⟨Lc132, hQ132, l132, y132, z132⟩, st132⟩ := X131.virtualBack hx (y := (⟨"com/example/skyroster/skyroster/CostShare", "windowCount", "()I"⟩ : MethodName)) (z := (⟨"com/example/skyroster/skyroster/CostShare", "windowCount", "()I"⟩ : MethodName)) hown (mvT hZ (hw _ (List.mem_of_getElem? (i := 247) rfl))) (mvT hZ (hw _ (List.mem_of_getElem? (i := 237) rfl))) (notFace_of_selects (args := #[]) (mvT hZ (hw _ (List.mem_of_getElem? (i := 239) rfl)))) (mvT hZ (hw _ (List.mem_of_getElem? (i := 239) rfl))) (mvT hZ (hw _ (List.mem_of_getElem? (i := 238) rfl))) (by decide) (backOf (W := 0) (own_rmwc l Z aw hw [] b117 _ u cc _ _ T126.heap n0 Z126 ⟨Bp126.1, Bp126.2.1, Bp126.2.2.1, Bp126.2.2.2.1, Bp126.2.2.2.2.1, Bp126.2.2.2.2.2⟩) hZ (hw _ (List.mem_of_getElem? (i := 240) rfl)) (hw _ (List.mem_of_getElem? (i := 199) rfl)) (by decide) (by decide)) q132a q132c (g := (mkF m 280 #[.val (.int q1), .val (.int q2), .val (.int q3), .val (.int q4), .val (.int q5), .val (.int q6), .val (.double (FP.l2d q1.toInt64)), .second, .val (.ref r0), .val (.ref al), .val (.ref b113), .val (.ref b117), .val (.double (FP.l2d q2.toInt64)), .second, .val (.double (FP.l2d (q3 >>> ((8 : Int32) &&& 31)).toInt64)), .second, .val (.double (FP.l2d q3.toInt64)), .second, .val (.int cc), .val (.int u), .val (.double ds), .second, .val (.double co), .second, .val (.int (cc + u)), .val (.double (own_inc (FP.l2d q1.toInt64) u cc ds (FP.l2d q3.toInt64))), .second, .val (.int (1 : Int32)), .val (.double ds), .second, .val (.double co), .second, .unset] [(.ref b117)])) rfl (by rw [hml]; rfl) (Steps.refl _) (argsL := []) (rest := []) (lenOf own_pd14 rfl) rfl (by show 2 * 0 + _ ≤ _; exact Nat.le_of_eq rfl) (hb hby at_280) (fun _ _ => ⟨rfl, e131, (by decide : 16 + 0 ≤ _), (by decide : 64 + 0 ≤ _)⟩)
        dsimp only [Pt.U, Pt.locs, Pt.cells, Pt.slots] at X132 l132 y132 z132 st132 hQ132
        subst l132 y132 z132
        obtain ⟨rfl, N132q, e132⟩ := hQ132
        have N132 := Fr.app N126 N132q
        refine own_by (fun t k => st132.trans k) ?_
        show own_Go p.tables e below K (T132.setTop (mkF m 283 #[.val (.int q1), .val (.int q2), .val (.int q3), .val (.int q4), .val (.int q5), .val (.int q6), .val (.double (FP.l2d q1.toInt64)), .second, .val (.ref r0), .val (.ref al), .val (.ref b113), .val (.ref b117), .val (.double (FP.l2d q2.toInt64)), .second, .val (.double (FP.l2d (q3 >>> ((8 : Int32) &&& 31)).toInt64)), .second, .val (.double (FP.l2d q3.toInt64)), .second, .val (.int cc), .val (.int u), .val (.double ds), .second, .val (.double co), .second, .val (.int (cc + u)), .val (.double (own_inc (FP.l2d q1.toInt64) u cc ds (FP.l2d q3.toInt64))), .second, .val (.int (1 : Int32)), .val (.double ds), .second, .val (.double co), .second, .unset] [(.int (cc + u))]))
        refine own_by (fun t k => XS.iload X132.here hx rfl (hb hby at_283) rfl k) ?_
        show own_Go p.tables e below K (T132.setTop (mkF m 285 #[.val (.int q1), .val (.int q2), .val (.int q3), .val (.int q4), .val (.int q5), .val (.int q6), .val (.double (FP.l2d q1.toInt64)), .second, .val (.ref r0), .val (.ref al), .val (.ref b113), .val (.ref b117), .val (.double (FP.l2d q2.toInt64)), .second, .val (.double (FP.l2d (q3 >>> ((8 : Int32) &&& 31)).toInt64)), .second, .val (.double (FP.l2d q3.toInt64)), .second, .val (.int cc), .val (.int u), .val (.double ds), .second, .val (.double co), .second, .val (.int (cc + u)), .val (.double (own_inc (FP.l2d q1.toInt64) u cc ds (FP.l2d q3.toInt64))), .second, .val (.int (1 : Int32)), .val (.double ds), .second, .val (.double co), .second, .unset] [(.int (cc + u)), (.int (cc + u))]))
        have hc285 : (cc + u) = (cc + u) := rfl
        refine own_by (fun t k => XS.icmpNo X132.here hx rfl (hb hby at_285) rfl (teq hc285).2 k) ?_
        show own_Go p.tables e below K (T132.setTop (mkF m 288 #[.val (.int q1), .val (.int q2), .val (.int q3), .val (.int q4), .val (.int q5), .val (.int q6), .val (.double (FP.l2d q1.toInt64)), .second, .val (.ref r0), .val (.ref al), .val (.ref b113), .val (.ref b117), .val (.double (FP.l2d q2.toInt64)), .second, .val (.double (FP.l2d (q3 >>> ((8 : Int32) &&& 31)).toInt64)), .second, .val (.double (FP.l2d q3.toInt64)), .second, .val (.int cc), .val (.int u), .val (.double ds), .second, .val (.double co), .second, .val (.int (cc + u)), .val (.double (own_inc (FP.l2d q1.toInt64) u cc ds (FP.l2d q3.toInt64))), .second, .val (.int (1 : Int32)), .val (.double ds), .second, .val (.double co), .second, .unset] []))
        refine own_by (fun t k => XS.iconst X132.here hx rfl (hb hby at_288) k) ?_
        show own_Go p.tables e below K (T132.setTop (mkF m 289 #[.val (.int q1), .val (.int q2), .val (.int q3), .val (.int q4), .val (.int q5), .val (.int q6), .val (.double (FP.l2d q1.toInt64)), .second, .val (.ref r0), .val (.ref al), .val (.ref b113), .val (.ref b117), .val (.double (FP.l2d q2.toInt64)), .second, .val (.double (FP.l2d (q3 >>> ((8 : Int32) &&& 31)).toInt64)), .second, .val (.double (FP.l2d q3.toInt64)), .second, .val (.int cc), .val (.int u), .val (.double ds), .second, .val (.double co), .second, .val (.int (cc + u)), .val (.double (own_inc (FP.l2d q1.toInt64) u cc ds (FP.l2d q3.toInt64))), .second, .val (.int (1 : Int32)), .val (.double ds), .second, .val (.double co), .second, .unset] [(.int (1 : Int32))]))
        refine own_by (fun t k => XS.goto X132.here hx rfl (pc0 := 289) (pc' := 293) rfl (hb hby at_289) (by decide) (by decide) k) ?_
        show own_Go p.tables e below K (T132.setTop (mkF m 293 #[.val (.int q1), .val (.int q2), .val (.int q3), .val (.int q4), .val (.int q5), .val (.int q6), .val (.double (FP.l2d q1.toInt64)), .second, .val (.ref r0), .val (.ref al), .val (.ref b113), .val (.ref b117), .val (.double (FP.l2d q2.toInt64)), .second, .val (.double (FP.l2d (q3 >>> ((8 : Int32) &&& 31)).toInt64)), .second, .val (.double (FP.l2d q3.toInt64)), .second, .val (.int cc), .val (.int u), .val (.double ds), .second, .val (.double co), .second, .val (.int (cc + u)), .val (.double (own_inc (FP.l2d q1.toInt64) u cc ds (FP.l2d q3.toInt64))), .second, .val (.int (1 : Int32)), .val (.double ds), .second, .val (.double co), .second, .unset] [(.int (1 : Int32))]))
        refine own_by (fun t k => XS.istore X132.here hx rfl (hb hby at_293) rfl (l' := #[.val (.int q1), .val (.int q2), .val (.int q3), .val (.int q4), .val (.int q5), .val (.int q6), .val (.double (FP.l2d q1.toInt64)), .second, .val (.ref r0), .val (.ref al), .val (.ref b113), .val (.ref b117), .val (.double (FP.l2d q2.toInt64)), .second, .val (.double (FP.l2d (q3 >>> ((8 : Int32) &&& 31)).toInt64)), .second, .val (.double (FP.l2d q3.toInt64)), .second, .val (.int cc), .val (.int u), .val (.double ds), .second, .val (.double co), .second, .val (.int (cc + u)), .val (.double (own_inc (FP.l2d q1.toInt64) u cc ds (FP.l2d q3.toInt64))), .second, .val (.int (1 : Int32)), .val (.double ds), .second, .val (.double co), .second, .val (.int (1 : Int32))]) rfl k) ?_
        show own_Go p.tables e below K (T132.setTop (mkF m 295 #[.val (.int q1), .val (.int q2), .val (.int q3), .val (.int q4), .val (.int q5), .val (.int q6), .val (.double (FP.l2d q1.toInt64)), .second, .val (.ref r0), .val (.ref al), .val (.ref b113), .val (.ref b117), .val (.double (FP.l2d q2.toInt64)), .second, .val (.double (FP.l2d (q3 >>> ((8 : Int32) &&& 31)).toInt64)), .second, .val (.double (FP.l2d q3.toInt64)), .second, .val (.int cc), .val (.int u), .val (.double ds), .second, .val (.double co), .second, .val (.int (cc + u)), .val (.double (own_inc (FP.l2d q1.toInt64) u cc ds (FP.l2d q3.toInt64))), .second, .val (.int (1 : Int32)), .val (.double ds), .second, .val (.double co), .second, .val (.int (1 : Int32))] []))
        refine own_by (fun t k => XS.iload X132.here hx rfl (hb hby at_295) rfl k) ?_
        show own_Go p.tables e below K (T132.setTop (mkF m 297 #[.val (.int q1), .val (.int q2), .val (.int q3), .val (.int q4), .val (.int q5), .val (.int q6), .val (.double (FP.l2d q1.toInt64)), .second, .val (.ref r0), .val (.ref al), .val (.ref b113), .val (.ref b117), .val (.double (FP.l2d q2.toInt64)), .second, .val (.double (FP.l2d (q3 >>> ((8 : Int32) &&& 31)).toInt64)), .second, .val (.double (FP.l2d q3.toInt64)), .second, .val (.int cc), .val (.int u), .val (.double ds), .second, .val (.double co), .second, .val (.int (cc + u)), .val (.double (own_inc (FP.l2d q1.toInt64) u cc ds (FP.l2d q3.toInt64))), .second, .val (.int (1 : Int32)), .val (.double ds), .second, .val (.double co), .second, .val (.int (1 : Int32))] [(.int (1 : Int32))]))
        have hc297 : ¬ ((1 : Int32) = (0 : Int32)) := by decide
        refine own_by (fun t k => XS.ifNo X132.here hx rfl (hb hby at_297) rfl ((if0 _ _).trans (feq hc297).1) k) ?_
        show own_Go p.tables e below K (T132.setTop (mkF m 300 #[.val (.int q1), .val (.int q2), .val (.int q3), .val (.int q4), .val (.int q5), .val (.int q6), .val (.double (FP.l2d q1.toInt64)), .second, .val (.ref r0), .val (.ref al), .val (.ref b113), .val (.ref b117), .val (.double (FP.l2d q2.toInt64)), .second, .val (.double (FP.l2d (q3 >>> ((8 : Int32) &&& 31)).toInt64)), .second, .val (.double (FP.l2d q3.toInt64)), .second, .val (.int cc), .val (.int u), .val (.double ds), .second, .val (.double co), .second, .val (.int (cc + u)), .val (.double (own_inc (FP.l2d q1.toInt64) u cc ds (FP.l2d q3.toInt64))), .second, .val (.int (1 : Int32)), .val (.double ds), .second, .val (.double co), .second, .val (.int (1 : Int32))] []))
        refine own_by (fun t k => XS.iload X132.here hx rfl (hb hby at_300) rfl k) ?_
        show own_Go p.tables e below K (T132.setTop (mkF m 302 #[.val (.int q1), .val (.int q2), .val (.int q3), .val (.int q4), .val (.int q5), .val (.int q6), .val (.double (FP.l2d q1.toInt64)), .second, .val (.ref r0), .val (.ref al), .val (.ref b113), .val (.ref b117), .val (.double (FP.l2d q2.toInt64)), .second, .val (.double (FP.l2d (q3 >>> ((8 : Int32) &&& 31)).toInt64)), .second, .val (.double (FP.l2d q3.toInt64)), .second, .val (.int cc), .val (.int u), .val (.double ds), .second, .val (.double co), .second, .val (.int (cc + u)), .val (.double (own_inc (FP.l2d q1.toInt64) u cc ds (FP.l2d q3.toInt64))), .second, .val (.int (1 : Int32)), .val (.double ds), .second, .val (.double co), .second, .val (.int (1 : Int32))] [(.int (1 : Int32))]))
        have hc302 : ¬ ((1 : Int32) = (0 : Int32)) := by decide
        refine own_by (fun t k => XS.ifNo X132.here hx rfl (hb hby at_302) rfl ((if0 _ _).trans (feq hc302).1) k) ?_
        show own_Go p.tables e below K (T132.setTop (mkF m 305 #[.val (.int q1), .val (.int q2), .val (.int q3), .val (.int q4), .val (.int q5), .val (.int q6), .val (.double (FP.l2d q1.toInt64)), .second, .val (.ref r0), .val (.ref al), .val (.ref b113), .val (.ref b117), .val (.double (FP.l2d q2.toInt64)), .second, .val (.double (FP.l2d (q3 >>> ((8 : Int32) &&& 31)).toInt64)), .second, .val (.double (FP.l2d q3.toInt64)), .second, .val (.int cc), .val (.int u), .val (.double ds), .second, .val (.double co), .second, .val (.int (cc + u)), .val (.double (own_inc (FP.l2d q1.toInt64) u cc ds (FP.l2d q3.toInt64))), .second, .val (.int (1 : Int32)), .val (.double ds), .second, .val (.double co), .second, .val (.int (1 : Int32))] []))
        refine own_by (fun t k => XS.aload X132.here hx rfl (hb hby at_305) rfl rfl k) ?_
        show own_Go p.tables e below K (T132.setTop (mkF m 307 #[.val (.int q1), .val (.int q2), .val (.int q3), .val (.int q4), .val (.int q5), .val (.int q6), .val (.double (FP.l2d q1.toInt64)), .second, .val (.ref r0), .val (.ref al), .val (.ref b113), .val (.ref b117), .val (.double (FP.l2d q2.toInt64)), .second, .val (.double (FP.l2d (q3 >>> ((8 : Int32) &&& 31)).toInt64)), .second, .val (.double (FP.l2d q3.toInt64)), .second, .val (.int cc), .val (.int u), .val (.double ds), .second, .val (.double co), .second, .val (.int (cc + u)), .val (.double (own_inc (FP.l2d q1.toInt64) u cc ds (FP.l2d q3.toInt64))), .second, .val (.int (1 : Int32)), .val (.double ds), .second, .val (.double co), .second, .val (.int (1 : Int32))] [(.ref b117)]))
        refine own_by (fun t k => XS.dload X132.here hx rfl (hb hby at_307) rfl k) ?_
        show own_Go p.tables e below K (T132.setTop (mkF m 309 #[.val (.int q1), .val (.int q2), .val (.int q3), .val (.int q4), .val (.int q5), .val (.int q6), .val (.double (FP.l2d q1.toInt64)), .second, .val (.ref r0), .val (.ref al), .val (.ref b113), .val (.ref b117), .val (.double (FP.l2d q2.toInt64)), .second, .val (.double (FP.l2d (q3 >>> ((8 : Int32) &&& 31)).toInt64)), .second, .val (.double (FP.l2d q3.toInt64)), .second, .val (.int cc), .val (.int u), .val (.double ds), .second, .val (.double co), .second, .val (.int (cc + u)), .val (.double (own_inc (FP.l2d q1.toInt64) u cc ds (FP.l2d q3.toInt64))), .second, .val (.int (1 : Int32)), .val (.double ds), .second, .val (.double co), .second, .val (.int (1 : Int32))] [(.double (FP.l2d q3.toInt64)), (.ref b117)]))
        obtain ⟨cq133, kq133, q133a, q133b, q133c⟩ := isOf hZ e132 Bp126.1
        obtain ⟨_, _, ⟨T133, L133, k133, n133⟩, -, X133, ⟨Lc133, hQ133, l133, y133, z133⟩, st133⟩ := X132.virtualBack hx (y := (⟨"com/example/skyroster/skyroster/CostShare", "increase", "(D)D"⟩ : MethodName)) (z := (⟨"com/example/skyroster/skyroster/CostShare", "increase", "(D)D"⟩ : MethodName)) hown (mvT hZ (hw _ (List.mem_of_getElem? (i := 248) rfl))) (mvT hZ (hw _ (List.mem_of_getElem? (i := 249) rfl))) (notFace_of_selects (args := #[]) (mvT hZ (hw _ (List.mem_of_getElem? (i := 251) rfl)))) (mvT hZ (hw _ (List.mem_of_getElem? (i := 251) rfl))) (mvT hZ (hw _ (List.mem_of_getElem? (i := 250) rfl))) (by decide) (backOf (W := 0) (own_rminc l Z aw hw [] b117 (FP.l2d q3.toInt64) (FP.l2d q1.toInt64) u cc ds co T126.heap n0 Z126 ⟨Bp126.1, Bp126.2.1, Bp126.2.2.1, Bp126.2.2.2.1, Bp126.2.2.2.2.1, Bp126.2.2.2.2.2⟩ (Jvm.Free.Fl.l2d_mag _) (Jvm.Free.Fl.Mag64.mono hds (by decide)) (Jvm.Free.Fl.l2d_mag _)) hZ (hw _ (List.mem_of_getElem? (i := 252) rfl)) (hw _ (List.mem_of_getElem? (i := 199) rfl)) (by decide) (by decide)) q133a q133c (g := (mkF m 309 #[.val (.int q1), .val (.int q2), .val (.int q3), .val (.int q4), .val (.int q5), .val (.int q6), .val (.double (FP.l2d q1.toInt64)), .second, .val (.ref r0), .val (.ref al), .val (.ref b113), .val (.ref b117), .val (.double (FP.l2d q2.toInt64)), .second, .val (.double (FP.l2d (q3 >>> ((8 : Int32) &&& 31)).toInt64)), .second, .val (.double (FP.l2d q3.toInt64)), .second, .val (.int cc), .val (.int u), .val (.double ds), .second, .val (.double co), .second, .val (.int (cc + u)), .val (.double (own_inc (FP.l2d q1.toInt64) u cc ds (FP.l2d q3.toInt64))), .second, .val (.int (1 : Int32)), .val (.double ds), .second, .val (.double co), .second, .val (.int (1 : Int32))] [(.double (FP.l2d q3.toInt64)), (.ref b117)])) rfl (by rw [hml]; rfl) (Steps.refl _) (argsL := [(.double (FP.l2d q3.toInt64))]) (rest := []) (lenOf own_pd17 rfl) rfl (by show 2 * 0 + _ ≤ _; exact Nat.le_of_eq rfl) (hb hby at_309) (fun _ _ => ⟨rfl, e132, (by decide : 16 + 0 ≤ _), (by decide : 64 + 0 ≤ _)⟩)
        dsimp only [Pt.U, Pt.locs, Pt.cells, Pt.slots] at X133 l133 y133 z133 st133 hQ133
        subst l133 y133 z133
        obtain ⟨rfl, N133q, e133⟩ := hQ133
        have N133 := Fr.app N132 N133q
        refine own_by (fun t k => st133.trans k) ?_
        show own_Go p.tables e below K (T133.setTop (mkF m 312 #[.val (.int q1), .val (.int q2), .val (.int q3), .val (.int q4), .val (.int q5), .val (.int q6), .val (.double (FP.l2d q1.toInt64)), .second, .val (.ref r0), .val (.ref al), .val (.ref b113), .val (.ref b117), .val (.double (FP.l2d q2.toInt64)), .second, .val (.double (FP.l2d (q3 >>> ((8 : Int32) &&& 31)).toInt64)), .second, .val (.double (FP.l2d q3.toInt64)), .second, .val (.int cc), .val (.int u), .val (.double ds), .second, .val (.double co), .second, .val (.int (cc + u)), .val (.double (own_inc (FP.l2d q1.toInt64) u cc ds (FP.l2d q3.toInt64))), .second, .val (.int (1 : Int32)), .val (.double ds), .second, .val (.double co), .second, .val (.int (1 : Int32))] [(.double (own_inc (FP.l2d q1.toInt64) u cc ds (FP.l2d q3.toInt64)))]))
        refine own_by (fun t k => XS.dload X133.here hx rfl (hb hby at_312) rfl k) ?_
        show own_Go p.tables e below K (T133.setTop (mkF m 314 #[.val (.int q1), .val (.int q2), .val (.int q3), .val (.int q4), .val (.int q5), .val (.int q6), .val (.double (FP.l2d q1.toInt64)), .second, .val (.ref r0), .val (.ref al), .val (.ref b113), .val (.ref b117), .val (.double (FP.l2d q2.toInt64)), .second, .val (.double (FP.l2d (q3 >>> ((8 : Int32) &&& 31)).toInt64)), .second, .val (.double (FP.l2d q3.toInt64)), .second, .val (.int cc), .val (.int u), .val (.double ds), .second, .val (.double co), .second, .val (.int (cc + u)), .val (.double (own_inc (FP.l2d q1.toInt64) u cc ds (FP.l2d q3.toInt64))), .second, .val (.int (1 : Int32)), .val (.double ds), .second, .val (.double co), .second, .val (.int (1 : Int32))] [(.double (own_inc (FP.l2d q1.toInt64) u cc ds (FP.l2d q3.toInt64))), (.double (own_inc (FP.l2d q1.toInt64) u cc ds (FP.l2d q3.toInt64)))]))
        refine own_by (fun t k => XS.dcmpS (v := (0 : Int32)) X133.here hx rfl (hb hby at_314) rfl (dcmpV_self (own_iN (Jvm.Free.Fl.l2d_mag _) (Jvm.Free.Fl.Mag64.mono hds (by decide)) (Jvm.Free.Fl.l2d_mag _)).2.2 _) k) ?_
        show own_Go p.tables e below K (T133.setTop (mkF m 315 #[.val (.int q1), .val (.int q2), .val (.int q3), .val (.int q4), .val (.int q5), .val (.int q6), .val (.double (FP.l2d q1.toInt64)), .second, .val (.ref r0), .val (.ref al), .val (.ref b113), .val (.ref b117), .val (.double (FP.l2d q2.toInt64)), .second, .val (.double (FP.l2d (q3 >>> ((8 : Int32) &&& 31)).toInt64)), .second, .val (.double (FP.l2d q3.toInt64)), .second, .val (.int cc), .val (.int u), .val (.double ds), .second, .val (.double co), .second, .val (.int (cc + u)), .val (.double (own_inc (FP.l2d q1.toInt64) u cc ds (FP.l2d q3.toInt64))), .second, .val (.int (1 : Int32)), .val (.double ds), .second, .val (.double co), .second, .val (.int (1 : Int32))] [(.int (0 : Int32))]))
        have hc315 : (0 : Int32) = (0 : Int32) := by decide
        refine own_by (fun t k => XS.ifNo X133.here hx rfl (hb hby at_315) rfl ((if0 _ _).trans (teq hc315).2) k) ?_
        show own_Go p.tables e below K (T133.setTop (mkF m 318 #[.val (.int q1), .val (.int q2), .val (.int q3), .val (.int q4), .val (.int q5), .val (.int q6), .val (.double (FP.l2d q1.toInt64)), .second, .val (.ref r0), .val (.ref al), .val (.ref b113), .val (.ref b117), .val (.double (FP.l2d q2.toInt64)), .second, .val (.double (FP.l2d (q3 >>> ((8 : Int32) &&& 31)).toInt64)), .second, .val (.double (FP.l2d q3.toInt64)), .second, .val (.int cc), .val (.int u), .val (.double ds), .second, .val (.double co), .second, .val (.int (cc + u)), .val (.double (own_inc (FP.l2d q1.toInt64) u cc ds (FP.l2d q3.toInt64))), .second, .val (.int (1 : Int32)), .val (.double ds), .second, .val (.double co), .second, .val (.int (1 : Int32))] []))
        refine own_by (fun t k => XS.iconst X133.here hx rfl (hb hby at_318) k) ?_
        show own_Go p.tables e below K (T133.setTop (mkF m 319 #[.val (.int q1), .val (.int q2), .val (.int q3), .val (.int q4), .val (.int q5), .val (.int q6), .val (.double (FP.l2d q1.toInt64)), .second, .val (.ref r0), .val (.ref al), .val (.ref b113), .val (.ref b117), .val (.double (FP.l2d q2.toInt64)), .second, .val (.double (FP.l2d (q3 >>> ((8 : Int32) &&& 31)).toInt64)), .second, .val (.double (FP.l2d q3.toInt64)), .second, .val (.int cc), .val (.int u), .val (.double ds), .second, .val (.double co), .second, .val (.int (cc + u)), .val (.double (own_inc (FP.l2d q1.toInt64) u cc ds (FP.l2d q3.toInt64))), .second, .val (.int (1 : Int32)), .val (.double ds), .second, .val (.double co), .second, .val (.int (1 : Int32))] [(.int (1 : Int32))]))
        refine own_by (fun t k => XS.goto X133.here hx rfl (pc0 := 319) (pc' := 323) rfl (hb hby at_319) (by decide) (by decide) k) ?_
        show own_Go p.tables e below K (T133.setTop (mkF m 323 #[.val (.int q1), .val (.int q2), .val (.int q3), .val (.int q4), .val (.int q5), .val (.int q6), .val (.double (FP.l2d q1.toInt64)), .second, .val (.ref r0), .val (.ref al), .val (.ref b113), .val (.ref b117), .val (.double (FP.l2d q2.toInt64)), .second, .val (.double (FP.l2d (q3 >>> ((8 : Int32) &&& 31)).toInt64)), .second, .val (.double (FP.l2d q3.toInt64)), .second, .val (.int cc), .val (.int u), .val (.double ds), .second, .val (.double co), .second, .val (.int (cc + u)), .val (.double (own_inc (FP.l2d q1.toInt64) u cc ds (FP.l2d q3.toInt64))), .second, .val (.int (1 : Int32)), .val (.double ds), .second, .val (.double co), .second, .val (.int (1 : Int32))] [(.int (1 : Int32))]))
        refine own_by (fun t k => XS.istore X133.here hx rfl (hb hby at_323) rfl (l' := #[.val (.int q1), .val (.int q2), .val (.int q3), .val (.int q4), .val (.int q5), .val (.int q6), .val (.double (FP.l2d q1.toInt64)), .second, .val (.ref r0), .val (.ref al), .val (.ref b113), .val (.ref b117), .val (.double (FP.l2d q2.toInt64)), .second, .val (.double (FP.l2d (q3 >>> ((8 : Int32) &&& 31)).toInt64)), .second, .val (.double (FP.l2d q3.toInt64)), .second, .val (.int cc), .val (.int u), .val (.double ds), .second, .val (.double co), .second, .val (.int (cc + u)), .val (.double (own_inc (FP.l2d q1.toInt64) u cc ds (FP.l2d q3.toInt64))), .second, .val (.int (1 : Int32)), .val (.double ds), .second, .val (.double co), .second, .val (.int (1 : Int32))]) rfl k) ?_
        show own_Go p.tables e below K (T133.setTop (mkF m 325 #[.val (.int q1), .val (.int q2), .val (.int q3), .val (.int q4), .val (.int q5), .val (.int q6), .val (.double (FP.l2d q1.toInt64)), .second, .val (.ref r0), .val (.ref al), .val (.ref b113), .val (.ref b117), .val (.double (FP.l2d q2.toInt64)), .second, .val (.double (FP.l2d (q3 >>> ((8 : Int32) &&& 31)).toInt64)), .second, .val (.double (FP.l2d q3.toInt64)), .second, .val (.int cc), .val (.int u), .val (.double ds), .second, .val (.double co), .second, .val (.int (cc + u)), .val (.double (own_inc (FP.l2d q1.toInt64) u cc ds (FP.l2d q3.toInt64))), .second, .val (.int (1 : Int32)), .val (.double ds), .second, .val (.double co), .second, .val (.int (1 : Int32))] []))
        refine own_by (fun t k => XS.iload X133.here hx rfl (hb hby at_325) rfl k) ?_
        show own_Go p.tables e below K (T133.setTop (mkF m 327 #[.val (.int q1), .val (.int q2), .val (.int q3), .val (.int q4), .val (.int q5), .val (.int q6), .val (.double (FP.l2d q1.toInt64)), .second, .val (.ref r0), .val (.ref al), .val (.ref b113), .val (.ref b117), .val (.double (FP.l2d q2.toInt64)), .second, .val (.double (FP.l2d (q3 >>> ((8 : Int32) &&& 31)).toInt64)), .second, .val (.double (FP.l2d q3.toInt64)), .second, .val (.int cc), .val (.int u), .val (.double ds), .second, .val (.double co), .second, .val (.int (cc + u)), .val (.double (own_inc (FP.l2d q1.toInt64) u cc ds (FP.l2d q3.toInt64))), .second, .val (.int (1 : Int32)), .val (.double ds), .second, .val (.double co), .second, .val (.int (1 : Int32))] [(.int (1 : Int32))]))
        exact own_retZ X133 hx (t := .boolean) hret (by simp) (hb hby at_327) (hK (some (.int (1 : Int32))) X133 hS115 (by rw [e133]; exact Nat.le_trans (by rw [hh0]; exact hk115) K126.1) (fun h => by rw [hret] at h; cases h) ⟨rfl, hn0 ▸ N133⟩ (by decide) (by decide))
      · refine own_by (fun t k => XS.ifYes X125.here hx rfl (pc0 := 177) (pc' := 184) rfl (hb hby at_177) rfl ((if0 _ _).trans (feq hc177).2) (by decide) (by decide) k) ?_
        show own_Go p.tables e below K (T125.setTop (mkF m 184 #[.val (.int q1), .val (.int q2), .val (.int q3), .val (.int q4), .val (.int q5), .val (.int q6), .val (.double (FP.l2d q1.toInt64)), .second, .val (.ref r0), .val (.ref al), .val (.ref b113), .val (.ref b117), .val (.double (FP.l2d q2.toInt64)), .second, .val (.double (FP.l2d (q3 >>> ((8 : Int32) &&& 31)).toInt64)), .second, .val (.double (FP.l2d q3.toInt64)), .second, .val (.int cc), .val (.int u), .val (.double ds), .second, .val (.double co), .second, .val (.int (cc + u)), .val (.double (own_inc (FP.l2d q1.toInt64) u cc ds (FP.l2d q3.toInt64))), .second, .unset, .unset, .unset, .unset, .unset, .unset] []))
        refine own_by (fun t k => XS.iconst X125.here hx rfl (hb hby at_184) k) ?_
        show own_Go p.tables e below K (T125.setTop (mkF m 185 #[.val (.int q1), .val (.int q2), .val (.int q3), .val (.int q4), .val (.int q5), .val (.int q6), .val (.double (FP.l2d q1.toInt64)), .second, .val (.ref r0), .val (.ref al), .val (.ref b113), .val (.ref b117), .val (.double (FP.l2d q2.toInt64)), .second, .val (.double (FP.l2d (q3 >>> ((8 : Int32) &&& 31)).toInt64)), .second, .val (.double (FP.l2d q3.toInt64)), .second, .val (.int cc), .val (.int u), .val (.double ds), .second, .val (.double co), .second, .val (.int (cc + u)), .val (.double (own_inc (FP.l2d q1.toInt64) u cc ds (FP.l2d q3.toInt64))), .second, .unset, .unset, .unset, .unset, .unset, .unset] [(.int (0 : Int32))]))
        refine own_by (fun t k => XS.istore X125.here hx rfl (hb hby at_185) rfl (l' := #[.val (.int q1), .val (.int q2), .val (.int q3), .val (.int q4), .val (.int q5), .val (.int q6), .val (.double (FP.l2d q1.toInt64)), .second, .val (.ref r0), .val (.ref al), .val (.ref b113), .val (.ref b117), .val (.double (FP.l2d q2.toInt64)), .second, .val (.double (FP.l2d (q3 >>> ((8 : Int32) &&& 31)).toInt64)), .second, .val (.double (FP.l2d q3.toInt64)), .second, .val (.int cc), .val (.int u), .val (.double ds), .second, .val (.double co), .second, .val (.int (cc + u)), .val (.double (own_inc (FP.l2d q1.toInt64) u cc ds (FP.l2d q3.toInt64))), .second, .val (.int (0 : Int32)), .unset, .unset, .unset, .unset, .unset]) rfl k) ?_
        show own_Go p.tables e below K (T125.setTop (mkF m 187 #[.val (.int q1), .val (.int q2), .val (.int q3), .val (.int q4), .val (.int q5), .val (.int q6), .val (.double (FP.l2d q1.toInt64)), .second, .val (.ref r0), .val (.ref al), .val (.ref b113), .val (.ref b117), .val (.double (FP.l2d q2.toInt64)), .second, .val (.double (FP.l2d (q3 >>> ((8 : Int32) &&& 31)).toInt64)), .second, .val (.double (FP.l2d q3.toInt64)), .second, .val (.int cc), .val (.int u), .val (.double ds), .second, .val (.double co), .second, .val (.int (cc + u)), .val (.double (own_inc (FP.l2d q1.toInt64) u cc ds (FP.l2d q3.toInt64))), .second, .val (.int (0 : Int32)), .unset, .unset, .unset, .unset, .unset] []))
        refine own_by (fun t k => XS.iload X125.here hx rfl (hb hby at_187) rfl k) ?_
        show own_Go p.tables e below K (T125.setTop (mkF m 189 #[.val (.int q1), .val (.int q2), .val (.int q3), .val (.int q4), .val (.int q5), .val (.int q6), .val (.double (FP.l2d q1.toInt64)), .second, .val (.ref r0), .val (.ref al), .val (.ref b113), .val (.ref b117), .val (.double (FP.l2d q2.toInt64)), .second, .val (.double (FP.l2d (q3 >>> ((8 : Int32) &&& 31)).toInt64)), .second, .val (.double (FP.l2d q3.toInt64)), .second, .val (.int cc), .val (.int u), .val (.double ds), .second, .val (.double co), .second, .val (.int (cc + u)), .val (.double (own_inc (FP.l2d q1.toInt64) u cc ds (FP.l2d q3.toInt64))), .second, .val (.int (0 : Int32)), .unset, .unset, .unset, .unset, .unset] [(.int (0 : Int32))]))
        have hc189 : (0 : Int32) = (0 : Int32) := by decide
        refine own_by (fun t k => XS.ifYes X125.here hx rfl (pc0 := 189) (pc' := 197) rfl (hb hby at_189) rfl ((if0 _ _).trans (teq hc189).1) (by decide) (by decide) k) ?_
        show own_Go p.tables e below K (T125.setTop (mkF m 197 #[.val (.int q1), .val (.int q2), .val (.int q3), .val (.int q4), .val (.int q5), .val (.int q6), .val (.double (FP.l2d q1.toInt64)), .second, .val (.ref r0), .val (.ref al), .val (.ref b113), .val (.ref b117), .val (.double (FP.l2d q2.toInt64)), .second, .val (.double (FP.l2d (q3 >>> ((8 : Int32) &&& 31)).toInt64)), .second, .val (.double (FP.l2d q3.toInt64)), .second, .val (.int cc), .val (.int u), .val (.double ds), .second, .val (.double co), .second, .val (.int (cc + u)), .val (.double (own_inc (FP.l2d q1.toInt64) u cc ds (FP.l2d q3.toInt64))), .second, .val (.int (0 : Int32)), .unset, .unset, .unset, .unset, .unset] []))
        refine own_by (fun t k => XS.iloadN X125.here hx rfl (hb hby at_197) rfl k) ?_
        show own_Go p.tables e below K (T125.setTop (mkF m 198 #[.val (.int q1), .val (.int q2), .val (.int q3), .val (.int q4), .val (.int q5), .val (.int q6), .val (.double (FP.l2d q1.toInt64)), .second, .val (.ref r0), .val (.ref al), .val (.ref b113), .val (.ref b117), .val (.double (FP.l2d q2.toInt64)), .second, .val (.double (FP.l2d (q3 >>> ((8 : Int32) &&& 31)).toInt64)), .second, .val (.double (FP.l2d q3.toInt64)), .second, .val (.int cc), .val (.int u), .val (.double ds), .second, .val (.double co), .second, .val (.int (cc + u)), .val (.double (own_inc (FP.l2d q1.toInt64) u cc ds (FP.l2d q3.toInt64))), .second, .val (.int (0 : Int32)), .unset, .unset, .unset, .unset, .unset] [(.int q4)]))
        refine own_by (fun t k => XS.i2dS X125.here hx rfl (hb hby at_198) rfl (i2d_w _) k) ?_
        show own_Go p.tables e below K (T125.setTop (mkF m 199 #[.val (.int q1), .val (.int q2), .val (.int q3), .val (.int q4), .val (.int q5), .val (.int q6), .val (.double (FP.l2d q1.toInt64)), .second, .val (.ref r0), .val (.ref al), .val (.ref b113), .val (.ref b117), .val (.double (FP.l2d q2.toInt64)), .second, .val (.double (FP.l2d (q3 >>> ((8 : Int32) &&& 31)).toInt64)), .second, .val (.double (FP.l2d q3.toInt64)), .second, .val (.int cc), .val (.int u), .val (.double ds), .second, .val (.double co), .second, .val (.int (cc + u)), .val (.double (own_inc (FP.l2d q1.toInt64) u cc ds (FP.l2d q3.toInt64))), .second, .val (.int (0 : Int32)), .unset, .unset, .unset, .unset, .unset] [(.double (FP.l2d q4.toInt64))]))
        refine own_by (fun t k => XS.dstore X125.here hx rfl (hb hby at_199) rfl (l' := #[.val (.int q1), .val (.int q2), .val (.int q3), .val (.int q4), .val (.int q5), .val (.int q6), .val (.double (FP.l2d q1.toInt64)), .second, .val (.ref r0), .val (.ref al), .val (.ref b113), .val (.ref b117), .val (.double (FP.l2d q2.toInt64)), .second, .val (.double (FP.l2d (q3 >>> ((8 : Int32) &&& 31)).toInt64)), .second, .val (.double (FP.l2d q3.toInt64)), .second, .val (.int cc), .val (.int u), .val (.double ds), .second, .val (.double co), .second, .val (.int (cc + u)), .val (.double (own_inc (FP.l2d q1.toInt64) u cc ds (FP.l2d q3.toInt64))), .second, .val (.int (0 : Int32)), .val (.double (FP.l2d q4.toInt64)), .second, .unset, .unset, .unset]) rfl k) ?_
        show own_Go p.tables e below K (T125.setTop (mkF m 201 #[.val (.int q1), .val (.int q2), .val (.int q3), .val (.int q4), .val (.int q5), .val (.int q6), .val (.double (FP.l2d q1.toInt64)), .second, .val (.ref r0), .val (.ref al), .val (.ref b113), .val (.ref b117), .val (.double (FP.l2d q2.toInt64)), .second, .val (.double (FP.l2d (q3 >>> ((8 : Int32) &&& 31)).toInt64)), .second, .val (.double (FP.l2d q3.toInt64)), .second, .val (.int cc), .val (.int u), .val (.double ds), .second, .val (.double co), .second, .val (.int (cc + u)), .val (.double (own_inc (FP.l2d q1.toInt64) u cc ds (FP.l2d q3.toInt64))), .second, .val (.int (0 : Int32)), .val (.double (FP.l2d q4.toInt64)), .second, .unset, .unset, .unset] []))
        refine own_by (fun t k => XS.iload X125.here hx rfl (hb hby at_201) rfl k) ?_
        show own_Go p.tables e below K (T125.setTop (mkF m 203 #[.val (.int q1), .val (.int q2), .val (.int q3), .val (.int q4), .val (.int q5), .val (.int q6), .val (.double (FP.l2d q1.toInt64)), .second, .val (.ref r0), .val (.ref al), .val (.ref b113), .val (.ref b117), .val (.double (FP.l2d q2.toInt64)), .second, .val (.double (FP.l2d (q3 >>> ((8 : Int32) &&& 31)).toInt64)), .second, .val (.double (FP.l2d q3.toInt64)), .second, .val (.int cc), .val (.int u), .val (.double ds), .second, .val (.double co), .second, .val (.int (cc + u)), .val (.double (own_inc (FP.l2d q1.toInt64) u cc ds (FP.l2d q3.toInt64))), .second, .val (.int (0 : Int32)), .val (.double (FP.l2d q4.toInt64)), .second, .unset, .unset, .unset] [(.int (0 : Int32))]))
        have hc203 : (0 : Int32) = (0 : Int32) := by decide
        refine own_by (fun t k => XS.ifYes X125.here hx rfl (pc0 := 203) (pc' := 211) rfl (hb hby at_203) rfl ((if0 _ _).trans (teq hc203).1) (by decide) (by decide) k) ?_
        show own_Go p.tables e below K (T125.setTop (mkF m 211 #[.val (.int q1), .val (.int q2), .val (.int q3), .val (.int q4), .val (.int q5), .val (.int q6), .val (.double (FP.l2d q1.toInt64)), .second, .val (.ref r0), .val (.ref al), .val (.ref b113), .val (.ref b117), .val (.double (FP.l2d q2.toInt64)), .second, .val (.double (FP.l2d (q3 >>> ((8 : Int32) &&& 31)).toInt64)), .second, .val (.double (FP.l2d q3.toInt64)), .second, .val (.int cc), .val (.int u), .val (.double ds), .second, .val (.double co), .second, .val (.int (cc + u)), .val (.double (own_inc (FP.l2d q1.toInt64) u cc ds (FP.l2d q3.toInt64))), .second, .val (.int (0 : Int32)), .val (.double (FP.l2d q4.toInt64)), .second, .unset, .unset, .unset] []))
        refine own_by (fun t k => XS.iload X125.here hx rfl (hb hby at_211) rfl k) ?_
        show own_Go p.tables e below K (T125.setTop (mkF m 213 #[.val (.int q1), .val (.int q2), .val (.int q3), .val (.int q4), .val (.int q5), .val (.int q6), .val (.double (FP.l2d q1.toInt64)), .second, .val (.ref r0), .val (.ref al), .val (.ref b113), .val (.ref b117), .val (.double (FP.l2d q2.toInt64)), .second, .val (.double (FP.l2d (q3 >>> ((8 : Int32) &&& 31)).toInt64)), .second, .val (.double (FP.l2d q3.toInt64)), .second, .val (.int cc), .val (.int u), .val (.double ds), .second, .val (.double co), .second, .val (.int (cc + u)), .val (.double (own_inc (FP.l2d q1.toInt64) u cc ds (FP.l2d q3.toInt64))), .second, .val (.int (0 : Int32)), .val (.double (FP.l2d q4.toInt64)), .second, .unset, .unset, .unset] [(.int q5)]))
        refine own_by (fun t k => XS.i2dS X125.here hx rfl (hb hby at_213) rfl (i2d_w _) k) ?_
        show own_Go p.tables e below K (T125.setTop (mkF m 214 #[.val (.int q1), .val (.int q2), .val (.int q3), .val (.int q4), .val (.int q5), .val (.int q6), .val (.double (FP.l2d q1.toInt64)), .second, .val (.ref r0), .val (.ref al), .val (.ref b113), .val (.ref b117), .val (.double (FP.l2d q2.toInt64)), .second, .val (.double (FP.l2d (q3 >>> ((8 : Int32) &&& 31)).toInt64)), .second, .val (.double (FP.l2d q3.toInt64)), .second, .val (.int cc), .val (.int u), .val (.double ds), .second, .val (.double co), .second, .val (.int (cc + u)), .val (.double (own_inc (FP.l2d q1.toInt64) u cc ds (FP.l2d q3.toInt64))), .second, .val (.int (0 : Int32)), .val (.double (FP.l2d q4.toInt64)), .second, .unset, .unset, .unset] [(.double (FP.l2d q5.toInt64))]))
        refine own_by (fun t k => XS.dstore X125.here hx rfl (hb hby at_214) rfl (l' := #[.val (.int q1), .val (.int q2), .val (.int q3), .val (.int q4), .val (.int q5), .val (.int q6), .val (.double (FP.l2d q1.toInt64)), .second, .val (.ref r0), .val (.ref al), .val (.ref b113), .val (.ref b117), .val (.double (FP.l2d q2.toInt64)), .second, .val (.double (FP.l2d (q3 >>> ((8 : Int32) &&& 31)).toInt64)), .second, .val (.double (FP.l2d q3.toInt64)), .second, .val (.int cc), .val (.int u), .val (.double ds), .second, .val (.double co), .second, .val (.int (cc + u)), .val (.double (own_inc (FP.l2d q1.toInt64) u cc ds (FP.l2d q3.toInt64))), .second, .val (.int (0 : Int32)), .val (.double (FP.l2d q4.toInt64)), .second, .val (.double (FP.l2d q5.toInt64)), .second, .unset]) rfl k) ?_
        show own_Go p.tables e below K (T125.setTop (mkF m 216 #[.val (.int q1), .val (.int q2), .val (.int q3), .val (.int q4), .val (.int q5), .val (.int q6), .val (.double (FP.l2d q1.toInt64)), .second, .val (.ref r0), .val (.ref al), .val (.ref b113), .val (.ref b117), .val (.double (FP.l2d q2.toInt64)), .second, .val (.double (FP.l2d (q3 >>> ((8 : Int32) &&& 31)).toInt64)), .second, .val (.double (FP.l2d q3.toInt64)), .second, .val (.int cc), .val (.int u), .val (.double ds), .second, .val (.double co), .second, .val (.int (cc + u)), .val (.double (own_inc (FP.l2d q1.toInt64) u cc ds (FP.l2d q3.toInt64))), .second, .val (.int (0 : Int32)), .val (.double (FP.l2d q4.toInt64)), .second, .val (.double (FP.l2d q5.toInt64)), .second, .unset] []))
        refine own_by (fun t k => XS.aload X125.here hx rfl (hb hby at_216) rfl rfl k) ?_
        show own_Go p.tables e below K (T125.setTop (mkF m 218 #[.val (.int q1), .val (.int q2), .val (.int q3), .val (.int q4), .val (.int q5), .val (.int q6), .val (.double (FP.l2d q1.toInt64)), .second, .val (.ref r0), .val (.ref al), .val (.ref b113), .val (.ref b117), .val (.double (FP.l2d q2.toInt64)), .second, .val (.double (FP.l2d (q3 >>> ((8 : Int32) &&& 31)).toInt64)), .second, .val (.double (FP.l2d q3.toInt64)), .second, .val (.int cc), .val (.int u), .val (.double ds), .second, .val (.double co), .second, .val (.int (cc + u)), .val (.double (own_inc (FP.l2d q1.toInt64) u cc ds (FP.l2d q3.toInt64))), .second, .val (.int (0 : Int32)), .val (.double (FP.l2d q4.toInt64)), .second, .val (.double (FP.l2d q5.toInt64)), .second, .unset] [(.ref b117)]))
        refine own_by (fun t k => XS.dload X125.here hx rfl (hb hby at_218) rfl k) ?_
        show own_Go p.tables e below K (T125.setTop (mkF m 220 #[.val (.int q1), .val (.int q2), .val (.int q3), .val (.int q4), .val (.int q5), .val (.int q6), .val (.double (FP.l2d q1.toInt64)), .second, .val (.ref r0), .val (.ref al), .val (.ref b113), .val (.ref b117), .val (.double (FP.l2d q2.toInt64)), .second, .val (.double (FP.l2d (q3 >>> ((8 : Int32) &&& 31)).toInt64)), .second, .val (.double (FP.l2d q3.toInt64)), .second, .val (.int cc), .val (.int u), .val (.double ds), .second, .val (.double co), .second, .val (.int (cc + u)), .val (.double (own_inc (FP.l2d q1.toInt64) u cc ds (FP.l2d q3.toInt64))), .second, .val (.int (0 : Int32)), .val (.double (FP.l2d q4.toInt64)), .second, .val (.double (FP.l2d q5.toInt64)), .second, .unset] [(.double (FP.l2d q4.toInt64)), (.ref b117)]))
        refine own_by (fun t k => XS.dload X125.here hx rfl (hb hby at_220) rfl k) ?_
        show own_Go p.tables e below K (T125.setTop (mkF m 222 #[.val (.int q1), .val (.int q2), .val (.int q3), .val (.int q4), .val (.int q5), .val (.int q6), .val (.double (FP.l2d q1.toInt64)), .second, .val (.ref r0), .val (.ref al), .val (.ref b113), .val (.ref b117), .val (.double (FP.l2d q2.toInt64)), .second, .val (.double (FP.l2d (q3 >>> ((8 : Int32) &&& 31)).toInt64)), .second, .val (.double (FP.l2d q3.toInt64)), .second, .val (.int cc), .val (.int u), .val (.double ds), .second, .val (.double co), .second, .val (.int (cc + u)), .val (.double (own_inc (FP.l2d q1.toInt64) u cc ds (FP.l2d q3.toInt64))), .second, .val (.int (0 : Int32)), .val (.double (FP.l2d q4.toInt64)), .second, .val (.double (FP.l2d q5.toInt64)), .second, .unset] [(.double (FP.l2d q5.toInt64)), (.double (FP.l2d q4.toInt64)), (.ref b117)]))
        obtain ⟨cq134, kq134, q134a, q134b, q134c⟩ := isOf hZ rfl Bp125.1
        obtain ⟨_, _, ⟨T134, L134, k134, n134⟩, -, X134, ⟨Lc134, hQ134, l134, y134, z134⟩, st134⟩ := X125.virtualBack hx (y := (⟨"com/example/skyroster/skyroster/CostShare", "takeBack", "(DD)V"⟩ : MethodName)) (z := (⟨"com/example/skyroster/skyroster/CostShare", "takeBack", "(DD)V"⟩ : MethodName)) hown (mvT hZ (hw _ (List.mem_of_getElem? (i := 253) rfl))) (mvT hZ (hw _ (List.mem_of_getElem? (i := 254) rfl))) (notFace_of_selects (args := #[]) (mvT hZ (hw _ (List.mem_of_getElem? (i := 256) rfl)))) (mvT hZ (hw _ (List.mem_of_getElem? (i := 256) rfl))) (mvT hZ (hw _ (List.mem_of_getElem? (i := 255) rfl))) (by decide) (backOf (W := 0) (own_rmtkb l Z aw hw [] b117 (FP.l2d q4.toInt64) (FP.l2d q5.toInt64) (FP.l2d q1.toInt64) u (cc + (1 : Int32)) (FP.dadd ds (FP.l2d q3.toInt64)) (own_cst (FP.l2d q1.toInt64) u (cc + (1 : Int32)) (FP.dadd ds (FP.l2d q3.toInt64))) T125.heap n0 Z125 ⟨Bp125.1, Bp125.2.1, Bp125.2.2.1, Bp125.2.2.2.1, Bp125.2.2.2.2.1, Bp125.2.2.2.2.2⟩ gn_b117) hZ (hw _ (List.mem_of_getElem? (i := 257) rfl)) (hw _ (List.mem_of_getElem? (i := 199) rfl)) (by decide) (by decide)) q134a q134c (g := (mkF m 222 #[.val (.int q1), .val (.int q2), .val (.int q3), .val (.int q4), .val (.int q5), .val (.int q6), .val (.double (FP.l2d q1.toInt64)), .second, .val (.ref r0), .val (.ref al), .val (.ref b113), .val (.ref b117), .val (.double (FP.l2d q2.toInt64)), .second, .val (.double (FP.l2d (q3 >>> ((8 : Int32) &&& 31)).toInt64)), .second, .val (.double (FP.l2d q3.toInt64)), .second, .val (.int cc), .val (.int u), .val (.double ds), .second, .val (.double co), .second, .val (.int (cc + u)), .val (.double (own_inc (FP.l2d q1.toInt64) u cc ds (FP.l2d q3.toInt64))), .second, .val (.int (0 : Int32)), .val (.double (FP.l2d q4.toInt64)), .second, .val (.double (FP.l2d q5.toInt64)), .second, .unset] [(.double (FP.l2d q5.toInt64)), (.double (FP.l2d q4.toInt64)), (.ref b117)])) rfl (by rw [hml]; rfl) (Steps.refl _) (argsL := [(.double (FP.l2d q4.toInt64)), (.double (FP.l2d q5.toInt64))]) (rest := []) (lenOf own_pd19 rfl) rfl (by show 2 * 0 + _ ≤ _; exact Nat.le_of_eq rfl) (hb hby at_222) (fun _ _ => ⟨rfl, rfl, (by decide : 16 + 0 ≤ _), (by decide : 64 + 0 ≤ _)⟩)
        dsimp only [Pt.U, Pt.locs, Pt.cells, Pt.slots] at X134 l134 y134 z134 st134 hQ134
        subst l134 y134 z134
        obtain ⟨rfl, N134q, Kp134, Bp134⟩ := hQ134
        have N134 := Fr.app N125 N134q
        refine own_by (fun t k => st134.trans k) ?_
        rw [Int32.add_sub_cancel] at Bp134
        have Ex134_b117 := Bp125.1.keep Kp134
        have K134 := K125.trans Kp134 (allS (Or.inr sz_b117) (all0))
        have Z134 := Nat.le_trans Z125 Kp134.1
        have O134 := O125.keep Kp134 (allS gn_b117 (all0))
        show own_Go p.tables e below K (T134.setTop (mkF m 225 #[.val (.int q1), .val (.int q2), .val (.int q3), .val (.int q4), .val (.int q5), .val (.int q6), .val (.double (FP.l2d q1.toInt64)), .second, .val (.ref r0), .val (.ref al), .val (.ref b113), .val (.ref b117), .val (.double (FP.l2d q2.toInt64)), .second, .val (.double (FP.l2d (q3 >>> ((8 : Int32) &&& 31)).toInt64)), .second, .val (.double (FP.l2d q3.toInt64)), .second, .val (.int cc), .val (.int u), .val (.double ds), .second, .val (.double co), .second, .val (.int (cc + u)), .val (.double (own_inc (FP.l2d q1.toInt64) u cc ds (FP.l2d q3.toInt64))), .second, .val (.int (0 : Int32)), .val (.double (FP.l2d q4.toInt64)), .second, .val (.double (FP.l2d q5.toInt64)), .second, .unset] []))
        refine own_by (fun t k => XS.aload X134.here hx rfl (hb hby at_225) rfl rfl k) ?_
        show own_Go p.tables e below K (T134.setTop (mkF m 227 #[.val (.int q1), .val (.int q2), .val (.int q3), .val (.int q4), .val (.int q5), .val (.int q6), .val (.double (FP.l2d q1.toInt64)), .second, .val (.ref r0), .val (.ref al), .val (.ref b113), .val (.ref b117), .val (.double (FP.l2d q2.toInt64)), .second, .val (.double (FP.l2d (q3 >>> ((8 : Int32) &&& 31)).toInt64)), .second, .val (.double (FP.l2d q3.toInt64)), .second, .val (.int cc), .val (.int u), .val (.double ds), .second, .val (.double co), .second, .val (.int (cc + u)), .val (.double (own_inc (FP.l2d q1.toInt64) u cc ds (FP.l2d q3.toInt64))), .second, .val (.int (0 : Int32)), .val (.double (FP.l2d q4.toInt64)), .second, .val (.double (FP.l2d q5.toInt64)), .second, .unset] [(.ref b117)]))
        obtain ⟨T135, X135, e135, st135⟩ := getF X134 hx hZ hown (host := "") (Or.inl (hw _ (List.mem_of_getElem? (i := 243) rfl))) Via.refl rfl Bp134.2.2.2.1 (g := (mkF m 227 #[.val (.int q1), .val (.int q2), .val (.int q3), .val (.int q4), .val (.int q5), .val (.int q6), .val (.double (FP.l2d q1.toInt64)), .second, .val (.ref r0), .val (.ref al), .val (.ref b113), .val (.ref b117), .val (.double (FP.l2d q2.toInt64)), .second, .val (.double (FP.l2d (q3 >>> ((8 : Int32) &&& 31)).toInt64)), .second, .val (.double (FP.l2d q3.toInt64)), .second, .val (.int cc), .val (.int u), .val (.double ds), .second, .val (.double co), .second, .val (.int (cc + u)), .val (.double (own_inc (FP.l2d q1.toInt64) u cc ds (FP.l2d q3.toInt64))), .second, .val (.int (0 : Int32)), .val (.double (FP.l2d q4.toInt64)), .second, .val (.double (FP.l2d q5.toInt64)), .second, .unset] [(.ref b117)])) rfl rfl (hb hby at_227)
        refine own_by st135 ?_
        show own_Go p.tables e below K (T135.setTop (mkF m 230 #[.val (.int q1), .val (.int q2), .val (.int q3), .val (.int q4), .val (.int q5), .val (.int q6), .val (.double (FP.l2d q1.toInt64)), .second, .val (.ref r0), .val (.ref al), .val (.ref b113), .val (.ref b117), .val (.double (FP.l2d q2.toInt64)), .second, .val (.double (FP.l2d (q3 >>> ((8 : Int32) &&& 31)).toInt64)), .second, .val (.double (FP.l2d q3.toInt64)), .second, .val (.int cc), .val (.int u), .val (.double ds), .second, .val (.double co), .second, .val (.int (cc + u)), .val (.double (own_inc (FP.l2d q1.toInt64) u cc ds (FP.l2d q3.toInt64))), .second, .val (.int (0 : Int32)), .val (.double (FP.l2d q4.toInt64)), .second, .val (.double (FP.l2d q5.toInt64)), .second, .unset] [(.int cc)]))
        refine own_by (fun t k => XS.iload X135.here hx rfl (hb hby at_230) rfl k) ?_
        show own_Go p.tables e below K (T135.setTop (mkF m 232 #[.val (.int q1), .val (.int q2), .val (.int q3), .val (.int q4), .val (.int q5), .val (.int q6), .val (.double (FP.l2d q1.toInt64)), .second, .val (.ref r0), .val (.ref al), .val (.ref b113), .val (.ref b117), .val (.double (FP.l2d q2.toInt64)), .second, .val (.double (FP.l2d (q3 >>> ((8 : Int32) &&& 31)).toInt64)), .second, .val (.double (FP.l2d q3.toInt64)), .second, .val (.int cc), .val (.int u), .val (.double ds), .second, .val (.double co), .second, .val (.int (cc + u)), .val (.double (own_inc (FP.l2d q1.toInt64) u cc ds (FP.l2d q3.toInt64))), .second, .val (.int (0 : Int32)), .val (.double (FP.l2d q4.toInt64)), .second, .val (.double (FP.l2d q5.toInt64)), .second, .unset] [(.int cc), (.int cc)]))
        have hc232 : cc = cc := rfl
        refine own_by (fun t k => XS.icmpNo X135.here hx rfl (hb hby at_232) rfl (teq hc232).2 k) ?_
        show own_Go p.tables e below K (T135.setTop (mkF m 235 #[.val (.int q1), .val (.int q2), .val (.int q3), .val (.int q4), .val (.int q5), .val (.int q6), .val (.double (FP.l2d q1.toInt64)), .second, .val (.ref r0), .val (.ref al), .val (.ref b113), .val (.ref b117), .val (.double (FP.l2d q2.toInt64)), .second, .val (.double (FP.l2d (q3 >>> ((8 : Int32) &&& 31)).toInt64)), .second, .val (.double (FP.l2d q3.toInt64)), .second, .val (.int cc), .val (.int u), .val (.double ds), .second, .val (.double co), .second, .val (.int (cc + u)), .val (.double (own_inc (FP.l2d q1.toInt64) u cc ds (FP.l2d q3.toInt64))), .second, .val (.int (0 : Int32)), .val (.double (FP.l2d q4.toInt64)), .second, .val (.double (FP.l2d q5.toInt64)), .second, .unset] []))
        refine own_by (fun t k => XS.aload X135.here hx rfl (hb hby at_235) rfl rfl k) ?_
        show own_Go p.tables e below K (T135.setTop (mkF m 237 #[.val (.int q1), .val (.int q2), .val (.int q3), .val (.int q4), .val (.int q5), .val (.int q6), .val (.double (FP.l2d q1.toInt64)), .second, .val (.ref r0), .val (.ref al), .val (.ref b113), .val (.ref b117), .val (.double (FP.l2d q2.toInt64)), .second, .val (.double (FP.l2d (q3 >>> ((8 : Int32) &&& 31)).toInt64)), .second, .val (.double (FP.l2d q3.toInt64)), .second, .val (.int cc), .val (.int u), .val (.double ds), .second, .val (.double co), .second, .val (.int (cc + u)), .val (.double (own_inc (FP.l2d q1.toInt64) u cc ds (FP.l2d q3.toInt64))), .second, .val (.int (0 : Int32)), .val (.double (FP.l2d q4.toInt64)), .second, .val (.double (FP.l2d q5.toInt64)), .second, .unset] [(.ref b117)]))
        obtain ⟨T136, X136, e136, st136⟩ := getF X135 hx hZ hown (host := "") (Or.inl (hw _ (List.mem_of_getElem? (i := 244) rfl))) Via.refl e135 Bp134.2.2.1 (g := (mkF m 237 #[.val (.int q1), .val (.int q2), .val (.int q3), .val (.int q4), .val (.int q5), .val (.int q6), .val (.double (FP.l2d q1.toInt64)), .second, .val (.ref r0), .val (.ref al), .val (.ref b113), .val (.ref b117), .val (.double (FP.l2d q2.toInt64)), .second, .val (.double (FP.l2d (q3 >>> ((8 : Int32) &&& 31)).toInt64)), .second, .val (.double (FP.l2d q3.toInt64)), .second, .val (.int cc), .val (.int u), .val (.double ds), .second, .val (.double co), .second, .val (.int (cc + u)), .val (.double (own_inc (FP.l2d q1.toInt64) u cc ds (FP.l2d q3.toInt64))), .second, .val (.int (0 : Int32)), .val (.double (FP.l2d q4.toInt64)), .second, .val (.double (FP.l2d q5.toInt64)), .second, .unset] [(.ref b117)])) rfl rfl (hb hby at_237)
        refine own_by st136 ?_
        show own_Go p.tables e below K (T136.setTop (mkF m 240 #[.val (.int q1), .val (.int q2), .val (.int q3), .val (.int q4), .val (.int q5), .val (.int q6), .val (.double (FP.l2d q1.toInt64)), .second, .val (.ref r0), .val (.ref al), .val (.ref b113), .val (.ref b117), .val (.double (FP.l2d q2.toInt64)), .second, .val (.double (FP.l2d (q3 >>> ((8 : Int32) &&& 31)).toInt64)), .second, .val (.double (FP.l2d q3.toInt64)), .second, .val (.int cc), .val (.int u), .val (.double ds), .second, .val (.double co), .second, .val (.int (cc + u)), .val (.double (own_inc (FP.l2d q1.toInt64) u cc ds (FP.l2d q3.toInt64))), .second, .val (.int (0 : Int32)), .val (.double (FP.l2d q4.toInt64)), .second, .val (.double (FP.l2d q5.toInt64)), .second, .unset] [(.int u)]))
        refine own_by (fun t k => XS.iload X136.here hx rfl (hb hby at_240) rfl k) ?_
        show own_Go p.tables e below K (T136.setTop (mkF m 242 #[.val (.int q1), .val (.int q2), .val (.int q3), .val (.int q4), .val (.int q5), .val (.int q6), .val (.double (FP.l2d q1.toInt64)), .second, .val (.ref r0), .val (.ref al), .val (.ref b113), .val (.ref b117), .val (.double (FP.l2d q2.toInt64)), .second, .val (.double (FP.l2d (q3 >>> ((8 : Int32) &&& 31)).toInt64)), .second, .val (.double (FP.l2d q3.toInt64)), .second, .val (.int cc), .val (.int u), .val (.double ds), .second, .val (.double co), .second, .val (.int (cc + u)), .val (.double (own_inc (FP.l2d q1.toInt64) u cc ds (FP.l2d q3.toInt64))), .second, .val (.int (0 : Int32)), .val (.double (FP.l2d q4.toInt64)), .second, .val (.double (FP.l2d q5.toInt64)), .second, .unset] [(.int u), (.int u)]))
        have hc242 : u = u := rfl
        refine own_by (fun t k => XS.icmpNo X136.here hx rfl (hb hby at_242) rfl (teq hc242).2 k) ?_
        show own_Go p.tables e below K (T136.setTop (mkF m 245 #[.val (.int q1), .val (.int q2), .val (.int q3), .val (.int q4), .val (.int q5), .val (.int q6), .val (.double (FP.l2d q1.toInt64)), .second, .val (.ref r0), .val (.ref al), .val (.ref b113), .val (.ref b117), .val (.double (FP.l2d q2.toInt64)), .second, .val (.double (FP.l2d (q3 >>> ((8 : Int32) &&& 31)).toInt64)), .second, .val (.double (FP.l2d q3.toInt64)), .second, .val (.int cc), .val (.int u), .val (.double ds), .second, .val (.double co), .second, .val (.int (cc + u)), .val (.double (own_inc (FP.l2d q1.toInt64) u cc ds (FP.l2d q3.toInt64))), .second, .val (.int (0 : Int32)), .val (.double (FP.l2d q4.toInt64)), .second, .val (.double (FP.l2d q5.toInt64)), .second, .unset] []))
        refine own_by (fun t k => XS.aload X136.here hx rfl (hb hby at_245) rfl rfl k) ?_
        show own_Go p.tables e below K (T136.setTop (mkF m 247 #[.val (.int q1), .val (.int q2), .val (.int q3), .val (.int q4), .val (.int q5), .val (.int q6), .val (.double (FP.l2d q1.toInt64)), .second, .val (.ref r0), .val (.ref al), .val (.ref b113), .val (.ref b117), .val (.double (FP.l2d q2.toInt64)), .second, .val (.double (FP.l2d (q3 >>> ((8 : Int32) &&& 31)).toInt64)), .second, .val (.double (FP.l2d q3.toInt64)), .second, .val (.int cc), .val (.int u), .val (.double ds), .second, .val (.double co), .second, .val (.int (cc + u)), .val (.double (own_inc (FP.l2d q1.toInt64) u cc ds (FP.l2d q3.toInt64))), .second, .val (.int (0 : Int32)), .val (.double (FP.l2d q4.toInt64)), .second, .val (.double (FP.l2d q5.toInt64)), .second, .unset] [(.ref b117)]))
        obtain ⟨T137, X137, e137, st137⟩ := getF X136 hx hZ hown (host := "") (Or.inl (hw _ (List.mem_of_getElem? (i := 258) rfl))) Via.refl e136 Bp134.2.1 (g := (mkF m 247 #[.val (.int q1), .val (.int q2), .val (.int q3), .val (.int q4), .val (.int q5), .val (.int q6), .val (.double (FP.l2d q1.toInt64)), .second, .val (.ref r0), .val (.ref al), .val (.ref b113), .val (.ref b117), .val (.double (FP.l2d q2.toInt64)), .second, .val (.double (FP.l2d (q3 >>> ((8 : Int32) &&& 31)).toInt64)), .second, .val (.double (FP.l2d q3.toInt64)), .second, .val (.int cc), .val (.int u), .val (.double ds), .second, .val (.double co), .second, .val (.int (cc + u)), .val (.double (own_inc (FP.l2d q1.toInt64) u cc ds (FP.l2d q3.toInt64))), .second, .val (.int (0 : Int32)), .val (.double (FP.l2d q4.toInt64)), .second, .val (.double (FP.l2d q5.toInt64)), .second, .unset] [(.ref b117)])) rfl rfl (hb hby at_247)
        refine own_by st137 ?_
        show own_Go p.tables e below K (T137.setTop (mkF m 250 #[.val (.int q1), .val (.int q2), .val (.int q3), .val (.int q4), .val (.int q5), .val (.int q6), .val (.double (FP.l2d q1.toInt64)), .second, .val (.ref r0), .val (.ref al), .val (.ref b113), .val (.ref b117), .val (.double (FP.l2d q2.toInt64)), .second, .val (.double (FP.l2d (q3 >>> ((8 : Int32) &&& 31)).toInt64)), .second, .val (.double (FP.l2d q3.toInt64)), .second, .val (.int cc), .val (.int u), .val (.double ds), .second, .val (.double co), .second, .val (.int (cc + u)), .val (.double (own_inc (FP.l2d q1.toInt64) u cc ds (FP.l2d q3.toInt64))), .second, .val (.int (0 : Int32)), .val (.double (FP.l2d q4.toInt64)), .second, .val (.double (FP.l2d q5.toInt64)), .second, .unset] [(.double (FP.l2d q1.toInt64))]))
        refine own_by (fun t k => XS.dload X137.here hx rfl (hb hby at_250) rfl k) ?_
        show own_Go p.tables e below K (T137.setTop (mkF m 252 #[.val (.int q1), .val (.int q2), .val (.int q3), .val (.int q4), .val (.int q5), .val (.int q6), .val (.double (FP.l2d q1.toInt64)), .second, .val (.ref r0), .val (.ref al), .val (.ref b113), .val (.ref b117), .val (.double (FP.l2d q2.toInt64)), .second, .val (.double (FP.l2d (q3 >>> ((8 : Int32) &&& 31)).toInt64)), .second, .val (.double (FP.l2d q3.toInt64)), .second, .val (.int cc), .val (.int u), .val (.double ds), .second, .val (.double co), .second, .val (.int (cc + u)), .val (.double (own_inc (FP.l2d q1.toInt64) u cc ds (FP.l2d q3.toInt64))), .second, .val (.int (0 : Int32)), .val (.double (FP.l2d q4.toInt64)), .second, .val (.double (FP.l2d q5.toInt64)), .second, .unset] [(.double (FP.l2d q1.toInt64)), (.double (FP.l2d q1.toInt64))]))
        refine own_by (fun t k => XS.dcmpS (v := (0 : Int32)) X137.here hx rfl (hb hby at_252) rfl (dcmpV_self (nn_w rfl) _) k) ?_
        show own_Go p.tables e below K (T137.setTop (mkF m 253 #[.val (.int q1), .val (.int q2), .val (.int q3), .val (.int q4), .val (.int q5), .val (.int q6), .val (.double (FP.l2d q1.toInt64)), .second, .val (.ref r0), .val (.ref al), .val (.ref b113), .val (.ref b117), .val (.double (FP.l2d q2.toInt64)), .second, .val (.double (FP.l2d (q3 >>> ((8 : Int32) &&& 31)).toInt64)), .second, .val (.double (FP.l2d q3.toInt64)), .second, .val (.int cc), .val (.int u), .val (.double ds), .second, .val (.double co), .second, .val (.int (cc + u)), .val (.double (own_inc (FP.l2d q1.toInt64) u cc ds (FP.l2d q3.toInt64))), .second, .val (.int (0 : Int32)), .val (.double (FP.l2d q4.toInt64)), .second, .val (.double (FP.l2d q5.toInt64)), .second, .unset] [(.int (0 : Int32))]))
        have hc253 : (0 : Int32) = (0 : Int32) := by decide
        refine own_by (fun t k => XS.ifNo X137.here hx rfl (hb hby at_253) rfl ((if0 _ _).trans (teq hc253).2) k) ?_
        show own_Go p.tables e below K (T137.setTop (mkF m 256 #[.val (.int q1), .val (.int q2), .val (.int q3), .val (.int q4), .val (.int q5), .val (.int q6), .val (.double (FP.l2d q1.toInt64)), .second, .val (.ref r0), .val (.ref al), .val (.ref b113), .val (.ref b117), .val (.double (FP.l2d q2.toInt64)), .second, .val (.double (FP.l2d (q3 >>> ((8 : Int32) &&& 31)).toInt64)), .second, .val (.double (FP.l2d q3.toInt64)), .second, .val (.int cc), .val (.int u), .val (.double ds), .second, .val (.double co), .second, .val (.int (cc + u)), .val (.double (own_inc (FP.l2d q1.toInt64) u cc ds (FP.l2d q3.toInt64))), .second, .val (.int (0 : Int32)), .val (.double (FP.l2d q4.toInt64)), .second, .val (.double (FP.l2d q5.toInt64)), .second, .unset] []))
        refine own_by (fun t k => XS.aload X137.here hx rfl (hb hby at_256) rfl rfl k) ?_
        show own_Go p.tables e below K (T137.setTop (mkF m 258 #[.val (.int q1), .val (.int q2), .val (.int q3), .val (.int q4), .val (.int q5), .val (.int q6), .val (.double (FP.l2d q1.toInt64)), .second, .val (.ref r0), .val (.ref al), .val (.ref b113), .val (.ref b117), .val (.double (FP.l2d q2.toInt64)), .second, .val (.double (FP.l2d (q3 >>> ((8 : Int32) &&& 31)).toInt64)), .second, .val (.double (FP.l2d q3.toInt64)), .second, .val (.int cc), .val (.int u), .val (.double ds), .second, .val (.double co), .second, .val (.int (cc + u)), .val (.double (own_inc (FP.l2d q1.toInt64) u cc ds (FP.l2d q3.toInt64))), .second, .val (.int (0 : Int32)), .val (.double (FP.l2d q4.toInt64)), .second, .val (.double (FP.l2d q5.toInt64)), .second, .unset] [(.ref b117)]))
        obtain ⟨T138, X138, e138, st138⟩ := getF X137 hx hZ hown (host := "") (Or.inl (hw _ (List.mem_of_getElem? (i := 245) rfl))) Via.refl e137 Bp134.2.2.2.2.1 (g := (mkF m 258 #[.val (.int q1), .val (.int q2), .val (.int q3), .val (.int q4), .val (.int q5), .val (.int q6), .val (.double (FP.l2d q1.toInt64)), .second, .val (.ref r0), .val (.ref al), .val (.ref b113), .val (.ref b117), .val (.double (FP.l2d q2.toInt64)), .second, .val (.double (FP.l2d (q3 >>> ((8 : Int32) &&& 31)).toInt64)), .second, .val (.double (FP.l2d q3.toInt64)), .second, .val (.int cc), .val (.int u), .val (.double ds), .second, .val (.double co), .second, .val (.int (cc + u)), .val (.double (own_inc (FP.l2d q1.toInt64) u cc ds (FP.l2d q3.toInt64))), .second, .val (.int (0 : Int32)), .val (.double (FP.l2d q4.toInt64)), .second, .val (.double (FP.l2d q5.toInt64)), .second, .unset] [(.ref b117)])) rfl rfl (hb hby at_258)
        refine own_by st138 ?_
        show own_Go p.tables e below K (T138.setTop (mkF m 261 #[.val (.int q1), .val (.int q2), .val (.int q3), .val (.int q4), .val (.int q5), .val (.int q6), .val (.double (FP.l2d q1.toInt64)), .second, .val (.ref r0), .val (.ref al), .val (.ref b113), .val (.ref b117), .val (.double (FP.l2d q2.toInt64)), .second, .val (.double (FP.l2d (q3 >>> ((8 : Int32) &&& 31)).toInt64)), .second, .val (.double (FP.l2d q3.toInt64)), .second, .val (.int cc), .val (.int u), .val (.double ds), .second, .val (.double co), .second, .val (.int (cc + u)), .val (.double (own_inc (FP.l2d q1.toInt64) u cc ds (FP.l2d q3.toInt64))), .second, .val (.int (0 : Int32)), .val (.double (FP.l2d q4.toInt64)), .second, .val (.double (FP.l2d q5.toInt64)), .second, .unset] [(.double (FP.l2d q4.toInt64))]))
        refine own_by (fun t k => XS.dload X138.here hx rfl (hb hby at_261) rfl k) ?_
        show own_Go p.tables e below K (T138.setTop (mkF m 263 #[.val (.int q1), .val (.int q2), .val (.int q3), .val (.int q4), .val (.int q5), .val (.int q6), .val (.double (FP.l2d q1.toInt64)), .second, .val (.ref r0), .val (.ref al), .val (.ref b113), .val (.ref b117), .val (.double (FP.l2d q2.toInt64)), .second, .val (.double (FP.l2d (q3 >>> ((8 : Int32) &&& 31)).toInt64)), .second, .val (.double (FP.l2d q3.toInt64)), .second, .val (.int cc), .val (.int u), .val (.double ds), .second, .val (.double co), .second, .val (.int (cc + u)), .val (.double (own_inc (FP.l2d q1.toInt64) u cc ds (FP.l2d q3.toInt64))), .second, .val (.int (0 : Int32)), .val (.double (FP.l2d q4.toInt64)), .second, .val (.double (FP.l2d q5.toInt64)), .second, .unset] [(.double (FP.l2d q4.toInt64)), (.double (FP.l2d q4.toInt64))]))
        refine own_by (fun t k => XS.dcmpS (v := (0 : Int32)) X138.here hx rfl (hb hby at_263) rfl (dcmpV_self (nn_w rfl) _) k) ?_
        show own_Go p.tables e below K (T138.setTop (mkF m 264 #[.val (.int q1), .val (.int q2), .val (.int q3), .val (.int q4), .val (.int q5), .val (.int q6), .val (.double (FP.l2d q1.toInt64)), .second, .val (.ref r0), .val (.ref al), .val (.ref b113), .val (.ref b117), .val (.double (FP.l2d q2.toInt64)), .second, .val (.double (FP.l2d (q3 >>> ((8 : Int32) &&& 31)).toInt64)), .second, .val (.double (FP.l2d q3.toInt64)), .second, .val (.int cc), .val (.int u), .val (.double ds), .second, .val (.double co), .second, .val (.int (cc + u)), .val (.double (own_inc (FP.l2d q1.toInt64) u cc ds (FP.l2d q3.toInt64))), .second, .val (.int (0 : Int32)), .val (.double (FP.l2d q4.toInt64)), .second, .val (.double (FP.l2d q5.toInt64)), .second, .unset] [(.int (0 : Int32))]))
        have hc264 : (0 : Int32) = (0 : Int32) := by decide
        refine own_by (fun t k => XS.ifNo X138.here hx rfl (hb hby at_264) rfl ((if0 _ _).trans (teq hc264).2) k) ?_
        show own_Go p.tables e below K (T138.setTop (mkF m 267 #[.val (.int q1), .val (.int q2), .val (.int q3), .val (.int q4), .val (.int q5), .val (.int q6), .val (.double (FP.l2d q1.toInt64)), .second, .val (.ref r0), .val (.ref al), .val (.ref b113), .val (.ref b117), .val (.double (FP.l2d q2.toInt64)), .second, .val (.double (FP.l2d (q3 >>> ((8 : Int32) &&& 31)).toInt64)), .second, .val (.double (FP.l2d q3.toInt64)), .second, .val (.int cc), .val (.int u), .val (.double ds), .second, .val (.double co), .second, .val (.int (cc + u)), .val (.double (own_inc (FP.l2d q1.toInt64) u cc ds (FP.l2d q3.toInt64))), .second, .val (.int (0 : Int32)), .val (.double (FP.l2d q4.toInt64)), .second, .val (.double (FP.l2d q5.toInt64)), .second, .unset] []))
        refine own_by (fun t k => XS.aload X138.here hx rfl (hb hby at_267) rfl rfl k) ?_
        show own_Go p.tables e below K (T138.setTop (mkF m 269 #[.val (.int q1), .val (.int q2), .val (.int q3), .val (.int q4), .val (.int q5), .val (.int q6), .val (.double (FP.l2d q1.toInt64)), .second, .val (.ref r0), .val (.ref al), .val (.ref b113), .val (.ref b117), .val (.double (FP.l2d q2.toInt64)), .second, .val (.double (FP.l2d (q3 >>> ((8 : Int32) &&& 31)).toInt64)), .second, .val (.double (FP.l2d q3.toInt64)), .second, .val (.int cc), .val (.int u), .val (.double ds), .second, .val (.double co), .second, .val (.int (cc + u)), .val (.double (own_inc (FP.l2d q1.toInt64) u cc ds (FP.l2d q3.toInt64))), .second, .val (.int (0 : Int32)), .val (.double (FP.l2d q4.toInt64)), .second, .val (.double (FP.l2d q5.toInt64)), .second, .unset] [(.ref b117)]))
        obtain ⟨T139, X139, e139, st139⟩ := getF X138 hx hZ hown (host := "") (Or.inl (hw _ (List.mem_of_getElem? (i := 246) rfl))) Via.refl e138 Bp134.2.2.2.2.2 (g := (mkF m 269 #[.val (.int q1), .val (.int q2), .val (.int q3), .val (.int q4), .val (.int q5), .val (.int q6), .val (.double (FP.l2d q1.toInt64)), .second, .val (.ref r0), .val (.ref al), .val (.ref b113), .val (.ref b117), .val (.double (FP.l2d q2.toInt64)), .second, .val (.double (FP.l2d (q3 >>> ((8 : Int32) &&& 31)).toInt64)), .second, .val (.double (FP.l2d q3.toInt64)), .second, .val (.int cc), .val (.int u), .val (.double ds), .second, .val (.double co), .second, .val (.int (cc + u)), .val (.double (own_inc (FP.l2d q1.toInt64) u cc ds (FP.l2d q3.toInt64))), .second, .val (.int (0 : Int32)), .val (.double (FP.l2d q4.toInt64)), .second, .val (.double (FP.l2d q5.toInt64)), .second, .unset] [(.ref b117)])) rfl rfl (hb hby at_269)
        refine own_by st139 ?_
        show own_Go p.tables e below K (T139.setTop (mkF m 272 #[.val (.int q1), .val (.int q2), .val (.int q3), .val (.int q4), .val (.int q5), .val (.int q6), .val (.double (FP.l2d q1.toInt64)), .second, .val (.ref r0), .val (.ref al), .val (.ref b113), .val (.ref b117), .val (.double (FP.l2d q2.toInt64)), .second, .val (.double (FP.l2d (q3 >>> ((8 : Int32) &&& 31)).toInt64)), .second, .val (.double (FP.l2d q3.toInt64)), .second, .val (.int cc), .val (.int u), .val (.double ds), .second, .val (.double co), .second, .val (.int (cc + u)), .val (.double (own_inc (FP.l2d q1.toInt64) u cc ds (FP.l2d q3.toInt64))), .second, .val (.int (0 : Int32)), .val (.double (FP.l2d q4.toInt64)), .second, .val (.double (FP.l2d q5.toInt64)), .second, .unset] [(.double (FP.l2d q5.toInt64))]))
        refine own_by (fun t k => XS.dload X139.here hx rfl (hb hby at_272) rfl k) ?_
        show own_Go p.tables e below K (T139.setTop (mkF m 274 #[.val (.int q1), .val (.int q2), .val (.int q3), .val (.int q4), .val (.int q5), .val (.int q6), .val (.double (FP.l2d q1.toInt64)), .second, .val (.ref r0), .val (.ref al), .val (.ref b113), .val (.ref b117), .val (.double (FP.l2d q2.toInt64)), .second, .val (.double (FP.l2d (q3 >>> ((8 : Int32) &&& 31)).toInt64)), .second, .val (.double (FP.l2d q3.toInt64)), .second, .val (.int cc), .val (.int u), .val (.double ds), .second, .val (.double co), .second, .val (.int (cc + u)), .val (.double (own_inc (FP.l2d q1.toInt64) u cc ds (FP.l2d q3.toInt64))), .second, .val (.int (0 : Int32)), .val (.double (FP.l2d q4.toInt64)), .second, .val (.double (FP.l2d q5.toInt64)), .second, .unset] [(.double (FP.l2d q5.toInt64)), (.double (FP.l2d q5.toInt64))]))
        refine own_by (fun t k => XS.dcmpS (v := (0 : Int32)) X139.here hx rfl (hb hby at_274) rfl (dcmpV_self (nn_w rfl) _) k) ?_
        show own_Go p.tables e below K (T139.setTop (mkF m 275 #[.val (.int q1), .val (.int q2), .val (.int q3), .val (.int q4), .val (.int q5), .val (.int q6), .val (.double (FP.l2d q1.toInt64)), .second, .val (.ref r0), .val (.ref al), .val (.ref b113), .val (.ref b117), .val (.double (FP.l2d q2.toInt64)), .second, .val (.double (FP.l2d (q3 >>> ((8 : Int32) &&& 31)).toInt64)), .second, .val (.double (FP.l2d q3.toInt64)), .second, .val (.int cc), .val (.int u), .val (.double ds), .second, .val (.double co), .second, .val (.int (cc + u)), .val (.double (own_inc (FP.l2d q1.toInt64) u cc ds (FP.l2d q3.toInt64))), .second, .val (.int (0 : Int32)), .val (.double (FP.l2d q4.toInt64)), .second, .val (.double (FP.l2d q5.toInt64)), .second, .unset] [(.int (0 : Int32))]))
        have hc275 : (0 : Int32) = (0 : Int32) := by decide
        refine own_by (fun t k => XS.ifNo X139.here hx rfl (hb hby at_275) rfl ((if0 _ _).trans (teq hc275).2) k) ?_
        show own_Go p.tables e below K (T139.setTop (mkF m 278 #[.val (.int q1), .val (.int q2), .val (.int q3), .val (.int q4), .val (.int q5), .val (.int q6), .val (.double (FP.l2d q1.toInt64)), .second, .val (.ref r0), .val (.ref al), .val (.ref b113), .val (.ref b117), .val (.double (FP.l2d q2.toInt64)), .second, .val (.double (FP.l2d (q3 >>> ((8 : Int32) &&& 31)).toInt64)), .second, .val (.double (FP.l2d q3.toInt64)), .second, .val (.int cc), .val (.int u), .val (.double ds), .second, .val (.double co), .second, .val (.int (cc + u)), .val (.double (own_inc (FP.l2d q1.toInt64) u cc ds (FP.l2d q3.toInt64))), .second, .val (.int (0 : Int32)), .val (.double (FP.l2d q4.toInt64)), .second, .val (.double (FP.l2d q5.toInt64)), .second, .unset] []))
        refine own_by (fun t k => XS.aload X139.here hx rfl (hb hby at_278) rfl rfl k) ?_
        show own_Go p.tables e below K (T139.setTop (mkF m 280 #[.val (.int q1), .val (.int q2), .val (.int q3), .val (.int q4), .val (.int q5), .val (.int q6), .val (.double (FP.l2d q1.toInt64)), .second, .val (.ref r0), .val (.ref al), .val (.ref b113), .val (.ref b117), .val (.double (FP.l2d q2.toInt64)), .second, .val (.double (FP.l2d (q3 >>> ((8 : Int32) &&& 31)).toInt64)), .second, .val (.double (FP.l2d q3.toInt64)), .second, .val (.int cc), .val (.int u), .val (.double ds), .second, .val (.double co), .second, .val (.int (cc + u)), .val (.double (own_inc (FP.l2d q1.toInt64) u cc ds (FP.l2d q3.toInt64))), .second, .val (.int (0 : Int32)), .val (.double (FP.l2d q4.toInt64)), .second, .val (.double (FP.l2d q5.toInt64)), .second, .unset] [(.ref b117)]))
        obtain ⟨cq140, kq140, q140a, q140b, q140c⟩ := isOf hZ e139 Bp134.1
        obtain ⟨_, _, ⟨T140, L140, k140, n140⟩, -, X140, ⟨Lc140, hQ140, l140, y140, z140⟩, st140⟩ := X139.virtualBack hx (y := (⟨"com/example/skyroster/skyroster/CostShare", "windowCount", "()I"⟩ : MethodName)) (z := (⟨"com/example/skyroster/skyroster/CostShare", "windowCount", "()I"⟩ : MethodName)) hown (mvT hZ (hw _ (List.mem_of_getElem? (i := 247) rfl))) (mvT hZ (hw _ (List.mem_of_getElem? (i := 237) rfl))) (notFace_of_selects (args := #[]) (mvT hZ (hw _ (List.mem_of_getElem? (i := 239) rfl)))) (mvT hZ (hw _ (List.mem_of_getElem? (i := 239) rfl))) (mvT hZ (hw _ (List.mem_of_getElem? (i := 238) rfl))) (by decide) (backOf (W := 0) (own_rmwc l Z aw hw [] b117 _ u cc _ _ T134.heap n0 Z134 ⟨Bp134.1, Bp134.2.1, Bp134.2.2.1, Bp134.2.2.2.1, Bp134.2.2.2.2.1, Bp134.2.2.2.2.2⟩) hZ (hw _ (List.mem_of_getElem? (i := 240) rfl)) (hw _ (List.mem_of_getElem? (i := 199) rfl)) (by decide) (by decide)) q140a q140c (g := (mkF m 280 #[.val (.int q1), .val (.int q2), .val (.int q3), .val (.int q4), .val (.int q5), .val (.int q6), .val (.double (FP.l2d q1.toInt64)), .second, .val (.ref r0), .val (.ref al), .val (.ref b113), .val (.ref b117), .val (.double (FP.l2d q2.toInt64)), .second, .val (.double (FP.l2d (q3 >>> ((8 : Int32) &&& 31)).toInt64)), .second, .val (.double (FP.l2d q3.toInt64)), .second, .val (.int cc), .val (.int u), .val (.double ds), .second, .val (.double co), .second, .val (.int (cc + u)), .val (.double (own_inc (FP.l2d q1.toInt64) u cc ds (FP.l2d q3.toInt64))), .second, .val (.int (0 : Int32)), .val (.double (FP.l2d q4.toInt64)), .second, .val (.double (FP.l2d q5.toInt64)), .second, .unset] [(.ref b117)])) rfl (by rw [hml]; rfl) (Steps.refl _) (argsL := []) (rest := []) (lenOf own_pd14 rfl) rfl (by show 2 * 0 + _ ≤ _; exact Nat.le_of_eq rfl) (hb hby at_280) (fun _ _ => ⟨rfl, e139, (by decide : 16 + 0 ≤ _), (by decide : 64 + 0 ≤ _)⟩)
        dsimp only [Pt.U, Pt.locs, Pt.cells, Pt.slots] at X140 l140 y140 z140 st140 hQ140
        subst l140 y140 z140
        obtain ⟨rfl, N140q, e140⟩ := hQ140
        have N140 := Fr.app N134 N140q
        refine own_by (fun t k => st140.trans k) ?_
        show own_Go p.tables e below K (T140.setTop (mkF m 283 #[.val (.int q1), .val (.int q2), .val (.int q3), .val (.int q4), .val (.int q5), .val (.int q6), .val (.double (FP.l2d q1.toInt64)), .second, .val (.ref r0), .val (.ref al), .val (.ref b113), .val (.ref b117), .val (.double (FP.l2d q2.toInt64)), .second, .val (.double (FP.l2d (q3 >>> ((8 : Int32) &&& 31)).toInt64)), .second, .val (.double (FP.l2d q3.toInt64)), .second, .val (.int cc), .val (.int u), .val (.double ds), .second, .val (.double co), .second, .val (.int (cc + u)), .val (.double (own_inc (FP.l2d q1.toInt64) u cc ds (FP.l2d q3.toInt64))), .second, .val (.int (0 : Int32)), .val (.double (FP.l2d q4.toInt64)), .second, .val (.double (FP.l2d q5.toInt64)), .second, .unset] [(.int (cc + u))]))
        refine own_by (fun t k => XS.iload X140.here hx rfl (hb hby at_283) rfl k) ?_
        show own_Go p.tables e below K (T140.setTop (mkF m 285 #[.val (.int q1), .val (.int q2), .val (.int q3), .val (.int q4), .val (.int q5), .val (.int q6), .val (.double (FP.l2d q1.toInt64)), .second, .val (.ref r0), .val (.ref al), .val (.ref b113), .val (.ref b117), .val (.double (FP.l2d q2.toInt64)), .second, .val (.double (FP.l2d (q3 >>> ((8 : Int32) &&& 31)).toInt64)), .second, .val (.double (FP.l2d q3.toInt64)), .second, .val (.int cc), .val (.int u), .val (.double ds), .second, .val (.double co), .second, .val (.int (cc + u)), .val (.double (own_inc (FP.l2d q1.toInt64) u cc ds (FP.l2d q3.toInt64))), .second, .val (.int (0 : Int32)), .val (.double (FP.l2d q4.toInt64)), .second, .val (.double (FP.l2d q5.toInt64)), .second, .unset] [(.int (cc + u)), (.int (cc + u))]))
        have hc285 : (cc + u) = (cc + u) := rfl
        refine own_by (fun t k => XS.icmpNo X140.here hx rfl (hb hby at_285) rfl (teq hc285).2 k) ?_
        show own_Go p.tables e below K (T140.setTop (mkF m 288 #[.val (.int q1), .val (.int q2), .val (.int q3), .val (.int q4), .val (.int q5), .val (.int q6), .val (.double (FP.l2d q1.toInt64)), .second, .val (.ref r0), .val (.ref al), .val (.ref b113), .val (.ref b117), .val (.double (FP.l2d q2.toInt64)), .second, .val (.double (FP.l2d (q3 >>> ((8 : Int32) &&& 31)).toInt64)), .second, .val (.double (FP.l2d q3.toInt64)), .second, .val (.int cc), .val (.int u), .val (.double ds), .second, .val (.double co), .second, .val (.int (cc + u)), .val (.double (own_inc (FP.l2d q1.toInt64) u cc ds (FP.l2d q3.toInt64))), .second, .val (.int (0 : Int32)), .val (.double (FP.l2d q4.toInt64)), .second, .val (.double (FP.l2d q5.toInt64)), .second, .unset] []))
        refine own_by (fun t k => XS.iconst X140.here hx rfl (hb hby at_288) k) ?_
        show own_Go p.tables e below K (T140.setTop (mkF m 289 #[.val (.int q1), .val (.int q2), .val (.int q3), .val (.int q4), .val (.int q5), .val (.int q6), .val (.double (FP.l2d q1.toInt64)), .second, .val (.ref r0), .val (.ref al), .val (.ref b113), .val (.ref b117), .val (.double (FP.l2d q2.toInt64)), .second, .val (.double (FP.l2d (q3 >>> ((8 : Int32) &&& 31)).toInt64)), .second, .val (.double (FP.l2d q3.toInt64)), .second, .val (.int cc), .val (.int u), .val (.double ds), .second, .val (.double co), .second, .val (.int (cc + u)), .val (.double (own_inc (FP.l2d q1.toInt64) u cc ds (FP.l2d q3.toInt64))), .second, .val (.int (0 : Int32)), .val (.double (FP.l2d q4.toInt64)), .second, .val (.double (FP.l2d q5.toInt64)), .second, .unset] [(.int (1 : Int32))]))
        refine own_by (fun t k => XS.goto X140.here hx rfl (pc0 := 289) (pc' := 293) rfl (hb hby at_289) (by decide) (by decide) k) ?_
        show own_Go p.tables e below K (T140.setTop (mkF m 293 #[.val (.int q1), .val (.int q2), .val (.int q3), .val (.int q4), .val (.int q5), .val (.int q6), .val (.double (FP.l2d q1.toInt64)), .second, .val (.ref r0), .val (.ref al), .val (.ref b113), .val (.ref b117), .val (.double (FP.l2d q2.toInt64)), .second, .val (.double (FP.l2d (q3 >>> ((8 : Int32) &&& 31)).toInt64)), .second, .val (.double (FP.l2d q3.toInt64)), .second, .val (.int cc), .val (.int u), .val (.double ds), .second, .val (.double co), .second, .val (.int (cc + u)), .val (.double (own_inc (FP.l2d q1.toInt64) u cc ds (FP.l2d q3.toInt64))), .second, .val (.int (0 : Int32)), .val (.double (FP.l2d q4.toInt64)), .second, .val (.double (FP.l2d q5.toInt64)), .second, .unset] [(.int (1 : Int32))]))
        refine own_by (fun t k => XS.istore X140.here hx rfl (hb hby at_293) rfl (l' := #[.val (.int q1), .val (.int q2), .val (.int q3), .val (.int q4), .val (.int q5), .val (.int q6), .val (.double (FP.l2d q1.toInt64)), .second, .val (.ref r0), .val (.ref al), .val (.ref b113), .val (.ref b117), .val (.double (FP.l2d q2.toInt64)), .second, .val (.double (FP.l2d (q3 >>> ((8 : Int32) &&& 31)).toInt64)), .second, .val (.double (FP.l2d q3.toInt64)), .second, .val (.int cc), .val (.int u), .val (.double ds), .second, .val (.double co), .second, .val (.int (cc + u)), .val (.double (own_inc (FP.l2d q1.toInt64) u cc ds (FP.l2d q3.toInt64))), .second, .val (.int (0 : Int32)), .val (.double (FP.l2d q4.toInt64)), .second, .val (.double (FP.l2d q5.toInt64)), .second, .val (.int (1 : Int32))]) rfl k) ?_
        show own_Go p.tables e below K (T140.setTop (mkF m 295 #[.val (.int q1), .val (.int q2), .val (.int q3), .val (.int q4), .val (.int q5), .val (.int q6), .val (.double (FP.l2d q1.toInt64)), .second, .val (.ref r0), .val (.ref al), .val (.ref b113), .val (.ref b117), .val (.double (FP.l2d q2.toInt64)), .second, .val (.double (FP.l2d (q3 >>> ((8 : Int32) &&& 31)).toInt64)), .second, .val (.double (FP.l2d q3.toInt64)), .second, .val (.int cc), .val (.int u), .val (.double ds), .second, .val (.double co), .second, .val (.int (cc + u)), .val (.double (own_inc (FP.l2d q1.toInt64) u cc ds (FP.l2d q3.toInt64))), .second, .val (.int (0 : Int32)), .val (.double (FP.l2d q4.toInt64)), .second, .val (.double (FP.l2d q5.toInt64)), .second, .val (.int (1 : Int32))] []))
        refine own_by (fun t k => XS.iload X140.here hx rfl (hb hby at_295) rfl k) ?_
        show own_Go p.tables e below K (T140.setTop (mkF m 297 #[.val (.int q1), .val (.int q2), .val (.int q3), .val (.int q4), .val (.int q5), .val (.int q6), .val (.double (FP.l2d q1.toInt64)), .second, .val (.ref r0), .val (.ref al), .val (.ref b113), .val (.ref b117), .val (.double (FP.l2d q2.toInt64)), .second, .val (.double (FP.l2d (q3 >>> ((8 : Int32) &&& 31)).toInt64)), .second, .val (.double (FP.l2d q3.toInt64)), .second, .val (.int cc), .val (.int u), .val (.double ds), .second, .val (.double co), .second, .val (.int (cc + u)), .val (.double (own_inc (FP.l2d q1.toInt64) u cc ds (FP.l2d q3.toInt64))), .second, .val (.int (0 : Int32)), .val (.double (FP.l2d q4.toInt64)), .second, .val (.double (FP.l2d q5.toInt64)), .second, .val (.int (1 : Int32))] [(.int (0 : Int32))]))
        have hc297 : (0 : Int32) = (0 : Int32) := by decide
        refine own_by (fun t k => XS.ifYes X140.here hx rfl (pc0 := 297) (pc' := 325) rfl (hb hby at_297) rfl ((if0 _ _).trans (teq hc297).1) (by decide) (by decide) k) ?_
        show own_Go p.tables e below K (T140.setTop (mkF m 325 #[.val (.int q1), .val (.int q2), .val (.int q3), .val (.int q4), .val (.int q5), .val (.int q6), .val (.double (FP.l2d q1.toInt64)), .second, .val (.ref r0), .val (.ref al), .val (.ref b113), .val (.ref b117), .val (.double (FP.l2d q2.toInt64)), .second, .val (.double (FP.l2d (q3 >>> ((8 : Int32) &&& 31)).toInt64)), .second, .val (.double (FP.l2d q3.toInt64)), .second, .val (.int cc), .val (.int u), .val (.double ds), .second, .val (.double co), .second, .val (.int (cc + u)), .val (.double (own_inc (FP.l2d q1.toInt64) u cc ds (FP.l2d q3.toInt64))), .second, .val (.int (0 : Int32)), .val (.double (FP.l2d q4.toInt64)), .second, .val (.double (FP.l2d q5.toInt64)), .second, .val (.int (1 : Int32))] []))
        refine own_by (fun t k => XS.iload X140.here hx rfl (hb hby at_325) rfl k) ?_
        show own_Go p.tables e below K (T140.setTop (mkF m 327 #[.val (.int q1), .val (.int q2), .val (.int q3), .val (.int q4), .val (.int q5), .val (.int q6), .val (.double (FP.l2d q1.toInt64)), .second, .val (.ref r0), .val (.ref al), .val (.ref b113), .val (.ref b117), .val (.double (FP.l2d q2.toInt64)), .second, .val (.double (FP.l2d (q3 >>> ((8 : Int32) &&& 31)).toInt64)), .second, .val (.double (FP.l2d q3.toInt64)), .second, .val (.int cc), .val (.int u), .val (.double ds), .second, .val (.double co), .second, .val (.int (cc + u)), .val (.double (own_inc (FP.l2d q1.toInt64) u cc ds (FP.l2d q3.toInt64))), .second, .val (.int (0 : Int32)), .val (.double (FP.l2d q4.toInt64)), .second, .val (.double (FP.l2d q5.toInt64)), .second, .val (.int (1 : Int32))] [(.int (1 : Int32))]))
        exact own_retZ X140 hx (t := .boolean) hret (by simp) (hb hby at_327) (hK (some (.int (1 : Int32))) X140 hS115 (by rw [e140]; exact Nat.le_trans (by rw [hh0]; exact hk115) K134.1) (fun h => by rw [hret] at h; cases h) ⟨rfl, hn0 ▸ N140⟩ (by decide) (by decide))
    show own_Go p.tables e below K (T118.setTop (mkF m 93 #[.val (.int q1), .val (.int q2), .val (.int q3), .val (.int q4), .val (.int q5), .val (.int q6), .val (.double (FP.l2d q1.toInt64)), .second, .val (.ref r0), .val (.ref al), .val (.ref b113), .val (.ref b117), .val (.double (FP.l2d q2.toInt64)), .second, .val (.double (FP.l2d (q3 >>> ((8 : Int32) &&& 31)).toInt64)), .second, .val (.double (FP.l2d q3.toInt64)), .second, .unset, .unset, .unset, .unset, .unset, .unset, .unset, .unset, .unset, .unset, .unset, .unset, .unset, .unset, .unset] []))
    refine own_by (fun t k => XS.iload X118.here hx rfl (hb hby at_93) rfl k) ?_
    show own_Go p.tables e below K (T118.setTop (mkF m 95 #[.val (.int q1), .val (.int q2), .val (.int q3), .val (.int q4), .val (.int q5), .val (.int q6), .val (.double (FP.l2d q1.toInt64)), .second, .val (.ref r0), .val (.ref al), .val (.ref b113), .val (.ref b117), .val (.double (FP.l2d q2.toInt64)), .second, .val (.double (FP.l2d (q3 >>> ((8 : Int32) &&& 31)).toInt64)), .second, .val (.double (FP.l2d q3.toInt64)), .second, .unset, .unset, .unset, .unset, .unset, .unset, .unset, .unset, .unset, .unset, .unset, .unset, .unset, .unset, .unset] [(.int q6)]))
    refine own_by (fun t k => XS.iconst X118.here hx rfl (hb hby at_95) k) ?_
    show own_Go p.tables e below K (T118.setTop (mkF m 96 #[.val (.int q1), .val (.int q2), .val (.int q3), .val (.int q4), .val (.int q5), .val (.int q6), .val (.double (FP.l2d q1.toInt64)), .second, .val (.ref r0), .val (.ref al), .val (.ref b113), .val (.ref b117), .val (.double (FP.l2d q2.toInt64)), .second, .val (.double (FP.l2d (q3 >>> ((8 : Int32) &&& 31)).toInt64)), .second, .val (.double (FP.l2d q3.toInt64)), .second, .unset, .unset, .unset, .unset, .unset, .unset, .unset, .unset, .unset, .unset, .unset, .unset, .unset, .unset, .unset] [(.int (2 : Int32)), (.int q6)]))
    refine own_by (fun t k => XS.iand X118.here hx rfl (hb hby at_96) rfl k) ?_
    show own_Go p.tables e below K (T118.setTop (mkF m 97 #[.val (.int q1), .val (.int q2), .val (.int q3), .val (.int q4), .val (.int q5), .val (.int q6), .val (.double (FP.l2d q1.toInt64)), .second, .val (.ref r0), .val (.ref al), .val (.ref b113), .val (.ref b117), .val (.double (FP.l2d q2.toInt64)), .second, .val (.double (FP.l2d (q3 >>> ((8 : Int32) &&& 31)).toInt64)), .second, .val (.double (FP.l2d q3.toInt64)), .second, .unset, .unset, .unset, .unset, .unset, .unset, .unset, .unset, .unset, .unset, .unset, .unset, .unset, .unset, .unset] [(.int (q6 &&& (2 : Int32)))]))
    by_cases hc97 : (q6 &&& (2 : Int32)) = (0 : Int32)
    · refine own_by (fun t k => XS.ifYes X118.here hx rfl (pc0 := 97) (pc' := 107) rfl (hb hby at_97) rfl ((if0 _ _).trans (teq hc97).1) (by decide) (by decide) k) ?_
      show own_Go p.tables e below K (T118.setTop (mkF m 107 #[.val (.int q1), .val (.int q2), .val (.int q3), .val (.int q4), .val (.int q5), .val (.int q6), .val (.double (FP.l2d q1.toInt64)), .second, .val (.ref r0), .val (.ref al), .val (.ref b113), .val (.ref b117), .val (.double (FP.l2d q2.toInt64)), .second, .val (.double (FP.l2d (q3 >>> ((8 : Int32) &&& 31)).toInt64)), .second, .val (.double (FP.l2d q3.toInt64)), .second, .unset, .unset, .unset, .unset, .unset, .unset, .unset, .unset, .unset, .unset, .unset, .unset, .unset, .unset, .unset] []))
      refine own_by (fun t k => XS.iload X118.here hx rfl (hb hby at_107) rfl k) ?_
      show own_Go p.tables e below K (T118.setTop (mkF m 109 #[.val (.int q1), .val (.int q2), .val (.int q3), .val (.int q4), .val (.int q5), .val (.int q6), .val (.double (FP.l2d q1.toInt64)), .second, .val (.ref r0), .val (.ref al), .val (.ref b113), .val (.ref b117), .val (.double (FP.l2d q2.toInt64)), .second, .val (.double (FP.l2d (q3 >>> ((8 : Int32) &&& 31)).toInt64)), .second, .val (.double (FP.l2d q3.toInt64)), .second, .unset, .unset, .unset, .unset, .unset, .unset, .unset, .unset, .unset, .unset, .unset, .unset, .unset, .unset, .unset] [(.int q6)]))
      refine own_by (fun t k => XS.iconst X118.here hx rfl (hb hby at_109) k) ?_
      show own_Go p.tables e below K (T118.setTop (mkF m 110 #[.val (.int q1), .val (.int q2), .val (.int q3), .val (.int q4), .val (.int q5), .val (.int q6), .val (.double (FP.l2d q1.toInt64)), .second, .val (.ref r0), .val (.ref al), .val (.ref b113), .val (.ref b117), .val (.double (FP.l2d q2.toInt64)), .second, .val (.double (FP.l2d (q3 >>> ((8 : Int32) &&& 31)).toInt64)), .second, .val (.double (FP.l2d q3.toInt64)), .second, .unset, .unset, .unset, .unset, .unset, .unset, .unset, .unset, .unset, .unset, .unset, .unset, .unset, .unset, .unset] [(.int (4 : Int32)), (.int q6)]))
      refine own_by (fun t k => XS.iand X118.here hx rfl (hb hby at_110) rfl k) ?_
      show own_Go p.tables e below K (T118.setTop (mkF m 111 #[.val (.int q1), .val (.int q2), .val (.int q3), .val (.int q4), .val (.int q5), .val (.int q6), .val (.double (FP.l2d q1.toInt64)), .second, .val (.ref r0), .val (.ref al), .val (.ref b113), .val (.ref b117), .val (.double (FP.l2d q2.toInt64)), .second, .val (.double (FP.l2d (q3 >>> ((8 : Int32) &&& 31)).toInt64)), .second, .val (.double (FP.l2d q3.toInt64)), .second, .unset, .unset, .unset, .unset, .unset, .unset, .unset, .unset, .unset, .unset, .unset, .unset, .unset, .unset, .unset] [(.int (q6 &&& (4 : Int32)))]))
      by_cases hc111 : (q6 &&& (4 : Int32)) = (0 : Int32)
      · refine own_by (fun t k => XS.ifYes X118.here hx rfl (pc0 := 111) (pc' := 121) rfl (hb hby at_111) rfl ((if0 _ _).trans (teq hc111).1) (by decide) (by decide) k) ?_
        exact J121 _ _ _ _ _ X118 N118 Z118 O118 K118 ⟨Bp118.1, Bp118.2.1, Bp118.2.2.1, Bp118.2.2.2.1, Bp118.2.2.2.2.1, Bp118.2.2.2.2.2⟩ (Jvm.Free.Fl.Mag64.mono (Jvm.Free.Fl.l2d_mag 0) (by decide)) own_n0
      · refine own_by (fun t k => XS.ifNo X118.here hx rfl (hb hby at_111) rfl ((if0 _ _).trans (feq hc111).1) k) ?_
        show own_Go p.tables e below K (T118.setTop (mkF m 114 #[.val (.int q1), .val (.int q2), .val (.int q3), .val (.int q4), .val (.int q5), .val (.int q6), .val (.double (FP.l2d q1.toInt64)), .second, .val (.ref r0), .val (.ref al), .val (.ref b113), .val (.ref b117), .val (.double (FP.l2d q2.toInt64)), .second, .val (.double (FP.l2d (q3 >>> ((8 : Int32) &&& 31)).toInt64)), .second, .val (.double (FP.l2d q3.toInt64)), .second, .unset, .unset, .unset, .unset, .unset, .unset, .unset, .unset, .unset, .unset, .unset, .unset, .unset, .unset, .unset] []))
        refine own_by (fun t k => XS.aload X118.here hx rfl (hb hby at_114) rfl rfl k) ?_
        show own_Go p.tables e below K (T118.setTop (mkF m 116 #[.val (.int q1), .val (.int q2), .val (.int q3), .val (.int q4), .val (.int q5), .val (.int q6), .val (.double (FP.l2d q1.toInt64)), .second, .val (.ref r0), .val (.ref al), .val (.ref b113), .val (.ref b117), .val (.double (FP.l2d q2.toInt64)), .second, .val (.double (FP.l2d (q3 >>> ((8 : Int32) &&& 31)).toInt64)), .second, .val (.double (FP.l2d q3.toInt64)), .second, .unset, .unset, .unset, .unset, .unset, .unset, .unset, .unset, .unset, .unset, .unset, .unset, .unset, .unset, .unset] [(.ref b117)]))
        refine own_by (fun t k => XS.dload X118.here hx rfl (hb hby at_116) rfl k) ?_
        show own_Go p.tables e below K (T118.setTop (mkF m 118 #[.val (.int q1), .val (.int q2), .val (.int q3), .val (.int q4), .val (.int q5), .val (.int q6), .val (.double (FP.l2d q1.toInt64)), .second, .val (.ref r0), .val (.ref al), .val (.ref b113), .val (.ref b117), .val (.double (FP.l2d q2.toInt64)), .second, .val (.double (FP.l2d (q3 >>> ((8 : Int32) &&& 31)).toInt64)), .second, .val (.double (FP.l2d q3.toInt64)), .second, .unset, .unset, .unset, .unset, .unset, .unset, .unset, .unset, .unset, .unset, .unset, .unset, .unset, .unset, .unset] [(.double (FP.l2d (q3 >>> ((8 : Int32) &&& 31)).toInt64)), (.ref b117)]))
        obtain ⟨cq141, kq141, q141a, q141b, q141c⟩ := isOf hZ rfl Bp118.1
        obtain ⟨_, _, ⟨T141, L141, k141, n141⟩, -, X141, ⟨Lc141, hQ141, l141, y141, z141⟩, st141⟩ := X118.virtualBack hx (y := (⟨"com/example/skyroster/skyroster/CostShare", "give", "(D)V"⟩ : MethodName)) (z := (⟨"com/example/skyroster/skyroster/CostShare", "give", "(D)V"⟩ : MethodName)) hown (mvT hZ (hw _ (List.mem_of_getElem? (i := 227) rfl))) (mvT hZ (hw _ (List.mem_of_getElem? (i := 228) rfl))) (notFace_of_selects (args := #[]) (mvT hZ (hw _ (List.mem_of_getElem? (i := 230) rfl)))) (mvT hZ (hw _ (List.mem_of_getElem? (i := 230) rfl))) (mvT hZ (hw _ (List.mem_of_getElem? (i := 229) rfl))) (by decide) (backOf (W := 0) (own_rmgiv l Z aw hw [] b117 (FP.l2d (q3 >>> ((8 : Int32) &&& 31)).toInt64) (FP.l2d q1.toInt64) u (0 : Int32) (FP.l2d 0) (0 : UInt64) 1088 T118.heap n0 Z118 ⟨Bp118.1, Bp118.2.1, Bp118.2.2.1, Bp118.2.2.2.1, Bp118.2.2.2.2.1, Bp118.2.2.2.2.2⟩ gn_b117 (Jvm.Free.Fl.l2d_mag _) (Jvm.Free.Fl.l2d_mag _) (Jvm.Free.Fl.l2d_mag 0) (by decide) (by decide)) hZ (hw _ (List.mem_of_getElem? (i := 231) rfl)) (hw _ (List.mem_of_getElem? (i := 199) rfl)) (by decide) (by decide)) q141a q141c (g := (mkF m 118 #[.val (.int q1), .val (.int q2), .val (.int q3), .val (.int q4), .val (.int q5), .val (.int q6), .val (.double (FP.l2d q1.toInt64)), .second, .val (.ref r0), .val (.ref al), .val (.ref b113), .val (.ref b117), .val (.double (FP.l2d q2.toInt64)), .second, .val (.double (FP.l2d (q3 >>> ((8 : Int32) &&& 31)).toInt64)), .second, .val (.double (FP.l2d q3.toInt64)), .second, .unset, .unset, .unset, .unset, .unset, .unset, .unset, .unset, .unset, .unset, .unset, .unset, .unset, .unset, .unset] [(.double (FP.l2d (q3 >>> ((8 : Int32) &&& 31)).toInt64)), (.ref b117)])) rfl (by rw [hml]; rfl) (Steps.refl _) (argsL := [(.double (FP.l2d (q3 >>> ((8 : Int32) &&& 31)).toInt64))]) (rest := []) (lenOf own_pd18 rfl) rfl (by show 2 * 0 + _ ≤ _; exact Nat.le_of_eq rfl) (hb hby at_118) (fun _ _ => ⟨rfl, rfl, (by decide : 16 + 0 ≤ _), (by decide : 64 + 0 ≤ _)⟩)
        dsimp only [Pt.U, Pt.locs, Pt.cells, Pt.slots] at X141 l141 y141 z141 st141 hQ141
        subst l141 y141 z141
        obtain ⟨rfl, N141q, Kp141, Bp141, np141, mp141⟩ := hQ141
        have N141 := Fr.app N118 N141q
        refine own_by (fun t k => st141.trans k) ?_
        have xa141_el := xa118_el.keep Kp141 (ninS ne_el_b117 nin0)
        have xa141_lw116 := xa118_lw116.keep Kp141 (ninS ne_lw116_b117 nin0)
        have F141_modCount_r0 := F118_modCount_r0.keep Kp141 (ninS ne_r0_b117 nin0)
        have F141_elementData_r0 := F118_elementData_r0.keep Kp141 (ninS ne_r0_b117 nin0)
        have F141_size_r0 := F118_size_r0.keep Kp141 (ninS ne_r0_b117 nin0)
        have F141_modCount_al := F118_modCount_al.keep Kp141 (ninS ne_al_b117 nin0)
        have F141_elementData_al := F118_elementData_al.keep Kp141 (ninS ne_al_b117 nin0)
        have F141_size_al := F118_size_al.keep Kp141 (ninS ne_al_b117 nin0)
        have F141_costCoefficient_b113 := F118_costCoefficient_b113.keep Kp141 (ninS ne_b113_b117 nin0)
        have F141_usedWindows_b113 := F118_usedWindows_b113.keep Kp141 (ninS ne_b113_b117 nin0)
        have Ex141_r0 := Ex118_r0.keep Kp141
        have Ex141_al := Ex118_al.keep Kp141
        have Ex141_b113 := Ex118_b113.keep Kp141
        have Ex141_b117 := Bp118.1.keep Kp141
        have K141 := K118.trans Kp141 (allS (Or.inr sz_b117) (all0))
        have Z141 := Nat.le_trans Z118 Kp141.1
        have O141 := O118.keep Kp141 (allS gn_b117 (all0))
        exact J121 _ _ _ _ _ X141 N141 Z141 O141 K141 ⟨Bp141.1, Bp141.2.1, Bp141.2.2.1, Bp141.2.2.2.1, Bp141.2.2.2.2.1, Bp141.2.2.2.2.2⟩ (Jvm.Free.Fl.Mag64.mono mp141 (by decide)) np141
    · refine own_by (fun t k => XS.ifNo X118.here hx rfl (hb hby at_97) rfl ((if0 _ _).trans (feq hc97).1) k) ?_
      show own_Go p.tables e below K (T118.setTop (mkF m 100 #[.val (.int q1), .val (.int q2), .val (.int q3), .val (.int q4), .val (.int q5), .val (.int q6), .val (.double (FP.l2d q1.toInt64)), .second, .val (.ref r0), .val (.ref al), .val (.ref b113), .val (.ref b117), .val (.double (FP.l2d q2.toInt64)), .second, .val (.double (FP.l2d (q3 >>> ((8 : Int32) &&& 31)).toInt64)), .second, .val (.double (FP.l2d q3.toInt64)), .second, .unset, .unset, .unset, .unset, .unset, .unset, .unset, .unset, .unset, .unset, .unset, .unset, .unset, .unset, .unset] []))
      refine own_by (fun t k => XS.aload X118.here hx rfl (hb hby at_100) rfl rfl k) ?_
      show own_Go p.tables e below K (T118.setTop (mkF m 102 #[.val (.int q1), .val (.int q2), .val (.int q3), .val (.int q4), .val (.int q5), .val (.int q6), .val (.double (FP.l2d q1.toInt64)), .second, .val (.ref r0), .val (.ref al), .val (.ref b113), .val (.ref b117), .val (.double (FP.l2d q2.toInt64)), .second, .val (.double (FP.l2d (q3 >>> ((8 : Int32) &&& 31)).toInt64)), .second, .val (.double (FP.l2d q3.toInt64)), .second, .unset, .unset, .unset, .unset, .unset, .unset, .unset, .unset, .unset, .unset, .unset, .unset, .unset, .unset, .unset] [(.ref b117)]))
      refine own_by (fun t k => XS.dload X118.here hx rfl (hb hby at_102) rfl k) ?_
      show own_Go p.tables e below K (T118.setTop (mkF m 104 #[.val (.int q1), .val (.int q2), .val (.int q3), .val (.int q4), .val (.int q5), .val (.int q6), .val (.double (FP.l2d q1.toInt64)), .second, .val (.ref r0), .val (.ref al), .val (.ref b113), .val (.ref b117), .val (.double (FP.l2d q2.toInt64)), .second, .val (.double (FP.l2d (q3 >>> ((8 : Int32) &&& 31)).toInt64)), .second, .val (.double (FP.l2d q3.toInt64)), .second, .unset, .unset, .unset, .unset, .unset, .unset, .unset, .unset, .unset, .unset, .unset, .unset, .unset, .unset, .unset] [(.double (FP.l2d q2.toInt64)), (.ref b117)]))
      obtain ⟨cq142, kq142, q142a, q142b, q142c⟩ := isOf hZ rfl Bp118.1
      obtain ⟨_, _, ⟨T142, L142, k142, n142⟩, -, X142, ⟨Lc142, hQ142, l142, y142, z142⟩, st142⟩ := X118.virtualBack hx (y := (⟨"com/example/skyroster/skyroster/CostShare", "give", "(D)V"⟩ : MethodName)) (z := (⟨"com/example/skyroster/skyroster/CostShare", "give", "(D)V"⟩ : MethodName)) hown (mvT hZ (hw _ (List.mem_of_getElem? (i := 227) rfl))) (mvT hZ (hw _ (List.mem_of_getElem? (i := 228) rfl))) (notFace_of_selects (args := #[]) (mvT hZ (hw _ (List.mem_of_getElem? (i := 230) rfl)))) (mvT hZ (hw _ (List.mem_of_getElem? (i := 230) rfl))) (mvT hZ (hw _ (List.mem_of_getElem? (i := 229) rfl))) (by decide) (backOf (W := 0) (own_rmgiv l Z aw hw [] b117 (FP.l2d q2.toInt64) (FP.l2d q1.toInt64) u (0 : Int32) (FP.l2d 0) (0 : UInt64) 1088 T118.heap n0 Z118 ⟨Bp118.1, Bp118.2.1, Bp118.2.2.1, Bp118.2.2.2.1, Bp118.2.2.2.2.1, Bp118.2.2.2.2.2⟩ gn_b117 (Jvm.Free.Fl.l2d_mag _) (Jvm.Free.Fl.l2d_mag _) (Jvm.Free.Fl.l2d_mag 0) (by decide) (by decide)) hZ (hw _ (List.mem_of_getElem? (i := 231) rfl)) (hw _ (List.mem_of_getElem? (i := 199) rfl)) (by decide) (by decide)) q142a q142c (g := (mkF m 104 #[.val (.int q1), .val (.int q2), .val (.int q3), .val (.int q4), .val (.int q5), .val (.int q6), .val (.double (FP.l2d q1.toInt64)), .second, .val (.ref r0), .val (.ref al), .val (.ref b113), .val (.ref b117), .val (.double (FP.l2d q2.toInt64)), .second, .val (.double (FP.l2d (q3 >>> ((8 : Int32) &&& 31)).toInt64)), .second, .val (.double (FP.l2d q3.toInt64)), .second, .unset, .unset, .unset, .unset, .unset, .unset, .unset, .unset, .unset, .unset, .unset, .unset, .unset, .unset, .unset] [(.double (FP.l2d q2.toInt64)), (.ref b117)])) rfl (by rw [hml]; rfl) (Steps.refl _) (argsL := [(.double (FP.l2d q2.toInt64))]) (rest := []) (lenOf own_pd18 rfl) rfl (by show 2 * 0 + _ ≤ _; exact Nat.le_of_eq rfl) (hb hby at_104) (fun _ _ => ⟨rfl, rfl, (by decide : 16 + 0 ≤ _), (by decide : 64 + 0 ≤ _)⟩)
      dsimp only [Pt.U, Pt.locs, Pt.cells, Pt.slots] at X142 l142 y142 z142 st142 hQ142
      subst l142 y142 z142
      obtain ⟨rfl, N142q, Kp142, Bp142, np142, mp142⟩ := hQ142
      have N142 := Fr.app N118 N142q
      refine own_by (fun t k => st142.trans k) ?_
      have xa142_el := xa118_el.keep Kp142 (ninS ne_el_b117 nin0)
      have xa142_lw116 := xa118_lw116.keep Kp142 (ninS ne_lw116_b117 nin0)
      have F142_modCount_r0 := F118_modCount_r0.keep Kp142 (ninS ne_r0_b117 nin0)
      have F142_elementData_r0 := F118_elementData_r0.keep Kp142 (ninS ne_r0_b117 nin0)
      have F142_size_r0 := F118_size_r0.keep Kp142 (ninS ne_r0_b117 nin0)
      have F142_modCount_al := F118_modCount_al.keep Kp142 (ninS ne_al_b117 nin0)
      have F142_elementData_al := F118_elementData_al.keep Kp142 (ninS ne_al_b117 nin0)
      have F142_size_al := F118_size_al.keep Kp142 (ninS ne_al_b117 nin0)
      have F142_costCoefficient_b113 := F118_costCoefficient_b113.keep Kp142 (ninS ne_b113_b117 nin0)
      have F142_usedWindows_b113 := F118_usedWindows_b113.keep Kp142 (ninS ne_b113_b117 nin0)
      have Ex142_r0 := Ex118_r0.keep Kp142
      have Ex142_al := Ex118_al.keep Kp142
      have Ex142_b113 := Ex118_b113.keep Kp142
      have Ex142_b117 := Bp118.1.keep Kp142
      have K142 := K118.trans Kp142 (allS (Or.inr sz_b117) (all0))
      have Z142 := Nat.le_trans Z118 Kp142.1
      have O142 := O118.keep Kp142 (allS gn_b117 (all0))
      show own_Go p.tables e below K (T142.setTop (mkF m 107 #[.val (.int q1), .val (.int q2), .val (.int q3), .val (.int q4), .val (.int q5), .val (.int q6), .val (.double (FP.l2d q1.toInt64)), .second, .val (.ref r0), .val (.ref al), .val (.ref b113), .val (.ref b117), .val (.double (FP.l2d q2.toInt64)), .second, .val (.double (FP.l2d (q3 >>> ((8 : Int32) &&& 31)).toInt64)), .second, .val (.double (FP.l2d q3.toInt64)), .second, .unset, .unset, .unset, .unset, .unset, .unset, .unset, .unset, .unset, .unset, .unset, .unset, .unset, .unset, .unset] []))
      refine own_by (fun t k => XS.iload X142.here hx rfl (hb hby at_107) rfl k) ?_
      show own_Go p.tables e below K (T142.setTop (mkF m 109 #[.val (.int q1), .val (.int q2), .val (.int q3), .val (.int q4), .val (.int q5), .val (.int q6), .val (.double (FP.l2d q1.toInt64)), .second, .val (.ref r0), .val (.ref al), .val (.ref b113), .val (.ref b117), .val (.double (FP.l2d q2.toInt64)), .second, .val (.double (FP.l2d (q3 >>> ((8 : Int32) &&& 31)).toInt64)), .second, .val (.double (FP.l2d q3.toInt64)), .second, .unset, .unset, .unset, .unset, .unset, .unset, .unset, .unset, .unset, .unset, .unset, .unset, .unset, .unset, .unset] [(.int q6)]))
      refine own_by (fun t k => XS.iconst X142.here hx rfl (hb hby at_109) k) ?_
      show own_Go p.tables e below K (T142.setTop (mkF m 110 #[.val (.int q1), .val (.int q2), .val (.int q3), .val (.int q4), .val (.int q5), .val (.int q6), .val (.double (FP.l2d q1.toInt64)), .second, .val (.ref r0), .val (.ref al), .val (.ref b113), .val (.ref b117), .val (.double (FP.l2d q2.toInt64)), .second, .val (.double (FP.l2d (q3 >>> ((8 : Int32) &&& 31)).toInt64)), .second, .val (.double (FP.l2d q3.toInt64)), .second, .unset, .unset, .unset, .unset, .unset, .unset, .unset, .unset, .unset, .unset, .unset, .unset, .unset, .unset, .unset] [(.int (4 : Int32)), (.int q6)]))
      refine own_by (fun t k => XS.iand X142.here hx rfl (hb hby at_110) rfl k) ?_
      show own_Go p.tables e below K (T142.setTop (mkF m 111 #[.val (.int q1), .val (.int q2), .val (.int q3), .val (.int q4), .val (.int q5), .val (.int q6), .val (.double (FP.l2d q1.toInt64)), .second, .val (.ref r0), .val (.ref al), .val (.ref b113), .val (.ref b117), .val (.double (FP.l2d q2.toInt64)), .second, .val (.double (FP.l2d (q3 >>> ((8 : Int32) &&& 31)).toInt64)), .second, .val (.double (FP.l2d q3.toInt64)), .second, .unset, .unset, .unset, .unset, .unset, .unset, .unset, .unset, .unset, .unset, .unset, .unset, .unset, .unset, .unset] [(.int (q6 &&& (4 : Int32)))]))
      by_cases hc111 : (q6 &&& (4 : Int32)) = (0 : Int32)
      · refine own_by (fun t k => XS.ifYes X142.here hx rfl (pc0 := 111) (pc' := 121) rfl (hb hby at_111) rfl ((if0 _ _).trans (teq hc111).1) (by decide) (by decide) k) ?_
        exact J121 _ _ _ _ _ X142 N142 Z142 O142 K142 ⟨Bp142.1, Bp142.2.1, Bp142.2.2.1, Bp142.2.2.2.1, Bp142.2.2.2.2.1, Bp142.2.2.2.2.2⟩ (Jvm.Free.Fl.Mag64.mono mp142 (by decide)) np142
      · refine own_by (fun t k => XS.ifNo X142.here hx rfl (hb hby at_111) rfl ((if0 _ _).trans (feq hc111).1) k) ?_
        show own_Go p.tables e below K (T142.setTop (mkF m 114 #[.val (.int q1), .val (.int q2), .val (.int q3), .val (.int q4), .val (.int q5), .val (.int q6), .val (.double (FP.l2d q1.toInt64)), .second, .val (.ref r0), .val (.ref al), .val (.ref b113), .val (.ref b117), .val (.double (FP.l2d q2.toInt64)), .second, .val (.double (FP.l2d (q3 >>> ((8 : Int32) &&& 31)).toInt64)), .second, .val (.double (FP.l2d q3.toInt64)), .second, .unset, .unset, .unset, .unset, .unset, .unset, .unset, .unset, .unset, .unset, .unset, .unset, .unset, .unset, .unset] []))
        refine own_by (fun t k => XS.aload X142.here hx rfl (hb hby at_114) rfl rfl k) ?_
        show own_Go p.tables e below K (T142.setTop (mkF m 116 #[.val (.int q1), .val (.int q2), .val (.int q3), .val (.int q4), .val (.int q5), .val (.int q6), .val (.double (FP.l2d q1.toInt64)), .second, .val (.ref r0), .val (.ref al), .val (.ref b113), .val (.ref b117), .val (.double (FP.l2d q2.toInt64)), .second, .val (.double (FP.l2d (q3 >>> ((8 : Int32) &&& 31)).toInt64)), .second, .val (.double (FP.l2d q3.toInt64)), .second, .unset, .unset, .unset, .unset, .unset, .unset, .unset, .unset, .unset, .unset, .unset, .unset, .unset, .unset, .unset] [(.ref b117)]))
        refine own_by (fun t k => XS.dload X142.here hx rfl (hb hby at_116) rfl k) ?_
        show own_Go p.tables e below K (T142.setTop (mkF m 118 #[.val (.int q1), .val (.int q2), .val (.int q3), .val (.int q4), .val (.int q5), .val (.int q6), .val (.double (FP.l2d q1.toInt64)), .second, .val (.ref r0), .val (.ref al), .val (.ref b113), .val (.ref b117), .val (.double (FP.l2d q2.toInt64)), .second, .val (.double (FP.l2d (q3 >>> ((8 : Int32) &&& 31)).toInt64)), .second, .val (.double (FP.l2d q3.toInt64)), .second, .unset, .unset, .unset, .unset, .unset, .unset, .unset, .unset, .unset, .unset, .unset, .unset, .unset, .unset, .unset] [(.double (FP.l2d (q3 >>> ((8 : Int32) &&& 31)).toInt64)), (.ref b117)]))
        obtain ⟨cq143, kq143, q143a, q143b, q143c⟩ := isOf hZ rfl Bp142.1
        obtain ⟨_, _, ⟨T143, L143, k143, n143⟩, -, X143, ⟨Lc143, hQ143, l143, y143, z143⟩, st143⟩ := X142.virtualBack hx (y := (⟨"com/example/skyroster/skyroster/CostShare", "give", "(D)V"⟩ : MethodName)) (z := (⟨"com/example/skyroster/skyroster/CostShare", "give", "(D)V"⟩ : MethodName)) hown (mvT hZ (hw _ (List.mem_of_getElem? (i := 227) rfl))) (mvT hZ (hw _ (List.mem_of_getElem? (i := 228) rfl))) (notFace_of_selects (args := #[]) (mvT hZ (hw _ (List.mem_of_getElem? (i := 230) rfl)))) (mvT hZ (hw _ (List.mem_of_getElem? (i := 230) rfl))) (mvT hZ (hw _ (List.mem_of_getElem? (i := 229) rfl))) (by decide) (backOf (W := 0) (own_rmgiv l Z aw hw [] b117 (FP.l2d (q3 >>> ((8 : Int32) &&& 31)).toInt64) (FP.l2d q1.toInt64) u ((0 : Int32) + (1 : Int32)) (FP.dadd (FP.l2d 0) (FP.l2d q2.toInt64)) (own_cst (FP.l2d q1.toInt64) u ((0 : Int32) + (1 : Int32)) (FP.dadd (FP.l2d 0) (FP.l2d q2.toInt64))) 1090 T142.heap n0 Z142 ⟨Bp142.1, Bp142.2.1, Bp142.2.2.1, Bp142.2.2.2.1, Bp142.2.2.2.2.1, Bp142.2.2.2.2.2⟩ gn_b117 (Jvm.Free.Fl.l2d_mag _) (Jvm.Free.Fl.l2d_mag _) mp142 (by decide) (by decide)) hZ (hw _ (List.mem_of_getElem? (i := 231) rfl)) (hw _ (List.mem_of_getElem? (i := 199) rfl)) (by decide) (by decide)) q143a q143c (g := (mkF m 118 #[.val (.int q1), .val (.int q2), .val (.int q3), .val (.int q4), .val (.int q5), .val (.int q6), .val (.double (FP.l2d q1.toInt64)), .second, .val (.ref r0), .val (.ref al), .val (.ref b113), .val (.ref b117), .val (.double (FP.l2d q2.toInt64)), .second, .val (.double (FP.l2d (q3 >>> ((8 : Int32) &&& 31)).toInt64)), .second, .val (.double (FP.l2d q3.toInt64)), .second, .unset, .unset, .unset, .unset, .unset, .unset, .unset, .unset, .unset, .unset, .unset, .unset, .unset, .unset, .unset] [(.double (FP.l2d (q3 >>> ((8 : Int32) &&& 31)).toInt64)), (.ref b117)])) rfl (by rw [hml]; rfl) (Steps.refl _) (argsL := [(.double (FP.l2d (q3 >>> ((8 : Int32) &&& 31)).toInt64))]) (rest := []) (lenOf own_pd18 rfl) rfl (by show 2 * 0 + _ ≤ _; exact Nat.le_of_eq rfl) (hb hby at_118) (fun _ _ => ⟨rfl, rfl, (by decide : 16 + 0 ≤ _), (by decide : 64 + 0 ≤ _)⟩)
        dsimp only [Pt.U, Pt.locs, Pt.cells, Pt.slots] at X143 l143 y143 z143 st143 hQ143
        subst l143 y143 z143
        obtain ⟨rfl, N143q, Kp143, Bp143, np143, mp143⟩ := hQ143
        have N143 := Fr.app N142 N143q
        refine own_by (fun t k => st143.trans k) ?_
        have xa143_el := xa142_el.keep Kp143 (ninS ne_el_b117 nin0)
        have xa143_lw116 := xa142_lw116.keep Kp143 (ninS ne_lw116_b117 nin0)
        have F143_modCount_r0 := F142_modCount_r0.keep Kp143 (ninS ne_r0_b117 nin0)
        have F143_elementData_r0 := F142_elementData_r0.keep Kp143 (ninS ne_r0_b117 nin0)
        have F143_size_r0 := F142_size_r0.keep Kp143 (ninS ne_r0_b117 nin0)
        have F143_modCount_al := F142_modCount_al.keep Kp143 (ninS ne_al_b117 nin0)
        have F143_elementData_al := F142_elementData_al.keep Kp143 (ninS ne_al_b117 nin0)
        have F143_size_al := F142_size_al.keep Kp143 (ninS ne_al_b117 nin0)
        have F143_costCoefficient_b113 := F142_costCoefficient_b113.keep Kp143 (ninS ne_b113_b117 nin0)
        have F143_usedWindows_b113 := F142_usedWindows_b113.keep Kp143 (ninS ne_b113_b117 nin0)
        have Ex143_r0 := Ex142_r0.keep Kp143
        have Ex143_al := Ex142_al.keep Kp143
        have Ex143_b113 := Ex142_b113.keep Kp143
        have Ex143_b117 := Bp142.1.keep Kp143
        have K143 := K142.trans Kp143 (allS (Or.inr sz_b117) (all0))
        have Z143 := Nat.le_trans Z142 Kp143.1
        have O143 := O142.keep Kp143 (allS gn_b117 (all0))
        exact J121 _ _ _ _ _ X143 N143 Z143 O143 K143 ⟨Bp143.1, Bp143.2.1, Bp143.2.2.1, Bp143.2.2.2.1, Bp143.2.2.2.2.1, Bp143.2.2.2.2.2⟩ (Jvm.Free.Fl.Mag64.mono mp143 (by decide)) np143
  show own_Go p.tables e below K (T112.setTop (mkF m 22 #[.val (.int q1), .val (.int q2), .val (.int q3), .val (.int q4), .val (.int q5), .val (.int q6), .val (.double (FP.l2d q1.toInt64)), .second, .val (.ref b109), .val (.ref b111), .unset, .unset, .unset, .unset, .unset, .unset, .unset, .unset, .unset, .unset, .unset, .unset, .unset, .unset, .unset, .unset, .unset, .unset, .unset, .unset, .unset, .unset, .unset] []))
  refine own_by (fun t k => XS.iload X112.here hx rfl (hb hby at_22) rfl k) ?_
  show own_Go p.tables e below K (T112.setTop (mkF m 24 #[.val (.int q1), .val (.int q2), .val (.int q3), .val (.int q4), .val (.int q5), .val (.int q6), .val (.double (FP.l2d q1.toInt64)), .second, .val (.ref b109), .val (.ref b111), .unset, .unset, .unset, .unset, .unset, .unset, .unset, .unset, .unset, .unset, .unset, .unset, .unset, .unset, .unset, .unset, .unset, .unset, .unset, .unset, .unset, .unset, .unset] [(.int q6)]))
  refine own_by (fun t k => XS.iconst X112.here hx rfl (hb hby at_24) k) ?_
  show own_Go p.tables e below K (T112.setTop (mkF m 25 #[.val (.int q1), .val (.int q2), .val (.int q3), .val (.int q4), .val (.int q5), .val (.int q6), .val (.double (FP.l2d q1.toInt64)), .second, .val (.ref b109), .val (.ref b111), .unset, .unset, .unset, .unset, .unset, .unset, .unset, .unset, .unset, .unset, .unset, .unset, .unset, .unset, .unset, .unset, .unset, .unset, .unset, .unset, .unset, .unset, .unset] [(.int (1 : Int32)), (.int q6)]))
  refine own_by (fun t k => XS.iand X112.here hx rfl (hb hby at_25) rfl k) ?_
  show own_Go p.tables e below K (T112.setTop (mkF m 26 #[.val (.int q1), .val (.int q2), .val (.int q3), .val (.int q4), .val (.int q5), .val (.int q6), .val (.double (FP.l2d q1.toInt64)), .second, .val (.ref b109), .val (.ref b111), .unset, .unset, .unset, .unset, .unset, .unset, .unset, .unset, .unset, .unset, .unset, .unset, .unset, .unset, .unset, .unset, .unset, .unset, .unset, .unset, .unset, .unset, .unset] [(.int (q6 &&& (1 : Int32)))]))
  by_cases hc26 : (q6 &&& (1 : Int32)) = (0 : Int32)
  · refine own_by (fun t k => XS.ifYes X112.here hx rfl (pc0 := 26) (pc' := 45) rfl (hb hby at_26) rfl ((if0 _ _).trans (teq hc26).1) (by decide) (by decide) k) ?_
    exact J45 _ _ 0 0 b109 b111 dd _ (own_more X112 (by decide) (by decide)) N112 Z112 O112 ⟨Ex112_b109, F112_modCount_b109, F112_elementData_b109, F112_size_b109⟩ ⟨Bp112.1, Bp112.2.1, Bp112.2.2.1, Bp112.2.2.2⟩ (Or.inl ⟨rfl, S0.2.1.ext O112.2⟩)
  · refine own_by (fun t k => XS.ifNo X112.here hx rfl (hb hby at_26) rfl ((if0 _ _).trans (feq hc26).1) k) ?_
    show own_Go p.tables e below K (T112.setTop (mkF m 29 #[.val (.int q1), .val (.int q2), .val (.int q3), .val (.int q4), .val (.int q5), .val (.int q6), .val (.double (FP.l2d q1.toInt64)), .second, .val (.ref b109), .val (.ref b111), .unset, .unset, .unset, .unset, .unset, .unset, .unset, .unset, .unset, .unset, .unset, .unset, .unset, .unset, .unset, .unset, .unset, .unset, .unset, .unset, .unset, .unset, .unset] []))
    refine own_by (fun t k => XS.aload X112.here hx rfl (hb hby at_29) rfl rfl k) ?_
    show own_Go p.tables e below K (T112.setTop (mkF m 31 #[.val (.int q1), .val (.int q2), .val (.int q3), .val (.int q4), .val (.int q5), .val (.int q6), .val (.double (FP.l2d q1.toInt64)), .second, .val (.ref b109), .val (.ref b111), .unset, .unset, .unset, .unset, .unset, .unset, .unset, .unset, .unset, .unset, .unset, .unset, .unset, .unset, .unset, .unset, .unset, .unset, .unset, .unset, .unset, .unset, .unset] [(.ref b111)]))
    obtain ⟨T144, h144, X144, e144, E144, A144, D144, -, st144⟩ := newO X112 hx hZ hown (hw _ (List.mem_of_getElem? (i := 26) rfl)) (hw _ (List.mem_of_getElem? (i := 27) rfl)) (hw _ (List.mem_of_getElem? (i := 28) rfl)) rfl (g := (mkF m 31 #[.val (.int q1), .val (.int q2), .val (.int q3), .val (.int q4), .val (.int q5), .val (.int q6), .val (.double (FP.l2d q1.toInt64)), .second, .val (.ref b109), .val (.ref b111), .unset, .unset, .unset, .unset, .unset, .unset, .unset, .unset, .unset, .unset, .unset, .unset, .unset, .unset, .unset, .unset, .unset, .unset, .unset, .unset, .unset, .unset, .unset] [(.ref b111)])) rfl (hb hby at_31) (by decide) (by decide)
    obtain ⟨b144, g144⟩ : ∃ z, z = T112.heap.size := ⟨_, rfl⟩
    rw [← g144] at A144 D144 st144
    refine own_by st144 ?_
    have gn_b144 : n0 ≤ b144 := Nat.le_trans Z112 (Nat.le_of_eq g144.symm)
    have ne_b109_b144 : b109 ≠ b144 := Nat.ne_of_lt (Nat.lt_of_lt_of_le Ex112_b109.lt (Nat.le_of_eq g144.symm))
    have ne_b111_b144 : b111 ≠ b144 := Nat.ne_of_lt (Nat.lt_of_lt_of_le Bp112.1.lt (Nat.le_of_eq g144.symm))
    have F144_modCount_b109 := F112_modCount_b109.ext E144
    have F144_elementData_b109 := F112_elementData_b109.ext E144
    have F144_size_b109 := F112_size_b109.ext E144
    have F144_modCount_b111 := Bp112.2.1.ext E144
    have F144_elementData_b111 := Bp112.2.2.1.ext E144
    have F144_size_b111 := Bp112.2.2.2.ext E144
    have Ex144_b109 := Ex112_b109.ext E144
    have Ex144_b111 := Bp112.1.ext E144
    have Z144 := Nat.le_trans Z112 E144.1
    have O144 := O112.ext E144
    have F144_startS_b144 : Fld Z h144 b144 "com/example/skyroster/skyroster/UsedWindow" "startS" "J" (.long (0 : Int64)) := D144 (Or.inr (hw _ (List.mem_of_getElem? (i := 39) rfl))) (ty := .long) (by decide)
    have F144_endS_b144 : Fld Z h144 b144 "com/example/skyroster/skyroster/UsedWindow" "endS" "J" (.long (0 : Int64)) := D144 (Or.inr (hw _ (List.mem_of_getElem? (i := 41) rfl))) (ty := .long) (by decide)
    have F144_orbit_b144 : Fld Z h144 b144 "com/example/skyroster/skyroster/UsedWindow" "orbit" "J" (.long (0 : Int64)) := D144 (Or.inr (hw _ (List.mem_of_getElem? (i := 43) rfl))) (ty := .long) (by decide)
    show own_Go p.tables e below K (T144.setTop (mkF m 34 #[.val (.int q1), .val (.int q2), .val (.int q3), .val (.int q4), .val (.int q5), .val (.int q6), .val (.double (FP.l2d q1.toInt64)), .second, .val (.ref b109), .val (.ref b111), .unset, .unset, .unset, .unset, .unset, .unset, .unset, .unset, .unset, .unset, .unset, .unset, .unset, .unset, .unset, .unset, .unset, .unset, .unset, .unset, .unset, .unset, .unset] [(.ref b144), (.ref b111)]))
    refine own_by (fun t k => XS.dup X144.here hx rfl (hb hby at_34) rfl rfl k) ?_
    show own_Go p.tables e below K (T144.setTop (mkF m 35 #[.val (.int q1), .val (.int q2), .val (.int q3), .val (.int q4), .val (.int q5), .val (.int q6), .val (.double (FP.l2d q1.toInt64)), .second, .val (.ref b109), .val (.ref b111), .unset, .unset, .unset, .unset, .unset, .unset, .unset, .unset, .unset, .unset, .unset, .unset, .unset, .unset, .unset, .unset, .unset, .unset, .unset, .unset, .unset, .unset, .unset] [(.ref b144), (.ref b144), (.ref b111)]))
    refine own_by (fun t k => XS.lconst X144.here hx rfl (hb hby at_35) k) ?_
    show own_Go p.tables e below K (T144.setTop (mkF m 36 #[.val (.int q1), .val (.int q2), .val (.int q3), .val (.int q4), .val (.int q5), .val (.int q6), .val (.double (FP.l2d q1.toInt64)), .second, .val (.ref b109), .val (.ref b111), .unset, .unset, .unset, .unset, .unset, .unset, .unset, .unset, .unset, .unset, .unset, .unset, .unset, .unset, .unset, .unset, .unset, .unset, .unset, .unset, .unset, .unset, .unset] [(.long (0 : Int64)), (.ref b144), (.ref b144), (.ref b111)]))
    refine own_by (fun t k => XS.lconst X144.here hx rfl (hb hby at_36) k) ?_
    show own_Go p.tables e below K (T144.setTop (mkF m 37 #[.val (.int q1), .val (.int q2), .val (.int q3), .val (.int q4), .val (.int q5), .val (.int q6), .val (.double (FP.l2d q1.toInt64)), .second, .val (.ref b109), .val (.ref b111), .unset, .unset, .unset, .unset, .unset, .unset, .unset, .unset, .unset, .unset, .unset, .unset, .unset, .unset, .unset, .unset, .unset, .unset, .unset, .unset, .unset, .unset, .unset] [(.long (1 : Int64)), (.long (0 : Int64)), (.ref b144), (.ref b144), (.ref b111)]))
    refine own_by (fun t k => XS.lconst X144.here hx rfl (hb hby at_37) k) ?_
    show own_Go p.tables e below K (T144.setTop (mkF m 38 #[.val (.int q1), .val (.int q2), .val (.int q3), .val (.int q4), .val (.int q5), .val (.int q6), .val (.double (FP.l2d q1.toInt64)), .second, .val (.ref b109), .val (.ref b111), .unset, .unset, .unset, .unset, .unset, .unset, .unset, .unset, .unset, .unset, .unset, .unset, .unset, .unset, .unset, .unset, .unset, .unset, .unset, .unset, .unset, .unset, .unset] [(.long (0 : Int64)), (.long (1 : Int64)), (.long (0 : Int64)), (.ref b144), (.ref b144), (.ref b111)]))
    obtain ⟨_, _, ⟨T145, L145, k145, n145⟩, -, X145, ⟨Lc145, hQ145, l145, y145, z145⟩, st145⟩ := X144.specialBack hx (y := (⟨"com/example/skyroster/skyroster/UsedWindow", "<init>", "(JJJ)V"⟩ : MethodName)) rfl hown (mvT hZ (hw _ (List.mem_of_getElem? (i := 29) rfl))) (mvT hZ (hw _ (List.mem_of_getElem? (i := 30) rfl))) (mvT hZ (hw _ (List.mem_of_getElem? (i := 31) rfl))) (by decide) (backOf (W := 2) (own_rmuwi l Z aw hw [] b144 0 1 0 h144 n0 Z144 A144 gn_b144 F144_startS_b144 F144_endS_b144 F144_orbit_b144) hZ (hw _ (List.mem_of_getElem? (i := 31) rfl)) (hw _ (List.mem_of_getElem? (i := 28) rfl)) (by decide) (by decide)) (g := (mkF m 38 #[.val (.int q1), .val (.int q2), .val (.int q3), .val (.int q4), .val (.int q5), .val (.int q6), .val (.double (FP.l2d q1.toInt64)), .second, .val (.ref b109), .val (.ref b111), .unset, .unset, .unset, .unset, .unset, .unset, .unset, .unset, .unset, .unset, .unset, .unset, .unset, .unset, .unset, .unset, .unset, .unset, .unset, .unset, .unset, .unset, .unset] [(.long (0 : Int64)), (.long (1 : Int64)), (.long (0 : Int64)), (.ref b144), (.ref b144), (.ref b111)])) rfl (by rw [hml]; rfl) (Steps.refl _) (a := b144) (argsL := [(.long (0 : Int64)), (.long (1 : Int64)), (.long (0 : Int64))]) (rest := [(.ref b144), (.ref b111)]) (lenOf own_pd20 rfl) rfl (by show 2 * 0 + _ ≤ _; exact Nat.le_of_eq rfl) (hb hby at_38) (fun _ _ => ⟨rfl, e144, (by decide : 3 + 0 ≤ _), (by decide : 9 + 0 ≤ _)⟩)
    dsimp only [Pt.U, Pt.locs, Pt.cells, Pt.slots] at X145 l145 y145 z145 st145 hQ145
    subst l145 y145 z145
    obtain ⟨rfl, N145q, Kp145, Xp145⟩ := hQ145
    have N145 := Fr.app N112 N145q
    refine own_by (fun t k => st145.trans k) ?_
    have F145_modCount_b109 := F144_modCount_b109.keep Kp145 (ninS ne_b109_b144 nin0)
    have F145_elementData_b109 := F144_elementData_b109.keep Kp145 (ninS ne_b109_b144 nin0)
    have F145_size_b109 := F144_size_b109.keep Kp145 (ninS ne_b109_b144 nin0)
    have F145_modCount_b111 := F144_modCount_b111.keep Kp145 (ninS ne_b111_b144 nin0)
    have F145_elementData_b111 := F144_elementData_b111.keep Kp145 (ninS ne_b111_b144 nin0)
    have F145_size_b111 := F144_size_b111.keep Kp145 (ninS ne_b111_b144 nin0)
    have Ex145_b109 := Ex144_b109.keep Kp145
    have Ex145_b111 := Ex144_b111.keep Kp145
    have Ex145_b144 := A144.keep Kp145
    have Z145 := Nat.le_trans Z144 Kp145.1
    have O145 := O144.keep Kp145 (allS gn_b144 (all0))
    show own_Go p.tables e below K (T145.setTop (mkF m 41 #[.val (.int q1), .val (.int q2), .val (.int q3), .val (.int q4), .val (.int q5), .val (.int q6), .val (.double (FP.l2d q1.toInt64)), .second, .val (.ref b109), .val (.ref b111), .unset, .unset, .unset, .unset, .unset, .unset, .unset, .unset, .unset, .unset, .unset, .unset, .unset, .unset, .unset, .unset, .unset, .unset, .unset, .unset, .unset, .unset, .unset] [(.ref b144), (.ref b111)]))
    obtain ⟨cq146, kq146, q146a, q146b, q146c⟩ := isOf hZ rfl Ex145_b111
    obtain ⟨_, _, ⟨T146, L146, k146, n146⟩, -, X146, ⟨Lc146, hQ146, l146, y146, z146⟩, st146⟩ := X145.virtualBack hx (y := (⟨"java/util/ArrayList", "add", "(Ljava/lang/Object;)Z"⟩ : MethodName)) (z := (⟨"java/util/ArrayList", "add", "(Ljava/lang/Object;)Z"⟩ : MethodName)) hown (mvT hZ (hw _ (List.mem_of_getElem? (i := 44) rfl))) (mvT hZ (hw _ (List.mem_of_getElem? (i := 45) rfl))) (notFace_of_selects (args := #[]) (mvT hZ (hw _ (List.mem_of_getElem? (i := 47) rfl)))) (mvT hZ (hw _ (List.mem_of_getElem? (i := 47) rfl))) (mvT hZ (hw _ (List.mem_of_getElem? (i := 46) rfl))) (by decide) (backOf (W := 0) (own_rmadd0 l Z aw hw [] b111 b144 0 dd lz ez em mr T145.heap n0 Z145 ⟨Ex145_b111, F145_modCount_b111, F145_elementData_b111, F145_size_b111⟩ Xp145 gn_b111 O145 S0) hZ (hw _ (List.mem_of_getElem? (i := 48) rfl)) (hw _ (List.mem_of_getElem? (i := 2) rfl)) (by decide) (by decide)) q146a q146c (g := (mkF m 41 #[.val (.int q1), .val (.int q2), .val (.int q3), .val (.int q4), .val (.int q5), .val (.int q6), .val (.double (FP.l2d q1.toInt64)), .second, .val (.ref b109), .val (.ref b111), .unset, .unset, .unset, .unset, .unset, .unset, .unset, .unset, .unset, .unset, .unset, .unset, .unset, .unset, .unset, .unset, .unset, .unset, .unset, .unset, .unset, .unset, .unset] [(.ref b144), (.ref b111)])) rfl (by rw [hml]; rfl) (Steps.refl _) (argsL := [(.ref b144)]) (rest := []) (lenOf own_pd21 rfl) rfl (by show 2 * 0 + _ ≤ _; exact Nat.le_of_eq rfl) (hb hby at_41) (fun _ _ => ⟨rfl, rfl, (by decide : 3 + 1 ≤ _), (by decide : 9 + 10 ≤ _)⟩)
    dsimp only [Pt.U, Pt.locs, Pt.cells, Pt.slots] at X146 l146 y146 z146 st146 hQ146
    subst l146 y146 z146
    obtain ⟨el146, k146c, rfl, N146q, Kp146, gp146, Bp146, Ap146⟩ := hQ146
    have N146 := Fr.app N145 N146q
    refine own_by (fun t k => st146.trans k) ?_
    have F146_modCount_b109 := F145_modCount_b109.keep Kp146 (ninS ne_b109_b111 nin0)
    have F146_elementData_b109 := F145_elementData_b109.keep Kp146 (ninS ne_b109_b111 nin0)
    have F146_size_b109 := F145_size_b109.keep Kp146 (ninS ne_b109_b111 nin0)
    have Ex146_b109 := Ex145_b109.keep Kp146
    have Ex146_b111 := Ex145_b111.keep Kp146
    have Ex146_b144 := Xp145.keep Kp146
    have Z146 := Nat.le_trans Z145 Kp146.1
    have O146 := O145.keep Kp146 (allS gn_b111 (all0))
    show own_Go p.tables e below K (T146.setTop (mkF m 44 #[.val (.int q1), .val (.int q2), .val (.int q3), .val (.int q4), .val (.int q5), .val (.int q6), .val (.double (FP.l2d q1.toInt64)), .second, .val (.ref b109), .val (.ref b111), .unset, .unset, .unset, .unset, .unset, .unset, .unset, .unset, .unset, .unset, .unset, .unset, .unset, .unset, .unset, .unset, .unset, .unset, .unset, .unset, .unset, .unset, .unset] [(.int (1 : Int32))]))
    refine own_by (fun t k => XS.pop X146.here hx rfl (hb hby at_44) rfl rfl k) ?_
    exact J45 _ _ 1 b144 b109 b111 el146 _ (own_more X146 (by decide) (by decide)) N146 Z146 O146 ⟨Ex146_b109, F146_modCount_b109, F146_elementData_b109, F146_size_b109⟩ ⟨Bp146.1, Bp146.2.1, Bp146.2.2.1, Bp146.2.2.2⟩ (Or.inr ⟨rfl, _, Ap146, Ex146_b144⟩)
theorem own_len0 {Z : State} {args : Array Value} {t : Term} {a : Addr} (ev : t.eval args Z none [] Z = some (.ref a)) (hA : (Jvm.Cond.arrayOf t (.object "java/lang/Object")).value args Z none Z [] = some true) (hl : (Jvm.Cond.eq (.length t) (.int 0)).value args Z none Z [] = some true) : own_len Z Z.heap a 0 := by
  obtain ⟨cl, A⟩ := Arr.start ev hA
  cases hq : (Term.length t).eval args Z none [] Z with
  | none => simp [Cond.value, hq] at hl
  | some v =>
    obtain ⟨b, cell, e1, e2, rfl⟩ := Term.length_spec hq
    cases ev.symm.trans e1
    have e3 := (State.arrayAt?_spec e2).1
    cases A.1.symm.trans e3
    have q : cl.slots.size.toInt32 = 0 := gotT (Cond.eq_ints hq (Term.int_eval (0))) hl
    exact ⟨cl, A, q⟩
set_option maxRecDepth 65536 in
set_option maxHeartbeats 40000000 in
theorem own_comes {Post : Tables → Env → Array Value → State → Outcome → State → Prop} (hpost : ∀ tb e args s v u, (limb_1_1.after args s (.returned v) u = true ∧ limb_1_2.after args s (.returned v) u = true ∧ True) → ReturnedEndW s (.returned v) u (Jvm.fieldLocs frame_1_writes args s ++ Jvm.arrayLocs frame_1_arrays args s ++ Jvm.staticLocs frame_1_statics s) 32 2240 → Post tb e args s (.returned v) u) :
    ArmFor flags0 classFile x code maxLocals ret World_1 tables_1 room_1 Calls_1 rest_1 Pre_1 Post := by
  intro l hfl _ _ p e ha hc hk s m args below hf hA hF happ hP
  obtain ⟨hcalls, hrest, hpre⟩ := hP
  obtain ⟨-, -, -, hnamed, -, -, -, hat⟩ := (Spec.applies_iff hf).mp happ
  obtain ⟨hg, hn⟩ := and_e (Cond.before_iff.mp (show (Jvm.Cond.and given_1 narrow_1).before args s = true from hpre))
  obtain ⟨hcount, g0⟩ := and_e hg
  obtain ⟨a0, g1⟩ := and_e g0
  obtain ⟨a1, g2⟩ := and_e g1
  obtain ⟨a2, g3⟩ := and_e g2
  obtain ⟨a3, g4⟩ := and_e g3
  obtain ⟨a4, g5⟩ := and_e g4
  obtain ⟨w0, w1, w2, w3, w4, w5, rfl⟩ : ∃ w0 w1 w2 w3 w4 w5 : Value, args = #[w0, w1, w2, w3, w4, w5] := by
    have hs : args.size = 6 := by simpa [Cond.value, given_1] using hcount
    obtain ⟨L⟩ := args
    match L, hs with
    | [w0, w1, w2, w3, w4, w5], _ => exact ⟨w0, w1, w2, w3, w4, w5, rfl⟩
  have hw := fun d (hd : d ∈ tables_1) => atoms_spec (ws := Jvm.Cond.code x code maxLocals ret :: tables_1) hat d (List.mem_cons_of_mem _ hd)
  have hfit : Fit s := fun {y c} hc i hi => by
    obtain ⟨ha, rfl⟩ := Array.getElem?_eq_some_iff.mp hc
    have q := List.all_eq_true.mp ((Array.all_eq_true_iff_forall_mem.mp hF) _ (Array.getElem_mem ha)) i (List.mem_range.mpr hi)
    simpa [Array.getElem?_eq_getElem hi] using q
  obtain ⟨hsets, hown0⟩ := atoms_of _ (rest_1_c_eq ▸ (show rest_1_c.before _ s = true from hrest))
  have hr0 := Cond.before_iff.mp hown0
  obtain ⟨i0, ei0⟩ := is_v a0
  obtain rfl : w0 = (.int i0) := Option.some.inj ei0
  obtain ⟨i1, ei1⟩ := is_v a1
  obtain rfl : w1 = (.int i1) := Option.some.inj ei1
  obtain ⟨i2, ei2⟩ := is_v a2
  obtain rfl : w2 = (.int i2) := Option.some.inj ei2
  obtain ⟨i3, ei3⟩ := is_v a3
  obtain rfl : w3 = (.int i3) := Option.some.inj ei3
  obtain ⟨i4, ei4⟩ := is_v a4
  obtain rfl : w4 = (.int i4) := Option.some.inj ei4
  obtain ⟨i5, ei5⟩ := is_v g5
  obtain rfl : w5 = (.int i5) := Option.some.inj ei5
  obtain ⟨dd, evD⟩ := arr_v (Cond.before_iff.mp (hsets _ (List.mem_of_getElem? (i := 6) rfl)))
  have S_D := Sta.start evD (Or.inr ⟨(hw _ (List.mem_of_getElem? (i := 2) rfl)), (hsets _ (List.mem_of_getElem? (i := 2) rfl))⟩)
  have L_D := own_len0 evD (Cond.before_iff.mp (hsets _ (List.mem_of_getElem? (i := 6) rfl))) (Cond.before_iff.mp (hsets _ (List.mem_of_getElem? (i := 8) rfl)))
  obtain ⟨lz, evL⟩ := exa_v (Cond.before_iff.mp (hsets _ (List.mem_of_getElem? (i := 11) rfl)))
  have S_L := Sta.start evL (Or.inl (hsets _ (List.mem_of_getElem? (i := 10) rfl)))
  have E_L := Exa.start evL (Cond.before_iff.mp (hsets _ (List.mem_of_getElem? (i := 11) rfl)))
  obtain ⟨ez, evZ⟩ := arr_v (Cond.before_iff.mp (hsets _ (List.mem_of_getElem? (i := 12) rfl)))
  have F_L := Fld.start ((fld_at evL).symm.trans evZ)
  have L_Z := own_len0 evZ (Cond.before_iff.mp (hsets _ (List.mem_of_getElem? (i := 12) rfl))) (Cond.before_iff.mp (hsets _ (List.mem_of_getElem? (i := 14) rfl)))
  obtain ⟨em, evE⟩ := exa_v (Cond.before_iff.mp (hsets _ (List.mem_of_getElem? (i := 18) rfl)))
  have S_E := Sta.start evE (Or.inl (hsets _ (List.mem_of_getElem? (i := 17) rfl)))
  have E_E := Exa.start evE (Cond.before_iff.mp (hsets _ (List.mem_of_getElem? (i := 18) rfl)))
  obtain ⟨cM, kM, mr, hM1, hM2, hM3⟩ := hcalls.1
  obtain ⟨n, o, h1, h2, h3, _, L, rfl, ⟨rfl, N⟩, hq⟩ := own_rm0 l s _ hw tables_1 i0 i1 i2 i3 i4 i5 dd lz ez em mr ⟨S_D, L_D, S_L, E_L, F_L, L_Z, S_E, E_E, cM, kM, hM1, hM2, hM3.1⟩ p e ha hc hk s m _ below hf ((Spec.applies_iff_loose hf).mp happ).1 ⟨rfl, rfl⟩ trivial
  refine ⟨n, _, h1, h2, h3, hpost _ _ _ _ _ _ ⟨Cond.after_iff.mpr rfl, Cond.after_iff.mpr (eq_i res_at (Term.int_eval (1)) rfl), trivial⟩ ⟨hq.1, hq.2.1, hq.2.2.1, (hq.2.2.2.sift fun y hy => Or.inr (N y hy)).mono (by decide) (by decide)⟩⟩
theorem main_1_1 : Claimed_1_1 := own_comes fun _ _ _ _ _ _ h hF => ⟨h.1, hF⟩
theorem main_1_2 : Claimed_1_2 := own_comes fun _ _ _ _ _ _ h hF => ⟨h.2.1, hF⟩
end Jvm.Pilot.@@N@@
namespace Jvm.Pilot.@@N@@
open Jvm Jvm.ClassFile Sem Op Lib Jvm.Free Jvm.Stand Jvm.Pilot.@@N@@.Jvm.D
/-! MADE BY PROGRAM (witnessworld.py) out of the Statement's table words and the real class files: 36 classes; the members and pool entries that the words name. The judged class is class 1, her method 1. -/
namespace start1
open Jvm.ClassFile
def u (s : String) : CpInfo := .utf8 (stringToUtf16 s)
/-- a pool by its gaps: so many unusable entries, then the entry; so many at the end -/
def gap : Nat → List CpInfo → List CpInfo
  | 0, r => r
  | n + 1, r => .unusable :: gap n r
def poolList (es : List (Nat × CpInfo)) (last : Nat) : List CpInfo := es.foldr (fun e r => gap e.1 (e.2 :: r)) (gap last [])
def pool (es : List (Nat × CpInfo)) (last : Nat) : Array CpInfo := ⟨poolList es last⟩
def fileOf (pool : Array CpInfo) (this : Nat) (attrs : Array Attribute := #[]) (ms : Array MethodInfo := #[]) (fl : Nat := 33) (sup : Nat := 0) (ifs : Array Nat := #[]) (fds : Array FieldInfo := #[]) : ClassFile where
  minorVersion := 0
  majorVersion := 65
  constantPool := pool
  accessFlags := fl
  thisClass := this
  superClass := sup
  interfaces := ifs
  fields := fds
  methods := ms
  attributes := attrs
def plain (name : String) (sup : Option ClassId) : Class where
  name := name
  kind := .ordinary
  loader := none
  accessFlags := 33
  super := sup
  interfaces := #[]
  cf := none
  fields := #[]
  methods := #[]
  instanceTypes := #[]
  staticTypes := #[]
  resolved := #[]
  callSites := []
  init := .initialized
  statics := none
  mirror := none

def pool0 : Array CpInfo := pool [(5, u "<init>"), (0, u "()V"), (1, .class_ 10), (1, u "java/lang/Object"), (0, u "getClass"), (0, u "()Ljava/lang/Class;")] 111

def k0c0 : Code := { maxStack := 0, maxLocals := 1, code := object_method_1_code, exceptionTable := #[], attributes := #[] }
def k0m0 : Method := { name := "<init>", desc := "()V", sig := { parameters := [], returnType := none }, accessFlags := 1, code := some k0c0 }
def k0m1 : Method := { name := "getClass", desc := "()Ljava/lang/Class;", sig := { parameters := [], returnType := some (.object "java/lang/Class") }, accessFlags := 273, code := none }
/-- java/lang/Object -/
def k0 : Class := { plain "java/lang/Object" none with
  accessFlags := 33
  interfaces := #[]
  cf := some (fileOf pool0 8 #[] #[{ accessFlags := 1, nameIndex := 5, descriptorIndex := 6, attributes := #[] }, { accessFlags := 273, nameIndex := 11, descriptorIndex := 12, attributes := #[] }] 33 0 #[] #[])
  fields := #[]
  methods := #[k0m0, k0m1]
  instanceTypes := #[]
  staticTypes := #[]
  resolved := Array.replicate 124 none
  statics := none }

def pool1 : Array CpInfo := pool [(2, .class_ 4), (0, .nameAndType 5 6), (0, u "java/lang/Object"), (0, u "<init>"), (0, u "()V"), (0, .class_ 8), (0, u "java/util/ArrayList"), (0, .methodref 7 3), (0, .class_ 11), (0, u "com/example/skyroster/skyroster/UsedWindow"), (0, .methodref 10 13), (0, .nameAndType 5 14), (0, u "(JJJ)V"), (0, .methodref 7 16), (0, .nameAndType 17 18), (0, u "add"), (0, u "(Ljava/lang/Object;)Z"), (0, .class_ 20), (0, u "com/example/skyroster/skyroster/Satellite"), (0, .string 22), (0, u "s"), (0, .string 24), (0, u "n"), (0, .methodref 19 26), (0, .nameAndType 5 27), (0, u "(Ljava/lang/String;Ljava/lang/String;Ljava/util/List;DJJJLjava/util/List;)V"), (0, .class_ 29), (0, u "com/example/skyroster/skyroster/CostShare"), (0, .methodref 28 31), (0, .nameAndType 5 32), (0, u "(Lcom/example/skyroster/skyroster/Satellite;)V"), (0, .methodref 28 34), (0, .nameAndType 35 36), (0, u "give"), (0, u "(D)V"), (0, .fieldref 28 38), (0, .nameAndType 39 40), (0, u "taskCount"), (0, u "I"), (0, .fieldref 28 42), (0, .nameAndType 43 40), (0, u "usedCount"), (0, .fieldref 28 45), (0, .nameAndType 46 47), (0, u "taskCostSum"), (0, u "D"), (0, .fieldref 28 49), (0, .nameAndType 50 47), (0, u "cost"), (0, .methodref 28 52), (0, .nameAndType 53 54), (0, u "windowCount"), (0, u "()I"), (0, .methodref 28 56), (0, .nameAndType 57 58), (0, u "increase"), (0, u "(D)D"), (0, .methodref 28 60), (0, .nameAndType 61 62), (0, u "takeBack"), (0, u "(DD)V"), (0, .fieldref 28 64), (0, .nameAndType 65 47), (0, u "coefficient"), (0, .class_ 67), (0, u "com/example/skyroster/skyroster/CostShareTakeBackPinLaw"), (2, u "law"), (0, u "(IIIIII)Z")] 3

def k1m0 : Method := { name := "<init>", desc := "()V", sig := { parameters := [], returnType := none }, accessFlags := 1, code := none }
def k1c1 : Code := { maxStack := 14, maxLocals := 33, code := code, exceptionTable := #[], attributes := #[] }
def k1m1 : Method := { name := "law", desc := "(IIIIII)Z", sig := { parameters := [.int, .int, .int, .int, .int, .int], returnType := some .boolean }, accessFlags := 9, code := some k1c1 }
/-- com/example/skyroster/skyroster/CostShareTakeBackPinLaw -/
def k1 : Class := { plain "com/example/skyroster/skyroster/CostShareTakeBackPinLaw" (some 0) with
  accessFlags := 49
  interfaces := #[]
  cf := some (fileOf pool1 66 #[] #[{ accessFlags := 1, nameIndex := 5, descriptorIndex := 6, attributes := #[] }, { accessFlags := 9, nameIndex := 70, descriptorIndex := 71, attributes := #[] }] 49 2 #[] #[])
  fields := #[]
  methods := #[k1m0, k1m1]
  instanceTypes := #[]
  staticTypes := #[]
  resolved := Array.replicate 75 none
  statics := none }

def pool2 : Array CpInfo := pool [(8, .class_ 10), (1, u "java/lang/Iterable"), (24, .class_ 36), (0, u "java/lang/Object")] 25

/-- java/lang/Iterable -/
def k2 : Class := { plain "java/lang/Iterable" (some 0) with
  accessFlags := 1537
  interfaces := #[]
  cf := some (fileOf pool2 8 #[] #[] 1537 35 #[] #[])
  fields := #[]
  methods := #[]
  instanceTypes := #[]
  staticTypes := #[]
  resolved := Array.replicate 62 none
  statics := none }

def pool3 : Array CpInfo := pool [(10, .class_ 12), (1, u "java/util/Collection"), (0, u "toArray"), (16, u "()Z"), (29, .class_ 61), (0, u "java/lang/Object"), (0, .class_ 63), (0, u "java/lang/Iterable"), (2, u "isEmpty"), (3, u "()[Ljava/lang/Object;")] 44

def k3m0 : Method := { name := "isEmpty", desc := "()Z", sig := { parameters := [], returnType := some .boolean }, accessFlags := 1025, code := none }
def k3m1 : Method := { name := "toArray", desc := "()[Ljava/lang/Object;", sig := { parameters := [], returnType := some (.array (.object "java/lang/Object")) }, accessFlags := 1025, code := none }
/-- java/util/Collection -/
def k3 : Class := { plain "java/util/Collection" (some 0) with
  accessFlags := 1537
  interfaces := #[2]
  cf := some (fileOf pool3 10 #[] #[{ accessFlags := 1025, nameIndex := 66, descriptorIndex := 30, attributes := #[] }, { accessFlags := 1025, nameIndex := 13, descriptorIndex := 70, attributes := #[] }] 1537 60 #[62] #[])
  fields := #[]
  methods := #[k3m0, k3m1]
  instanceTypes := #[]
  staticTypes := #[]
  resolved := Array.replicate 115 none
  statics := none }

def pool4 : Array CpInfo := pool [(1, .methodref 2 3), (0, .class_ 4), (0, .nameAndType 5 6), (0, u "java/lang/Object"), (0, u "<init>"), (0, u "()V"), (1, .class_ 10), (1, u "java/util/AbstractCollection"), (66, .class_ 78), (0, u "java/util/Collection")] 81

def k4c0 : Code := { maxStack := 1, maxLocals := 1, code := jdk_22_method_1_code, exceptionTable := #[], attributes := #[] }
def k4m0 : Method := { name := "<init>", desc := "()V", sig := { parameters := [], returnType := none }, accessFlags := 4, code := some k4c0 }
/-- java/util/AbstractCollection -/
def k4 : Class := { plain "java/util/AbstractCollection" (some 0) with
  accessFlags := 1057
  interfaces := #[3]
  cf := some (fileOf pool4 8 #[] #[{ accessFlags := 4, nameIndex := 5, descriptorIndex := 6, attributes := #[] }] 1057 2 #[77] #[])
  fields := #[]
  methods := #[k4m0]
  instanceTypes := #[]
  staticTypes := #[]
  resolved := Array.replicate 160 none
  statics := none }

def pool5 : Array CpInfo := pool [(8, .class_ 10), (1, u "java/util/SequencedCollection"), (15, .class_ 27), (0, u "java/lang/Object"), (0, .class_ 29), (0, u "java/util/Collection")] 27

/-- java/util/SequencedCollection -/
def k5 : Class := { plain "java/util/SequencedCollection" (some 0) with
  accessFlags := 1537
  interfaces := #[3]
  cf := some (fileOf pool5 8 #[] #[] 1537 26 #[28] #[])
  fields := #[]
  methods := #[]
  instanceTypes := #[]
  staticTypes := #[]
  resolved := Array.replicate 57 none
  statics := none }

def pool6 : Array CpInfo := pool [(8, .class_ 10), (1, u "java/util/List"), (20, u "(Ljava/lang/Object;)V"), (16, u "<init>"), (30, u "size"), (0, u "()I"), (7, u "of"), (1, .fieldref 91 92), (0, .class_ 93), (0, .nameAndType 94 95), (0, u "java/util/ImmutableCollections"), (0, u "EMPTY_LIST"), (0, u "Ljava/util/ImmutableCollections$ListN;"), (0, .class_ 97), (0, u "java/util/ImmutableCollections$List12"), (0, .methodref 96 99), (0, .nameAndType 48 31), (3, .class_ 104), (0, u "java/lang/Object"), (3, u "([Ljava/lang/Object;)Ljava/util/List;"), (3, .methodref 91 113), (0, .nameAndType 114 115), (0, u "listCopy"), (0, u "(Ljava/util/Collection;)Ljava/util/List;"), (3, u "()Ljava/util/List;"), (0, .class_ 121), (0, u "java/util/SequencedCollection"), (112, u "copyOf")] 16

def k6m0 : Method := { name := "size", desc := "()I", sig := { parameters := [], returnType := some .int }, accessFlags := 1025, code := none }
def k6c1 : Code := { maxStack := 1, maxLocals := 0, code := jdk_40_method_36_code, exceptionTable := #[], attributes := #[] }
def k6m1 : Method := { name := "of", desc := "()Ljava/util/List;", sig := { parameters := [], returnType := some (.object "java/util/List") }, accessFlags := 9, code := some k6c1 }
def k6c2 : Code := { maxStack := 5, maxLocals := 2, code := jdk_40_method_47_code, exceptionTable := #[], attributes := #[] }
def k6m2 : Method := { name := "of", desc := "([Ljava/lang/Object;)Ljava/util/List;", sig := { parameters := [(.array (.object "java/lang/Object"))], returnType := some (.object "java/util/List") }, accessFlags := 137, code := some k6c2 }
def k6c3 : Code := { maxStack := 1, maxLocals := 1, code := jdk_40_method_48_code, exceptionTable := #[], attributes := #[] }
def k6m3 : Method := { name := "copyOf", desc := "(Ljava/util/Collection;)Ljava/util/List;", sig := { parameters := [(.object "java/util/Collection")], returnType := some (.object "java/util/List") }, accessFlags := 9, code := some k6c3 }
/-- java/util/List -/
def k6 : Class := { plain "java/util/List" (some 0) with
  accessFlags := 1537
  interfaces := #[5]
  cf := some (fileOf pool6 8 #[] #[{ accessFlags := 1025, nameIndex := 79, descriptorIndex := 80, attributes := #[] }, { accessFlags := 9, nameIndex := 88, descriptorIndex := 119, attributes := #[] }, { accessFlags := 137, nameIndex := 88, descriptorIndex := 108, attributes := #[] }, { accessFlags := 9, nameIndex := 234, descriptorIndex := 115, attributes := #[] }] 1537 103 #[120] #[])
  fields := #[]
  methods := #[k6m0, k6m1, k6m2, k6m3]
  instanceTypes := #[]
  staticTypes := #[]
  resolved := Array.replicate 251 none
  statics := none }

def pool7 : Array CpInfo := pool [(1, .methodref 2 3), (0, .class_ 4), (0, .nameAndType 5 6), (0, u "java/util/AbstractCollection"), (0, u "<init>"), (0, u "()V"), (0, .fieldref 8 9), (0, .class_ 10), (0, .nameAndType 11 12), (0, u "java/util/AbstractList"), (0, u "modCount"), (0, u "I"), (64, .class_ 78), (0, u "java/util/AbstractList$Itr"), (3, .class_ 83), (0, u "java/util/AbstractList$ListItr"), (9, .class_ 94), (0, u "java/util/AbstractList$RandomAccessSubList"), (3, .class_ 99), (0, u "java/util/AbstractList$SubList"), (33, .class_ 134), (0, u "java/util/List"), (73, .class_ 209), (0, u "java/util/AbstractList$SubList$1"), (0, .class_ 211), (0, u "java/util/AbstractList$RandomAccessSpliterator")] 6

def k7c0 : Code := { maxStack := 2, maxLocals := 1, code := jdk_39_method_1_code, exceptionTable := #[], attributes := #[] }
def k7m0 : Method := { name := "<init>", desc := "()V", sig := { parameters := [], returnType := none }, accessFlags := 4, code := some k7c0 }
/-- java/util/AbstractList -/
def k7 : Class := { plain "java/util/AbstractList" (some 4) with
  accessFlags := 1057
  interfaces := #[6]
  cf := some (fileOf pool7 8 #[.nestMembers #[93, 98, 208, 210, 82, 77]] #[{ accessFlags := 4, nameIndex := 5, descriptorIndex := 6, attributes := #[] }] 1057 2 #[133] #[{ accessFlags := 132, nameIndex := 11, descriptorIndex := 12, attributes := #[] }])
  fields := #[{ name := "modCount", type := .int, accessFlags := 132, slot := 0, constantValue := 0 }]
  methods := #[k7m0]
  instanceTypes := #[.int]
  staticTypes := #[]
  resolved := Array.replicate 218 none
  statics := none }

def pool8 : Array CpInfo := pool [(1, .class_ 2), (0, u "java/util/RandomAccess"), (0, .class_ 4), (0, u "java/lang/Object")] 2

/-- java/util/RandomAccess -/
def k8 : Class := { plain "java/util/RandomAccess" (some 0) with
  accessFlags := 1537
  interfaces := #[]
  cf := some (fileOf pool8 1 #[] #[] 1537 3 #[] #[])
  fields := #[]
  methods := #[]
  instanceTypes := #[]
  staticTypes := #[]
  resolved := Array.replicate 7 none
  statics := none }

def pool9 : Array CpInfo := pool [(1, .class_ 2), (0, u "java/lang/Cloneable"), (0, .class_ 4), (0, u "java/lang/Object")] 2

/-- java/lang/Cloneable -/
def k9 : Class := { plain "java/lang/Cloneable" (some 0) with
  accessFlags := 1537
  interfaces := #[]
  cf := some (fileOf pool9 1 #[] #[] 1537 3 #[] #[])
  fields := #[]
  methods := #[]
  instanceTypes := #[]
  staticTypes := #[]
  resolved := Array.replicate 7 none
  statics := none }

def pool10 : Array CpInfo := pool [(1, .class_ 2), (0, u "java/io/Serializable"), (0, .class_ 4), (0, u "java/lang/Object")] 2

/-- java/io/Serializable -/
def k10 : Class := { plain "java/io/Serializable" (some 0) with
  accessFlags := 1537
  interfaces := #[]
  cf := some (fileOf pool10 1 #[] #[] 1537 3 #[] #[])
  fields := #[]
  methods := #[]
  instanceTypes := #[]
  staticTypes := #[]
  resolved := Array.replicate 7 none
  statics := none }

def pool11 : Array CpInfo := pool [(1, .methodref 2 3), (0, .class_ 4), (0, .nameAndType 5 6), (0, u "java/util/AbstractList"), (0, u "<init>"), (0, u "()V"), (0, .class_ 8), (0, u "java/lang/Object"), (0, .fieldref 10 11), (0, .class_ 12), (0, .nameAndType 13 14), (0, u "java/util/ArrayList"), (0, u "elementData"), (0, u "[Ljava/lang/Object;"), (2, u "EMPTY_ELEMENTDATA"), (21, .fieldref 10 40), (0, .nameAndType 41 14), (0, u "DEFAULTCAPACITY_EMPTY_ELEMENTDATA"), (4, u "toArray"), (0, u "()[Ljava/lang/Object;"), (0, .fieldref 10 49), (0, .nameAndType 50 51), (0, u "size"), (0, u "I"), (6, .class_ 60), (1, u "java/util/Arrays"), (0, u "copyOf"), (1, .fieldref 10 64), (0, .nameAndType 65 51), (0, u "modCount"), (0, .methodref 58 67), (0, .nameAndType 61 68), (0, u "([Ljava/lang/Object;I)[Ljava/lang/Object;"), (0, .methodref 10 70), (0, .nameAndType 71 72), (0, u "grow"), (0, u "(I)[Ljava/lang/Object;"), (6, .methodref 80 81), (0, .class_ 82), (0, .nameAndType 83 84), (0, u "java/lang/Math"), (0, u "max"), (0, u "(II)I"), (11, u "(Ljava/lang/Object;)Z"), (32, .methodref 10 130), (0, .nameAndType 71 47), (0, .methodref 10 132), (0, .nameAndType 133 134), (0, u "add"), (0, u "(Ljava/lang/Object;[Ljava/lang/Object;I)V"), (13, .class_ 149), (0, u "java/util/List"), (23, u "()Z"), (88, .class_ 263), (0, u "java/util/ArrayList$ListItr"), (3, .class_ 268), (0, u "java/util/ArrayList$Itr"), (7, .class_ 277), (0, u "java/util/ArrayList$SubList"), (12, .class_ 291), (0, u "java/util/ArrayList$ArrayListSpliterator"), (37, .class_ 330), (0, u "java/util/RandomAccess"), (0, .class_ 332), (0, u "java/lang/Cloneable"), (0, .class_ 334), (0, u "java/io/Serializable"), (0, u "serialVersionUID"), (0, u "J"), (3, u "DEFAULT_CAPACITY"), (22, u "isEmpty"), (136, .class_ 501), (0, u "java/util/ArrayList$SubList$2"), (0, .class_ 503), (0, u "java/util/ArrayList$SubList$1")] 5

def k11c0 : Code := { maxStack := 2, maxLocals := 1, code := jdk_38_method_2_code, exceptionTable := #[], attributes := #[] }
def k11m0 : Method := { name := "<init>", desc := "()V", sig := { parameters := [], returnType := none }, accessFlags := 1, code := some k11c0 }
def k11c1 : Code := { maxStack := 4, maxLocals := 4, code := jdk_38_method_6_code, exceptionTable := #[], attributes := #[] }
def k11m1 : Method := { name := "grow", desc := "(I)[Ljava/lang/Object;", sig := { parameters := [.int], returnType := some (.array (.object "java/lang/Object")) }, accessFlags := 2, code := some k11c1 }
def k11c2 : Code := { maxStack := 3, maxLocals := 1, code := jdk_38_method_7_code, exceptionTable := #[], attributes := #[] }
def k11m2 : Method := { name := "grow", desc := "()[Ljava/lang/Object;", sig := { parameters := [], returnType := some (.array (.object "java/lang/Object")) }, accessFlags := 2, code := some k11c2 }
def k11c3 : Code := { maxStack := 1, maxLocals := 1, code := jdk_38_method_9_code, exceptionTable := #[], attributes := #[] }
def k11m3 : Method := { name := "isEmpty", desc := "()Z", sig := { parameters := [], returnType := some .boolean }, accessFlags := 1, code := some k11c3 }
def k11c4 : Code := { maxStack := 2, maxLocals := 1, code := jdk_38_method_16_code, exceptionTable := #[], attributes := #[] }
def k11m4 : Method := { name := "toArray", desc := "()[Ljava/lang/Object;", sig := { parameters := [], returnType := some (.array (.object "java/lang/Object")) }, accessFlags := 1, code := some k11c4 }
def k11c5 : Code := { maxStack := 3, maxLocals := 4, code := jdk_38_method_24_code, exceptionTable := #[], attributes := #[] }
def k11m5 : Method := { name := "add", desc := "(Ljava/lang/Object;[Ljava/lang/Object;I)V", sig := { parameters := [(.object "java/lang/Object"), (.array (.object "java/lang/Object")), .int], returnType := none }, accessFlags := 2, code := some k11c5 }
def k11c6 : Code := { maxStack := 4, maxLocals := 2, code := jdk_38_method_25_code, exceptionTable := #[], attributes := #[] }
def k11m6 : Method := { name := "add", desc := "(Ljava/lang/Object;)Z", sig := { parameters := [(.object "java/lang/Object")], returnType := some .boolean }, accessFlags := 1, code := some k11c6 }
/-- java/util/ArrayList -/
def k11 : Class := { plain "java/util/ArrayList" (some 7) with
  accessFlags := 33
  interfaces := #[6, 8, 9, 10]
  cf := some (fileOf pool11 10 #[.nestMembers #[290, 276, 500, 502, 262, 267]] #[{ accessFlags := 1, nameIndex := 5, descriptorIndex := 6, attributes := #[] }, { accessFlags := 2, nameIndex := 71, descriptorIndex := 72, attributes := #[] }, { accessFlags := 2, nameIndex := 71, descriptorIndex := 47, attributes := #[] }, { accessFlags := 1, nameIndex := 363, descriptorIndex := 173, attributes := #[] }, { accessFlags := 1, nameIndex := 46, descriptorIndex := 47, attributes := #[] }, { accessFlags := 2, nameIndex := 133, descriptorIndex := 134, attributes := #[] }, { accessFlags := 1, nameIndex := 133, descriptorIndex := 96, attributes := #[] }] 33 2 #[148, 329, 331, 333] #[{ accessFlags := 26, nameIndex := 335, descriptorIndex := 336, attributes := #[] }, { accessFlags := 26, nameIndex := 340, descriptorIndex := 51, attributes := #[] }, { accessFlags := 26, nameIndex := 17, descriptorIndex := 14, attributes := #[] }, { accessFlags := 26, nameIndex := 41, descriptorIndex := 14, attributes := #[] }, { accessFlags := 128, nameIndex := 13, descriptorIndex := 14, attributes := #[] }, { accessFlags := 2, nameIndex := 50, descriptorIndex := 51, attributes := #[] }])
  fields := #[{ name := "serialVersionUID", type := .long, accessFlags := 26, slot := 0, constantValue := 0 }, { name := "DEFAULT_CAPACITY", type := .int, accessFlags := 26, slot := 1, constantValue := 0 }, { name := "EMPTY_ELEMENTDATA", type := (.array (.object "java/lang/Object")), accessFlags := 26, slot := 2, constantValue := 0 }, { name := "DEFAULTCAPACITY_EMPTY_ELEMENTDATA", type := (.array (.object "java/lang/Object")), accessFlags := 26, slot := 3, constantValue := 0 }, { name := "elementData", type := (.array (.object "java/lang/Object")), accessFlags := 128, slot := 1, constantValue := 0 }, { name := "size", type := .int, accessFlags := 2, slot := 2, constantValue := 0 }]
  methods := #[k11m0, k11m1, k11m2, k11m3, k11m4, k11m5, k11m6]
  instanceTypes := #[.int, (.array (.object "java/lang/Object")), .int]
  staticTypes := #[.long, .int, (.array (.object "java/lang/Object")), (.array (.object "java/lang/Object"))]
  resolved := Array.replicate 509 none
  statics := some 0 }

def pool12 : Array CpInfo := pool [(1, .methodref 2 3), (0, .class_ 4), (0, .nameAndType 5 6), (0, u "java/lang/Object"), (0, u "<init>"), (0, u "()V"), (0, .class_ 8), (0, u "java/lang/Record")] 13

def k12c0 : Code := { maxStack := 1, maxLocals := 1, code := jdk_30_method_1_code, exceptionTable := #[], attributes := #[] }
def k12m0 : Method := { name := "<init>", desc := "()V", sig := { parameters := [], returnType := none }, accessFlags := 4, code := some k12c0 }
/-- java/lang/Record -/
def k12 : Class := { plain "java/lang/Record" (some 0) with
  accessFlags := 1057
  interfaces := #[]
  cf := some (fileOf pool12 7 #[] #[{ accessFlags := 4, nameIndex := 5, descriptorIndex := 6, attributes := #[] }] 1057 2 #[] #[])
  fields := #[]
  methods := #[k12m0]
  instanceTypes := #[]
  staticTypes := #[]
  resolved := Array.replicate 22 none
  statics := none }

def pool13 : Array CpInfo := pool [(1, .methodref 2 3), (0, .class_ 4), (0, .nameAndType 5 6), (0, u "java/lang/Record"), (0, u "<init>"), (0, u "()V"), (0, .fieldref 8 9), (0, .class_ 10), (0, .nameAndType 11 12), (0, u "com/example/skyroster/skyroster/UsedWindow"), (0, u "startS"), (0, u "J"), (0, .fieldref 8 14), (0, .nameAndType 15 12), (0, u "endS"), (0, .fieldref 8 17), (0, .nameAndType 18 12), (0, u "orbit"), (12, u "(JJJ)V")] 29

def k13c0 : Code := { maxStack := 3, maxLocals := 7, code := prog_24_method_1_code, exceptionTable := #[], attributes := #[] }
def k13m0 : Method := { name := "<init>", desc := "(JJJ)V", sig := { parameters := [.long, .long, .long], returnType := none }, accessFlags := 1, code := some k13c0 }
/-- com/example/skyroster/skyroster/UsedWindow -/
def k13 : Class := { plain "com/example/skyroster/skyroster/UsedWindow" (some 12) with
  accessFlags := 49
  interfaces := #[]
  cf := some (fileOf pool13 8 #[] #[{ accessFlags := 1, nameIndex := 5, descriptorIndex := 31, attributes := #[] }] 49 2 #[] #[{ accessFlags := 18, nameIndex := 11, descriptorIndex := 12, attributes := #[] }, { accessFlags := 18, nameIndex := 15, descriptorIndex := 12, attributes := #[] }, { accessFlags := 18, nameIndex := 18, descriptorIndex := 12, attributes := #[] }])
  fields := #[{ name := "startS", type := .long, accessFlags := 18, slot := 0, constantValue := 0 }, { name := "endS", type := .long, accessFlags := 18, slot := 1, constantValue := 0 }, { name := "orbit", type := .long, accessFlags := 18, slot := 2, constantValue := 0 }]
  methods := #[k13m0]
  instanceTypes := #[.long, .long, .long]
  staticTypes := #[]
  resolved := Array.replicate 61 none
  statics := none }

def pool14 : Array CpInfo := pool [(1, .class_ 2), (0, u "java/lang/Math"), (1, .class_ 6), (1, u "java/lang/Object"), (0, u "<init>"), (0, u "()V"), (89, .class_ 100), (1, u "java/lang/Math$RandomNumberGeneratorHolder"), (71, u "negativeZeroFloatBits"), (0, u "J"), (2, u "negativeZeroDoubleBits"), (21, u "max"), (2, u "min"), (43, u "$assertionsDisabled"), (0, u "Z"), (88, u "(II)I"), (2, u "twoToTheDoubleScaleDown"), (0, u "D"), (4, u "twoToTheDoubleScaleUp"), (9, u "E"), (3, u "PI"), (2, u "TAU"), (2, u "DEGREES_TO_RADIANS"), (0, u "RADIANS_TO_DEGREES")] 94

def k14m0 : Method := { name := "<init>", desc := "()V", sig := { parameters := [], returnType := none }, accessFlags := 2, code := none }
def k14c1 : Code := { maxStack := 2, maxLocals := 2, code := jdk_29_method_65_code, exceptionTable := #[], attributes := #[] }
def k14m1 : Method := { name := "max", desc := "(II)I", sig := { parameters := [.int, .int], returnType := some .int }, accessFlags := 9, code := some k14c1 }
def k14c2 : Code := { maxStack := 2, maxLocals := 2, code := jdk_29_method_69_code, exceptionTable := #[], attributes := #[] }
def k14m2 : Method := { name := "min", desc := "(II)I", sig := { parameters := [.int, .int], returnType := some .int }, accessFlags := 9, code := some k14c2 }
/-- java/lang/Math -/
def k14 : Class := { plain "java/lang/Math" (some 0) with
  accessFlags := 49
  interfaces := #[]
  cf := some (fileOf pool14 1 #[.nestMembers #[98]] #[{ accessFlags := 2, nameIndex := 7, descriptorIndex := 8, attributes := #[] }, { accessFlags := 9, nameIndex := 198, descriptorIndex := 335, attributes := #[] }, { accessFlags := 9, nameIndex := 201, descriptorIndex := 335, attributes := #[] }] 49 4 #[] #[{ accessFlags := 25, nameIndex := 354, descriptorIndex := 339, attributes := #[] }, { accessFlags := 25, nameIndex := 358, descriptorIndex := 339, attributes := #[] }, { accessFlags := 25, nameIndex := 361, descriptorIndex := 339, attributes := #[] }, { accessFlags := 26, nameIndex := 364, descriptorIndex := 339, attributes := #[] }, { accessFlags := 26, nameIndex := 365, descriptorIndex := 339, attributes := #[] }, { accessFlags := 26, nameIndex := 172, descriptorIndex := 173, attributes := #[] }, { accessFlags := 26, nameIndex := 176, descriptorIndex := 173, attributes := #[] }, { accessFlags := 8, nameIndex := 344, descriptorIndex := 339, attributes := #[] }, { accessFlags := 8, nameIndex := 338, descriptorIndex := 339, attributes := #[] }, { accessFlags := 4120, nameIndex := 245, descriptorIndex := 246, attributes := #[] }])
  fields := #[{ name := "E", type := .double, accessFlags := 25, slot := 0, constantValue := 0 }, { name := "PI", type := .double, accessFlags := 25, slot := 1, constantValue := 0 }, { name := "TAU", type := .double, accessFlags := 25, slot := 2, constantValue := 0 }, { name := "DEGREES_TO_RADIANS", type := .double, accessFlags := 26, slot := 3, constantValue := 0 }, { name := "RADIANS_TO_DEGREES", type := .double, accessFlags := 26, slot := 4, constantValue := 0 }, { name := "negativeZeroFloatBits", type := .long, accessFlags := 26, slot := 5, constantValue := 0 }, { name := "negativeZeroDoubleBits", type := .long, accessFlags := 26, slot := 6, constantValue := 0 }, { name := "twoToTheDoubleScaleUp", type := .double, accessFlags := 8, slot := 7, constantValue := 0 }, { name := "twoToTheDoubleScaleDown", type := .double, accessFlags := 8, slot := 8, constantValue := 0 }, { name := "$assertionsDisabled", type := .boolean, accessFlags := 4120, slot := 9, constantValue := 0 }]
  methods := #[k14m0, k14m1, k14m2]
  instanceTypes := #[]
  staticTypes := #[.double, .double, .double, .double, .double, .long, .long, .double, .double, .boolean]
  resolved := Array.replicate 460 none
  statics := none }

def pool15 : Array CpInfo := pool [(1, .methodref 2 3), (0, .class_ 4), (0, .nameAndType 5 6), (0, u "java/lang/Record"), (0, u "<init>"), (0, u "()V"), (0, .interfaceMethodref 8 9), (0, .class_ 10), (0, .nameAndType 11 12), (0, u "java/util/List"), (0, u "copyOf"), (0, u "(Ljava/util/Collection;)Ljava/util/List;"), (0, .fieldref 14 15), (0, .class_ 16), (0, .nameAndType 17 18), (0, u "com/example/skyroster/skyroster/Satellite"), (0, u "id"), (0, u "Ljava/lang/String;"), (0, .fieldref 14 20), (0, .nameAndType 21 18), (0, u "name"), (0, .fieldref 14 23), (0, .nameAndType 24 25), (0, u "payloads"), (0, u "Ljava/util/List;"), (0, .fieldref 14 27), (0, .nameAndType 28 29), (0, u "costCoefficient"), (0, u "D"), (0, .fieldref 14 31), (0, .nameAndType 32 33), (0, u "minGapS"), (0, u "J"), (0, .fieldref 14 35), (0, .nameAndType 36 33), (0, u "maxOrbitS"), (0, .fieldref 14 38), (0, .nameAndType 39 33), (0, u "maxDayS"), (0, .fieldref 14 41), (0, .nameAndType 42 25), (0, u "usedWindows"), (15, u "(Ljava/lang/String;Ljava/lang/String;Ljava/util/List;DJJJLjava/util/List;)V"), (7, u "()Ljava/util/List;"), (1, u "()D")] 29

def k15c0 : Code := { maxStack := 3, maxLocals := 13, code := prog_15_method_1_code, exceptionTable := #[], attributes := #[] }
def k15m0 : Method := { name := "<init>", desc := "(Ljava/lang/String;Ljava/lang/String;Ljava/util/List;DJJJLjava/util/List;)V", sig := { parameters := [(.object "java/lang/String"), (.object "java/lang/String"), (.object "java/util/List"), .double, .long, .long, .long, (.object "java/util/List")], returnType := none }, accessFlags := 1, code := some k15c0 }
def k15c1 : Code := { maxStack := 2, maxLocals := 1, code := prog_15_method_8_code, exceptionTable := #[], attributes := #[] }
def k15m1 : Method := { name := "costCoefficient", desc := "()D", sig := { parameters := [], returnType := some .double }, accessFlags := 1, code := some k15c1 }
def k15c2 : Code := { maxStack := 1, maxLocals := 1, code := prog_15_method_12_code, exceptionTable := #[], attributes := #[] }
def k15m2 : Method := { name := "usedWindows", desc := "()Ljava/util/List;", sig := { parameters := [], returnType := some (.object "java/util/List") }, accessFlags := 1, code := some k15c2 }
/-- com/example/skyroster/skyroster/Satellite -/
def k15 : Class := { plain "com/example/skyroster/skyroster/Satellite" (some 12) with
  accessFlags := 49
  interfaces := #[]
  cf := some (fileOf pool15 14 #[] #[{ accessFlags := 1, nameIndex := 5, descriptorIndex := 58, attributes := #[] }, { accessFlags := 1, nameIndex := 28, descriptorIndex := 68, attributes := #[] }, { accessFlags := 1, nameIndex := 42, descriptorIndex := 66, attributes := #[] }] 49 2 #[] #[{ accessFlags := 18, nameIndex := 17, descriptorIndex := 18, attributes := #[] }, { accessFlags := 18, nameIndex := 21, descriptorIndex := 18, attributes := #[] }, { accessFlags := 18, nameIndex := 24, descriptorIndex := 25, attributes := #[] }, { accessFlags := 18, nameIndex := 28, descriptorIndex := 29, attributes := #[] }, { accessFlags := 18, nameIndex := 32, descriptorIndex := 33, attributes := #[] }, { accessFlags := 18, nameIndex := 36, descriptorIndex := 33, attributes := #[] }, { accessFlags := 18, nameIndex := 39, descriptorIndex := 33, attributes := #[] }, { accessFlags := 18, nameIndex := 42, descriptorIndex := 25, attributes := #[] }])
  fields := #[{ name := "id", type := (.object "java/lang/String"), accessFlags := 18, slot := 0, constantValue := 0 }, { name := "name", type := (.object "java/lang/String"), accessFlags := 18, slot := 1, constantValue := 0 }, { name := "payloads", type := (.object "java/util/List"), accessFlags := 18, slot := 2, constantValue := 0 }, { name := "costCoefficient", type := .double, accessFlags := 18, slot := 3, constantValue := 0 }, { name := "minGapS", type := .long, accessFlags := 18, slot := 4, constantValue := 0 }, { name := "maxOrbitS", type := .long, accessFlags := 18, slot := 5, constantValue := 0 }, { name := "maxDayS", type := .long, accessFlags := 18, slot := 6, constantValue := 0 }, { name := "usedWindows", type := (.object "java/util/List"), accessFlags := 18, slot := 7, constantValue := 0 }]
  methods := #[k15m0, k15m1, k15m2]
  instanceTypes := #[(.object "java/lang/String"), (.object "java/lang/String"), (.object "java/util/List"), .double, .long, .long, .long, (.object "java/util/List")]
  staticTypes := #[]
  resolved := Array.replicate 98 none
  statics := none }

def pool16 : Array CpInfo := pool [(1, .class_ 2), (0, u "java/lang/Comparable"), (0, .class_ 4), (0, u "java/lang/Object")] 7

/-- java/lang/Comparable -/
def k16 : Class := { plain "java/lang/Comparable" (some 0) with
  accessFlags := 1537
  interfaces := #[]
  cf := some (fileOf pool16 1 #[] #[] 1537 3 #[] #[])
  fields := #[]
  methods := #[]
  instanceTypes := #[]
  staticTypes := #[]
  resolved := Array.replicate 12 none
  statics := none }

def pool17 : Array CpInfo := pool [(2, .class_ 4), (1, u "java/lang/CharSequence"), (42, .class_ 48), (0, u "java/lang/CharSequence$1CodePointIterator"), (10, .class_ 60), (0, u "java/lang/CharSequence$1CharIterator"), (5, .class_ 67), (0, u "java/lang/Object")] 63

/-- java/lang/CharSequence -/
def k17 : Class := { plain "java/lang/CharSequence" (some 0) with
  accessFlags := 1537
  interfaces := #[]
  cf := some (fileOf pool17 2 #[.nestMembers #[47, 59]] #[] 1537 66 #[] #[])
  fields := #[]
  methods := #[]
  instanceTypes := #[]
  staticTypes := #[]
  resolved := Array.replicate 131 none
  statics := none }

def pool18 : Array CpInfo := pool [(1, .class_ 2), (0, u "java/lang/constant/Constable"), (0, .class_ 4), (0, u "java/lang/Object")] 6

/-- java/lang/constant/Constable -/
def k18 : Class := { plain "java/lang/constant/Constable" (some 0) with
  accessFlags := 1537
  interfaces := #[]
  cf := some (fileOf pool18 1 #[] #[] 1537 3 #[] #[])
  fields := #[]
  methods := #[]
  instanceTypes := #[]
  staticTypes := #[]
  resolved := Array.replicate 11 none
  statics := none }

def pool19 : Array CpInfo := pool [(1, .class_ 2), (0, u "java/lang/constant/ConstantDesc"), (0, .class_ 4), (0, u "java/lang/Object")] 32

/-- java/lang/constant/ConstantDesc -/
def k19 : Class := { plain "java/lang/constant/ConstantDesc" (some 0) with
  accessFlags := 1537
  interfaces := #[]
  cf := some (fileOf pool19 1 #[] #[] 1537 3 #[] #[])
  fields := #[]
  methods := #[]
  instanceTypes := #[]
  staticTypes := #[]
  resolved := Array.replicate 37 none
  statics := none }

def pool20 : Array CpInfo := pool [(2, .class_ 4), (1, u "java/lang/Object"), (0, u "<init>"), (0, u "()V"), (3, .class_ 12), (1, u "java/lang/String"), (0, u "value"), (0, u "[B"), (2, u "coder"), (0, u "B"), (2, u "hash"), (0, u "I"), (2, u "hashIsZero"), (0, u "Z"), (13, u "COMPACT_STRINGS"), (534, .class_ 576), (0, u "java/lang/CharSequence"), (22, u "CASE_INSENSITIVE_ORDER"), (0, u "Ljava/util/Comparator;"), (500, u "serialPersistentFields"), (0, u "[Ljava/io/ObjectStreamField;"), (0, .class_ 1104), (0, u "java/lang/String$CaseInsensitiveComparator"), (1, .class_ 1107), (0, u "java/io/Serializable"), (0, .class_ 1109), (0, u "java/lang/Comparable"), (0, .class_ 1111), (0, u "java/lang/constant/Constable"), (0, .class_ 1113), (0, u "java/lang/constant/ConstantDesc"), (2, u "serialVersionUID"), (0, u "J"), (3, u "REPL"), (0, u "C"), (2, u "LATIN1"), (1, u "UTF16")] 323

def k20m0 : Method := { name := "<init>", desc := "()V", sig := { parameters := [], returnType := none }, accessFlags := 1, code := none }
/-- java/lang/String -/
def k20 : Class := { plain "java/lang/String" (some 0) with
  accessFlags := 49
  interfaces := #[10, 16, 17, 18, 19]
  cf := some (fileOf pool20 10 #[.nestMembers #[1103]] #[{ accessFlags := 1, nameIndex := 5, descriptorIndex := 6, attributes := #[] }] 49 2 #[1106, 1108, 575, 1110, 1112] #[{ accessFlags := 18, nameIndex := 13, descriptorIndex := 14, attributes := #[] }, { accessFlags := 18, nameIndex := 17, descriptorIndex := 18, attributes := #[] }, { accessFlags := 2, nameIndex := 21, descriptorIndex := 22, attributes := #[] }, { accessFlags := 2, nameIndex := 25, descriptorIndex := 26, attributes := #[] }, { accessFlags := 26, nameIndex := 1116, descriptorIndex := 1117, attributes := #[] }, { accessFlags := 24, nameIndex := 40, descriptorIndex := 26, attributes := #[] }, { accessFlags := 26, nameIndex := 1101, descriptorIndex := 1102, attributes := #[] }, { accessFlags := 26, nameIndex := 1121, descriptorIndex := 1122, attributes := #[] }, { accessFlags := 25, nameIndex := 599, descriptorIndex := 600, attributes := #[] }, { accessFlags := 24, nameIndex := 1125, descriptorIndex := 18, attributes := #[] }, { accessFlags := 24, nameIndex := 1127, descriptorIndex := 18, attributes := #[] }])
  fields := #[{ name := "value", type := (.array .byte), accessFlags := 18, slot := 0, constantValue := 0 }, { name := "coder", type := .byte, accessFlags := 18, slot := 1, constantValue := 0 }, { name := "hash", type := .int, accessFlags := 2, slot := 2, constantValue := 0 }, { name := "hashIsZero", type := .boolean, accessFlags := 2, slot := 3, constantValue := 0 }, { name := "serialVersionUID", type := .long, accessFlags := 26, slot := 0, constantValue := 0 }, { name := "COMPACT_STRINGS", type := .boolean, accessFlags := 24, slot := 1, constantValue := 0 }, { name := "serialPersistentFields", type := (.array (.object "java/io/ObjectStreamField")), accessFlags := 26, slot := 2, constantValue := 0 }, { name := "REPL", type := .char, accessFlags := 26, slot := 3, constantValue := 0 }, { name := "CASE_INSENSITIVE_ORDER", type := (.object "java/util/Comparator"), accessFlags := 25, slot := 4, constantValue := 0 }, { name := "LATIN1", type := .byte, accessFlags := 24, slot := 5, constantValue := 0 }, { name := "UTF16", type := .byte, accessFlags := 24, slot := 6, constantValue := 0 }]
  methods := #[k20m0]
  instanceTypes := #[(.array .byte), .byte, .int, .boolean]
  staticTypes := #[.long, .boolean, (.array (.object "java/io/ObjectStreamField")), .char, (.object "java/util/Comparator"), .byte, .byte]
  resolved := Array.replicate 1451 none
  statics := none }

def pool21 : Array CpInfo := pool [(2, .class_ 4), (1, u "java/lang/Object"), (0, u "<init>"), (0, u "()V"), (3, .class_ 11), (0, u "java/util/ImmutableCollections$List12"), (0, .class_ 13), (0, u "java/util/ImmutableCollections$ListN"), (3, u "Z"), (0, .class_ 19), (0, u "java/util/List"), (0, .interfaceMethodref 21 22), (0, .class_ 23), (0, .nameAndType 24 25), (0, u "java/util/Collection"), (0, u "isEmpty"), (0, u "()Z"), (0, .interfaceMethodref 18 27), (0, .nameAndType 28 29), (0, u "of"), (0, u "()Ljava/util/List;"), (0, .interfaceMethodref 21 31), (0, .nameAndType 32 33), (0, u "toArray"), (0, u "()[Ljava/lang/Object;"), (0, .interfaceMethodref 18 35), (0, .nameAndType 28 36), (0, u "([Ljava/lang/Object;)Ljava/util/List;"), (10, .class_ 49), (1, u "java/util/ImmutableCollections"), (0, u "$assertionsDisabled"), (5, u "[Ljava/lang/Object;"), (5, u "EMPTY_LIST"), (0, u "Ljava/util/ImmutableCollections$ListN;"), (8, u "EMPTY_LIST_NULLS"), (22, u "SALT32L"), (0, u "J"), (2, u "REVERSE"), (6, u "archivedObjects"), (2, u "EMPTY"), (0, u "Ljava/lang/Object;"), (0, .class_ 112), (0, u "java/util/ImmutableCollections$SetN"), (5, u "EMPTY_SET"), (0, u "Ljava/util/ImmutableCollections$SetN;"), (0, .class_ 121), (0, u "java/util/ImmutableCollections$MapN"), (3, u "EMPTY_MAP"), (0, u "Ljava/util/ImmutableCollections$MapN;"), (4, u "EXPAND_FACTOR"), (0, u "I"), (9, u "listCopy"), (0, u "(Ljava/util/Collection;)Ljava/util/List;"), (25, .class_ 170), (0, u "java/util/ImmutableCollections$MapN$MapNIterator"), (0, .class_ 172), (0, u "java/util/ImmutableCollections$MapN$1"), (0, .class_ 174), (0, u "java/util/ImmutableCollections$Map1"), (0, .class_ 176), (0, u "java/util/ImmutableCollections$AbstractImmutableMap"), (0, .class_ 178), (0, u "java/util/ImmutableCollections$SetN$SetNIterator"), (0, .class_ 180), (0, u "java/util/ImmutableCollections$Set12"), (0, .class_ 182), (0, u "java/util/ImmutableCollections$Set12$1"), (0, .class_ 184), (0, u "java/util/ImmutableCollections$AbstractImmutableSet"), (0, .class_ 186), (0, u "java/util/ImmutableCollections$SubList"), (0, .class_ 188), (0, u "java/util/ImmutableCollections$ListItr"), (0, .class_ 190), (0, u "java/util/ImmutableCollections$AbstractImmutableList"), (0, .class_ 192), (0, u "java/util/ImmutableCollections$AbstractImmutableCollection"), (0, .class_ 194), (0, u "java/util/ImmutableCollections$Access"), (0, .class_ 196), (0, u "java/util/ImmutableCollections$Access$1")] 16

def k21m0 : Method := { name := "<init>", desc := "()V", sig := { parameters := [], returnType := none }, accessFlags := 2, code := none }
def k21c1 : Code := { maxStack := 1, maxLocals := 2, code := jdk_56_method_3_code, exceptionTable := #[], attributes := #[] }
def k21m1 : Method := { name := "listCopy", desc := "(Ljava/util/Collection;)Ljava/util/List;", sig := { parameters := [(.object "java/util/Collection")], returnType := some (.object "java/util/List") }, accessFlags := 8, code := some k21c1 }
/-- java/util/ImmutableCollections -/
def k21 : Class := { plain "java/util/ImmutableCollections" (some 0) with
  accessFlags := 32
  interfaces := #[]
  cf := some (fileOf pool21 47 #[.nestMembers #[120, 169, 171, 173, 175, 111, 177, 179, 181, 183, 12, 10, 185, 187, 189, 191, 193, 195]] #[{ accessFlags := 2, nameIndex := 5, descriptorIndex := 6, attributes := #[] }, { accessFlags := 8, nameIndex := 142, descriptorIndex := 143, attributes := #[] }] 32 2 #[] #[{ accessFlags := 26, nameIndex := 95, descriptorIndex := 96, attributes := #[] }, { accessFlags := 26, nameIndex := 99, descriptorIndex := 17, attributes := #[] }, { accessFlags := 10, nameIndex := 106, descriptorIndex := 56, attributes := #[] }, { accessFlags := 26, nameIndex := 109, descriptorIndex := 110, attributes := #[] }, { accessFlags := 24, nameIndex := 62, descriptorIndex := 63, attributes := #[] }, { accessFlags := 24, nameIndex := 72, descriptorIndex := 63, attributes := #[] }, { accessFlags := 24, nameIndex := 118, descriptorIndex := 119, attributes := #[] }, { accessFlags := 24, nameIndex := 125, descriptorIndex := 126, attributes := #[] }, { accessFlags := 24, nameIndex := 131, descriptorIndex := 132, attributes := #[] }, { accessFlags := 4120, nameIndex := 50, descriptorIndex := 17, attributes := #[] }])
  fields := #[{ name := "SALT32L", type := .long, accessFlags := 26, slot := 0, constantValue := 0 }, { name := "REVERSE", type := .boolean, accessFlags := 26, slot := 1, constantValue := 0 }, { name := "archivedObjects", type := (.array (.object "java/lang/Object")), accessFlags := 10, slot := 2, constantValue := 0 }, { name := "EMPTY", type := (.object "java/lang/Object"), accessFlags := 26, slot := 3, constantValue := 0 }, { name := "EMPTY_LIST", type := (.object "java/util/ImmutableCollections$ListN"), accessFlags := 24, slot := 4, constantValue := 0 }, { name := "EMPTY_LIST_NULLS", type := (.object "java/util/ImmutableCollections$ListN"), accessFlags := 24, slot := 5, constantValue := 0 }, { name := "EMPTY_SET", type := (.object "java/util/ImmutableCollections$SetN"), accessFlags := 24, slot := 6, constantValue := 0 }, { name := "EMPTY_MAP", type := (.object "java/util/ImmutableCollections$MapN"), accessFlags := 24, slot := 7, constantValue := 0 }, { name := "EXPAND_FACTOR", type := .int, accessFlags := 24, slot := 8, constantValue := 0 }, { name := "$assertionsDisabled", type := .boolean, accessFlags := 4120, slot := 9, constantValue := 0 }]
  methods := #[k21m0, k21m1]
  instanceTypes := #[]
  staticTypes := #[.long, .boolean, (.array (.object "java/lang/Object")), (.object "java/lang/Object"), (.object "java/util/ImmutableCollections$ListN"), (.object "java/util/ImmutableCollections$ListN"), (.object "java/util/ImmutableCollections$SetN"), (.object "java/util/ImmutableCollections$MapN"), .int, .boolean]
  resolved := Array.replicate 213 none
  statics := some 1 }

def pool22 : Array CpInfo := pool [(1, .methodref 2 3), (0, .class_ 4), (0, .nameAndType 5 6), (0, u "java/util/AbstractCollection"), (0, u "<init>"), (0, u "()V"), (1, .class_ 10), (1, u "java/util/ImmutableCollections"), (2, .class_ 14), (0, u "java/util/ImmutableCollections$AbstractImmutableCollection")] 41

def k22c0 : Code := { maxStack := 1, maxLocals := 1, code := jdk_47_method_1_code, exceptionTable := #[], attributes := #[] }
def k22m0 : Method := { name := "<init>", desc := "()V", sig := { parameters := [], returnType := none }, accessFlags := 0, code := some k22c0 }
/-- java/util/ImmutableCollections$AbstractImmutableCollection -/
def k22 : Class := { plain "java/util/ImmutableCollections$AbstractImmutableCollection" (some 4) with
  accessFlags := 1056
  interfaces := #[]
  cf := some (fileOf pool22 13 #[.nestHost 8] #[{ accessFlags := 0, nameIndex := 5, descriptorIndex := 6, attributes := #[] }] 1056 2 #[] #[])
  fields := #[]
  methods := #[k22m0]
  instanceTypes := #[]
  staticTypes := #[]
  resolved := Array.replicate 56 none
  statics := none }

def pool23 : Array CpInfo := pool [(1, .methodref 2 3), (0, .class_ 4), (0, .nameAndType 5 6), (0, u "java/util/ImmutableCollections$AbstractImmutableCollection"), (0, u "<init>"), (0, u "()V"), (1, .class_ 10), (1, u "java/util/ImmutableCollections"), (3, .class_ 16), (1, u "java/util/ImmutableCollections$AbstractImmutableList"), (60, .class_ 78), (0, u "java/util/List"), (45, .class_ 125), (0, u "java/util/RandomAccess")] 70

def k23c0 : Code := { maxStack := 1, maxLocals := 1, code := jdk_46_method_1_code, exceptionTable := #[], attributes := #[] }
def k23m0 : Method := { name := "<init>", desc := "()V", sig := { parameters := [], returnType := none }, accessFlags := 0, code := some k23c0 }
/-- java/util/ImmutableCollections$AbstractImmutableList -/
def k23 : Class := { plain "java/util/ImmutableCollections$AbstractImmutableList" (some 22) with
  accessFlags := 1056
  interfaces := #[6, 8]
  cf := some (fileOf pool23 14 #[.nestHost 8] #[{ accessFlags := 0, nameIndex := 5, descriptorIndex := 6, attributes := #[] }] 1056 2 #[77, 124] #[])
  fields := #[]
  methods := #[k23m0]
  instanceTypes := #[]
  staticTypes := #[]
  resolved := Array.replicate 196 none
  statics := none }

def pool24 : Array CpInfo := pool [(1, .methodref 2 3), (0, .class_ 4), (0, .nameAndType 5 6), (0, u "java/util/ImmutableCollections$AbstractImmutableList"), (0, u "<init>"), (0, u "()V"), (0, .methodref 8 9), (0, .class_ 10), (0, .nameAndType 11 12), (0, u "java/util/Objects"), (0, u "requireNonNull"), (0, u "(Ljava/lang/Object;)Ljava/lang/Object;"), (0, .fieldref 14 15), (0, .class_ 16), (0, .nameAndType 17 18), (0, u "java/util/ImmutableCollections$List12"), (0, u "e0"), (0, u "Ljava/lang/Object;"), (0, .fieldref 20 21), (0, .class_ 22), (0, .nameAndType 23 18), (0, u "java/util/ImmutableCollections"), (0, u "EMPTY"), (0, .fieldref 14 25), (0, .nameAndType 26 18), (0, u "e1"), (24, u "size"), (0, u "()I"), (17, .class_ 71), (0, u "java/io/Serializable"), (4, u "(Ljava/lang/Object;)V")] 48

def k24c0 : Code := { maxStack := 2, maxLocals := 2, code := jdk_44_method_1_code, exceptionTable := #[], attributes := #[] }
def k24m0 : Method := { name := "<init>", desc := "(Ljava/lang/Object;)V", sig := { parameters := [(.object "java/lang/Object")], returnType := none }, accessFlags := 0, code := some k24c0 }
def k24c1 : Code := { maxStack := 2, maxLocals := 1, code := jdk_44_method_3_code, exceptionTable := #[], attributes := #[] }
def k24m1 : Method := { name := "size", desc := "()I", sig := { parameters := [], returnType := some .int }, accessFlags := 1, code := some k24c1 }
/-- java/util/ImmutableCollections$List12 -/
def k24 : Class := { plain "java/util/ImmutableCollections$List12" (some 23) with
  accessFlags := 48
  interfaces := #[10]
  cf := some (fileOf pool24 14 #[.nestHost 20] #[{ accessFlags := 0, nameIndex := 5, descriptorIndex := 76, attributes := #[] }, { accessFlags := 1, nameIndex := 51, descriptorIndex := 52, attributes := #[] }] 48 2 #[70] #[{ accessFlags := 18, nameIndex := 17, descriptorIndex := 18, attributes := #[] }, { accessFlags := 18, nameIndex := 26, descriptorIndex := 18, attributes := #[] }])
  fields := #[{ name := "e0", type := (.object "java/lang/Object"), accessFlags := 18, slot := 0, constantValue := 0 }, { name := "e1", type := (.object "java/lang/Object"), accessFlags := 18, slot := 1, constantValue := 0 }]
  methods := #[k24m0, k24m1]
  instanceTypes := #[(.object "java/lang/Object"), (.object "java/lang/Object")]
  staticTypes := #[]
  resolved := Array.replicate 125 none
  statics := none }

def pool25 : Array CpInfo := pool [(2, .class_ 4), (1, u "java/util/ImmutableCollections$AbstractImmutableList"), (2, .fieldref 8 9), (0, .class_ 10), (0, .nameAndType 11 12), (0, u "java/util/ImmutableCollections$ListN"), (0, u "elements"), (0, u "[Ljava/lang/Object;"), (2, u "allowNulls"), (0, u "Z"), (42, .class_ 60), (0, u "java/io/Serializable"), (16, u "size"), (0, u "()I"), (35, .class_ 115), (0, u "java/util/ImmutableCollections")] 3

def k25c0 : Code := { maxStack := 1, maxLocals := 1, code := jdk_45_method_3_code, exceptionTable := #[], attributes := #[] }
def k25m0 : Method := { name := "size", desc := "()I", sig := { parameters := [], returnType := some .int }, accessFlags := 1, code := some k25c0 }
/-- java/util/ImmutableCollections$ListN -/
def k25 : Class := { plain "java/util/ImmutableCollections$ListN" (some 23) with
  accessFlags := 48
  interfaces := #[10]
  cf := some (fileOf pool25 8 #[.nestHost 114] #[{ accessFlags := 1, nameIndex := 77, descriptorIndex := 78, attributes := #[] }] 48 2 #[59] #[{ accessFlags := 18, nameIndex := 11, descriptorIndex := 12, attributes := #[] }, { accessFlags := 18, nameIndex := 15, descriptorIndex := 16, attributes := #[] }])
  fields := #[{ name := "elements", type := (.array (.object "java/lang/Object")), accessFlags := 18, slot := 0, constantValue := 0 }, { name := "allowNulls", type := .boolean, accessFlags := 18, slot := 1, constantValue := 0 }]
  methods := #[k25m0]
  instanceTypes := #[(.array (.object "java/lang/Object")), .boolean]
  staticTypes := #[]
  resolved := Array.replicate 119 none
  statics := none }

def pool26 : Array CpInfo := pool [(2, .class_ 4), (1, u "java/lang/Object"), (0, u "<init>"), (0, u "()V"), (7, .class_ 16), (1, u "java/util/Arrays"), (57, .class_ 76), (1, u "java/util/Arrays$NaturalOrder"), (9, .methodref 2 87), (0, .nameAndType 88 89), (0, u "getClass"), (0, u "()Ljava/lang/Class;"), (20, .class_ 111), (0, u "[Ljava/lang/Object;"), (1, .class_ 115), (1, u "java/util/Arrays$LegacyMergeSort"), (1, u "Z"), (32, .methodref 151 152), (0, .class_ 153), (0, .nameAndType 154 155), (0, u "java/lang/System"), (0, u "arraycopy"), (0, u "(Ljava/lang/Object;ILjava/lang/Object;II)V"), (144, .methodref 14 301), (0, .nameAndType 302 303), (0, u "copyOf"), (0, u "([Ljava/lang/Object;ILjava/lang/Class;)[Ljava/lang/Object;"), (0, .methodref 305 306), (0, .class_ 307), (0, .nameAndType 308 309), (0, u "java/lang/Math"), (0, u "min"), (0, u "(II)I"), (65, .class_ 376), (0, u "java/util/Arrays$ArrayList"), (68, u "$assertionsDisabled"), (269, u "MIN_ARRAY_SORT_GRAN"), (0, u "I"), (2, u "INSERTIONSORT_THRESHOLD"), (140, u "([Ljava/lang/Object;I)[Ljava/lang/Object;"), (114, .class_ 976), (0, u "java/util/Arrays$ArrayItr")] 52

def k26m0 : Method := { name := "<init>", desc := "()V", sig := { parameters := [], returnType := none }, accessFlags := 2, code := none }
def k26c1 : Code := { maxStack := 3, maxLocals := 2, code := jdk_65_method_119_code, exceptionTable := #[], attributes := #[] }
def k26m1 : Method := { name := "copyOf", desc := "([Ljava/lang/Object;I)[Ljava/lang/Object;", sig := { parameters := [(.array (.object "java/lang/Object")), .int], returnType := some (.array (.object "java/lang/Object")) }, accessFlags := 9, code := some k26c1 }
def k26c2 : Code := { maxStack := 6, maxLocals := 4, code := jdk_65_method_120_code, exceptionTable := #[], attributes := #[] }
def k26m2 : Method := { name := "copyOf", desc := "([Ljava/lang/Object;ILjava/lang/Class;)[Ljava/lang/Object;", sig := { parameters := [(.array (.object "java/lang/Object")), .int, (.object "java/lang/Class")], returnType := some (.array (.object "java/lang/Object")) }, accessFlags := 9, code := some k26c2 }
/-- java/util/Arrays -/
def k26 : Class := { plain "java/util/Arrays" (some 0) with
  accessFlags := 49
  interfaces := #[]
  cf := some (fileOf pool26 14 #[.nestMembers #[975, 375, 113, 74]] #[{ accessFlags := 2, nameIndex := 5, descriptorIndex := 6, attributes := #[] }, { accessFlags := 9, nameIndex := 302, descriptorIndex := 860, attributes := #[] }, { accessFlags := 9, nameIndex := 302, descriptorIndex := 303, attributes := #[] }] 49 2 #[] #[{ accessFlags := 26, nameIndex := 715, descriptorIndex := 716, attributes := #[] }, { accessFlags := 26, nameIndex := 719, descriptorIndex := 716, attributes := #[] }, { accessFlags := 4120, nameIndex := 445, descriptorIndex := 117, attributes := #[] }])
  fields := #[{ name := "MIN_ARRAY_SORT_GRAN", type := .int, accessFlags := 26, slot := 0, constantValue := 0 }, { name := "INSERTIONSORT_THRESHOLD", type := .int, accessFlags := 26, slot := 1, constantValue := 0 }, { name := "$assertionsDisabled", type := .boolean, accessFlags := 4120, slot := 2, constantValue := 0 }]
  methods := #[k26m0, k26m1, k26m2]
  instanceTypes := #[]
  staticTypes := #[.int, .int, .boolean]
  resolved := Array.replicate 1029 none
  statics := none }

def pool27 : Array CpInfo := pool [(2, .class_ 4), (1, u "java/lang/Object"), (0, u "<init>"), (0, u "()V"), (1, .class_ 10), (1, u "java/lang/System"), (0, u "allowSecurityManager"), (0, u "I"), (16, u "cons"), (0, u "Ljava/io/Console;"), (77, .class_ 110), (1, u "java/lang/System$CallersHolder"), (43, u "initialErrStream"), (0, u "Ljava/io/PrintStream;"), (19, u "security"), (0, u "Ljava/lang/SecurityManager;"), (31, .class_ 209), (0, u "java/lang/System$1"), (7, u "props"), (0, u "Ljava/util/Properties;"), (2, u "lineSeparator"), (0, u "Ljava/lang/String;"), (96, .class_ 321), (1, u "java/lang/System$LoggerFinder"), (5, .class_ 328), (0, u "java/lang/System$Logger"), (67, u "err"), (2, u "out"), (91, u "notSupportedJnuEncoding"), (15, u "in"), (17, u "initialIn"), (0, u "Ljava/io/InputStream;"), (35, u "bootLayer"), (0, u "Ljava/lang/ModuleLayer;"), (99, .class_ 664), (0, u "java/lang/System$2"), (9, u "NEVER"), (2, u "MAYBE"), (49, u "arraycopy"), (0, u "(Ljava/lang/Object;ILjava/lang/Object;II)V"), (72, .class_ 802), (0, u "java/lang/System$Logger$Level")] 31

def k27m0 : Method := { name := "<init>", desc := "()V", sig := { parameters := [], returnType := none }, accessFlags := 2, code := none }
def k27m1 : Method := { name := "arraycopy", desc := "(Ljava/lang/Object;ILjava/lang/Object;II)V", sig := { parameters := [(.object "java/lang/Object"), .int, (.object "java/lang/Object"), .int, .int], returnType := none }, accessFlags := 265, code := none }
/-- java/lang/System -/
def k27 : Class := { plain "java/lang/System" (some 0) with
  accessFlags := 49
  interfaces := #[]
  cf := some (fileOf pool27 8 #[.nestMembers #[319, 327, 801, 108, 663, 208]] #[{ accessFlags := 2, nameIndex := 5, descriptorIndex := 6, attributes := #[] }, { accessFlags := 265, nameIndex := 727, descriptorIndex := 728, attributes := #[] }] 49 2 #[] #[{ accessFlags := 25, nameIndex := 507, descriptorIndex := 526, attributes := #[] }, { accessFlags := 25, nameIndex := 399, descriptorIndex := 155, attributes := #[] }, { accessFlags := 25, nameIndex := 396, descriptorIndex := 155, attributes := #[] }, { accessFlags := 10, nameIndex := 525, descriptorIndex := 526, attributes := #[] }, { accessFlags := 26, nameIndex := 674, descriptorIndex := 12, attributes := #[] }, { accessFlags := 26, nameIndex := 677, descriptorIndex := 12, attributes := #[] }, { accessFlags := 10, nameIndex := 11, descriptorIndex := 12, attributes := #[] }, { accessFlags := 74, nameIndex := 175, descriptorIndex := 176, attributes := #[] }, { accessFlags := 10, nameIndex := 491, descriptorIndex := 222, attributes := #[] }, { accessFlags := 74, nameIndex := 29, descriptorIndex := 30, attributes := #[] }, { accessFlags := 74, nameIndex := 154, descriptorIndex := 155, attributes := #[] }, { accessFlags := 10, nameIndex := 217, descriptorIndex := 218, attributes := #[] }, { accessFlags := 10, nameIndex := 221, descriptorIndex := 222, attributes := #[] }, { accessFlags := 8, nameIndex := 562, descriptorIndex := 563, attributes := #[] }])
  fields := #[{ name := "in", type := (.object "java/io/InputStream"), accessFlags := 25, slot := 0, constantValue := 0 }, { name := "out", type := (.object "java/io/PrintStream"), accessFlags := 25, slot := 1, constantValue := 0 }, { name := "err", type := (.object "java/io/PrintStream"), accessFlags := 25, slot := 2, constantValue := 0 }, { name := "initialIn", type := (.object "java/io/InputStream"), accessFlags := 10, slot := 3, constantValue := 0 }, { name := "NEVER", type := .int, accessFlags := 26, slot := 4, constantValue := 0 }, { name := "MAYBE", type := .int, accessFlags := 26, slot := 5, constantValue := 0 }, { name := "allowSecurityManager", type := .int, accessFlags := 10, slot := 6, constantValue := 0 }, { name := "security", type := (.object "java/lang/SecurityManager"), accessFlags := 74, slot := 7, constantValue := 0 }, { name := "notSupportedJnuEncoding", type := (.object "java/lang/String"), accessFlags := 10, slot := 8, constantValue := 0 }, { name := "cons", type := (.object "java/io/Console"), accessFlags := 74, slot := 9, constantValue := 0 }, { name := "initialErrStream", type := (.object "java/io/PrintStream"), accessFlags := 74, slot := 10, constantValue := 0 }, { name := "props", type := (.object "java/util/Properties"), accessFlags := 10, slot := 11, constantValue := 0 }, { name := "lineSeparator", type := (.object "java/lang/String"), accessFlags := 10, slot := 12, constantValue := 0 }, { name := "bootLayer", type := (.object "java/lang/ModuleLayer"), accessFlags := 8, slot := 13, constantValue := 0 }]
  methods := #[k27m0, k27m1]
  instanceTypes := #[]
  staticTypes := #[(.object "java/io/InputStream"), (.object "java/io/PrintStream"), (.object "java/io/PrintStream"), (.object "java/io/InputStream"), .int, .int, .int, (.object "java/lang/SecurityManager"), (.object "java/lang/String"), (.object "java/io/Console"), (.object "java/io/PrintStream"), (.object "java/util/Properties"), (.object "java/lang/String"), (.object "java/lang/ModuleLayer")]
  resolved := Array.replicate 834 none
  statics := none }

def pool28 : Array CpInfo := pool [(2, .class_ 4), (1, u "java/lang/Object"), (0, u "<init>"), (0, u "()V"), (35, .class_ 44), (1, u "java/util/Objects"), (0, u "requireNonNull"), (0, u "(Ljava/lang/Object;)Ljava/lang/Object;")] 137

def k28m0 : Method := { name := "<init>", desc := "()V", sig := { parameters := [], returnType := none }, accessFlags := 2, code := none }
def k28c1 : Code := { maxStack := 2, maxLocals := 1, code := jdk_31_method_10_code, exceptionTable := #[], attributes := #[] }
def k28m1 : Method := { name := "requireNonNull", desc := "(Ljava/lang/Object;)Ljava/lang/Object;", sig := { parameters := [(.object "java/lang/Object")], returnType := some (.object "java/lang/Object") }, accessFlags := 9, code := some k28c1 }
/-- java/util/Objects -/
def k28 : Class := { plain "java/util/Objects" (some 0) with
  accessFlags := 49
  interfaces := #[]
  cf := some (fileOf pool28 42 #[] #[{ accessFlags := 2, nameIndex := 5, descriptorIndex := 6, attributes := #[] }, { accessFlags := 9, nameIndex := 45, descriptorIndex := 46, attributes := #[] }] 49 2 #[] #[])
  fields := #[]
  methods := #[k28m0, k28m1]
  instanceTypes := #[]
  staticTypes := #[]
  resolved := Array.replicate 184 none
  statics := none }

def pool29 : Array CpInfo := pool [(1, .methodref 2 3), (0, .class_ 4), (0, .nameAndType 5 6), (0, u "java/lang/Object"), (0, u "<init>"), (0, u "()V"), (0, .methodref 8 9), (0, .class_ 10), (0, .nameAndType 11 12), (0, u "com/example/skyroster/skyroster/Satellite"), (0, u "costCoefficient"), (0, u "()D"), (0, .fieldref 14 15), (0, .class_ 16), (0, .nameAndType 17 18), (0, u "com/example/skyroster/skyroster/CostShare"), (0, u "coefficient"), (0, u "D"), (0, .methodref 8 20), (0, .nameAndType 21 22), (0, u "usedWindows"), (0, u "()Ljava/util/List;"), (0, .interfaceMethodref 24 25), (0, .class_ 26), (0, .nameAndType 27 28), (0, u "java/util/List"), (0, u "size"), (0, u "()I"), (0, .fieldref 14 30), (0, .nameAndType 31 32), (0, u "usedCount"), (0, u "I"), (0, .fieldref 14 34), (0, .nameAndType 35 32), (0, u "taskCount"), (0, .methodref 14 37), (0, .nameAndType 38 28), (0, u "windowCount"), (0, .fieldref 14 40), (0, .nameAndType 41 18), (0, u "taskCostSum"), (0, .fieldref 14 43), (0, .nameAndType 44 18), (0, u "cost"), (0, u "(Lcom/example/skyroster/skyroster/Satellite;)V"), (2, u "increase"), (0, u "(D)D"), (0, u "give"), (0, u "(D)V"), (0, u "takeBack"), (0, u "(DD)V")] 2

def k29c0 : Code := { maxStack := 3, maxLocals := 2, code := prog_2_method_1_code, exceptionTable := #[], attributes := #[] }
def k29m0 : Method := { name := "<init>", desc := "(Lcom/example/skyroster/skyroster/Satellite;)V", sig := { parameters := [(.object "com/example/skyroster/skyroster/Satellite")], returnType := none }, accessFlags := 0, code := some k29c0 }
def k29c1 : Code := { maxStack := 2, maxLocals := 1, code := prog_2_method_2_code, exceptionTable := #[], attributes := #[] }
def k29m1 : Method := { name := "windowCount", desc := "()I", sig := { parameters := [], returnType := some .int }, accessFlags := 0, code := some k29c1 }
def k29c2 : Code := { maxStack := 6, maxLocals := 3, code := prog_2_method_3_code, exceptionTable := #[], attributes := #[] }
def k29m2 : Method := { name := "increase", desc := "(D)D", sig := { parameters := [.double], returnType := some .double }, accessFlags := 0, code := some k29c2 }
def k29c3 : Code := { maxStack := 5, maxLocals := 3, code := prog_2_method_4_code, exceptionTable := #[], attributes := #[] }
def k29m3 : Method := { name := "give", desc := "(D)V", sig := { parameters := [.double], returnType := none }, accessFlags := 0, code := some k29c3 }
def k29c4 : Code := { maxStack := 3, maxLocals := 5, code := prog_2_method_5_code, exceptionTable := #[], attributes := #[] }
def k29m4 : Method := { name := "takeBack", desc := "(DD)V", sig := { parameters := [.double, .double], returnType := none }, accessFlags := 0, code := some k29c4 }
/-- com/example/skyroster/skyroster/CostShare -/
def k29 : Class := { plain "com/example/skyroster/skyroster/CostShare" (some 0) with
  accessFlags := 48
  interfaces := #[]
  cf := some (fileOf pool29 14 #[] #[{ accessFlags := 0, nameIndex := 5, descriptorIndex := 45, attributes := #[] }, { accessFlags := 0, nameIndex := 38, descriptorIndex := 28, attributes := #[] }, { accessFlags := 0, nameIndex := 48, descriptorIndex := 49, attributes := #[] }, { accessFlags := 0, nameIndex := 50, descriptorIndex := 51, attributes := #[] }, { accessFlags := 0, nameIndex := 52, descriptorIndex := 53, attributes := #[] }] 48 2 #[] #[{ accessFlags := 16, nameIndex := 17, descriptorIndex := 18, attributes := #[] }, { accessFlags := 16, nameIndex := 31, descriptorIndex := 32, attributes := #[] }, { accessFlags := 0, nameIndex := 35, descriptorIndex := 32, attributes := #[] }, { accessFlags := 0, nameIndex := 41, descriptorIndex := 18, attributes := #[] }, { accessFlags := 0, nameIndex := 44, descriptorIndex := 18, attributes := #[] }])
  fields := #[{ name := "coefficient", type := .double, accessFlags := 16, slot := 0, constantValue := 0 }, { name := "usedCount", type := .int, accessFlags := 16, slot := 1, constantValue := 0 }, { name := "taskCount", type := .int, accessFlags := 0, slot := 2, constantValue := 0 }, { name := "taskCostSum", type := .double, accessFlags := 0, slot := 3, constantValue := 0 }, { name := "cost", type := .double, accessFlags := 0, slot := 4, constantValue := 0 }]
  methods := #[k29m0, k29m1, k29m2, k29m3, k29m4]
  instanceTypes := #[.double, .int, .int, .double, .double]
  staticTypes := #[]
  resolved := Array.replicate 56 none
  statics := none }

def pool30 : Array CpInfo := pool [(1, u "java/lang/Class"), (0, .class_ 1), (0, u "java/lang/Object"), (0, .class_ 3)] 3

/-- java/lang/Class -/
def k30 : Class := { plain "java/lang/Class" (some 0) with
  accessFlags := 49
  interfaces := #[]
  cf := some (fileOf pool30 2 #[] #[] 49 4 #[] #[])
  fields := #[]
  methods := #[]
  instanceTypes := #[]
  staticTypes := #[]
  resolved := Array.replicate 8 none
  statics := none }

/-- the primitive byte -/
def k31 : Class := { plain "byte" none with kind := .primitive 'B', accessFlags := 0x411 }
/-- [B -/
def k32 : Class := { plain "[B" (some 0) with kind := .array 31 .byte, interfaces := #[9, 10], accessFlags := 1041 }

/-- the primitive int -/
def k33 : Class := { plain "int" none with kind := .primitive 'I', accessFlags := 0x411 }
/-- [I -/
def k34 : Class := { plain "[I" (some 0) with kind := .array 33 .int, interfaces := #[9, 10], accessFlags := 1041 }

/-- [Ljava/lang/Object; -/
def k35 : Class := { plain "[Ljava/lang/Object;" (some 0) with mirror := some 2, kind := .array 0 (.object "java/lang/Object"), interfaces := #[9, 10], accessFlags := 1041 }

def heap : Heap := #[{ cls := 11, slots := #[.long 0, .int 0, .ref 3, .ref 4], vm := .statics 11 },
  { cls := 21, slots := #[.long 0, .int 0, .null, .ref 6, .ref 5, .null, .null, .null, .int 0, .int 1], vm := .statics 21 },
  { cls := 30, slots := #[], vm := .mirror 35 },
  { cls := 35, slots := #[], vm := .none },
  { cls := 35, slots := #[], vm := .none },
  { cls := 25, slots := #[.ref 3, .int 0], vm := .none },
  { cls := 0, slots := #[], vm := .none }]
def classes : Array Class := #[k0, k1, k2, k3, k4, k5, k6, k7, k8, k9, k10, k11, k12, k13, k14, k15, k16, k17, k18, k19, k20, k21, k22, k23, k24, k25, k26, k27, k28, k29, k30, k31, k32, k33, k34, k35]
def interned : List (Array UInt16 × Addr) := []
def slotsUsed : Nat := 16
def theMethod : MethodId := ⟨1, 1⟩
def args0 : Array Value := #[.int 1, .int 2, .int 3, .int 4, .int 5, .int 6]
def aboutOver (below : List Frame) : State where
  vm := { classes := classes, interned := interned.toArray }
  heap := heap
  slotsUsed := slotsUsed
  threads := #[{ frames := .invoking theMethod args0 :: below }]
def below0 : List Frame := [.native { method := ⟨0, 0⟩, args := #[] }]
def about1 : State := aboutOver below0
def p0 : Program := .bare "" "" ""
def e0 : Env := launch0.env 0 0 0
theorem w_frames : about1.frames = Frame.invoking theMethod args0 :: below0 := rfl
set_option maxRecDepth 65536 in
theorem w_args : argsFit about1.vm theMethod args0 = true := by decide +kernel
set_option maxRecDepth 65536 in
theorem w_heap : heapFits about1 = true := by decide +kernel
set_option maxRecDepth 65536 in
theorem w_runnable : about1.curStatus? = some .runnable := by decide +kernel
set_option maxRecDepth 65536 in
theorem w_alone : about1.alone = true := by decide +kernel
set_option maxRecDepth 65536 in
theorem w_named : about1.methodNamed? x = some theMethod := by decide +kernel
set_option maxRecDepth 65536 in
theorem w_hears : about1.hears theMethod below0 = true := by decide +kernel
set_option maxRecDepth 65536 in
theorem w_ripe : about1.ripe theMethod args0 below0 = true := by decide +kernel
theorem w_running : about1.status = .running := rfl
set_option maxRecDepth 65536 in
theorem w_room : about1.hasRoom e0.platform room_1 = true :=
  launch0.hasRoom_least _ room_1 (by decide +kernel) (by decide +kernel) (by decide +kernel) (by decide +kernel) (by decide +kernel) (by decide +kernel)
theorem allAtoms_all (ts : List Jvm.Cond) (a : Array Jvm.Value) (st : Jvm.State) : (allAtoms ts).before a st = ts.all (fun c => c.before a st) := by
  induction ts with
  | nil => rfl
  | cons c t ih =>
    show (Jvm.Cond.and c (allAtoms t)).before a st = _
    rw [Jvm.Cond.before_and, ih, List.all_cons]
def words1 : List Jvm.Cond := Jvm.Cond.code x code maxLocals ret :: tables_1
/-- a 'code' word, met by the world's own term for the bytes: nothing is compared byte by byte -/
theorem code_word {y : MethodName} {bytes : ByteArray} {mx : Nat} {rt : Option FieldType} {a : Array Value} {s : State} {m : MethodId} {meth : Method} {c : Code} (h1 : s.methodNamed? y = some m) (h2 : s.vm.method? m = some meth) (h3 : meth.code = some c) (h4 : c.code = bytes)
    (h5 : (c.maxLocals == mx && c.exceptionTable.isEmpty && decide (c.maxStack ≤ mostOperands) && decide (meth.sig.returnType = rt) && !meth.locks && decide (parseMethodDescriptor y.desc = some meth.sig)) = true) : (Jvm.Cond.code y bytes mx rt).before a s = true := by
  simp only [Bool.and_eq_true, beq_iff_eq, Bool.not_eq_true', decide_eq_true_eq] at h5
  obtain ⟨⟨⟨⟨⟨g1, g2⟩, g3⟩, g4⟩, g5⟩, g6⟩ := h5
  simp [Cond.before, Cond.holds, Cond.value, h1, h2, h3, h4, g1, g2, g3, g4, g5, g6]
def isCode : Jvm.Cond → Bool
  | .code _ _ _ _ => true
  | _ => false
theorem all_split {L : List Jvm.Cond} {P : Jvm.Cond → Bool} (h1 : L.all (fun c => isCode c || P c) = true) (h2 : ∀ c ∈ L.filter isCode, P c = true) : L.all P = true := by
  refine List.all_eq_true.mpr fun c hc => ?_
  have h := List.all_eq_true.mp h1 c hc
  rcases Bool.eq_false_or_eq_true (isCode c) with hi | hi
  · exact h2 c (List.mem_filter.mpr ⟨hc, hi⟩)
  · simpa [hi] using h
set_option maxRecDepth 65536 in
theorem w_c0 : (Jvm.Cond.code x code maxLocals ret).before args0 about1 = true := code_word (m := ⟨1, 1⟩) (meth := k1m1) (c := k1c1) (by decide +kernel) rfl rfl rfl (by decide +kernel)
set_option maxRecDepth 65536 in
theorem w_c1 : (Jvm.Cond.code ({ cls := "java/util/ArrayList", name := "<init>", desc := "()V" } : Jvm.MethodName) jdk_38_method_2_code (1 : Nat) (Option.none : Option Jvm.ClassFile.FieldType)).before args0 about1 = true := code_word (m := ⟨11, 0⟩) (meth := k11m0) (c := k11c0) (by decide +kernel) rfl rfl rfl (by decide +kernel)
set_option maxRecDepth 65536 in
theorem w_c2 : (Jvm.Cond.code ({ cls := "java/util/AbstractList", name := "<init>", desc := "()V" } : Jvm.MethodName) jdk_39_method_1_code (1 : Nat) (Option.none : Option Jvm.ClassFile.FieldType)).before args0 about1 = true := code_word (m := ⟨7, 0⟩) (meth := k7m0) (c := k7c0) (by decide +kernel) rfl rfl rfl (by decide +kernel)
set_option maxRecDepth 65536 in
theorem w_c3 : (Jvm.Cond.code ({ cls := "java/util/AbstractCollection", name := "<init>", desc := "()V" } : Jvm.MethodName) jdk_22_method_1_code (1 : Nat) (Option.none : Option Jvm.ClassFile.FieldType)).before args0 about1 = true := code_word (m := ⟨4, 0⟩) (meth := k4m0) (c := k4c0) (by decide +kernel) rfl rfl rfl (by decide +kernel)
set_option maxRecDepth 65536 in
theorem w_c4 : (Jvm.Cond.code ({ cls := "java/lang/Object", name := "<init>", desc := "()V" } : Jvm.MethodName) object_method_1_code (1 : Nat) (Option.none : Option Jvm.ClassFile.FieldType)).before args0 about1 = true := code_word (m := ⟨0, 0⟩) (meth := k0m0) (c := k0c0) (by decide +kernel) rfl rfl rfl (by decide +kernel)
set_option maxRecDepth 65536 in
theorem w_c5 : (Jvm.Cond.code ({ cls := "com/example/skyroster/skyroster/UsedWindow", name := "<init>", desc := "(JJJ)V" } : Jvm.MethodName) prog_24_method_1_code (7 : Nat) (Option.none : Option Jvm.ClassFile.FieldType)).before args0 about1 = true := code_word (m := ⟨13, 0⟩) (meth := k13m0) (c := k13c0) (by decide +kernel) rfl rfl rfl (by decide +kernel)
set_option maxRecDepth 65536 in
theorem w_c6 : (Jvm.Cond.code ({ cls := "java/lang/Record", name := "<init>", desc := "()V" } : Jvm.MethodName) jdk_30_method_1_code (1 : Nat) (Option.none : Option Jvm.ClassFile.FieldType)).before args0 about1 = true := code_word (m := ⟨12, 0⟩) (meth := k12m0) (c := k12c0) (by decide +kernel) rfl rfl rfl (by decide +kernel)
set_option maxRecDepth 65536 in
theorem w_c7 : (Jvm.Cond.code ({ cls := "java/util/ArrayList", name := "add", desc := "(Ljava/lang/Object;)Z" } : Jvm.MethodName) jdk_38_method_25_code (2 : Nat) (Option.some Jvm.ClassFile.FieldType.boolean)).before args0 about1 = true := code_word (m := ⟨11, 6⟩) (meth := k11m6) (c := k11c6) (by decide +kernel) rfl rfl rfl (by decide +kernel)
set_option maxRecDepth 65536 in
theorem w_c8 : (Jvm.Cond.code ({ cls := "java/util/ArrayList", name := "add", desc := "(Ljava/lang/Object;[Ljava/lang/Object;I)V" } : Jvm.MethodName) jdk_38_method_24_code (4 : Nat) (Option.none : Option Jvm.ClassFile.FieldType)).before args0 about1 = true := code_word (m := ⟨11, 5⟩) (meth := k11m5) (c := k11c5) (by decide +kernel) rfl rfl rfl (by decide +kernel)
set_option maxRecDepth 65536 in
theorem w_c9 : (Jvm.Cond.code ({ cls := "java/util/ArrayList", name := "grow", desc := "()[Ljava/lang/Object;" } : Jvm.MethodName) jdk_38_method_7_code (1 : Nat) (Option.some (Jvm.ClassFile.FieldType.array (Jvm.ClassFile.FieldType.object "java/lang/Object")))).before args0 about1 = true := code_word (m := ⟨11, 2⟩) (meth := k11m2) (c := k11c2) (by decide +kernel) rfl rfl rfl (by decide +kernel)
set_option maxRecDepth 65536 in
theorem w_c10 : (Jvm.Cond.code ({ cls := "java/util/ArrayList", name := "grow", desc := "(I)[Ljava/lang/Object;" } : Jvm.MethodName) jdk_38_method_6_code (4 : Nat) (Option.some (Jvm.ClassFile.FieldType.array (Jvm.ClassFile.FieldType.object "java/lang/Object")))).before args0 about1 = true := code_word (m := ⟨11, 1⟩) (meth := k11m1) (c := k11c1) (by decide +kernel) rfl rfl rfl (by decide +kernel)
set_option maxRecDepth 65536 in
theorem w_c11 : (Jvm.Cond.code ({ cls := "java/lang/Math", name := "max", desc := "(II)I" } : Jvm.MethodName) jdk_29_method_65_code (2 : Nat) (Option.some Jvm.ClassFile.FieldType.int)).before args0 about1 = true := code_word (m := ⟨14, 1⟩) (meth := k14m1) (c := k14c1) (by decide +kernel) rfl rfl rfl (by decide +kernel)
set_option maxRecDepth 65536 in
theorem w_c12 : (Jvm.Cond.code ({ cls := "com/example/skyroster/skyroster/Satellite", name := "<init>", desc := "(Ljava/lang/String;Ljava/lang/String;Ljava/util/List;DJJJLjava/util/List;)V" } : Jvm.MethodName) prog_15_method_1_code (13 : Nat) (Option.none : Option Jvm.ClassFile.FieldType)).before args0 about1 = true := code_word (m := ⟨15, 0⟩) (meth := k15m0) (c := k15c0) (by decide +kernel) rfl rfl rfl (by decide +kernel)
set_option maxRecDepth 65536 in
theorem w_c13 : (Jvm.Cond.code ({ cls := "java/util/List", name := "copyOf", desc := "(Ljava/util/Collection;)Ljava/util/List;" } : Jvm.MethodName) jdk_40_method_48_code (1 : Nat) (Option.some (Jvm.ClassFile.FieldType.object "java/util/List"))).before args0 about1 = true := code_word (m := ⟨6, 3⟩) (meth := k6m3) (c := k6c3) (by decide +kernel) rfl rfl rfl (by decide +kernel)
set_option maxRecDepth 65536 in
theorem w_c14 : (Jvm.Cond.code ({ cls := "java/util/ImmutableCollections", name := "listCopy", desc := "(Ljava/util/Collection;)Ljava/util/List;" } : Jvm.MethodName) jdk_56_method_3_code (2 : Nat) (Option.some (Jvm.ClassFile.FieldType.object "java/util/List"))).before args0 about1 = true := code_word (m := ⟨21, 1⟩) (meth := k21m1) (c := k21c1) (by decide +kernel) rfl rfl rfl (by decide +kernel)
set_option maxRecDepth 65536 in
theorem w_c15 : (Jvm.Cond.code ({ cls := "java/util/ArrayList", name := "isEmpty", desc := "()Z" } : Jvm.MethodName) jdk_38_method_9_code (1 : Nat) (Option.some Jvm.ClassFile.FieldType.boolean)).before args0 about1 = true := code_word (m := ⟨11, 3⟩) (meth := k11m3) (c := k11c3) (by decide +kernel) rfl rfl rfl (by decide +kernel)
set_option maxRecDepth 65536 in
theorem w_c16 : (Jvm.Cond.code ({ cls := "java/util/List", name := "of", desc := "()Ljava/util/List;" } : Jvm.MethodName) jdk_40_method_36_code (0 : Nat) (Option.some (Jvm.ClassFile.FieldType.object "java/util/List"))).before args0 about1 = true := code_word (m := ⟨6, 1⟩) (meth := k6m1) (c := k6c1) (by decide +kernel) rfl rfl rfl (by decide +kernel)
set_option maxRecDepth 65536 in
theorem w_c17 : (Jvm.Cond.code ({ cls := "java/util/ArrayList", name := "toArray", desc := "()[Ljava/lang/Object;" } : Jvm.MethodName) jdk_38_method_16_code (1 : Nat) (Option.some (Jvm.ClassFile.FieldType.array (Jvm.ClassFile.FieldType.object "java/lang/Object")))).before args0 about1 = true := code_word (m := ⟨11, 4⟩) (meth := k11m4) (c := k11c4) (by decide +kernel) rfl rfl rfl (by decide +kernel)
set_option maxRecDepth 65536 in
theorem w_c18 : (Jvm.Cond.code ({ cls := "java/util/Arrays", name := "copyOf", desc := "([Ljava/lang/Object;I)[Ljava/lang/Object;" } : Jvm.MethodName) jdk_65_method_119_code (2 : Nat) (Option.some (Jvm.ClassFile.FieldType.array (Jvm.ClassFile.FieldType.object "java/lang/Object")))).before args0 about1 = true := code_word (m := ⟨26, 1⟩) (meth := k26m1) (c := k26c1) (by decide +kernel) rfl rfl rfl (by decide +kernel)
set_option maxRecDepth 65536 in
theorem w_c19 : (Jvm.Cond.code ({ cls := "java/util/Arrays", name := "copyOf", desc := "([Ljava/lang/Object;ILjava/lang/Class;)[Ljava/lang/Object;" } : Jvm.MethodName) jdk_65_method_120_code (4 : Nat) (Option.some (Jvm.ClassFile.FieldType.array (Jvm.ClassFile.FieldType.object "java/lang/Object")))).before args0 about1 = true := code_word (m := ⟨26, 2⟩) (meth := k26m2) (c := k26c2) (by decide +kernel) rfl rfl rfl (by decide +kernel)
set_option maxRecDepth 65536 in
theorem w_c20 : (Jvm.Cond.code ({ cls := "java/lang/Math", name := "min", desc := "(II)I" } : Jvm.MethodName) jdk_29_method_69_code (2 : Nat) (Option.some Jvm.ClassFile.FieldType.int)).before args0 about1 = true := code_word (m := ⟨14, 2⟩) (meth := k14m2) (c := k14c2) (by decide +kernel) rfl rfl rfl (by decide +kernel)
set_option maxRecDepth 65536 in
theorem w_c21 : (Jvm.Cond.code ({ cls := "java/util/List", name := "of", desc := "([Ljava/lang/Object;)Ljava/util/List;" } : Jvm.MethodName) jdk_40_method_47_code (2 : Nat) (Option.some (Jvm.ClassFile.FieldType.object "java/util/List"))).before args0 about1 = true := code_word (m := ⟨6, 2⟩) (meth := k6m2) (c := k6c2) (by decide +kernel) rfl rfl rfl (by decide +kernel)
set_option maxRecDepth 65536 in
theorem w_c22 : (Jvm.Cond.code ({ cls := "java/util/ImmutableCollections$List12", name := "<init>", desc := "(Ljava/lang/Object;)V" } : Jvm.MethodName) jdk_44_method_1_code (2 : Nat) (Option.none : Option Jvm.ClassFile.FieldType)).before args0 about1 = true := code_word (m := ⟨24, 0⟩) (meth := k24m0) (c := k24c0) (by decide +kernel) rfl rfl rfl (by decide +kernel)
set_option maxRecDepth 65536 in
theorem w_c23 : (Jvm.Cond.code ({ cls := "java/util/ImmutableCollections$AbstractImmutableList", name := "<init>", desc := "()V" } : Jvm.MethodName) jdk_46_method_1_code (1 : Nat) (Option.none : Option Jvm.ClassFile.FieldType)).before args0 about1 = true := code_word (m := ⟨23, 0⟩) (meth := k23m0) (c := k23c0) (by decide +kernel) rfl rfl rfl (by decide +kernel)
set_option maxRecDepth 65536 in
theorem w_c24 : (Jvm.Cond.code ({ cls := "java/util/ImmutableCollections$AbstractImmutableCollection", name := "<init>", desc := "()V" } : Jvm.MethodName) jdk_47_method_1_code (1 : Nat) (Option.none : Option Jvm.ClassFile.FieldType)).before args0 about1 = true := code_word (m := ⟨22, 0⟩) (meth := k22m0) (c := k22c0) (by decide +kernel) rfl rfl rfl (by decide +kernel)
set_option maxRecDepth 65536 in
theorem w_c25 : (Jvm.Cond.code ({ cls := "java/util/Objects", name := "requireNonNull", desc := "(Ljava/lang/Object;)Ljava/lang/Object;" } : Jvm.MethodName) jdk_31_method_10_code (1 : Nat) (Option.some (Jvm.ClassFile.FieldType.object "java/lang/Object"))).before args0 about1 = true := code_word (m := ⟨28, 1⟩) (meth := k28m1) (c := k28c1) (by decide +kernel) rfl rfl rfl (by decide +kernel)
set_option maxRecDepth 65536 in
theorem w_c26 : (Jvm.Cond.code ({ cls := "com/example/skyroster/skyroster/CostShare", name := "<init>", desc := "(Lcom/example/skyroster/skyroster/Satellite;)V" } : Jvm.MethodName) prog_2_method_1_code (2 : Nat) (Option.none : Option Jvm.ClassFile.FieldType)).before args0 about1 = true := code_word (m := ⟨29, 0⟩) (meth := k29m0) (c := k29c0) (by decide +kernel) rfl rfl rfl (by decide +kernel)
set_option maxRecDepth 65536 in
theorem w_c27 : (Jvm.Cond.code ({ cls := "com/example/skyroster/skyroster/Satellite", name := "costCoefficient", desc := "()D" } : Jvm.MethodName) prog_15_method_8_code (1 : Nat) (Option.some Jvm.ClassFile.FieldType.double)).before args0 about1 = true := code_word (m := ⟨15, 1⟩) (meth := k15m1) (c := k15c1) (by decide +kernel) rfl rfl rfl (by decide +kernel)
set_option maxRecDepth 65536 in
theorem w_c28 : (Jvm.Cond.code ({ cls := "com/example/skyroster/skyroster/Satellite", name := "usedWindows", desc := "()Ljava/util/List;" } : Jvm.MethodName) prog_15_method_12_code (1 : Nat) (Option.some (Jvm.ClassFile.FieldType.object "java/util/List"))).before args0 about1 = true := code_word (m := ⟨15, 2⟩) (meth := k15m2) (c := k15c2) (by decide +kernel) rfl rfl rfl (by decide +kernel)
set_option maxRecDepth 65536 in
theorem w_c29 : (Jvm.Cond.code ({ cls := "java/util/ImmutableCollections$List12", name := "size", desc := "()I" } : Jvm.MethodName) jdk_44_method_3_code (1 : Nat) (Option.some Jvm.ClassFile.FieldType.int)).before args0 about1 = true := code_word (m := ⟨24, 1⟩) (meth := k24m1) (c := k24c1) (by decide +kernel) rfl rfl rfl (by decide +kernel)
set_option maxRecDepth 65536 in
theorem w_c30 : (Jvm.Cond.code ({ cls := "com/example/skyroster/skyroster/CostShare", name := "give", desc := "(D)V" } : Jvm.MethodName) prog_2_method_4_code (3 : Nat) (Option.none : Option Jvm.ClassFile.FieldType)).before args0 about1 = true := code_word (m := ⟨29, 3⟩) (meth := k29m3) (c := k29c3) (by decide +kernel) rfl rfl rfl (by decide +kernel)
set_option maxRecDepth 65536 in
theorem w_c31 : (Jvm.Cond.code ({ cls := "com/example/skyroster/skyroster/CostShare", name := "windowCount", desc := "()I" } : Jvm.MethodName) prog_2_method_2_code (1 : Nat) (Option.some Jvm.ClassFile.FieldType.int)).before args0 about1 = true := code_word (m := ⟨29, 1⟩) (meth := k29m1) (c := k29c1) (by decide +kernel) rfl rfl rfl (by decide +kernel)
set_option maxRecDepth 65536 in
theorem w_c32 : (Jvm.Cond.code ({ cls := "com/example/skyroster/skyroster/CostShare", name := "increase", desc := "(D)D" } : Jvm.MethodName) prog_2_method_3_code (3 : Nat) (Option.some Jvm.ClassFile.FieldType.double)).before args0 about1 = true := code_word (m := ⟨29, 2⟩) (meth := k29m2) (c := k29c2) (by decide +kernel) rfl rfl rfl (by decide +kernel)
set_option maxRecDepth 65536 in
theorem w_c33 : (Jvm.Cond.code ({ cls := "com/example/skyroster/skyroster/CostShare", name := "takeBack", desc := "(DD)V" } : Jvm.MethodName) prog_2_method_5_code (5 : Nat) (Option.none : Option Jvm.ClassFile.FieldType)).before args0 about1 = true := code_word (m := ⟨29, 4⟩) (meth := k29m4) (c := k29c4) (by decide +kernel) rfl rfl rfl (by decide +kernel)
set_option maxRecDepth 65536 in
theorem w_c34 : (Jvm.Cond.code ({ cls := "java/util/ImmutableCollections$ListN", name := "size", desc := "()I" } : Jvm.MethodName) jdk_45_method_3_code (1 : Nat) (Option.some Jvm.ClassFile.FieldType.int)).before args0 about1 = true := code_word (m := ⟨25, 0⟩) (meth := k25m0) (c := k25c0) (by decide +kernel) rfl rfl rfl (by decide +kernel)
def codes1 : List Jvm.Cond := [Jvm.Cond.code x code maxLocals ret, Jvm.Cond.code ({ cls := "java/util/ArrayList", name := "<init>", desc := "()V" } : Jvm.MethodName) jdk_38_method_2_code (1 : Nat) (Option.none : Option Jvm.ClassFile.FieldType), Jvm.Cond.code ({ cls := "java/util/AbstractList", name := "<init>", desc := "()V" } : Jvm.MethodName) jdk_39_method_1_code (1 : Nat) (Option.none : Option Jvm.ClassFile.FieldType), Jvm.Cond.code ({ cls := "java/util/AbstractCollection", name := "<init>", desc := "()V" } : Jvm.MethodName) jdk_22_method_1_code (1 : Nat) (Option.none : Option Jvm.ClassFile.FieldType), Jvm.Cond.code ({ cls := "java/lang/Object", name := "<init>", desc := "()V" } : Jvm.MethodName) object_method_1_code (1 : Nat) (Option.none : Option Jvm.ClassFile.FieldType), Jvm.Cond.code ({ cls := "com/example/skyroster/skyroster/UsedWindow", name := "<init>", desc := "(JJJ)V" } : Jvm.MethodName) prog_24_method_1_code (7 : Nat) (Option.none : Option Jvm.ClassFile.FieldType), Jvm.Cond.code ({ cls := "java/lang/Record", name := "<init>", desc := "()V" } : Jvm.MethodName) jdk_30_method_1_code (1 : Nat) (Option.none : Option Jvm.ClassFile.FieldType), Jvm.Cond.code ({ cls := "java/util/ArrayList", name := "add", desc := "(Ljava/lang/Object;)Z" } : Jvm.MethodName) jdk_38_method_25_code (2 : Nat) (Option.some Jvm.ClassFile.FieldType.boolean), Jvm.Cond.code ({ cls := "java/util/ArrayList", name := "add", desc := "(Ljava/lang/Object;[Ljava/lang/Object;I)V" } : Jvm.MethodName) jdk_38_method_24_code (4 : Nat) (Option.none : Option Jvm.ClassFile.FieldType), Jvm.Cond.code ({ cls := "java/util/ArrayList", name := "grow", desc := "()[Ljava/lang/Object;" } : Jvm.MethodName) jdk_38_method_7_code (1 : Nat) (Option.some (Jvm.ClassFile.FieldType.array (Jvm.ClassFile.FieldType.object "java/lang/Object"))), Jvm.Cond.code ({ cls := "java/util/ArrayList", name := "grow", desc := "(I)[Ljava/lang/Object;" } : Jvm.MethodName) jdk_38_method_6_code (4 : Nat) (Option.some (Jvm.ClassFile.FieldType.array (Jvm.ClassFile.FieldType.object "java/lang/Object"))), Jvm.Cond.code ({ cls := "java/lang/Math", name := "max", desc := "(II)I" } : Jvm.MethodName) jdk_29_method_65_code (2 : Nat) (Option.some Jvm.ClassFile.FieldType.int), Jvm.Cond.code ({ cls := "com/example/skyroster/skyroster/Satellite", name := "<init>", desc := "(Ljava/lang/String;Ljava/lang/String;Ljava/util/List;DJJJLjava/util/List;)V" } : Jvm.MethodName) prog_15_method_1_code (13 : Nat) (Option.none : Option Jvm.ClassFile.FieldType), Jvm.Cond.code ({ cls := "java/util/List", name := "copyOf", desc := "(Ljava/util/Collection;)Ljava/util/List;" } : Jvm.MethodName) jdk_40_method_48_code (1 : Nat) (Option.some (Jvm.ClassFile.FieldType.object "java/util/List")), Jvm.Cond.code ({ cls := "java/util/ImmutableCollections", name := "listCopy", desc := "(Ljava/util/Collection;)Ljava/util/List;" } : Jvm.MethodName) jdk_56_method_3_code (2 : Nat) (Option.some (Jvm.ClassFile.FieldType.object "java/util/List")), Jvm.Cond.code ({ cls := "java/util/ArrayList", name := "isEmpty", desc := "()Z" } : Jvm.MethodName) jdk_38_method_9_code (1 : Nat) (Option.some Jvm.ClassFile.FieldType.boolean), Jvm.Cond.code ({ cls := "java/util/List", name := "of", desc := "()Ljava/util/List;" } : Jvm.MethodName) jdk_40_method_36_code (0 : Nat) (Option.some (Jvm.ClassFile.FieldType.object "java/util/List")), Jvm.Cond.code ({ cls := "java/util/ArrayList", name := "toArray", desc := "()[Ljava/lang/Object;" } : Jvm.MethodName) jdk_38_method_16_code (1 : Nat) (Option.some (Jvm.ClassFile.FieldType.array (Jvm.ClassFile.FieldType.object "java/lang/Object"))), Jvm.Cond.code ({ cls := "java/util/Arrays", name := "copyOf", desc := "([Ljava/lang/Object;I)[Ljava/lang/Object;" } : Jvm.MethodName) jdk_65_method_119_code (2 : Nat) (Option.some (Jvm.ClassFile.FieldType.array (Jvm.ClassFile.FieldType.object "java/lang/Object"))), Jvm.Cond.code ({ cls := "java/util/Arrays", name := "copyOf", desc := "([Ljava/lang/Object;ILjava/lang/Class;)[Ljava/lang/Object;" } : Jvm.MethodName) jdk_65_method_120_code (4 : Nat) (Option.some (Jvm.ClassFile.FieldType.array (Jvm.ClassFile.FieldType.object "java/lang/Object"))), Jvm.Cond.code ({ cls := "java/lang/Math", name := "min", desc := "(II)I" } : Jvm.MethodName) jdk_29_method_69_code (2 : Nat) (Option.some Jvm.ClassFile.FieldType.int), Jvm.Cond.code ({ cls := "java/util/List", name := "of", desc := "([Ljava/lang/Object;)Ljava/util/List;" } : Jvm.MethodName) jdk_40_method_47_code (2 : Nat) (Option.some (Jvm.ClassFile.FieldType.object "java/util/List")), Jvm.Cond.code ({ cls := "java/util/ImmutableCollections$List12", name := "<init>", desc := "(Ljava/lang/Object;)V" } : Jvm.MethodName) jdk_44_method_1_code (2 : Nat) (Option.none : Option Jvm.ClassFile.FieldType), Jvm.Cond.code ({ cls := "java/util/ImmutableCollections$AbstractImmutableList", name := "<init>", desc := "()V" } : Jvm.MethodName) jdk_46_method_1_code (1 : Nat) (Option.none : Option Jvm.ClassFile.FieldType), Jvm.Cond.code ({ cls := "java/util/ImmutableCollections$AbstractImmutableCollection", name := "<init>", desc := "()V" } : Jvm.MethodName) jdk_47_method_1_code (1 : Nat) (Option.none : Option Jvm.ClassFile.FieldType), Jvm.Cond.code ({ cls := "java/util/Objects", name := "requireNonNull", desc := "(Ljava/lang/Object;)Ljava/lang/Object;" } : Jvm.MethodName) jdk_31_method_10_code (1 : Nat) (Option.some (Jvm.ClassFile.FieldType.object "java/lang/Object")), Jvm.Cond.code ({ cls := "com/example/skyroster/skyroster/CostShare", name := "<init>", desc := "(Lcom/example/skyroster/skyroster/Satellite;)V" } : Jvm.MethodName) prog_2_method_1_code (2 : Nat) (Option.none : Option Jvm.ClassFile.FieldType), Jvm.Cond.code ({ cls := "com/example/skyroster/skyroster/Satellite", name := "costCoefficient", desc := "()D" } : Jvm.MethodName) prog_15_method_8_code (1 : Nat) (Option.some Jvm.ClassFile.FieldType.double), Jvm.Cond.code ({ cls := "com/example/skyroster/skyroster/Satellite", name := "usedWindows", desc := "()Ljava/util/List;" } : Jvm.MethodName) prog_15_method_12_code (1 : Nat) (Option.some (Jvm.ClassFile.FieldType.object "java/util/List")), Jvm.Cond.code ({ cls := "java/util/ImmutableCollections$List12", name := "size", desc := "()I" } : Jvm.MethodName) jdk_44_method_3_code (1 : Nat) (Option.some Jvm.ClassFile.FieldType.int), Jvm.Cond.code ({ cls := "com/example/skyroster/skyroster/CostShare", name := "give", desc := "(D)V" } : Jvm.MethodName) prog_2_method_4_code (3 : Nat) (Option.none : Option Jvm.ClassFile.FieldType), Jvm.Cond.code ({ cls := "com/example/skyroster/skyroster/CostShare", name := "windowCount", desc := "()I" } : Jvm.MethodName) prog_2_method_2_code (1 : Nat) (Option.some Jvm.ClassFile.FieldType.int), Jvm.Cond.code ({ cls := "com/example/skyroster/skyroster/CostShare", name := "increase", desc := "(D)D" } : Jvm.MethodName) prog_2_method_3_code (3 : Nat) (Option.some Jvm.ClassFile.FieldType.double), Jvm.Cond.code ({ cls := "com/example/skyroster/skyroster/CostShare", name := "takeBack", desc := "(DD)V" } : Jvm.MethodName) prog_2_method_5_code (5 : Nat) (Option.none : Option Jvm.ClassFile.FieldType), Jvm.Cond.code ({ cls := "java/util/ImmutableCollections$ListN", name := "size", desc := "()I" } : Jvm.MethodName) jdk_45_method_3_code (1 : Nat) (Option.some Jvm.ClassFile.FieldType.int)]
set_option maxRecDepth 65536 in
theorem codes_eq : words1.filter isCode = codes1 := rfl
theorem w_codes : ∀ c ∈ words1.filter isCode, c.before args0 about1 = true := by
  rw [codes_eq]
  intro c hc
  simp only [codes1, List.mem_cons, List.not_mem_nil, or_false] at hc
  rcases hc with rfl | rfl | rfl | rfl | rfl | rfl | rfl | rfl | rfl | rfl | rfl | rfl | rfl | rfl | rfl | rfl | rfl | rfl | rfl | rfl | rfl | rfl | rfl | rfl | rfl | rfl | rfl | rfl | rfl | rfl | rfl | rfl | rfl | rfl | rfl
  · exact w_c0
  · exact w_c1
  · exact w_c2
  · exact w_c3
  · exact w_c4
  · exact w_c5
  · exact w_c6
  · exact w_c7
  · exact w_c8
  · exact w_c9
  · exact w_c10
  · exact w_c11
  · exact w_c12
  · exact w_c13
  · exact w_c14
  · exact w_c15
  · exact w_c16
  · exact w_c17
  · exact w_c18
  · exact w_c19
  · exact w_c20
  · exact w_c21
  · exact w_c22
  · exact w_c23
  · exact w_c24
  · exact w_c25
  · exact w_c26
  · exact w_c27
  · exact w_c28
  · exact w_c29
  · exact w_c30
  · exact w_c31
  · exact w_c32
  · exact w_c33
  · exact w_c34
set_option maxRecDepth 65536 in
theorem w_t1 : (words1.take 24).all (fun c => isCode c || c.before args0 about1) = true := by decide +kernel
set_option maxRecDepth 65536 in
theorem w_t2 : ((words1.drop 24).take 24).all (fun c => isCode c || c.before args0 about1) = true := by decide +kernel
set_option maxRecDepth 65536 in
theorem w_t3 : (((words1.drop 24).drop 24).take 24).all (fun c => isCode c || c.before args0 about1) = true := by decide +kernel
set_option maxRecDepth 65536 in
theorem w_t4 : ((((words1.drop 24).drop 24).drop 24).take 24).all (fun c => isCode c || c.before args0 about1) = true := by decide +kernel
set_option maxRecDepth 65536 in
theorem w_t5 : (((((words1.drop 24).drop 24).drop 24).drop 24).take 24).all (fun c => isCode c || c.before args0 about1) = true := by decide +kernel
set_option maxRecDepth 65536 in
theorem w_t6 : ((((((words1.drop 24).drop 24).drop 24).drop 24).drop 24).take 24).all (fun c => isCode c || c.before args0 about1) = true := by decide +kernel
set_option maxRecDepth 65536 in
theorem w_t7 : (((((((words1.drop 24).drop 24).drop 24).drop 24).drop 24).drop 24).take 24).all (fun c => isCode c || c.before args0 about1) = true := by decide +kernel
set_option maxRecDepth 65536 in
theorem w_t8 : ((((((((words1.drop 24).drop 24).drop 24).drop 24).drop 24).drop 24).drop 24).take 24).all (fun c => isCode c || c.before args0 about1) = true := by decide +kernel
set_option maxRecDepth 65536 in
theorem w_t9 : (((((((((words1.drop 24).drop 24).drop 24).drop 24).drop 24).drop 24).drop 24).drop 24).take 24).all (fun c => isCode c || c.before args0 about1) = true := by decide +kernel
set_option maxRecDepth 65536 in
theorem w_t10 : ((((((((((words1.drop 24).drop 24).drop 24).drop 24).drop 24).drop 24).drop 24).drop 24).drop 24).take 24).all (fun c => isCode c || c.before args0 about1) = true := by decide +kernel
set_option maxRecDepth 65536 in
theorem w_t11 : (((((((((((words1.drop 24).drop 24).drop 24).drop 24).drop 24).drop 24).drop 24).drop 24).drop 24).drop 24).take 24).all (fun c => isCode c || c.before args0 about1) = true := by decide +kernel
set_option maxRecDepth 65536 in
theorem w_t12 : (((((((((((words1.drop 24).drop 24).drop 24).drop 24).drop 24).drop 24).drop 24).drop 24).drop 24).drop 24).drop 24).all (fun c => isCode c || c.before args0 about1) = true := by decide +kernel
theorem w_tables : (allAtoms (Jvm.Cond.code x code maxLocals ret :: tables_1)).before args0 about1 = true := by
  rw [allAtoms_all]
  show words1.all (fun c => c.before args0 about1) = true
  refine all_split ?_ w_codes
  rw [← List.take_append_drop 24 words1, List.all_append, w_t1, ← List.take_append_drop 24 (words1.drop 24), List.all_append, w_t2, ← List.take_append_drop 24 ((words1.drop 24).drop 24), List.all_append, w_t3, ← List.take_append_drop 24 (((words1.drop 24).drop 24).drop 24), List.all_append, w_t4, ← List.take_append_drop 24 ((((words1.drop 24).drop 24).drop 24).drop 24), List.all_append, w_t5, ← List.take_append_drop 24 (((((words1.drop 24).drop 24).drop 24).drop 24).drop 24), List.all_append, w_t6, ← List.take_append_drop 24 ((((((words1.drop 24).drop 24).drop 24).drop 24).drop 24).drop 24), List.all_append, w_t7, ← List.take_append_drop 24 (((((((words1.drop 24).drop 24).drop 24).drop 24).drop 24).drop 24).drop 24), List.all_append, w_t8, ← List.take_append_drop 24 ((((((((words1.drop 24).drop 24).drop 24).drop 24).drop 24).drop 24).drop 24).drop 24), List.all_append, w_t9, ← List.take_append_drop 24 (((((((((words1.drop 24).drop 24).drop 24).drop 24).drop 24).drop 24).drop 24).drop 24).drop 24), List.all_append, w_t10, ← List.take_append_drop 24 ((((((((((words1.drop 24).drop 24).drop 24).drop 24).drop 24).drop 24).drop 24).drop 24).drop 24).drop 24), List.all_append, w_t11, w_t12]
  rfl
set_option maxRecDepth 65536 in
theorem w_rest : rest_1_c.before args0 about1 = true := by decide +kernel
set_option maxRecDepth 65536 in
theorem w_case : (Jvm.Cond.and given_1 narrow_1).before args0 about1 = true := by decide +kernel
theorem w_applies : (headSpec (Jvm.Cond.code x code maxLocals ret :: tables_1) room_1).applies x e0.platform about1 = true :=
  (Spec.applies_iff w_frames).mpr ⟨w_running, w_runnable, w_alone, w_named, w_hears, w_ripe, w_room, w_tables⟩
theorem atStart : AtStart classFile x code maxLocals ret World_1 tables_1 room_1 Calls_1 rest_1 Pre_1 launch0 p0 e0 about1 theMethod args0 below0 :=
  ⟨lists_1, trivial, launch0.admits_env _ _ _, launch0.least_env, fairChoices_fair.cas, fairChoices_fair.clock, w_frames, w_args, w_heap, w_applies, ⟨⟨35, k35, 2, by decide +kernel, rfl, rfl, _, rfl, rfl⟩, trivial⟩, w_rest, w_case⟩
end start1
theorem witness_1 : WitnessClaimed_1 := ⟨start1.p0, start1.e0, start1.about1, start1.theMethod, start1.args0, start1.below0, start1.atStart⟩
end Jvm.Pilot.@@N@@
