import JvmDerived
import JvmDerived.Pilot.@@N@@Statement
import JvmDerived.Pilot.@@N@@Code
set_option linter.unusedVariables false
set_option linter.unusedSimpArgs false
namespace Jvm.Pilot.@@N@@
open Jvm Jvm.ClassFile Sem Op Lib Jvm.Free Jvm.Stand Jvm.LawKit Jvm.RoadKit Bundle Jvm.Pilot.@@N@@.Jvm.D
section OwnRun
variable {p : Program} {l : Launch} {e : Env} {R : Room} {s : State} {m : MethodId} {args : Array Value} {below : List Frame} {meth : Method} {c : Code} {T T' : State} {locs : List Loc} {cells slots : Nat}
/-- from here the run ends, as G says -/
def own_Run (p : Program) (e : Env) (below : List Frame) (G : Outcome → State → Prop) (T : State) (g : JFrame) : Prop :=
  ∃ s₂ o, Steps p.tables e below (T.setTop g) s₂ ∧ s₂.status = .running ∧ Ended s₂ below o ∧ G o s₂
theorem own_go {G : Outcome → State → Prop} {g g' : JFrame} (h : ∀ t, Steps p.tables e below (T'.setTop g') t → Steps p.tables e below (T.setTop g) t) (k : own_Run p e below G T' g') : own_Run p e below G T g := by
  obtain ⟨s₂, o, h1, h2, h3, h4⟩ := k
  exact ⟨s₂, o, h _ h1, h2, h3, h4⟩
theorem own_goT {G : Outcome → State → Prop} {g g' : JFrame} (h : Steps p.tables e below (T.setTop g) (T'.setTop g')) (k : own_Run p e below G T' g') : own_Run p e below G T g :=
  own_go (fun _ q => h.trans q) k
theorem own_start {G : Outcome → State → Prop} {f f' : JFrame} (h : f = f') (k : own_Run p e below G T f') : ∃ s₂ o, Steps p.tables e below (T.setTop f) s₂ ∧ s₂.status = .running ∧ Ended s₂ below o ∧ G o s₂ := by
  subst h
  exact k
theorem own_done {Q : Option Value → Heap → List Loc → Prop} {C N : Nat} {g : JFrame} (X : Stand p l e R s m args below meth c T locs cells slots) {v : Option Value} (hv : meth.sig.returnType = none → v = none) (hlocks : meth.locks = false)
    (hstep : ∀ fs, (∀ (f : JFrame) (acts : List Action), f.method = m → f.locked = none → f.entered = [] → (doReturn e (T.setTop f) acts v).1 = T.setFrames fs) → Steps p.tables e below (T.setTop g) (T.setFrames fs))
    (hQ : Q v T.heap locs) (hc : cells ≤ C) (hs : slots ≤ N) :
    own_Run p e below (fun o U' => ∃ v L, o = .returned v ∧ Q v U'.heap L ∧ FrameEnd s o U' L C N) T g := by
  obtain ⟨fs, hr, hrun, hended, hW, hsame⟩ := X.leave hv hlocks
  exact ⟨_, _, hstep fs hr, hrun, hended, _, _, rfl, hQ, ⟨_, rfl⟩, hW, hsame.mono hc hs⟩
theorem own_doneW {vm₁ : Vm} {n : Nat} {Q : Option Value → Heap → List Loc → Prop} {C N : Nat} {g : JFrame} (X : Stand p l e R (s.setVm vm₁) m args below meth c T locs cells slots) (hS : s.Since vm₁ n) (hn : n ≤ T.heap.size) {v : Option Value} (hv : meth.sig.returnType = none → v = none) (hlocks : meth.locks = false)
    (hstep : ∀ fs, (∀ (f : JFrame) (acts : List Action), f.method = m → f.locked = none → f.entered = [] → (doReturn e (T.setTop f) acts v).1 = T.setFrames fs) → Steps p.tables e below (T.setTop g) (T.setFrames fs))
    (hQ : Q v T.heap locs) (hc : cells ≤ C) (hs : slots ≤ N) :
    own_Run p e below (fun o U' => ∃ v L, o = .returned v ∧ Q v U'.heap L ∧ ReturnedEndW s o U' L C N) T g := by
  obtain ⟨fs, hr, hrun, hended, a, b, d, hsame⟩ := X.leaveW hS hn hv hlocks
  exact ⟨_, _, hstep fs hr, hrun, hended, _, _, rfl, hQ, a, b, d, hsame.mono hc hs⟩
theorem own_mono {cells' slots' : Nat} (X : Stand p l e R s m args below meth c T locs cells slots) (hc : cells ≤ cells') (hs : slots ≤ slots') : Stand p l e R s m args below meth c T locs cells' slots' :=
  ⟨X.admits, X.cas, X.clock, X.frames, X.room, X.hears, X.method, X.code, X.here, X.tail, X.warmed, X.limits, X.bytes, X.same.mono hc hs⟩
theorem own_retI (X : Stand p l e R s m args below meth c T locs cells slots) (hx : p.tables.exec = Jvm.exec) {pc : Nat} {Ls : Array Slot} {z : Int32} {rest : List Value} (hret : meth.sig.returnType = some .int) (hd : decode c.code pc = .ok (.ireturn, 1)) {fs : List Frame}
    (hl : ∀ (f : JFrame) (acts : List Action), f.method = m → f.locked = none → f.entered = [] → (doReturn e (T.setTop f) acts (some (.int z))).1 = T.setFrames fs) : Steps p.tables e below (T.setTop (mkF m pc Ls (.int z :: rest))) (T.setFrames fs) :=
  retOut X hx hret rfl (Or.inl ⟨rfl, Or.inl rfl, z, rfl⟩) hd hl
theorem own_retL (X : Stand p l e R s m args below meth c T locs cells slots) (hx : p.tables.exec = Jvm.exec) {pc : Nat} {Ls : Array Slot} {z : Int64} {rest : List Value} (hret : meth.sig.returnType = some .long) (hd : decode c.code pc = .ok (.lreturn, 1)) {fs : List Frame}
    (hl : ∀ (f : JFrame) (acts : List Action), f.method = m → f.locked = none → f.entered = [] → (doReturn e (T.setTop f) acts (some (.long z))).1 = T.setFrames fs) : Steps p.tables e below (T.setTop (mkF m pc Ls (.long z :: rest))) (T.setFrames fs) :=
  retOut X hx hret rfl (Or.inr (Or.inl ⟨rfl, rfl, z, rfl⟩)) hd hl
theorem own_retA {t : FieldType} (X : Stand p l e R s m args below meth c T locs cells slots) (hx : p.tables.exec = Jvm.exec) {pc : Nat} {Ls : Array Slot} {w : Value} {rest : List Value} (hret : meth.sig.returnType = some t) (ht : t.isReference = true) (hn : narrow t w = w) (hw : w.isRef = true) (hd : decode c.code pc = .ok (.areturn, 1)) {fs : List Frame}
    (hl : ∀ (f : JFrame) (acts : List Action), f.method = m → f.locked = none → f.entered = [] → (doReturn e (T.setTop f) acts (some w)).1 = T.setFrames fs) : Steps p.tables e below (T.setTop (mkF m pc Ls (w :: rest))) (T.setFrames fs) :=
  retOut X hx hret hn (Or.inr (Or.inr (Or.inr (Or.inr ⟨rfl, ht, hw⟩)))) hd hl
theorem own_ns {Z : State} {h : Heap} {a : Addr} {C : String} (E : Exa Z h a C) : ∃ c : Cell, h[a]? = some c ∧ c.vm.isStatics = false := by
  obtain ⟨c, k, h1, -, -, h4, -⟩ := E
  exact ⟨c, h1, h4⟩
theorem own_nsV {Z : State} {h : Heap} {a : Addr} {k : ClassId} {ty : FieldType} {n : Int32} {vs : List Value} {d : Value} (V : Arv Z h a k ty n vs d) : ∃ c : Cell, h[a]? = some c ∧ c.vm.isStatics = false := by
  obtain ⟨c, A, -⟩ := V
  exact ⟨c, A.1, A.plain⟩
theorem own_staKeep {Z : State} {h h' : Heap} {ws : List Addr} {C n d : String} {w : Value} (F : Sta Z h C n d w) (K : Keep h h' ws) (q : ∀ x ∈ ws, ∃ c : Cell, h[x]? = some c ∧ c.vm.isStatics = false) : Sta Z h' C n d w := by
  obtain ⟨cf, i, k, f, st, cell, h1, h2, h3, h4, h5, h6, h7⟩ := F
  refine ⟨cf, i, k, f, st, cell, h1, h2, h3, h4, K.2.1 st cell h5 (fun hm => ?_), h6, h7⟩
  obtain ⟨c, e1, e2⟩ := q st hm
  cases h5.symm.trans e1
  rw [h6] at e2; cases e2
theorem own_eqL {args : Array Value} {first s : State} {o : Option Outcome} {idx : List Nat} {t : Term} {n : Int64} (h : (Jvm.Cond.eq t (Term.long n)).value args first o s idx = some true) : t.eval args first o idx s = some (.long n) := by
  cases ht : t.eval args first o idx s with
  | none => simp [Cond.value, ht] at h
  | some x => cases x <;> simp [Cond.value, ht, Term.eval] at h ⊢ <;> exact h
theorem own_eqI {args : Array Value} {first s : State} {o : Option Outcome} {idx : List Nat} {t : Term} {n : Int32} (h : (Jvm.Cond.eq t (Term.int n)).value args first o s idx = some true) : t.eval args first o idx s = some (.int n) := by
  cases ht : t.eval args first o idx s with
  | none => simp [Cond.value, ht] at h
  | some x => cases x <;> simp [Cond.value, ht, Term.eval] at h ⊢ <;> exact h
theorem own_eqR {args : Array Value} {first s : State} {o : Option Outcome} {idx : List Nat} {t u : Term} {x : Addr} (h : (Jvm.Cond.eq t u).value args first o s idx = some true) (hu : u.eval args first o idx s = some (.ref x)) : t.eval args first o idx s = some (.ref x) := by
  cases ht : t.eval args first o idx s with
  | none => simp [Cond.value, ht] at h
  | some y => cases y <;> simp [Cond.value, ht, hu] at h ⊢ <;> exact h
theorem own_nf {s : State} {args : Array Value} {C : String} {y y' : MethodName} (hsel : (Jvm.Cond.selects C y y).before args s = true) (hc : y'.cls = y.cls) : NotFace s y' := fun r0 h0 => by
  obtain ⟨c2, r2, m2, q1, q2, q3, q4, kP, hkP, hkPi⟩ := Cond.selects_spec hsel
  have a := findClass_of_methodNamed q3
  have b := findClass_of_methodNamed h0
  rw [hc] at b
  have e := Option.some.inj (a.symm.trans b)
  exact ⟨kP, by rw [← e]; exact hkP, hkPi⟩
theorem own_selP {s : State} {args args' : Array Value} {C : String} {y y' : MethodName} (hsel : (Jvm.Cond.selects C y' y').before args s = true) (hc : y.cls = y'.cls) (hpriv : s.PrivateAt y) (hinst : (Jvm.Cond.instanceMethod y).before args' s = true) (hy : y.cls ≠ "java/lang/invoke/MethodHandle" ∧ y.cls ≠ "java/lang/invoke/VarHandle") : (Jvm.Cond.selects y.cls y y).before args' s = true := by
  obtain ⟨mk, methM, hnamed, -, -, -⟩ := Cond.instanceMethod_spec hinst
  obtain ⟨k, hk, hni⟩ := own_nf hsel hc mk hnamed
  exact selects_self_of_private (findClass_of_methodNamed hnamed) hk hni hpriv hinst hy
end OwnRun
theorem own_lcLt {x y : Int64} (h : x < y) : lcmpW x y = -1 := by
  have h1 : ¬ (x > y) := by simp only [GT.gt, Int64.lt_iff_toInt_lt] at h ⊢; omega
  have h2 : ¬ (x = y) := by rintro rfl; exact Int64.lt_irrefl h
  simp [lcmpW, h1, h2]
theorem own_lcGt {x y : Int64} (h : y < x) : lcmpW x y = 1 := by
  have h1 : x > y := h
  simp [lcmpW, h1]
theorem own_lcEq {x y : Int64} (h : x = y) : lcmpW x y = 0 := by
  subst h
  have h1 : ¬ (x > x) := Int64.lt_irrefl
  simp [lcmpW, h1]
theorem own_lcNlt {x y : Int64} (h : ¬ x < y) : lcmpW x y = 0 ∨ lcmpW x y = 1 := by
  by_cases q : x = y
  · exact Or.inl (own_lcEq q)
  · refine Or.inr (own_lcGt ?_)
    simp only [Int64.lt_iff_toInt_lt, ← Int64.toInt_inj] at h q ⊢; omega
theorem own_lcNgt {x y : Int64} (h : ¬ y < x) : lcmpW x y = 0 ∨ lcmpW x y = -1 := by
  by_cases q : x = y
  · exact Or.inl (own_lcEq q)
  · refine Or.inr (own_lcLt ?_)
    simp only [Int64.lt_iff_toInt_lt, ← Int64.toInt_inj] at h q ⊢; omega
theorem own_lcNe {x y : Int64} (h : ¬ x = y) : lcmpW x y = 1 ∨ lcmpW x y = -1 := by
  by_cases q : x < y
  · exact Or.inr (own_lcLt q)
  · refine Or.inl (own_lcGt ?_)
    simp only [Int64.lt_iff_toInt_lt, ← Int64.toInt_inj] at h q ⊢; omega
theorem own_lcT {x y : Int64} (h : x < y) : ifCond.holds .lt (lcmpW x y) = true ∧ ifCond.holds .ge (lcmpW x y) = false ∧ ifCond.holds .gt (lcmpW y x) = true ∧ ifCond.holds .le (lcmpW y x) = false := by
  rw [own_lcLt h, own_lcGt h]; decide
theorem own_lcF {x y : Int64} (h : ¬ x < y) : ifCond.holds .lt (lcmpW x y) = false ∧ ifCond.holds .ge (lcmpW x y) = true ∧ ifCond.holds .gt (lcmpW y x) = false ∧ ifCond.holds .le (lcmpW y x) = true := by
  rcases own_lcNlt h with q | q <;> rcases own_lcNgt (x := y) (y := x) h with r | r <;> rw [q, r] <;> decide
theorem own_lcTe {x y : Int64} (h : x = y) : ifCond.holds .eq (lcmpW x y) = true ∧ ifCond.holds .ne (lcmpW x y) = false := by
  rw [own_lcEq h]; decide
theorem own_lcFe {x y : Int64} (h : ¬ x = y) : ifCond.holds .eq (lcmpW x y) = false ∧ ifCond.holds .ne (lcmpW x y) = true := by
  rcases own_lcNe h with q | q <;> rw [q] <;> decide
theorem d1_0 : decode prog_10_method_1_code 0 = .ok (.aload_n 0, 1) := by decide +kernel
theorem d1_1 : decode prog_10_method_1_code 1 = .ok (.invokespecial 1, 3) := by decide +kernel
theorem d1_4 : decode prog_10_method_1_code 4 = .ok (.aload_n 0, 1) := by decide +kernel
theorem d1_5 : decode prog_10_method_1_code 5 = .ok (.bipush 8, 2) := by decide +kernel
theorem d1_7 : decode prog_10_method_1_code 7 = .ok (.newarray .int, 2) := by decide +kernel
theorem d1_9 : decode prog_10_method_1_code 9 = .ok (.putfield 7, 3) := by decide +kernel
theorem d1_12 : decode prog_10_method_1_code 12 = .ok (.aload_n 0, 1) := by decide +kernel
theorem d1_13 : decode prog_10_method_1_code 13 = .ok (.bipush 8, 2) := by decide +kernel
theorem d1_15 : decode prog_10_method_1_code 15 = .ok (.newarray .long, 2) := by decide +kernel
theorem d1_17 : decode prog_10_method_1_code 17 = .ok (.putfield 13, 3) := by decide +kernel
theorem d1_20 : decode prog_10_method_1_code 20 = .ok (.return_, 1) := by decide +kernel
theorem pn_1 : plainName "com/example/net_reducer/netreducer/analysis/Marking" = true := by first | (simp [plainName, overriddenIn]; done) | decide +kernel
theorem ef_1 (m : MethodId) (x0 : Addr) : entryFrame m #[(.ref x0)] 1 = mkF m 0 #[.val (.ref x0)] [] := by first | (simp [entryFrame, mkF, argsToLocals, Value.category]; done) | rfl
def Q1 (Z : State) (a1 : Addr) (u0 : Value) (u1 : Value) (h0 : Heap) (n0 : Nat) (v : Option Value) (h : Heap) (L : List Loc) : Prop := ∃ (b1 : Addr) (b2 : Addr) (k1 : ClassId) (k2 : ClassId), v = none ∧ Fr n0 L ∧ Keep h0 h [a1] ∧ Exa Z h a1 "com/example/net_reducer/netreducer/analysis/Marking" ∧ Fld Z h a1 "com/example/net_reducer/netreducer/analysis/Marking" "places" "[I" (.ref b1) ∧ Fld Z h a1 "com/example/net_reducer/netreducer/analysis/Marking" "tokens" "[J" (.ref b2) ∧ Fld Z h a1 "com/example/net_reducer/netreducer/analysis/Marking" "size" "I" (.int (0 : Int32)) ∧ Arv Z h b1 k1 .int (8 : Int32) [(.int (0 : Int32)), (.int (0 : Int32)), (.int (0 : Int32)), (.int (0 : Int32)), (.int (0 : Int32)), (.int (0 : Int32)), (.int (0 : Int32)), (.int (0 : Int32))] (.int (0 : Int32)) ∧ Arv Z h b2 k2 .long (8 : Int32) [(.long (0 : Int64)), (.long (0 : Int64)), (.long (0 : Int64)), (.long (0 : Int64)), (.long (0 : Int64)), (.long (0 : Int64)), (.long (0 : Int64)), (.long (0 : Int64))] (.long (0 : Int64)) ∧ h0.size ≤ b1 ∧ h0.size ≤ b2 ∧ a1 ≠ b1 ∧ a1 ≠ b2 ∧ b1 ≠ b2
set_option maxRecDepth 65536 in
set_option maxHeartbeats 40000000 in
theorem rm1 (l : Launch) (Z : State) (a0 : Array Value) (hw : ∀ d ∈ tables_1, d.before a0 Z = true) (ws : List Jvm.Cond) (a1 : Addr) (u0 : Value) (u1 : Value) (h0 : Heap) (n0 : Nat) (Z0 : n0 ≤ h0.size) (E_a1 : Exa Z h0 a1 "com/example/net_reducer/netreducer/analysis/Marking") (F_places_a1 : Fld Z h0 a1 "com/example/net_reducer/netreducer/analysis/Marking" "places" "[I" u0) (F_tokens_a1 : Fld Z h0 a1 "com/example/net_reducer/netreducer/analysis/Marking" "tokens" "[J" u1) (F_size_a1 : Fld Z h0 a1 "com/example/net_reducer/netreducer/analysis/Marking" "size" "I" (.int (0 : Int32))) (g_a1 : n0 ≤ a1) :
    MetFree l (⟨"com/example/net_reducer/netreducer/analysis/Marking", "<init>", "()V"⟩ : MethodName) (head1 (Jvm.Cond.code (⟨"com/example/net_reducer/netreducer/analysis/Marking", "<init>", "()V"⟩ : MethodName) prog_10_method_1_code 1 none :: ws) ({ frames := 1, cells := 2, slots := 16, locals := 12 } : Room)) (fun a U => a = #[(.ref a1)] ∧ Z.Warmed39 U.vm ∧ U.heap = h0) (fun _ _ _ _ _ => True) (fun _ U o U' => ∃ v L, o = .returned v ∧ Q1 Z a1 u0 u1 h0 n0 v U'.heap L ∧ FrameEnd U o U' L ({ frames := 1, cells := 2, slots := 16, locals := 12 } : Room).cells ({ frames := 1, cells := 2, slots := 16, locals := 12 } : Room).slots) := by
  refine MetFree.of_bodySF (plainFor_of_name pn_1) hisR ?_
  intro p e s m args below meth c s₁ Bd hml0 hP hK
  obtain ⟨rfl, hZ, hh⟩ := hP
  have hx := Bd.exec
  have hby := Bd.bytes
  have hml : c.maxLocals = 1 := hml0
  have hown : s.vm.findClass "com/example/net_reducer/netreducer/analysis/Marking" = some m.cls := findClass_of_methodNamed Bd.named
  have hnm := (name_of_methodNamed Bd.named Bd.method).1
  have hret := Bd.returns
  have hlk : meth.locks = false := BodyLoose.notSynchronized Bd
  have X0 : Stand p l e ({ frames := 1, cells := 2, slots := 16, locals := 12 } : Room) s m #[(.ref a1)] below meth c s₁ [] 0 0 := Stand.of_body Bd
  have e0 : s₁.heap = h0 := by rw [← hh, Bd.state]; rfl
  have N0 := Fr.nil n0
  have W := fun (k : Nat) {d : Jvm.Cond} (h : tables_1[k]? = some d) => hw d (List.mem_of_getElem? h)
  have K0 : Keep h0 h0 [a1] := Keep.refl _ _
  refine own_start (ef_1 m a1) ?_
  show own_Run p e below _ s₁ (mkF m 0 #[.val (.ref a1)] [])
  refine own_go (fun _ k => XS.aloadN X0.here hx rfl (hb hby d1_0) rfl rfl k) ?_
  show own_Run p e below _ s₁ (mkF m 1 #[.val (.ref a1)] [(.ref a1)])
  obtain ⟨T1, X1, e1, st1⟩ := initO X0 hx hZ hown (W 15 rfl) (W 16 rfl) (W 17 rfl) e0 (g := (mkF m 1 #[.val (.ref a1)] [(.ref a1)])) rfl (by rw [hml]; rfl) rfl (hb hby d1_1) (by decide) (W := 0) (by show 2 * 0 + _ ≤ _; exact Nat.le_of_eq rfl) (by decide)
  refine own_go st1 ?_
  show own_Run p e below _ T1 (mkF m 4 #[.val (.ref a1)] [])
  refine own_go (fun _ k => XS.aloadN X1.here hx rfl (hb hby d1_4) rfl rfl k) ?_
  refine own_go (fun _ k => XS.bipush X1.here hx rfl (hb hby d1_5) k) ?_
  show own_Run p e below _ T1 (mkF m 7 #[.val (.ref a1)] [(.int (8 : Int32)), (.ref a1)])
  obtain ⟨T2, h2, k2, X2, e2, E2, A2, st2⟩ := newP X1 hx hZ (W 0 rfl) e1 (g := (mkF m 7 #[.val (.ref a1)] [(.int (8 : Int32)), (.ref a1)])) rfl (hb hby d1_7) rfl (by decide) (cap := 8) (by decide) (by decide) (by decide) (by decide)
  refine own_go st2 ?_
  obtain ⟨b2, g2⟩ : ∃ z, z = h0.size := ⟨_, rfl⟩
  rw [← g2] at A2
  rw [← g2]
  show own_Run p e below _ T2 (mkF m 9 #[.val (.ref a1)] [(.ref b2), (.ref a1)])
  have ne_a1_b2 : a1 ≠ b2 := Nat.ne_of_lt (Nat.lt_of_lt_of_eq E_a1.lt g2.symm)
  have g_b2 : n0 ≤ b2 := Nat.le_trans Z0 (Nat.le_of_eq g2.symm)
  have sz_b2 : h0.size ≤ b2 := Nat.le_trans K0.1 (Nat.le_of_eq g2.symm)
  have Z0_c3 := Nat.le_trans Z0 E2.1
  have K0_c3 := K0.ext E2
  have E_a1_c3 := E_a1.ext E2
  have F_places_a1_c3 := F_places_a1.ext E2
  have F_tokens_a1_c3 := F_tokens_a1.ext E2
  have F_size_a1_c3 := F_size_a1.ext E2
  have V_b2 : Arv Z h2 b2 k2 .int (8 : Int32) [(.int (0 : Int32)), (.int (0 : Int32)), (.int (0 : Int32)), (.int (0 : Int32)), (.int (0 : Int32)), (.int (0 : Int32)), (.int (0 : Int32)), (.int (0 : Int32))] (.int (0 : Int32)) := (Arv.new A2 (by decide)).pad (pad_rep [] (.int (0 : Int32)) 8)
  obtain ⟨T4, h4, X4, e4, W4, st4⟩ := putF X2 hx hZ hown (host := "") (Or.inl (W 18 rfl)) Via.refl e2 F_places_a1_c3 E_a1_c3 (Or.inl (W 19 rfl)) (W 10 rfl) (ty := (.array .int)) (by decide) rfl rfl (g := (mkF m 9 #[.val (.ref a1)] [(.ref b2), (.ref a1)])) rfl rfl (hb hby d1_9)
  refine own_go st4 ?_
  show own_Run p e below _ T4 (mkF m 12 #[.val (.ref a1)] [])
  have Z0_c5 := Nat.le_trans Z0_c3 (Keep.of_wr W4).1
  have K0_c5 := K0_c3.wr W4 (Or.inl (List.mem_of_getElem? (i := 0) rfl))
  have E_a1_c5 := E_a1_c3.wr W4
  have F_tokens_a1_c5 := F_tokens_a1_c3.other W4 (Or.inr (slot_ne (Or.inl (W 21 rfl)) (Or.inl (W 19 rfl)) (by decide) (t := (.array .long)) (t' := (.array .int)) (by decide) (by decide)))
  have F_size_a1_c5 := F_size_a1_c3.other W4 (Or.inr (slot_ne (Or.inl (W 28 rfl)) (Or.inl (W 19 rfl)) (by decide) (t := .int) (t' := (.array .int)) (by decide) (by decide)))
  have V_b2_c5 := V_b2.other W4 (Ne.symm ne_a1_b2)
  have F_places_a1_c4 : Fld Z h4 a1 "com/example/net_reducer/netreducer/analysis/Marking" "places" "[I" (.ref b2) := F_places_a1_c3.same W4
  have N4 := Fr.snoc X4 N0 g_a1
  refine own_go (fun _ k => XS.aloadN X4.here hx rfl (hb hby d1_12) rfl rfl k) ?_
  refine own_go (fun _ k => XS.bipush X4.here hx rfl (hb hby d1_13) k) ?_
  show own_Run p e below _ T4 (mkF m 15 #[.val (.ref a1)] [(.int (8 : Int32)), (.ref a1)])
  obtain ⟨T6, h6, k6, X6, e6, E6, A6, st6⟩ := newP X4 hx hZ (W 1 rfl) e4 (g := (mkF m 15 #[.val (.ref a1)] [(.int (8 : Int32)), (.ref a1)])) rfl (hb hby d1_15) rfl (by decide) (cap := 8) (by decide) (by decide) (by decide) (by decide)
  refine own_go st6 ?_
  obtain ⟨b6, g6⟩ : ∃ z, z = h4.size := ⟨_, rfl⟩
  rw [← g6] at A6
  rw [← g6]
  show own_Run p e below _ T6 (mkF m 17 #[.val (.ref a1)] [(.ref b6), (.ref a1)])
  have ne_a1_b6 : a1 ≠ b6 := Nat.ne_of_lt (Nat.lt_of_lt_of_eq E_a1_c5.lt g6.symm)
  have ne_b2_b6 : b2 ≠ b6 := Nat.ne_of_lt (Nat.lt_of_lt_of_eq V_b2_c5.lt g6.symm)
  have g_b6 : n0 ≤ b6 := Nat.le_trans Z0_c5 (Nat.le_of_eq g6.symm)
  have sz_b6 : h0.size ≤ b6 := Nat.le_trans K0_c5.1 (Nat.le_of_eq g6.symm)
  have Z0_c7 := Nat.le_trans Z0_c5 E6.1
  have K0_c7 := K0_c5.ext E6
  have E_a1_c7 := E_a1_c5.ext E6
  have F_tokens_a1_c7 := F_tokens_a1_c5.ext E6
  have F_size_a1_c7 := F_size_a1_c5.ext E6
  have V_b2_c7 := V_b2_c5.ext E6
  have F_places_a1_c7 := F_places_a1_c4.ext E6
  have V_b6 : Arv Z h6 b6 k6 .long (8 : Int32) [(.long (0 : Int64)), (.long (0 : Int64)), (.long (0 : Int64)), (.long (0 : Int64)), (.long (0 : Int64)), (.long (0 : Int64)), (.long (0 : Int64)), (.long (0 : Int64))] (.long (0 : Int64)) := (Arv.new A6 (by decide)).pad (pad_rep [] (.long (0 : Int64)) 8)
  obtain ⟨T8, h8, X8, e8, W8, st8⟩ := putF X6 hx hZ hown (host := "") (Or.inl (W 20 rfl)) Via.refl e6 F_tokens_a1_c7 E_a1_c7 (Or.inl (W 21 rfl)) (W 10 rfl) (ty := (.array .long)) (by decide) rfl rfl (g := (mkF m 17 #[.val (.ref a1)] [(.ref b6), (.ref a1)])) rfl rfl (hb hby d1_17)
  refine own_go st8 ?_
  show own_Run p e below _ T8 (mkF m 20 #[.val (.ref a1)] [])
  have Z0_c9 := Nat.le_trans Z0_c7 (Keep.of_wr W8).1
  have K0_c9 := K0_c7.wr W8 (Or.inl (List.mem_of_getElem? (i := 0) rfl))
  have E_a1_c9 := E_a1_c7.wr W8
  have F_size_a1_c9 := F_size_a1_c7.other W8 (Or.inr (slot_ne (Or.inl (W 28 rfl)) (Or.inl (W 21 rfl)) (by decide) (t := .int) (t' := (.array .long)) (by decide) (by decide)))
  have V_b2_c9 := V_b2_c7.other W8 (Ne.symm ne_a1_b2)
  have F_places_a1_c9 := F_places_a1_c7.other W8 (Or.inr (slot_ne (Or.inl (W 19 rfl)) (Or.inl (W 21 rfl)) (by decide) (t := (.array .int)) (t' := (.array .long)) (by decide) (by decide)))
  have V_b6_c9 := V_b6.other W8 (Ne.symm ne_a1_b6)
  have F_tokens_a1_c8 : Fld Z h8 a1 "com/example/net_reducer/netreducer/analysis/Marking" "tokens" "[J" (.ref b6) := F_tokens_a1_c7.same W8
  have N8 := Fr.snoc X8 N4 g_a1
  refine own_done (Q := fun v h L => Q1 Z a1 u0 u1 h0 n0 v h L) (v := none) X8 (fun _ => rfl) hlk (fun fs hr => X8.returnOut hx hret (hb hby d1_20) hr) ?_ (by decide) (by decide)
  show Q1 Z a1 u0 u1 h0 n0 _ T8.heap _
  rw [e8]
  exact ⟨b2, b6, k2, k6, rfl, N8, K0_c9, E_a1_c9, F_places_a1_c9, F_tokens_a1_c8, F_size_a1_c9, V_b2_c9, V_b6_c9, sz_b2, sz_b6, ne_a1_b2, ne_a1_b6, ne_b2_b6⟩
theorem d3_0 : decode prog_10_method_7_code 0 = .ok (.aload_n 0, 1) := by decide +kernel
theorem d3_1 : decode prog_10_method_7_code 1 = .ok (.getfield 17, 3) := by decide +kernel
theorem d3_4 : decode prog_10_method_7_code 4 = .ok (.aload_n 0, 1) := by decide +kernel
theorem d3_5 : decode prog_10_method_7_code 5 = .ok (.getfield 7, 3) := by decide +kernel
theorem d3_8 : decode prog_10_method_7_code 8 = .ok (.arraylength, 1) := by decide +kernel
theorem d3_9 : decode prog_10_method_7_code 9 = .ok (.if_icmp .ne 37, 3) := by decide +kernel
theorem d3_12 : decode prog_10_method_7_code 12 = .ok (.aload_n 0, 1) := by decide +kernel
theorem d3_13 : decode prog_10_method_7_code 13 = .ok (.aload_n 0, 1) := by decide +kernel
theorem d3_14 : decode prog_10_method_7_code 14 = .ok (.getfield 7, 3) := by decide +kernel
theorem d3_17 : decode prog_10_method_7_code 17 = .ok (.iconst 2, 1) := by decide +kernel
theorem d3_18 : decode prog_10_method_7_code 18 = .ok (.aload_n 0, 1) := by decide +kernel
theorem d3_19 : decode prog_10_method_7_code 19 = .ok (.getfield 17, 3) := by decide +kernel
theorem d3_22 : decode prog_10_method_7_code 22 = .ok (.imul, 1) := by decide +kernel
theorem d3_23 : decode prog_10_method_7_code 23 = .ok (.invokestatic 27, 3) := by decide +kernel
theorem d3_26 : decode prog_10_method_7_code 26 = .ok (.putfield 7, 3) := by decide +kernel
theorem d3_29 : decode prog_10_method_7_code 29 = .ok (.aload_n 0, 1) := by decide +kernel
theorem d3_30 : decode prog_10_method_7_code 30 = .ok (.aload_n 0, 1) := by decide +kernel
theorem d3_31 : decode prog_10_method_7_code 31 = .ok (.getfield 13, 3) := by decide +kernel
theorem d3_34 : decode prog_10_method_7_code 34 = .ok (.iconst 2, 1) := by decide +kernel
theorem d3_35 : decode prog_10_method_7_code 35 = .ok (.aload_n 0, 1) := by decide +kernel
theorem d3_36 : decode prog_10_method_7_code 36 = .ok (.getfield 17, 3) := by decide +kernel
theorem d3_39 : decode prog_10_method_7_code 39 = .ok (.imul, 1) := by decide +kernel
theorem d3_40 : decode prog_10_method_7_code 40 = .ok (.invokestatic 31, 3) := by decide +kernel
theorem d3_43 : decode prog_10_method_7_code 43 = .ok (.putfield 13, 3) := by decide +kernel
theorem d3_46 : decode prog_10_method_7_code 46 = .ok (.aload_n 0, 1) := by decide +kernel
theorem d3_47 : decode prog_10_method_7_code 47 = .ok (.getfield 7, 3) := by decide +kernel
theorem d3_50 : decode prog_10_method_7_code 50 = .ok (.aload_n 0, 1) := by decide +kernel
theorem d3_51 : decode prog_10_method_7_code 51 = .ok (.getfield 17, 3) := by decide +kernel
theorem d3_54 : decode prog_10_method_7_code 54 = .ok (.iload_n 1, 1) := by decide +kernel
theorem d3_55 : decode prog_10_method_7_code 55 = .ok (.iastore, 1) := by decide +kernel
theorem d3_56 : decode prog_10_method_7_code 56 = .ok (.aload_n 0, 1) := by decide +kernel
theorem d3_57 : decode prog_10_method_7_code 57 = .ok (.getfield 13, 3) := by decide +kernel
theorem d3_60 : decode prog_10_method_7_code 60 = .ok (.aload_n 0, 1) := by decide +kernel
theorem d3_61 : decode prog_10_method_7_code 61 = .ok (.getfield 17, 3) := by decide +kernel
theorem d3_64 : decode prog_10_method_7_code 64 = .ok (.lload_n 2, 1) := by decide +kernel
theorem d3_65 : decode prog_10_method_7_code 65 = .ok (.lastore, 1) := by decide +kernel
theorem d3_66 : decode prog_10_method_7_code 66 = .ok (.aload_n 0, 1) := by decide +kernel
theorem d3_67 : decode prog_10_method_7_code 67 = .ok (.dup, 1) := by decide +kernel
theorem d3_68 : decode prog_10_method_7_code 68 = .ok (.getfield 17, 3) := by decide +kernel
theorem d3_71 : decode prog_10_method_7_code 71 = .ok (.iconst 1, 1) := by decide +kernel
theorem d3_72 : decode prog_10_method_7_code 72 = .ok (.iadd, 1) := by decide +kernel
theorem d3_73 : decode prog_10_method_7_code 73 = .ok (.putfield 17, 3) := by decide +kernel
theorem d3_76 : decode prog_10_method_7_code 76 = .ok (.return_, 1) := by decide +kernel
theorem pn_3 : plainName "com/example/net_reducer/netreducer/analysis/Marking" = true := by first | (simp [plainName, overriddenIn]; done) | decide +kernel
theorem ef_3 (m : MethodId) (x0 : Addr) (x1 : Int32) (x2 : Int64) : entryFrame m #[(.ref x0), (.int x1), (.long x2)] 4 = mkF m 0 #[.val (.ref x0), .val (.int x1), .val (.long x2), .second] [] := by first | (simp [entryFrame, mkF, argsToLocals, Value.category]; done) | rfl
def Q3c0 (Z : State) (a1 : Addr) (p2 : Int32) (q3 : Int64) (b1 : Addr) (b2 : Addr) (k1 : ClassId) (k2 : ClassId) (x0 : Int32) (x1 : Int32) (x2 : Int32) (x3 : Int32) (x4 : Int32) (x5 : Int32) (x6 : Int32) (x7 : Int32) (t0 : Int64) (t1 : Int64) (t2 : Int64) (t3 : Int64) (t4 : Int64) (t5 : Int64) (t6 : Int64) (t7 : Int64) (h0 : Heap) (n0 : Nat) (v : Option Value) (h : Heap) (L : List Loc) : Prop := v = none ∧ Fr n0 L ∧ Keep h0 h [a1, b1, b2] ∧ Exa Z h a1 "com/example/net_reducer/netreducer/analysis/Marking" ∧ Fld Z h a1 "com/example/net_reducer/netreducer/analysis/Marking" "places" "[I" (.ref b1) ∧ Fld Z h a1 "com/example/net_reducer/netreducer/analysis/Marking" "tokens" "[J" (.ref b2) ∧ Fld Z h a1 "com/example/net_reducer/netreducer/analysis/Marking" "size" "I" (.int (1 : Int32)) ∧ Arv Z h b1 k1 .int (8 : Int32) [(.int p2), (.int x1), (.int x2), (.int x3), (.int x4), (.int x5), (.int x6), (.int x7)] (.int (0 : Int32)) ∧ Arv Z h b2 k2 .long (8 : Int32) [(.long q3), (.long t1), (.long t2), (.long t3), (.long t4), (.long t5), (.long t6), (.long t7)] (.long (0 : Int64))
set_option maxRecDepth 65536 in
set_option maxHeartbeats 40000000 in
theorem rm3c0 (l : Launch) (Z : State) (a0 : Array Value) (hw : ∀ d ∈ tables_1, d.before a0 Z = true) (ws : List Jvm.Cond) (a1 : Addr) (p2 : Int32) (q3 : Int64) (b1 : Addr) (b2 : Addr) (k1 : ClassId) (k2 : ClassId) (x0 : Int32) (x1 : Int32) (x2 : Int32) (x3 : Int32) (x4 : Int32) (x5 : Int32) (x6 : Int32) (x7 : Int32) (t0 : Int64) (t1 : Int64) (t2 : Int64) (t3 : Int64) (t4 : Int64) (t5 : Int64) (t6 : Int64) (t7 : Int64) (h0 : Heap) (n0 : Nat) (Z0 : n0 ≤ h0.size) (E_a1 : Exa Z h0 a1 "com/example/net_reducer/netreducer/analysis/Marking") (F_places_a1 : Fld Z h0 a1 "com/example/net_reducer/netreducer/analysis/Marking" "places" "[I" (.ref b1)) (F_tokens_a1 : Fld Z h0 a1 "com/example/net_reducer/netreducer/analysis/Marking" "tokens" "[J" (.ref b2)) (F_size_a1 : Fld Z h0 a1 "com/example/net_reducer/netreducer/analysis/Marking" "size" "I" (.int (0 : Int32))) (V_b1 : Arv Z h0 b1 k1 .int (8 : Int32) [(.int x0), (.int x1), (.int x2), (.int x3), (.int x4), (.int x5), (.int x6), (.int x7)] (.int (0 : Int32))) (V_b2 : Arv Z h0 b2 k2 .long (8 : Int32) [(.long t0), (.long t1), (.long t2), (.long t3), (.long t4), (.long t5), (.long t6), (.long t7)] (.long (0 : Int64))) (g_a1 : n0 ≤ a1) (g_b1 : n0 ≤ b1) (g_b2 : n0 ≤ b2) (ne_a1_b1 : a1 ≠ b1) (ne_a1_b2 : a1 ≠ b2) (ne_b1_b2 : b1 ≠ b2) :
    MetFree l (⟨"com/example/net_reducer/netreducer/analysis/Marking", "add", "(IJ)V"⟩ : MethodName) (head1 (Jvm.Cond.code (⟨"com/example/net_reducer/netreducer/analysis/Marking", "add", "(IJ)V"⟩ : MethodName) prog_10_method_7_code 4 none :: ws) ({ frames := 0, cells := 0, slots := 0, locals := 0 } : Room)) (fun a U => a = #[(.ref a1), (.int p2), (.long q3)] ∧ Z.Warmed39 U.vm ∧ U.heap = h0) (fun _ _ _ _ _ => True) (fun _ U o U' => ∃ v L, o = .returned v ∧ Q3c0 Z a1 p2 q3 b1 b2 k1 k2 x0 x1 x2 x3 x4 x5 x6 x7 t0 t1 t2 t3 t4 t5 t6 t7 h0 n0 v U'.heap L ∧ FrameEnd U o U' L ({ frames := 0, cells := 0, slots := 0, locals := 0 } : Room).cells ({ frames := 0, cells := 0, slots := 0, locals := 0 } : Room).slots) := by
  refine MetFree.of_bodySF (plainFor_of_name pn_3) hisR ?_
  intro p e s m args below meth c s₁ Bd hml0 hP hK
  obtain ⟨rfl, hZ, hh⟩ := hP
  have hx := Bd.exec
  have hby := Bd.bytes
  have hml : c.maxLocals = 4 := hml0
  have hown : s.vm.findClass "com/example/net_reducer/netreducer/analysis/Marking" = some m.cls := findClass_of_methodNamed Bd.named
  have hnm := (name_of_methodNamed Bd.named Bd.method).1
  have hret := Bd.returns
  have hlk : meth.locks = false := BodyLoose.notSynchronized Bd
  have X0 : Stand p l e ({ frames := 0, cells := 0, slots := 0, locals := 0 } : Room) s m #[(.ref a1), (.int p2), (.long q3)] below meth c s₁ [] 0 0 := Stand.of_body Bd
  have e0 : s₁.heap = h0 := by rw [← hh, Bd.state]; rfl
  have N0 := Fr.nil n0
  have W := fun (k : Nat) {d : Jvm.Cond} (h : tables_1[k]? = some d) => hw d (List.mem_of_getElem? h)
  have K0 : Keep h0 h0 [a1, b1, b2] := Keep.refl _ _
  refine own_start (ef_3 m a1 p2 q3) ?_
  show own_Run p e below _ s₁ (mkF m 0 #[.val (.ref a1), .val (.int p2), .val (.long q3), .second] [])
  refine own_go (fun _ k => XS.aloadN X0.here hx rfl (hb hby d3_0) rfl rfl k) ?_
  show own_Run p e below _ s₁ (mkF m 1 #[.val (.ref a1), .val (.int p2), .val (.long q3), .second] [(.ref a1)])
  obtain ⟨T10, X10, e10, st10⟩ := getF X0 hx hZ hown (host := "") (Or.inl (W 27 rfl)) Via.refl e0 F_size_a1 (g := (mkF m 1 #[.val (.ref a1), .val (.int p2), .val (.long q3), .second] [(.ref a1)])) rfl rfl (hb hby d3_1)
  refine own_go st10 ?_
  show own_Run p e below _ T10 (mkF m 4 #[.val (.ref a1), .val (.int p2), .val (.long q3), .second] [(.int (0 : Int32))])
  refine own_go (fun _ k => XS.aloadN X10.here hx rfl (hb hby d3_4) rfl rfl k) ?_
  show own_Run p e below _ T10 (mkF m 5 #[.val (.ref a1), .val (.int p2), .val (.long q3), .second] [(.ref a1), (.int (0 : Int32))])
  obtain ⟨T11, X11, e11, st11⟩ := getF X10 hx hZ hown (host := "") (Or.inl (W 18 rfl)) Via.refl e10 F_places_a1 (g := (mkF m 5 #[.val (.ref a1), .val (.int p2), .val (.long q3), .second] [(.ref a1), (.int (0 : Int32))])) rfl rfl (hb hby d3_5)
  refine own_go st11 ?_
  show own_Run p e below _ T11 (mkF m 8 #[.val (.ref a1), .val (.int p2), .val (.long q3), .second] [(.ref b1), (.int (0 : Int32))])
  obtain ⟨cl12, Ar12, q12, S12, N12, H12, G12⟩ := id V_b1
  refine own_go (X11.arraylength hx (by rw [e11]; exact Ar12.1) (State.isArrayOf_alike hZ.alike Ar12.2.1) (g := (mkF m 8 #[.val (.ref a1), .val (.int p2), .val (.long q3), .second] [(.ref b1), (.int (0 : Int32))])) rfl rfl (hb hby d3_8)) ?_
  rw [len_of S12 N12]
  show own_Run p e below _ T11 (mkF m 9 #[.val (.ref a1), .val (.int p2), .val (.long q3), .second] [(.int (8 : Int32)), (.int (0 : Int32))])
  refine own_go (fun _ k => XS.icmpYes X11.here hx rfl (pc0 := 9) (pc' := 46) rfl (hb hby d3_9) rfl (feq (by decide : ¬ ((0 : Int32) = (8 : Int32)))).2 (by decide) (by decide) k) ?_
  show own_Run p e below _ T11 (mkF m 46 #[.val (.ref a1), .val (.int p2), .val (.long q3), .second] [])
  refine own_go (fun _ k => XS.aloadN X11.here hx rfl (hb hby d3_46) rfl rfl k) ?_
  show own_Run p e below _ T11 (mkF m 47 #[.val (.ref a1), .val (.int p2), .val (.long q3), .second] [(.ref a1)])
  obtain ⟨T13, X13, e13, st13⟩ := getF X11 hx hZ hown (host := "") (Or.inl (W 18 rfl)) Via.refl e11 F_places_a1 (g := (mkF m 47 #[.val (.ref a1), .val (.int p2), .val (.long q3), .second] [(.ref a1)])) rfl rfl (hb hby d3_47)
  refine own_go st13 ?_
  show own_Run p e below _ T13 (mkF m 50 #[.val (.ref a1), .val (.int p2), .val (.long q3), .second] [(.ref b1)])
  refine own_go (fun _ k => XS.aloadN X13.here hx rfl (hb hby d3_50) rfl rfl k) ?_
  show own_Run p e below _ T13 (mkF m 51 #[.val (.ref a1), .val (.int p2), .val (.long q3), .second] [(.ref a1), (.ref b1)])
  obtain ⟨T14, X14, e14, st14⟩ := getF X13 hx hZ hown (host := "") (Or.inl (W 27 rfl)) Via.refl e13 F_size_a1 (g := (mkF m 51 #[.val (.ref a1), .val (.int p2), .val (.long q3), .second] [(.ref a1), (.ref b1)])) rfl rfl (hb hby d3_51)
  refine own_go st14 ?_
  show own_Run p e below _ T14 (mkF m 54 #[.val (.ref a1), .val (.int p2), .val (.long q3), .second] [(.int (0 : Int32)), (.ref b1)])
  refine own_go (fun _ k => XS.iloadN X14.here hx rfl (hb hby d3_54) rfl k) ?_
  show own_Run p e below _ T14 (mkF m 55 #[.val (.ref a1), .val (.int p2), .val (.long q3), .second] [(.int p2), (.int (0 : Int32)), (.ref b1)])
  obtain ⟨cl15, Ar15, q15, S15, N15, H15, G15⟩ := id V_b1
  have hin15 : ¬ ((0 : Int32) < 0 ∨ cl15.slots.size ≤ ((0 : Int32)).toNatClampNeg) := inb_of S15 ⟨by decide, by decide⟩
  obtain ⟨T16, h16, X16, e16, W16, st16⟩ := stI X14 hx hZ e14 Ar15 (j := (0 : Int32)) hin15 (g := (mkF m 55 #[.val (.ref a1), .val (.int p2), .val (.long q3), .second] [(.int p2), (.int (0 : Int32)), (.ref b1)])) rfl rfl (hb hby d3_55)
  refine own_go st16 ?_
  show own_Run p e below _ T16 (mkF m 56 #[.val (.ref a1), .val (.int p2), .val (.long q3), .second] [])
  have Z0_c17 := Nat.le_trans Z0 (Keep.of_wr W16).1
  have K0_c17 := K0.wr W16 (Or.inl (List.mem_of_getElem? (i := 1) rfl))
  have E_a1_c17 := E_a1.wr W16
  have F_places_a1_c17 := F_places_a1.other W16 (Or.inl ne_a1_b1)
  have F_tokens_a1_c17 := F_tokens_a1.other W16 (Or.inl ne_a1_b1)
  have F_size_a1_c17 := F_size_a1.other W16 (Or.inl ne_a1_b1)
  have V_b2_c17 := V_b2.other W16 (Ne.symm ne_b1_b2)
  have V_b1_c16 : Arv Z h16 b1 k1 .int (8 : Int32) [(.int p2), (.int x1), (.int x2), (.int x3), (.int x4), (.int x5), (.int x6), (.int x7)] (.int (0 : Int32)) := Arv.set Ar15 q15 S15 N15 H15 G15 rfl W16 0 rfl (Nat.le_of_ble_eq_true rfl)
  have N16 := Fr.snoc X16 N0 g_b1
  refine own_go (fun _ k => XS.aloadN X16.here hx rfl (hb hby d3_56) rfl rfl k) ?_
  show own_Run p e below _ T16 (mkF m 57 #[.val (.ref a1), .val (.int p2), .val (.long q3), .second] [(.ref a1)])
  obtain ⟨T18, X18, e18, st18⟩ := getF X16 hx hZ hown (host := "") (Or.inl (W 20 rfl)) Via.refl e16 F_tokens_a1_c17 (g := (mkF m 57 #[.val (.ref a1), .val (.int p2), .val (.long q3), .second] [(.ref a1)])) rfl rfl (hb hby d3_57)
  refine own_go st18 ?_
  show own_Run p e below _ T18 (mkF m 60 #[.val (.ref a1), .val (.int p2), .val (.long q3), .second] [(.ref b2)])
  refine own_go (fun _ k => XS.aloadN X18.here hx rfl (hb hby d3_60) rfl rfl k) ?_
  show own_Run p e below _ T18 (mkF m 61 #[.val (.ref a1), .val (.int p2), .val (.long q3), .second] [(.ref a1), (.ref b2)])
  obtain ⟨T19, X19, e19, st19⟩ := getF X18 hx hZ hown (host := "") (Or.inl (W 27 rfl)) Via.refl e18 F_size_a1_c17 (g := (mkF m 61 #[.val (.ref a1), .val (.int p2), .val (.long q3), .second] [(.ref a1), (.ref b2)])) rfl rfl (hb hby d3_61)
  refine own_go st19 ?_
  show own_Run p e below _ T19 (mkF m 64 #[.val (.ref a1), .val (.int p2), .val (.long q3), .second] [(.int (0 : Int32)), (.ref b2)])
  refine own_go (fun _ k => XS.lloadN X19.here hx rfl (hb hby d3_64) rfl k) ?_
  show own_Run p e below _ T19 (mkF m 65 #[.val (.ref a1), .val (.int p2), .val (.long q3), .second] [(.long q3), (.int (0 : Int32)), (.ref b2)])
  obtain ⟨cl20, Ar20, q20, S20, N20, H20, G20⟩ := id V_b2_c17
  have hin20 : ¬ ((0 : Int32) < 0 ∨ cl20.slots.size ≤ ((0 : Int32)).toNatClampNeg) := inb_of S20 ⟨by decide, by decide⟩
  obtain ⟨T21, h21, X21, e21, W21, st21⟩ := stJ X19 hx hZ e19 Ar20 (j := (0 : Int32)) hin20 (g := (mkF m 65 #[.val (.ref a1), .val (.int p2), .val (.long q3), .second] [(.long q3), (.int (0 : Int32)), (.ref b2)])) rfl rfl (hb hby d3_65)
  refine own_go st21 ?_
  show own_Run p e below _ T21 (mkF m 66 #[.val (.ref a1), .val (.int p2), .val (.long q3), .second] [])
  have Z0_c22 := Nat.le_trans Z0_c17 (Keep.of_wr W21).1
  have K0_c22 := K0_c17.wr W21 (Or.inl (List.mem_of_getElem? (i := 2) rfl))
  have E_a1_c22 := E_a1_c17.wr W21
  have F_places_a1_c22 := F_places_a1_c17.other W21 (Or.inl ne_a1_b2)
  have F_tokens_a1_c22 := F_tokens_a1_c17.other W21 (Or.inl ne_a1_b2)
  have F_size_a1_c22 := F_size_a1_c17.other W21 (Or.inl ne_a1_b2)
  have V_b1_c22 := V_b1_c16.other W21 ne_b1_b2
  have V_b2_c21 : Arv Z h21 b2 k2 .long (8 : Int32) [(.long q3), (.long t1), (.long t2), (.long t3), (.long t4), (.long t5), (.long t6), (.long t7)] (.long (0 : Int64)) := Arv.set Ar20 q20 S20 N20 H20 G20 rfl W21 0 rfl (Nat.le_of_ble_eq_true rfl)
  have N21 := Fr.snoc X21 N16 g_b2
  refine own_go (fun _ k => XS.aloadN X21.here hx rfl (hb hby d3_66) rfl rfl k) ?_
  refine own_go (fun _ k => XS.dup X21.here hx rfl (hb hby d3_67) rfl rfl k) ?_
  show own_Run p e below _ T21 (mkF m 68 #[.val (.ref a1), .val (.int p2), .val (.long q3), .second] [(.ref a1), (.ref a1)])
  obtain ⟨T23, X23, e23, st23⟩ := getF X21 hx hZ hown (host := "") (Or.inl (W 27 rfl)) Via.refl e21 F_size_a1_c22 (g := (mkF m 68 #[.val (.ref a1), .val (.int p2), .val (.long q3), .second] [(.ref a1), (.ref a1)])) rfl rfl (hb hby d3_68)
  refine own_go st23 ?_
  show own_Run p e below _ T23 (mkF m 71 #[.val (.ref a1), .val (.int p2), .val (.long q3), .second] [(.int (0 : Int32)), (.ref a1)])
  refine own_go (fun _ k => XS.iconst X23.here hx rfl (hb hby d3_71) k) ?_
  refine own_go (fun _ k => XS.iadd X23.here hx rfl (hb hby d3_72) rfl k) ?_
  show own_Run p e below _ T23 (mkF m 73 #[.val (.ref a1), .val (.int p2), .val (.long q3), .second] [(.int ((0 : Int32) + (1 : Int32))), (.ref a1)])
  rw [show ((0 : Int32) + (1 : Int32)) = (1 : Int32) by decide]
  show own_Run p e below _ T23 (mkF m 73 #[.val (.ref a1), .val (.int p2), .val (.long q3), .second] [(.int (1 : Int32)), (.ref a1)])
  obtain ⟨T24, h24, X24, e24, W24, st24⟩ := putF X23 hx hZ hown (host := "") (Or.inl (W 27 rfl)) Via.refl e23 F_size_a1_c22 E_a1_c22 (Or.inl (W 28 rfl)) (W 10 rfl) (ty := .int) (by decide) rfl rfl (g := (mkF m 73 #[.val (.ref a1), .val (.int p2), .val (.long q3), .second] [(.int (1 : Int32)), (.ref a1)])) rfl rfl (hb hby d3_73)
  refine own_go st24 ?_
  show own_Run p e below _ T24 (mkF m 76 #[.val (.ref a1), .val (.int p2), .val (.long q3), .second] [])
  have Z0_c25 := Nat.le_trans Z0_c22 (Keep.of_wr W24).1
  have K0_c25 := K0_c22.wr W24 (Or.inl (List.mem_of_getElem? (i := 0) rfl))
  have E_a1_c25 := E_a1_c22.wr W24
  have F_places_a1_c25 := F_places_a1_c22.other W24 (Or.inr (slot_ne (Or.inl (W 19 rfl)) (Or.inl (W 28 rfl)) (by decide) (t := (.array .int)) (t' := .int) (by decide) (by decide)))
  have F_tokens_a1_c25 := F_tokens_a1_c22.other W24 (Or.inr (slot_ne (Or.inl (W 21 rfl)) (Or.inl (W 28 rfl)) (by decide) (t := (.array .long)) (t' := .int) (by decide) (by decide)))
  have V_b1_c25 := V_b1_c22.other W24 (Ne.symm ne_a1_b1)
  have V_b2_c25 := V_b2_c21.other W24 (Ne.symm ne_a1_b2)
  have F_size_a1_c24 : Fld Z h24 a1 "com/example/net_reducer/netreducer/analysis/Marking" "size" "I" (.int (1 : Int32)) := F_size_a1_c22.same W24
  have N24 := Fr.snoc X24 N21 g_a1
  refine own_done (Q := fun v h L => Q3c0 Z a1 p2 q3 b1 b2 k1 k2 x0 x1 x2 x3 x4 x5 x6 x7 t0 t1 t2 t3 t4 t5 t6 t7 h0 n0 v h L) (v := none) X24 (fun _ => rfl) hlk (fun fs hr => X24.returnOut hx hret (hb hby d3_76) hr) ?_ (by decide) (by decide)
  show Q3c0 Z a1 p2 q3 b1 b2 k1 k2 x0 x1 x2 x3 x4 x5 x6 x7 t0 t1 t2 t3 t4 t5 t6 t7 h0 n0 _ T24.heap _
  rw [e24]
  exact ⟨rfl, N24, K0_c25, E_a1_c25, F_places_a1_c25, F_tokens_a1_c25, F_size_a1_c24, V_b1_c25, V_b2_c25⟩
def Q3c1 (Z : State) (a1 : Addr) (p2 : Int32) (q3 : Int64) (b1 : Addr) (b2 : Addr) (k1 : ClassId) (k2 : ClassId) (x0 : Int32) (x1 : Int32) (x2 : Int32) (x3 : Int32) (x4 : Int32) (x5 : Int32) (x6 : Int32) (x7 : Int32) (t0 : Int64) (t1 : Int64) (t2 : Int64) (t3 : Int64) (t4 : Int64) (t5 : Int64) (t6 : Int64) (t7 : Int64) (h0 : Heap) (n0 : Nat) (v : Option Value) (h : Heap) (L : List Loc) : Prop := v = none ∧ Fr n0 L ∧ Keep h0 h [a1, b1, b2] ∧ Exa Z h a1 "com/example/net_reducer/netreducer/analysis/Marking" ∧ Fld Z h a1 "com/example/net_reducer/netreducer/analysis/Marking" "places" "[I" (.ref b1) ∧ Fld Z h a1 "com/example/net_reducer/netreducer/analysis/Marking" "tokens" "[J" (.ref b2) ∧ Fld Z h a1 "com/example/net_reducer/netreducer/analysis/Marking" "size" "I" (.int (2 : Int32)) ∧ Arv Z h b1 k1 .int (8 : Int32) [(.int x0), (.int p2), (.int x2), (.int x3), (.int x4), (.int x5), (.int x6), (.int x7)] (.int (0 : Int32)) ∧ Arv Z h b2 k2 .long (8 : Int32) [(.long t0), (.long q3), (.long t2), (.long t3), (.long t4), (.long t5), (.long t6), (.long t7)] (.long (0 : Int64))
set_option maxRecDepth 65536 in
set_option maxHeartbeats 40000000 in
theorem rm3c1 (l : Launch) (Z : State) (a0 : Array Value) (hw : ∀ d ∈ tables_1, d.before a0 Z = true) (ws : List Jvm.Cond) (a1 : Addr) (p2 : Int32) (q3 : Int64) (b1 : Addr) (b2 : Addr) (k1 : ClassId) (k2 : ClassId) (x0 : Int32) (x1 : Int32) (x2 : Int32) (x3 : Int32) (x4 : Int32) (x5 : Int32) (x6 : Int32) (x7 : Int32) (t0 : Int64) (t1 : Int64) (t2 : Int64) (t3 : Int64) (t4 : Int64) (t5 : Int64) (t6 : Int64) (t7 : Int64) (h0 : Heap) (n0 : Nat) (Z0 : n0 ≤ h0.size) (E_a1 : Exa Z h0 a1 "com/example/net_reducer/netreducer/analysis/Marking") (F_places_a1 : Fld Z h0 a1 "com/example/net_reducer/netreducer/analysis/Marking" "places" "[I" (.ref b1)) (F_tokens_a1 : Fld Z h0 a1 "com/example/net_reducer/netreducer/analysis/Marking" "tokens" "[J" (.ref b2)) (F_size_a1 : Fld Z h0 a1 "com/example/net_reducer/netreducer/analysis/Marking" "size" "I" (.int (1 : Int32))) (V_b1 : Arv Z h0 b1 k1 .int (8 : Int32) [(.int x0), (.int x1), (.int x2), (.int x3), (.int x4), (.int x5), (.int x6), (.int x7)] (.int (0 : Int32))) (V_b2 : Arv Z h0 b2 k2 .long (8 : Int32) [(.long t0), (.long t1), (.long t2), (.long t3), (.long t4), (.long t5), (.long t6), (.long t7)] (.long (0 : Int64))) (g_a1 : n0 ≤ a1) (g_b1 : n0 ≤ b1) (g_b2 : n0 ≤ b2) (ne_a1_b1 : a1 ≠ b1) (ne_a1_b2 : a1 ≠ b2) (ne_b1_b2 : b1 ≠ b2) :
    MetFree l (⟨"com/example/net_reducer/netreducer/analysis/Marking", "add", "(IJ)V"⟩ : MethodName) (head1 (Jvm.Cond.code (⟨"com/example/net_reducer/netreducer/analysis/Marking", "add", "(IJ)V"⟩ : MethodName) prog_10_method_7_code 4 none :: ws) ({ frames := 0, cells := 0, slots := 0, locals := 0 } : Room)) (fun a U => a = #[(.ref a1), (.int p2), (.long q3)] ∧ Z.Warmed39 U.vm ∧ U.heap = h0) (fun _ _ _ _ _ => True) (fun _ U o U' => ∃ v L, o = .returned v ∧ Q3c1 Z a1 p2 q3 b1 b2 k1 k2 x0 x1 x2 x3 x4 x5 x6 x7 t0 t1 t2 t3 t4 t5 t6 t7 h0 n0 v U'.heap L ∧ FrameEnd U o U' L ({ frames := 0, cells := 0, slots := 0, locals := 0 } : Room).cells ({ frames := 0, cells := 0, slots := 0, locals := 0 } : Room).slots) := by
  refine MetFree.of_bodySF (plainFor_of_name pn_3) hisR ?_
  intro p e s m args below meth c s₁ Bd hml0 hP hK
  obtain ⟨rfl, hZ, hh⟩ := hP
  have hx := Bd.exec
  have hby := Bd.bytes
  have hml : c.maxLocals = 4 := hml0
  have hown : s.vm.findClass "com/example/net_reducer/netreducer/analysis/Marking" = some m.cls := findClass_of_methodNamed Bd.named
  have hnm := (name_of_methodNamed Bd.named Bd.method).1
  have hret := Bd.returns
  have hlk : meth.locks = false := BodyLoose.notSynchronized Bd
  have X0 : Stand p l e ({ frames := 0, cells := 0, slots := 0, locals := 0 } : Room) s m #[(.ref a1), (.int p2), (.long q3)] below meth c s₁ [] 0 0 := Stand.of_body Bd
  have e0 : s₁.heap = h0 := by rw [← hh, Bd.state]; rfl
  have N0 := Fr.nil n0
  have W := fun (k : Nat) {d : Jvm.Cond} (h : tables_1[k]? = some d) => hw d (List.mem_of_getElem? h)
  have K0 : Keep h0 h0 [a1, b1, b2] := Keep.refl _ _
  refine own_start (ef_3 m a1 p2 q3) ?_
  show own_Run p e below _ s₁ (mkF m 0 #[.val (.ref a1), .val (.int p2), .val (.long q3), .second] [])
  refine own_go (fun _ k => XS.aloadN X0.here hx rfl (hb hby d3_0) rfl rfl k) ?_
  show own_Run p e below _ s₁ (mkF m 1 #[.val (.ref a1), .val (.int p2), .val (.long q3), .second] [(.ref a1)])
  obtain ⟨T26, X26, e26, st26⟩ := getF X0 hx hZ hown (host := "") (Or.inl (W 27 rfl)) Via.refl e0 F_size_a1 (g := (mkF m 1 #[.val (.ref a1), .val (.int p2), .val (.long q3), .second] [(.ref a1)])) rfl rfl (hb hby d3_1)
  refine own_go st26 ?_
  show own_Run p e below _ T26 (mkF m 4 #[.val (.ref a1), .val (.int p2), .val (.long q3), .second] [(.int (1 : Int32))])
  refine own_go (fun _ k => XS.aloadN X26.here hx rfl (hb hby d3_4) rfl rfl k) ?_
  show own_Run p e below _ T26 (mkF m 5 #[.val (.ref a1), .val (.int p2), .val (.long q3), .second] [(.ref a1), (.int (1 : Int32))])
  obtain ⟨T27, X27, e27, st27⟩ := getF X26 hx hZ hown (host := "") (Or.inl (W 18 rfl)) Via.refl e26 F_places_a1 (g := (mkF m 5 #[.val (.ref a1), .val (.int p2), .val (.long q3), .second] [(.ref a1), (.int (1 : Int32))])) rfl rfl (hb hby d3_5)
  refine own_go st27 ?_
  show own_Run p e below _ T27 (mkF m 8 #[.val (.ref a1), .val (.int p2), .val (.long q3), .second] [(.ref b1), (.int (1 : Int32))])
  obtain ⟨cl28, Ar28, q28, S28, N28, H28, G28⟩ := id V_b1
  refine own_go (X27.arraylength hx (by rw [e27]; exact Ar28.1) (State.isArrayOf_alike hZ.alike Ar28.2.1) (g := (mkF m 8 #[.val (.ref a1), .val (.int p2), .val (.long q3), .second] [(.ref b1), (.int (1 : Int32))])) rfl rfl (hb hby d3_8)) ?_
  rw [len_of S28 N28]
  show own_Run p e below _ T27 (mkF m 9 #[.val (.ref a1), .val (.int p2), .val (.long q3), .second] [(.int (8 : Int32)), (.int (1 : Int32))])
  refine own_go (fun _ k => XS.icmpYes X27.here hx rfl (pc0 := 9) (pc' := 46) rfl (hb hby d3_9) rfl (feq (by decide : ¬ ((1 : Int32) = (8 : Int32)))).2 (by decide) (by decide) k) ?_
  show own_Run p e below _ T27 (mkF m 46 #[.val (.ref a1), .val (.int p2), .val (.long q3), .second] [])
  refine own_go (fun _ k => XS.aloadN X27.here hx rfl (hb hby d3_46) rfl rfl k) ?_
  show own_Run p e below _ T27 (mkF m 47 #[.val (.ref a1), .val (.int p2), .val (.long q3), .second] [(.ref a1)])
  obtain ⟨T29, X29, e29, st29⟩ := getF X27 hx hZ hown (host := "") (Or.inl (W 18 rfl)) Via.refl e27 F_places_a1 (g := (mkF m 47 #[.val (.ref a1), .val (.int p2), .val (.long q3), .second] [(.ref a1)])) rfl rfl (hb hby d3_47)
  refine own_go st29 ?_
  show own_Run p e below _ T29 (mkF m 50 #[.val (.ref a1), .val (.int p2), .val (.long q3), .second] [(.ref b1)])
  refine own_go (fun _ k => XS.aloadN X29.here hx rfl (hb hby d3_50) rfl rfl k) ?_
  show own_Run p e below _ T29 (mkF m 51 #[.val (.ref a1), .val (.int p2), .val (.long q3), .second] [(.ref a1), (.ref b1)])
  obtain ⟨T30, X30, e30, st30⟩ := getF X29 hx hZ hown (host := "") (Or.inl (W 27 rfl)) Via.refl e29 F_size_a1 (g := (mkF m 51 #[.val (.ref a1), .val (.int p2), .val (.long q3), .second] [(.ref a1), (.ref b1)])) rfl rfl (hb hby d3_51)
  refine own_go st30 ?_
  show own_Run p e below _ T30 (mkF m 54 #[.val (.ref a1), .val (.int p2), .val (.long q3), .second] [(.int (1 : Int32)), (.ref b1)])
  refine own_go (fun _ k => XS.iloadN X30.here hx rfl (hb hby d3_54) rfl k) ?_
  show own_Run p e below _ T30 (mkF m 55 #[.val (.ref a1), .val (.int p2), .val (.long q3), .second] [(.int p2), (.int (1 : Int32)), (.ref b1)])
  obtain ⟨cl31, Ar31, q31, S31, N31, H31, G31⟩ := id V_b1
  have hin31 : ¬ ((1 : Int32) < 0 ∨ cl31.slots.size ≤ ((1 : Int32)).toNatClampNeg) := inb_of S31 ⟨by decide, by decide⟩
  obtain ⟨T32, h32, X32, e32, W32, st32⟩ := stI X30 hx hZ e30 Ar31 (j := (1 : Int32)) hin31 (g := (mkF m 55 #[.val (.ref a1), .val (.int p2), .val (.long q3), .second] [(.int p2), (.int (1 : Int32)), (.ref b1)])) rfl rfl (hb hby d3_55)
  refine own_go st32 ?_
  show own_Run p e below _ T32 (mkF m 56 #[.val (.ref a1), .val (.int p2), .val (.long q3), .second] [])
  have Z0_c33 := Nat.le_trans Z0 (Keep.of_wr W32).1
  have K0_c33 := K0.wr W32 (Or.inl (List.mem_of_getElem? (i := 1) rfl))
  have E_a1_c33 := E_a1.wr W32
  have F_places_a1_c33 := F_places_a1.other W32 (Or.inl ne_a1_b1)
  have F_tokens_a1_c33 := F_tokens_a1.other W32 (Or.inl ne_a1_b1)
  have F_size_a1_c33 := F_size_a1.other W32 (Or.inl ne_a1_b1)
  have V_b2_c33 := V_b2.other W32 (Ne.symm ne_b1_b2)
  have V_b1_c32 : Arv Z h32 b1 k1 .int (8 : Int32) [(.int x0), (.int p2), (.int x2), (.int x3), (.int x4), (.int x5), (.int x6), (.int x7)] (.int (0 : Int32)) := Arv.set Ar31 q31 S31 N31 H31 G31 rfl W32 1 rfl (Nat.le_of_ble_eq_true rfl)
  have N32 := Fr.snoc X32 N0 g_b1
  refine own_go (fun _ k => XS.aloadN X32.here hx rfl (hb hby d3_56) rfl rfl k) ?_
  show own_Run p e below _ T32 (mkF m 57 #[.val (.ref a1), .val (.int p2), .val (.long q3), .second] [(.ref a1)])
  obtain ⟨T34, X34, e34, st34⟩ := getF X32 hx hZ hown (host := "") (Or.inl (W 20 rfl)) Via.refl e32 F_tokens_a1_c33 (g := (mkF m 57 #[.val (.ref a1), .val (.int p2), .val (.long q3), .second] [(.ref a1)])) rfl rfl (hb hby d3_57)
  refine own_go st34 ?_
  show own_Run p e below _ T34 (mkF m 60 #[.val (.ref a1), .val (.int p2), .val (.long q3), .second] [(.ref b2)])
  refine own_go (fun _ k => XS.aloadN X34.here hx rfl (hb hby d3_60) rfl rfl k) ?_
  show own_Run p e below _ T34 (mkF m 61 #[.val (.ref a1), .val (.int p2), .val (.long q3), .second] [(.ref a1), (.ref b2)])
  obtain ⟨T35, X35, e35, st35⟩ := getF X34 hx hZ hown (host := "") (Or.inl (W 27 rfl)) Via.refl e34 F_size_a1_c33 (g := (mkF m 61 #[.val (.ref a1), .val (.int p2), .val (.long q3), .second] [(.ref a1), (.ref b2)])) rfl rfl (hb hby d3_61)
  refine own_go st35 ?_
  show own_Run p e below _ T35 (mkF m 64 #[.val (.ref a1), .val (.int p2), .val (.long q3), .second] [(.int (1 : Int32)), (.ref b2)])
  refine own_go (fun _ k => XS.lloadN X35.here hx rfl (hb hby d3_64) rfl k) ?_
  show own_Run p e below _ T35 (mkF m 65 #[.val (.ref a1), .val (.int p2), .val (.long q3), .second] [(.long q3), (.int (1 : Int32)), (.ref b2)])
  obtain ⟨cl36, Ar36, q36, S36, N36, H36, G36⟩ := id V_b2_c33
  have hin36 : ¬ ((1 : Int32) < 0 ∨ cl36.slots.size ≤ ((1 : Int32)).toNatClampNeg) := inb_of S36 ⟨by decide, by decide⟩
  obtain ⟨T37, h37, X37, e37, W37, st37⟩ := stJ X35 hx hZ e35 Ar36 (j := (1 : Int32)) hin36 (g := (mkF m 65 #[.val (.ref a1), .val (.int p2), .val (.long q3), .second] [(.long q3), (.int (1 : Int32)), (.ref b2)])) rfl rfl (hb hby d3_65)
  refine own_go st37 ?_
  show own_Run p e below _ T37 (mkF m 66 #[.val (.ref a1), .val (.int p2), .val (.long q3), .second] [])
  have Z0_c38 := Nat.le_trans Z0_c33 (Keep.of_wr W37).1
  have K0_c38 := K0_c33.wr W37 (Or.inl (List.mem_of_getElem? (i := 2) rfl))
  have E_a1_c38 := E_a1_c33.wr W37
  have F_places_a1_c38 := F_places_a1_c33.other W37 (Or.inl ne_a1_b2)
  have F_tokens_a1_c38 := F_tokens_a1_c33.other W37 (Or.inl ne_a1_b2)
  have F_size_a1_c38 := F_size_a1_c33.other W37 (Or.inl ne_a1_b2)
  have V_b1_c38 := V_b1_c32.other W37 ne_b1_b2
  have V_b2_c37 : Arv Z h37 b2 k2 .long (8 : Int32) [(.long t0), (.long q3), (.long t2), (.long t3), (.long t4), (.long t5), (.long t6), (.long t7)] (.long (0 : Int64)) := Arv.set Ar36 q36 S36 N36 H36 G36 rfl W37 1 rfl (Nat.le_of_ble_eq_true rfl)
  have N37 := Fr.snoc X37 N32 g_b2
  refine own_go (fun _ k => XS.aloadN X37.here hx rfl (hb hby d3_66) rfl rfl k) ?_
  refine own_go (fun _ k => XS.dup X37.here hx rfl (hb hby d3_67) rfl rfl k) ?_
  show own_Run p e below _ T37 (mkF m 68 #[.val (.ref a1), .val (.int p2), .val (.long q3), .second] [(.ref a1), (.ref a1)])
  obtain ⟨T39, X39, e39, st39⟩ := getF X37 hx hZ hown (host := "") (Or.inl (W 27 rfl)) Via.refl e37 F_size_a1_c38 (g := (mkF m 68 #[.val (.ref a1), .val (.int p2), .val (.long q3), .second] [(.ref a1), (.ref a1)])) rfl rfl (hb hby d3_68)
  refine own_go st39 ?_
  show own_Run p e below _ T39 (mkF m 71 #[.val (.ref a1), .val (.int p2), .val (.long q3), .second] [(.int (1 : Int32)), (.ref a1)])
  refine own_go (fun _ k => XS.iconst X39.here hx rfl (hb hby d3_71) k) ?_
  refine own_go (fun _ k => XS.iadd X39.here hx rfl (hb hby d3_72) rfl k) ?_
  show own_Run p e below _ T39 (mkF m 73 #[.val (.ref a1), .val (.int p2), .val (.long q3), .second] [(.int ((1 : Int32) + (1 : Int32))), (.ref a1)])
  rw [show ((1 : Int32) + (1 : Int32)) = (2 : Int32) by decide]
  show own_Run p e below _ T39 (mkF m 73 #[.val (.ref a1), .val (.int p2), .val (.long q3), .second] [(.int (2 : Int32)), (.ref a1)])
  obtain ⟨T40, h40, X40, e40, W40, st40⟩ := putF X39 hx hZ hown (host := "") (Or.inl (W 27 rfl)) Via.refl e39 F_size_a1_c38 E_a1_c38 (Or.inl (W 28 rfl)) (W 10 rfl) (ty := .int) (by decide) rfl rfl (g := (mkF m 73 #[.val (.ref a1), .val (.int p2), .val (.long q3), .second] [(.int (2 : Int32)), (.ref a1)])) rfl rfl (hb hby d3_73)
  refine own_go st40 ?_
  show own_Run p e below _ T40 (mkF m 76 #[.val (.ref a1), .val (.int p2), .val (.long q3), .second] [])
  have Z0_c41 := Nat.le_trans Z0_c38 (Keep.of_wr W40).1
  have K0_c41 := K0_c38.wr W40 (Or.inl (List.mem_of_getElem? (i := 0) rfl))
  have E_a1_c41 := E_a1_c38.wr W40
  have F_places_a1_c41 := F_places_a1_c38.other W40 (Or.inr (slot_ne (Or.inl (W 19 rfl)) (Or.inl (W 28 rfl)) (by decide) (t := (.array .int)) (t' := .int) (by decide) (by decide)))
  have F_tokens_a1_c41 := F_tokens_a1_c38.other W40 (Or.inr (slot_ne (Or.inl (W 21 rfl)) (Or.inl (W 28 rfl)) (by decide) (t := (.array .long)) (t' := .int) (by decide) (by decide)))
  have V_b1_c41 := V_b1_c38.other W40 (Ne.symm ne_a1_b1)
  have V_b2_c41 := V_b2_c37.other W40 (Ne.symm ne_a1_b2)
  have F_size_a1_c40 : Fld Z h40 a1 "com/example/net_reducer/netreducer/analysis/Marking" "size" "I" (.int (2 : Int32)) := F_size_a1_c38.same W40
  have N40 := Fr.snoc X40 N37 g_a1
  refine own_done (Q := fun v h L => Q3c1 Z a1 p2 q3 b1 b2 k1 k2 x0 x1 x2 x3 x4 x5 x6 x7 t0 t1 t2 t3 t4 t5 t6 t7 h0 n0 v h L) (v := none) X40 (fun _ => rfl) hlk (fun fs hr => X40.returnOut hx hret (hb hby d3_76) hr) ?_ (by decide) (by decide)
  show Q3c1 Z a1 p2 q3 b1 b2 k1 k2 x0 x1 x2 x3 x4 x5 x6 x7 t0 t1 t2 t3 t4 t5 t6 t7 h0 n0 _ T40.heap _
  rw [e40]
  exact ⟨rfl, N40, K0_c41, E_a1_c41, F_places_a1_c41, F_tokens_a1_c41, F_size_a1_c40, V_b1_c41, V_b2_c41⟩
def Q3c2 (Z : State) (a1 : Addr) (p2 : Int32) (q3 : Int64) (b1 : Addr) (b2 : Addr) (k1 : ClassId) (k2 : ClassId) (x0 : Int32) (x1 : Int32) (x2 : Int32) (x3 : Int32) (x4 : Int32) (x5 : Int32) (x6 : Int32) (x7 : Int32) (t0 : Int64) (t1 : Int64) (t2 : Int64) (t3 : Int64) (t4 : Int64) (t5 : Int64) (t6 : Int64) (t7 : Int64) (h0 : Heap) (n0 : Nat) (v : Option Value) (h : Heap) (L : List Loc) : Prop := v = none ∧ Fr n0 L ∧ Keep h0 h [a1, b1, b2] ∧ Exa Z h a1 "com/example/net_reducer/netreducer/analysis/Marking" ∧ Fld Z h a1 "com/example/net_reducer/netreducer/analysis/Marking" "places" "[I" (.ref b1) ∧ Fld Z h a1 "com/example/net_reducer/netreducer/analysis/Marking" "tokens" "[J" (.ref b2) ∧ Fld Z h a1 "com/example/net_reducer/netreducer/analysis/Marking" "size" "I" (.int (3 : Int32)) ∧ Arv Z h b1 k1 .int (8 : Int32) [(.int x0), (.int x1), (.int p2), (.int x3), (.int x4), (.int x5), (.int x6), (.int x7)] (.int (0 : Int32)) ∧ Arv Z h b2 k2 .long (8 : Int32) [(.long t0), (.long t1), (.long q3), (.long t3), (.long t4), (.long t5), (.long t6), (.long t7)] (.long (0 : Int64))
set_option maxRecDepth 65536 in
set_option maxHeartbeats 40000000 in
theorem rm3c2 (l : Launch) (Z : State) (a0 : Array Value) (hw : ∀ d ∈ tables_1, d.before a0 Z = true) (ws : List Jvm.Cond) (a1 : Addr) (p2 : Int32) (q3 : Int64) (b1 : Addr) (b2 : Addr) (k1 : ClassId) (k2 : ClassId) (x0 : Int32) (x1 : Int32) (x2 : Int32) (x3 : Int32) (x4 : Int32) (x5 : Int32) (x6 : Int32) (x7 : Int32) (t0 : Int64) (t1 : Int64) (t2 : Int64) (t3 : Int64) (t4 : Int64) (t5 : Int64) (t6 : Int64) (t7 : Int64) (h0 : Heap) (n0 : Nat) (Z0 : n0 ≤ h0.size) (E_a1 : Exa Z h0 a1 "com/example/net_reducer/netreducer/analysis/Marking") (F_places_a1 : Fld Z h0 a1 "com/example/net_reducer/netreducer/analysis/Marking" "places" "[I" (.ref b1)) (F_tokens_a1 : Fld Z h0 a1 "com/example/net_reducer/netreducer/analysis/Marking" "tokens" "[J" (.ref b2)) (F_size_a1 : Fld Z h0 a1 "com/example/net_reducer/netreducer/analysis/Marking" "size" "I" (.int (2 : Int32))) (V_b1 : Arv Z h0 b1 k1 .int (8 : Int32) [(.int x0), (.int x1), (.int x2), (.int x3), (.int x4), (.int x5), (.int x6), (.int x7)] (.int (0 : Int32))) (V_b2 : Arv Z h0 b2 k2 .long (8 : Int32) [(.long t0), (.long t1), (.long t2), (.long t3), (.long t4), (.long t5), (.long t6), (.long t7)] (.long (0 : Int64))) (g_a1 : n0 ≤ a1) (g_b1 : n0 ≤ b1) (g_b2 : n0 ≤ b2) (ne_a1_b1 : a1 ≠ b1) (ne_a1_b2 : a1 ≠ b2) (ne_b1_b2 : b1 ≠ b2) :
    MetFree l (⟨"com/example/net_reducer/netreducer/analysis/Marking", "add", "(IJ)V"⟩ : MethodName) (head1 (Jvm.Cond.code (⟨"com/example/net_reducer/netreducer/analysis/Marking", "add", "(IJ)V"⟩ : MethodName) prog_10_method_7_code 4 none :: ws) ({ frames := 0, cells := 0, slots := 0, locals := 0 } : Room)) (fun a U => a = #[(.ref a1), (.int p2), (.long q3)] ∧ Z.Warmed39 U.vm ∧ U.heap = h0) (fun _ _ _ _ _ => True) (fun _ U o U' => ∃ v L, o = .returned v ∧ Q3c2 Z a1 p2 q3 b1 b2 k1 k2 x0 x1 x2 x3 x4 x5 x6 x7 t0 t1 t2 t3 t4 t5 t6 t7 h0 n0 v U'.heap L ∧ FrameEnd U o U' L ({ frames := 0, cells := 0, slots := 0, locals := 0 } : Room).cells ({ frames := 0, cells := 0, slots := 0, locals := 0 } : Room).slots) := by
  refine MetFree.of_bodySF (plainFor_of_name pn_3) hisR ?_
  intro p e s m args below meth c s₁ Bd hml0 hP hK
  obtain ⟨rfl, hZ, hh⟩ := hP
  have hx := Bd.exec
  have hby := Bd.bytes
  have hml : c.maxLocals = 4 := hml0
  have hown : s.vm.findClass "com/example/net_reducer/netreducer/analysis/Marking" = some m.cls := findClass_of_methodNamed Bd.named
  have hnm := (name_of_methodNamed Bd.named Bd.method).1
  have hret := Bd.returns
  have hlk : meth.locks = false := BodyLoose.notSynchronized Bd
  have X0 : Stand p l e ({ frames := 0, cells := 0, slots := 0, locals := 0 } : Room) s m #[(.ref a1), (.int p2), (.long q3)] below meth c s₁ [] 0 0 := Stand.of_body Bd
  have e0 : s₁.heap = h0 := by rw [← hh, Bd.state]; rfl
  have N0 := Fr.nil n0
  have W := fun (k : Nat) {d : Jvm.Cond} (h : tables_1[k]? = some d) => hw d (List.mem_of_getElem? h)
  have K0 : Keep h0 h0 [a1, b1, b2] := Keep.refl _ _
  refine own_start (ef_3 m a1 p2 q3) ?_
  show own_Run p e below _ s₁ (mkF m 0 #[.val (.ref a1), .val (.int p2), .val (.long q3), .second] [])
  refine own_go (fun _ k => XS.aloadN X0.here hx rfl (hb hby d3_0) rfl rfl k) ?_
  show own_Run p e below _ s₁ (mkF m 1 #[.val (.ref a1), .val (.int p2), .val (.long q3), .second] [(.ref a1)])
  obtain ⟨T42, X42, e42, st42⟩ := getF X0 hx hZ hown (host := "") (Or.inl (W 27 rfl)) Via.refl e0 F_size_a1 (g := (mkF m 1 #[.val (.ref a1), .val (.int p2), .val (.long q3), .second] [(.ref a1)])) rfl rfl (hb hby d3_1)
  refine own_go st42 ?_
  show own_Run p e below _ T42 (mkF m 4 #[.val (.ref a1), .val (.int p2), .val (.long q3), .second] [(.int (2 : Int32))])
  refine own_go (fun _ k => XS.aloadN X42.here hx rfl (hb hby d3_4) rfl rfl k) ?_
  show own_Run p e below _ T42 (mkF m 5 #[.val (.ref a1), .val (.int p2), .val (.long q3), .second] [(.ref a1), (.int (2 : Int32))])
  obtain ⟨T43, X43, e43, st43⟩ := getF X42 hx hZ hown (host := "") (Or.inl (W 18 rfl)) Via.refl e42 F_places_a1 (g := (mkF m 5 #[.val (.ref a1), .val (.int p2), .val (.long q3), .second] [(.ref a1), (.int (2 : Int32))])) rfl rfl (hb hby d3_5)
  refine own_go st43 ?_
  show own_Run p e below _ T43 (mkF m 8 #[.val (.ref a1), .val (.int p2), .val (.long q3), .second] [(.ref b1), (.int (2 : Int32))])
  obtain ⟨cl44, Ar44, q44, S44, N44, H44, G44⟩ := id V_b1
  refine own_go (X43.arraylength hx (by rw [e43]; exact Ar44.1) (State.isArrayOf_alike hZ.alike Ar44.2.1) (g := (mkF m 8 #[.val (.ref a1), .val (.int p2), .val (.long q3), .second] [(.ref b1), (.int (2 : Int32))])) rfl rfl (hb hby d3_8)) ?_
  rw [len_of S44 N44]
  show own_Run p e below _ T43 (mkF m 9 #[.val (.ref a1), .val (.int p2), .val (.long q3), .second] [(.int (8 : Int32)), (.int (2 : Int32))])
  refine own_go (fun _ k => XS.icmpYes X43.here hx rfl (pc0 := 9) (pc' := 46) rfl (hb hby d3_9) rfl (feq (by decide : ¬ ((2 : Int32) = (8 : Int32)))).2 (by decide) (by decide) k) ?_
  show own_Run p e below _ T43 (mkF m 46 #[.val (.ref a1), .val (.int p2), .val (.long q3), .second] [])
  refine own_go (fun _ k => XS.aloadN X43.here hx rfl (hb hby d3_46) rfl rfl k) ?_
  show own_Run p e below _ T43 (mkF m 47 #[.val (.ref a1), .val (.int p2), .val (.long q3), .second] [(.ref a1)])
  obtain ⟨T45, X45, e45, st45⟩ := getF X43 hx hZ hown (host := "") (Or.inl (W 18 rfl)) Via.refl e43 F_places_a1 (g := (mkF m 47 #[.val (.ref a1), .val (.int p2), .val (.long q3), .second] [(.ref a1)])) rfl rfl (hb hby d3_47)
  refine own_go st45 ?_
  show own_Run p e below _ T45 (mkF m 50 #[.val (.ref a1), .val (.int p2), .val (.long q3), .second] [(.ref b1)])
  refine own_go (fun _ k => XS.aloadN X45.here hx rfl (hb hby d3_50) rfl rfl k) ?_
  show own_Run p e below _ T45 (mkF m 51 #[.val (.ref a1), .val (.int p2), .val (.long q3), .second] [(.ref a1), (.ref b1)])
  obtain ⟨T46, X46, e46, st46⟩ := getF X45 hx hZ hown (host := "") (Or.inl (W 27 rfl)) Via.refl e45 F_size_a1 (g := (mkF m 51 #[.val (.ref a1), .val (.int p2), .val (.long q3), .second] [(.ref a1), (.ref b1)])) rfl rfl (hb hby d3_51)
  refine own_go st46 ?_
  show own_Run p e below _ T46 (mkF m 54 #[.val (.ref a1), .val (.int p2), .val (.long q3), .second] [(.int (2 : Int32)), (.ref b1)])
  refine own_go (fun _ k => XS.iloadN X46.here hx rfl (hb hby d3_54) rfl k) ?_
  show own_Run p e below _ T46 (mkF m 55 #[.val (.ref a1), .val (.int p2), .val (.long q3), .second] [(.int p2), (.int (2 : Int32)), (.ref b1)])
  obtain ⟨cl47, Ar47, q47, S47, N47, H47, G47⟩ := id V_b1
  have hin47 : ¬ ((2 : Int32) < 0 ∨ cl47.slots.size ≤ ((2 : Int32)).toNatClampNeg) := inb_of S47 ⟨by decide, by decide⟩
  obtain ⟨T48, h48, X48, e48, W48, st48⟩ := stI X46 hx hZ e46 Ar47 (j := (2 : Int32)) hin47 (g := (mkF m 55 #[.val (.ref a1), .val (.int p2), .val (.long q3), .second] [(.int p2), (.int (2 : Int32)), (.ref b1)])) rfl rfl (hb hby d3_55)
  refine own_go st48 ?_
  show own_Run p e below _ T48 (mkF m 56 #[.val (.ref a1), .val (.int p2), .val (.long q3), .second] [])
  have Z0_c49 := Nat.le_trans Z0 (Keep.of_wr W48).1
  have K0_c49 := K0.wr W48 (Or.inl (List.mem_of_getElem? (i := 1) rfl))
  have E_a1_c49 := E_a1.wr W48
  have F_places_a1_c49 := F_places_a1.other W48 (Or.inl ne_a1_b1)
  have F_tokens_a1_c49 := F_tokens_a1.other W48 (Or.inl ne_a1_b1)
  have F_size_a1_c49 := F_size_a1.other W48 (Or.inl ne_a1_b1)
  have V_b2_c49 := V_b2.other W48 (Ne.symm ne_b1_b2)
  have V_b1_c48 : Arv Z h48 b1 k1 .int (8 : Int32) [(.int x0), (.int x1), (.int p2), (.int x3), (.int x4), (.int x5), (.int x6), (.int x7)] (.int (0 : Int32)) := Arv.set Ar47 q47 S47 N47 H47 G47 rfl W48 2 rfl (Nat.le_of_ble_eq_true rfl)
  have N48 := Fr.snoc X48 N0 g_b1
  refine own_go (fun _ k => XS.aloadN X48.here hx rfl (hb hby d3_56) rfl rfl k) ?_
  show own_Run p e below _ T48 (mkF m 57 #[.val (.ref a1), .val (.int p2), .val (.long q3), .second] [(.ref a1)])
  obtain ⟨T50, X50, e50, st50⟩ := getF X48 hx hZ hown (host := "") (Or.inl (W 20 rfl)) Via.refl e48 F_tokens_a1_c49 (g := (mkF m 57 #[.val (.ref a1), .val (.int p2), .val (.long q3), .second] [(.ref a1)])) rfl rfl (hb hby d3_57)
  refine own_go st50 ?_
  show own_Run p e below _ T50 (mkF m 60 #[.val (.ref a1), .val (.int p2), .val (.long q3), .second] [(.ref b2)])
  refine own_go (fun _ k => XS.aloadN X50.here hx rfl (hb hby d3_60) rfl rfl k) ?_
  show own_Run p e below _ T50 (mkF m 61 #[.val (.ref a1), .val (.int p2), .val (.long q3), .second] [(.ref a1), (.ref b2)])
  obtain ⟨T51, X51, e51, st51⟩ := getF X50 hx hZ hown (host := "") (Or.inl (W 27 rfl)) Via.refl e50 F_size_a1_c49 (g := (mkF m 61 #[.val (.ref a1), .val (.int p2), .val (.long q3), .second] [(.ref a1), (.ref b2)])) rfl rfl (hb hby d3_61)
  refine own_go st51 ?_
  show own_Run p e below _ T51 (mkF m 64 #[.val (.ref a1), .val (.int p2), .val (.long q3), .second] [(.int (2 : Int32)), (.ref b2)])
  refine own_go (fun _ k => XS.lloadN X51.here hx rfl (hb hby d3_64) rfl k) ?_
  show own_Run p e below _ T51 (mkF m 65 #[.val (.ref a1), .val (.int p2), .val (.long q3), .second] [(.long q3), (.int (2 : Int32)), (.ref b2)])
  obtain ⟨cl52, Ar52, q52, S52, N52, H52, G52⟩ := id V_b2_c49
  have hin52 : ¬ ((2 : Int32) < 0 ∨ cl52.slots.size ≤ ((2 : Int32)).toNatClampNeg) := inb_of S52 ⟨by decide, by decide⟩
  obtain ⟨T53, h53, X53, e53, W53, st53⟩ := stJ X51 hx hZ e51 Ar52 (j := (2 : Int32)) hin52 (g := (mkF m 65 #[.val (.ref a1), .val (.int p2), .val (.long q3), .second] [(.long q3), (.int (2 : Int32)), (.ref b2)])) rfl rfl (hb hby d3_65)
  refine own_go st53 ?_
  show own_Run p e below _ T53 (mkF m 66 #[.val (.ref a1), .val (.int p2), .val (.long q3), .second] [])
  have Z0_c54 := Nat.le_trans Z0_c49 (Keep.of_wr W53).1
  have K0_c54 := K0_c49.wr W53 (Or.inl (List.mem_of_getElem? (i := 2) rfl))
  have E_a1_c54 := E_a1_c49.wr W53
  have F_places_a1_c54 := F_places_a1_c49.other W53 (Or.inl ne_a1_b2)
  have F_tokens_a1_c54 := F_tokens_a1_c49.other W53 (Or.inl ne_a1_b2)
  have F_size_a1_c54 := F_size_a1_c49.other W53 (Or.inl ne_a1_b2)
  have V_b1_c54 := V_b1_c48.other W53 ne_b1_b2
  have V_b2_c53 : Arv Z h53 b2 k2 .long (8 : Int32) [(.long t0), (.long t1), (.long q3), (.long t3), (.long t4), (.long t5), (.long t6), (.long t7)] (.long (0 : Int64)) := Arv.set Ar52 q52 S52 N52 H52 G52 rfl W53 2 rfl (Nat.le_of_ble_eq_true rfl)
  have N53 := Fr.snoc X53 N48 g_b2
  refine own_go (fun _ k => XS.aloadN X53.here hx rfl (hb hby d3_66) rfl rfl k) ?_
  refine own_go (fun _ k => XS.dup X53.here hx rfl (hb hby d3_67) rfl rfl k) ?_
  show own_Run p e below _ T53 (mkF m 68 #[.val (.ref a1), .val (.int p2), .val (.long q3), .second] [(.ref a1), (.ref a1)])
  obtain ⟨T55, X55, e55, st55⟩ := getF X53 hx hZ hown (host := "") (Or.inl (W 27 rfl)) Via.refl e53 F_size_a1_c54 (g := (mkF m 68 #[.val (.ref a1), .val (.int p2), .val (.long q3), .second] [(.ref a1), (.ref a1)])) rfl rfl (hb hby d3_68)
  refine own_go st55 ?_
  show own_Run p e below _ T55 (mkF m 71 #[.val (.ref a1), .val (.int p2), .val (.long q3), .second] [(.int (2 : Int32)), (.ref a1)])
  refine own_go (fun _ k => XS.iconst X55.here hx rfl (hb hby d3_71) k) ?_
  refine own_go (fun _ k => XS.iadd X55.here hx rfl (hb hby d3_72) rfl k) ?_
  show own_Run p e below _ T55 (mkF m 73 #[.val (.ref a1), .val (.int p2), .val (.long q3), .second] [(.int ((2 : Int32) + (1 : Int32))), (.ref a1)])
  rw [show ((2 : Int32) + (1 : Int32)) = (3 : Int32) by decide]
  show own_Run p e below _ T55 (mkF m 73 #[.val (.ref a1), .val (.int p2), .val (.long q3), .second] [(.int (3 : Int32)), (.ref a1)])
  obtain ⟨T56, h56, X56, e56, W56, st56⟩ := putF X55 hx hZ hown (host := "") (Or.inl (W 27 rfl)) Via.refl e55 F_size_a1_c54 E_a1_c54 (Or.inl (W 28 rfl)) (W 10 rfl) (ty := .int) (by decide) rfl rfl (g := (mkF m 73 #[.val (.ref a1), .val (.int p2), .val (.long q3), .second] [(.int (3 : Int32)), (.ref a1)])) rfl rfl (hb hby d3_73)
  refine own_go st56 ?_
  show own_Run p e below _ T56 (mkF m 76 #[.val (.ref a1), .val (.int p2), .val (.long q3), .second] [])
  have Z0_c57 := Nat.le_trans Z0_c54 (Keep.of_wr W56).1
  have K0_c57 := K0_c54.wr W56 (Or.inl (List.mem_of_getElem? (i := 0) rfl))
  have E_a1_c57 := E_a1_c54.wr W56
  have F_places_a1_c57 := F_places_a1_c54.other W56 (Or.inr (slot_ne (Or.inl (W 19 rfl)) (Or.inl (W 28 rfl)) (by decide) (t := (.array .int)) (t' := .int) (by decide) (by decide)))
  have F_tokens_a1_c57 := F_tokens_a1_c54.other W56 (Or.inr (slot_ne (Or.inl (W 21 rfl)) (Or.inl (W 28 rfl)) (by decide) (t := (.array .long)) (t' := .int) (by decide) (by decide)))
  have V_b1_c57 := V_b1_c54.other W56 (Ne.symm ne_a1_b1)
  have V_b2_c57 := V_b2_c53.other W56 (Ne.symm ne_a1_b2)
  have F_size_a1_c56 : Fld Z h56 a1 "com/example/net_reducer/netreducer/analysis/Marking" "size" "I" (.int (3 : Int32)) := F_size_a1_c54.same W56
  have N56 := Fr.snoc X56 N53 g_a1
  refine own_done (Q := fun v h L => Q3c2 Z a1 p2 q3 b1 b2 k1 k2 x0 x1 x2 x3 x4 x5 x6 x7 t0 t1 t2 t3 t4 t5 t6 t7 h0 n0 v h L) (v := none) X56 (fun _ => rfl) hlk (fun fs hr => X56.returnOut hx hret (hb hby d3_76) hr) ?_ (by decide) (by decide)
  show Q3c2 Z a1 p2 q3 b1 b2 k1 k2 x0 x1 x2 x3 x4 x5 x6 x7 t0 t1 t2 t3 t4 t5 t6 t7 h0 n0 _ T56.heap _
  rw [e56]
  exact ⟨rfl, N56, K0_c57, E_a1_c57, F_places_a1_c57, F_tokens_a1_c57, F_size_a1_c56, V_b1_c57, V_b2_c57⟩
def Q3c3 (Z : State) (a1 : Addr) (p2 : Int32) (q3 : Int64) (b1 : Addr) (b2 : Addr) (k1 : ClassId) (k2 : ClassId) (x0 : Int32) (x1 : Int32) (x2 : Int32) (x3 : Int32) (x4 : Int32) (x5 : Int32) (x6 : Int32) (x7 : Int32) (t0 : Int64) (t1 : Int64) (t2 : Int64) (t3 : Int64) (t4 : Int64) (t5 : Int64) (t6 : Int64) (t7 : Int64) (h0 : Heap) (n0 : Nat) (v : Option Value) (h : Heap) (L : List Loc) : Prop := v = none ∧ Fr n0 L ∧ Keep h0 h [a1, b1, b2] ∧ Exa Z h a1 "com/example/net_reducer/netreducer/analysis/Marking" ∧ Fld Z h a1 "com/example/net_reducer/netreducer/analysis/Marking" "places" "[I" (.ref b1) ∧ Fld Z h a1 "com/example/net_reducer/netreducer/analysis/Marking" "tokens" "[J" (.ref b2) ∧ Fld Z h a1 "com/example/net_reducer/netreducer/analysis/Marking" "size" "I" (.int (4 : Int32)) ∧ Arv Z h b1 k1 .int (8 : Int32) [(.int x0), (.int x1), (.int x2), (.int p2), (.int x4), (.int x5), (.int x6), (.int x7)] (.int (0 : Int32)) ∧ Arv Z h b2 k2 .long (8 : Int32) [(.long t0), (.long t1), (.long t2), (.long q3), (.long t4), (.long t5), (.long t6), (.long t7)] (.long (0 : Int64))
set_option maxRecDepth 65536 in
set_option maxHeartbeats 40000000 in
theorem rm3c3 (l : Launch) (Z : State) (a0 : Array Value) (hw : ∀ d ∈ tables_1, d.before a0 Z = true) (ws : List Jvm.Cond) (a1 : Addr) (p2 : Int32) (q3 : Int64) (b1 : Addr) (b2 : Addr) (k1 : ClassId) (k2 : ClassId) (x0 : Int32) (x1 : Int32) (x2 : Int32) (x3 : Int32) (x4 : Int32) (x5 : Int32) (x6 : Int32) (x7 : Int32) (t0 : Int64) (t1 : Int64) (t2 : Int64) (t3 : Int64) (t4 : Int64) (t5 : Int64) (t6 : Int64) (t7 : Int64) (h0 : Heap) (n0 : Nat) (Z0 : n0 ≤ h0.size) (E_a1 : Exa Z h0 a1 "com/example/net_reducer/netreducer/analysis/Marking") (F_places_a1 : Fld Z h0 a1 "com/example/net_reducer/netreducer/analysis/Marking" "places" "[I" (.ref b1)) (F_tokens_a1 : Fld Z h0 a1 "com/example/net_reducer/netreducer/analysis/Marking" "tokens" "[J" (.ref b2)) (F_size_a1 : Fld Z h0 a1 "com/example/net_reducer/netreducer/analysis/Marking" "size" "I" (.int (3 : Int32))) (V_b1 : Arv Z h0 b1 k1 .int (8 : Int32) [(.int x0), (.int x1), (.int x2), (.int x3), (.int x4), (.int x5), (.int x6), (.int x7)] (.int (0 : Int32))) (V_b2 : Arv Z h0 b2 k2 .long (8 : Int32) [(.long t0), (.long t1), (.long t2), (.long t3), (.long t4), (.long t5), (.long t6), (.long t7)] (.long (0 : Int64))) (g_a1 : n0 ≤ a1) (g_b1 : n0 ≤ b1) (g_b2 : n0 ≤ b2) (ne_a1_b1 : a1 ≠ b1) (ne_a1_b2 : a1 ≠ b2) (ne_b1_b2 : b1 ≠ b2) :
    MetFree l (⟨"com/example/net_reducer/netreducer/analysis/Marking", "add", "(IJ)V"⟩ : MethodName) (head1 (Jvm.Cond.code (⟨"com/example/net_reducer/netreducer/analysis/Marking", "add", "(IJ)V"⟩ : MethodName) prog_10_method_7_code 4 none :: ws) ({ frames := 0, cells := 0, slots := 0, locals := 0 } : Room)) (fun a U => a = #[(.ref a1), (.int p2), (.long q3)] ∧ Z.Warmed39 U.vm ∧ U.heap = h0) (fun _ _ _ _ _ => True) (fun _ U o U' => ∃ v L, o = .returned v ∧ Q3c3 Z a1 p2 q3 b1 b2 k1 k2 x0 x1 x2 x3 x4 x5 x6 x7 t0 t1 t2 t3 t4 t5 t6 t7 h0 n0 v U'.heap L ∧ FrameEnd U o U' L ({ frames := 0, cells := 0, slots := 0, locals := 0 } : Room).cells ({ frames := 0, cells := 0, slots := 0, locals := 0 } : Room).slots) := by
  refine MetFree.of_bodySF (plainFor_of_name pn_3) hisR ?_
  intro p e s m args below meth c s₁ Bd hml0 hP hK
  obtain ⟨rfl, hZ, hh⟩ := hP
  have hx := Bd.exec
  have hby := Bd.bytes
  have hml : c.maxLocals = 4 := hml0
  have hown : s.vm.findClass "com/example/net_reducer/netreducer/analysis/Marking" = some m.cls := findClass_of_methodNamed Bd.named
  have hnm := (name_of_methodNamed Bd.named Bd.method).1
  have hret := Bd.returns
  have hlk : meth.locks = false := BodyLoose.notSynchronized Bd
  have X0 : Stand p l e ({ frames := 0, cells := 0, slots := 0, locals := 0 } : Room) s m #[(.ref a1), (.int p2), (.long q3)] below meth c s₁ [] 0 0 := Stand.of_body Bd
  have e0 : s₁.heap = h0 := by rw [← hh, Bd.state]; rfl
  have N0 := Fr.nil n0
  have W := fun (k : Nat) {d : Jvm.Cond} (h : tables_1[k]? = some d) => hw d (List.mem_of_getElem? h)
  have K0 : Keep h0 h0 [a1, b1, b2] := Keep.refl _ _
  refine own_start (ef_3 m a1 p2 q3) ?_
  show own_Run p e below _ s₁ (mkF m 0 #[.val (.ref a1), .val (.int p2), .val (.long q3), .second] [])
  refine own_go (fun _ k => XS.aloadN X0.here hx rfl (hb hby d3_0) rfl rfl k) ?_
  show own_Run p e below _ s₁ (mkF m 1 #[.val (.ref a1), .val (.int p2), .val (.long q3), .second] [(.ref a1)])
  obtain ⟨T58, X58, e58, st58⟩ := getF X0 hx hZ hown (host := "") (Or.inl (W 27 rfl)) Via.refl e0 F_size_a1 (g := (mkF m 1 #[.val (.ref a1), .val (.int p2), .val (.long q3), .second] [(.ref a1)])) rfl rfl (hb hby d3_1)
  refine own_go st58 ?_
  show own_Run p e below _ T58 (mkF m 4 #[.val (.ref a1), .val (.int p2), .val (.long q3), .second] [(.int (3 : Int32))])
  refine own_go (fun _ k => XS.aloadN X58.here hx rfl (hb hby d3_4) rfl rfl k) ?_
  show own_Run p e below _ T58 (mkF m 5 #[.val (.ref a1), .val (.int p2), .val (.long q3), .second] [(.ref a1), (.int (3 : Int32))])
  obtain ⟨T59, X59, e59, st59⟩ := getF X58 hx hZ hown (host := "") (Or.inl (W 18 rfl)) Via.refl e58 F_places_a1 (g := (mkF m 5 #[.val (.ref a1), .val (.int p2), .val (.long q3), .second] [(.ref a1), (.int (3 : Int32))])) rfl rfl (hb hby d3_5)
  refine own_go st59 ?_
  show own_Run p e below _ T59 (mkF m 8 #[.val (.ref a1), .val (.int p2), .val (.long q3), .second] [(.ref b1), (.int (3 : Int32))])
  obtain ⟨cl60, Ar60, q60, S60, N60, H60, G60⟩ := id V_b1
  refine own_go (X59.arraylength hx (by rw [e59]; exact Ar60.1) (State.isArrayOf_alike hZ.alike Ar60.2.1) (g := (mkF m 8 #[.val (.ref a1), .val (.int p2), .val (.long q3), .second] [(.ref b1), (.int (3 : Int32))])) rfl rfl (hb hby d3_8)) ?_
  rw [len_of S60 N60]
  show own_Run p e below _ T59 (mkF m 9 #[.val (.ref a1), .val (.int p2), .val (.long q3), .second] [(.int (8 : Int32)), (.int (3 : Int32))])
  refine own_go (fun _ k => XS.icmpYes X59.here hx rfl (pc0 := 9) (pc' := 46) rfl (hb hby d3_9) rfl (feq (by decide : ¬ ((3 : Int32) = (8 : Int32)))).2 (by decide) (by decide) k) ?_
  show own_Run p e below _ T59 (mkF m 46 #[.val (.ref a1), .val (.int p2), .val (.long q3), .second] [])
  refine own_go (fun _ k => XS.aloadN X59.here hx rfl (hb hby d3_46) rfl rfl k) ?_
  show own_Run p e below _ T59 (mkF m 47 #[.val (.ref a1), .val (.int p2), .val (.long q3), .second] [(.ref a1)])
  obtain ⟨T61, X61, e61, st61⟩ := getF X59 hx hZ hown (host := "") (Or.inl (W 18 rfl)) Via.refl e59 F_places_a1 (g := (mkF m 47 #[.val (.ref a1), .val (.int p2), .val (.long q3), .second] [(.ref a1)])) rfl rfl (hb hby d3_47)
  refine own_go st61 ?_
  show own_Run p e below _ T61 (mkF m 50 #[.val (.ref a1), .val (.int p2), .val (.long q3), .second] [(.ref b1)])
  refine own_go (fun _ k => XS.aloadN X61.here hx rfl (hb hby d3_50) rfl rfl k) ?_
  show own_Run p e below _ T61 (mkF m 51 #[.val (.ref a1), .val (.int p2), .val (.long q3), .second] [(.ref a1), (.ref b1)])
  obtain ⟨T62, X62, e62, st62⟩ := getF X61 hx hZ hown (host := "") (Or.inl (W 27 rfl)) Via.refl e61 F_size_a1 (g := (mkF m 51 #[.val (.ref a1), .val (.int p2), .val (.long q3), .second] [(.ref a1), (.ref b1)])) rfl rfl (hb hby d3_51)
  refine own_go st62 ?_
  show own_Run p e below _ T62 (mkF m 54 #[.val (.ref a1), .val (.int p2), .val (.long q3), .second] [(.int (3 : Int32)), (.ref b1)])
  refine own_go (fun _ k => XS.iloadN X62.here hx rfl (hb hby d3_54) rfl k) ?_
  show own_Run p e below _ T62 (mkF m 55 #[.val (.ref a1), .val (.int p2), .val (.long q3), .second] [(.int p2), (.int (3 : Int32)), (.ref b1)])
  obtain ⟨cl63, Ar63, q63, S63, N63, H63, G63⟩ := id V_b1
  have hin63 : ¬ ((3 : Int32) < 0 ∨ cl63.slots.size ≤ ((3 : Int32)).toNatClampNeg) := inb_of S63 ⟨by decide, by decide⟩
  obtain ⟨T64, h64, X64, e64, W64, st64⟩ := stI X62 hx hZ e62 Ar63 (j := (3 : Int32)) hin63 (g := (mkF m 55 #[.val (.ref a1), .val (.int p2), .val (.long q3), .second] [(.int p2), (.int (3 : Int32)), (.ref b1)])) rfl rfl (hb hby d3_55)
  refine own_go st64 ?_
  show own_Run p e below _ T64 (mkF m 56 #[.val (.ref a1), .val (.int p2), .val (.long q3), .second] [])
  have Z0_c65 := Nat.le_trans Z0 (Keep.of_wr W64).1
  have K0_c65 := K0.wr W64 (Or.inl (List.mem_of_getElem? (i := 1) rfl))
  have E_a1_c65 := E_a1.wr W64
  have F_places_a1_c65 := F_places_a1.other W64 (Or.inl ne_a1_b1)
  have F_tokens_a1_c65 := F_tokens_a1.other W64 (Or.inl ne_a1_b1)
  have F_size_a1_c65 := F_size_a1.other W64 (Or.inl ne_a1_b1)
  have V_b2_c65 := V_b2.other W64 (Ne.symm ne_b1_b2)
  have V_b1_c64 : Arv Z h64 b1 k1 .int (8 : Int32) [(.int x0), (.int x1), (.int x2), (.int p2), (.int x4), (.int x5), (.int x6), (.int x7)] (.int (0 : Int32)) := Arv.set Ar63 q63 S63 N63 H63 G63 rfl W64 3 rfl (Nat.le_of_ble_eq_true rfl)
  have N64 := Fr.snoc X64 N0 g_b1
  refine own_go (fun _ k => XS.aloadN X64.here hx rfl (hb hby d3_56) rfl rfl k) ?_
  show own_Run p e below _ T64 (mkF m 57 #[.val (.ref a1), .val (.int p2), .val (.long q3), .second] [(.ref a1)])
  obtain ⟨T66, X66, e66, st66⟩ := getF X64 hx hZ hown (host := "") (Or.inl (W 20 rfl)) Via.refl e64 F_tokens_a1_c65 (g := (mkF m 57 #[.val (.ref a1), .val (.int p2), .val (.long q3), .second] [(.ref a1)])) rfl rfl (hb hby d3_57)
  refine own_go st66 ?_
  show own_Run p e below _ T66 (mkF m 60 #[.val (.ref a1), .val (.int p2), .val (.long q3), .second] [(.ref b2)])
  refine own_go (fun _ k => XS.aloadN X66.here hx rfl (hb hby d3_60) rfl rfl k) ?_
  show own_Run p e below _ T66 (mkF m 61 #[.val (.ref a1), .val (.int p2), .val (.long q3), .second] [(.ref a1), (.ref b2)])
  obtain ⟨T67, X67, e67, st67⟩ := getF X66 hx hZ hown (host := "") (Or.inl (W 27 rfl)) Via.refl e66 F_size_a1_c65 (g := (mkF m 61 #[.val (.ref a1), .val (.int p2), .val (.long q3), .second] [(.ref a1), (.ref b2)])) rfl rfl (hb hby d3_61)
  refine own_go st67 ?_
  show own_Run p e below _ T67 (mkF m 64 #[.val (.ref a1), .val (.int p2), .val (.long q3), .second] [(.int (3 : Int32)), (.ref b2)])
  refine own_go (fun _ k => XS.lloadN X67.here hx rfl (hb hby d3_64) rfl k) ?_
  show own_Run p e below _ T67 (mkF m 65 #[.val (.ref a1), .val (.int p2), .val (.long q3), .second] [(.long q3), (.int (3 : Int32)), (.ref b2)])
  obtain ⟨cl68, Ar68, q68, S68, N68, H68, G68⟩ := id V_b2_c65
  have hin68 : ¬ ((3 : Int32) < 0 ∨ cl68.slots.size ≤ ((3 : Int32)).toNatClampNeg) := inb_of S68 ⟨by decide, by decide⟩
  obtain ⟨T69, h69, X69, e69, W69, st69⟩ := stJ X67 hx hZ e67 Ar68 (j := (3 : Int32)) hin68 (g := (mkF m 65 #[.val (.ref a1), .val (.int p2), .val (.long q3), .second] [(.long q3), (.int (3 : Int32)), (.ref b2)])) rfl rfl (hb hby d3_65)
  refine own_go st69 ?_
  show own_Run p e below _ T69 (mkF m 66 #[.val (.ref a1), .val (.int p2), .val (.long q3), .second] [])
  have Z0_c70 := Nat.le_trans Z0_c65 (Keep.of_wr W69).1
  have K0_c70 := K0_c65.wr W69 (Or.inl (List.mem_of_getElem? (i := 2) rfl))
  have E_a1_c70 := E_a1_c65.wr W69
  have F_places_a1_c70 := F_places_a1_c65.other W69 (Or.inl ne_a1_b2)
  have F_tokens_a1_c70 := F_tokens_a1_c65.other W69 (Or.inl ne_a1_b2)
  have F_size_a1_c70 := F_size_a1_c65.other W69 (Or.inl ne_a1_b2)
  have V_b1_c70 := V_b1_c64.other W69 ne_b1_b2
  have V_b2_c69 : Arv Z h69 b2 k2 .long (8 : Int32) [(.long t0), (.long t1), (.long t2), (.long q3), (.long t4), (.long t5), (.long t6), (.long t7)] (.long (0 : Int64)) := Arv.set Ar68 q68 S68 N68 H68 G68 rfl W69 3 rfl (Nat.le_of_ble_eq_true rfl)
  have N69 := Fr.snoc X69 N64 g_b2
  refine own_go (fun _ k => XS.aloadN X69.here hx rfl (hb hby d3_66) rfl rfl k) ?_
  refine own_go (fun _ k => XS.dup X69.here hx rfl (hb hby d3_67) rfl rfl k) ?_
  show own_Run p e below _ T69 (mkF m 68 #[.val (.ref a1), .val (.int p2), .val (.long q3), .second] [(.ref a1), (.ref a1)])
  obtain ⟨T71, X71, e71, st71⟩ := getF X69 hx hZ hown (host := "") (Or.inl (W 27 rfl)) Via.refl e69 F_size_a1_c70 (g := (mkF m 68 #[.val (.ref a1), .val (.int p2), .val (.long q3), .second] [(.ref a1), (.ref a1)])) rfl rfl (hb hby d3_68)
  refine own_go st71 ?_
  show own_Run p e below _ T71 (mkF m 71 #[.val (.ref a1), .val (.int p2), .val (.long q3), .second] [(.int (3 : Int32)), (.ref a1)])
  refine own_go (fun _ k => XS.iconst X71.here hx rfl (hb hby d3_71) k) ?_
  refine own_go (fun _ k => XS.iadd X71.here hx rfl (hb hby d3_72) rfl k) ?_
  show own_Run p e below _ T71 (mkF m 73 #[.val (.ref a1), .val (.int p2), .val (.long q3), .second] [(.int ((3 : Int32) + (1 : Int32))), (.ref a1)])
  rw [show ((3 : Int32) + (1 : Int32)) = (4 : Int32) by decide]
  show own_Run p e below _ T71 (mkF m 73 #[.val (.ref a1), .val (.int p2), .val (.long q3), .second] [(.int (4 : Int32)), (.ref a1)])
  obtain ⟨T72, h72, X72, e72, W72, st72⟩ := putF X71 hx hZ hown (host := "") (Or.inl (W 27 rfl)) Via.refl e71 F_size_a1_c70 E_a1_c70 (Or.inl (W 28 rfl)) (W 10 rfl) (ty := .int) (by decide) rfl rfl (g := (mkF m 73 #[.val (.ref a1), .val (.int p2), .val (.long q3), .second] [(.int (4 : Int32)), (.ref a1)])) rfl rfl (hb hby d3_73)
  refine own_go st72 ?_
  show own_Run p e below _ T72 (mkF m 76 #[.val (.ref a1), .val (.int p2), .val (.long q3), .second] [])
  have Z0_c73 := Nat.le_trans Z0_c70 (Keep.of_wr W72).1
  have K0_c73 := K0_c70.wr W72 (Or.inl (List.mem_of_getElem? (i := 0) rfl))
  have E_a1_c73 := E_a1_c70.wr W72
  have F_places_a1_c73 := F_places_a1_c70.other W72 (Or.inr (slot_ne (Or.inl (W 19 rfl)) (Or.inl (W 28 rfl)) (by decide) (t := (.array .int)) (t' := .int) (by decide) (by decide)))
  have F_tokens_a1_c73 := F_tokens_a1_c70.other W72 (Or.inr (slot_ne (Or.inl (W 21 rfl)) (Or.inl (W 28 rfl)) (by decide) (t := (.array .long)) (t' := .int) (by decide) (by decide)))
  have V_b1_c73 := V_b1_c70.other W72 (Ne.symm ne_a1_b1)
  have V_b2_c73 := V_b2_c69.other W72 (Ne.symm ne_a1_b2)
  have F_size_a1_c72 : Fld Z h72 a1 "com/example/net_reducer/netreducer/analysis/Marking" "size" "I" (.int (4 : Int32)) := F_size_a1_c70.same W72
  have N72 := Fr.snoc X72 N69 g_a1
  refine own_done (Q := fun v h L => Q3c3 Z a1 p2 q3 b1 b2 k1 k2 x0 x1 x2 x3 x4 x5 x6 x7 t0 t1 t2 t3 t4 t5 t6 t7 h0 n0 v h L) (v := none) X72 (fun _ => rfl) hlk (fun fs hr => X72.returnOut hx hret (hb hby d3_76) hr) ?_ (by decide) (by decide)
  show Q3c3 Z a1 p2 q3 b1 b2 k1 k2 x0 x1 x2 x3 x4 x5 x6 x7 t0 t1 t2 t3 t4 t5 t6 t7 h0 n0 _ T72.heap _
  rw [e72]
  exact ⟨rfl, N72, K0_c73, E_a1_c73, F_places_a1_c73, F_tokens_a1_c73, F_size_a1_c72, V_b1_c73, V_b2_c73⟩
def Q3c4 (Z : State) (a1 : Addr) (p2 : Int32) (q3 : Int64) (b1 : Addr) (b2 : Addr) (k1 : ClassId) (k2 : ClassId) (x0 : Int32) (x1 : Int32) (x2 : Int32) (x3 : Int32) (x4 : Int32) (x5 : Int32) (x6 : Int32) (x7 : Int32) (t0 : Int64) (t1 : Int64) (t2 : Int64) (t3 : Int64) (t4 : Int64) (t5 : Int64) (t6 : Int64) (t7 : Int64) (h0 : Heap) (n0 : Nat) (v : Option Value) (h : Heap) (L : List Loc) : Prop := v = none ∧ Fr n0 L ∧ Keep h0 h [a1, b1, b2] ∧ Exa Z h a1 "com/example/net_reducer/netreducer/analysis/Marking" ∧ Fld Z h a1 "com/example/net_reducer/netreducer/analysis/Marking" "places" "[I" (.ref b1) ∧ Fld Z h a1 "com/example/net_reducer/netreducer/analysis/Marking" "tokens" "[J" (.ref b2) ∧ Fld Z h a1 "com/example/net_reducer/netreducer/analysis/Marking" "size" "I" (.int (5 : Int32)) ∧ Arv Z h b1 k1 .int (8 : Int32) [(.int x0), (.int x1), (.int x2), (.int x3), (.int p2), (.int x5), (.int x6), (.int x7)] (.int (0 : Int32)) ∧ Arv Z h b2 k2 .long (8 : Int32) [(.long t0), (.long t1), (.long t2), (.long t3), (.long q3), (.long t5), (.long t6), (.long t7)] (.long (0 : Int64))
set_option maxRecDepth 65536 in
set_option maxHeartbeats 40000000 in
theorem rm3c4 (l : Launch) (Z : State) (a0 : Array Value) (hw : ∀ d ∈ tables_1, d.before a0 Z = true) (ws : List Jvm.Cond) (a1 : Addr) (p2 : Int32) (q3 : Int64) (b1 : Addr) (b2 : Addr) (k1 : ClassId) (k2 : ClassId) (x0 : Int32) (x1 : Int32) (x2 : Int32) (x3 : Int32) (x4 : Int32) (x5 : Int32) (x6 : Int32) (x7 : Int32) (t0 : Int64) (t1 : Int64) (t2 : Int64) (t3 : Int64) (t4 : Int64) (t5 : Int64) (t6 : Int64) (t7 : Int64) (h0 : Heap) (n0 : Nat) (Z0 : n0 ≤ h0.size) (E_a1 : Exa Z h0 a1 "com/example/net_reducer/netreducer/analysis/Marking") (F_places_a1 : Fld Z h0 a1 "com/example/net_reducer/netreducer/analysis/Marking" "places" "[I" (.ref b1)) (F_tokens_a1 : Fld Z h0 a1 "com/example/net_reducer/netreducer/analysis/Marking" "tokens" "[J" (.ref b2)) (F_size_a1 : Fld Z h0 a1 "com/example/net_reducer/netreducer/analysis/Marking" "size" "I" (.int (4 : Int32))) (V_b1 : Arv Z h0 b1 k1 .int (8 : Int32) [(.int x0), (.int x1), (.int x2), (.int x3), (.int x4), (.int x5), (.int x6), (.int x7)] (.int (0 : Int32))) (V_b2 : Arv Z h0 b2 k2 .long (8 : Int32) [(.long t0), (.long t1), (.long t2), (.long t3), (.long t4), (.long t5), (.long t6), (.long t7)] (.long (0 : Int64))) (g_a1 : n0 ≤ a1) (g_b1 : n0 ≤ b1) (g_b2 : n0 ≤ b2) (ne_a1_b1 : a1 ≠ b1) (ne_a1_b2 : a1 ≠ b2) (ne_b1_b2 : b1 ≠ b2) :
    MetFree l (⟨"com/example/net_reducer/netreducer/analysis/Marking", "add", "(IJ)V"⟩ : MethodName) (head1 (Jvm.Cond.code (⟨"com/example/net_reducer/netreducer/analysis/Marking", "add", "(IJ)V"⟩ : MethodName) prog_10_method_7_code 4 none :: ws) ({ frames := 0, cells := 0, slots := 0, locals := 0 } : Room)) (fun a U => a = #[(.ref a1), (.int p2), (.long q3)] ∧ Z.Warmed39 U.vm ∧ U.heap = h0) (fun _ _ _ _ _ => True) (fun _ U o U' => ∃ v L, o = .returned v ∧ Q3c4 Z a1 p2 q3 b1 b2 k1 k2 x0 x1 x2 x3 x4 x5 x6 x7 t0 t1 t2 t3 t4 t5 t6 t7 h0 n0 v U'.heap L ∧ FrameEnd U o U' L ({ frames := 0, cells := 0, slots := 0, locals := 0 } : Room).cells ({ frames := 0, cells := 0, slots := 0, locals := 0 } : Room).slots) := by
  refine MetFree.of_bodySF (plainFor_of_name pn_3) hisR ?_
  intro p e s m args below meth c s₁ Bd hml0 hP hK
  obtain ⟨rfl, hZ, hh⟩ := hP
  have hx := Bd.exec
  have hby := Bd.bytes
  have hml : c.maxLocals = 4 := hml0
  have hown : s.vm.findClass "com/example/net_reducer/netreducer/analysis/Marking" = some m.cls := findClass_of_methodNamed Bd.named
  have hnm := (name_of_methodNamed Bd.named Bd.method).1
  have hret := Bd.returns
  have hlk : meth.locks = false := BodyLoose.notSynchronized Bd
  have X0 : Stand p l e ({ frames := 0, cells := 0, slots := 0, locals := 0 } : Room) s m #[(.ref a1), (.int p2), (.long q3)] below meth c s₁ [] 0 0 := Stand.of_body Bd
  have e0 : s₁.heap = h0 := by rw [← hh, Bd.state]; rfl
  have N0 := Fr.nil n0
  have W := fun (k : Nat) {d : Jvm.Cond} (h : tables_1[k]? = some d) => hw d (List.mem_of_getElem? h)
  have K0 : Keep h0 h0 [a1, b1, b2] := Keep.refl _ _
  refine own_start (ef_3 m a1 p2 q3) ?_
  show own_Run p e below _ s₁ (mkF m 0 #[.val (.ref a1), .val (.int p2), .val (.long q3), .second] [])
  refine own_go (fun _ k => XS.aloadN X0.here hx rfl (hb hby d3_0) rfl rfl k) ?_
  show own_Run p e below _ s₁ (mkF m 1 #[.val (.ref a1), .val (.int p2), .val (.long q3), .second] [(.ref a1)])
  obtain ⟨T74, X74, e74, st74⟩ := getF X0 hx hZ hown (host := "") (Or.inl (W 27 rfl)) Via.refl e0 F_size_a1 (g := (mkF m 1 #[.val (.ref a1), .val (.int p2), .val (.long q3), .second] [(.ref a1)])) rfl rfl (hb hby d3_1)
  refine own_go st74 ?_
  show own_Run p e below _ T74 (mkF m 4 #[.val (.ref a1), .val (.int p2), .val (.long q3), .second] [(.int (4 : Int32))])
  refine own_go (fun _ k => XS.aloadN X74.here hx rfl (hb hby d3_4) rfl rfl k) ?_
  show own_Run p e below _ T74 (mkF m 5 #[.val (.ref a1), .val (.int p2), .val (.long q3), .second] [(.ref a1), (.int (4 : Int32))])
  obtain ⟨T75, X75, e75, st75⟩ := getF X74 hx hZ hown (host := "") (Or.inl (W 18 rfl)) Via.refl e74 F_places_a1 (g := (mkF m 5 #[.val (.ref a1), .val (.int p2), .val (.long q3), .second] [(.ref a1), (.int (4 : Int32))])) rfl rfl (hb hby d3_5)
  refine own_go st75 ?_
  show own_Run p e below _ T75 (mkF m 8 #[.val (.ref a1), .val (.int p2), .val (.long q3), .second] [(.ref b1), (.int (4 : Int32))])
  obtain ⟨cl76, Ar76, q76, S76, N76, H76, G76⟩ := id V_b1
  refine own_go (X75.arraylength hx (by rw [e75]; exact Ar76.1) (State.isArrayOf_alike hZ.alike Ar76.2.1) (g := (mkF m 8 #[.val (.ref a1), .val (.int p2), .val (.long q3), .second] [(.ref b1), (.int (4 : Int32))])) rfl rfl (hb hby d3_8)) ?_
  rw [len_of S76 N76]
  show own_Run p e below _ T75 (mkF m 9 #[.val (.ref a1), .val (.int p2), .val (.long q3), .second] [(.int (8 : Int32)), (.int (4 : Int32))])
  refine own_go (fun _ k => XS.icmpYes X75.here hx rfl (pc0 := 9) (pc' := 46) rfl (hb hby d3_9) rfl (feq (by decide : ¬ ((4 : Int32) = (8 : Int32)))).2 (by decide) (by decide) k) ?_
  show own_Run p e below _ T75 (mkF m 46 #[.val (.ref a1), .val (.int p2), .val (.long q3), .second] [])
  refine own_go (fun _ k => XS.aloadN X75.here hx rfl (hb hby d3_46) rfl rfl k) ?_
  show own_Run p e below _ T75 (mkF m 47 #[.val (.ref a1), .val (.int p2), .val (.long q3), .second] [(.ref a1)])
  obtain ⟨T77, X77, e77, st77⟩ := getF X75 hx hZ hown (host := "") (Or.inl (W 18 rfl)) Via.refl e75 F_places_a1 (g := (mkF m 47 #[.val (.ref a1), .val (.int p2), .val (.long q3), .second] [(.ref a1)])) rfl rfl (hb hby d3_47)
  refine own_go st77 ?_
  show own_Run p e below _ T77 (mkF m 50 #[.val (.ref a1), .val (.int p2), .val (.long q3), .second] [(.ref b1)])
  refine own_go (fun _ k => XS.aloadN X77.here hx rfl (hb hby d3_50) rfl rfl k) ?_
  show own_Run p e below _ T77 (mkF m 51 #[.val (.ref a1), .val (.int p2), .val (.long q3), .second] [(.ref a1), (.ref b1)])
  obtain ⟨T78, X78, e78, st78⟩ := getF X77 hx hZ hown (host := "") (Or.inl (W 27 rfl)) Via.refl e77 F_size_a1 (g := (mkF m 51 #[.val (.ref a1), .val (.int p2), .val (.long q3), .second] [(.ref a1), (.ref b1)])) rfl rfl (hb hby d3_51)
  refine own_go st78 ?_
  show own_Run p e below _ T78 (mkF m 54 #[.val (.ref a1), .val (.int p2), .val (.long q3), .second] [(.int (4 : Int32)), (.ref b1)])
  refine own_go (fun _ k => XS.iloadN X78.here hx rfl (hb hby d3_54) rfl k) ?_
  show own_Run p e below _ T78 (mkF m 55 #[.val (.ref a1), .val (.int p2), .val (.long q3), .second] [(.int p2), (.int (4 : Int32)), (.ref b1)])
  obtain ⟨cl79, Ar79, q79, S79, N79, H79, G79⟩ := id V_b1
  have hin79 : ¬ ((4 : Int32) < 0 ∨ cl79.slots.size ≤ ((4 : Int32)).toNatClampNeg) := inb_of S79 ⟨by decide, by decide⟩
  obtain ⟨T80, h80, X80, e80, W80, st80⟩ := stI X78 hx hZ e78 Ar79 (j := (4 : Int32)) hin79 (g := (mkF m 55 #[.val (.ref a1), .val (.int p2), .val (.long q3), .second] [(.int p2), (.int (4 : Int32)), (.ref b1)])) rfl rfl (hb hby d3_55)
  refine own_go st80 ?_
  show own_Run p e below _ T80 (mkF m 56 #[.val (.ref a1), .val (.int p2), .val (.long q3), .second] [])
  have Z0_c81 := Nat.le_trans Z0 (Keep.of_wr W80).1
  have K0_c81 := K0.wr W80 (Or.inl (List.mem_of_getElem? (i := 1) rfl))
  have E_a1_c81 := E_a1.wr W80
  have F_places_a1_c81 := F_places_a1.other W80 (Or.inl ne_a1_b1)
  have F_tokens_a1_c81 := F_tokens_a1.other W80 (Or.inl ne_a1_b1)
  have F_size_a1_c81 := F_size_a1.other W80 (Or.inl ne_a1_b1)
  have V_b2_c81 := V_b2.other W80 (Ne.symm ne_b1_b2)
  have V_b1_c80 : Arv Z h80 b1 k1 .int (8 : Int32) [(.int x0), (.int x1), (.int x2), (.int x3), (.int p2), (.int x5), (.int x6), (.int x7)] (.int (0 : Int32)) := Arv.set Ar79 q79 S79 N79 H79 G79 rfl W80 4 rfl (Nat.le_of_ble_eq_true rfl)
  have N80 := Fr.snoc X80 N0 g_b1
  refine own_go (fun _ k => XS.aloadN X80.here hx rfl (hb hby d3_56) rfl rfl k) ?_
  show own_Run p e below _ T80 (mkF m 57 #[.val (.ref a1), .val (.int p2), .val (.long q3), .second] [(.ref a1)])
  obtain ⟨T82, X82, e82, st82⟩ := getF X80 hx hZ hown (host := "") (Or.inl (W 20 rfl)) Via.refl e80 F_tokens_a1_c81 (g := (mkF m 57 #[.val (.ref a1), .val (.int p2), .val (.long q3), .second] [(.ref a1)])) rfl rfl (hb hby d3_57)
  refine own_go st82 ?_
  show own_Run p e below _ T82 (mkF m 60 #[.val (.ref a1), .val (.int p2), .val (.long q3), .second] [(.ref b2)])
  refine own_go (fun _ k => XS.aloadN X82.here hx rfl (hb hby d3_60) rfl rfl k) ?_
  show own_Run p e below _ T82 (mkF m 61 #[.val (.ref a1), .val (.int p2), .val (.long q3), .second] [(.ref a1), (.ref b2)])
  obtain ⟨T83, X83, e83, st83⟩ := getF X82 hx hZ hown (host := "") (Or.inl (W 27 rfl)) Via.refl e82 F_size_a1_c81 (g := (mkF m 61 #[.val (.ref a1), .val (.int p2), .val (.long q3), .second] [(.ref a1), (.ref b2)])) rfl rfl (hb hby d3_61)
  refine own_go st83 ?_
  show own_Run p e below _ T83 (mkF m 64 #[.val (.ref a1), .val (.int p2), .val (.long q3), .second] [(.int (4 : Int32)), (.ref b2)])
  refine own_go (fun _ k => XS.lloadN X83.here hx rfl (hb hby d3_64) rfl k) ?_
  show own_Run p e below _ T83 (mkF m 65 #[.val (.ref a1), .val (.int p2), .val (.long q3), .second] [(.long q3), (.int (4 : Int32)), (.ref b2)])
  obtain ⟨cl84, Ar84, q84, S84, N84, H84, G84⟩ := id V_b2_c81
  have hin84 : ¬ ((4 : Int32) < 0 ∨ cl84.slots.size ≤ ((4 : Int32)).toNatClampNeg) := inb_of S84 ⟨by decide, by decide⟩
  obtain ⟨T85, h85, X85, e85, W85, st85⟩ := stJ X83 hx hZ e83 Ar84 (j := (4 : Int32)) hin84 (g := (mkF m 65 #[.val (.ref a1), .val (.int p2), .val (.long q3), .second] [(.long q3), (.int (4 : Int32)), (.ref b2)])) rfl rfl (hb hby d3_65)
  refine own_go st85 ?_
  show own_Run p e below _ T85 (mkF m 66 #[.val (.ref a1), .val (.int p2), .val (.long q3), .second] [])
  have Z0_c86 := Nat.le_trans Z0_c81 (Keep.of_wr W85).1
  have K0_c86 := K0_c81.wr W85 (Or.inl (List.mem_of_getElem? (i := 2) rfl))
  have E_a1_c86 := E_a1_c81.wr W85
  have F_places_a1_c86 := F_places_a1_c81.other W85 (Or.inl ne_a1_b2)
  have F_tokens_a1_c86 := F_tokens_a1_c81.other W85 (Or.inl ne_a1_b2)
  have F_size_a1_c86 := F_size_a1_c81.other W85 (Or.inl ne_a1_b2)
  have V_b1_c86 := V_b1_c80.other W85 ne_b1_b2
  have V_b2_c85 : Arv Z h85 b2 k2 .long (8 : Int32) [(.long t0), (.long t1), (.long t2), (.long t3), (.long q3), (.long t5), (.long t6), (.long t7)] (.long (0 : Int64)) := Arv.set Ar84 q84 S84 N84 H84 G84 rfl W85 4 rfl (Nat.le_of_ble_eq_true rfl)
  have N85 := Fr.snoc X85 N80 g_b2
  refine own_go (fun _ k => XS.aloadN X85.here hx rfl (hb hby d3_66) rfl rfl k) ?_
  refine own_go (fun _ k => XS.dup X85.here hx rfl (hb hby d3_67) rfl rfl k) ?_
  show own_Run p e below _ T85 (mkF m 68 #[.val (.ref a1), .val (.int p2), .val (.long q3), .second] [(.ref a1), (.ref a1)])
  obtain ⟨T87, X87, e87, st87⟩ := getF X85 hx hZ hown (host := "") (Or.inl (W 27 rfl)) Via.refl e85 F_size_a1_c86 (g := (mkF m 68 #[.val (.ref a1), .val (.int p2), .val (.long q3), .second] [(.ref a1), (.ref a1)])) rfl rfl (hb hby d3_68)
  refine own_go st87 ?_
  show own_Run p e below _ T87 (mkF m 71 #[.val (.ref a1), .val (.int p2), .val (.long q3), .second] [(.int (4 : Int32)), (.ref a1)])
  refine own_go (fun _ k => XS.iconst X87.here hx rfl (hb hby d3_71) k) ?_
  refine own_go (fun _ k => XS.iadd X87.here hx rfl (hb hby d3_72) rfl k) ?_
  show own_Run p e below _ T87 (mkF m 73 #[.val (.ref a1), .val (.int p2), .val (.long q3), .second] [(.int ((4 : Int32) + (1 : Int32))), (.ref a1)])
  rw [show ((4 : Int32) + (1 : Int32)) = (5 : Int32) by decide]
  show own_Run p e below _ T87 (mkF m 73 #[.val (.ref a1), .val (.int p2), .val (.long q3), .second] [(.int (5 : Int32)), (.ref a1)])
  obtain ⟨T88, h88, X88, e88, W88, st88⟩ := putF X87 hx hZ hown (host := "") (Or.inl (W 27 rfl)) Via.refl e87 F_size_a1_c86 E_a1_c86 (Or.inl (W 28 rfl)) (W 10 rfl) (ty := .int) (by decide) rfl rfl (g := (mkF m 73 #[.val (.ref a1), .val (.int p2), .val (.long q3), .second] [(.int (5 : Int32)), (.ref a1)])) rfl rfl (hb hby d3_73)
  refine own_go st88 ?_
  show own_Run p e below _ T88 (mkF m 76 #[.val (.ref a1), .val (.int p2), .val (.long q3), .second] [])
  have Z0_c89 := Nat.le_trans Z0_c86 (Keep.of_wr W88).1
  have K0_c89 := K0_c86.wr W88 (Or.inl (List.mem_of_getElem? (i := 0) rfl))
  have E_a1_c89 := E_a1_c86.wr W88
  have F_places_a1_c89 := F_places_a1_c86.other W88 (Or.inr (slot_ne (Or.inl (W 19 rfl)) (Or.inl (W 28 rfl)) (by decide) (t := (.array .int)) (t' := .int) (by decide) (by decide)))
  have F_tokens_a1_c89 := F_tokens_a1_c86.other W88 (Or.inr (slot_ne (Or.inl (W 21 rfl)) (Or.inl (W 28 rfl)) (by decide) (t := (.array .long)) (t' := .int) (by decide) (by decide)))
  have V_b1_c89 := V_b1_c86.other W88 (Ne.symm ne_a1_b1)
  have V_b2_c89 := V_b2_c85.other W88 (Ne.symm ne_a1_b2)
  have F_size_a1_c88 : Fld Z h88 a1 "com/example/net_reducer/netreducer/analysis/Marking" "size" "I" (.int (5 : Int32)) := F_size_a1_c86.same W88
  have N88 := Fr.snoc X88 N85 g_a1
  refine own_done (Q := fun v h L => Q3c4 Z a1 p2 q3 b1 b2 k1 k2 x0 x1 x2 x3 x4 x5 x6 x7 t0 t1 t2 t3 t4 t5 t6 t7 h0 n0 v h L) (v := none) X88 (fun _ => rfl) hlk (fun fs hr => X88.returnOut hx hret (hb hby d3_76) hr) ?_ (by decide) (by decide)
  show Q3c4 Z a1 p2 q3 b1 b2 k1 k2 x0 x1 x2 x3 x4 x5 x6 x7 t0 t1 t2 t3 t4 t5 t6 t7 h0 n0 _ T88.heap _
  rw [e88]
  exact ⟨rfl, N88, K0_c89, E_a1_c89, F_places_a1_c89, F_tokens_a1_c89, F_size_a1_c88, V_b1_c89, V_b2_c89⟩
def Q3c5 (Z : State) (a1 : Addr) (p2 : Int32) (q3 : Int64) (b1 : Addr) (b2 : Addr) (k1 : ClassId) (k2 : ClassId) (x0 : Int32) (x1 : Int32) (x2 : Int32) (x3 : Int32) (x4 : Int32) (x5 : Int32) (x6 : Int32) (x7 : Int32) (t0 : Int64) (t1 : Int64) (t2 : Int64) (t3 : Int64) (t4 : Int64) (t5 : Int64) (t6 : Int64) (t7 : Int64) (h0 : Heap) (n0 : Nat) (v : Option Value) (h : Heap) (L : List Loc) : Prop := v = none ∧ Fr n0 L ∧ Keep h0 h [a1, b1, b2] ∧ Exa Z h a1 "com/example/net_reducer/netreducer/analysis/Marking" ∧ Fld Z h a1 "com/example/net_reducer/netreducer/analysis/Marking" "places" "[I" (.ref b1) ∧ Fld Z h a1 "com/example/net_reducer/netreducer/analysis/Marking" "tokens" "[J" (.ref b2) ∧ Fld Z h a1 "com/example/net_reducer/netreducer/analysis/Marking" "size" "I" (.int (6 : Int32)) ∧ Arv Z h b1 k1 .int (8 : Int32) [(.int x0), (.int x1), (.int x2), (.int x3), (.int x4), (.int p2), (.int x6), (.int x7)] (.int (0 : Int32)) ∧ Arv Z h b2 k2 .long (8 : Int32) [(.long t0), (.long t1), (.long t2), (.long t3), (.long t4), (.long q3), (.long t6), (.long t7)] (.long (0 : Int64))
set_option maxRecDepth 65536 in
set_option maxHeartbeats 40000000 in
theorem rm3c5 (l : Launch) (Z : State) (a0 : Array Value) (hw : ∀ d ∈ tables_1, d.before a0 Z = true) (ws : List Jvm.Cond) (a1 : Addr) (p2 : Int32) (q3 : Int64) (b1 : Addr) (b2 : Addr) (k1 : ClassId) (k2 : ClassId) (x0 : Int32) (x1 : Int32) (x2 : Int32) (x3 : Int32) (x4 : Int32) (x5 : Int32) (x6 : Int32) (x7 : Int32) (t0 : Int64) (t1 : Int64) (t2 : Int64) (t3 : Int64) (t4 : Int64) (t5 : Int64) (t6 : Int64) (t7 : Int64) (h0 : Heap) (n0 : Nat) (Z0 : n0 ≤ h0.size) (E_a1 : Exa Z h0 a1 "com/example/net_reducer/netreducer/analysis/Marking") (F_places_a1 : Fld Z h0 a1 "com/example/net_reducer/netreducer/analysis/Marking" "places" "[I" (.ref b1)) (F_tokens_a1 : Fld Z h0 a1 "com/example/net_reducer/netreducer/analysis/Marking" "tokens" "[J" (.ref b2)) (F_size_a1 : Fld Z h0 a1 "com/example/net_reducer/netreducer/analysis/Marking" "size" "I" (.int (5 : Int32))) (V_b1 : Arv Z h0 b1 k1 .int (8 : Int32) [(.int x0), (.int x1), (.int x2), (.int x3), (.int x4), (.int x5), (.int x6), (.int x7)] (.int (0 : Int32))) (V_b2 : Arv Z h0 b2 k2 .long (8 : Int32) [(.long t0), (.long t1), (.long t2), (.long t3), (.long t4), (.long t5), (.long t6), (.long t7)] (.long (0 : Int64))) (g_a1 : n0 ≤ a1) (g_b1 : n0 ≤ b1) (g_b2 : n0 ≤ b2) (ne_a1_b1 : a1 ≠ b1) (ne_a1_b2 : a1 ≠ b2) (ne_b1_b2 : b1 ≠ b2) :
    MetFree l (⟨"com/example/net_reducer/netreducer/analysis/Marking", "add", "(IJ)V"⟩ : MethodName) (head1 (Jvm.Cond.code (⟨"com/example/net_reducer/netreducer/analysis/Marking", "add", "(IJ)V"⟩ : MethodName) prog_10_method_7_code 4 none :: ws) ({ frames := 0, cells := 0, slots := 0, locals := 0 } : Room)) (fun a U => a = #[(.ref a1), (.int p2), (.long q3)] ∧ Z.Warmed39 U.vm ∧ U.heap = h0) (fun _ _ _ _ _ => True) (fun _ U o U' => ∃ v L, o = .returned v ∧ Q3c5 Z a1 p2 q3 b1 b2 k1 k2 x0 x1 x2 x3 x4 x5 x6 x7 t0 t1 t2 t3 t4 t5 t6 t7 h0 n0 v U'.heap L ∧ FrameEnd U o U' L ({ frames := 0, cells := 0, slots := 0, locals := 0 } : Room).cells ({ frames := 0, cells := 0, slots := 0, locals := 0 } : Room).slots) := by
  refine MetFree.of_bodySF (plainFor_of_name pn_3) hisR ?_
  intro p e s m args below meth c s₁ Bd hml0 hP hK
  obtain ⟨rfl, hZ, hh⟩ := hP
  have hx := Bd.exec
  have hby := Bd.bytes
  have hml : c.maxLocals = 4 := hml0
  have hown : s.vm.findClass "com/example/net_reducer/netreducer/analysis/Marking" = some m.cls := findClass_of_methodNamed Bd.named
  have hnm := (name_of_methodNamed Bd.named Bd.method).1
  have hret := Bd.returns
  have hlk : meth.locks = false := BodyLoose.notSynchronized Bd
  have X0 : Stand p l e ({ frames := 0, cells := 0, slots := 0, locals := 0 } : Room) s m #[(.ref a1), (.int p2), (.long q3)] below meth c s₁ [] 0 0 := Stand.of_body Bd
  have e0 : s₁.heap = h0 := by rw [← hh, Bd.state]; rfl
  have N0 := Fr.nil n0
  have W := fun (k : Nat) {d : Jvm.Cond} (h : tables_1[k]? = some d) => hw d (List.mem_of_getElem? h)
  have K0 : Keep h0 h0 [a1, b1, b2] := Keep.refl _ _
  refine own_start (ef_3 m a1 p2 q3) ?_
  show own_Run p e below _ s₁ (mkF m 0 #[.val (.ref a1), .val (.int p2), .val (.long q3), .second] [])
  refine own_go (fun _ k => XS.aloadN X0.here hx rfl (hb hby d3_0) rfl rfl k) ?_
  show own_Run p e below _ s₁ (mkF m 1 #[.val (.ref a1), .val (.int p2), .val (.long q3), .second] [(.ref a1)])
  obtain ⟨T90, X90, e90, st90⟩ := getF X0 hx hZ hown (host := "") (Or.inl (W 27 rfl)) Via.refl e0 F_size_a1 (g := (mkF m 1 #[.val (.ref a1), .val (.int p2), .val (.long q3), .second] [(.ref a1)])) rfl rfl (hb hby d3_1)
  refine own_go st90 ?_
  show own_Run p e below _ T90 (mkF m 4 #[.val (.ref a1), .val (.int p2), .val (.long q3), .second] [(.int (5 : Int32))])
  refine own_go (fun _ k => XS.aloadN X90.here hx rfl (hb hby d3_4) rfl rfl k) ?_
  show own_Run p e below _ T90 (mkF m 5 #[.val (.ref a1), .val (.int p2), .val (.long q3), .second] [(.ref a1), (.int (5 : Int32))])
  obtain ⟨T91, X91, e91, st91⟩ := getF X90 hx hZ hown (host := "") (Or.inl (W 18 rfl)) Via.refl e90 F_places_a1 (g := (mkF m 5 #[.val (.ref a1), .val (.int p2), .val (.long q3), .second] [(.ref a1), (.int (5 : Int32))])) rfl rfl (hb hby d3_5)
  refine own_go st91 ?_
  show own_Run p e below _ T91 (mkF m 8 #[.val (.ref a1), .val (.int p2), .val (.long q3), .second] [(.ref b1), (.int (5 : Int32))])
  obtain ⟨cl92, Ar92, q92, S92, N92, H92, G92⟩ := id V_b1
  refine own_go (X91.arraylength hx (by rw [e91]; exact Ar92.1) (State.isArrayOf_alike hZ.alike Ar92.2.1) (g := (mkF m 8 #[.val (.ref a1), .val (.int p2), .val (.long q3), .second] [(.ref b1), (.int (5 : Int32))])) rfl rfl (hb hby d3_8)) ?_
  rw [len_of S92 N92]
  show own_Run p e below _ T91 (mkF m 9 #[.val (.ref a1), .val (.int p2), .val (.long q3), .second] [(.int (8 : Int32)), (.int (5 : Int32))])
  refine own_go (fun _ k => XS.icmpYes X91.here hx rfl (pc0 := 9) (pc' := 46) rfl (hb hby d3_9) rfl (feq (by decide : ¬ ((5 : Int32) = (8 : Int32)))).2 (by decide) (by decide) k) ?_
  show own_Run p e below _ T91 (mkF m 46 #[.val (.ref a1), .val (.int p2), .val (.long q3), .second] [])
  refine own_go (fun _ k => XS.aloadN X91.here hx rfl (hb hby d3_46) rfl rfl k) ?_
  show own_Run p e below _ T91 (mkF m 47 #[.val (.ref a1), .val (.int p2), .val (.long q3), .second] [(.ref a1)])
  obtain ⟨T93, X93, e93, st93⟩ := getF X91 hx hZ hown (host := "") (Or.inl (W 18 rfl)) Via.refl e91 F_places_a1 (g := (mkF m 47 #[.val (.ref a1), .val (.int p2), .val (.long q3), .second] [(.ref a1)])) rfl rfl (hb hby d3_47)
  refine own_go st93 ?_
  show own_Run p e below _ T93 (mkF m 50 #[.val (.ref a1), .val (.int p2), .val (.long q3), .second] [(.ref b1)])
  refine own_go (fun _ k => XS.aloadN X93.here hx rfl (hb hby d3_50) rfl rfl k) ?_
  show own_Run p e below _ T93 (mkF m 51 #[.val (.ref a1), .val (.int p2), .val (.long q3), .second] [(.ref a1), (.ref b1)])
  obtain ⟨T94, X94, e94, st94⟩ := getF X93 hx hZ hown (host := "") (Or.inl (W 27 rfl)) Via.refl e93 F_size_a1 (g := (mkF m 51 #[.val (.ref a1), .val (.int p2), .val (.long q3), .second] [(.ref a1), (.ref b1)])) rfl rfl (hb hby d3_51)
  refine own_go st94 ?_
  show own_Run p e below _ T94 (mkF m 54 #[.val (.ref a1), .val (.int p2), .val (.long q3), .second] [(.int (5 : Int32)), (.ref b1)])
  refine own_go (fun _ k => XS.iloadN X94.here hx rfl (hb hby d3_54) rfl k) ?_
  show own_Run p e below _ T94 (mkF m 55 #[.val (.ref a1), .val (.int p2), .val (.long q3), .second] [(.int p2), (.int (5 : Int32)), (.ref b1)])
  obtain ⟨cl95, Ar95, q95, S95, N95, H95, G95⟩ := id V_b1
  have hin95 : ¬ ((5 : Int32) < 0 ∨ cl95.slots.size ≤ ((5 : Int32)).toNatClampNeg) := inb_of S95 ⟨by decide, by decide⟩
  obtain ⟨T96, h96, X96, e96, W96, st96⟩ := stI X94 hx hZ e94 Ar95 (j := (5 : Int32)) hin95 (g := (mkF m 55 #[.val (.ref a1), .val (.int p2), .val (.long q3), .second] [(.int p2), (.int (5 : Int32)), (.ref b1)])) rfl rfl (hb hby d3_55)
  refine own_go st96 ?_
  show own_Run p e below _ T96 (mkF m 56 #[.val (.ref a1), .val (.int p2), .val (.long q3), .second] [])
  have Z0_c97 := Nat.le_trans Z0 (Keep.of_wr W96).1
  have K0_c97 := K0.wr W96 (Or.inl (List.mem_of_getElem? (i := 1) rfl))
  have E_a1_c97 := E_a1.wr W96
  have F_places_a1_c97 := F_places_a1.other W96 (Or.inl ne_a1_b1)
  have F_tokens_a1_c97 := F_tokens_a1.other W96 (Or.inl ne_a1_b1)
  have F_size_a1_c97 := F_size_a1.other W96 (Or.inl ne_a1_b1)
  have V_b2_c97 := V_b2.other W96 (Ne.symm ne_b1_b2)
  have V_b1_c96 : Arv Z h96 b1 k1 .int (8 : Int32) [(.int x0), (.int x1), (.int x2), (.int x3), (.int x4), (.int p2), (.int x6), (.int x7)] (.int (0 : Int32)) := Arv.set Ar95 q95 S95 N95 H95 G95 rfl W96 5 rfl (Nat.le_of_ble_eq_true rfl)
  have N96 := Fr.snoc X96 N0 g_b1
  refine own_go (fun _ k => XS.aloadN X96.here hx rfl (hb hby d3_56) rfl rfl k) ?_
  show own_Run p e below _ T96 (mkF m 57 #[.val (.ref a1), .val (.int p2), .val (.long q3), .second] [(.ref a1)])
  obtain ⟨T98, X98, e98, st98⟩ := getF X96 hx hZ hown (host := "") (Or.inl (W 20 rfl)) Via.refl e96 F_tokens_a1_c97 (g := (mkF m 57 #[.val (.ref a1), .val (.int p2), .val (.long q3), .second] [(.ref a1)])) rfl rfl (hb hby d3_57)
  refine own_go st98 ?_
  show own_Run p e below _ T98 (mkF m 60 #[.val (.ref a1), .val (.int p2), .val (.long q3), .second] [(.ref b2)])
  refine own_go (fun _ k => XS.aloadN X98.here hx rfl (hb hby d3_60) rfl rfl k) ?_
  show own_Run p e below _ T98 (mkF m 61 #[.val (.ref a1), .val (.int p2), .val (.long q3), .second] [(.ref a1), (.ref b2)])
  obtain ⟨T99, X99, e99, st99⟩ := getF X98 hx hZ hown (host := "") (Or.inl (W 27 rfl)) Via.refl e98 F_size_a1_c97 (g := (mkF m 61 #[.val (.ref a1), .val (.int p2), .val (.long q3), .second] [(.ref a1), (.ref b2)])) rfl rfl (hb hby d3_61)
  refine own_go st99 ?_
  show own_Run p e below _ T99 (mkF m 64 #[.val (.ref a1), .val (.int p2), .val (.long q3), .second] [(.int (5 : Int32)), (.ref b2)])
  refine own_go (fun _ k => XS.lloadN X99.here hx rfl (hb hby d3_64) rfl k) ?_
  show own_Run p e below _ T99 (mkF m 65 #[.val (.ref a1), .val (.int p2), .val (.long q3), .second] [(.long q3), (.int (5 : Int32)), (.ref b2)])
  obtain ⟨cl100, Ar100, q100, S100, N100, H100, G100⟩ := id V_b2_c97
  have hin100 : ¬ ((5 : Int32) < 0 ∨ cl100.slots.size ≤ ((5 : Int32)).toNatClampNeg) := inb_of S100 ⟨by decide, by decide⟩
  obtain ⟨T101, h101, X101, e101, W101, st101⟩ := stJ X99 hx hZ e99 Ar100 (j := (5 : Int32)) hin100 (g := (mkF m 65 #[.val (.ref a1), .val (.int p2), .val (.long q3), .second] [(.long q3), (.int (5 : Int32)), (.ref b2)])) rfl rfl (hb hby d3_65)
  refine own_go st101 ?_
  show own_Run p e below _ T101 (mkF m 66 #[.val (.ref a1), .val (.int p2), .val (.long q3), .second] [])
  have Z0_c102 := Nat.le_trans Z0_c97 (Keep.of_wr W101).1
  have K0_c102 := K0_c97.wr W101 (Or.inl (List.mem_of_getElem? (i := 2) rfl))
  have E_a1_c102 := E_a1_c97.wr W101
  have F_places_a1_c102 := F_places_a1_c97.other W101 (Or.inl ne_a1_b2)
  have F_tokens_a1_c102 := F_tokens_a1_c97.other W101 (Or.inl ne_a1_b2)
  have F_size_a1_c102 := F_size_a1_c97.other W101 (Or.inl ne_a1_b2)
  have V_b1_c102 := V_b1_c96.other W101 ne_b1_b2
  have V_b2_c101 : Arv Z h101 b2 k2 .long (8 : Int32) [(.long t0), (.long t1), (.long t2), (.long t3), (.long t4), (.long q3), (.long t6), (.long t7)] (.long (0 : Int64)) := Arv.set Ar100 q100 S100 N100 H100 G100 rfl W101 5 rfl (Nat.le_of_ble_eq_true rfl)
  have N101 := Fr.snoc X101 N96 g_b2
  refine own_go (fun _ k => XS.aloadN X101.here hx rfl (hb hby d3_66) rfl rfl k) ?_
  refine own_go (fun _ k => XS.dup X101.here hx rfl (hb hby d3_67) rfl rfl k) ?_
  show own_Run p e below _ T101 (mkF m 68 #[.val (.ref a1), .val (.int p2), .val (.long q3), .second] [(.ref a1), (.ref a1)])
  obtain ⟨T103, X103, e103, st103⟩ := getF X101 hx hZ hown (host := "") (Or.inl (W 27 rfl)) Via.refl e101 F_size_a1_c102 (g := (mkF m 68 #[.val (.ref a1), .val (.int p2), .val (.long q3), .second] [(.ref a1), (.ref a1)])) rfl rfl (hb hby d3_68)
  refine own_go st103 ?_
  show own_Run p e below _ T103 (mkF m 71 #[.val (.ref a1), .val (.int p2), .val (.long q3), .second] [(.int (5 : Int32)), (.ref a1)])
  refine own_go (fun _ k => XS.iconst X103.here hx rfl (hb hby d3_71) k) ?_
  refine own_go (fun _ k => XS.iadd X103.here hx rfl (hb hby d3_72) rfl k) ?_
  show own_Run p e below _ T103 (mkF m 73 #[.val (.ref a1), .val (.int p2), .val (.long q3), .second] [(.int ((5 : Int32) + (1 : Int32))), (.ref a1)])
  rw [show ((5 : Int32) + (1 : Int32)) = (6 : Int32) by decide]
  show own_Run p e below _ T103 (mkF m 73 #[.val (.ref a1), .val (.int p2), .val (.long q3), .second] [(.int (6 : Int32)), (.ref a1)])
  obtain ⟨T104, h104, X104, e104, W104, st104⟩ := putF X103 hx hZ hown (host := "") (Or.inl (W 27 rfl)) Via.refl e103 F_size_a1_c102 E_a1_c102 (Or.inl (W 28 rfl)) (W 10 rfl) (ty := .int) (by decide) rfl rfl (g := (mkF m 73 #[.val (.ref a1), .val (.int p2), .val (.long q3), .second] [(.int (6 : Int32)), (.ref a1)])) rfl rfl (hb hby d3_73)
  refine own_go st104 ?_
  show own_Run p e below _ T104 (mkF m 76 #[.val (.ref a1), .val (.int p2), .val (.long q3), .second] [])
  have Z0_c105 := Nat.le_trans Z0_c102 (Keep.of_wr W104).1
  have K0_c105 := K0_c102.wr W104 (Or.inl (List.mem_of_getElem? (i := 0) rfl))
  have E_a1_c105 := E_a1_c102.wr W104
  have F_places_a1_c105 := F_places_a1_c102.other W104 (Or.inr (slot_ne (Or.inl (W 19 rfl)) (Or.inl (W 28 rfl)) (by decide) (t := (.array .int)) (t' := .int) (by decide) (by decide)))
  have F_tokens_a1_c105 := F_tokens_a1_c102.other W104 (Or.inr (slot_ne (Or.inl (W 21 rfl)) (Or.inl (W 28 rfl)) (by decide) (t := (.array .long)) (t' := .int) (by decide) (by decide)))
  have V_b1_c105 := V_b1_c102.other W104 (Ne.symm ne_a1_b1)
  have V_b2_c105 := V_b2_c101.other W104 (Ne.symm ne_a1_b2)
  have F_size_a1_c104 : Fld Z h104 a1 "com/example/net_reducer/netreducer/analysis/Marking" "size" "I" (.int (6 : Int32)) := F_size_a1_c102.same W104
  have N104 := Fr.snoc X104 N101 g_a1
  refine own_done (Q := fun v h L => Q3c5 Z a1 p2 q3 b1 b2 k1 k2 x0 x1 x2 x3 x4 x5 x6 x7 t0 t1 t2 t3 t4 t5 t6 t7 h0 n0 v h L) (v := none) X104 (fun _ => rfl) hlk (fun fs hr => X104.returnOut hx hret (hb hby d3_76) hr) ?_ (by decide) (by decide)
  show Q3c5 Z a1 p2 q3 b1 b2 k1 k2 x0 x1 x2 x3 x4 x5 x6 x7 t0 t1 t2 t3 t4 t5 t6 t7 h0 n0 _ T104.heap _
  rw [e104]
  exact ⟨rfl, N104, K0_c105, E_a1_c105, F_places_a1_c105, F_tokens_a1_c105, F_size_a1_c104, V_b1_c105, V_b2_c105⟩
def Q3c6 (Z : State) (a1 : Addr) (p2 : Int32) (q3 : Int64) (b1 : Addr) (b2 : Addr) (k1 : ClassId) (k2 : ClassId) (x0 : Int32) (x1 : Int32) (x2 : Int32) (x3 : Int32) (x4 : Int32) (x5 : Int32) (x6 : Int32) (x7 : Int32) (t0 : Int64) (t1 : Int64) (t2 : Int64) (t3 : Int64) (t4 : Int64) (t5 : Int64) (t6 : Int64) (t7 : Int64) (h0 : Heap) (n0 : Nat) (v : Option Value) (h : Heap) (L : List Loc) : Prop := v = none ∧ Fr n0 L ∧ Keep h0 h [a1, b1, b2] ∧ Exa Z h a1 "com/example/net_reducer/netreducer/analysis/Marking" ∧ Fld Z h a1 "com/example/net_reducer/netreducer/analysis/Marking" "places" "[I" (.ref b1) ∧ Fld Z h a1 "com/example/net_reducer/netreducer/analysis/Marking" "tokens" "[J" (.ref b2) ∧ Fld Z h a1 "com/example/net_reducer/netreducer/analysis/Marking" "size" "I" (.int (7 : Int32)) ∧ Arv Z h b1 k1 .int (8 : Int32) [(.int x0), (.int x1), (.int x2), (.int x3), (.int x4), (.int x5), (.int p2), (.int x7)] (.int (0 : Int32)) ∧ Arv Z h b2 k2 .long (8 : Int32) [(.long t0), (.long t1), (.long t2), (.long t3), (.long t4), (.long t5), (.long q3), (.long t7)] (.long (0 : Int64))
set_option maxRecDepth 65536 in
set_option maxHeartbeats 40000000 in
theorem rm3c6 (l : Launch) (Z : State) (a0 : Array Value) (hw : ∀ d ∈ tables_1, d.before a0 Z = true) (ws : List Jvm.Cond) (a1 : Addr) (p2 : Int32) (q3 : Int64) (b1 : Addr) (b2 : Addr) (k1 : ClassId) (k2 : ClassId) (x0 : Int32) (x1 : Int32) (x2 : Int32) (x3 : Int32) (x4 : Int32) (x5 : Int32) (x6 : Int32) (x7 : Int32) (t0 : Int64) (t1 : Int64) (t2 : Int64) (t3 : Int64) (t4 : Int64) (t5 : Int64) (t6 : Int64) (t7 : Int64) (h0 : Heap) (n0 : Nat) (Z0 : n0 ≤ h0.size) (E_a1 : Exa Z h0 a1 "com/example/net_reducer/netreducer/analysis/Marking") (F_places_a1 : Fld Z h0 a1 "com/example/net_reducer/netreducer/analysis/Marking" "places" "[I" (.ref b1)) (F_tokens_a1 : Fld Z h0 a1 "com/example/net_reducer/netreducer/analysis/Marking" "tokens" "[J" (.ref b2)) (F_size_a1 : Fld Z h0 a1 "com/example/net_reducer/netreducer/analysis/Marking" "size" "I" (.int (6 : Int32))) (V_b1 : Arv Z h0 b1 k1 .int (8 : Int32) [(.int x0), (.int x1), (.int x2), (.int x3), (.int x4), (.int x5), (.int x6), (.int x7)] (.int (0 : Int32))) (V_b2 : Arv Z h0 b2 k2 .long (8 : Int32) [(.long t0), (.long t1), (.long t2), (.long t3), (.long t4), (.long t5), (.long t6), (.long t7)] (.long (0 : Int64))) (g_a1 : n0 ≤ a1) (g_b1 : n0 ≤ b1) (g_b2 : n0 ≤ b2) (ne_a1_b1 : a1 ≠ b1) (ne_a1_b2 : a1 ≠ b2) (ne_b1_b2 : b1 ≠ b2) :
    MetFree l (⟨"com/example/net_reducer/netreducer/analysis/Marking", "add", "(IJ)V"⟩ : MethodName) (head1 (Jvm.Cond.code (⟨"com/example/net_reducer/netreducer/analysis/Marking", "add", "(IJ)V"⟩ : MethodName) prog_10_method_7_code 4 none :: ws) ({ frames := 0, cells := 0, slots := 0, locals := 0 } : Room)) (fun a U => a = #[(.ref a1), (.int p2), (.long q3)] ∧ Z.Warmed39 U.vm ∧ U.heap = h0) (fun _ _ _ _ _ => True) (fun _ U o U' => ∃ v L, o = .returned v ∧ Q3c6 Z a1 p2 q3 b1 b2 k1 k2 x0 x1 x2 x3 x4 x5 x6 x7 t0 t1 t2 t3 t4 t5 t6 t7 h0 n0 v U'.heap L ∧ FrameEnd U o U' L ({ frames := 0, cells := 0, slots := 0, locals := 0 } : Room).cells ({ frames := 0, cells := 0, slots := 0, locals := 0 } : Room).slots) := by
  refine MetFree.of_bodySF (plainFor_of_name pn_3) hisR ?_
  intro p e s m args below meth c s₁ Bd hml0 hP hK
  obtain ⟨rfl, hZ, hh⟩ := hP
  have hx := Bd.exec
  have hby := Bd.bytes
  have hml : c.maxLocals = 4 := hml0
  have hown : s.vm.findClass "com/example/net_reducer/netreducer/analysis/Marking" = some m.cls := findClass_of_methodNamed Bd.named
  have hnm := (name_of_methodNamed Bd.named Bd.method).1
  have hret := Bd.returns
  have hlk : meth.locks = false := BodyLoose.notSynchronized Bd
  have X0 : Stand p l e ({ frames := 0, cells := 0, slots := 0, locals := 0 } : Room) s m #[(.ref a1), (.int p2), (.long q3)] below meth c s₁ [] 0 0 := Stand.of_body Bd
  have e0 : s₁.heap = h0 := by rw [← hh, Bd.state]; rfl
  have N0 := Fr.nil n0
  have W := fun (k : Nat) {d : Jvm.Cond} (h : tables_1[k]? = some d) => hw d (List.mem_of_getElem? h)
  have K0 : Keep h0 h0 [a1, b1, b2] := Keep.refl _ _
  refine own_start (ef_3 m a1 p2 q3) ?_
  show own_Run p e below _ s₁ (mkF m 0 #[.val (.ref a1), .val (.int p2), .val (.long q3), .second] [])
  refine own_go (fun _ k => XS.aloadN X0.here hx rfl (hb hby d3_0) rfl rfl k) ?_
  show own_Run p e below _ s₁ (mkF m 1 #[.val (.ref a1), .val (.int p2), .val (.long q3), .second] [(.ref a1)])
  obtain ⟨T106, X106, e106, st106⟩ := getF X0 hx hZ hown (host := "") (Or.inl (W 27 rfl)) Via.refl e0 F_size_a1 (g := (mkF m 1 #[.val (.ref a1), .val (.int p2), .val (.long q3), .second] [(.ref a1)])) rfl rfl (hb hby d3_1)
  refine own_go st106 ?_
  show own_Run p e below _ T106 (mkF m 4 #[.val (.ref a1), .val (.int p2), .val (.long q3), .second] [(.int (6 : Int32))])
  refine own_go (fun _ k => XS.aloadN X106.here hx rfl (hb hby d3_4) rfl rfl k) ?_
  show own_Run p e below _ T106 (mkF m 5 #[.val (.ref a1), .val (.int p2), .val (.long q3), .second] [(.ref a1), (.int (6 : Int32))])
  obtain ⟨T107, X107, e107, st107⟩ := getF X106 hx hZ hown (host := "") (Or.inl (W 18 rfl)) Via.refl e106 F_places_a1 (g := (mkF m 5 #[.val (.ref a1), .val (.int p2), .val (.long q3), .second] [(.ref a1), (.int (6 : Int32))])) rfl rfl (hb hby d3_5)
  refine own_go st107 ?_
  show own_Run p e below _ T107 (mkF m 8 #[.val (.ref a1), .val (.int p2), .val (.long q3), .second] [(.ref b1), (.int (6 : Int32))])
  obtain ⟨cl108, Ar108, q108, S108, N108, H108, G108⟩ := id V_b1
  refine own_go (X107.arraylength hx (by rw [e107]; exact Ar108.1) (State.isArrayOf_alike hZ.alike Ar108.2.1) (g := (mkF m 8 #[.val (.ref a1), .val (.int p2), .val (.long q3), .second] [(.ref b1), (.int (6 : Int32))])) rfl rfl (hb hby d3_8)) ?_
  rw [len_of S108 N108]
  show own_Run p e below _ T107 (mkF m 9 #[.val (.ref a1), .val (.int p2), .val (.long q3), .second] [(.int (8 : Int32)), (.int (6 : Int32))])
  refine own_go (fun _ k => XS.icmpYes X107.here hx rfl (pc0 := 9) (pc' := 46) rfl (hb hby d3_9) rfl (feq (by decide : ¬ ((6 : Int32) = (8 : Int32)))).2 (by decide) (by decide) k) ?_
  show own_Run p e below _ T107 (mkF m 46 #[.val (.ref a1), .val (.int p2), .val (.long q3), .second] [])
  refine own_go (fun _ k => XS.aloadN X107.here hx rfl (hb hby d3_46) rfl rfl k) ?_
  show own_Run p e below _ T107 (mkF m 47 #[.val (.ref a1), .val (.int p2), .val (.long q3), .second] [(.ref a1)])
  obtain ⟨T109, X109, e109, st109⟩ := getF X107 hx hZ hown (host := "") (Or.inl (W 18 rfl)) Via.refl e107 F_places_a1 (g := (mkF m 47 #[.val (.ref a1), .val (.int p2), .val (.long q3), .second] [(.ref a1)])) rfl rfl (hb hby d3_47)
  refine own_go st109 ?_
  show own_Run p e below _ T109 (mkF m 50 #[.val (.ref a1), .val (.int p2), .val (.long q3), .second] [(.ref b1)])
  refine own_go (fun _ k => XS.aloadN X109.here hx rfl (hb hby d3_50) rfl rfl k) ?_
  show own_Run p e below _ T109 (mkF m 51 #[.val (.ref a1), .val (.int p2), .val (.long q3), .second] [(.ref a1), (.ref b1)])
  obtain ⟨T110, X110, e110, st110⟩ := getF X109 hx hZ hown (host := "") (Or.inl (W 27 rfl)) Via.refl e109 F_size_a1 (g := (mkF m 51 #[.val (.ref a1), .val (.int p2), .val (.long q3), .second] [(.ref a1), (.ref b1)])) rfl rfl (hb hby d3_51)
  refine own_go st110 ?_
  show own_Run p e below _ T110 (mkF m 54 #[.val (.ref a1), .val (.int p2), .val (.long q3), .second] [(.int (6 : Int32)), (.ref b1)])
  refine own_go (fun _ k => XS.iloadN X110.here hx rfl (hb hby d3_54) rfl k) ?_
  show own_Run p e below _ T110 (mkF m 55 #[.val (.ref a1), .val (.int p2), .val (.long q3), .second] [(.int p2), (.int (6 : Int32)), (.ref b1)])
  obtain ⟨cl111, Ar111, q111, S111, N111, H111, G111⟩ := id V_b1
  have hin111 : ¬ ((6 : Int32) < 0 ∨ cl111.slots.size ≤ ((6 : Int32)).toNatClampNeg) := inb_of S111 ⟨by decide, by decide⟩
  obtain ⟨T112, h112, X112, e112, W112, st112⟩ := stI X110 hx hZ e110 Ar111 (j := (6 : Int32)) hin111 (g := (mkF m 55 #[.val (.ref a1), .val (.int p2), .val (.long q3), .second] [(.int p2), (.int (6 : Int32)), (.ref b1)])) rfl rfl (hb hby d3_55)
  refine own_go st112 ?_
  show own_Run p e below _ T112 (mkF m 56 #[.val (.ref a1), .val (.int p2), .val (.long q3), .second] [])
  have Z0_c113 := Nat.le_trans Z0 (Keep.of_wr W112).1
  have K0_c113 := K0.wr W112 (Or.inl (List.mem_of_getElem? (i := 1) rfl))
  have E_a1_c113 := E_a1.wr W112
  have F_places_a1_c113 := F_places_a1.other W112 (Or.inl ne_a1_b1)
  have F_tokens_a1_c113 := F_tokens_a1.other W112 (Or.inl ne_a1_b1)
  have F_size_a1_c113 := F_size_a1.other W112 (Or.inl ne_a1_b1)
  have V_b2_c113 := V_b2.other W112 (Ne.symm ne_b1_b2)
  have V_b1_c112 : Arv Z h112 b1 k1 .int (8 : Int32) [(.int x0), (.int x1), (.int x2), (.int x3), (.int x4), (.int x5), (.int p2), (.int x7)] (.int (0 : Int32)) := Arv.set Ar111 q111 S111 N111 H111 G111 rfl W112 6 rfl (Nat.le_of_ble_eq_true rfl)
  have N112 := Fr.snoc X112 N0 g_b1
  refine own_go (fun _ k => XS.aloadN X112.here hx rfl (hb hby d3_56) rfl rfl k) ?_
  show own_Run p e below _ T112 (mkF m 57 #[.val (.ref a1), .val (.int p2), .val (.long q3), .second] [(.ref a1)])
  obtain ⟨T114, X114, e114, st114⟩ := getF X112 hx hZ hown (host := "") (Or.inl (W 20 rfl)) Via.refl e112 F_tokens_a1_c113 (g := (mkF m 57 #[.val (.ref a1), .val (.int p2), .val (.long q3), .second] [(.ref a1)])) rfl rfl (hb hby d3_57)
  refine own_go st114 ?_
  show own_Run p e below _ T114 (mkF m 60 #[.val (.ref a1), .val (.int p2), .val (.long q3), .second] [(.ref b2)])
  refine own_go (fun _ k => XS.aloadN X114.here hx rfl (hb hby d3_60) rfl rfl k) ?_
  show own_Run p e below _ T114 (mkF m 61 #[.val (.ref a1), .val (.int p2), .val (.long q3), .second] [(.ref a1), (.ref b2)])
  obtain ⟨T115, X115, e115, st115⟩ := getF X114 hx hZ hown (host := "") (Or.inl (W 27 rfl)) Via.refl e114 F_size_a1_c113 (g := (mkF m 61 #[.val (.ref a1), .val (.int p2), .val (.long q3), .second] [(.ref a1), (.ref b2)])) rfl rfl (hb hby d3_61)
  refine own_go st115 ?_
  show own_Run p e below _ T115 (mkF m 64 #[.val (.ref a1), .val (.int p2), .val (.long q3), .second] [(.int (6 : Int32)), (.ref b2)])
  refine own_go (fun _ k => XS.lloadN X115.here hx rfl (hb hby d3_64) rfl k) ?_
  show own_Run p e below _ T115 (mkF m 65 #[.val (.ref a1), .val (.int p2), .val (.long q3), .second] [(.long q3), (.int (6 : Int32)), (.ref b2)])
  obtain ⟨cl116, Ar116, q116, S116, N116, H116, G116⟩ := id V_b2_c113
  have hin116 : ¬ ((6 : Int32) < 0 ∨ cl116.slots.size ≤ ((6 : Int32)).toNatClampNeg) := inb_of S116 ⟨by decide, by decide⟩
  obtain ⟨T117, h117, X117, e117, W117, st117⟩ := stJ X115 hx hZ e115 Ar116 (j := (6 : Int32)) hin116 (g := (mkF m 65 #[.val (.ref a1), .val (.int p2), .val (.long q3), .second] [(.long q3), (.int (6 : Int32)), (.ref b2)])) rfl rfl (hb hby d3_65)
  refine own_go st117 ?_
  show own_Run p e below _ T117 (mkF m 66 #[.val (.ref a1), .val (.int p2), .val (.long q3), .second] [])
  have Z0_c118 := Nat.le_trans Z0_c113 (Keep.of_wr W117).1
  have K0_c118 := K0_c113.wr W117 (Or.inl (List.mem_of_getElem? (i := 2) rfl))
  have E_a1_c118 := E_a1_c113.wr W117
  have F_places_a1_c118 := F_places_a1_c113.other W117 (Or.inl ne_a1_b2)
  have F_tokens_a1_c118 := F_tokens_a1_c113.other W117 (Or.inl ne_a1_b2)
  have F_size_a1_c118 := F_size_a1_c113.other W117 (Or.inl ne_a1_b2)
  have V_b1_c118 := V_b1_c112.other W117 ne_b1_b2
  have V_b2_c117 : Arv Z h117 b2 k2 .long (8 : Int32) [(.long t0), (.long t1), (.long t2), (.long t3), (.long t4), (.long t5), (.long q3), (.long t7)] (.long (0 : Int64)) := Arv.set Ar116 q116 S116 N116 H116 G116 rfl W117 6 rfl (Nat.le_of_ble_eq_true rfl)
  have N117 := Fr.snoc X117 N112 g_b2
  refine own_go (fun _ k => XS.aloadN X117.here hx rfl (hb hby d3_66) rfl rfl k) ?_
  refine own_go (fun _ k => XS.dup X117.here hx rfl (hb hby d3_67) rfl rfl k) ?_
  show own_Run p e below _ T117 (mkF m 68 #[.val (.ref a1), .val (.int p2), .val (.long q3), .second] [(.ref a1), (.ref a1)])
  obtain ⟨T119, X119, e119, st119⟩ := getF X117 hx hZ hown (host := "") (Or.inl (W 27 rfl)) Via.refl e117 F_size_a1_c118 (g := (mkF m 68 #[.val (.ref a1), .val (.int p2), .val (.long q3), .second] [(.ref a1), (.ref a1)])) rfl rfl (hb hby d3_68)
  refine own_go st119 ?_
  show own_Run p e below _ T119 (mkF m 71 #[.val (.ref a1), .val (.int p2), .val (.long q3), .second] [(.int (6 : Int32)), (.ref a1)])
  refine own_go (fun _ k => XS.iconst X119.here hx rfl (hb hby d3_71) k) ?_
  refine own_go (fun _ k => XS.iadd X119.here hx rfl (hb hby d3_72) rfl k) ?_
  show own_Run p e below _ T119 (mkF m 73 #[.val (.ref a1), .val (.int p2), .val (.long q3), .second] [(.int ((6 : Int32) + (1 : Int32))), (.ref a1)])
  rw [show ((6 : Int32) + (1 : Int32)) = (7 : Int32) by decide]
  show own_Run p e below _ T119 (mkF m 73 #[.val (.ref a1), .val (.int p2), .val (.long q3), .second] [(.int (7 : Int32)), (.ref a1)])
  obtain ⟨T120, h120, X120, e120, W120, st120⟩ := putF X119 hx hZ hown (host := "") (Or.inl (W 27 rfl)) Via.refl e119 F_size_a1_c118 E_a1_c118 (Or.inl (W 28 rfl)) (W 10 rfl) (ty := .int) (by decide) rfl rfl (g := (mkF m 73 #[.val (.ref a1), .val (.int p2), .val (.long q3), .second] [(.int (7 : Int32)), (.ref a1)])) rfl rfl (hb hby d3_73)
  refine own_go st120 ?_
  show own_Run p e below _ T120 (mkF m 76 #[.val (.ref a1), .val (.int p2), .val (.long q3), .second] [])
  have Z0_c121 := Nat.le_trans Z0_c118 (Keep.of_wr W120).1
  have K0_c121 := K0_c118.wr W120 (Or.inl (List.mem_of_getElem? (i := 0) rfl))
  have E_a1_c121 := E_a1_c118.wr W120
  have F_places_a1_c121 := F_places_a1_c118.other W120 (Or.inr (slot_ne (Or.inl (W 19 rfl)) (Or.inl (W 28 rfl)) (by decide) (t := (.array .int)) (t' := .int) (by decide) (by decide)))
  have F_tokens_a1_c121 := F_tokens_a1_c118.other W120 (Or.inr (slot_ne (Or.inl (W 21 rfl)) (Or.inl (W 28 rfl)) (by decide) (t := (.array .long)) (t' := .int) (by decide) (by decide)))
  have V_b1_c121 := V_b1_c118.other W120 (Ne.symm ne_a1_b1)
  have V_b2_c121 := V_b2_c117.other W120 (Ne.symm ne_a1_b2)
  have F_size_a1_c120 : Fld Z h120 a1 "com/example/net_reducer/netreducer/analysis/Marking" "size" "I" (.int (7 : Int32)) := F_size_a1_c118.same W120
  have N120 := Fr.snoc X120 N117 g_a1
  refine own_done (Q := fun v h L => Q3c6 Z a1 p2 q3 b1 b2 k1 k2 x0 x1 x2 x3 x4 x5 x6 x7 t0 t1 t2 t3 t4 t5 t6 t7 h0 n0 v h L) (v := none) X120 (fun _ => rfl) hlk (fun fs hr => X120.returnOut hx hret (hb hby d3_76) hr) ?_ (by decide) (by decide)
  show Q3c6 Z a1 p2 q3 b1 b2 k1 k2 x0 x1 x2 x3 x4 x5 x6 x7 t0 t1 t2 t3 t4 t5 t6 t7 h0 n0 _ T120.heap _
  rw [e120]
  exact ⟨rfl, N120, K0_c121, E_a1_c121, F_places_a1_c121, F_tokens_a1_c121, F_size_a1_c120, V_b1_c121, V_b2_c121⟩
def Q3c7 (Z : State) (a1 : Addr) (p2 : Int32) (q3 : Int64) (b1 : Addr) (b2 : Addr) (k1 : ClassId) (k2 : ClassId) (x0 : Int32) (x1 : Int32) (x2 : Int32) (x3 : Int32) (x4 : Int32) (x5 : Int32) (x6 : Int32) (x7 : Int32) (t0 : Int64) (t1 : Int64) (t2 : Int64) (t3 : Int64) (t4 : Int64) (t5 : Int64) (t6 : Int64) (t7 : Int64) (h0 : Heap) (n0 : Nat) (v : Option Value) (h : Heap) (L : List Loc) : Prop := v = none ∧ Fr n0 L ∧ Keep h0 h [a1, b1, b2] ∧ Exa Z h a1 "com/example/net_reducer/netreducer/analysis/Marking" ∧ Fld Z h a1 "com/example/net_reducer/netreducer/analysis/Marking" "places" "[I" (.ref b1) ∧ Fld Z h a1 "com/example/net_reducer/netreducer/analysis/Marking" "tokens" "[J" (.ref b2) ∧ Fld Z h a1 "com/example/net_reducer/netreducer/analysis/Marking" "size" "I" (.int (8 : Int32)) ∧ Arv Z h b1 k1 .int (8 : Int32) [(.int x0), (.int x1), (.int x2), (.int x3), (.int x4), (.int x5), (.int x6), (.int p2)] (.int (0 : Int32)) ∧ Arv Z h b2 k2 .long (8 : Int32) [(.long t0), (.long t1), (.long t2), (.long t3), (.long t4), (.long t5), (.long t6), (.long q3)] (.long (0 : Int64))
set_option maxRecDepth 65536 in
set_option maxHeartbeats 40000000 in
theorem rm3c7 (l : Launch) (Z : State) (a0 : Array Value) (hw : ∀ d ∈ tables_1, d.before a0 Z = true) (ws : List Jvm.Cond) (a1 : Addr) (p2 : Int32) (q3 : Int64) (b1 : Addr) (b2 : Addr) (k1 : ClassId) (k2 : ClassId) (x0 : Int32) (x1 : Int32) (x2 : Int32) (x3 : Int32) (x4 : Int32) (x5 : Int32) (x6 : Int32) (x7 : Int32) (t0 : Int64) (t1 : Int64) (t2 : Int64) (t3 : Int64) (t4 : Int64) (t5 : Int64) (t6 : Int64) (t7 : Int64) (h0 : Heap) (n0 : Nat) (Z0 : n0 ≤ h0.size) (E_a1 : Exa Z h0 a1 "com/example/net_reducer/netreducer/analysis/Marking") (F_places_a1 : Fld Z h0 a1 "com/example/net_reducer/netreducer/analysis/Marking" "places" "[I" (.ref b1)) (F_tokens_a1 : Fld Z h0 a1 "com/example/net_reducer/netreducer/analysis/Marking" "tokens" "[J" (.ref b2)) (F_size_a1 : Fld Z h0 a1 "com/example/net_reducer/netreducer/analysis/Marking" "size" "I" (.int (7 : Int32))) (V_b1 : Arv Z h0 b1 k1 .int (8 : Int32) [(.int x0), (.int x1), (.int x2), (.int x3), (.int x4), (.int x5), (.int x6), (.int x7)] (.int (0 : Int32))) (V_b2 : Arv Z h0 b2 k2 .long (8 : Int32) [(.long t0), (.long t1), (.long t2), (.long t3), (.long t4), (.long t5), (.long t6), (.long t7)] (.long (0 : Int64))) (g_a1 : n0 ≤ a1) (g_b1 : n0 ≤ b1) (g_b2 : n0 ≤ b2) (ne_a1_b1 : a1 ≠ b1) (ne_a1_b2 : a1 ≠ b2) (ne_b1_b2 : b1 ≠ b2) :
    MetFree l (⟨"com/example/net_reducer/netreducer/analysis/Marking", "add", "(IJ)V"⟩ : MethodName) (head1 (Jvm.Cond.code (⟨"com/example/net_reducer/netreducer/analysis/Marking", "add", "(IJ)V"⟩ : MethodName) prog_10_method_7_code 4 none :: ws) ({ frames := 0, cells := 0, slots := 0, locals := 0 } : Room)) (fun a U => a = #[(.ref a1), (.int p2), (.long q3)] ∧ Z.Warmed39 U.vm ∧ U.heap = h0) (fun _ _ _ _ _ => True) (fun _ U o U' => ∃ v L, o = .returned v ∧ Q3c7 Z a1 p2 q3 b1 b2 k1 k2 x0 x1 x2 x3 x4 x5 x6 x7 t0 t1 t2 t3 t4 t5 t6 t7 h0 n0 v U'.heap L ∧ FrameEnd U o U' L ({ frames := 0, cells := 0, slots := 0, locals := 0 } : Room).cells ({ frames := 0, cells := 0, slots := 0, locals := 0 } : Room).slots) := by
  refine MetFree.of_bodySF (plainFor_of_name pn_3) hisR ?_
  intro p e s m args below meth c s₁ Bd hml0 hP hK
  obtain ⟨rfl, hZ, hh⟩ := hP
  have hx := Bd.exec
  have hby := Bd.bytes
  have hml : c.maxLocals = 4 := hml0
  have hown : s.vm.findClass "com/example/net_reducer/netreducer/analysis/Marking" = some m.cls := findClass_of_methodNamed Bd.named
  have hnm := (name_of_methodNamed Bd.named Bd.method).1
  have hret := Bd.returns
  have hlk : meth.locks = false := BodyLoose.notSynchronized Bd
  have X0 : Stand p l e ({ frames := 0, cells := 0, slots := 0, locals := 0 } : Room) s m #[(.ref a1), (.int p2), (.long q3)] below meth c s₁ [] 0 0 := Stand.of_body Bd
  have e0 : s₁.heap = h0 := by rw [← hh, Bd.state]; rfl
  have N0 := Fr.nil n0
  have W := fun (k : Nat) {d : Jvm.Cond} (h : tables_1[k]? = some d) => hw d (List.mem_of_getElem? h)
  have K0 : Keep h0 h0 [a1, b1, b2] := Keep.refl _ _
  refine own_start (ef_3 m a1 p2 q3) ?_
  show own_Run p e below _ s₁ (mkF m 0 #[.val (.ref a1), .val (.int p2), .val (.long q3), .second] [])
  refine own_go (fun _ k => XS.aloadN X0.here hx rfl (hb hby d3_0) rfl rfl k) ?_
  show own_Run p e below _ s₁ (mkF m 1 #[.val (.ref a1), .val (.int p2), .val (.long q3), .second] [(.ref a1)])
  obtain ⟨T122, X122, e122, st122⟩ := getF X0 hx hZ hown (host := "") (Or.inl (W 27 rfl)) Via.refl e0 F_size_a1 (g := (mkF m 1 #[.val (.ref a1), .val (.int p2), .val (.long q3), .second] [(.ref a1)])) rfl rfl (hb hby d3_1)
  refine own_go st122 ?_
  show own_Run p e below _ T122 (mkF m 4 #[.val (.ref a1), .val (.int p2), .val (.long q3), .second] [(.int (7 : Int32))])
  refine own_go (fun _ k => XS.aloadN X122.here hx rfl (hb hby d3_4) rfl rfl k) ?_
  show own_Run p e below _ T122 (mkF m 5 #[.val (.ref a1), .val (.int p2), .val (.long q3), .second] [(.ref a1), (.int (7 : Int32))])
  obtain ⟨T123, X123, e123, st123⟩ := getF X122 hx hZ hown (host := "") (Or.inl (W 18 rfl)) Via.refl e122 F_places_a1 (g := (mkF m 5 #[.val (.ref a1), .val (.int p2), .val (.long q3), .second] [(.ref a1), (.int (7 : Int32))])) rfl rfl (hb hby d3_5)
  refine own_go st123 ?_
  show own_Run p e below _ T123 (mkF m 8 #[.val (.ref a1), .val (.int p2), .val (.long q3), .second] [(.ref b1), (.int (7 : Int32))])
  obtain ⟨cl124, Ar124, q124, S124, N124, H124, G124⟩ := id V_b1
  refine own_go (X123.arraylength hx (by rw [e123]; exact Ar124.1) (State.isArrayOf_alike hZ.alike Ar124.2.1) (g := (mkF m 8 #[.val (.ref a1), .val (.int p2), .val (.long q3), .second] [(.ref b1), (.int (7 : Int32))])) rfl rfl (hb hby d3_8)) ?_
  rw [len_of S124 N124]
  show own_Run p e below _ T123 (mkF m 9 #[.val (.ref a1), .val (.int p2), .val (.long q3), .second] [(.int (8 : Int32)), (.int (7 : Int32))])
  refine own_go (fun _ k => XS.icmpYes X123.here hx rfl (pc0 := 9) (pc' := 46) rfl (hb hby d3_9) rfl (feq (by decide : ¬ ((7 : Int32) = (8 : Int32)))).2 (by decide) (by decide) k) ?_
  show own_Run p e below _ T123 (mkF m 46 #[.val (.ref a1), .val (.int p2), .val (.long q3), .second] [])
  refine own_go (fun _ k => XS.aloadN X123.here hx rfl (hb hby d3_46) rfl rfl k) ?_
  show own_Run p e below _ T123 (mkF m 47 #[.val (.ref a1), .val (.int p2), .val (.long q3), .second] [(.ref a1)])
  obtain ⟨T125, X125, e125, st125⟩ := getF X123 hx hZ hown (host := "") (Or.inl (W 18 rfl)) Via.refl e123 F_places_a1 (g := (mkF m 47 #[.val (.ref a1), .val (.int p2), .val (.long q3), .second] [(.ref a1)])) rfl rfl (hb hby d3_47)
  refine own_go st125 ?_
  show own_Run p e below _ T125 (mkF m 50 #[.val (.ref a1), .val (.int p2), .val (.long q3), .second] [(.ref b1)])
  refine own_go (fun _ k => XS.aloadN X125.here hx rfl (hb hby d3_50) rfl rfl k) ?_
  show own_Run p e below _ T125 (mkF m 51 #[.val (.ref a1), .val (.int p2), .val (.long q3), .second] [(.ref a1), (.ref b1)])
  obtain ⟨T126, X126, e126, st126⟩ := getF X125 hx hZ hown (host := "") (Or.inl (W 27 rfl)) Via.refl e125 F_size_a1 (g := (mkF m 51 #[.val (.ref a1), .val (.int p2), .val (.long q3), .second] [(.ref a1), (.ref b1)])) rfl rfl (hb hby d3_51)
  refine own_go st126 ?_
  show own_Run p e below _ T126 (mkF m 54 #[.val (.ref a1), .val (.int p2), .val (.long q3), .second] [(.int (7 : Int32)), (.ref b1)])
  refine own_go (fun _ k => XS.iloadN X126.here hx rfl (hb hby d3_54) rfl k) ?_
  show own_Run p e below _ T126 (mkF m 55 #[.val (.ref a1), .val (.int p2), .val (.long q3), .second] [(.int p2), (.int (7 : Int32)), (.ref b1)])
  obtain ⟨cl127, Ar127, q127, S127, N127, H127, G127⟩ := id V_b1
  have hin127 : ¬ ((7 : Int32) < 0 ∨ cl127.slots.size ≤ ((7 : Int32)).toNatClampNeg) := inb_of S127 ⟨by decide, by decide⟩
  obtain ⟨T128, h128, X128, e128, W128, st128⟩ := stI X126 hx hZ e126 Ar127 (j := (7 : Int32)) hin127 (g := (mkF m 55 #[.val (.ref a1), .val (.int p2), .val (.long q3), .second] [(.int p2), (.int (7 : Int32)), (.ref b1)])) rfl rfl (hb hby d3_55)
  refine own_go st128 ?_
  show own_Run p e below _ T128 (mkF m 56 #[.val (.ref a1), .val (.int p2), .val (.long q3), .second] [])
  have Z0_c129 := Nat.le_trans Z0 (Keep.of_wr W128).1
  have K0_c129 := K0.wr W128 (Or.inl (List.mem_of_getElem? (i := 1) rfl))
  have E_a1_c129 := E_a1.wr W128
  have F_places_a1_c129 := F_places_a1.other W128 (Or.inl ne_a1_b1)
  have F_tokens_a1_c129 := F_tokens_a1.other W128 (Or.inl ne_a1_b1)
  have F_size_a1_c129 := F_size_a1.other W128 (Or.inl ne_a1_b1)
  have V_b2_c129 := V_b2.other W128 (Ne.symm ne_b1_b2)
  have V_b1_c128 : Arv Z h128 b1 k1 .int (8 : Int32) [(.int x0), (.int x1), (.int x2), (.int x3), (.int x4), (.int x5), (.int x6), (.int p2)] (.int (0 : Int32)) := Arv.set Ar127 q127 S127 N127 H127 G127 rfl W128 7 rfl (Nat.le_of_ble_eq_true rfl)
  have N128 := Fr.snoc X128 N0 g_b1
  refine own_go (fun _ k => XS.aloadN X128.here hx rfl (hb hby d3_56) rfl rfl k) ?_
  show own_Run p e below _ T128 (mkF m 57 #[.val (.ref a1), .val (.int p2), .val (.long q3), .second] [(.ref a1)])
  obtain ⟨T130, X130, e130, st130⟩ := getF X128 hx hZ hown (host := "") (Or.inl (W 20 rfl)) Via.refl e128 F_tokens_a1_c129 (g := (mkF m 57 #[.val (.ref a1), .val (.int p2), .val (.long q3), .second] [(.ref a1)])) rfl rfl (hb hby d3_57)
  refine own_go st130 ?_
  show own_Run p e below _ T130 (mkF m 60 #[.val (.ref a1), .val (.int p2), .val (.long q3), .second] [(.ref b2)])
  refine own_go (fun _ k => XS.aloadN X130.here hx rfl (hb hby d3_60) rfl rfl k) ?_
  show own_Run p e below _ T130 (mkF m 61 #[.val (.ref a1), .val (.int p2), .val (.long q3), .second] [(.ref a1), (.ref b2)])
  obtain ⟨T131, X131, e131, st131⟩ := getF X130 hx hZ hown (host := "") (Or.inl (W 27 rfl)) Via.refl e130 F_size_a1_c129 (g := (mkF m 61 #[.val (.ref a1), .val (.int p2), .val (.long q3), .second] [(.ref a1), (.ref b2)])) rfl rfl (hb hby d3_61)
  refine own_go st131 ?_
  show own_Run p e below _ T131 (mkF m 64 #[.val (.ref a1), .val (.int p2), .val (.long q3), .second] [(.int (7 : Int32)), (.ref b2)])
  refine own_go (fun _ k => XS.lloadN X131.here hx rfl (hb hby d3_64) rfl k) ?_
  show own_Run p e below _ T131 (mkF m 65 #[.val (.ref a1), .val (.int p2), .val (.long q3), .second] [(.long q3), (.int (7 : Int32)), (.ref b2)])
  obtain ⟨cl132, Ar132, q132, S132, N132, H132, G132⟩ := id V_b2_c129
  have hin132 : ¬ ((7 : Int32) < 0 ∨ cl132.slots.size ≤ ((7 : Int32)).toNatClampNeg) := inb_of S132 ⟨by decide, by decide⟩
  obtain ⟨T133, h133, X133, e133, W133, st133⟩ := stJ X131 hx hZ e131 Ar132 (j := (7 : Int32)) hin132 (g := (mkF m 65 #[.val (.ref a1), .val (.int p2), .val (.long q3), .second] [(.long q3), (.int (7 : Int32)), (.ref b2)])) rfl rfl (hb hby d3_65)
  refine own_go st133 ?_
  show own_Run p e below _ T133 (mkF m 66 #[.val (.ref a1), .val (.int p2), .val (.long q3), .second] [])
  have Z0_c134 := Nat.le_trans Z0_c129 (Keep.of_wr W133).1
  have K0_c134 := K0_c129.wr W133 (Or.inl (List.mem_of_getElem? (i := 2) rfl))
  have E_a1_c134 := E_a1_c129.wr W133
  have F_places_a1_c134 := F_places_a1_c129.other W133 (Or.inl ne_a1_b2)
  have F_tokens_a1_c134 := F_tokens_a1_c129.other W133 (Or.inl ne_a1_b2)
  have F_size_a1_c134 := F_size_a1_c129.other W133 (Or.inl ne_a1_b2)
  have V_b1_c134 := V_b1_c128.other W133 ne_b1_b2
  have V_b2_c133 : Arv Z h133 b2 k2 .long (8 : Int32) [(.long t0), (.long t1), (.long t2), (.long t3), (.long t4), (.long t5), (.long t6), (.long q3)] (.long (0 : Int64)) := Arv.set Ar132 q132 S132 N132 H132 G132 rfl W133 7 rfl (Nat.le_of_ble_eq_true rfl)
  have N133 := Fr.snoc X133 N128 g_b2
  refine own_go (fun _ k => XS.aloadN X133.here hx rfl (hb hby d3_66) rfl rfl k) ?_
  refine own_go (fun _ k => XS.dup X133.here hx rfl (hb hby d3_67) rfl rfl k) ?_
  show own_Run p e below _ T133 (mkF m 68 #[.val (.ref a1), .val (.int p2), .val (.long q3), .second] [(.ref a1), (.ref a1)])
  obtain ⟨T135, X135, e135, st135⟩ := getF X133 hx hZ hown (host := "") (Or.inl (W 27 rfl)) Via.refl e133 F_size_a1_c134 (g := (mkF m 68 #[.val (.ref a1), .val (.int p2), .val (.long q3), .second] [(.ref a1), (.ref a1)])) rfl rfl (hb hby d3_68)
  refine own_go st135 ?_
  show own_Run p e below _ T135 (mkF m 71 #[.val (.ref a1), .val (.int p2), .val (.long q3), .second] [(.int (7 : Int32)), (.ref a1)])
  refine own_go (fun _ k => XS.iconst X135.here hx rfl (hb hby d3_71) k) ?_
  refine own_go (fun _ k => XS.iadd X135.here hx rfl (hb hby d3_72) rfl k) ?_
  show own_Run p e below _ T135 (mkF m 73 #[.val (.ref a1), .val (.int p2), .val (.long q3), .second] [(.int ((7 : Int32) + (1 : Int32))), (.ref a1)])
  rw [show ((7 : Int32) + (1 : Int32)) = (8 : Int32) by decide]
  show own_Run p e below _ T135 (mkF m 73 #[.val (.ref a1), .val (.int p2), .val (.long q3), .second] [(.int (8 : Int32)), (.ref a1)])
  obtain ⟨T136, h136, X136, e136, W136, st136⟩ := putF X135 hx hZ hown (host := "") (Or.inl (W 27 rfl)) Via.refl e135 F_size_a1_c134 E_a1_c134 (Or.inl (W 28 rfl)) (W 10 rfl) (ty := .int) (by decide) rfl rfl (g := (mkF m 73 #[.val (.ref a1), .val (.int p2), .val (.long q3), .second] [(.int (8 : Int32)), (.ref a1)])) rfl rfl (hb hby d3_73)
  refine own_go st136 ?_
  show own_Run p e below _ T136 (mkF m 76 #[.val (.ref a1), .val (.int p2), .val (.long q3), .second] [])
  have Z0_c137 := Nat.le_trans Z0_c134 (Keep.of_wr W136).1
  have K0_c137 := K0_c134.wr W136 (Or.inl (List.mem_of_getElem? (i := 0) rfl))
  have E_a1_c137 := E_a1_c134.wr W136
  have F_places_a1_c137 := F_places_a1_c134.other W136 (Or.inr (slot_ne (Or.inl (W 19 rfl)) (Or.inl (W 28 rfl)) (by decide) (t := (.array .int)) (t' := .int) (by decide) (by decide)))
  have F_tokens_a1_c137 := F_tokens_a1_c134.other W136 (Or.inr (slot_ne (Or.inl (W 21 rfl)) (Or.inl (W 28 rfl)) (by decide) (t := (.array .long)) (t' := .int) (by decide) (by decide)))
  have V_b1_c137 := V_b1_c134.other W136 (Ne.symm ne_a1_b1)
  have V_b2_c137 := V_b2_c133.other W136 (Ne.symm ne_a1_b2)
  have F_size_a1_c136 : Fld Z h136 a1 "com/example/net_reducer/netreducer/analysis/Marking" "size" "I" (.int (8 : Int32)) := F_size_a1_c134.same W136
  have N136 := Fr.snoc X136 N133 g_a1
  refine own_done (Q := fun v h L => Q3c7 Z a1 p2 q3 b1 b2 k1 k2 x0 x1 x2 x3 x4 x5 x6 x7 t0 t1 t2 t3 t4 t5 t6 t7 h0 n0 v h L) (v := none) X136 (fun _ => rfl) hlk (fun fs hr => X136.returnOut hx hret (hb hby d3_76) hr) ?_ (by decide) (by decide)
  show Q3c7 Z a1 p2 q3 b1 b2 k1 k2 x0 x1 x2 x3 x4 x5 x6 x7 t0 t1 t2 t3 t4 t5 t6 t7 h0 n0 _ T136.heap _
  rw [e136]
  exact ⟨rfl, N136, K0_c137, E_a1_c137, F_places_a1_c137, F_tokens_a1_c137, F_size_a1_c136, V_b1_c137, V_b2_c137⟩
theorem d4_0 : decode prog_10_method_2_code 0 = .ok (.aload_n 0, 1) := by decide +kernel
theorem d4_1 : decode prog_10_method_2_code 1 = .ok (.getfield 17, 3) := by decide +kernel
theorem d4_4 : decode prog_10_method_2_code 4 = .ok (.ireturn, 1) := by decide +kernel
theorem pn_4 : plainName "com/example/net_reducer/netreducer/analysis/Marking" = true := by first | (simp [plainName, overriddenIn]; done) | decide +kernel
theorem ef_4 (m : MethodId) (x0 : Addr) : entryFrame m #[(.ref x0)] 1 = mkF m 0 #[.val (.ref x0)] [] := by first | (simp [entryFrame, mkF, argsToLocals, Value.category]; done) | rfl
def Q4 (Z : State) (a1 : Addr) (w1 : Int32) (h0 : Heap) (n0 : Nat) (v : Option Value) (h : Heap) (L : List Loc) : Prop := v = some (.int w1) ∧ Fr n0 L ∧ h = h0
set_option maxRecDepth 65536 in
set_option maxHeartbeats 40000000 in
theorem rm4 (l : Launch) (Z : State) (a0 : Array Value) (hw : ∀ d ∈ tables_1, d.before a0 Z = true) (ws : List Jvm.Cond) (a1 : Addr) (w1 : Int32) (h0 : Heap) (n0 : Nat) (Z0 : n0 ≤ h0.size) (F_size_a1 : Fld Z h0 a1 "com/example/net_reducer/netreducer/analysis/Marking" "size" "I" (.int w1)) :
    MetFree l (⟨"com/example/net_reducer/netreducer/analysis/Marking", "size", "()I"⟩ : MethodName) (head1 (Jvm.Cond.code (⟨"com/example/net_reducer/netreducer/analysis/Marking", "size", "()I"⟩ : MethodName) prog_10_method_2_code 1 (some .int) :: ws) ({ frames := 0, cells := 0, slots := 0, locals := 0 } : Room)) (fun a U => a = #[(.ref a1)] ∧ Z.Warmed39 U.vm ∧ U.heap = h0) (fun _ _ _ _ _ => True) (fun _ U o U' => ∃ v L, o = .returned v ∧ Q4 Z a1 w1 h0 n0 v U'.heap L ∧ FrameEnd U o U' L ({ frames := 0, cells := 0, slots := 0, locals := 0 } : Room).cells ({ frames := 0, cells := 0, slots := 0, locals := 0 } : Room).slots) := by
  refine MetFree.of_bodySF (plainFor_of_name pn_4) hisR ?_
  intro p e s m args below meth c s₁ Bd hml0 hP hK
  obtain ⟨rfl, hZ, hh⟩ := hP
  have hx := Bd.exec
  have hby := Bd.bytes
  have hml : c.maxLocals = 1 := hml0
  have hown : s.vm.findClass "com/example/net_reducer/netreducer/analysis/Marking" = some m.cls := findClass_of_methodNamed Bd.named
  have hnm := (name_of_methodNamed Bd.named Bd.method).1
  have hret := Bd.returns
  have hlk : meth.locks = false := BodyLoose.notSynchronized Bd
  have X0 : Stand p l e ({ frames := 0, cells := 0, slots := 0, locals := 0 } : Room) s m #[(.ref a1)] below meth c s₁ [] 0 0 := Stand.of_body Bd
  have e0 : s₁.heap = h0 := by rw [← hh, Bd.state]; rfl
  have N0 := Fr.nil n0
  have W := fun (k : Nat) {d : Jvm.Cond} (h : tables_1[k]? = some d) => hw d (List.mem_of_getElem? h)
  have K0 : Keep h0 h0 [] := Keep.refl _ _
  refine own_start (ef_4 m a1) ?_
  show own_Run p e below _ s₁ (mkF m 0 #[.val (.ref a1)] [])
  refine own_go (fun _ k => XS.aloadN X0.here hx rfl (hb hby d4_0) rfl rfl k) ?_
  show own_Run p e below _ s₁ (mkF m 1 #[.val (.ref a1)] [(.ref a1)])
  obtain ⟨T138, X138, e138, st138⟩ := getF X0 hx hZ hown (host := "") (Or.inl (W 27 rfl)) Via.refl e0 F_size_a1 (g := (mkF m 1 #[.val (.ref a1)] [(.ref a1)])) rfl rfl (hb hby d4_1)
  refine own_go st138 ?_
  show own_Run p e below _ T138 (mkF m 4 #[.val (.ref a1)] [(.int w1)])
  refine own_done (Q := fun v h L => Q4 Z a1 w1 h0 n0 v h L) (v := (some (.int w1))) X138 (fun h => by rw [hret] at h; cases h) hlk (fun fs hr => own_retI X138 hx hret (hb hby d4_4) hr) ?_ (by decide) (by decide)
  show Q4 Z a1 w1 h0 n0 _ T138.heap _
  rw [e138]
  exact ⟨rfl, N0, rfl⟩
theorem d5_0 : decode prog_10_method_3_code 0 = .ok (.aload_n 0, 1) := by decide +kernel
theorem d5_1 : decode prog_10_method_3_code 1 = .ok (.getfield 7, 3) := by decide +kernel
theorem d5_4 : decode prog_10_method_3_code 4 = .ok (.iload_n 1, 1) := by decide +kernel
theorem d5_5 : decode prog_10_method_3_code 5 = .ok (.iaload, 1) := by decide +kernel
theorem d5_6 : decode prog_10_method_3_code 6 = .ok (.ireturn, 1) := by decide +kernel
theorem pn_5 : plainName "com/example/net_reducer/netreducer/analysis/Marking" = true := by first | (simp [plainName, overriddenIn]; done) | decide +kernel
theorem ef_5 (m : MethodId) (x0 : Addr) (x1 : Int32) : entryFrame m #[(.ref x0), (.int x1)] 2 = mkF m 0 #[.val (.ref x0), .val (.int x1)] [] := by first | (simp [entryFrame, mkF, argsToLocals, Value.category]; done) | rfl
def Q5 (Z : State) (a1 : Addr) (p2 : Int32) (b1 : Addr) (k1 : ClassId) (n : Int32) (vs : List Value) (dv : Value) (r : Int32) (h0 : Heap) (n0 : Nat) (v : Option Value) (h : Heap) (L : List Loc) : Prop := v = some (.int r) ∧ Fr n0 L ∧ h = h0
set_option maxRecDepth 65536 in
set_option maxHeartbeats 40000000 in
theorem rm5 (l : Launch) (Z : State) (a0 : Array Value) (hw : ∀ d ∈ tables_1, d.before a0 Z = true) (ws : List Jvm.Cond) (a1 : Addr) (p2 : Int32) (b1 : Addr) (k1 : ClassId) (n : Int32) (vs : List Value) (dv : Value) (r : Int32) (h0 : Heap) (n0 : Nat) (Z0 : n0 ≤ h0.size) (F_places_a1 : Fld Z h0 a1 "com/example/net_reducer/netreducer/analysis/Marking" "places" "[I" (.ref b1)) (V_b1 : Arv Z h0 b1 k1 .int n vs dv) (hin : ¬ p2 < 0 ∧ p2 < n) (hat : vs.getD p2.toNatClampNeg dv = (.int r)) :
    MetFree l (⟨"com/example/net_reducer/netreducer/analysis/Marking", "place", "(I)I"⟩ : MethodName) (head1 (Jvm.Cond.code (⟨"com/example/net_reducer/netreducer/analysis/Marking", "place", "(I)I"⟩ : MethodName) prog_10_method_3_code 2 (some .int) :: ws) ({ frames := 0, cells := 0, slots := 0, locals := 0 } : Room)) (fun a U => a = #[(.ref a1), (.int p2)] ∧ Z.Warmed39 U.vm ∧ U.heap = h0) (fun _ _ _ _ _ => True) (fun _ U o U' => ∃ v L, o = .returned v ∧ Q5 Z a1 p2 b1 k1 n vs dv r h0 n0 v U'.heap L ∧ FrameEnd U o U' L ({ frames := 0, cells := 0, slots := 0, locals := 0 } : Room).cells ({ frames := 0, cells := 0, slots := 0, locals := 0 } : Room).slots) := by
  refine MetFree.of_bodySF (plainFor_of_name pn_5) hisR ?_
  intro p e s m args below meth c s₁ Bd hml0 hP hK
  obtain ⟨rfl, hZ, hh⟩ := hP
  have hx := Bd.exec
  have hby := Bd.bytes
  have hml : c.maxLocals = 2 := hml0
  have hown : s.vm.findClass "com/example/net_reducer/netreducer/analysis/Marking" = some m.cls := findClass_of_methodNamed Bd.named
  have hnm := (name_of_methodNamed Bd.named Bd.method).1
  have hret := Bd.returns
  have hlk : meth.locks = false := BodyLoose.notSynchronized Bd
  have X0 : Stand p l e ({ frames := 0, cells := 0, slots := 0, locals := 0 } : Room) s m #[(.ref a1), (.int p2)] below meth c s₁ [] 0 0 := Stand.of_body Bd
  have e0 : s₁.heap = h0 := by rw [← hh, Bd.state]; rfl
  have N0 := Fr.nil n0
  have W := fun (k : Nat) {d : Jvm.Cond} (h : tables_1[k]? = some d) => hw d (List.mem_of_getElem? h)
  have K0 : Keep h0 h0 [] := Keep.refl _ _
  refine own_start (ef_5 m a1 p2) ?_
  show own_Run p e below _ s₁ (mkF m 0 #[.val (.ref a1), .val (.int p2)] [])
  refine own_go (fun _ k => XS.aloadN X0.here hx rfl (hb hby d5_0) rfl rfl k) ?_
  show own_Run p e below _ s₁ (mkF m 1 #[.val (.ref a1), .val (.int p2)] [(.ref a1)])
  obtain ⟨T139, X139, e139, st139⟩ := getF X0 hx hZ hown (host := "") (Or.inl (W 18 rfl)) Via.refl e0 F_places_a1 (g := (mkF m 1 #[.val (.ref a1), .val (.int p2)] [(.ref a1)])) rfl rfl (hb hby d5_1)
  refine own_go st139 ?_
  show own_Run p e below _ T139 (mkF m 4 #[.val (.ref a1), .val (.int p2)] [(.ref b1)])
  refine own_go (fun _ k => XS.iloadN X139.here hx rfl (hb hby d5_4) rfl k) ?_
  show own_Run p e below _ T139 (mkF m 5 #[.val (.ref a1), .val (.int p2)] [(.int p2), (.ref b1)])
  obtain ⟨cl140, Ar140, q140, S140, N140, H140, G140⟩ := id V_b1
  have hin140 : ¬ (p2 < 0 ∨ cl140.slots.size ≤ (p2).toNatClampNeg) := inb_of S140 (hin)
  refine own_go (X139.iaload hx (j := p2) (v := (.int r)) (by rw [e139]; exact Ar140.1) (State.isArrayOf_alike hZ.alike Ar140.2.1) Ar140.2.2 hin140 (H140.at hin140 (hat)) (g := (mkF m 5 #[.val (.ref a1), .val (.int p2)] [(.int p2), (.ref b1)])) rfl rfl (hb hby d5_5)) ?_
  show own_Run p e below _ T139 (mkF m 6 #[.val (.ref a1), .val (.int p2)] [(.int r)])
  refine own_done (Q := fun v h L => Q5 Z a1 p2 b1 k1 n vs dv r h0 n0 v h L) (v := (some (.int r))) X139 (fun h => by rw [hret] at h; cases h) hlk (fun fs hr => own_retI X139 hx hret (hb hby d5_6) hr) ?_ (by decide) (by decide)
  show Q5 Z a1 p2 b1 k1 n vs dv r h0 n0 _ T139.heap _
  rw [e139]
  exact ⟨rfl, N0, rfl⟩
theorem d6_0 : decode prog_10_method_4_code 0 = .ok (.aload_n 0, 1) := by decide +kernel
theorem d6_1 : decode prog_10_method_4_code 1 = .ok (.getfield 13, 3) := by decide +kernel
theorem d6_4 : decode prog_10_method_4_code 4 = .ok (.iload_n 1, 1) := by decide +kernel
theorem d6_5 : decode prog_10_method_4_code 5 = .ok (.laload, 1) := by decide +kernel
theorem d6_6 : decode prog_10_method_4_code 6 = .ok (.lreturn, 1) := by decide +kernel
theorem pn_6 : plainName "com/example/net_reducer/netreducer/analysis/Marking" = true := by first | (simp [plainName, overriddenIn]; done) | decide +kernel
theorem ef_6 (m : MethodId) (x0 : Addr) (x1 : Int32) : entryFrame m #[(.ref x0), (.int x1)] 2 = mkF m 0 #[.val (.ref x0), .val (.int x1)] [] := by first | (simp [entryFrame, mkF, argsToLocals, Value.category]; done) | rfl
def Q6 (Z : State) (a1 : Addr) (p2 : Int32) (b1 : Addr) (k1 : ClassId) (n : Int32) (vs : List Value) (dv : Value) (r : Int64) (h0 : Heap) (n0 : Nat) (v : Option Value) (h : Heap) (L : List Loc) : Prop := v = some (.long r) ∧ Fr n0 L ∧ h = h0
set_option maxRecDepth 65536 in
set_option maxHeartbeats 40000000 in
theorem rm6 (l : Launch) (Z : State) (a0 : Array Value) (hw : ∀ d ∈ tables_1, d.before a0 Z = true) (ws : List Jvm.Cond) (a1 : Addr) (p2 : Int32) (b1 : Addr) (k1 : ClassId) (n : Int32) (vs : List Value) (dv : Value) (r : Int64) (h0 : Heap) (n0 : Nat) (Z0 : n0 ≤ h0.size) (F_tokens_a1 : Fld Z h0 a1 "com/example/net_reducer/netreducer/analysis/Marking" "tokens" "[J" (.ref b1)) (V_b1 : Arv Z h0 b1 k1 .long n vs dv) (hin : ¬ p2 < 0 ∧ p2 < n) (hat : vs.getD p2.toNatClampNeg dv = (.long r)) :
    MetFree l (⟨"com/example/net_reducer/netreducer/analysis/Marking", "tokens", "(I)J"⟩ : MethodName) (head1 (Jvm.Cond.code (⟨"com/example/net_reducer/netreducer/analysis/Marking", "tokens", "(I)J"⟩ : MethodName) prog_10_method_4_code 2 (some .long) :: ws) ({ frames := 0, cells := 0, slots := 0, locals := 0 } : Room)) (fun a U => a = #[(.ref a1), (.int p2)] ∧ Z.Warmed39 U.vm ∧ U.heap = h0) (fun _ _ _ _ _ => True) (fun _ U o U' => ∃ v L, o = .returned v ∧ Q6 Z a1 p2 b1 k1 n vs dv r h0 n0 v U'.heap L ∧ FrameEnd U o U' L ({ frames := 0, cells := 0, slots := 0, locals := 0 } : Room).cells ({ frames := 0, cells := 0, slots := 0, locals := 0 } : Room).slots) := by
  refine MetFree.of_bodySF (plainFor_of_name pn_6) hisR ?_
  intro p e s m args below meth c s₁ Bd hml0 hP hK
  obtain ⟨rfl, hZ, hh⟩ := hP
  have hx := Bd.exec
  have hby := Bd.bytes
  have hml : c.maxLocals = 2 := hml0
  have hown : s.vm.findClass "com/example/net_reducer/netreducer/analysis/Marking" = some m.cls := findClass_of_methodNamed Bd.named
  have hnm := (name_of_methodNamed Bd.named Bd.method).1
  have hret := Bd.returns
  have hlk : meth.locks = false := BodyLoose.notSynchronized Bd
  have X0 : Stand p l e ({ frames := 0, cells := 0, slots := 0, locals := 0 } : Room) s m #[(.ref a1), (.int p2)] below meth c s₁ [] 0 0 := Stand.of_body Bd
  have e0 : s₁.heap = h0 := by rw [← hh, Bd.state]; rfl
  have N0 := Fr.nil n0
  have W := fun (k : Nat) {d : Jvm.Cond} (h : tables_1[k]? = some d) => hw d (List.mem_of_getElem? h)
  have K0 : Keep h0 h0 [] := Keep.refl _ _
  refine own_start (ef_6 m a1 p2) ?_
  show own_Run p e below _ s₁ (mkF m 0 #[.val (.ref a1), .val (.int p2)] [])
  refine own_go (fun _ k => XS.aloadN X0.here hx rfl (hb hby d6_0) rfl rfl k) ?_
  show own_Run p e below _ s₁ (mkF m 1 #[.val (.ref a1), .val (.int p2)] [(.ref a1)])
  obtain ⟨T141, X141, e141, st141⟩ := getF X0 hx hZ hown (host := "") (Or.inl (W 20 rfl)) Via.refl e0 F_tokens_a1 (g := (mkF m 1 #[.val (.ref a1), .val (.int p2)] [(.ref a1)])) rfl rfl (hb hby d6_1)
  refine own_go st141 ?_
  show own_Run p e below _ T141 (mkF m 4 #[.val (.ref a1), .val (.int p2)] [(.ref b1)])
  refine own_go (fun _ k => XS.iloadN X141.here hx rfl (hb hby d6_4) rfl k) ?_
  show own_Run p e below _ T141 (mkF m 5 #[.val (.ref a1), .val (.int p2)] [(.int p2), (.ref b1)])
  obtain ⟨cl142, Ar142, q142, S142, N142, H142, G142⟩ := id V_b1
  have hin142 : ¬ (p2 < 0 ∨ cl142.slots.size ≤ (p2).toNatClampNeg) := inb_of S142 (hin)
  refine own_go (X141.laload hx (j := p2) (v := (.long r)) (by rw [e141]; exact Ar142.1) (State.isArrayOf_alike hZ.alike Ar142.2.1) Ar142.2.2 hin142 (H142.at hin142 (hat)) (g := (mkF m 5 #[.val (.ref a1), .val (.int p2)] [(.int p2), (.ref b1)])) rfl rfl (hb hby d6_5)) ?_
  show own_Run p e below _ T141 (mkF m 6 #[.val (.ref a1), .val (.int p2)] [(.long r)])
  refine own_done (Q := fun v h L => Q6 Z a1 p2 b1 k1 n vs dv r h0 n0 v h L) (v := (some (.long r))) X141 (fun h => by rw [hret] at h; cases h) hlk (fun fs hr => own_retL X141 hx hret (hb hby d6_6) hr) ?_ (by decide) (by decide)
  show Q6 Z a1 p2 b1 k1 n vs dv r h0 n0 _ T141.heap _
  rw [e141]
  exact ⟨rfl, N0, rfl⟩
theorem d11_0 : decode jdk_29_method_69_code 0 = .ok (.iload_n 0, 1) := by decide +kernel
theorem d11_1 : decode jdk_29_method_69_code 1 = .ok (.iload_n 1, 1) := by decide +kernel
theorem d11_2 : decode jdk_29_method_69_code 2 = .ok (.if_icmp .gt 7, 3) := by decide +kernel
theorem d11_5 : decode jdk_29_method_69_code 5 = .ok (.iload_n 0, 1) := by decide +kernel
theorem d11_6 : decode jdk_29_method_69_code 6 = .ok (.goto 4, 3) := by decide +kernel
theorem d11_9 : decode jdk_29_method_69_code 9 = .ok (.iload_n 1, 1) := by decide +kernel
theorem d11_10 : decode jdk_29_method_69_code 10 = .ok (.ireturn, 1) := by decide +kernel
theorem ef_11 (m : MethodId) (x0 : Int32) (x1 : Int32) : entryFrame m #[(.int x0), (.int x1)] 2 = mkF m 0 #[.val (.int x0), .val (.int x1)] [] := by first | (simp [entryFrame, mkF, argsToLocals, Value.category]; done) | rfl
def Q11 (Z : State) (p1 : Int32) (p2 : Int32) (h0 : Heap) (n0 : Nat) (v : Option Value) (h : Heap) (L : List Loc) : Prop := v = some (.int p1) ∧ Fr n0 L ∧ h = h0
set_option maxRecDepth 65536 in
set_option maxHeartbeats 40000000 in
theorem rm11 (l : Launch) (Z : State) (a0 : Array Value) (hw : ∀ d ∈ tables_1, d.before a0 Z = true) (ws : List Jvm.Cond) (p1 : Int32) (p2 : Int32) (h0 : Heap) (n0 : Nat) (Z0 : n0 ≤ h0.size) (hp : ¬ (p2 < p1)) :
    MetFree l (⟨"java/lang/Math", "min", "(II)I"⟩ : MethodName) (head1 (Jvm.Cond.code (⟨"java/lang/Math", "min", "(II)I"⟩ : MethodName) jdk_29_method_69_code 2 (some .int) :: ws) ({ frames := 0, cells := 0, slots := 0, locals := 0 } : Room)) (fun a U => a = #[(.int p1), (.int p2)] ∧ Z.Warmed39 U.vm ∧ U.heap = h0) (fun _ _ _ _ _ => True) (fun _ U o U' => ∃ v L, o = .returned v ∧ Q11 Z p1 p2 h0 n0 v U'.heap L ∧ FrameEnd U o U' L ({ frames := 0, cells := 0, slots := 0, locals := 0 } : Room).cells ({ frames := 0, cells := 0, slots := 0, locals := 0 } : Room).slots) := by
  refine MetFree.of_bodySF (Jvm.Free.JP.mathPlain rfl (by decide +kernel)) hisR ?_
  intro p e s m args below meth c s₁ Bd hml0 hP hK
  obtain ⟨rfl, hZ, hh⟩ := hP
  have hx := Bd.exec
  have hby := Bd.bytes
  have hml : c.maxLocals = 2 := hml0
  have hown : s.vm.findClass "java/lang/Math" = some m.cls := findClass_of_methodNamed Bd.named
  have hnm := (name_of_methodNamed Bd.named Bd.method).1
  have hret := Bd.returns
  have hlk : meth.locks = false := BodyLoose.notSynchronized Bd
  have X0 : Stand p l e ({ frames := 0, cells := 0, slots := 0, locals := 0 } : Room) s m #[(.int p1), (.int p2)] below meth c s₁ [] 0 0 := Stand.of_body Bd
  have e0 : s₁.heap = h0 := by rw [← hh, Bd.state]; rfl
  have N0 := Fr.nil n0
  have W := fun (k : Nat) {d : Jvm.Cond} (h : tables_1[k]? = some d) => hw d (List.mem_of_getElem? h)
  have K0 : Keep h0 h0 [] := Keep.refl _ _
  refine own_start (ef_11 m p1 p2) ?_
  show own_Run p e below _ s₁ (mkF m 0 #[.val (.int p1), .val (.int p2)] [])
  refine own_go (fun _ k => XS.iloadN X0.here hx rfl (hb hby d11_0) rfl k) ?_
  refine own_go (fun _ k => XS.iloadN X0.here hx rfl (hb hby d11_1) rfl k) ?_
  show own_Run p e below _ s₁ (mkF m 2 #[.val (.int p1), .val (.int p2)] [(.int p2), (.int p1)])
  refine own_go (fun _ k => XS.icmpNo X0.here hx rfl (hb hby d11_2) rfl (flt hp).2.2.1 k) ?_
  show own_Run p e below _ s₁ (mkF m 5 #[.val (.int p1), .val (.int p2)] [])
  refine own_go (fun _ k => XS.iloadN X0.here hx rfl (hb hby d11_5) rfl k) ?_
  refine own_go (fun _ k => XS.goto X0.here hx rfl (pc0 := 6) (pc' := 10) rfl (hb hby d11_6) (by decide) (by decide) k) ?_
  show own_Run p e below _ s₁ (mkF m 10 #[.val (.int p1), .val (.int p2)] [(.int p1)])
  refine own_done (Q := fun v h L => Q11 Z p1 p2 h0 n0 v h L) (v := (some (.int p1))) X0 (fun h => by rw [hret] at h; cases h) hlk (fun fs hr => own_retI X0 hx hret (hb hby d11_10) hr) ?_ (by decide) (by decide)
  show Q11 Z p1 p2 h0 n0 _ s₁.heap _
  rw [e0]
  exact ⟨rfl, N0, rfl⟩
theorem d9_0 : decode jdk_29_method_25_code 0 = .ok (.lload_n 0, 1) := by decide +kernel
theorem d9_1 : decode jdk_29_method_25_code 1 = .ok (.lload_n 2, 1) := by decide +kernel
theorem d9_2 : decode jdk_29_method_25_code 2 = .ok (.ladd, 1) := by decide +kernel
theorem d9_3 : decode jdk_29_method_25_code 3 = .ok (.lstore 4, 2) := by decide +kernel
theorem d9_5 : decode jdk_29_method_25_code 5 = .ok (.lload_n 0, 1) := by decide +kernel
theorem d9_6 : decode jdk_29_method_25_code 6 = .ok (.lload 4, 2) := by decide +kernel
theorem d9_8 : decode jdk_29_method_25_code 8 = .ok (.lxor, 1) := by decide +kernel
theorem d9_9 : decode jdk_29_method_25_code 9 = .ok (.lload_n 2, 1) := by decide +kernel
theorem d9_10 : decode jdk_29_method_25_code 10 = .ok (.lload 4, 2) := by decide +kernel
theorem d9_12 : decode jdk_29_method_25_code 12 = .ok (.lxor, 1) := by decide +kernel
theorem d9_13 : decode jdk_29_method_25_code 13 = .ok (.land, 1) := by decide +kernel
theorem d9_14 : decode jdk_29_method_25_code 14 = .ok (.lconst 0, 1) := by decide +kernel
theorem d9_15 : decode jdk_29_method_25_code 15 = .ok (.lcmp, 1) := by decide +kernel
theorem d9_16 : decode jdk_29_method_25_code 16 = .ok (.ifCond .ge 13, 3) := by decide +kernel
theorem d9_19 : decode jdk_29_method_25_code 19 = .ok (.new 109, 3) := by decide +kernel
theorem d9_22 : decode jdk_29_method_25_code 22 = .ok (.dup, 1) := by decide +kernel
theorem d9_23 : decode jdk_29_method_25_code 23 = .ok (.ldc 116, 2) := by decide +kernel
theorem d9_25 : decode jdk_29_method_25_code 25 = .ok (.invokespecial 113, 3) := by decide +kernel
theorem d9_28 : decode jdk_29_method_25_code 28 = .ok (.athrow, 1) := by decide +kernel
theorem d9_29 : decode jdk_29_method_25_code 29 = .ok (.lload 4, 2) := by decide +kernel
theorem d9_31 : decode jdk_29_method_25_code 31 = .ok (.lreturn, 1) := by decide +kernel
theorem ef_9 (m : MethodId) (x0 : Int64) (x1 : Int64) : entryFrame m #[(.long x0), (.long x1)] 6 = mkF m 0 #[.val (.long x0), .second, .val (.long x1), .second, .unset, .unset] [] := by first | (simp [entryFrame, mkF, argsToLocals, Value.category]; done) | rfl
def Q9 (Z : State) (q1 : Int64) (q2 : Int64) (h0 : Heap) (n0 : Nat) (v : Option Value) (h : Heap) (L : List Loc) : Prop := v = some (.long (q1 + q2)) ∧ Fr n0 L ∧ h = h0
set_option maxRecDepth 65536 in
set_option maxHeartbeats 40000000 in
theorem rm9 (l : Launch) (Z : State) (a0 : Array Value) (hw : ∀ d ∈ tables_1, d.before a0 Z = true) (ws : List Jvm.Cond) (q1 : Int64) (q2 : Int64) (h0 : Heap) (n0 : Nat) (Z0 : n0 ≤ h0.size) (hp : ¬ (((q1 ^^^ (q1 + q2)) &&& (q2 ^^^ (q1 + q2))) < (0 : Int64))) :
    MetFree l (⟨"java/lang/Math", "addExact", "(JJ)J"⟩ : MethodName) (head1 (Jvm.Cond.code (⟨"java/lang/Math", "addExact", "(JJ)J"⟩ : MethodName) jdk_29_method_25_code 6 (some .long) :: ws) ({ frames := 0, cells := 0, slots := 0, locals := 0 } : Room)) (fun a U => a = #[(.long q1), (.long q2)] ∧ Z.Warmed39 U.vm ∧ U.heap = h0) (fun _ _ _ _ _ => True) (fun _ U o U' => ∃ v L, o = .returned v ∧ Q9 Z q1 q2 h0 n0 v U'.heap L ∧ FrameEnd U o U' L ({ frames := 0, cells := 0, slots := 0, locals := 0 } : Room).cells ({ frames := 0, cells := 0, slots := 0, locals := 0 } : Room).slots) := by
  refine MetFree.of_bodySF (Jvm.Free.JP.mathPlain rfl (by decide +kernel)) hisR ?_
  intro p e s m args below meth c s₁ Bd hml0 hP hK
  obtain ⟨rfl, hZ, hh⟩ := hP
  have hx := Bd.exec
  have hby := Bd.bytes
  have hml : c.maxLocals = 6 := hml0
  have hown : s.vm.findClass "java/lang/Math" = some m.cls := findClass_of_methodNamed Bd.named
  have hnm := (name_of_methodNamed Bd.named Bd.method).1
  have hret := Bd.returns
  have hlk : meth.locks = false := BodyLoose.notSynchronized Bd
  have X0 : Stand p l e ({ frames := 0, cells := 0, slots := 0, locals := 0 } : Room) s m #[(.long q1), (.long q2)] below meth c s₁ [] 0 0 := Stand.of_body Bd
  have e0 : s₁.heap = h0 := by rw [← hh, Bd.state]; rfl
  have N0 := Fr.nil n0
  have W := fun (k : Nat) {d : Jvm.Cond} (h : tables_1[k]? = some d) => hw d (List.mem_of_getElem? h)
  have K0 : Keep h0 h0 [] := Keep.refl _ _
  refine own_start (ef_9 m q1 q2) ?_
  show own_Run p e below _ s₁ (mkF m 0 #[.val (.long q1), .second, .val (.long q2), .second, .unset, .unset] [])
  refine own_go (fun _ k => XS.lloadN X0.here hx rfl (hb hby d9_0) rfl k) ?_
  refine own_go (fun _ k => XS.lloadN X0.here hx rfl (hb hby d9_1) rfl k) ?_
  refine own_go (fun _ k => XS.ladd X0.here hx rfl (hb hby d9_2) rfl k) ?_
  refine own_go (fun _ k => XS.lstore X0.here hx rfl (hb hby d9_3) rfl (l' := #[.val (.long q1), .second, .val (.long q2), .second, .val (.long (q1 + q2)), .second]) rfl k) ?_
  show own_Run p e below _ s₁ (mkF m 5 #[.val (.long q1), .second, .val (.long q2), .second, .val (.long (q1 + q2)), .second] [])
  refine own_go (fun _ k => XS.lloadN X0.here hx rfl (hb hby d9_5) rfl k) ?_
  refine own_go (fun _ k => XS.lload X0.here hx rfl (hb hby d9_6) rfl k) ?_
  refine own_go (fun _ k => XS.lxor X0.here hx rfl (hb hby d9_8) rfl k) ?_
  refine own_go (fun _ k => XS.lloadN X0.here hx rfl (hb hby d9_9) rfl k) ?_
  show own_Run p e below _ s₁ (mkF m 10 #[.val (.long q1), .second, .val (.long q2), .second, .val (.long (q1 + q2)), .second] [(.long q2), (.long (q1 ^^^ (q1 + q2)))])
  refine own_go (fun _ k => XS.lload X0.here hx rfl (hb hby d9_10) rfl k) ?_
  refine own_go (fun _ k => XS.lxor X0.here hx rfl (hb hby d9_12) rfl k) ?_
  refine own_go (fun _ k => XS.land X0.here hx rfl (hb hby d9_13) rfl k) ?_
  refine own_go (fun _ k => XS.lconst X0.here hx rfl (hb hby d9_14) k) ?_
  show own_Run p e below _ s₁ (mkF m 15 #[.val (.long q1), .second, .val (.long q2), .second, .val (.long (q1 + q2)), .second] [(.long (0 : Int64)), (.long ((q1 ^^^ (q1 + q2)) &&& (q2 ^^^ (q1 + q2))))])
  refine own_go (fun _ k => XS.lcmp X0.here hx rfl (hb hby d9_15) rfl k) ?_
  show own_Run p e below _ s₁ (mkF m 16 #[.val (.long q1), .second, .val (.long q2), .second, .val (.long (q1 + q2)), .second] [(.int (lcmpW ((q1 ^^^ (q1 + q2)) &&& (q2 ^^^ (q1 + q2))) (0 : Int64)))])
  refine own_go (fun _ k => XS.ifYes X0.here hx rfl (pc0 := 16) (pc' := 29) rfl (hb hby d9_16) rfl (own_lcF hp).2.1 (by decide) (by decide) k) ?_
  show own_Run p e below _ s₁ (mkF m 29 #[.val (.long q1), .second, .val (.long q2), .second, .val (.long (q1 + q2)), .second] [])
  refine own_go (fun _ k => XS.lload X0.here hx rfl (hb hby d9_29) rfl k) ?_
  show own_Run p e below _ s₁ (mkF m 31 #[.val (.long q1), .second, .val (.long q2), .second, .val (.long (q1 + q2)), .second] [(.long (q1 + q2))])
  refine own_done (Q := fun v h L => Q9 Z q1 q2 h0 n0 v h L) (v := (some (.long (q1 + q2)))) X0 (fun h => by rw [hret] at h; cases h) hlk (fun fs hr => own_retL X0 hx hret (hb hby d9_31) hr) ?_ (by decide) (by decide)
  show Q9 Z q1 q2 h0 n0 _ s₁.heap _
  rw [e0]
  exact ⟨rfl, N0, rfl⟩
theorem d10_0 : decode jdk_65_method_123_code 0 = .ok (.iload_n 1, 1) := by decide +kernel
theorem d10_1 : decode jdk_65_method_123_code 1 = .ok (.aload_n 0, 1) := by decide +kernel
theorem d10_2 : decode jdk_65_method_123_code 2 = .ok (.arraylength, 1) := by decide +kernel
theorem d10_3 : decode jdk_65_method_123_code 3 = .ok (.if_icmp .ne 11, 3) := by decide +kernel
theorem d10_6 : decode jdk_65_method_123_code 6 = .ok (.aload_n 0, 1) := by decide +kernel
theorem d10_7 : decode jdk_65_method_123_code 7 = .ok (.invokevirtual 316, 3) := by decide +kernel
theorem d10_10 : decode jdk_65_method_123_code 10 = .ok (.checkcast 317, 3) := by decide +kernel
theorem d10_13 : decode jdk_65_method_123_code 13 = .ok (.areturn, 1) := by decide +kernel
theorem d10_14 : decode jdk_65_method_123_code 14 = .ok (.iload_n 1, 1) := by decide +kernel
theorem d10_15 : decode jdk_65_method_123_code 15 = .ok (.newarray .int, 2) := by decide +kernel
theorem d10_17 : decode jdk_65_method_123_code 17 = .ok (.astore_n 2, 1) := by decide +kernel
theorem d10_18 : decode jdk_65_method_123_code 18 = .ok (.aload_n 0, 1) := by decide +kernel
theorem d10_19 : decode jdk_65_method_123_code 19 = .ok (.iconst 0, 1) := by decide +kernel
theorem d10_20 : decode jdk_65_method_123_code 20 = .ok (.aload_n 2, 1) := by decide +kernel
theorem d10_21 : decode jdk_65_method_123_code 21 = .ok (.iconst 0, 1) := by decide +kernel
theorem d10_22 : decode jdk_65_method_123_code 22 = .ok (.aload_n 0, 1) := by decide +kernel
theorem d10_23 : decode jdk_65_method_123_code 23 = .ok (.arraylength, 1) := by decide +kernel
theorem d10_24 : decode jdk_65_method_123_code 24 = .ok (.iload_n 1, 1) := by decide +kernel
theorem d10_25 : decode jdk_65_method_123_code 25 = .ok (.invokestatic 304, 3) := by decide +kernel
theorem d10_28 : decode jdk_65_method_123_code 28 = .ok (.invokestatic 150, 3) := by decide +kernel
theorem d10_31 : decode jdk_65_method_123_code 31 = .ok (.aload_n 2, 1) := by decide +kernel
theorem d10_32 : decode jdk_65_method_123_code 32 = .ok (.areturn, 1) := by decide +kernel
theorem pn_10 : plainName "java/util/Arrays" = true := by first | (simp [plainName, overriddenIn]; done) | decide +kernel
theorem ef_10 (m : MethodId) (x0 : Addr) (x1 : Int32) : entryFrame m #[(.ref x0), (.int x1)] 3 = mkF m 0 #[.val (.ref x0), .val (.int x1), .unset] [] := by first | (simp [entryFrame, mkF, argsToLocals, Value.category]; done) | rfl
theorem pd_1 : parseMethodDescriptor "(II)I" = some ⟨[.int, .int], some .int⟩ := by decide +kernel
def Q10 (Z : State) (a1 : Addr) (k0 : ClassId) (x0 : Int32) (x1 : Int32) (x2 : Int32) (x3 : Int32) (x4 : Int32) (x5 : Int32) (x6 : Int32) (x7 : Int32) (h0 : Heap) (n0 : Nat) (v : Option Value) (h : Heap) (L : List Loc) : Prop := ∃ (b : Addr) (kb : ClassId), v = some (.ref b) ∧ Fr n0 L ∧ Keep h0 h [] ∧ Arv Z h b kb .int (16 : Int32) [(.int x0), (.int x1), (.int x2), (.int x3), (.int x4), (.int x5), (.int x6), (.int x7), (.int (0 : Int32)), (.int (0 : Int32)), (.int (0 : Int32)), (.int (0 : Int32)), (.int (0 : Int32)), (.int (0 : Int32)), (.int (0 : Int32)), (.int (0 : Int32))] (.int (0 : Int32)) ∧ h0.size ≤ b
set_option maxRecDepth 65536 in
set_option maxHeartbeats 40000000 in
theorem rm10 (l : Launch) (Z : State) (a0 : Array Value) (hw : ∀ d ∈ tables_1, d.before a0 Z = true) (ws : List Jvm.Cond) (a1 : Addr) (k0 : ClassId) (x0 : Int32) (x1 : Int32) (x2 : Int32) (x3 : Int32) (x4 : Int32) (x5 : Int32) (x6 : Int32) (x7 : Int32) (h0 : Heap) (n0 : Nat) (Z0 : n0 ≤ h0.size) (V_a1 : Arv Z h0 a1 k0 .int (8 : Int32) [(.int x0), (.int x1), (.int x2), (.int x3), (.int x4), (.int x5), (.int x6), (.int x7)] (.int (0 : Int32))) :
    MetFree l (⟨"java/util/Arrays", "copyOf", "([II)[I"⟩ : MethodName) (head1 (Jvm.Cond.code (⟨"java/util/Arrays", "copyOf", "([II)[I"⟩ : MethodName) jdk_65_method_123_code 3 (some (.array .int)) :: ws) ({ frames := 1, cells := 1, slots := 16, locals := 40 } : Room)) (fun a U => a = #[(.ref a1), (.int (16 : Int32))] ∧ Z.Warmed39 U.vm ∧ U.heap = h0) (fun _ _ _ _ _ => True) (fun _ U o U' => ∃ v L, o = .returned v ∧ Q10 Z a1 k0 x0 x1 x2 x3 x4 x5 x6 x7 h0 n0 v U'.heap L ∧ FrameEnd U o U' L ({ frames := 1, cells := 1, slots := 16, locals := 40 } : Room).cells ({ frames := 1, cells := 1, slots := 16, locals := 40 } : Room).slots) := by
  refine MetFree.of_bodySF (plainFor_of_name pn_10) hisR ?_
  intro p e s m args below meth c s₁ Bd hml0 hP hK
  obtain ⟨rfl, hZ, hh⟩ := hP
  have hx := Bd.exec
  have hby := Bd.bytes
  have hml : c.maxLocals = 3 := hml0
  have hown : s.vm.findClass "java/util/Arrays" = some m.cls := findClass_of_methodNamed Bd.named
  have hnm := (name_of_methodNamed Bd.named Bd.method).1
  have hret := Bd.returns
  have hlk : meth.locks = false := BodyLoose.notSynchronized Bd
  have X0 : Stand p l e ({ frames := 1, cells := 1, slots := 16, locals := 40 } : Room) s m #[(.ref a1), (.int (16 : Int32))] below meth c s₁ [] 0 0 := Stand.of_body Bd
  have e0 : s₁.heap = h0 := by rw [← hh, Bd.state]; rfl
  have N0 := Fr.nil n0
  have W := fun (k : Nat) {d : Jvm.Cond} (h : tables_1[k]? = some d) => hw d (List.mem_of_getElem? h)
  have K0 : Keep h0 h0 [] := Keep.refl _ _
  refine own_start (ef_10 m a1 (16 : Int32)) ?_
  show own_Run p e below _ s₁ (mkF m 0 #[.val (.ref a1), .val (.int (16 : Int32)), .unset] [])
  refine own_go (fun _ k => XS.iloadN X0.here hx rfl (hb hby d10_0) rfl k) ?_
  refine own_go (fun _ k => XS.aloadN X0.here hx rfl (hb hby d10_1) rfl rfl k) ?_
  show own_Run p e below _ s₁ (mkF m 2 #[.val (.ref a1), .val (.int (16 : Int32)), .unset] [(.ref a1), (.int (16 : Int32))])
  obtain ⟨cl143, Ar143, q143, S143, N143, H143, G143⟩ := id V_a1
  refine own_go (X0.arraylength hx (by rw [e0]; exact Ar143.1) (State.isArrayOf_alike hZ.alike Ar143.2.1) (g := (mkF m 2 #[.val (.ref a1), .val (.int (16 : Int32)), .unset] [(.ref a1), (.int (16 : Int32))])) rfl rfl (hb hby d10_2)) ?_
  rw [len_of S143 N143]
  show own_Run p e below _ s₁ (mkF m 3 #[.val (.ref a1), .val (.int (16 : Int32)), .unset] [(.int (8 : Int32)), (.int (16 : Int32))])
  refine own_go (fun _ k => XS.icmpYes X0.here hx rfl (pc0 := 3) (pc' := 14) rfl (hb hby d10_3) rfl (feq (by decide : ¬ ((16 : Int32) = (8 : Int32)))).2 (by decide) (by decide) k) ?_
  show own_Run p e below _ s₁ (mkF m 14 #[.val (.ref a1), .val (.int (16 : Int32)), .unset] [])
  refine own_go (fun _ k => XS.iloadN X0.here hx rfl (hb hby d10_14) rfl k) ?_
  show own_Run p e below _ s₁ (mkF m 15 #[.val (.ref a1), .val (.int (16 : Int32)), .unset] [(.int (16 : Int32))])
  obtain ⟨T144, h144, k144, X144, e144, E144, A144, st144⟩ := newP X0 hx hZ (W 0 rfl) e0 (g := (mkF m 15 #[.val (.ref a1), .val (.int (16 : Int32)), .unset] [(.int (16 : Int32))])) rfl (hb hby d10_15) rfl (by decide) (cap := 16) (by decide) (by decide) (by decide) (by decide)
  refine own_go st144 ?_
  obtain ⟨b144, g144⟩ : ∃ z, z = h0.size := ⟨_, rfl⟩
  rw [← g144] at A144
  rw [← g144]
  show own_Run p e below _ T144 (mkF m 17 #[.val (.ref a1), .val (.int (16 : Int32)), .unset] [(.ref b144)])
  have ne_a1_b144 : a1 ≠ b144 := Nat.ne_of_lt (Nat.lt_of_lt_of_eq V_a1.lt g144.symm)
  have g_b144 : n0 ≤ b144 := Nat.le_trans Z0 (Nat.le_of_eq g144.symm)
  have sz_b144 : h0.size ≤ b144 := Nat.le_trans K0.1 (Nat.le_of_eq g144.symm)
  have Z0_c145 := Nat.le_trans Z0 E144.1
  have K0_c145 := K0.ext E144
  have V_a1_c145 := V_a1.ext E144
  have V_b144 : Arv Z h144 b144 k144 .int (16 : Int32) [(.int (0 : Int32)), (.int (0 : Int32)), (.int (0 : Int32)), (.int (0 : Int32)), (.int (0 : Int32)), (.int (0 : Int32)), (.int (0 : Int32)), (.int (0 : Int32)), (.int (0 : Int32)), (.int (0 : Int32)), (.int (0 : Int32)), (.int (0 : Int32)), (.int (0 : Int32)), (.int (0 : Int32)), (.int (0 : Int32)), (.int (0 : Int32))] (.int (0 : Int32)) := (Arv.new A144 (by decide)).pad (pad_rep [] (.int (0 : Int32)) 16)
  refine own_go (fun _ k => XS.astoreN X144.here hx rfl (hb hby d10_17) rfl rfl (l' := #[.val (.ref a1), .val (.int (16 : Int32)), .val (.ref b144)]) rfl k) ?_
  refine own_go (fun _ k => XS.aloadN X144.here hx rfl (hb hby d10_18) rfl rfl k) ?_
  refine own_go (fun _ k => XS.iconst X144.here hx rfl (hb hby d10_19) k) ?_
  refine own_go (fun _ k => XS.aloadN X144.here hx rfl (hb hby d10_20) rfl rfl k) ?_
  show own_Run p e below _ T144 (mkF m 21 #[.val (.ref a1), .val (.int (16 : Int32)), .val (.ref b144)] [(.ref b144), (.int (0 : Int32)), (.ref a1)])
  refine own_go (fun _ k => XS.iconst X144.here hx rfl (hb hby d10_21) k) ?_
  refine own_go (fun _ k => XS.aloadN X144.here hx rfl (hb hby d10_22) rfl rfl k) ?_
  show own_Run p e below _ T144 (mkF m 23 #[.val (.ref a1), .val (.int (16 : Int32)), .val (.ref b144)] [(.ref a1), (.int (0 : Int32)), (.ref b144), (.int (0 : Int32)), (.ref a1)])
  obtain ⟨cl146, Ar146, q146, S146, N146, H146, G146⟩ := id V_a1_c145
  refine own_go (X144.arraylength hx (by rw [e144]; exact Ar146.1) (State.isArrayOf_alike hZ.alike Ar146.2.1) (g := (mkF m 23 #[.val (.ref a1), .val (.int (16 : Int32)), .val (.ref b144)] [(.ref a1), (.int (0 : Int32)), (.ref b144), (.int (0 : Int32)), (.ref a1)])) rfl rfl (hb hby d10_23)) ?_
  rw [len_of S146 N146]
  show own_Run p e below _ T144 (mkF m 24 #[.val (.ref a1), .val (.int (16 : Int32)), .val (.ref b144)] [(.int (8 : Int32)), (.int (0 : Int32)), (.ref b144), (.int (0 : Int32)), (.ref a1)])
  refine own_go (fun _ k => XS.iloadN X144.here hx rfl (hb hby d10_24) rfl k) ?_
  show own_Run p e below _ T144 (mkF m 25 #[.val (.ref a1), .val (.int (16 : Int32)), .val (.ref b144)] [(.int (16 : Int32)), (.int (8 : Int32)), (.int (0 : Int32)), (.ref b144), (.int (0 : Int32)), (.ref a1)])
  obtain ⟨_, _, ⟨T147, L147, k147, n147⟩, -, X147, ⟨Lc147, hQ147, l147, y147, z147⟩, st147⟩ := Jvm.LawKit.callS X144 hx (y := (⟨"java/lang/Math", "min", "(II)I"⟩ : MethodName)) hown (mvT hZ (W 61 rfl)) (mvT hZ (W 62 rfl)) (mvT hZ (W 54 rfl)) (mvT hZ (W 63 rfl)) (by decide) (backOf (W := 4) (rm11 l Z a0 hw [] (8 : Int32) (16 : Int32) h144 n0 Z0_c145 (by decide)) hZ (W 63 rfl) (W 54 rfl) (by decide) (by decide)) (g := (mkF m 25 #[.val (.ref a1), .val (.int (16 : Int32)), .val (.ref b144)] [(.int (16 : Int32)), (.int (8 : Int32)), (.int (0 : Int32)), (.ref b144), (.int (0 : Int32)), (.ref a1)])) rfl (by rw [hml]; rfl) (argsL := [(.int (8 : Int32)), (.int (16 : Int32))]) (rest := [(.int (0 : Int32)), (.ref b144), (.int (0 : Int32)), (.ref a1)]) (lenOf pd_1 rfl) rfl (by show 2 * 0 + _ ≤ _; exact Nat.le_of_eq rfl) (hb hby d10_25) (fun _ _ => ⟨rfl, e144, (by decide : 1 + 0 ≤ _), (by decide : 16 + 0 ≤ _)⟩)
  dsimp only [Pt.U, Pt.locs, Pt.cells, Pt.slots] at X147 l147 y147 z147 st147 hQ147
  subst l147 y147 z147
  obtain ⟨rfl, N147q, e147⟩ := hQ147
  have N147 := Fr.app N0 N147q
  refine own_go st147 ?_
  show own_Run p e below _ T147 (mkF m 28 #[.val (.ref a1), .val (.int (16 : Int32)), .val (.ref b144)] [(.int (8 : Int32)), (.int (0 : Int32)), (.ref b144), (.int (0 : Int32)), (.ref a1)])
  obtain ⟨T148, h148, L148, X148, e148, N148, K148, V148, st148⟩ := cpA X147 hx hZ hown (W 64 rfl) (W 67 rfl) (W 65 rfl) (W 66 rfl) e147 (n0 := n0) V_a1_c145 V_b144 (us := [(.int x0), (.int x1), (.int x2), (.int x3), (.int x4), (.int x5), (.int x6), (.int x7)]) (Or.inl ⟨rfl, rfl⟩) (by decide) (by decide) (by decide) (by decide) (by decide) rfl (by decide) N147 g_b144 (g := (mkF m 28 #[.val (.ref a1), .val (.int (16 : Int32)), .val (.ref b144)] [(.int (8 : Int32)), (.int (0 : Int32)), (.ref b144), (.int (0 : Int32)), (.ref a1)])) rfl (by rw [hml]; rfl) rfl (hb hby d10_28) (by decide) (W := 0) (by show 2 * 0 + _ ≤ _; exact Nat.le_of_eq rfl) (by decide)
  refine own_go st148 ?_
  show own_Run p e below _ T148 (mkF m 31 #[.val (.ref a1), .val (.int (16 : Int32)), .val (.ref b144)] [])
  have Z0_c149 := Nat.le_trans Z0_c145 K148.1
  have K0_c149 := K0_c145.trans K148 (allS (Or.inr sz_b144) all0)
  have V_a1_c149 := V_a1_c145.keep K148 (ninS ne_a1_b144 nin0)
  have Vb148 : Arv Z h148 b144 k144 .int (16 : Int32) [(.int x0), (.int x1), (.int x2), (.int x3), (.int x4), (.int x5), (.int x6), (.int x7), (.int (0 : Int32)), (.int (0 : Int32)), (.int (0 : Int32)), (.int (0 : Int32)), (.int (0 : Int32)), (.int (0 : Int32)), (.int (0 : Int32)), (.int (0 : Int32))] (.int (0 : Int32)) := V148
  refine own_go (fun _ k => XS.aloadN X148.here hx rfl (hb hby d10_31) rfl rfl k) ?_
  show own_Run p e below _ T148 (mkF m 32 #[.val (.ref a1), .val (.int (16 : Int32)), .val (.ref b144)] [(.ref b144)])
  refine own_done (Q := fun v h L => Q10 Z a1 k0 x0 x1 x2 x3 x4 x5 x6 x7 h0 n0 v h L) (v := (some (.ref b144))) X148 (fun h => by rw [hret] at h; cases h) hlk (fun fs hr => own_retA X148 hx hret rfl rfl rfl (hb hby d10_32) hr) ?_ (by decide) (by decide)
  show Q10 Z a1 k0 x0 x1 x2 x3 x4 x5 x6 x7 h0 n0 _ T148.heap _
  rw [e148]
  exact ⟨b144, k144, rfl, N148, K0_c149, Vb148, sz_b144⟩
theorem d12_0 : decode jdk_65_method_124_code 0 = .ok (.iload_n 1, 1) := by decide +kernel
theorem d12_1 : decode jdk_65_method_124_code 1 = .ok (.aload_n 0, 1) := by decide +kernel
theorem d12_2 : decode jdk_65_method_124_code 2 = .ok (.arraylength, 1) := by decide +kernel
theorem d12_3 : decode jdk_65_method_124_code 3 = .ok (.if_icmp .ne 11, 3) := by decide +kernel
theorem d12_6 : decode jdk_65_method_124_code 6 = .ok (.aload_n 0, 1) := by decide +kernel
theorem d12_7 : decode jdk_65_method_124_code 7 = .ok (.invokevirtual 319, 3) := by decide +kernel
theorem d12_10 : decode jdk_65_method_124_code 10 = .ok (.checkcast 320, 3) := by decide +kernel
theorem d12_13 : decode jdk_65_method_124_code 13 = .ok (.areturn, 1) := by decide +kernel
theorem d12_14 : decode jdk_65_method_124_code 14 = .ok (.iload_n 1, 1) := by decide +kernel
theorem d12_15 : decode jdk_65_method_124_code 15 = .ok (.newarray .long, 2) := by decide +kernel
theorem d12_17 : decode jdk_65_method_124_code 17 = .ok (.astore_n 2, 1) := by decide +kernel
theorem d12_18 : decode jdk_65_method_124_code 18 = .ok (.aload_n 0, 1) := by decide +kernel
theorem d12_19 : decode jdk_65_method_124_code 19 = .ok (.iconst 0, 1) := by decide +kernel
theorem d12_20 : decode jdk_65_method_124_code 20 = .ok (.aload_n 2, 1) := by decide +kernel
theorem d12_21 : decode jdk_65_method_124_code 21 = .ok (.iconst 0, 1) := by decide +kernel
theorem d12_22 : decode jdk_65_method_124_code 22 = .ok (.aload_n 0, 1) := by decide +kernel
theorem d12_23 : decode jdk_65_method_124_code 23 = .ok (.arraylength, 1) := by decide +kernel
theorem d12_24 : decode jdk_65_method_124_code 24 = .ok (.iload_n 1, 1) := by decide +kernel
theorem d12_25 : decode jdk_65_method_124_code 25 = .ok (.invokestatic 304, 3) := by decide +kernel
theorem d12_28 : decode jdk_65_method_124_code 28 = .ok (.invokestatic 150, 3) := by decide +kernel
theorem d12_31 : decode jdk_65_method_124_code 31 = .ok (.aload_n 2, 1) := by decide +kernel
theorem d12_32 : decode jdk_65_method_124_code 32 = .ok (.areturn, 1) := by decide +kernel
theorem pn_12 : plainName "java/util/Arrays" = true := by first | (simp [plainName, overriddenIn]; done) | decide +kernel
theorem ef_12 (m : MethodId) (x0 : Addr) (x1 : Int32) : entryFrame m #[(.ref x0), (.int x1)] 3 = mkF m 0 #[.val (.ref x0), .val (.int x1), .unset] [] := by first | (simp [entryFrame, mkF, argsToLocals, Value.category]; done) | rfl
def Q12 (Z : State) (a1 : Addr) (k0 : ClassId) (t0 : Int64) (t1 : Int64) (t2 : Int64) (t3 : Int64) (t4 : Int64) (t5 : Int64) (t6 : Int64) (t7 : Int64) (h0 : Heap) (n0 : Nat) (v : Option Value) (h : Heap) (L : List Loc) : Prop := ∃ (b : Addr) (kb : ClassId), v = some (.ref b) ∧ Fr n0 L ∧ Keep h0 h [] ∧ Arv Z h b kb .long (16 : Int32) [(.long t0), (.long t1), (.long t2), (.long t3), (.long t4), (.long t5), (.long t6), (.long t7), (.long (0 : Int64)), (.long (0 : Int64)), (.long (0 : Int64)), (.long (0 : Int64)), (.long (0 : Int64)), (.long (0 : Int64)), (.long (0 : Int64)), (.long (0 : Int64))] (.long (0 : Int64)) ∧ h0.size ≤ b
set_option maxRecDepth 65536 in
set_option maxHeartbeats 40000000 in
theorem rm12 (l : Launch) (Z : State) (a0 : Array Value) (hw : ∀ d ∈ tables_1, d.before a0 Z = true) (ws : List Jvm.Cond) (a1 : Addr) (k0 : ClassId) (t0 : Int64) (t1 : Int64) (t2 : Int64) (t3 : Int64) (t4 : Int64) (t5 : Int64) (t6 : Int64) (t7 : Int64) (h0 : Heap) (n0 : Nat) (Z0 : n0 ≤ h0.size) (V_a1 : Arv Z h0 a1 k0 .long (8 : Int32) [(.long t0), (.long t1), (.long t2), (.long t3), (.long t4), (.long t5), (.long t6), (.long t7)] (.long (0 : Int64))) :
    MetFree l (⟨"java/util/Arrays", "copyOf", "([JI)[J"⟩ : MethodName) (head1 (Jvm.Cond.code (⟨"java/util/Arrays", "copyOf", "([JI)[J"⟩ : MethodName) jdk_65_method_124_code 3 (some (.array .long)) :: ws) ({ frames := 1, cells := 1, slots := 16, locals := 40 } : Room)) (fun a U => a = #[(.ref a1), (.int (16 : Int32))] ∧ Z.Warmed39 U.vm ∧ U.heap = h0) (fun _ _ _ _ _ => True) (fun _ U o U' => ∃ v L, o = .returned v ∧ Q12 Z a1 k0 t0 t1 t2 t3 t4 t5 t6 t7 h0 n0 v U'.heap L ∧ FrameEnd U o U' L ({ frames := 1, cells := 1, slots := 16, locals := 40 } : Room).cells ({ frames := 1, cells := 1, slots := 16, locals := 40 } : Room).slots) := by
  refine MetFree.of_bodySF (plainFor_of_name pn_12) hisR ?_
  intro p e s m args below meth c s₁ Bd hml0 hP hK
  obtain ⟨rfl, hZ, hh⟩ := hP
  have hx := Bd.exec
  have hby := Bd.bytes
  have hml : c.maxLocals = 3 := hml0
  have hown : s.vm.findClass "java/util/Arrays" = some m.cls := findClass_of_methodNamed Bd.named
  have hnm := (name_of_methodNamed Bd.named Bd.method).1
  have hret := Bd.returns
  have hlk : meth.locks = false := BodyLoose.notSynchronized Bd
  have X0 : Stand p l e ({ frames := 1, cells := 1, slots := 16, locals := 40 } : Room) s m #[(.ref a1), (.int (16 : Int32))] below meth c s₁ [] 0 0 := Stand.of_body Bd
  have e0 : s₁.heap = h0 := by rw [← hh, Bd.state]; rfl
  have N0 := Fr.nil n0
  have W := fun (k : Nat) {d : Jvm.Cond} (h : tables_1[k]? = some d) => hw d (List.mem_of_getElem? h)
  have K0 : Keep h0 h0 [] := Keep.refl _ _
  refine own_start (ef_12 m a1 (16 : Int32)) ?_
  show own_Run p e below _ s₁ (mkF m 0 #[.val (.ref a1), .val (.int (16 : Int32)), .unset] [])
  refine own_go (fun _ k => XS.iloadN X0.here hx rfl (hb hby d12_0) rfl k) ?_
  refine own_go (fun _ k => XS.aloadN X0.here hx rfl (hb hby d12_1) rfl rfl k) ?_
  show own_Run p e below _ s₁ (mkF m 2 #[.val (.ref a1), .val (.int (16 : Int32)), .unset] [(.ref a1), (.int (16 : Int32))])
  obtain ⟨cl150, Ar150, q150, S150, N150, H150, G150⟩ := id V_a1
  refine own_go (X0.arraylength hx (by rw [e0]; exact Ar150.1) (State.isArrayOf_alike hZ.alike Ar150.2.1) (g := (mkF m 2 #[.val (.ref a1), .val (.int (16 : Int32)), .unset] [(.ref a1), (.int (16 : Int32))])) rfl rfl (hb hby d12_2)) ?_
  rw [len_of S150 N150]
  show own_Run p e below _ s₁ (mkF m 3 #[.val (.ref a1), .val (.int (16 : Int32)), .unset] [(.int (8 : Int32)), (.int (16 : Int32))])
  refine own_go (fun _ k => XS.icmpYes X0.here hx rfl (pc0 := 3) (pc' := 14) rfl (hb hby d12_3) rfl (feq (by decide : ¬ ((16 : Int32) = (8 : Int32)))).2 (by decide) (by decide) k) ?_
  show own_Run p e below _ s₁ (mkF m 14 #[.val (.ref a1), .val (.int (16 : Int32)), .unset] [])
  refine own_go (fun _ k => XS.iloadN X0.here hx rfl (hb hby d12_14) rfl k) ?_
  show own_Run p e below _ s₁ (mkF m 15 #[.val (.ref a1), .val (.int (16 : Int32)), .unset] [(.int (16 : Int32))])
  obtain ⟨T151, h151, k151, X151, e151, E151, A151, st151⟩ := newP X0 hx hZ (W 1 rfl) e0 (g := (mkF m 15 #[.val (.ref a1), .val (.int (16 : Int32)), .unset] [(.int (16 : Int32))])) rfl (hb hby d12_15) rfl (by decide) (cap := 16) (by decide) (by decide) (by decide) (by decide)
  refine own_go st151 ?_
  obtain ⟨b151, g151⟩ : ∃ z, z = h0.size := ⟨_, rfl⟩
  rw [← g151] at A151
  rw [← g151]
  show own_Run p e below _ T151 (mkF m 17 #[.val (.ref a1), .val (.int (16 : Int32)), .unset] [(.ref b151)])
  have ne_a1_b151 : a1 ≠ b151 := Nat.ne_of_lt (Nat.lt_of_lt_of_eq V_a1.lt g151.symm)
  have g_b151 : n0 ≤ b151 := Nat.le_trans Z0 (Nat.le_of_eq g151.symm)
  have sz_b151 : h0.size ≤ b151 := Nat.le_trans K0.1 (Nat.le_of_eq g151.symm)
  have Z0_c152 := Nat.le_trans Z0 E151.1
  have K0_c152 := K0.ext E151
  have V_a1_c152 := V_a1.ext E151
  have V_b151 : Arv Z h151 b151 k151 .long (16 : Int32) [(.long (0 : Int64)), (.long (0 : Int64)), (.long (0 : Int64)), (.long (0 : Int64)), (.long (0 : Int64)), (.long (0 : Int64)), (.long (0 : Int64)), (.long (0 : Int64)), (.long (0 : Int64)), (.long (0 : Int64)), (.long (0 : Int64)), (.long (0 : Int64)), (.long (0 : Int64)), (.long (0 : Int64)), (.long (0 : Int64)), (.long (0 : Int64))] (.long (0 : Int64)) := (Arv.new A151 (by decide)).pad (pad_rep [] (.long (0 : Int64)) 16)
  refine own_go (fun _ k => XS.astoreN X151.here hx rfl (hb hby d12_17) rfl rfl (l' := #[.val (.ref a1), .val (.int (16 : Int32)), .val (.ref b151)]) rfl k) ?_
  refine own_go (fun _ k => XS.aloadN X151.here hx rfl (hb hby d12_18) rfl rfl k) ?_
  refine own_go (fun _ k => XS.iconst X151.here hx rfl (hb hby d12_19) k) ?_
  refine own_go (fun _ k => XS.aloadN X151.here hx rfl (hb hby d12_20) rfl rfl k) ?_
  show own_Run p e below _ T151 (mkF m 21 #[.val (.ref a1), .val (.int (16 : Int32)), .val (.ref b151)] [(.ref b151), (.int (0 : Int32)), (.ref a1)])
  refine own_go (fun _ k => XS.iconst X151.here hx rfl (hb hby d12_21) k) ?_
  refine own_go (fun _ k => XS.aloadN X151.here hx rfl (hb hby d12_22) rfl rfl k) ?_
  show own_Run p e below _ T151 (mkF m 23 #[.val (.ref a1), .val (.int (16 : Int32)), .val (.ref b151)] [(.ref a1), (.int (0 : Int32)), (.ref b151), (.int (0 : Int32)), (.ref a1)])
  obtain ⟨cl153, Ar153, q153, S153, N153, H153, G153⟩ := id V_a1_c152
  refine own_go (X151.arraylength hx (by rw [e151]; exact Ar153.1) (State.isArrayOf_alike hZ.alike Ar153.2.1) (g := (mkF m 23 #[.val (.ref a1), .val (.int (16 : Int32)), .val (.ref b151)] [(.ref a1), (.int (0 : Int32)), (.ref b151), (.int (0 : Int32)), (.ref a1)])) rfl rfl (hb hby d12_23)) ?_
  rw [len_of S153 N153]
  show own_Run p e below _ T151 (mkF m 24 #[.val (.ref a1), .val (.int (16 : Int32)), .val (.ref b151)] [(.int (8 : Int32)), (.int (0 : Int32)), (.ref b151), (.int (0 : Int32)), (.ref a1)])
  refine own_go (fun _ k => XS.iloadN X151.here hx rfl (hb hby d12_24) rfl k) ?_
  show own_Run p e below _ T151 (mkF m 25 #[.val (.ref a1), .val (.int (16 : Int32)), .val (.ref b151)] [(.int (16 : Int32)), (.int (8 : Int32)), (.int (0 : Int32)), (.ref b151), (.int (0 : Int32)), (.ref a1)])
  obtain ⟨_, _, ⟨T154, L154, k154, n154⟩, -, X154, ⟨Lc154, hQ154, l154, y154, z154⟩, st154⟩ := Jvm.LawKit.callS X151 hx (y := (⟨"java/lang/Math", "min", "(II)I"⟩ : MethodName)) hown (mvT hZ (W 61 rfl)) (mvT hZ (W 62 rfl)) (mvT hZ (W 54 rfl)) (mvT hZ (W 63 rfl)) (by decide) (backOf (W := 4) (rm11 l Z a0 hw [] (8 : Int32) (16 : Int32) h151 n0 Z0_c152 (by decide)) hZ (W 63 rfl) (W 54 rfl) (by decide) (by decide)) (g := (mkF m 25 #[.val (.ref a1), .val (.int (16 : Int32)), .val (.ref b151)] [(.int (16 : Int32)), (.int (8 : Int32)), (.int (0 : Int32)), (.ref b151), (.int (0 : Int32)), (.ref a1)])) rfl (by rw [hml]; rfl) (argsL := [(.int (8 : Int32)), (.int (16 : Int32))]) (rest := [(.int (0 : Int32)), (.ref b151), (.int (0 : Int32)), (.ref a1)]) (lenOf pd_1 rfl) rfl (by show 2 * 0 + _ ≤ _; exact Nat.le_of_eq rfl) (hb hby d12_25) (fun _ _ => ⟨rfl, e151, (by decide : 1 + 0 ≤ _), (by decide : 16 + 0 ≤ _)⟩)
  dsimp only [Pt.U, Pt.locs, Pt.cells, Pt.slots] at X154 l154 y154 z154 st154 hQ154
  subst l154 y154 z154
  obtain ⟨rfl, N154q, e154⟩ := hQ154
  have N154 := Fr.app N0 N154q
  refine own_go st154 ?_
  show own_Run p e below _ T154 (mkF m 28 #[.val (.ref a1), .val (.int (16 : Int32)), .val (.ref b151)] [(.int (8 : Int32)), (.int (0 : Int32)), (.ref b151), (.int (0 : Int32)), (.ref a1)])
  obtain ⟨T155, h155, L155, X155, e155, N155, K155, V155, st155⟩ := cpA X154 hx hZ hown (W 64 rfl) (W 67 rfl) (W 65 rfl) (W 66 rfl) e154 (n0 := n0) V_a1_c152 V_b151 (us := [(.long t0), (.long t1), (.long t2), (.long t3), (.long t4), (.long t5), (.long t6), (.long t7)]) (Or.inl ⟨rfl, rfl⟩) (by decide) (by decide) (by decide) (by decide) (by decide) rfl (by decide) N154 g_b151 (g := (mkF m 28 #[.val (.ref a1), .val (.int (16 : Int32)), .val (.ref b151)] [(.int (8 : Int32)), (.int (0 : Int32)), (.ref b151), (.int (0 : Int32)), (.ref a1)])) rfl (by rw [hml]; rfl) rfl (hb hby d12_28) (by decide) (W := 0) (by show 2 * 0 + _ ≤ _; exact Nat.le_of_eq rfl) (by decide)
  refine own_go st155 ?_
  show own_Run p e below _ T155 (mkF m 31 #[.val (.ref a1), .val (.int (16 : Int32)), .val (.ref b151)] [])
  have Z0_c156 := Nat.le_trans Z0_c152 K155.1
  have K0_c156 := K0_c152.trans K155 (allS (Or.inr sz_b151) all0)
  have V_a1_c156 := V_a1_c152.keep K155 (ninS ne_a1_b151 nin0)
  have Vb155 : Arv Z h155 b151 k151 .long (16 : Int32) [(.long t0), (.long t1), (.long t2), (.long t3), (.long t4), (.long t5), (.long t6), (.long t7), (.long (0 : Int64)), (.long (0 : Int64)), (.long (0 : Int64)), (.long (0 : Int64)), (.long (0 : Int64)), (.long (0 : Int64)), (.long (0 : Int64)), (.long (0 : Int64))] (.long (0 : Int64)) := V155
  refine own_go (fun _ k => XS.aloadN X155.here hx rfl (hb hby d12_31) rfl rfl k) ?_
  show own_Run p e below _ T155 (mkF m 32 #[.val (.ref a1), .val (.int (16 : Int32)), .val (.ref b151)] [(.ref b151)])
  refine own_done (Q := fun v h L => Q12 Z a1 k0 t0 t1 t2 t3 t4 t5 t6 t7 h0 n0 v h L) (v := (some (.ref b151))) X155 (fun h => by rw [hret] at h; cases h) hlk (fun fs hr => own_retA X155 hx hret rfl rfl rfl (hb hby d12_32) hr) ?_ (by decide) (by decide)
  show Q12 Z a1 k0 t0 t1 t2 t3 t4 t5 t6 t7 h0 n0 _ T155.heap _
  rw [e155]
  exact ⟨b151, k151, rfl, N155, K0_c156, Vb155, sz_b151⟩
theorem pd_2 : parseMethodDescriptor "([II)[I" = some ⟨[(.array .int), .int], some (.array .int)⟩ := by decide +kernel
theorem pd_3 : parseMethodDescriptor "([JI)[J" = some ⟨[(.array .long), .int], some (.array .long)⟩ := by decide +kernel
def Q3full (Z : State) (a1 : Addr) (p2 : Int32) (q3 : Int64) (b1 : Addr) (b2 : Addr) (k1 : ClassId) (k2 : ClassId) (x0 : Int32) (x1 : Int32) (x2 : Int32) (x3 : Int32) (x4 : Int32) (x5 : Int32) (x6 : Int32) (x7 : Int32) (t0 : Int64) (t1 : Int64) (t2 : Int64) (t3 : Int64) (t4 : Int64) (t5 : Int64) (t6 : Int64) (t7 : Int64) (h0 : Heap) (n0 : Nat) (v : Option Value) (h : Heap) (L : List Loc) : Prop := ∃ (d1 : Addr) (d2 : Addr) (m1 : ClassId) (m2 : ClassId), v = none ∧ Fr n0 L ∧ Keep h0 h [a1] ∧ Exa Z h a1 "com/example/net_reducer/netreducer/analysis/Marking" ∧ Fld Z h a1 "com/example/net_reducer/netreducer/analysis/Marking" "places" "[I" (.ref d1) ∧ Fld Z h a1 "com/example/net_reducer/netreducer/analysis/Marking" "tokens" "[J" (.ref d2) ∧ Fld Z h a1 "com/example/net_reducer/netreducer/analysis/Marking" "size" "I" (.int (9 : Int32)) ∧ Arv Z h d1 m1 .int (16 : Int32) [(.int x0), (.int x1), (.int x2), (.int x3), (.int x4), (.int x5), (.int x6), (.int x7), (.int p2), (.int (0 : Int32)), (.int (0 : Int32)), (.int (0 : Int32)), (.int (0 : Int32)), (.int (0 : Int32)), (.int (0 : Int32)), (.int (0 : Int32))] (.int (0 : Int32)) ∧ Arv Z h d2 m2 .long (16 : Int32) [(.long t0), (.long t1), (.long t2), (.long t3), (.long t4), (.long t5), (.long t6), (.long t7), (.long q3), (.long (0 : Int64)), (.long (0 : Int64)), (.long (0 : Int64)), (.long (0 : Int64)), (.long (0 : Int64)), (.long (0 : Int64)), (.long (0 : Int64))] (.long (0 : Int64)) ∧ h0.size ≤ d1 ∧ h0.size ≤ d2
set_option maxRecDepth 65536 in
set_option maxHeartbeats 40000000 in
theorem rm3full (l : Launch) (Z : State) (a0 : Array Value) (hw : ∀ d ∈ tables_1, d.before a0 Z = true) (ws : List Jvm.Cond) (a1 : Addr) (p2 : Int32) (q3 : Int64) (b1 : Addr) (b2 : Addr) (k1 : ClassId) (k2 : ClassId) (x0 : Int32) (x1 : Int32) (x2 : Int32) (x3 : Int32) (x4 : Int32) (x5 : Int32) (x6 : Int32) (x7 : Int32) (t0 : Int64) (t1 : Int64) (t2 : Int64) (t3 : Int64) (t4 : Int64) (t5 : Int64) (t6 : Int64) (t7 : Int64) (h0 : Heap) (n0 : Nat) (Z0 : n0 ≤ h0.size) (E_a1 : Exa Z h0 a1 "com/example/net_reducer/netreducer/analysis/Marking") (F_places_a1 : Fld Z h0 a1 "com/example/net_reducer/netreducer/analysis/Marking" "places" "[I" (.ref b1)) (F_tokens_a1 : Fld Z h0 a1 "com/example/net_reducer/netreducer/analysis/Marking" "tokens" "[J" (.ref b2)) (F_size_a1 : Fld Z h0 a1 "com/example/net_reducer/netreducer/analysis/Marking" "size" "I" (.int (8 : Int32))) (V_b1 : Arv Z h0 b1 k1 .int (8 : Int32) [(.int x0), (.int x1), (.int x2), (.int x3), (.int x4), (.int x5), (.int x6), (.int x7)] (.int (0 : Int32))) (V_b2 : Arv Z h0 b2 k2 .long (8 : Int32) [(.long t0), (.long t1), (.long t2), (.long t3), (.long t4), (.long t5), (.long t6), (.long t7)] (.long (0 : Int64))) (g_a1 : n0 ≤ a1) (g_b1 : n0 ≤ b1) (g_b2 : n0 ≤ b2) (ne_a1_b1 : a1 ≠ b1) (ne_a1_b2 : a1 ≠ b2) (ne_b1_b2 : b1 ≠ b2) :
    MetFree l (⟨"com/example/net_reducer/netreducer/analysis/Marking", "add", "(IJ)V"⟩ : MethodName) (head1 (Jvm.Cond.code (⟨"com/example/net_reducer/netreducer/analysis/Marking", "add", "(IJ)V"⟩ : MethodName) prog_10_method_7_code 4 none :: ws) ({ frames := 2, cells := 2, slots := 32, locals := 55 } : Room)) (fun a U => a = #[(.ref a1), (.int p2), (.long q3)] ∧ Z.Warmed39 U.vm ∧ U.heap = h0) (fun _ _ _ _ _ => True) (fun _ U o U' => ∃ v L, o = .returned v ∧ Q3full Z a1 p2 q3 b1 b2 k1 k2 x0 x1 x2 x3 x4 x5 x6 x7 t0 t1 t2 t3 t4 t5 t6 t7 h0 n0 v U'.heap L ∧ FrameEnd U o U' L ({ frames := 2, cells := 2, slots := 32, locals := 55 } : Room).cells ({ frames := 2, cells := 2, slots := 32, locals := 55 } : Room).slots) := by
  refine MetFree.of_bodySF (plainFor_of_name pn_3) hisR ?_
  intro p e s m args below meth c s₁ Bd hml0 hP hK
  obtain ⟨rfl, hZ, hh⟩ := hP
  have hx := Bd.exec
  have hby := Bd.bytes
  have hml : c.maxLocals = 4 := hml0
  have hown : s.vm.findClass "com/example/net_reducer/netreducer/analysis/Marking" = some m.cls := findClass_of_methodNamed Bd.named
  have hnm := (name_of_methodNamed Bd.named Bd.method).1
  have hret := Bd.returns
  have hlk : meth.locks = false := BodyLoose.notSynchronized Bd
  have X0 : Stand p l e ({ frames := 2, cells := 2, slots := 32, locals := 55 } : Room) s m #[(.ref a1), (.int p2), (.long q3)] below meth c s₁ [] 0 0 := Stand.of_body Bd
  have e0 : s₁.heap = h0 := by rw [← hh, Bd.state]; rfl
  have N0 := Fr.nil n0
  have W := fun (k : Nat) {d : Jvm.Cond} (h : tables_1[k]? = some d) => hw d (List.mem_of_getElem? h)
  have K0 : Keep h0 h0 [a1] := Keep.refl _ _
  refine own_start (ef_3 m a1 p2 q3) ?_
  show own_Run p e below _ s₁ (mkF m 0 #[.val (.ref a1), .val (.int p2), .val (.long q3), .second] [])
  refine own_go (fun _ k => XS.aloadN X0.here hx rfl (hb hby d3_0) rfl rfl k) ?_
  show own_Run p e below _ s₁ (mkF m 1 #[.val (.ref a1), .val (.int p2), .val (.long q3), .second] [(.ref a1)])
  obtain ⟨T157, X157, e157, st157⟩ := getF X0 hx hZ hown (host := "") (Or.inl (W 27 rfl)) Via.refl e0 F_size_a1 (g := (mkF m 1 #[.val (.ref a1), .val (.int p2), .val (.long q3), .second] [(.ref a1)])) rfl rfl (hb hby d3_1)
  refine own_go st157 ?_
  show own_Run p e below _ T157 (mkF m 4 #[.val (.ref a1), .val (.int p2), .val (.long q3), .second] [(.int (8 : Int32))])
  refine own_go (fun _ k => XS.aloadN X157.here hx rfl (hb hby d3_4) rfl rfl k) ?_
  show own_Run p e below _ T157 (mkF m 5 #[.val (.ref a1), .val (.int p2), .val (.long q3), .second] [(.ref a1), (.int (8 : Int32))])
  obtain ⟨T158, X158, e158, st158⟩ := getF X157 hx hZ hown (host := "") (Or.inl (W 18 rfl)) Via.refl e157 F_places_a1 (g := (mkF m 5 #[.val (.ref a1), .val (.int p2), .val (.long q3), .second] [(.ref a1), (.int (8 : Int32))])) rfl rfl (hb hby d3_5)
  refine own_go st158 ?_
  show own_Run p e below _ T158 (mkF m 8 #[.val (.ref a1), .val (.int p2), .val (.long q3), .second] [(.ref b1), (.int (8 : Int32))])
  obtain ⟨cl159, Ar159, q159, S159, N159, H159, G159⟩ := id V_b1
  refine own_go (X158.arraylength hx (by rw [e158]; exact Ar159.1) (State.isArrayOf_alike hZ.alike Ar159.2.1) (g := (mkF m 8 #[.val (.ref a1), .val (.int p2), .val (.long q3), .second] [(.ref b1), (.int (8 : Int32))])) rfl rfl (hb hby d3_8)) ?_
  rw [len_of S159 N159]
  show own_Run p e below _ T158 (mkF m 9 #[.val (.ref a1), .val (.int p2), .val (.long q3), .second] [(.int (8 : Int32)), (.int (8 : Int32))])
  refine own_go (fun _ k => XS.icmpNo X158.here hx rfl (hb hby d3_9) rfl (teq (by decide : (8 : Int32) = (8 : Int32))).2 k) ?_
  show own_Run p e below _ T158 (mkF m 12 #[.val (.ref a1), .val (.int p2), .val (.long q3), .second] [])
  refine own_go (fun _ k => XS.aloadN X158.here hx rfl (hb hby d3_12) rfl rfl k) ?_
  refine own_go (fun _ k => XS.aloadN X158.here hx rfl (hb hby d3_13) rfl rfl k) ?_
  show own_Run p e below _ T158 (mkF m 14 #[.val (.ref a1), .val (.int p2), .val (.long q3), .second] [(.ref a1), (.ref a1)])
  obtain ⟨T160, X160, e160, st160⟩ := getF X158 hx hZ hown (host := "") (Or.inl (W 18 rfl)) Via.refl e158 F_places_a1 (g := (mkF m 14 #[.val (.ref a1), .val (.int p2), .val (.long q3), .second] [(.ref a1), (.ref a1)])) rfl rfl (hb hby d3_14)
  refine own_go st160 ?_
  show own_Run p e below _ T160 (mkF m 17 #[.val (.ref a1), .val (.int p2), .val (.long q3), .second] [(.ref b1), (.ref a1)])
  refine own_go (fun _ k => XS.iconst X160.here hx rfl (hb hby d3_17) k) ?_
  refine own_go (fun _ k => XS.aloadN X160.here hx rfl (hb hby d3_18) rfl rfl k) ?_
  show own_Run p e below _ T160 (mkF m 19 #[.val (.ref a1), .val (.int p2), .val (.long q3), .second] [(.ref a1), (.int (2 : Int32)), (.ref b1), (.ref a1)])
  obtain ⟨T161, X161, e161, st161⟩ := getF X160 hx hZ hown (host := "") (Or.inl (W 27 rfl)) Via.refl e160 F_size_a1 (g := (mkF m 19 #[.val (.ref a1), .val (.int p2), .val (.long q3), .second] [(.ref a1), (.int (2 : Int32)), (.ref b1), (.ref a1)])) rfl rfl (hb hby d3_19)
  refine own_go st161 ?_
  show own_Run p e below _ T161 (mkF m 22 #[.val (.ref a1), .val (.int p2), .val (.long q3), .second] [(.int (8 : Int32)), (.int (2 : Int32)), (.ref b1), (.ref a1)])
  refine own_go (fun _ k => XS.imul X161.here hx rfl (hb hby d3_22) rfl k) ?_
  show own_Run p e below _ T161 (mkF m 23 #[.val (.ref a1), .val (.int p2), .val (.long q3), .second] [(.int ((2 : Int32) * (8 : Int32))), (.ref b1), (.ref a1)])
  rw [show ((2 : Int32) * (8 : Int32)) = (16 : Int32) by decide]
  show own_Run p e below _ T161 (mkF m 23 #[.val (.ref a1), .val (.int p2), .val (.long q3), .second] [(.int (16 : Int32)), (.ref b1), (.ref a1)])
  obtain ⟨_, _, ⟨T162, L162, k162, n162⟩, -, X162, ⟨Lc162, hQ162, l162, y162, z162⟩, st162⟩ := Jvm.LawKit.callS X161 hx (y := (⟨"java/util/Arrays", "copyOf", "([II)[I"⟩ : MethodName)) hown (mvT hZ (W 57 rfl)) (mvT hZ (W 58 rfl)) (mvT hZ (W 59 rfl)) (mvT hZ (W 60 rfl)) (by decide) (backOf (W := 1) (rm10 l Z a0 hw [] b1 k1 x0 x1 x2 x3 x4 x5 x6 x7 h0 n0 Z0 V_b1) hZ (W 60 rfl) (W 59 rfl) (by decide) (by decide)) (g := (mkF m 23 #[.val (.ref a1), .val (.int p2), .val (.long q3), .second] [(.int (16 : Int32)), (.ref b1), (.ref a1)])) rfl (by rw [hml]; rfl) (argsL := [(.ref b1), (.int (16 : Int32))]) (rest := [(.ref a1)]) (lenOf pd_2 rfl) rfl (by show 2 * 0 + _ ≤ _; exact Nat.le_of_eq rfl) (hb hby d3_23) (fun _ _ => ⟨rfl, e161, (by decide : 0 + 1 ≤ _), (by decide : 0 + 16 ≤ _)⟩)
  dsimp only [Pt.U, Pt.locs, Pt.cells, Pt.slots] at X162 l162 y162 z162 st162 hQ162
  subst l162 y162 z162
  obtain ⟨b_162, kb_162, rfl, N162q, K162, P162_0, P162_1⟩ := hQ162
  have ne_a1_b_162 : a1 ≠ b_162 := Nat.ne_of_lt (Nat.lt_of_lt_of_le E_a1.lt P162_1)
  have ne_b1_b_162 : b1 ≠ b_162 := Nat.ne_of_lt (Nat.lt_of_lt_of_le V_b1.lt P162_1)
  have ne_b2_b_162 : b2 ≠ b_162 := Nat.ne_of_lt (Nat.lt_of_lt_of_le V_b2.lt P162_1)
  have g_b_162 : n0 ≤ b_162 := Nat.le_trans Z0 P162_1
  have sz_b_162 : h0.size ≤ b_162 := Nat.le_trans K0.1 P162_1
  have N162 := Fr.app N0 N162q
  refine own_go st162 ?_
  show own_Run p e below _ T162 (mkF m 26 #[.val (.ref a1), .val (.int p2), .val (.long q3), .second] [(.ref b_162), (.ref a1)])
  have Z0_c163 := Nat.le_trans Z0 K162.1
  have K0_c163 := K0.trans K162 all0
  have E_a1_c163 := E_a1.keep K162
  have F_places_a1_c163 := F_places_a1.keep K162 nin0
  have F_tokens_a1_c163 := F_tokens_a1.keep K162 nin0
  have F_size_a1_c163 := F_size_a1.keep K162 nin0
  have V_b1_c163 := V_b1.keep K162 nin0
  have V_b2_c163 := V_b2.keep K162 nin0
  obtain ⟨T164, h164, X164, e164, W164, st164⟩ := putF X162 hx hZ hown (host := "") (Or.inl (W 18 rfl)) Via.refl rfl F_places_a1_c163 E_a1_c163 (Or.inl (W 19 rfl)) (W 10 rfl) (ty := (.array .int)) (by decide) rfl rfl (g := (mkF m 26 #[.val (.ref a1), .val (.int p2), .val (.long q3), .second] [(.ref b_162), (.ref a1)])) rfl rfl (hb hby d3_26)
  refine own_go st164 ?_
  show own_Run p e below _ T164 (mkF m 29 #[.val (.ref a1), .val (.int p2), .val (.long q3), .second] [])
  have Z0_c165 := Nat.le_trans Z0_c163 (Keep.of_wr W164).1
  have K0_c165 := K0_c163.wr W164 (Or.inl (List.mem_of_getElem? (i := 0) rfl))
  have E_a1_c165 := E_a1_c163.wr W164
  have F_tokens_a1_c165 := F_tokens_a1_c163.other W164 (Or.inr (slot_ne (Or.inl (W 21 rfl)) (Or.inl (W 19 rfl)) (by decide) (t := (.array .long)) (t' := (.array .int)) (by decide) (by decide)))
  have F_size_a1_c165 := F_size_a1_c163.other W164 (Or.inr (slot_ne (Or.inl (W 28 rfl)) (Or.inl (W 19 rfl)) (by decide) (t := .int) (t' := (.array .int)) (by decide) (by decide)))
  have V_b1_c165 := V_b1_c163.other W164 (Ne.symm ne_a1_b1)
  have V_b2_c165 := V_b2_c163.other W164 (Ne.symm ne_a1_b2)
  have P162_0_c165 := P162_0.other W164 (Ne.symm ne_a1_b_162)
  have F_places_a1_c164 : Fld Z h164 a1 "com/example/net_reducer/netreducer/analysis/Marking" "places" "[I" (.ref b_162) := F_places_a1_c163.same W164
  have N164 := Fr.snoc X164 N162 g_a1
  refine own_go (fun _ k => XS.aloadN X164.here hx rfl (hb hby d3_29) rfl rfl k) ?_
  refine own_go (fun _ k => XS.aloadN X164.here hx rfl (hb hby d3_30) rfl rfl k) ?_
  show own_Run p e below _ T164 (mkF m 31 #[.val (.ref a1), .val (.int p2), .val (.long q3), .second] [(.ref a1), (.ref a1)])
  obtain ⟨T166, X166, e166, st166⟩ := getF X164 hx hZ hown (host := "") (Or.inl (W 20 rfl)) Via.refl e164 F_tokens_a1_c165 (g := (mkF m 31 #[.val (.ref a1), .val (.int p2), .val (.long q3), .second] [(.ref a1), (.ref a1)])) rfl rfl (hb hby d3_31)
  refine own_go st166 ?_
  show own_Run p e below _ T166 (mkF m 34 #[.val (.ref a1), .val (.int p2), .val (.long q3), .second] [(.ref b2), (.ref a1)])
  refine own_go (fun _ k => XS.iconst X166.here hx rfl (hb hby d3_34) k) ?_
  refine own_go (fun _ k => XS.aloadN X166.here hx rfl (hb hby d3_35) rfl rfl k) ?_
  show own_Run p e below _ T166 (mkF m 36 #[.val (.ref a1), .val (.int p2), .val (.long q3), .second] [(.ref a1), (.int (2 : Int32)), (.ref b2), (.ref a1)])
  obtain ⟨T167, X167, e167, st167⟩ := getF X166 hx hZ hown (host := "") (Or.inl (W 27 rfl)) Via.refl e166 F_size_a1_c165 (g := (mkF m 36 #[.val (.ref a1), .val (.int p2), .val (.long q3), .second] [(.ref a1), (.int (2 : Int32)), (.ref b2), (.ref a1)])) rfl rfl (hb hby d3_36)
  refine own_go st167 ?_
  show own_Run p e below _ T167 (mkF m 39 #[.val (.ref a1), .val (.int p2), .val (.long q3), .second] [(.int (8 : Int32)), (.int (2 : Int32)), (.ref b2), (.ref a1)])
  refine own_go (fun _ k => XS.imul X167.here hx rfl (hb hby d3_39) rfl k) ?_
  show own_Run p e below _ T167 (mkF m 40 #[.val (.ref a1), .val (.int p2), .val (.long q3), .second] [(.int ((2 : Int32) * (8 : Int32))), (.ref b2), (.ref a1)])
  rw [show ((2 : Int32) * (8 : Int32)) = (16 : Int32) by decide]
  show own_Run p e below _ T167 (mkF m 40 #[.val (.ref a1), .val (.int p2), .val (.long q3), .second] [(.int (16 : Int32)), (.ref b2), (.ref a1)])
  obtain ⟨_, _, ⟨T168, L168, k168, n168⟩, -, X168, ⟨Lc168, hQ168, l168, y168, z168⟩, st168⟩ := Jvm.LawKit.callS X167 hx (y := (⟨"java/util/Arrays", "copyOf", "([JI)[J"⟩ : MethodName)) hown (mvT hZ (W 68 rfl)) (mvT hZ (W 69 rfl)) (mvT hZ (W 59 rfl)) (mvT hZ (W 70 rfl)) (by decide) (backOf (W := 1) (rm12 l Z a0 hw [] b2 k2 t0 t1 t2 t3 t4 t5 t6 t7 h164 n0 Z0_c165 V_b2_c165) hZ (W 70 rfl) (W 59 rfl) (by decide) (by decide)) (g := (mkF m 40 #[.val (.ref a1), .val (.int p2), .val (.long q3), .second] [(.int (16 : Int32)), (.ref b2), (.ref a1)])) rfl (by rw [hml]; rfl) (argsL := [(.ref b2), (.int (16 : Int32))]) (rest := [(.ref a1)]) (lenOf pd_3 rfl) rfl (by show 2 * 0 + _ ≤ _; exact Nat.le_of_eq rfl) (hb hby d3_40) (fun _ _ => ⟨rfl, e167, (by decide : 1 + 1 ≤ _), (by decide : 16 + 16 ≤ _)⟩)
  dsimp only [Pt.U, Pt.locs, Pt.cells, Pt.slots] at X168 l168 y168 z168 st168 hQ168
  subst l168 y168 z168
  obtain ⟨b_168, kb_168, rfl, N168q, K168, P168_0, P168_1⟩ := hQ168
  have ne_a1_b_168 : a1 ≠ b_168 := Nat.ne_of_lt (Nat.lt_of_lt_of_le E_a1_c165.lt P168_1)
  have ne_b1_b_168 : b1 ≠ b_168 := Nat.ne_of_lt (Nat.lt_of_lt_of_le V_b1_c165.lt P168_1)
  have ne_b2_b_168 : b2 ≠ b_168 := Nat.ne_of_lt (Nat.lt_of_lt_of_le V_b2_c165.lt P168_1)
  have ne_b_162_b_168 : b_162 ≠ b_168 := Nat.ne_of_lt (Nat.lt_of_lt_of_le P162_0_c165.lt P168_1)
  have g_b_168 : n0 ≤ b_168 := Nat.le_trans Z0_c165 P168_1
  have sz_b_168 : h0.size ≤ b_168 := Nat.le_trans K0_c165.1 P168_1
  have N168 := Fr.app N164 N168q
  refine own_go st168 ?_
  show own_Run p e below _ T168 (mkF m 43 #[.val (.ref a1), .val (.int p2), .val (.long q3), .second] [(.ref b_168), (.ref a1)])
  have Z0_c169 := Nat.le_trans Z0_c165 K168.1
  have K0_c169 := K0_c165.trans K168 all0
  have E_a1_c169 := E_a1_c165.keep K168
  have F_tokens_a1_c169 := F_tokens_a1_c165.keep K168 nin0
  have F_size_a1_c169 := F_size_a1_c165.keep K168 nin0
  have V_b1_c169 := V_b1_c165.keep K168 nin0
  have V_b2_c169 := V_b2_c165.keep K168 nin0
  have P162_0_c169 := P162_0_c165.keep K168 nin0
  have F_places_a1_c169 := F_places_a1_c164.keep K168 nin0
  obtain ⟨T170, h170, X170, e170, W170, st170⟩ := putF X168 hx hZ hown (host := "") (Or.inl (W 20 rfl)) Via.refl rfl F_tokens_a1_c169 E_a1_c169 (Or.inl (W 21 rfl)) (W 10 rfl) (ty := (.array .long)) (by decide) rfl rfl (g := (mkF m 43 #[.val (.ref a1), .val (.int p2), .val (.long q3), .second] [(.ref b_168), (.ref a1)])) rfl rfl (hb hby d3_43)
  refine own_go st170 ?_
  show own_Run p e below _ T170 (mkF m 46 #[.val (.ref a1), .val (.int p2), .val (.long q3), .second] [])
  have Z0_c171 := Nat.le_trans Z0_c169 (Keep.of_wr W170).1
  have K0_c171 := K0_c169.wr W170 (Or.inl (List.mem_of_getElem? (i := 0) rfl))
  have E_a1_c171 := E_a1_c169.wr W170
  have F_size_a1_c171 := F_size_a1_c169.other W170 (Or.inr (slot_ne (Or.inl (W 28 rfl)) (Or.inl (W 21 rfl)) (by decide) (t := .int) (t' := (.array .long)) (by decide) (by decide)))
  have V_b1_c171 := V_b1_c169.other W170 (Ne.symm ne_a1_b1)
  have V_b2_c171 := V_b2_c169.other W170 (Ne.symm ne_a1_b2)
  have P162_0_c171 := P162_0_c169.other W170 (Ne.symm ne_a1_b_162)
  have F_places_a1_c171 := F_places_a1_c169.other W170 (Or.inr (slot_ne (Or.inl (W 19 rfl)) (Or.inl (W 21 rfl)) (by decide) (t := (.array .int)) (t' := (.array .long)) (by decide) (by decide)))
  have P168_0_c171 := P168_0.other W170 (Ne.symm ne_a1_b_168)
  have F_tokens_a1_c170 : Fld Z h170 a1 "com/example/net_reducer/netreducer/analysis/Marking" "tokens" "[J" (.ref b_168) := F_tokens_a1_c169.same W170
  have N170 := Fr.snoc X170 N168 g_a1
  refine own_go (fun _ k => XS.aloadN X170.here hx rfl (hb hby d3_46) rfl rfl k) ?_
  show own_Run p e below _ T170 (mkF m 47 #[.val (.ref a1), .val (.int p2), .val (.long q3), .second] [(.ref a1)])
  obtain ⟨T172, X172, e172, st172⟩ := getF X170 hx hZ hown (host := "") (Or.inl (W 18 rfl)) Via.refl e170 F_places_a1_c171 (g := (mkF m 47 #[.val (.ref a1), .val (.int p2), .val (.long q3), .second] [(.ref a1)])) rfl rfl (hb hby d3_47)
  refine own_go st172 ?_
  show own_Run p e below _ T172 (mkF m 50 #[.val (.ref a1), .val (.int p2), .val (.long q3), .second] [(.ref b_162)])
  refine own_go (fun _ k => XS.aloadN X172.here hx rfl (hb hby d3_50) rfl rfl k) ?_
  show own_Run p e below _ T172 (mkF m 51 #[.val (.ref a1), .val (.int p2), .val (.long q3), .second] [(.ref a1), (.ref b_162)])
  obtain ⟨T173, X173, e173, st173⟩ := getF X172 hx hZ hown (host := "") (Or.inl (W 27 rfl)) Via.refl e172 F_size_a1_c171 (g := (mkF m 51 #[.val (.ref a1), .val (.int p2), .val (.long q3), .second] [(.ref a1), (.ref b_162)])) rfl rfl (hb hby d3_51)
  refine own_go st173 ?_
  show own_Run p e below _ T173 (mkF m 54 #[.val (.ref a1), .val (.int p2), .val (.long q3), .second] [(.int (8 : Int32)), (.ref b_162)])
  refine own_go (fun _ k => XS.iloadN X173.here hx rfl (hb hby d3_54) rfl k) ?_
  show own_Run p e below _ T173 (mkF m 55 #[.val (.ref a1), .val (.int p2), .val (.long q3), .second] [(.int p2), (.int (8 : Int32)), (.ref b_162)])
  obtain ⟨cl174, Ar174, q174, S174, N174, H174, G174⟩ := id P162_0_c171
  have hin174 : ¬ ((8 : Int32) < 0 ∨ cl174.slots.size ≤ ((8 : Int32)).toNatClampNeg) := inb_of S174 ⟨by decide, by decide⟩
  obtain ⟨T175, h175, X175, e175, W175, st175⟩ := stI X173 hx hZ e173 Ar174 (j := (8 : Int32)) hin174 (g := (mkF m 55 #[.val (.ref a1), .val (.int p2), .val (.long q3), .second] [(.int p2), (.int (8 : Int32)), (.ref b_162)])) rfl rfl (hb hby d3_55)
  refine own_go st175 ?_
  show own_Run p e below _ T175 (mkF m 56 #[.val (.ref a1), .val (.int p2), .val (.long q3), .second] [])
  have Z0_c176 := Nat.le_trans Z0_c171 (Keep.of_wr W175).1
  have K0_c176 := K0_c171.wr W175 (Or.inr sz_b_162)
  have E_a1_c176 := E_a1_c171.wr W175
  have F_size_a1_c176 := F_size_a1_c171.other W175 (Or.inl ne_a1_b_162)
  have V_b1_c176 := V_b1_c171.other W175 ne_b1_b_162
  have V_b2_c176 := V_b2_c171.other W175 ne_b2_b_162
  have F_places_a1_c176 := F_places_a1_c171.other W175 (Or.inl ne_a1_b_162)
  have P168_0_c176 := P168_0_c171.other W175 (Ne.symm ne_b_162_b_168)
  have F_tokens_a1_c176 := F_tokens_a1_c170.other W175 (Or.inl ne_a1_b_162)
  have V_b_162_c175 : Arv Z h175 b_162 kb_162 .int (16 : Int32) [(.int x0), (.int x1), (.int x2), (.int x3), (.int x4), (.int x5), (.int x6), (.int x7), (.int p2), (.int (0 : Int32)), (.int (0 : Int32)), (.int (0 : Int32)), (.int (0 : Int32)), (.int (0 : Int32)), (.int (0 : Int32)), (.int (0 : Int32))] (.int (0 : Int32)) := Arv.set Ar174 q174 S174 N174 H174 G174 rfl W175 8 rfl (Nat.le_of_ble_eq_true rfl)
  have N175 := Fr.snoc X175 N170 g_b_162
  refine own_go (fun _ k => XS.aloadN X175.here hx rfl (hb hby d3_56) rfl rfl k) ?_
  show own_Run p e below _ T175 (mkF m 57 #[.val (.ref a1), .val (.int p2), .val (.long q3), .second] [(.ref a1)])
  obtain ⟨T177, X177, e177, st177⟩ := getF X175 hx hZ hown (host := "") (Or.inl (W 20 rfl)) Via.refl e175 F_tokens_a1_c176 (g := (mkF m 57 #[.val (.ref a1), .val (.int p2), .val (.long q3), .second] [(.ref a1)])) rfl rfl (hb hby d3_57)
  refine own_go st177 ?_
  show own_Run p e below _ T177 (mkF m 60 #[.val (.ref a1), .val (.int p2), .val (.long q3), .second] [(.ref b_168)])
  refine own_go (fun _ k => XS.aloadN X177.here hx rfl (hb hby d3_60) rfl rfl k) ?_
  show own_Run p e below _ T177 (mkF m 61 #[.val (.ref a1), .val (.int p2), .val (.long q3), .second] [(.ref a1), (.ref b_168)])
  obtain ⟨T178, X178, e178, st178⟩ := getF X177 hx hZ hown (host := "") (Or.inl (W 27 rfl)) Via.refl e177 F_size_a1_c176 (g := (mkF m 61 #[.val (.ref a1), .val (.int p2), .val (.long q3), .second] [(.ref a1), (.ref b_168)])) rfl rfl (hb hby d3_61)
  refine own_go st178 ?_
  show own_Run p e below _ T178 (mkF m 64 #[.val (.ref a1), .val (.int p2), .val (.long q3), .second] [(.int (8 : Int32)), (.ref b_168)])
  refine own_go (fun _ k => XS.lloadN X178.here hx rfl (hb hby d3_64) rfl k) ?_
  show own_Run p e below _ T178 (mkF m 65 #[.val (.ref a1), .val (.int p2), .val (.long q3), .second] [(.long q3), (.int (8 : Int32)), (.ref b_168)])
  obtain ⟨cl179, Ar179, q179, S179, N179, H179, G179⟩ := id P168_0_c176
  have hin179 : ¬ ((8 : Int32) < 0 ∨ cl179.slots.size ≤ ((8 : Int32)).toNatClampNeg) := inb_of S179 ⟨by decide, by decide⟩
  obtain ⟨T180, h180, X180, e180, W180, st180⟩ := stJ X178 hx hZ e178 Ar179 (j := (8 : Int32)) hin179 (g := (mkF m 65 #[.val (.ref a1), .val (.int p2), .val (.long q3), .second] [(.long q3), (.int (8 : Int32)), (.ref b_168)])) rfl rfl (hb hby d3_65)
  refine own_go st180 ?_
  show own_Run p e below _ T180 (mkF m 66 #[.val (.ref a1), .val (.int p2), .val (.long q3), .second] [])
  have Z0_c181 := Nat.le_trans Z0_c176 (Keep.of_wr W180).1
  have K0_c181 := K0_c176.wr W180 (Or.inr sz_b_168)
  have E_a1_c181 := E_a1_c176.wr W180
  have F_size_a1_c181 := F_size_a1_c176.other W180 (Or.inl ne_a1_b_168)
  have V_b1_c181 := V_b1_c176.other W180 ne_b1_b_168
  have V_b2_c181 := V_b2_c176.other W180 ne_b2_b_168
  have F_places_a1_c181 := F_places_a1_c176.other W180 (Or.inl ne_a1_b_168)
  have F_tokens_a1_c181 := F_tokens_a1_c176.other W180 (Or.inl ne_a1_b_168)
  have V_b_162_c181 := V_b_162_c175.other W180 ne_b_162_b_168
  have V_b_168_c180 : Arv Z h180 b_168 kb_168 .long (16 : Int32) [(.long t0), (.long t1), (.long t2), (.long t3), (.long t4), (.long t5), (.long t6), (.long t7), (.long q3), (.long (0 : Int64)), (.long (0 : Int64)), (.long (0 : Int64)), (.long (0 : Int64)), (.long (0 : Int64)), (.long (0 : Int64)), (.long (0 : Int64))] (.long (0 : Int64)) := Arv.set Ar179 q179 S179 N179 H179 G179 rfl W180 8 rfl (Nat.le_of_ble_eq_true rfl)
  have N180 := Fr.snoc X180 N175 g_b_168
  refine own_go (fun _ k => XS.aloadN X180.here hx rfl (hb hby d3_66) rfl rfl k) ?_
  refine own_go (fun _ k => XS.dup X180.here hx rfl (hb hby d3_67) rfl rfl k) ?_
  show own_Run p e below _ T180 (mkF m 68 #[.val (.ref a1), .val (.int p2), .val (.long q3), .second] [(.ref a1), (.ref a1)])
  obtain ⟨T182, X182, e182, st182⟩ := getF X180 hx hZ hown (host := "") (Or.inl (W 27 rfl)) Via.refl e180 F_size_a1_c181 (g := (mkF m 68 #[.val (.ref a1), .val (.int p2), .val (.long q3), .second] [(.ref a1), (.ref a1)])) rfl rfl (hb hby d3_68)
  refine own_go st182 ?_
  show own_Run p e below _ T182 (mkF m 71 #[.val (.ref a1), .val (.int p2), .val (.long q3), .second] [(.int (8 : Int32)), (.ref a1)])
  refine own_go (fun _ k => XS.iconst X182.here hx rfl (hb hby d3_71) k) ?_
  refine own_go (fun _ k => XS.iadd X182.here hx rfl (hb hby d3_72) rfl k) ?_
  show own_Run p e below _ T182 (mkF m 73 #[.val (.ref a1), .val (.int p2), .val (.long q3), .second] [(.int ((8 : Int32) + (1 : Int32))), (.ref a1)])
  rw [show ((8 : Int32) + (1 : Int32)) = (9 : Int32) by decide]
  show own_Run p e below _ T182 (mkF m 73 #[.val (.ref a1), .val (.int p2), .val (.long q3), .second] [(.int (9 : Int32)), (.ref a1)])
  obtain ⟨T183, h183, X183, e183, W183, st183⟩ := putF X182 hx hZ hown (host := "") (Or.inl (W 27 rfl)) Via.refl e182 F_size_a1_c181 E_a1_c181 (Or.inl (W 28 rfl)) (W 10 rfl) (ty := .int) (by decide) rfl rfl (g := (mkF m 73 #[.val (.ref a1), .val (.int p2), .val (.long q3), .second] [(.int (9 : Int32)), (.ref a1)])) rfl rfl (hb hby d3_73)
  refine own_go st183 ?_
  show own_Run p e below _ T183 (mkF m 76 #[.val (.ref a1), .val (.int p2), .val (.long q3), .second] [])
  have Z0_c184 := Nat.le_trans Z0_c181 (Keep.of_wr W183).1
  have K0_c184 := K0_c181.wr W183 (Or.inl (List.mem_of_getElem? (i := 0) rfl))
  have E_a1_c184 := E_a1_c181.wr W183
  have V_b1_c184 := V_b1_c181.other W183 (Ne.symm ne_a1_b1)
  have V_b2_c184 := V_b2_c181.other W183 (Ne.symm ne_a1_b2)
  have F_places_a1_c184 := F_places_a1_c181.other W183 (Or.inr (slot_ne (Or.inl (W 19 rfl)) (Or.inl (W 28 rfl)) (by decide) (t := (.array .int)) (t' := .int) (by decide) (by decide)))
  have F_tokens_a1_c184 := F_tokens_a1_c181.other W183 (Or.inr (slot_ne (Or.inl (W 21 rfl)) (Or.inl (W 28 rfl)) (by decide) (t := (.array .long)) (t' := .int) (by decide) (by decide)))
  have V_b_162_c184 := V_b_162_c181.other W183 (Ne.symm ne_a1_b_162)
  have V_b_168_c184 := V_b_168_c180.other W183 (Ne.symm ne_a1_b_168)
  have F_size_a1_c183 : Fld Z h183 a1 "com/example/net_reducer/netreducer/analysis/Marking" "size" "I" (.int (9 : Int32)) := F_size_a1_c181.same W183
  have N183 := Fr.snoc X183 N180 g_a1
  refine own_done (Q := fun v h L => Q3full Z a1 p2 q3 b1 b2 k1 k2 x0 x1 x2 x3 x4 x5 x6 x7 t0 t1 t2 t3 t4 t5 t6 t7 h0 n0 v h L) (v := none) X183 (fun _ => rfl) hlk (fun fs hr => X183.returnOut hx hret (hb hby d3_76) hr) ?_ (by decide) (by decide)
  show Q3full Z a1 p2 q3 b1 b2 k1 k2 x0 x1 x2 x3 x4 x5 x6 x7 t0 t1 t2 t3 t4 t5 t6 t7 h0 n0 _ T183.heap _
  rw [e183]
  exact ⟨b_162, b_168, kb_162, kb_168, rfl, N183, K0_c184, E_a1_c184, F_places_a1_c184, F_tokens_a1_c184, F_size_a1_c183, V_b_162_c184, V_b_168_c184, sz_b_162, sz_b_168⟩
theorem d8_0 : decode prog_10_method_6_code 0 = .ok (.aload_n 0, 1) := by decide +kernel
theorem d8_1 : decode prog_10_method_6_code 1 = .ok (.iconst 0, 1) := by decide +kernel
theorem d8_2 : decode prog_10_method_6_code 2 = .ok (.putfield 17, 3) := by decide +kernel
theorem d8_5 : decode prog_10_method_6_code 5 = .ok (.return_, 1) := by decide +kernel
theorem pn_8 : plainName "com/example/net_reducer/netreducer/analysis/Marking" = true := by first | (simp [plainName, overriddenIn]; done) | decide +kernel
theorem ef_8 (m : MethodId) (x0 : Addr) : entryFrame m #[(.ref x0)] 1 = mkF m 0 #[.val (.ref x0)] [] := by first | (simp [entryFrame, mkF, argsToLocals, Value.category]; done) | rfl
def Q8 (Z : State) (a1 : Addr) (b1 : Addr) (b2 : Addr) (w1 : Int32) (h0 : Heap) (n0 : Nat) (v : Option Value) (h : Heap) (L : List Loc) : Prop := v = none ∧ Fr n0 L ∧ Keep h0 h [a1] ∧ Exa Z h a1 "com/example/net_reducer/netreducer/analysis/Marking" ∧ Fld Z h a1 "com/example/net_reducer/netreducer/analysis/Marking" "places" "[I" (.ref b1) ∧ Fld Z h a1 "com/example/net_reducer/netreducer/analysis/Marking" "tokens" "[J" (.ref b2) ∧ Fld Z h a1 "com/example/net_reducer/netreducer/analysis/Marking" "size" "I" (.int (0 : Int32))
set_option maxRecDepth 65536 in
set_option maxHeartbeats 40000000 in
theorem rm8 (l : Launch) (Z : State) (a0 : Array Value) (hw : ∀ d ∈ tables_1, d.before a0 Z = true) (ws : List Jvm.Cond) (a1 : Addr) (b1 : Addr) (b2 : Addr) (w1 : Int32) (h0 : Heap) (n0 : Nat) (Z0 : n0 ≤ h0.size) (E_a1 : Exa Z h0 a1 "com/example/net_reducer/netreducer/analysis/Marking") (F_places_a1 : Fld Z h0 a1 "com/example/net_reducer/netreducer/analysis/Marking" "places" "[I" (.ref b1)) (F_tokens_a1 : Fld Z h0 a1 "com/example/net_reducer/netreducer/analysis/Marking" "tokens" "[J" (.ref b2)) (F_size_a1 : Fld Z h0 a1 "com/example/net_reducer/netreducer/analysis/Marking" "size" "I" (.int w1)) (g_a1 : n0 ≤ a1) :
    MetFree l (⟨"com/example/net_reducer/netreducer/analysis/Marking", "clear", "()V"⟩ : MethodName) (head1 (Jvm.Cond.code (⟨"com/example/net_reducer/netreducer/analysis/Marking", "clear", "()V"⟩ : MethodName) prog_10_method_6_code 1 none :: ws) ({ frames := 0, cells := 0, slots := 0, locals := 0 } : Room)) (fun a U => a = #[(.ref a1)] ∧ Z.Warmed39 U.vm ∧ U.heap = h0) (fun _ _ _ _ _ => True) (fun _ U o U' => ∃ v L, o = .returned v ∧ Q8 Z a1 b1 b2 w1 h0 n0 v U'.heap L ∧ FrameEnd U o U' L ({ frames := 0, cells := 0, slots := 0, locals := 0 } : Room).cells ({ frames := 0, cells := 0, slots := 0, locals := 0 } : Room).slots) := by
  refine MetFree.of_bodySF (plainFor_of_name pn_8) hisR ?_
  intro p e s m args below meth c s₁ Bd hml0 hP hK
  obtain ⟨rfl, hZ, hh⟩ := hP
  have hx := Bd.exec
  have hby := Bd.bytes
  have hml : c.maxLocals = 1 := hml0
  have hown : s.vm.findClass "com/example/net_reducer/netreducer/analysis/Marking" = some m.cls := findClass_of_methodNamed Bd.named
  have hnm := (name_of_methodNamed Bd.named Bd.method).1
  have hret := Bd.returns
  have hlk : meth.locks = false := BodyLoose.notSynchronized Bd
  have X0 : Stand p l e ({ frames := 0, cells := 0, slots := 0, locals := 0 } : Room) s m #[(.ref a1)] below meth c s₁ [] 0 0 := Stand.of_body Bd
  have e0 : s₁.heap = h0 := by rw [← hh, Bd.state]; rfl
  have N0 := Fr.nil n0
  have W := fun (k : Nat) {d : Jvm.Cond} (h : tables_1[k]? = some d) => hw d (List.mem_of_getElem? h)
  have K0 : Keep h0 h0 [a1] := Keep.refl _ _
  refine own_start (ef_8 m a1) ?_
  show own_Run p e below _ s₁ (mkF m 0 #[.val (.ref a1)] [])
  refine own_go (fun _ k => XS.aloadN X0.here hx rfl (hb hby d8_0) rfl rfl k) ?_
  refine own_go (fun _ k => XS.iconst X0.here hx rfl (hb hby d8_1) k) ?_
  show own_Run p e below _ s₁ (mkF m 2 #[.val (.ref a1)] [(.int (0 : Int32)), (.ref a1)])
  obtain ⟨T185, h185, X185, e185, W185, st185⟩ := putF X0 hx hZ hown (host := "") (Or.inl (W 27 rfl)) Via.refl e0 F_size_a1 E_a1 (Or.inl (W 28 rfl)) (W 10 rfl) (ty := .int) (by decide) rfl rfl (g := (mkF m 2 #[.val (.ref a1)] [(.int (0 : Int32)), (.ref a1)])) rfl rfl (hb hby d8_2)
  refine own_go st185 ?_
  show own_Run p e below _ T185 (mkF m 5 #[.val (.ref a1)] [])
  have Z0_c186 := Nat.le_trans Z0 (Keep.of_wr W185).1
  have K0_c186 := K0.wr W185 (Or.inl (List.mem_of_getElem? (i := 0) rfl))
  have E_a1_c186 := E_a1.wr W185
  have F_places_a1_c186 := F_places_a1.other W185 (Or.inr (slot_ne (Or.inl (W 19 rfl)) (Or.inl (W 28 rfl)) (by decide) (t := (.array .int)) (t' := .int) (by decide) (by decide)))
  have F_tokens_a1_c186 := F_tokens_a1.other W185 (Or.inr (slot_ne (Or.inl (W 21 rfl)) (Or.inl (W 28 rfl)) (by decide) (t := (.array .long)) (t' := .int) (by decide) (by decide)))
  have F_size_a1_c185 : Fld Z h185 a1 "com/example/net_reducer/netreducer/analysis/Marking" "size" "I" (.int (0 : Int32)) := F_size_a1.same W185
  have N185 := Fr.snoc X185 N0 g_a1
  refine own_done (Q := fun v h L => Q8 Z a1 b1 b2 w1 h0 n0 v h L) (v := none) X185 (fun _ => rfl) hlk (fun fs hr => X185.returnOut hx hret (hb hby d8_5) hr) ?_ (by decide) (by decide)
  show Q8 Z a1 b1 b2 w1 h0 n0 _ T185.heap _
  rw [e185]
  exact ⟨rfl, N185, K0_c186, E_a1_c186, F_places_a1_c186, F_tokens_a1_c186, F_size_a1_c185⟩
def Q7 (Z : State) (a1 : Addr) (a2 : Addr) (a4 : Addr) (a5 : Addr) (a6 : Addr) (b1 : Addr) (b2 : Addr) (k1 : ClassId) (k2 : ClassId) (k4 : ClassId) (k5 : ClassId) (h0 : Heap) (n0 : Nat) (v : Option Value) (h : Heap) (L : List Loc) : Prop := v = none ∧ Fr n0 L ∧ Keep h0 h [a6, b1, b2] ∧ Exa Z h a6 "com/example/net_reducer/netreducer/analysis/Marking" ∧ Fld Z h a6 "com/example/net_reducer/netreducer/analysis/Marking" "places" "[I" (.ref b1) ∧ Fld Z h a6 "com/example/net_reducer/netreducer/analysis/Marking" "tokens" "[J" (.ref b2) ∧ Fld Z h a6 "com/example/net_reducer/netreducer/analysis/Marking" "size" "I" (.int (8 : Int32)) ∧ Arv Z h b1 k1 .int (8 : Int32) [(.int (0 : Int32)), (.int (1 : Int32)), (.int (2 : Int32)), (.int (3 : Int32)), (.int (4 : Int32)), (.int (5 : Int32)), (.int (6 : Int32)), (.int (7 : Int32))] (.int (0 : Int32)) ∧ Arv Z h b2 k2 .long (8 : Int32) [(.long (1 : Int64)), (.long (2 : Int64)), (.long (3 : Int64)), (.long (4 : Int64)), (.long (5 : Int64)), (.long (6 : Int64)), (.long (7 : Int64)), (.long (8 : Int64))] (.long (0 : Int64))
theorem d7_0 : decode prog_10_method_9_code 0 = .ok (.aload 5, 2) := by decide +kernel
theorem d7_2 : decode prog_10_method_9_code 2 = .ok (.invokevirtual 38, 3) := by decide +kernel
theorem d7_5 : decode prog_10_method_9_code 5 = .ok (.iconst 0, 1) := by decide +kernel
theorem d7_6 : decode prog_10_method_9_code 6 = .ok (.istore 6, 2) := by decide +kernel
theorem d7_8 : decode prog_10_method_9_code 8 = .ok (.iconst 0, 1) := by decide +kernel
theorem d7_9 : decode prog_10_method_9_code 9 = .ok (.istore 7, 2) := by decide +kernel
theorem d7_11 : decode prog_10_method_9_code 11 = .ok (.iload 6, 2) := by decide +kernel
theorem d7_13 : decode prog_10_method_9_code 13 = .ok (.iload_n 2, 1) := by decide +kernel
theorem d7_14 : decode prog_10_method_9_code 14 = .ok (.if_icmp .lt 10, 3) := by decide +kernel
theorem d7_17 : decode prog_10_method_9_code 17 = .ok (.iload 7, 2) := by decide +kernel
theorem d7_19 : decode prog_10_method_9_code 19 = .ok (.aload_n 3, 1) := by decide +kernel
theorem d7_20 : decode prog_10_method_9_code 20 = .ok (.arraylength, 1) := by decide +kernel
theorem d7_21 : decode prog_10_method_9_code 21 = .ok (.if_icmp .ge 140, 3) := by decide +kernel
theorem d7_24 : decode prog_10_method_9_code 24 = .ok (.iload 7, 2) := by decide +kernel
theorem d7_26 : decode prog_10_method_9_code 26 = .ok (.aload_n 3, 1) := by decide +kernel
theorem d7_27 : decode prog_10_method_9_code 27 = .ok (.arraylength, 1) := by decide +kernel
theorem d7_28 : decode prog_10_method_9_code 28 = .ok (.if_icmp .eq 20, 3) := by decide +kernel
theorem d7_31 : decode prog_10_method_9_code 31 = .ok (.iload 6, 2) := by decide +kernel
theorem d7_33 : decode prog_10_method_9_code 33 = .ok (.iload_n 2, 1) := by decide +kernel
theorem d7_34 : decode prog_10_method_9_code 34 = .ok (.if_icmp .ge 18, 3) := by decide +kernel
theorem d7_37 : decode prog_10_method_9_code 37 = .ok (.aload_n 0, 1) := by decide +kernel
theorem d7_38 : decode prog_10_method_9_code 38 = .ok (.iload 6, 2) := by decide +kernel
theorem d7_40 : decode prog_10_method_9_code 40 = .ok (.iaload, 1) := by decide +kernel
theorem d7_41 : decode prog_10_method_9_code 41 = .ok (.aload_n 3, 1) := by decide +kernel
theorem d7_42 : decode prog_10_method_9_code 42 = .ok (.iload 7, 2) := by decide +kernel
theorem d7_44 : decode prog_10_method_9_code 44 = .ok (.iaload, 1) := by decide +kernel
theorem d7_45 : decode prog_10_method_9_code 45 = .ok (.if_icmp .gt 7, 3) := by decide +kernel
theorem d7_48 : decode prog_10_method_9_code 48 = .ok (.iconst 1, 1) := by decide +kernel
theorem d7_49 : decode prog_10_method_9_code 49 = .ok (.goto 4, 3) := by decide +kernel
theorem d7_52 : decode prog_10_method_9_code 52 = .ok (.iconst 0, 1) := by decide +kernel
theorem d7_53 : decode prog_10_method_9_code 53 = .ok (.istore 8, 2) := by decide +kernel
theorem d7_55 : decode prog_10_method_9_code 55 = .ok (.iload 6, 2) := by decide +kernel
theorem d7_57 : decode prog_10_method_9_code 57 = .ok (.iload_n 2, 1) := by decide +kernel
theorem d7_58 : decode prog_10_method_9_code 58 = .ok (.if_icmp .eq 21, 3) := by decide +kernel
theorem d7_61 : decode prog_10_method_9_code 61 = .ok (.iload 7, 2) := by decide +kernel
theorem d7_63 : decode prog_10_method_9_code 63 = .ok (.aload_n 3, 1) := by decide +kernel
theorem d7_64 : decode prog_10_method_9_code 64 = .ok (.arraylength, 1) := by decide +kernel
theorem d7_65 : decode prog_10_method_9_code 65 = .ok (.if_icmp .ge 18, 3) := by decide +kernel
theorem d7_68 : decode prog_10_method_9_code 68 = .ok (.aload_n 3, 1) := by decide +kernel
theorem d7_69 : decode prog_10_method_9_code 69 = .ok (.iload 7, 2) := by decide +kernel
theorem d7_71 : decode prog_10_method_9_code 71 = .ok (.iaload, 1) := by decide +kernel
theorem d7_72 : decode prog_10_method_9_code 72 = .ok (.aload_n 0, 1) := by decide +kernel
theorem d7_73 : decode prog_10_method_9_code 73 = .ok (.iload 6, 2) := by decide +kernel
theorem d7_75 : decode prog_10_method_9_code 75 = .ok (.iaload, 1) := by decide +kernel
theorem d7_76 : decode prog_10_method_9_code 76 = .ok (.if_icmp .gt 7, 3) := by decide +kernel
theorem d7_79 : decode prog_10_method_9_code 79 = .ok (.iconst 1, 1) := by decide +kernel
theorem d7_80 : decode prog_10_method_9_code 80 = .ok (.goto 4, 3) := by decide +kernel
theorem d7_83 : decode prog_10_method_9_code 83 = .ok (.iconst 0, 1) := by decide +kernel
theorem d7_84 : decode prog_10_method_9_code 84 = .ok (.istore 9, 2) := by decide +kernel
theorem d7_86 : decode prog_10_method_9_code 86 = .ok (.iload 8, 2) := by decide +kernel
theorem d7_88 : decode prog_10_method_9_code 88 = .ok (.ifCond .eq 10, 3) := by decide +kernel
theorem d7_91 : decode prog_10_method_9_code 91 = .ok (.aload_n 0, 1) := by decide +kernel
theorem d7_92 : decode prog_10_method_9_code 92 = .ok (.iload 6, 2) := by decide +kernel
theorem d7_94 : decode prog_10_method_9_code 94 = .ok (.iaload, 1) := by decide +kernel
theorem d7_95 : decode prog_10_method_9_code 95 = .ok (.goto 7, 3) := by decide +kernel
theorem d7_98 : decode prog_10_method_9_code 98 = .ok (.aload_n 3, 1) := by decide +kernel
theorem d7_99 : decode prog_10_method_9_code 99 = .ok (.iload 7, 2) := by decide +kernel
theorem d7_101 : decode prog_10_method_9_code 101 = .ok (.iaload, 1) := by decide +kernel
theorem d7_102 : decode prog_10_method_9_code 102 = .ok (.istore 10, 2) := by decide +kernel
theorem d7_104 : decode prog_10_method_9_code 104 = .ok (.iload 8, 2) := by decide +kernel
theorem d7_106 : decode prog_10_method_9_code 106 = .ok (.ifCond .eq 13, 3) := by decide +kernel
theorem d7_109 : decode prog_10_method_9_code 109 = .ok (.aload_n 1, 1) := by decide +kernel
theorem d7_110 : decode prog_10_method_9_code 110 = .ok (.iload 6, 2) := by decide +kernel
theorem d7_112 : decode prog_10_method_9_code 112 = .ok (.iinc 6 1, 3) := by decide +kernel
theorem d7_115 : decode prog_10_method_9_code 115 = .ok (.laload, 1) := by decide +kernel
theorem d7_116 : decode prog_10_method_9_code 116 = .ok (.goto 4, 3) := by decide +kernel
theorem d7_119 : decode prog_10_method_9_code 119 = .ok (.lconst 0, 1) := by decide +kernel
theorem d7_120 : decode prog_10_method_9_code 120 = .ok (.iload 9, 2) := by decide +kernel
theorem d7_122 : decode prog_10_method_9_code 122 = .ok (.ifCond .eq 14, 3) := by decide +kernel
theorem d7_125 : decode prog_10_method_9_code 125 = .ok (.aload 4, 2) := by decide +kernel
theorem d7_127 : decode prog_10_method_9_code 127 = .ok (.iload 7, 2) := by decide +kernel
theorem d7_129 : decode prog_10_method_9_code 129 = .ok (.iinc 7 1, 3) := by decide +kernel
theorem d7_132 : decode prog_10_method_9_code 132 = .ok (.laload, 1) := by decide +kernel
theorem d7_133 : decode prog_10_method_9_code 133 = .ok (.goto 4, 3) := by decide +kernel
theorem d7_136 : decode prog_10_method_9_code 136 = .ok (.lconst 0, 1) := by decide +kernel
theorem d7_137 : decode prog_10_method_9_code 137 = .ok (.invokestatic 41, 3) := by decide +kernel
theorem d7_140 : decode prog_10_method_9_code 140 = .ok (.lstore 11, 2) := by decide +kernel
theorem d7_142 : decode prog_10_method_9_code 142 = .ok (.lload 11, 2) := by decide +kernel
theorem d7_144 : decode prog_10_method_9_code 144 = .ok (.lconst 0, 1) := by decide +kernel
theorem d7_145 : decode prog_10_method_9_code 145 = .ok (.lcmp, 1) := by decide +kernel
theorem d7_146 : decode prog_10_method_9_code 146 = .ok (.ifCond .eq 12, 3) := by decide +kernel
theorem d7_149 : decode prog_10_method_9_code 149 = .ok (.aload 5, 2) := by decide +kernel
theorem d7_151 : decode prog_10_method_9_code 151 = .ok (.iload 10, 2) := by decide +kernel
theorem d7_153 : decode prog_10_method_9_code 153 = .ok (.lload 11, 2) := by decide +kernel
theorem d7_155 : decode prog_10_method_9_code 155 = .ok (.invokevirtual 47, 3) := by decide +kernel
theorem d7_158 : decode prog_10_method_9_code 158 = .ok (.goto (-147), 3) := by decide +kernel
theorem d7_161 : decode prog_10_method_9_code 161 = .ok (.return_, 1) := by decide +kernel
theorem pn_7 : plainName "com/example/net_reducer/netreducer/analysis/Marking" = true := by first | (simp [plainName, overriddenIn]; done) | decide +kernel
set_option maxRecDepth 65536 in
set_option maxHeartbeats 40000000 in
theorem mg8 {p : Program} {l : Launch} {e : Env} {s : State} {m : MethodId} {args : Array Value} {below : List Frame} {meth : Method} {c : Code} {Z : State} {a0 : Array Value} (a1 : Addr) (a2 : Addr) (a4 : Addr) (a5 : Addr) (a6 : Addr) (b1 : Addr) (b2 : Addr) (k1 : ClassId) (k2 : ClassId) (k4 : ClassId) (k5 : ClassId) (h0 : Heap) (n0 : Nat) (hx : p.tables.exec = Jvm.exec) (hZ : Z.Warmed39 s.vm) (hw : ∀ d ∈ tables_1, d.before a0 Z = true) (hby : c.code = prog_10_method_9_code) (hml : c.maxLocals = 13) (hown : s.vm.findClass "com/example/net_reducer/netreducer/analysis/Marking" = some m.cls) (hnm : meth.name = "merge") (hret : meth.sig.returnType = none) (hlk : meth.locks = false)
    (T0 : State) (hh : Heap) (locs : List Loc) (X0 : Stand p l e ({ frames := 1, cells := 0, slots := 0, locals := 20 } : Room) s m args below meth c T0 locs 0 0) (e0 : T0.heap = hh) (N0 : Fr n0 locs) (Z0 : n0 ≤ hh.size) (K0 : Keep h0 hh [a6, b1, b2]) (E_a6 : Exa Z hh a6 "com/example/net_reducer/netreducer/analysis/Marking") (F_places_a6 : Fld Z hh a6 "com/example/net_reducer/netreducer/analysis/Marking" "places" "[I" (.ref b1)) (F_tokens_a6 : Fld Z hh a6 "com/example/net_reducer/netreducer/analysis/Marking" "tokens" "[J" (.ref b2)) (F_size_a6 : Fld Z hh a6 "com/example/net_reducer/netreducer/analysis/Marking" "size" "I" (.int (8 : Int32))) (V_b1 : Arv Z hh b1 k1 .int (8 : Int32) [(.int (0 : Int32)), (.int (1 : Int32)), (.int (2 : Int32)), (.int (3 : Int32)), (.int (4 : Int32)), (.int (5 : Int32)), (.int (6 : Int32)), (.int (7 : Int32))] (.int (0 : Int32))) (V_b2 : Arv Z hh b2 k2 .long (8 : Int32) [(.long (1 : Int64)), (.long (2 : Int64)), (.long (3 : Int64)), (.long (4 : Int64)), (.long (5 : Int64)), (.long (6 : Int64)), (.long (7 : Int64)), (.long (8 : Int64))] (.long (0 : Int64))) (V_a4 : Arv Z hh a4 k4 .int (8 : Int32) [(.int (0 : Int32)), (.int (1 : Int32)), (.int (2 : Int32)), (.int (3 : Int32)), (.int (4 : Int32)), (.int (5 : Int32)), (.int (6 : Int32)), (.int (7 : Int32))] (.int (0 : Int32))) (V_a5 : Arv Z hh a5 k5 .long (8 : Int32) [(.long (1 : Int64)), (.long (2 : Int64)), (.long (3 : Int64)), (.long (4 : Int64)), (.long (5 : Int64)), (.long (6 : Int64)), (.long (7 : Int64)), (.long (8 : Int64))] (.long (0 : Int64))) (g_a6 : n0 ≤ a6) (g_b1 : n0 ≤ b1) (g_b2 : n0 ≤ b2) (ne_a6_b1 : a6 ≠ b1) (ne_a6_b2 : a6 ≠ b2) (ne_b1_b2 : b1 ≠ b2) (ne_a4_a6 : a4 ≠ a6) (ne_a4_b1 : a4 ≠ b1) (ne_a4_b2 : a4 ≠ b2) (ne_a5_a6 : a5 ≠ a6) (ne_a5_b1 : a5 ≠ b1) (ne_a5_b2 : a5 ≠ b2) :
    own_Run p e below (fun o U' => ∃ v L, o = .returned v ∧ Q7 Z a1 a2 a4 a5 a6 b1 b2 k1 k2 k4 k5 h0 n0 v U'.heap L ∧ FrameEnd s o U' L ({ frames := 1, cells := 0, slots := 0, locals := 20 } : Room).cells ({ frames := 1, cells := 0, slots := 0, locals := 20 } : Room).slots) T0 (mkF m 11 #[.val (.ref a1), .val (.ref a2), .val (.int (0 : Int32)), .val (.ref a4), .val (.ref a5), .val (.ref a6), .val (.int (0 : Int32)), .val (.int (8 : Int32)), .val (.int (0 : Int32)), .val (.int (1 : Int32)), .val (.int (7 : Int32)), .val (.long (8 : Int64)), .second] []) := by
  have W := fun (k : Nat) {d : Jvm.Cond} (h : tables_1[k]? = some d) => hw d (List.mem_of_getElem? h)
  show own_Run p e below _ T0 (mkF m 11 #[.val (.ref a1), .val (.ref a2), .val (.int (0 : Int32)), .val (.ref a4), .val (.ref a5), .val (.ref a6), .val (.int (0 : Int32)), .val (.int (8 : Int32)), .val (.int (0 : Int32)), .val (.int (1 : Int32)), .val (.int (7 : Int32)), .val (.long (8 : Int64)), .second] [])
  refine own_go (fun _ k => XS.iload X0.here hx rfl (hb hby d7_11) rfl k) ?_
  refine own_go (fun _ k => XS.iloadN X0.here hx rfl (hb hby d7_13) rfl k) ?_
  show own_Run p e below _ T0 (mkF m 14 #[.val (.ref a1), .val (.ref a2), .val (.int (0 : Int32)), .val (.ref a4), .val (.ref a5), .val (.ref a6), .val (.int (0 : Int32)), .val (.int (8 : Int32)), .val (.int (0 : Int32)), .val (.int (1 : Int32)), .val (.int (7 : Int32)), .val (.long (8 : Int64)), .second] [(.int (0 : Int32)), (.int (0 : Int32))])
  refine own_go (fun _ k => XS.icmpNo X0.here hx rfl (hb hby d7_14) rfl (flt (by decide : ¬ ((0 : Int32) < (0 : Int32)))).1 k) ?_
  show own_Run p e below _ T0 (mkF m 17 #[.val (.ref a1), .val (.ref a2), .val (.int (0 : Int32)), .val (.ref a4), .val (.ref a5), .val (.ref a6), .val (.int (0 : Int32)), .val (.int (8 : Int32)), .val (.int (0 : Int32)), .val (.int (1 : Int32)), .val (.int (7 : Int32)), .val (.long (8 : Int64)), .second] [])
  refine own_go (fun _ k => XS.iload X0.here hx rfl (hb hby d7_17) rfl k) ?_
  refine own_go (fun _ k => XS.aloadN X0.here hx rfl (hb hby d7_19) rfl rfl k) ?_
  show own_Run p e below _ T0 (mkF m 20 #[.val (.ref a1), .val (.ref a2), .val (.int (0 : Int32)), .val (.ref a4), .val (.ref a5), .val (.ref a6), .val (.int (0 : Int32)), .val (.int (8 : Int32)), .val (.int (0 : Int32)), .val (.int (1 : Int32)), .val (.int (7 : Int32)), .val (.long (8 : Int64)), .second] [(.ref a4), (.int (8 : Int32))])
  obtain ⟨cl187, Ar187, q187, S187, N187, H187, G187⟩ := id V_a4
  refine own_go (X0.arraylength hx (by rw [e0]; exact Ar187.1) (State.isArrayOf_alike hZ.alike Ar187.2.1) (g := (mkF m 20 #[.val (.ref a1), .val (.ref a2), .val (.int (0 : Int32)), .val (.ref a4), .val (.ref a5), .val (.ref a6), .val (.int (0 : Int32)), .val (.int (8 : Int32)), .val (.int (0 : Int32)), .val (.int (1 : Int32)), .val (.int (7 : Int32)), .val (.long (8 : Int64)), .second] [(.ref a4), (.int (8 : Int32))])) rfl rfl (hb hby d7_20)) ?_
  rw [len_of S187 N187]
  show own_Run p e below _ T0 (mkF m 21 #[.val (.ref a1), .val (.ref a2), .val (.int (0 : Int32)), .val (.ref a4), .val (.ref a5), .val (.ref a6), .val (.int (0 : Int32)), .val (.int (8 : Int32)), .val (.int (0 : Int32)), .val (.int (1 : Int32)), .val (.int (7 : Int32)), .val (.long (8 : Int64)), .second] [(.int (8 : Int32)), (.int (8 : Int32))])
  refine own_go (fun _ k => XS.icmpYes X0.here hx rfl (pc0 := 21) (pc' := 161) rfl (hb hby d7_21) rfl (flt (by decide : ¬ ((8 : Int32) < (8 : Int32)))).2.1 (by decide) (by decide) k) ?_
  show own_Run p e below _ T0 (mkF m 161 #[.val (.ref a1), .val (.ref a2), .val (.int (0 : Int32)), .val (.ref a4), .val (.ref a5), .val (.ref a6), .val (.int (0 : Int32)), .val (.int (8 : Int32)), .val (.int (0 : Int32)), .val (.int (1 : Int32)), .val (.int (7 : Int32)), .val (.long (8 : Int64)), .second] [])
  refine own_done (Q := fun v h L => Q7 Z a1 a2 a4 a5 a6 b1 b2 k1 k2 k4 k5 h0 n0 v h L) (v := none) X0 (fun _ => rfl) hlk (fun fs hr => X0.returnOut hx hret (hb hby d7_161) hr) ?_ (by decide) (by decide)
  show Q7 Z a1 a2 a4 a5 a6 b1 b2 k1 k2 k4 k5 h0 n0 _ T0.heap _
  rw [e0]
  exact ⟨rfl, N0, K0, E_a6, F_places_a6, F_tokens_a6, F_size_a6, V_b1, V_b2⟩
theorem pd_4 : parseMethodDescriptor "(JJ)J" = some ⟨[.long, .long], some .long⟩ := by decide +kernel
theorem pd_5 : parseMethodDescriptor "(IJ)V" = some ⟨[.int, .long], none⟩ := by decide +kernel
set_option maxRecDepth 65536 in
set_option maxHeartbeats 40000000 in
theorem mg7 {p : Program} {l : Launch} {e : Env} {s : State} {m : MethodId} {args : Array Value} {below : List Frame} {meth : Method} {c : Code} {Z : State} {a0 : Array Value} (a1 : Addr) (a2 : Addr) (a4 : Addr) (a5 : Addr) (a6 : Addr) (b1 : Addr) (b2 : Addr) (k1 : ClassId) (k2 : ClassId) (k4 : ClassId) (k5 : ClassId) (h0 : Heap) (n0 : Nat) (hx : p.tables.exec = Jvm.exec) (hZ : Z.Warmed39 s.vm) (hw : ∀ d ∈ tables_1, d.before a0 Z = true) (hby : c.code = prog_10_method_9_code) (hml : c.maxLocals = 13) (hown : s.vm.findClass "com/example/net_reducer/netreducer/analysis/Marking" = some m.cls) (hnm : meth.name = "merge") (hret : meth.sig.returnType = none) (hlk : meth.locks = false)
    (T0 : State) (hh : Heap) (locs : List Loc) (X0 : Stand p l e ({ frames := 1, cells := 0, slots := 0, locals := 20 } : Room) s m args below meth c T0 locs 0 0) (e0 : T0.heap = hh) (N0 : Fr n0 locs) (Z0 : n0 ≤ hh.size) (K0 : Keep h0 hh [a6, b1, b2]) (E_a6 : Exa Z hh a6 "com/example/net_reducer/netreducer/analysis/Marking") (F_places_a6 : Fld Z hh a6 "com/example/net_reducer/netreducer/analysis/Marking" "places" "[I" (.ref b1)) (F_tokens_a6 : Fld Z hh a6 "com/example/net_reducer/netreducer/analysis/Marking" "tokens" "[J" (.ref b2)) (F_size_a6 : Fld Z hh a6 "com/example/net_reducer/netreducer/analysis/Marking" "size" "I" (.int (7 : Int32))) (V_b1 : Arv Z hh b1 k1 .int (8 : Int32) [(.int (0 : Int32)), (.int (1 : Int32)), (.int (2 : Int32)), (.int (3 : Int32)), (.int (4 : Int32)), (.int (5 : Int32)), (.int (6 : Int32)), (.int (0 : Int32))] (.int (0 : Int32))) (V_b2 : Arv Z hh b2 k2 .long (8 : Int32) [(.long (1 : Int64)), (.long (2 : Int64)), (.long (3 : Int64)), (.long (4 : Int64)), (.long (5 : Int64)), (.long (6 : Int64)), (.long (7 : Int64)), (.long (0 : Int64))] (.long (0 : Int64))) (V_a4 : Arv Z hh a4 k4 .int (8 : Int32) [(.int (0 : Int32)), (.int (1 : Int32)), (.int (2 : Int32)), (.int (3 : Int32)), (.int (4 : Int32)), (.int (5 : Int32)), (.int (6 : Int32)), (.int (7 : Int32))] (.int (0 : Int32))) (V_a5 : Arv Z hh a5 k5 .long (8 : Int32) [(.long (1 : Int64)), (.long (2 : Int64)), (.long (3 : Int64)), (.long (4 : Int64)), (.long (5 : Int64)), (.long (6 : Int64)), (.long (7 : Int64)), (.long (8 : Int64))] (.long (0 : Int64))) (g_a6 : n0 ≤ a6) (g_b1 : n0 ≤ b1) (g_b2 : n0 ≤ b2) (ne_a6_b1 : a6 ≠ b1) (ne_a6_b2 : a6 ≠ b2) (ne_b1_b2 : b1 ≠ b2) (ne_a4_a6 : a4 ≠ a6) (ne_a4_b1 : a4 ≠ b1) (ne_a4_b2 : a4 ≠ b2) (ne_a5_a6 : a5 ≠ a6) (ne_a5_b1 : a5 ≠ b1) (ne_a5_b2 : a5 ≠ b2) :
    own_Run p e below (fun o U' => ∃ v L, o = .returned v ∧ Q7 Z a1 a2 a4 a5 a6 b1 b2 k1 k2 k4 k5 h0 n0 v U'.heap L ∧ FrameEnd s o U' L ({ frames := 1, cells := 0, slots := 0, locals := 20 } : Room).cells ({ frames := 1, cells := 0, slots := 0, locals := 20 } : Room).slots) T0 (mkF m 11 #[.val (.ref a1), .val (.ref a2), .val (.int (0 : Int32)), .val (.ref a4), .val (.ref a5), .val (.ref a6), .val (.int (0 : Int32)), .val (.int (7 : Int32)), .val (.int (0 : Int32)), .val (.int (1 : Int32)), .val (.int (6 : Int32)), .val (.long (7 : Int64)), .second] []) := by
  have W := fun (k : Nat) {d : Jvm.Cond} (h : tables_1[k]? = some d) => hw d (List.mem_of_getElem? h)
  show own_Run p e below _ T0 (mkF m 11 #[.val (.ref a1), .val (.ref a2), .val (.int (0 : Int32)), .val (.ref a4), .val (.ref a5), .val (.ref a6), .val (.int (0 : Int32)), .val (.int (7 : Int32)), .val (.int (0 : Int32)), .val (.int (1 : Int32)), .val (.int (6 : Int32)), .val (.long (7 : Int64)), .second] [])
  refine own_go (fun _ k => XS.iload X0.here hx rfl (hb hby d7_11) rfl k) ?_
  refine own_go (fun _ k => XS.iloadN X0.here hx rfl (hb hby d7_13) rfl k) ?_
  show own_Run p e below _ T0 (mkF m 14 #[.val (.ref a1), .val (.ref a2), .val (.int (0 : Int32)), .val (.ref a4), .val (.ref a5), .val (.ref a6), .val (.int (0 : Int32)), .val (.int (7 : Int32)), .val (.int (0 : Int32)), .val (.int (1 : Int32)), .val (.int (6 : Int32)), .val (.long (7 : Int64)), .second] [(.int (0 : Int32)), (.int (0 : Int32))])
  refine own_go (fun _ k => XS.icmpNo X0.here hx rfl (hb hby d7_14) rfl (flt (by decide : ¬ ((0 : Int32) < (0 : Int32)))).1 k) ?_
  show own_Run p e below _ T0 (mkF m 17 #[.val (.ref a1), .val (.ref a2), .val (.int (0 : Int32)), .val (.ref a4), .val (.ref a5), .val (.ref a6), .val (.int (0 : Int32)), .val (.int (7 : Int32)), .val (.int (0 : Int32)), .val (.int (1 : Int32)), .val (.int (6 : Int32)), .val (.long (7 : Int64)), .second] [])
  refine own_go (fun _ k => XS.iload X0.here hx rfl (hb hby d7_17) rfl k) ?_
  refine own_go (fun _ k => XS.aloadN X0.here hx rfl (hb hby d7_19) rfl rfl k) ?_
  show own_Run p e below _ T0 (mkF m 20 #[.val (.ref a1), .val (.ref a2), .val (.int (0 : Int32)), .val (.ref a4), .val (.ref a5), .val (.ref a6), .val (.int (0 : Int32)), .val (.int (7 : Int32)), .val (.int (0 : Int32)), .val (.int (1 : Int32)), .val (.int (6 : Int32)), .val (.long (7 : Int64)), .second] [(.ref a4), (.int (7 : Int32))])
  obtain ⟨cl188, Ar188, q188, S188, N188, H188, G188⟩ := id V_a4
  refine own_go (X0.arraylength hx (by rw [e0]; exact Ar188.1) (State.isArrayOf_alike hZ.alike Ar188.2.1) (g := (mkF m 20 #[.val (.ref a1), .val (.ref a2), .val (.int (0 : Int32)), .val (.ref a4), .val (.ref a5), .val (.ref a6), .val (.int (0 : Int32)), .val (.int (7 : Int32)), .val (.int (0 : Int32)), .val (.int (1 : Int32)), .val (.int (6 : Int32)), .val (.long (7 : Int64)), .second] [(.ref a4), (.int (7 : Int32))])) rfl rfl (hb hby d7_20)) ?_
  rw [len_of S188 N188]
  show own_Run p e below _ T0 (mkF m 21 #[.val (.ref a1), .val (.ref a2), .val (.int (0 : Int32)), .val (.ref a4), .val (.ref a5), .val (.ref a6), .val (.int (0 : Int32)), .val (.int (7 : Int32)), .val (.int (0 : Int32)), .val (.int (1 : Int32)), .val (.int (6 : Int32)), .val (.long (7 : Int64)), .second] [(.int (8 : Int32)), (.int (7 : Int32))])
  refine own_go (fun _ k => XS.icmpNo X0.here hx rfl (hb hby d7_21) rfl (tlt (by decide : (7 : Int32) < (8 : Int32))).2.1 k) ?_
  show own_Run p e below _ T0 (mkF m 24 #[.val (.ref a1), .val (.ref a2), .val (.int (0 : Int32)), .val (.ref a4), .val (.ref a5), .val (.ref a6), .val (.int (0 : Int32)), .val (.int (7 : Int32)), .val (.int (0 : Int32)), .val (.int (1 : Int32)), .val (.int (6 : Int32)), .val (.long (7 : Int64)), .second] [])
  refine own_go (fun _ k => XS.iload X0.here hx rfl (hb hby d7_24) rfl k) ?_
  refine own_go (fun _ k => XS.aloadN X0.here hx rfl (hb hby d7_26) rfl rfl k) ?_
  show own_Run p e below _ T0 (mkF m 27 #[.val (.ref a1), .val (.ref a2), .val (.int (0 : Int32)), .val (.ref a4), .val (.ref a5), .val (.ref a6), .val (.int (0 : Int32)), .val (.int (7 : Int32)), .val (.int (0 : Int32)), .val (.int (1 : Int32)), .val (.int (6 : Int32)), .val (.long (7 : Int64)), .second] [(.ref a4), (.int (7 : Int32))])
  obtain ⟨cl189, Ar189, q189, S189, N189, H189, G189⟩ := id V_a4
  refine own_go (X0.arraylength hx (by rw [e0]; exact Ar189.1) (State.isArrayOf_alike hZ.alike Ar189.2.1) (g := (mkF m 27 #[.val (.ref a1), .val (.ref a2), .val (.int (0 : Int32)), .val (.ref a4), .val (.ref a5), .val (.ref a6), .val (.int (0 : Int32)), .val (.int (7 : Int32)), .val (.int (0 : Int32)), .val (.int (1 : Int32)), .val (.int (6 : Int32)), .val (.long (7 : Int64)), .second] [(.ref a4), (.int (7 : Int32))])) rfl rfl (hb hby d7_27)) ?_
  rw [len_of S189 N189]
  show own_Run p e below _ T0 (mkF m 28 #[.val (.ref a1), .val (.ref a2), .val (.int (0 : Int32)), .val (.ref a4), .val (.ref a5), .val (.ref a6), .val (.int (0 : Int32)), .val (.int (7 : Int32)), .val (.int (0 : Int32)), .val (.int (1 : Int32)), .val (.int (6 : Int32)), .val (.long (7 : Int64)), .second] [(.int (8 : Int32)), (.int (7 : Int32))])
  refine own_go (fun _ k => XS.icmpNo X0.here hx rfl (hb hby d7_28) rfl (feq (by decide : ¬ ((7 : Int32) = (8 : Int32)))).1 k) ?_
  show own_Run p e below _ T0 (mkF m 31 #[.val (.ref a1), .val (.ref a2), .val (.int (0 : Int32)), .val (.ref a4), .val (.ref a5), .val (.ref a6), .val (.int (0 : Int32)), .val (.int (7 : Int32)), .val (.int (0 : Int32)), .val (.int (1 : Int32)), .val (.int (6 : Int32)), .val (.long (7 : Int64)), .second] [])
  refine own_go (fun _ k => XS.iload X0.here hx rfl (hb hby d7_31) rfl k) ?_
  refine own_go (fun _ k => XS.iloadN X0.here hx rfl (hb hby d7_33) rfl k) ?_
  show own_Run p e below _ T0 (mkF m 34 #[.val (.ref a1), .val (.ref a2), .val (.int (0 : Int32)), .val (.ref a4), .val (.ref a5), .val (.ref a6), .val (.int (0 : Int32)), .val (.int (7 : Int32)), .val (.int (0 : Int32)), .val (.int (1 : Int32)), .val (.int (6 : Int32)), .val (.long (7 : Int64)), .second] [(.int (0 : Int32)), (.int (0 : Int32))])
  refine own_go (fun _ k => XS.icmpYes X0.here hx rfl (pc0 := 34) (pc' := 52) rfl (hb hby d7_34) rfl (flt (by decide : ¬ ((0 : Int32) < (0 : Int32)))).2.1 (by decide) (by decide) k) ?_
  show own_Run p e below _ T0 (mkF m 52 #[.val (.ref a1), .val (.ref a2), .val (.int (0 : Int32)), .val (.ref a4), .val (.ref a5), .val (.ref a6), .val (.int (0 : Int32)), .val (.int (7 : Int32)), .val (.int (0 : Int32)), .val (.int (1 : Int32)), .val (.int (6 : Int32)), .val (.long (7 : Int64)), .second] [])
  refine own_go (fun _ k => XS.iconst X0.here hx rfl (hb hby d7_52) k) ?_
  refine own_go (fun _ k => XS.istore X0.here hx rfl (hb hby d7_53) rfl (l' := #[.val (.ref a1), .val (.ref a2), .val (.int (0 : Int32)), .val (.ref a4), .val (.ref a5), .val (.ref a6), .val (.int (0 : Int32)), .val (.int (7 : Int32)), .val (.int (0 : Int32)), .val (.int (1 : Int32)), .val (.int (6 : Int32)), .val (.long (7 : Int64)), .second]) rfl k) ?_
  refine own_go (fun _ k => XS.iload X0.here hx rfl (hb hby d7_55) rfl k) ?_
  refine own_go (fun _ k => XS.iloadN X0.here hx rfl (hb hby d7_57) rfl k) ?_
  show own_Run p e below _ T0 (mkF m 58 #[.val (.ref a1), .val (.ref a2), .val (.int (0 : Int32)), .val (.ref a4), .val (.ref a5), .val (.ref a6), .val (.int (0 : Int32)), .val (.int (7 : Int32)), .val (.int (0 : Int32)), .val (.int (1 : Int32)), .val (.int (6 : Int32)), .val (.long (7 : Int64)), .second] [(.int (0 : Int32)), (.int (0 : Int32))])
  refine own_go (fun _ k => XS.icmpYes X0.here hx rfl (pc0 := 58) (pc' := 79) rfl (hb hby d7_58) rfl (teq (by decide : (0 : Int32) = (0 : Int32))).1 (by decide) (by decide) k) ?_
  show own_Run p e below _ T0 (mkF m 79 #[.val (.ref a1), .val (.ref a2), .val (.int (0 : Int32)), .val (.ref a4), .val (.ref a5), .val (.ref a6), .val (.int (0 : Int32)), .val (.int (7 : Int32)), .val (.int (0 : Int32)), .val (.int (1 : Int32)), .val (.int (6 : Int32)), .val (.long (7 : Int64)), .second] [])
  refine own_go (fun _ k => XS.iconst X0.here hx rfl (hb hby d7_79) k) ?_
  refine own_go (fun _ k => XS.goto X0.here hx rfl (pc0 := 80) (pc' := 84) rfl (hb hby d7_80) (by decide) (by decide) k) ?_
  refine own_go (fun _ k => XS.istore X0.here hx rfl (hb hby d7_84) rfl (l' := #[.val (.ref a1), .val (.ref a2), .val (.int (0 : Int32)), .val (.ref a4), .val (.ref a5), .val (.ref a6), .val (.int (0 : Int32)), .val (.int (7 : Int32)), .val (.int (0 : Int32)), .val (.int (1 : Int32)), .val (.int (6 : Int32)), .val (.long (7 : Int64)), .second]) rfl k) ?_
  refine own_go (fun _ k => XS.iload X0.here hx rfl (hb hby d7_86) rfl k) ?_
  show own_Run p e below _ T0 (mkF m 88 #[.val (.ref a1), .val (.ref a2), .val (.int (0 : Int32)), .val (.ref a4), .val (.ref a5), .val (.ref a6), .val (.int (0 : Int32)), .val (.int (7 : Int32)), .val (.int (0 : Int32)), .val (.int (1 : Int32)), .val (.int (6 : Int32)), .val (.long (7 : Int64)), .second] [(.int (0 : Int32))])
  refine own_go (fun _ k => XS.ifYes X0.here hx rfl (pc0 := 88) (pc' := 98) rfl (hb hby d7_88) rfl ((if0 _ _).trans (teq (by decide : (0 : Int32) = (0 : Int32))).1) (by decide) (by decide) k) ?_
  show own_Run p e below _ T0 (mkF m 98 #[.val (.ref a1), .val (.ref a2), .val (.int (0 : Int32)), .val (.ref a4), .val (.ref a5), .val (.ref a6), .val (.int (0 : Int32)), .val (.int (7 : Int32)), .val (.int (0 : Int32)), .val (.int (1 : Int32)), .val (.int (6 : Int32)), .val (.long (7 : Int64)), .second] [])
  refine own_go (fun _ k => XS.aloadN X0.here hx rfl (hb hby d7_98) rfl rfl k) ?_
  refine own_go (fun _ k => XS.iload X0.here hx rfl (hb hby d7_99) rfl k) ?_
  show own_Run p e below _ T0 (mkF m 101 #[.val (.ref a1), .val (.ref a2), .val (.int (0 : Int32)), .val (.ref a4), .val (.ref a5), .val (.ref a6), .val (.int (0 : Int32)), .val (.int (7 : Int32)), .val (.int (0 : Int32)), .val (.int (1 : Int32)), .val (.int (6 : Int32)), .val (.long (7 : Int64)), .second] [(.int (7 : Int32)), (.ref a4)])
  obtain ⟨cl190, Ar190, q190, S190, N190, H190, G190⟩ := id V_a4
  have hin190 : ¬ ((7 : Int32) < 0 ∨ cl190.slots.size ≤ ((7 : Int32)).toNatClampNeg) := inb_of S190 ⟨by decide, by decide⟩
  refine own_go (X0.iaload hx (j := (7 : Int32)) (v := (.int (7 : Int32))) (by rw [e0]; exact Ar190.1) (State.isArrayOf_alike hZ.alike Ar190.2.1) Ar190.2.2 hin190 (H190.at hin190 rfl) (g := (mkF m 101 #[.val (.ref a1), .val (.ref a2), .val (.int (0 : Int32)), .val (.ref a4), .val (.ref a5), .val (.ref a6), .val (.int (0 : Int32)), .val (.int (7 : Int32)), .val (.int (0 : Int32)), .val (.int (1 : Int32)), .val (.int (6 : Int32)), .val (.long (7 : Int64)), .second] [(.int (7 : Int32)), (.ref a4)])) rfl rfl (hb hby d7_101)) ?_
  show own_Run p e below _ T0 (mkF m 102 #[.val (.ref a1), .val (.ref a2), .val (.int (0 : Int32)), .val (.ref a4), .val (.ref a5), .val (.ref a6), .val (.int (0 : Int32)), .val (.int (7 : Int32)), .val (.int (0 : Int32)), .val (.int (1 : Int32)), .val (.int (6 : Int32)), .val (.long (7 : Int64)), .second] [(.int (7 : Int32))])
  refine own_go (fun _ k => XS.istore X0.here hx rfl (hb hby d7_102) rfl (l' := #[.val (.ref a1), .val (.ref a2), .val (.int (0 : Int32)), .val (.ref a4), .val (.ref a5), .val (.ref a6), .val (.int (0 : Int32)), .val (.int (7 : Int32)), .val (.int (0 : Int32)), .val (.int (1 : Int32)), .val (.int (7 : Int32)), .val (.long (7 : Int64)), .second]) rfl k) ?_
  refine own_go (fun _ k => XS.iload X0.here hx rfl (hb hby d7_104) rfl k) ?_
  show own_Run p e below _ T0 (mkF m 106 #[.val (.ref a1), .val (.ref a2), .val (.int (0 : Int32)), .val (.ref a4), .val (.ref a5), .val (.ref a6), .val (.int (0 : Int32)), .val (.int (7 : Int32)), .val (.int (0 : Int32)), .val (.int (1 : Int32)), .val (.int (7 : Int32)), .val (.long (7 : Int64)), .second] [(.int (0 : Int32))])
  refine own_go (fun _ k => XS.ifYes X0.here hx rfl (pc0 := 106) (pc' := 119) rfl (hb hby d7_106) rfl ((if0 _ _).trans (teq (by decide : (0 : Int32) = (0 : Int32))).1) (by decide) (by decide) k) ?_
  show own_Run p e below _ T0 (mkF m 119 #[.val (.ref a1), .val (.ref a2), .val (.int (0 : Int32)), .val (.ref a4), .val (.ref a5), .val (.ref a6), .val (.int (0 : Int32)), .val (.int (7 : Int32)), .val (.int (0 : Int32)), .val (.int (1 : Int32)), .val (.int (7 : Int32)), .val (.long (7 : Int64)), .second] [])
  refine own_go (fun _ k => XS.lconst X0.here hx rfl (hb hby d7_119) k) ?_
  refine own_go (fun _ k => XS.iload X0.here hx rfl (hb hby d7_120) rfl k) ?_
  show own_Run p e below _ T0 (mkF m 122 #[.val (.ref a1), .val (.ref a2), .val (.int (0 : Int32)), .val (.ref a4), .val (.ref a5), .val (.ref a6), .val (.int (0 : Int32)), .val (.int (7 : Int32)), .val (.int (0 : Int32)), .val (.int (1 : Int32)), .val (.int (7 : Int32)), .val (.long (7 : Int64)), .second] [(.int (1 : Int32)), (.long (0 : Int64))])
  refine own_go (fun _ k => XS.ifNo X0.here hx rfl (hb hby d7_122) rfl ((if0 _ _).trans (feq (by decide : ¬ ((1 : Int32) = (0 : Int32)))).1) k) ?_
  show own_Run p e below _ T0 (mkF m 125 #[.val (.ref a1), .val (.ref a2), .val (.int (0 : Int32)), .val (.ref a4), .val (.ref a5), .val (.ref a6), .val (.int (0 : Int32)), .val (.int (7 : Int32)), .val (.int (0 : Int32)), .val (.int (1 : Int32)), .val (.int (7 : Int32)), .val (.long (7 : Int64)), .second] [(.long (0 : Int64))])
  refine own_go (fun _ k => XS.aload X0.here hx rfl (hb hby d7_125) rfl rfl k) ?_
  refine own_go (fun _ k => XS.iload X0.here hx rfl (hb hby d7_127) rfl k) ?_
  refine own_go (fun _ k => XS.iinc X0.here hx rfl (hb hby d7_129) rfl (l' := #[.val (.ref a1), .val (.ref a2), .val (.int (0 : Int32)), .val (.ref a4), .val (.ref a5), .val (.ref a6), .val (.int (0 : Int32)), .val (.int ((7 : Int32) + (1 : Int32))), .val (.int (0 : Int32)), .val (.int (1 : Int32)), .val (.int (7 : Int32)), .val (.long (7 : Int64)), .second]) rfl k) ?_
  show own_Run p e below _ T0 (mkF m 132 #[.val (.ref a1), .val (.ref a2), .val (.int (0 : Int32)), .val (.ref a4), .val (.ref a5), .val (.ref a6), .val (.int (0 : Int32)), .val (.int ((7 : Int32) + (1 : Int32))), .val (.int (0 : Int32)), .val (.int (1 : Int32)), .val (.int (7 : Int32)), .val (.long (7 : Int64)), .second] [(.int (7 : Int32)), (.ref a5), (.long (0 : Int64))])
  rw [show ((7 : Int32) + (1 : Int32)) = (8 : Int32) by decide]
  show own_Run p e below _ T0 (mkF m 132 #[.val (.ref a1), .val (.ref a2), .val (.int (0 : Int32)), .val (.ref a4), .val (.ref a5), .val (.ref a6), .val (.int (0 : Int32)), .val (.int (8 : Int32)), .val (.int (0 : Int32)), .val (.int (1 : Int32)), .val (.int (7 : Int32)), .val (.long (7 : Int64)), .second] [(.int (7 : Int32)), (.ref a5), (.long (0 : Int64))])
  obtain ⟨cl191, Ar191, q191, S191, N191, H191, G191⟩ := id V_a5
  have hin191 : ¬ ((7 : Int32) < 0 ∨ cl191.slots.size ≤ ((7 : Int32)).toNatClampNeg) := inb_of S191 ⟨by decide, by decide⟩
  refine own_go (X0.laload hx (j := (7 : Int32)) (v := (.long (8 : Int64))) (by rw [e0]; exact Ar191.1) (State.isArrayOf_alike hZ.alike Ar191.2.1) Ar191.2.2 hin191 (H191.at hin191 rfl) (g := (mkF m 132 #[.val (.ref a1), .val (.ref a2), .val (.int (0 : Int32)), .val (.ref a4), .val (.ref a5), .val (.ref a6), .val (.int (0 : Int32)), .val (.int (8 : Int32)), .val (.int (0 : Int32)), .val (.int (1 : Int32)), .val (.int (7 : Int32)), .val (.long (7 : Int64)), .second] [(.int (7 : Int32)), (.ref a5), (.long (0 : Int64))])) rfl rfl (hb hby d7_132)) ?_
  show own_Run p e below _ T0 (mkF m 133 #[.val (.ref a1), .val (.ref a2), .val (.int (0 : Int32)), .val (.ref a4), .val (.ref a5), .val (.ref a6), .val (.int (0 : Int32)), .val (.int (8 : Int32)), .val (.int (0 : Int32)), .val (.int (1 : Int32)), .val (.int (7 : Int32)), .val (.long (7 : Int64)), .second] [(.long (8 : Int64)), (.long (0 : Int64))])
  refine own_go (fun _ k => XS.goto X0.here hx rfl (pc0 := 133) (pc' := 137) rfl (hb hby d7_133) (by decide) (by decide) k) ?_
  show own_Run p e below _ T0 (mkF m 137 #[.val (.ref a1), .val (.ref a2), .val (.int (0 : Int32)), .val (.ref a4), .val (.ref a5), .val (.ref a6), .val (.int (0 : Int32)), .val (.int (8 : Int32)), .val (.int (0 : Int32)), .val (.int (1 : Int32)), .val (.int (7 : Int32)), .val (.long (7 : Int64)), .second] [(.long (8 : Int64)), (.long (0 : Int64))])
  obtain ⟨_, _, ⟨T192, L192, k192, n192⟩, -, X192, ⟨Lc192, hQ192, l192, y192, z192⟩, st192⟩ := Jvm.LawKit.callS X0 hx (y := (⟨"java/lang/Math", "addExact", "(JJ)J"⟩ : MethodName)) hown (mvT hZ (W 52 rfl)) (mvT hZ (W 53 rfl)) (mvT hZ (W 54 rfl)) (mvT hZ (W 55 rfl)) (by decide) (backOf (W := 0) (rm9 l Z a0 hw [] (0 : Int64) (8 : Int64) hh n0 Z0 (by decide)) hZ (W 55 rfl) (W 54 rfl) (by decide) (by decide)) (g := (mkF m 137 #[.val (.ref a1), .val (.ref a2), .val (.int (0 : Int32)), .val (.ref a4), .val (.ref a5), .val (.ref a6), .val (.int (0 : Int32)), .val (.int (8 : Int32)), .val (.int (0 : Int32)), .val (.int (1 : Int32)), .val (.int (7 : Int32)), .val (.long (7 : Int64)), .second] [(.long (8 : Int64)), (.long (0 : Int64))])) rfl (by rw [hml]; rfl) (argsL := [(.long (0 : Int64)), (.long (8 : Int64))]) (rest := []) (lenOf pd_4 rfl) rfl (by show 2 * 0 + _ ≤ _; exact Nat.le_of_eq rfl) (hb hby d7_137) (fun _ _ => ⟨rfl, e0, (by decide : 0 + 0 ≤ _), (by decide : 0 + 0 ≤ _)⟩)
  dsimp only [Pt.U, Pt.locs, Pt.cells, Pt.slots] at X192 l192 y192 z192 st192 hQ192
  subst l192 y192 z192
  obtain ⟨rfl, N192q, e192⟩ := hQ192
  have N192 := Fr.app N0 N192q
  refine own_go st192 ?_
  show own_Run p e below _ T192 (mkF m 140 #[.val (.ref a1), .val (.ref a2), .val (.int (0 : Int32)), .val (.ref a4), .val (.ref a5), .val (.ref a6), .val (.int (0 : Int32)), .val (.int (8 : Int32)), .val (.int (0 : Int32)), .val (.int (1 : Int32)), .val (.int (7 : Int32)), .val (.long (7 : Int64)), .second] [(.long ((0 : Int64) + (8 : Int64)))])
  rw [show ((0 : Int64) + (8 : Int64)) = (8 : Int64) by decide]
  show own_Run p e below _ T192 (mkF m 140 #[.val (.ref a1), .val (.ref a2), .val (.int (0 : Int32)), .val (.ref a4), .val (.ref a5), .val (.ref a6), .val (.int (0 : Int32)), .val (.int (8 : Int32)), .val (.int (0 : Int32)), .val (.int (1 : Int32)), .val (.int (7 : Int32)), .val (.long (7 : Int64)), .second] [(.long (8 : Int64))])
  refine own_go (fun _ k => XS.lstore X192.here hx rfl (hb hby d7_140) rfl (l' := #[.val (.ref a1), .val (.ref a2), .val (.int (0 : Int32)), .val (.ref a4), .val (.ref a5), .val (.ref a6), .val (.int (0 : Int32)), .val (.int (8 : Int32)), .val (.int (0 : Int32)), .val (.int (1 : Int32)), .val (.int (7 : Int32)), .val (.long (8 : Int64)), .second]) rfl k) ?_
  refine own_go (fun _ k => XS.lload X192.here hx rfl (hb hby d7_142) rfl k) ?_
  refine own_go (fun _ k => XS.lconst X192.here hx rfl (hb hby d7_144) k) ?_
  refine own_go (fun _ k => XS.lcmp X192.here hx rfl (hb hby d7_145) rfl k) ?_
  show own_Run p e below _ T192 (mkF m 146 #[.val (.ref a1), .val (.ref a2), .val (.int (0 : Int32)), .val (.ref a4), .val (.ref a5), .val (.ref a6), .val (.int (0 : Int32)), .val (.int (8 : Int32)), .val (.int (0 : Int32)), .val (.int (1 : Int32)), .val (.int (7 : Int32)), .val (.long (8 : Int64)), .second] [(.int (lcmpW (8 : Int64) (0 : Int64)))])
  refine own_go (fun _ k => XS.ifNo X192.here hx rfl (hb hby d7_146) rfl (own_lcFe (by decide : ¬ ((8 : Int64) = (0 : Int64)))).1 k) ?_
  show own_Run p e below _ T192 (mkF m 149 #[.val (.ref a1), .val (.ref a2), .val (.int (0 : Int32)), .val (.ref a4), .val (.ref a5), .val (.ref a6), .val (.int (0 : Int32)), .val (.int (8 : Int32)), .val (.int (0 : Int32)), .val (.int (1 : Int32)), .val (.int (7 : Int32)), .val (.long (8 : Int64)), .second] [])
  refine own_go (fun _ k => XS.aload X192.here hx rfl (hb hby d7_149) rfl rfl k) ?_
  refine own_go (fun _ k => XS.iload X192.here hx rfl (hb hby d7_151) rfl k) ?_
  refine own_go (fun _ k => XS.lload X192.here hx rfl (hb hby d7_153) rfl k) ?_
  show own_Run p e below _ T192 (mkF m 155 #[.val (.ref a1), .val (.ref a2), .val (.int (0 : Int32)), .val (.ref a4), .val (.ref a5), .val (.ref a6), .val (.int (0 : Int32)), .val (.int (8 : Int32)), .val (.int (0 : Int32)), .val (.int (1 : Int32)), .val (.int (7 : Int32)), .val (.long (8 : Int64)), .second] [(.long (8 : Int64)), (.int (7 : Int32)), (.ref a6)])
  obtain ⟨cq193, kq193, q193a, q193b, q193c⟩ := isOf hZ e192 E_a6
  obtain ⟨_, _, ⟨T193, L193, k193, n193⟩, -, X193, ⟨Lc193, hQ193, l193, y193, z193⟩, st193⟩ := X192.virtualBack hx (y := (⟨"com/example/net_reducer/netreducer/analysis/Marking", "add", "(IJ)V"⟩ : MethodName)) (z := (⟨"com/example/net_reducer/netreducer/analysis/Marking", "add", "(IJ)V"⟩ : MethodName)) hown (mvT hZ (W 56 rfl)) (mvT hZ (W 23 rfl)) (notFace_of_selects (args := #[]) (mvT hZ (W 25 rfl))) (mvT hZ (W 25 rfl)) (mvT hZ (W 24 rfl)) (by decide) (backOf (W := 0) (rm3c7 l Z a0 hw [] a6 (7 : Int32) (8 : Int64) b1 b2 k1 k2 (0 : Int32) (1 : Int32) (2 : Int32) (3 : Int32) (4 : Int32) (5 : Int32) (6 : Int32) (0 : Int32) (1 : Int64) (2 : Int64) (3 : Int64) (4 : Int64) (5 : Int64) (6 : Int64) (7 : Int64) (0 : Int64) hh n0 Z0 E_a6 F_places_a6 F_tokens_a6 F_size_a6 V_b1 V_b2 g_a6 g_b1 g_b2 ne_a6_b1 ne_a6_b2 ne_b1_b2) hZ (W 26 rfl) (W 11 rfl) (by decide) (by decide)) q193a q193c (g := (mkF m 155 #[.val (.ref a1), .val (.ref a2), .val (.int (0 : Int32)), .val (.ref a4), .val (.ref a5), .val (.ref a6), .val (.int (0 : Int32)), .val (.int (8 : Int32)), .val (.int (0 : Int32)), .val (.int (1 : Int32)), .val (.int (7 : Int32)), .val (.long (8 : Int64)), .second] [(.long (8 : Int64)), (.int (7 : Int32)), (.ref a6)])) rfl (by rw [hml]; rfl) (Steps.refl _) (argsL := [(.int (7 : Int32)), (.long (8 : Int64))]) (rest := []) (lenOf pd_5 rfl) rfl (by show 2 * 0 + _ ≤ _; exact Nat.le_of_eq rfl) (hb hby d7_155) (fun _ _ => ⟨rfl, e192, (by decide : 0 + 0 ≤ _), (by decide : 0 + 0 ≤ _)⟩)
  dsimp only [Pt.U, Pt.locs, Pt.cells, Pt.slots] at X193 l193 y193 z193 st193 hQ193
  subst l193 y193 z193
  obtain ⟨rfl, N193q, K193, P193_0, P193_1, P193_2, P193_3, P193_4, P193_5⟩ := hQ193
  have N193 := Fr.app N192 N193q
  refine own_goT st193 ?_
  show own_Run p e below _ T193 (mkF m 158 #[.val (.ref a1), .val (.ref a2), .val (.int (0 : Int32)), .val (.ref a4), .val (.ref a5), .val (.ref a6), .val (.int (0 : Int32)), .val (.int (8 : Int32)), .val (.int (0 : Int32)), .val (.int (1 : Int32)), .val (.int (7 : Int32)), .val (.long (8 : Int64)), .second] [])
  have Z0_c194 := Nat.le_trans Z0 K193.1
  have K0_c194 := K0.trans K193 (allS (Or.inl (List.mem_of_getElem? (i := 0) rfl)) (allS (Or.inl (List.mem_of_getElem? (i := 1) rfl)) (allS (Or.inl (List.mem_of_getElem? (i := 2) rfl)) all0)))
  have E_a6_c194 := E_a6.keep K193
  have V_a4_c194 := V_a4.keep K193 (ninS ne_a4_a6 (ninS ne_a4_b1 (ninS ne_a4_b2 nin0)))
  have V_a5_c194 := V_a5.keep K193 (ninS ne_a5_a6 (ninS ne_a5_b1 (ninS ne_a5_b2 nin0)))
  refine own_go (fun _ k => XS.goto X193.here hx rfl (pc0 := 158) (pc' := 11) rfl (hb hby d7_158) (by decide) (by decide) k) ?_
  show own_Run p e below _ T193 (mkF m 11 #[.val (.ref a1), .val (.ref a2), .val (.int (0 : Int32)), .val (.ref a4), .val (.ref a5), .val (.ref a6), .val (.int (0 : Int32)), .val (.int (8 : Int32)), .val (.int (0 : Int32)), .val (.int (1 : Int32)), .val (.int (7 : Int32)), .val (.long (8 : Int64)), .second] [])
  exact mg8 a1 a2 a4 a5 a6 b1 b2 k1 k2 k4 k5 h0 n0 hx hZ hw hby hml hown hnm hret hlk  T193 T193.heap _ X193 rfl N193 Z0_c194 K0_c194 P193_0 P193_1 P193_2 P193_3 P193_4 P193_5 V_a4_c194 V_a5_c194 g_a6 g_b1 g_b2 ne_a6_b1 ne_a6_b2 ne_b1_b2 ne_a4_a6 ne_a4_b1 ne_a4_b2 ne_a5_a6 ne_a5_b1 ne_a5_b2 
set_option maxRecDepth 65536 in
set_option maxHeartbeats 40000000 in
theorem mg6 {p : Program} {l : Launch} {e : Env} {s : State} {m : MethodId} {args : Array Value} {below : List Frame} {meth : Method} {c : Code} {Z : State} {a0 : Array Value} (a1 : Addr) (a2 : Addr) (a4 : Addr) (a5 : Addr) (a6 : Addr) (b1 : Addr) (b2 : Addr) (k1 : ClassId) (k2 : ClassId) (k4 : ClassId) (k5 : ClassId) (h0 : Heap) (n0 : Nat) (hx : p.tables.exec = Jvm.exec) (hZ : Z.Warmed39 s.vm) (hw : ∀ d ∈ tables_1, d.before a0 Z = true) (hby : c.code = prog_10_method_9_code) (hml : c.maxLocals = 13) (hown : s.vm.findClass "com/example/net_reducer/netreducer/analysis/Marking" = some m.cls) (hnm : meth.name = "merge") (hret : meth.sig.returnType = none) (hlk : meth.locks = false)
    (T0 : State) (hh : Heap) (locs : List Loc) (X0 : Stand p l e ({ frames := 1, cells := 0, slots := 0, locals := 20 } : Room) s m args below meth c T0 locs 0 0) (e0 : T0.heap = hh) (N0 : Fr n0 locs) (Z0 : n0 ≤ hh.size) (K0 : Keep h0 hh [a6, b1, b2]) (E_a6 : Exa Z hh a6 "com/example/net_reducer/netreducer/analysis/Marking") (F_places_a6 : Fld Z hh a6 "com/example/net_reducer/netreducer/analysis/Marking" "places" "[I" (.ref b1)) (F_tokens_a6 : Fld Z hh a6 "com/example/net_reducer/netreducer/analysis/Marking" "tokens" "[J" (.ref b2)) (F_size_a6 : Fld Z hh a6 "com/example/net_reducer/netreducer/analysis/Marking" "size" "I" (.int (6 : Int32))) (V_b1 : Arv Z hh b1 k1 .int (8 : Int32) [(.int (0 : Int32)), (.int (1 : Int32)), (.int (2 : Int32)), (.int (3 : Int32)), (.int (4 : Int32)), (.int (5 : Int32)), (.int (0 : Int32)), (.int (0 : Int32))] (.int (0 : Int32))) (V_b2 : Arv Z hh b2 k2 .long (8 : Int32) [(.long (1 : Int64)), (.long (2 : Int64)), (.long (3 : Int64)), (.long (4 : Int64)), (.long (5 : Int64)), (.long (6 : Int64)), (.long (0 : Int64)), (.long (0 : Int64))] (.long (0 : Int64))) (V_a4 : Arv Z hh a4 k4 .int (8 : Int32) [(.int (0 : Int32)), (.int (1 : Int32)), (.int (2 : Int32)), (.int (3 : Int32)), (.int (4 : Int32)), (.int (5 : Int32)), (.int (6 : Int32)), (.int (7 : Int32))] (.int (0 : Int32))) (V_a5 : Arv Z hh a5 k5 .long (8 : Int32) [(.long (1 : Int64)), (.long (2 : Int64)), (.long (3 : Int64)), (.long (4 : Int64)), (.long (5 : Int64)), (.long (6 : Int64)), (.long (7 : Int64)), (.long (8 : Int64))] (.long (0 : Int64))) (g_a6 : n0 ≤ a6) (g_b1 : n0 ≤ b1) (g_b2 : n0 ≤ b2) (ne_a6_b1 : a6 ≠ b1) (ne_a6_b2 : a6 ≠ b2) (ne_b1_b2 : b1 ≠ b2) (ne_a4_a6 : a4 ≠ a6) (ne_a4_b1 : a4 ≠ b1) (ne_a4_b2 : a4 ≠ b2) (ne_a5_a6 : a5 ≠ a6) (ne_a5_b1 : a5 ≠ b1) (ne_a5_b2 : a5 ≠ b2) :
    own_Run p e below (fun o U' => ∃ v L, o = .returned v ∧ Q7 Z a1 a2 a4 a5 a6 b1 b2 k1 k2 k4 k5 h0 n0 v U'.heap L ∧ FrameEnd s o U' L ({ frames := 1, cells := 0, slots := 0, locals := 20 } : Room).cells ({ frames := 1, cells := 0, slots := 0, locals := 20 } : Room).slots) T0 (mkF m 11 #[.val (.ref a1), .val (.ref a2), .val (.int (0 : Int32)), .val (.ref a4), .val (.ref a5), .val (.ref a6), .val (.int (0 : Int32)), .val (.int (6 : Int32)), .val (.int (0 : Int32)), .val (.int (1 : Int32)), .val (.int (5 : Int32)), .val (.long (6 : Int64)), .second] []) := by
  have W := fun (k : Nat) {d : Jvm.Cond} (h : tables_1[k]? = some d) => hw d (List.mem_of_getElem? h)
  show own_Run p e below _ T0 (mkF m 11 #[.val (.ref a1), .val (.ref a2), .val (.int (0 : Int32)), .val (.ref a4), .val (.ref a5), .val (.ref a6), .val (.int (0 : Int32)), .val (.int (6 : Int32)), .val (.int (0 : Int32)), .val (.int (1 : Int32)), .val (.int (5 : Int32)), .val (.long (6 : Int64)), .second] [])
  refine own_go (fun _ k => XS.iload X0.here hx rfl (hb hby d7_11) rfl k) ?_
  refine own_go (fun _ k => XS.iloadN X0.here hx rfl (hb hby d7_13) rfl k) ?_
  show own_Run p e below _ T0 (mkF m 14 #[.val (.ref a1), .val (.ref a2), .val (.int (0 : Int32)), .val (.ref a4), .val (.ref a5), .val (.ref a6), .val (.int (0 : Int32)), .val (.int (6 : Int32)), .val (.int (0 : Int32)), .val (.int (1 : Int32)), .val (.int (5 : Int32)), .val (.long (6 : Int64)), .second] [(.int (0 : Int32)), (.int (0 : Int32))])
  refine own_go (fun _ k => XS.icmpNo X0.here hx rfl (hb hby d7_14) rfl (flt (by decide : ¬ ((0 : Int32) < (0 : Int32)))).1 k) ?_
  show own_Run p e below _ T0 (mkF m 17 #[.val (.ref a1), .val (.ref a2), .val (.int (0 : Int32)), .val (.ref a4), .val (.ref a5), .val (.ref a6), .val (.int (0 : Int32)), .val (.int (6 : Int32)), .val (.int (0 : Int32)), .val (.int (1 : Int32)), .val (.int (5 : Int32)), .val (.long (6 : Int64)), .second] [])
  refine own_go (fun _ k => XS.iload X0.here hx rfl (hb hby d7_17) rfl k) ?_
  refine own_go (fun _ k => XS.aloadN X0.here hx rfl (hb hby d7_19) rfl rfl k) ?_
  show own_Run p e below _ T0 (mkF m 20 #[.val (.ref a1), .val (.ref a2), .val (.int (0 : Int32)), .val (.ref a4), .val (.ref a5), .val (.ref a6), .val (.int (0 : Int32)), .val (.int (6 : Int32)), .val (.int (0 : Int32)), .val (.int (1 : Int32)), .val (.int (5 : Int32)), .val (.long (6 : Int64)), .second] [(.ref a4), (.int (6 : Int32))])
  obtain ⟨cl195, Ar195, q195, S195, N195, H195, G195⟩ := id V_a4
  refine own_go (X0.arraylength hx (by rw [e0]; exact Ar195.1) (State.isArrayOf_alike hZ.alike Ar195.2.1) (g := (mkF m 20 #[.val (.ref a1), .val (.ref a2), .val (.int (0 : Int32)), .val (.ref a4), .val (.ref a5), .val (.ref a6), .val (.int (0 : Int32)), .val (.int (6 : Int32)), .val (.int (0 : Int32)), .val (.int (1 : Int32)), .val (.int (5 : Int32)), .val (.long (6 : Int64)), .second] [(.ref a4), (.int (6 : Int32))])) rfl rfl (hb hby d7_20)) ?_
  rw [len_of S195 N195]
  show own_Run p e below _ T0 (mkF m 21 #[.val (.ref a1), .val (.ref a2), .val (.int (0 : Int32)), .val (.ref a4), .val (.ref a5), .val (.ref a6), .val (.int (0 : Int32)), .val (.int (6 : Int32)), .val (.int (0 : Int32)), .val (.int (1 : Int32)), .val (.int (5 : Int32)), .val (.long (6 : Int64)), .second] [(.int (8 : Int32)), (.int (6 : Int32))])
  refine own_go (fun _ k => XS.icmpNo X0.here hx rfl (hb hby d7_21) rfl (tlt (by decide : (6 : Int32) < (8 : Int32))).2.1 k) ?_
  show own_Run p e below _ T0 (mkF m 24 #[.val (.ref a1), .val (.ref a2), .val (.int (0 : Int32)), .val (.ref a4), .val (.ref a5), .val (.ref a6), .val (.int (0 : Int32)), .val (.int (6 : Int32)), .val (.int (0 : Int32)), .val (.int (1 : Int32)), .val (.int (5 : Int32)), .val (.long (6 : Int64)), .second] [])
  refine own_go (fun _ k => XS.iload X0.here hx rfl (hb hby d7_24) rfl k) ?_
  refine own_go (fun _ k => XS.aloadN X0.here hx rfl (hb hby d7_26) rfl rfl k) ?_
  show own_Run p e below _ T0 (mkF m 27 #[.val (.ref a1), .val (.ref a2), .val (.int (0 : Int32)), .val (.ref a4), .val (.ref a5), .val (.ref a6), .val (.int (0 : Int32)), .val (.int (6 : Int32)), .val (.int (0 : Int32)), .val (.int (1 : Int32)), .val (.int (5 : Int32)), .val (.long (6 : Int64)), .second] [(.ref a4), (.int (6 : Int32))])
  obtain ⟨cl196, Ar196, q196, S196, N196, H196, G196⟩ := id V_a4
  refine own_go (X0.arraylength hx (by rw [e0]; exact Ar196.1) (State.isArrayOf_alike hZ.alike Ar196.2.1) (g := (mkF m 27 #[.val (.ref a1), .val (.ref a2), .val (.int (0 : Int32)), .val (.ref a4), .val (.ref a5), .val (.ref a6), .val (.int (0 : Int32)), .val (.int (6 : Int32)), .val (.int (0 : Int32)), .val (.int (1 : Int32)), .val (.int (5 : Int32)), .val (.long (6 : Int64)), .second] [(.ref a4), (.int (6 : Int32))])) rfl rfl (hb hby d7_27)) ?_
  rw [len_of S196 N196]
  show own_Run p e below _ T0 (mkF m 28 #[.val (.ref a1), .val (.ref a2), .val (.int (0 : Int32)), .val (.ref a4), .val (.ref a5), .val (.ref a6), .val (.int (0 : Int32)), .val (.int (6 : Int32)), .val (.int (0 : Int32)), .val (.int (1 : Int32)), .val (.int (5 : Int32)), .val (.long (6 : Int64)), .second] [(.int (8 : Int32)), (.int (6 : Int32))])
  refine own_go (fun _ k => XS.icmpNo X0.here hx rfl (hb hby d7_28) rfl (feq (by decide : ¬ ((6 : Int32) = (8 : Int32)))).1 k) ?_
  show own_Run p e below _ T0 (mkF m 31 #[.val (.ref a1), .val (.ref a2), .val (.int (0 : Int32)), .val (.ref a4), .val (.ref a5), .val (.ref a6), .val (.int (0 : Int32)), .val (.int (6 : Int32)), .val (.int (0 : Int32)), .val (.int (1 : Int32)), .val (.int (5 : Int32)), .val (.long (6 : Int64)), .second] [])
  refine own_go (fun _ k => XS.iload X0.here hx rfl (hb hby d7_31) rfl k) ?_
  refine own_go (fun _ k => XS.iloadN X0.here hx rfl (hb hby d7_33) rfl k) ?_
  show own_Run p e below _ T0 (mkF m 34 #[.val (.ref a1), .val (.ref a2), .val (.int (0 : Int32)), .val (.ref a4), .val (.ref a5), .val (.ref a6), .val (.int (0 : Int32)), .val (.int (6 : Int32)), .val (.int (0 : Int32)), .val (.int (1 : Int32)), .val (.int (5 : Int32)), .val (.long (6 : Int64)), .second] [(.int (0 : Int32)), (.int (0 : Int32))])
  refine own_go (fun _ k => XS.icmpYes X0.here hx rfl (pc0 := 34) (pc' := 52) rfl (hb hby d7_34) rfl (flt (by decide : ¬ ((0 : Int32) < (0 : Int32)))).2.1 (by decide) (by decide) k) ?_
  show own_Run p e below _ T0 (mkF m 52 #[.val (.ref a1), .val (.ref a2), .val (.int (0 : Int32)), .val (.ref a4), .val (.ref a5), .val (.ref a6), .val (.int (0 : Int32)), .val (.int (6 : Int32)), .val (.int (0 : Int32)), .val (.int (1 : Int32)), .val (.int (5 : Int32)), .val (.long (6 : Int64)), .second] [])
  refine own_go (fun _ k => XS.iconst X0.here hx rfl (hb hby d7_52) k) ?_
  refine own_go (fun _ k => XS.istore X0.here hx rfl (hb hby d7_53) rfl (l' := #[.val (.ref a1), .val (.ref a2), .val (.int (0 : Int32)), .val (.ref a4), .val (.ref a5), .val (.ref a6), .val (.int (0 : Int32)), .val (.int (6 : Int32)), .val (.int (0 : Int32)), .val (.int (1 : Int32)), .val (.int (5 : Int32)), .val (.long (6 : Int64)), .second]) rfl k) ?_
  refine own_go (fun _ k => XS.iload X0.here hx rfl (hb hby d7_55) rfl k) ?_
  refine own_go (fun _ k => XS.iloadN X0.here hx rfl (hb hby d7_57) rfl k) ?_
  show own_Run p e below _ T0 (mkF m 58 #[.val (.ref a1), .val (.ref a2), .val (.int (0 : Int32)), .val (.ref a4), .val (.ref a5), .val (.ref a6), .val (.int (0 : Int32)), .val (.int (6 : Int32)), .val (.int (0 : Int32)), .val (.int (1 : Int32)), .val (.int (5 : Int32)), .val (.long (6 : Int64)), .second] [(.int (0 : Int32)), (.int (0 : Int32))])
  refine own_go (fun _ k => XS.icmpYes X0.here hx rfl (pc0 := 58) (pc' := 79) rfl (hb hby d7_58) rfl (teq (by decide : (0 : Int32) = (0 : Int32))).1 (by decide) (by decide) k) ?_
  show own_Run p e below _ T0 (mkF m 79 #[.val (.ref a1), .val (.ref a2), .val (.int (0 : Int32)), .val (.ref a4), .val (.ref a5), .val (.ref a6), .val (.int (0 : Int32)), .val (.int (6 : Int32)), .val (.int (0 : Int32)), .val (.int (1 : Int32)), .val (.int (5 : Int32)), .val (.long (6 : Int64)), .second] [])
  refine own_go (fun _ k => XS.iconst X0.here hx rfl (hb hby d7_79) k) ?_
  refine own_go (fun _ k => XS.goto X0.here hx rfl (pc0 := 80) (pc' := 84) rfl (hb hby d7_80) (by decide) (by decide) k) ?_
  refine own_go (fun _ k => XS.istore X0.here hx rfl (hb hby d7_84) rfl (l' := #[.val (.ref a1), .val (.ref a2), .val (.int (0 : Int32)), .val (.ref a4), .val (.ref a5), .val (.ref a6), .val (.int (0 : Int32)), .val (.int (6 : Int32)), .val (.int (0 : Int32)), .val (.int (1 : Int32)), .val (.int (5 : Int32)), .val (.long (6 : Int64)), .second]) rfl k) ?_
  refine own_go (fun _ k => XS.iload X0.here hx rfl (hb hby d7_86) rfl k) ?_
  show own_Run p e below _ T0 (mkF m 88 #[.val (.ref a1), .val (.ref a2), .val (.int (0 : Int32)), .val (.ref a4), .val (.ref a5), .val (.ref a6), .val (.int (0 : Int32)), .val (.int (6 : Int32)), .val (.int (0 : Int32)), .val (.int (1 : Int32)), .val (.int (5 : Int32)), .val (.long (6 : Int64)), .second] [(.int (0 : Int32))])
  refine own_go (fun _ k => XS.ifYes X0.here hx rfl (pc0 := 88) (pc' := 98) rfl (hb hby d7_88) rfl ((if0 _ _).trans (teq (by decide : (0 : Int32) = (0 : Int32))).1) (by decide) (by decide) k) ?_
  show own_Run p e below _ T0 (mkF m 98 #[.val (.ref a1), .val (.ref a2), .val (.int (0 : Int32)), .val (.ref a4), .val (.ref a5), .val (.ref a6), .val (.int (0 : Int32)), .val (.int (6 : Int32)), .val (.int (0 : Int32)), .val (.int (1 : Int32)), .val (.int (5 : Int32)), .val (.long (6 : Int64)), .second] [])
  refine own_go (fun _ k => XS.aloadN X0.here hx rfl (hb hby d7_98) rfl rfl k) ?_
  refine own_go (fun _ k => XS.iload X0.here hx rfl (hb hby d7_99) rfl k) ?_
  show own_Run p e below _ T0 (mkF m 101 #[.val (.ref a1), .val (.ref a2), .val (.int (0 : Int32)), .val (.ref a4), .val (.ref a5), .val (.ref a6), .val (.int (0 : Int32)), .val (.int (6 : Int32)), .val (.int (0 : Int32)), .val (.int (1 : Int32)), .val (.int (5 : Int32)), .val (.long (6 : Int64)), .second] [(.int (6 : Int32)), (.ref a4)])
  obtain ⟨cl197, Ar197, q197, S197, N197, H197, G197⟩ := id V_a4
  have hin197 : ¬ ((6 : Int32) < 0 ∨ cl197.slots.size ≤ ((6 : Int32)).toNatClampNeg) := inb_of S197 ⟨by decide, by decide⟩
  refine own_go (X0.iaload hx (j := (6 : Int32)) (v := (.int (6 : Int32))) (by rw [e0]; exact Ar197.1) (State.isArrayOf_alike hZ.alike Ar197.2.1) Ar197.2.2 hin197 (H197.at hin197 rfl) (g := (mkF m 101 #[.val (.ref a1), .val (.ref a2), .val (.int (0 : Int32)), .val (.ref a4), .val (.ref a5), .val (.ref a6), .val (.int (0 : Int32)), .val (.int (6 : Int32)), .val (.int (0 : Int32)), .val (.int (1 : Int32)), .val (.int (5 : Int32)), .val (.long (6 : Int64)), .second] [(.int (6 : Int32)), (.ref a4)])) rfl rfl (hb hby d7_101)) ?_
  show own_Run p e below _ T0 (mkF m 102 #[.val (.ref a1), .val (.ref a2), .val (.int (0 : Int32)), .val (.ref a4), .val (.ref a5), .val (.ref a6), .val (.int (0 : Int32)), .val (.int (6 : Int32)), .val (.int (0 : Int32)), .val (.int (1 : Int32)), .val (.int (5 : Int32)), .val (.long (6 : Int64)), .second] [(.int (6 : Int32))])
  refine own_go (fun _ k => XS.istore X0.here hx rfl (hb hby d7_102) rfl (l' := #[.val (.ref a1), .val (.ref a2), .val (.int (0 : Int32)), .val (.ref a4), .val (.ref a5), .val (.ref a6), .val (.int (0 : Int32)), .val (.int (6 : Int32)), .val (.int (0 : Int32)), .val (.int (1 : Int32)), .val (.int (6 : Int32)), .val (.long (6 : Int64)), .second]) rfl k) ?_
  refine own_go (fun _ k => XS.iload X0.here hx rfl (hb hby d7_104) rfl k) ?_
  show own_Run p e below _ T0 (mkF m 106 #[.val (.ref a1), .val (.ref a2), .val (.int (0 : Int32)), .val (.ref a4), .val (.ref a5), .val (.ref a6), .val (.int (0 : Int32)), .val (.int (6 : Int32)), .val (.int (0 : Int32)), .val (.int (1 : Int32)), .val (.int (6 : Int32)), .val (.long (6 : Int64)), .second] [(.int (0 : Int32))])
  refine own_go (fun _ k => XS.ifYes X0.here hx rfl (pc0 := 106) (pc' := 119) rfl (hb hby d7_106) rfl ((if0 _ _).trans (teq (by decide : (0 : Int32) = (0 : Int32))).1) (by decide) (by decide) k) ?_
  show own_Run p e below _ T0 (mkF m 119 #[.val (.ref a1), .val (.ref a2), .val (.int (0 : Int32)), .val (.ref a4), .val (.ref a5), .val (.ref a6), .val (.int (0 : Int32)), .val (.int (6 : Int32)), .val (.int (0 : Int32)), .val (.int (1 : Int32)), .val (.int (6 : Int32)), .val (.long (6 : Int64)), .second] [])
  refine own_go (fun _ k => XS.lconst X0.here hx rfl (hb hby d7_119) k) ?_
  refine own_go (fun _ k => XS.iload X0.here hx rfl (hb hby d7_120) rfl k) ?_
  show own_Run p e below _ T0 (mkF m 122 #[.val (.ref a1), .val (.ref a2), .val (.int (0 : Int32)), .val (.ref a4), .val (.ref a5), .val (.ref a6), .val (.int (0 : Int32)), .val (.int (6 : Int32)), .val (.int (0 : Int32)), .val (.int (1 : Int32)), .val (.int (6 : Int32)), .val (.long (6 : Int64)), .second] [(.int (1 : Int32)), (.long (0 : Int64))])
  refine own_go (fun _ k => XS.ifNo X0.here hx rfl (hb hby d7_122) rfl ((if0 _ _).trans (feq (by decide : ¬ ((1 : Int32) = (0 : Int32)))).1) k) ?_
  show own_Run p e below _ T0 (mkF m 125 #[.val (.ref a1), .val (.ref a2), .val (.int (0 : Int32)), .val (.ref a4), .val (.ref a5), .val (.ref a6), .val (.int (0 : Int32)), .val (.int (6 : Int32)), .val (.int (0 : Int32)), .val (.int (1 : Int32)), .val (.int (6 : Int32)), .val (.long (6 : Int64)), .second] [(.long (0 : Int64))])
  refine own_go (fun _ k => XS.aload X0.here hx rfl (hb hby d7_125) rfl rfl k) ?_
  refine own_go (fun _ k => XS.iload X0.here hx rfl (hb hby d7_127) rfl k) ?_
  refine own_go (fun _ k => XS.iinc X0.here hx rfl (hb hby d7_129) rfl (l' := #[.val (.ref a1), .val (.ref a2), .val (.int (0 : Int32)), .val (.ref a4), .val (.ref a5), .val (.ref a6), .val (.int (0 : Int32)), .val (.int ((6 : Int32) + (1 : Int32))), .val (.int (0 : Int32)), .val (.int (1 : Int32)), .val (.int (6 : Int32)), .val (.long (6 : Int64)), .second]) rfl k) ?_
  show own_Run p e below _ T0 (mkF m 132 #[.val (.ref a1), .val (.ref a2), .val (.int (0 : Int32)), .val (.ref a4), .val (.ref a5), .val (.ref a6), .val (.int (0 : Int32)), .val (.int ((6 : Int32) + (1 : Int32))), .val (.int (0 : Int32)), .val (.int (1 : Int32)), .val (.int (6 : Int32)), .val (.long (6 : Int64)), .second] [(.int (6 : Int32)), (.ref a5), (.long (0 : Int64))])
  rw [show ((6 : Int32) + (1 : Int32)) = (7 : Int32) by decide]
  show own_Run p e below _ T0 (mkF m 132 #[.val (.ref a1), .val (.ref a2), .val (.int (0 : Int32)), .val (.ref a4), .val (.ref a5), .val (.ref a6), .val (.int (0 : Int32)), .val (.int (7 : Int32)), .val (.int (0 : Int32)), .val (.int (1 : Int32)), .val (.int (6 : Int32)), .val (.long (6 : Int64)), .second] [(.int (6 : Int32)), (.ref a5), (.long (0 : Int64))])
  obtain ⟨cl198, Ar198, q198, S198, N198, H198, G198⟩ := id V_a5
  have hin198 : ¬ ((6 : Int32) < 0 ∨ cl198.slots.size ≤ ((6 : Int32)).toNatClampNeg) := inb_of S198 ⟨by decide, by decide⟩
  refine own_go (X0.laload hx (j := (6 : Int32)) (v := (.long (7 : Int64))) (by rw [e0]; exact Ar198.1) (State.isArrayOf_alike hZ.alike Ar198.2.1) Ar198.2.2 hin198 (H198.at hin198 rfl) (g := (mkF m 132 #[.val (.ref a1), .val (.ref a2), .val (.int (0 : Int32)), .val (.ref a4), .val (.ref a5), .val (.ref a6), .val (.int (0 : Int32)), .val (.int (7 : Int32)), .val (.int (0 : Int32)), .val (.int (1 : Int32)), .val (.int (6 : Int32)), .val (.long (6 : Int64)), .second] [(.int (6 : Int32)), (.ref a5), (.long (0 : Int64))])) rfl rfl (hb hby d7_132)) ?_
  show own_Run p e below _ T0 (mkF m 133 #[.val (.ref a1), .val (.ref a2), .val (.int (0 : Int32)), .val (.ref a4), .val (.ref a5), .val (.ref a6), .val (.int (0 : Int32)), .val (.int (7 : Int32)), .val (.int (0 : Int32)), .val (.int (1 : Int32)), .val (.int (6 : Int32)), .val (.long (6 : Int64)), .second] [(.long (7 : Int64)), (.long (0 : Int64))])
  refine own_go (fun _ k => XS.goto X0.here hx rfl (pc0 := 133) (pc' := 137) rfl (hb hby d7_133) (by decide) (by decide) k) ?_
  show own_Run p e below _ T0 (mkF m 137 #[.val (.ref a1), .val (.ref a2), .val (.int (0 : Int32)), .val (.ref a4), .val (.ref a5), .val (.ref a6), .val (.int (0 : Int32)), .val (.int (7 : Int32)), .val (.int (0 : Int32)), .val (.int (1 : Int32)), .val (.int (6 : Int32)), .val (.long (6 : Int64)), .second] [(.long (7 : Int64)), (.long (0 : Int64))])
  obtain ⟨_, _, ⟨T199, L199, k199, n199⟩, -, X199, ⟨Lc199, hQ199, l199, y199, z199⟩, st199⟩ := Jvm.LawKit.callS X0 hx (y := (⟨"java/lang/Math", "addExact", "(JJ)J"⟩ : MethodName)) hown (mvT hZ (W 52 rfl)) (mvT hZ (W 53 rfl)) (mvT hZ (W 54 rfl)) (mvT hZ (W 55 rfl)) (by decide) (backOf (W := 0) (rm9 l Z a0 hw [] (0 : Int64) (7 : Int64) hh n0 Z0 (by decide)) hZ (W 55 rfl) (W 54 rfl) (by decide) (by decide)) (g := (mkF m 137 #[.val (.ref a1), .val (.ref a2), .val (.int (0 : Int32)), .val (.ref a4), .val (.ref a5), .val (.ref a6), .val (.int (0 : Int32)), .val (.int (7 : Int32)), .val (.int (0 : Int32)), .val (.int (1 : Int32)), .val (.int (6 : Int32)), .val (.long (6 : Int64)), .second] [(.long (7 : Int64)), (.long (0 : Int64))])) rfl (by rw [hml]; rfl) (argsL := [(.long (0 : Int64)), (.long (7 : Int64))]) (rest := []) (lenOf pd_4 rfl) rfl (by show 2 * 0 + _ ≤ _; exact Nat.le_of_eq rfl) (hb hby d7_137) (fun _ _ => ⟨rfl, e0, (by decide : 0 + 0 ≤ _), (by decide : 0 + 0 ≤ _)⟩)
  dsimp only [Pt.U, Pt.locs, Pt.cells, Pt.slots] at X199 l199 y199 z199 st199 hQ199
  subst l199 y199 z199
  obtain ⟨rfl, N199q, e199⟩ := hQ199
  have N199 := Fr.app N0 N199q
  refine own_go st199 ?_
  show own_Run p e below _ T199 (mkF m 140 #[.val (.ref a1), .val (.ref a2), .val (.int (0 : Int32)), .val (.ref a4), .val (.ref a5), .val (.ref a6), .val (.int (0 : Int32)), .val (.int (7 : Int32)), .val (.int (0 : Int32)), .val (.int (1 : Int32)), .val (.int (6 : Int32)), .val (.long (6 : Int64)), .second] [(.long ((0 : Int64) + (7 : Int64)))])
  rw [show ((0 : Int64) + (7 : Int64)) = (7 : Int64) by decide]
  show own_Run p e below _ T199 (mkF m 140 #[.val (.ref a1), .val (.ref a2), .val (.int (0 : Int32)), .val (.ref a4), .val (.ref a5), .val (.ref a6), .val (.int (0 : Int32)), .val (.int (7 : Int32)), .val (.int (0 : Int32)), .val (.int (1 : Int32)), .val (.int (6 : Int32)), .val (.long (6 : Int64)), .second] [(.long (7 : Int64))])
  refine own_go (fun _ k => XS.lstore X199.here hx rfl (hb hby d7_140) rfl (l' := #[.val (.ref a1), .val (.ref a2), .val (.int (0 : Int32)), .val (.ref a4), .val (.ref a5), .val (.ref a6), .val (.int (0 : Int32)), .val (.int (7 : Int32)), .val (.int (0 : Int32)), .val (.int (1 : Int32)), .val (.int (6 : Int32)), .val (.long (7 : Int64)), .second]) rfl k) ?_
  refine own_go (fun _ k => XS.lload X199.here hx rfl (hb hby d7_142) rfl k) ?_
  refine own_go (fun _ k => XS.lconst X199.here hx rfl (hb hby d7_144) k) ?_
  refine own_go (fun _ k => XS.lcmp X199.here hx rfl (hb hby d7_145) rfl k) ?_
  show own_Run p e below _ T199 (mkF m 146 #[.val (.ref a1), .val (.ref a2), .val (.int (0 : Int32)), .val (.ref a4), .val (.ref a5), .val (.ref a6), .val (.int (0 : Int32)), .val (.int (7 : Int32)), .val (.int (0 : Int32)), .val (.int (1 : Int32)), .val (.int (6 : Int32)), .val (.long (7 : Int64)), .second] [(.int (lcmpW (7 : Int64) (0 : Int64)))])
  refine own_go (fun _ k => XS.ifNo X199.here hx rfl (hb hby d7_146) rfl (own_lcFe (by decide : ¬ ((7 : Int64) = (0 : Int64)))).1 k) ?_
  show own_Run p e below _ T199 (mkF m 149 #[.val (.ref a1), .val (.ref a2), .val (.int (0 : Int32)), .val (.ref a4), .val (.ref a5), .val (.ref a6), .val (.int (0 : Int32)), .val (.int (7 : Int32)), .val (.int (0 : Int32)), .val (.int (1 : Int32)), .val (.int (6 : Int32)), .val (.long (7 : Int64)), .second] [])
  refine own_go (fun _ k => XS.aload X199.here hx rfl (hb hby d7_149) rfl rfl k) ?_
  refine own_go (fun _ k => XS.iload X199.here hx rfl (hb hby d7_151) rfl k) ?_
  refine own_go (fun _ k => XS.lload X199.here hx rfl (hb hby d7_153) rfl k) ?_
  show own_Run p e below _ T199 (mkF m 155 #[.val (.ref a1), .val (.ref a2), .val (.int (0 : Int32)), .val (.ref a4), .val (.ref a5), .val (.ref a6), .val (.int (0 : Int32)), .val (.int (7 : Int32)), .val (.int (0 : Int32)), .val (.int (1 : Int32)), .val (.int (6 : Int32)), .val (.long (7 : Int64)), .second] [(.long (7 : Int64)), (.int (6 : Int32)), (.ref a6)])
  obtain ⟨cq200, kq200, q200a, q200b, q200c⟩ := isOf hZ e199 E_a6
  obtain ⟨_, _, ⟨T200, L200, k200, n200⟩, -, X200, ⟨Lc200, hQ200, l200, y200, z200⟩, st200⟩ := X199.virtualBack hx (y := (⟨"com/example/net_reducer/netreducer/analysis/Marking", "add", "(IJ)V"⟩ : MethodName)) (z := (⟨"com/example/net_reducer/netreducer/analysis/Marking", "add", "(IJ)V"⟩ : MethodName)) hown (mvT hZ (W 56 rfl)) (mvT hZ (W 23 rfl)) (notFace_of_selects (args := #[]) (mvT hZ (W 25 rfl))) (mvT hZ (W 25 rfl)) (mvT hZ (W 24 rfl)) (by decide) (backOf (W := 0) (rm3c6 l Z a0 hw [] a6 (6 : Int32) (7 : Int64) b1 b2 k1 k2 (0 : Int32) (1 : Int32) (2 : Int32) (3 : Int32) (4 : Int32) (5 : Int32) (0 : Int32) (0 : Int32) (1 : Int64) (2 : Int64) (3 : Int64) (4 : Int64) (5 : Int64) (6 : Int64) (0 : Int64) (0 : Int64) hh n0 Z0 E_a6 F_places_a6 F_tokens_a6 F_size_a6 V_b1 V_b2 g_a6 g_b1 g_b2 ne_a6_b1 ne_a6_b2 ne_b1_b2) hZ (W 26 rfl) (W 11 rfl) (by decide) (by decide)) q200a q200c (g := (mkF m 155 #[.val (.ref a1), .val (.ref a2), .val (.int (0 : Int32)), .val (.ref a4), .val (.ref a5), .val (.ref a6), .val (.int (0 : Int32)), .val (.int (7 : Int32)), .val (.int (0 : Int32)), .val (.int (1 : Int32)), .val (.int (6 : Int32)), .val (.long (7 : Int64)), .second] [(.long (7 : Int64)), (.int (6 : Int32)), (.ref a6)])) rfl (by rw [hml]; rfl) (Steps.refl _) (argsL := [(.int (6 : Int32)), (.long (7 : Int64))]) (rest := []) (lenOf pd_5 rfl) rfl (by show 2 * 0 + _ ≤ _; exact Nat.le_of_eq rfl) (hb hby d7_155) (fun _ _ => ⟨rfl, e199, (by decide : 0 + 0 ≤ _), (by decide : 0 + 0 ≤ _)⟩)
  dsimp only [Pt.U, Pt.locs, Pt.cells, Pt.slots] at X200 l200 y200 z200 st200 hQ200
  subst l200 y200 z200
  obtain ⟨rfl, N200q, K200, P200_0, P200_1, P200_2, P200_3, P200_4, P200_5⟩ := hQ200
  have N200 := Fr.app N199 N200q
  refine own_goT st200 ?_
  show own_Run p e below _ T200 (mkF m 158 #[.val (.ref a1), .val (.ref a2), .val (.int (0 : Int32)), .val (.ref a4), .val (.ref a5), .val (.ref a6), .val (.int (0 : Int32)), .val (.int (7 : Int32)), .val (.int (0 : Int32)), .val (.int (1 : Int32)), .val (.int (6 : Int32)), .val (.long (7 : Int64)), .second] [])
  have Z0_c201 := Nat.le_trans Z0 K200.1
  have K0_c201 := K0.trans K200 (allS (Or.inl (List.mem_of_getElem? (i := 0) rfl)) (allS (Or.inl (List.mem_of_getElem? (i := 1) rfl)) (allS (Or.inl (List.mem_of_getElem? (i := 2) rfl)) all0)))
  have E_a6_c201 := E_a6.keep K200
  have V_a4_c201 := V_a4.keep K200 (ninS ne_a4_a6 (ninS ne_a4_b1 (ninS ne_a4_b2 nin0)))
  have V_a5_c201 := V_a5.keep K200 (ninS ne_a5_a6 (ninS ne_a5_b1 (ninS ne_a5_b2 nin0)))
  refine own_go (fun _ k => XS.goto X200.here hx rfl (pc0 := 158) (pc' := 11) rfl (hb hby d7_158) (by decide) (by decide) k) ?_
  show own_Run p e below _ T200 (mkF m 11 #[.val (.ref a1), .val (.ref a2), .val (.int (0 : Int32)), .val (.ref a4), .val (.ref a5), .val (.ref a6), .val (.int (0 : Int32)), .val (.int (7 : Int32)), .val (.int (0 : Int32)), .val (.int (1 : Int32)), .val (.int (6 : Int32)), .val (.long (7 : Int64)), .second] [])
  exact mg7 a1 a2 a4 a5 a6 b1 b2 k1 k2 k4 k5 h0 n0 hx hZ hw hby hml hown hnm hret hlk  T200 T200.heap _ X200 rfl N200 Z0_c201 K0_c201 P200_0 P200_1 P200_2 P200_3 P200_4 P200_5 V_a4_c201 V_a5_c201 g_a6 g_b1 g_b2 ne_a6_b1 ne_a6_b2 ne_b1_b2 ne_a4_a6 ne_a4_b1 ne_a4_b2 ne_a5_a6 ne_a5_b1 ne_a5_b2 
set_option maxRecDepth 65536 in
set_option maxHeartbeats 40000000 in
theorem mg5 {p : Program} {l : Launch} {e : Env} {s : State} {m : MethodId} {args : Array Value} {below : List Frame} {meth : Method} {c : Code} {Z : State} {a0 : Array Value} (a1 : Addr) (a2 : Addr) (a4 : Addr) (a5 : Addr) (a6 : Addr) (b1 : Addr) (b2 : Addr) (k1 : ClassId) (k2 : ClassId) (k4 : ClassId) (k5 : ClassId) (h0 : Heap) (n0 : Nat) (hx : p.tables.exec = Jvm.exec) (hZ : Z.Warmed39 s.vm) (hw : ∀ d ∈ tables_1, d.before a0 Z = true) (hby : c.code = prog_10_method_9_code) (hml : c.maxLocals = 13) (hown : s.vm.findClass "com/example/net_reducer/netreducer/analysis/Marking" = some m.cls) (hnm : meth.name = "merge") (hret : meth.sig.returnType = none) (hlk : meth.locks = false)
    (T0 : State) (hh : Heap) (locs : List Loc) (X0 : Stand p l e ({ frames := 1, cells := 0, slots := 0, locals := 20 } : Room) s m args below meth c T0 locs 0 0) (e0 : T0.heap = hh) (N0 : Fr n0 locs) (Z0 : n0 ≤ hh.size) (K0 : Keep h0 hh [a6, b1, b2]) (E_a6 : Exa Z hh a6 "com/example/net_reducer/netreducer/analysis/Marking") (F_places_a6 : Fld Z hh a6 "com/example/net_reducer/netreducer/analysis/Marking" "places" "[I" (.ref b1)) (F_tokens_a6 : Fld Z hh a6 "com/example/net_reducer/netreducer/analysis/Marking" "tokens" "[J" (.ref b2)) (F_size_a6 : Fld Z hh a6 "com/example/net_reducer/netreducer/analysis/Marking" "size" "I" (.int (5 : Int32))) (V_b1 : Arv Z hh b1 k1 .int (8 : Int32) [(.int (0 : Int32)), (.int (1 : Int32)), (.int (2 : Int32)), (.int (3 : Int32)), (.int (4 : Int32)), (.int (0 : Int32)), (.int (0 : Int32)), (.int (0 : Int32))] (.int (0 : Int32))) (V_b2 : Arv Z hh b2 k2 .long (8 : Int32) [(.long (1 : Int64)), (.long (2 : Int64)), (.long (3 : Int64)), (.long (4 : Int64)), (.long (5 : Int64)), (.long (0 : Int64)), (.long (0 : Int64)), (.long (0 : Int64))] (.long (0 : Int64))) (V_a4 : Arv Z hh a4 k4 .int (8 : Int32) [(.int (0 : Int32)), (.int (1 : Int32)), (.int (2 : Int32)), (.int (3 : Int32)), (.int (4 : Int32)), (.int (5 : Int32)), (.int (6 : Int32)), (.int (7 : Int32))] (.int (0 : Int32))) (V_a5 : Arv Z hh a5 k5 .long (8 : Int32) [(.long (1 : Int64)), (.long (2 : Int64)), (.long (3 : Int64)), (.long (4 : Int64)), (.long (5 : Int64)), (.long (6 : Int64)), (.long (7 : Int64)), (.long (8 : Int64))] (.long (0 : Int64))) (g_a6 : n0 ≤ a6) (g_b1 : n0 ≤ b1) (g_b2 : n0 ≤ b2) (ne_a6_b1 : a6 ≠ b1) (ne_a6_b2 : a6 ≠ b2) (ne_b1_b2 : b1 ≠ b2) (ne_a4_a6 : a4 ≠ a6) (ne_a4_b1 : a4 ≠ b1) (ne_a4_b2 : a4 ≠ b2) (ne_a5_a6 : a5 ≠ a6) (ne_a5_b1 : a5 ≠ b1) (ne_a5_b2 : a5 ≠ b2) :
    own_Run p e below (fun o U' => ∃ v L, o = .returned v ∧ Q7 Z a1 a2 a4 a5 a6 b1 b2 k1 k2 k4 k5 h0 n0 v U'.heap L ∧ FrameEnd s o U' L ({ frames := 1, cells := 0, slots := 0, locals := 20 } : Room).cells ({ frames := 1, cells := 0, slots := 0, locals := 20 } : Room).slots) T0 (mkF m 11 #[.val (.ref a1), .val (.ref a2), .val (.int (0 : Int32)), .val (.ref a4), .val (.ref a5), .val (.ref a6), .val (.int (0 : Int32)), .val (.int (5 : Int32)), .val (.int (0 : Int32)), .val (.int (1 : Int32)), .val (.int (4 : Int32)), .val (.long (5 : Int64)), .second] []) := by
  have W := fun (k : Nat) {d : Jvm.Cond} (h : tables_1[k]? = some d) => hw d (List.mem_of_getElem? h)
  show own_Run p e below _ T0 (mkF m 11 #[.val (.ref a1), .val (.ref a2), .val (.int (0 : Int32)), .val (.ref a4), .val (.ref a5), .val (.ref a6), .val (.int (0 : Int32)), .val (.int (5 : Int32)), .val (.int (0 : Int32)), .val (.int (1 : Int32)), .val (.int (4 : Int32)), .val (.long (5 : Int64)), .second] [])
  refine own_go (fun _ k => XS.iload X0.here hx rfl (hb hby d7_11) rfl k) ?_
  refine own_go (fun _ k => XS.iloadN X0.here hx rfl (hb hby d7_13) rfl k) ?_
  show own_Run p e below _ T0 (mkF m 14 #[.val (.ref a1), .val (.ref a2), .val (.int (0 : Int32)), .val (.ref a4), .val (.ref a5), .val (.ref a6), .val (.int (0 : Int32)), .val (.int (5 : Int32)), .val (.int (0 : Int32)), .val (.int (1 : Int32)), .val (.int (4 : Int32)), .val (.long (5 : Int64)), .second] [(.int (0 : Int32)), (.int (0 : Int32))])
  refine own_go (fun _ k => XS.icmpNo X0.here hx rfl (hb hby d7_14) rfl (flt (by decide : ¬ ((0 : Int32) < (0 : Int32)))).1 k) ?_
  show own_Run p e below _ T0 (mkF m 17 #[.val (.ref a1), .val (.ref a2), .val (.int (0 : Int32)), .val (.ref a4), .val (.ref a5), .val (.ref a6), .val (.int (0 : Int32)), .val (.int (5 : Int32)), .val (.int (0 : Int32)), .val (.int (1 : Int32)), .val (.int (4 : Int32)), .val (.long (5 : Int64)), .second] [])
  refine own_go (fun _ k => XS.iload X0.here hx rfl (hb hby d7_17) rfl k) ?_
  refine own_go (fun _ k => XS.aloadN X0.here hx rfl (hb hby d7_19) rfl rfl k) ?_
  show own_Run p e below _ T0 (mkF m 20 #[.val (.ref a1), .val (.ref a2), .val (.int (0 : Int32)), .val (.ref a4), .val (.ref a5), .val (.ref a6), .val (.int (0 : Int32)), .val (.int (5 : Int32)), .val (.int (0 : Int32)), .val (.int (1 : Int32)), .val (.int (4 : Int32)), .val (.long (5 : Int64)), .second] [(.ref a4), (.int (5 : Int32))])
  obtain ⟨cl202, Ar202, q202, S202, N202, H202, G202⟩ := id V_a4
  refine own_go (X0.arraylength hx (by rw [e0]; exact Ar202.1) (State.isArrayOf_alike hZ.alike Ar202.2.1) (g := (mkF m 20 #[.val (.ref a1), .val (.ref a2), .val (.int (0 : Int32)), .val (.ref a4), .val (.ref a5), .val (.ref a6), .val (.int (0 : Int32)), .val (.int (5 : Int32)), .val (.int (0 : Int32)), .val (.int (1 : Int32)), .val (.int (4 : Int32)), .val (.long (5 : Int64)), .second] [(.ref a4), (.int (5 : Int32))])) rfl rfl (hb hby d7_20)) ?_
  rw [len_of S202 N202]
  show own_Run p e below _ T0 (mkF m 21 #[.val (.ref a1), .val (.ref a2), .val (.int (0 : Int32)), .val (.ref a4), .val (.ref a5), .val (.ref a6), .val (.int (0 : Int32)), .val (.int (5 : Int32)), .val (.int (0 : Int32)), .val (.int (1 : Int32)), .val (.int (4 : Int32)), .val (.long (5 : Int64)), .second] [(.int (8 : Int32)), (.int (5 : Int32))])
  refine own_go (fun _ k => XS.icmpNo X0.here hx rfl (hb hby d7_21) rfl (tlt (by decide : (5 : Int32) < (8 : Int32))).2.1 k) ?_
  show own_Run p e below _ T0 (mkF m 24 #[.val (.ref a1), .val (.ref a2), .val (.int (0 : Int32)), .val (.ref a4), .val (.ref a5), .val (.ref a6), .val (.int (0 : Int32)), .val (.int (5 : Int32)), .val (.int (0 : Int32)), .val (.int (1 : Int32)), .val (.int (4 : Int32)), .val (.long (5 : Int64)), .second] [])
  refine own_go (fun _ k => XS.iload X0.here hx rfl (hb hby d7_24) rfl k) ?_
  refine own_go (fun _ k => XS.aloadN X0.here hx rfl (hb hby d7_26) rfl rfl k) ?_
  show own_Run p e below _ T0 (mkF m 27 #[.val (.ref a1), .val (.ref a2), .val (.int (0 : Int32)), .val (.ref a4), .val (.ref a5), .val (.ref a6), .val (.int (0 : Int32)), .val (.int (5 : Int32)), .val (.int (0 : Int32)), .val (.int (1 : Int32)), .val (.int (4 : Int32)), .val (.long (5 : Int64)), .second] [(.ref a4), (.int (5 : Int32))])
  obtain ⟨cl203, Ar203, q203, S203, N203, H203, G203⟩ := id V_a4
  refine own_go (X0.arraylength hx (by rw [e0]; exact Ar203.1) (State.isArrayOf_alike hZ.alike Ar203.2.1) (g := (mkF m 27 #[.val (.ref a1), .val (.ref a2), .val (.int (0 : Int32)), .val (.ref a4), .val (.ref a5), .val (.ref a6), .val (.int (0 : Int32)), .val (.int (5 : Int32)), .val (.int (0 : Int32)), .val (.int (1 : Int32)), .val (.int (4 : Int32)), .val (.long (5 : Int64)), .second] [(.ref a4), (.int (5 : Int32))])) rfl rfl (hb hby d7_27)) ?_
  rw [len_of S203 N203]
  show own_Run p e below _ T0 (mkF m 28 #[.val (.ref a1), .val (.ref a2), .val (.int (0 : Int32)), .val (.ref a4), .val (.ref a5), .val (.ref a6), .val (.int (0 : Int32)), .val (.int (5 : Int32)), .val (.int (0 : Int32)), .val (.int (1 : Int32)), .val (.int (4 : Int32)), .val (.long (5 : Int64)), .second] [(.int (8 : Int32)), (.int (5 : Int32))])
  refine own_go (fun _ k => XS.icmpNo X0.here hx rfl (hb hby d7_28) rfl (feq (by decide : ¬ ((5 : Int32) = (8 : Int32)))).1 k) ?_
  show own_Run p e below _ T0 (mkF m 31 #[.val (.ref a1), .val (.ref a2), .val (.int (0 : Int32)), .val (.ref a4), .val (.ref a5), .val (.ref a6), .val (.int (0 : Int32)), .val (.int (5 : Int32)), .val (.int (0 : Int32)), .val (.int (1 : Int32)), .val (.int (4 : Int32)), .val (.long (5 : Int64)), .second] [])
  refine own_go (fun _ k => XS.iload X0.here hx rfl (hb hby d7_31) rfl k) ?_
  refine own_go (fun _ k => XS.iloadN X0.here hx rfl (hb hby d7_33) rfl k) ?_
  show own_Run p e below _ T0 (mkF m 34 #[.val (.ref a1), .val (.ref a2), .val (.int (0 : Int32)), .val (.ref a4), .val (.ref a5), .val (.ref a6), .val (.int (0 : Int32)), .val (.int (5 : Int32)), .val (.int (0 : Int32)), .val (.int (1 : Int32)), .val (.int (4 : Int32)), .val (.long (5 : Int64)), .second] [(.int (0 : Int32)), (.int (0 : Int32))])
  refine own_go (fun _ k => XS.icmpYes X0.here hx rfl (pc0 := 34) (pc' := 52) rfl (hb hby d7_34) rfl (flt (by decide : ¬ ((0 : Int32) < (0 : Int32)))).2.1 (by decide) (by decide) k) ?_
  show own_Run p e below _ T0 (mkF m 52 #[.val (.ref a1), .val (.ref a2), .val (.int (0 : Int32)), .val (.ref a4), .val (.ref a5), .val (.ref a6), .val (.int (0 : Int32)), .val (.int (5 : Int32)), .val (.int (0 : Int32)), .val (.int (1 : Int32)), .val (.int (4 : Int32)), .val (.long (5 : Int64)), .second] [])
  refine own_go (fun _ k => XS.iconst X0.here hx rfl (hb hby d7_52) k) ?_
  refine own_go (fun _ k => XS.istore X0.here hx rfl (hb hby d7_53) rfl (l' := #[.val (.ref a1), .val (.ref a2), .val (.int (0 : Int32)), .val (.ref a4), .val (.ref a5), .val (.ref a6), .val (.int (0 : Int32)), .val (.int (5 : Int32)), .val (.int (0 : Int32)), .val (.int (1 : Int32)), .val (.int (4 : Int32)), .val (.long (5 : Int64)), .second]) rfl k) ?_
  refine own_go (fun _ k => XS.iload X0.here hx rfl (hb hby d7_55) rfl k) ?_
  refine own_go (fun _ k => XS.iloadN X0.here hx rfl (hb hby d7_57) rfl k) ?_
  show own_Run p e below _ T0 (mkF m 58 #[.val (.ref a1), .val (.ref a2), .val (.int (0 : Int32)), .val (.ref a4), .val (.ref a5), .val (.ref a6), .val (.int (0 : Int32)), .val (.int (5 : Int32)), .val (.int (0 : Int32)), .val (.int (1 : Int32)), .val (.int (4 : Int32)), .val (.long (5 : Int64)), .second] [(.int (0 : Int32)), (.int (0 : Int32))])
  refine own_go (fun _ k => XS.icmpYes X0.here hx rfl (pc0 := 58) (pc' := 79) rfl (hb hby d7_58) rfl (teq (by decide : (0 : Int32) = (0 : Int32))).1 (by decide) (by decide) k) ?_
  show own_Run p e below _ T0 (mkF m 79 #[.val (.ref a1), .val (.ref a2), .val (.int (0 : Int32)), .val (.ref a4), .val (.ref a5), .val (.ref a6), .val (.int (0 : Int32)), .val (.int (5 : Int32)), .val (.int (0 : Int32)), .val (.int (1 : Int32)), .val (.int (4 : Int32)), .val (.long (5 : Int64)), .second] [])
  refine own_go (fun _ k => XS.iconst X0.here hx rfl (hb hby d7_79) k) ?_
  refine own_go (fun _ k => XS.goto X0.here hx rfl (pc0 := 80) (pc' := 84) rfl (hb hby d7_80) (by decide) (by decide) k) ?_
  refine own_go (fun _ k => XS.istore X0.here hx rfl (hb hby d7_84) rfl (l' := #[.val (.ref a1), .val (.ref a2), .val (.int (0 : Int32)), .val (.ref a4), .val (.ref a5), .val (.ref a6), .val (.int (0 : Int32)), .val (.int (5 : Int32)), .val (.int (0 : Int32)), .val (.int (1 : Int32)), .val (.int (4 : Int32)), .val (.long (5 : Int64)), .second]) rfl k) ?_
  refine own_go (fun _ k => XS.iload X0.here hx rfl (hb hby d7_86) rfl k) ?_
  show own_Run p e below _ T0 (mkF m 88 #[.val (.ref a1), .val (.ref a2), .val (.int (0 : Int32)), .val (.ref a4), .val (.ref a5), .val (.ref a6), .val (.int (0 : Int32)), .val (.int (5 : Int32)), .val (.int (0 : Int32)), .val (.int (1 : Int32)), .val (.int (4 : Int32)), .val (.long (5 : Int64)), .second] [(.int (0 : Int32))])
  refine own_go (fun _ k => XS.ifYes X0.here hx rfl (pc0 := 88) (pc' := 98) rfl (hb hby d7_88) rfl ((if0 _ _).trans (teq (by decide : (0 : Int32) = (0 : Int32))).1) (by decide) (by decide) k) ?_
  show own_Run p e below _ T0 (mkF m 98 #[.val (.ref a1), .val (.ref a2), .val (.int (0 : Int32)), .val (.ref a4), .val (.ref a5), .val (.ref a6), .val (.int (0 : Int32)), .val (.int (5 : Int32)), .val (.int (0 : Int32)), .val (.int (1 : Int32)), .val (.int (4 : Int32)), .val (.long (5 : Int64)), .second] [])
  refine own_go (fun _ k => XS.aloadN X0.here hx rfl (hb hby d7_98) rfl rfl k) ?_
  refine own_go (fun _ k => XS.iload X0.here hx rfl (hb hby d7_99) rfl k) ?_
  show own_Run p e below _ T0 (mkF m 101 #[.val (.ref a1), .val (.ref a2), .val (.int (0 : Int32)), .val (.ref a4), .val (.ref a5), .val (.ref a6), .val (.int (0 : Int32)), .val (.int (5 : Int32)), .val (.int (0 : Int32)), .val (.int (1 : Int32)), .val (.int (4 : Int32)), .val (.long (5 : Int64)), .second] [(.int (5 : Int32)), (.ref a4)])
  obtain ⟨cl204, Ar204, q204, S204, N204, H204, G204⟩ := id V_a4
  have hin204 : ¬ ((5 : Int32) < 0 ∨ cl204.slots.size ≤ ((5 : Int32)).toNatClampNeg) := inb_of S204 ⟨by decide, by decide⟩
  refine own_go (X0.iaload hx (j := (5 : Int32)) (v := (.int (5 : Int32))) (by rw [e0]; exact Ar204.1) (State.isArrayOf_alike hZ.alike Ar204.2.1) Ar204.2.2 hin204 (H204.at hin204 rfl) (g := (mkF m 101 #[.val (.ref a1), .val (.ref a2), .val (.int (0 : Int32)), .val (.ref a4), .val (.ref a5), .val (.ref a6), .val (.int (0 : Int32)), .val (.int (5 : Int32)), .val (.int (0 : Int32)), .val (.int (1 : Int32)), .val (.int (4 : Int32)), .val (.long (5 : Int64)), .second] [(.int (5 : Int32)), (.ref a4)])) rfl rfl (hb hby d7_101)) ?_
  show own_Run p e below _ T0 (mkF m 102 #[.val (.ref a1), .val (.ref a2), .val (.int (0 : Int32)), .val (.ref a4), .val (.ref a5), .val (.ref a6), .val (.int (0 : Int32)), .val (.int (5 : Int32)), .val (.int (0 : Int32)), .val (.int (1 : Int32)), .val (.int (4 : Int32)), .val (.long (5 : Int64)), .second] [(.int (5 : Int32))])
  refine own_go (fun _ k => XS.istore X0.here hx rfl (hb hby d7_102) rfl (l' := #[.val (.ref a1), .val (.ref a2), .val (.int (0 : Int32)), .val (.ref a4), .val (.ref a5), .val (.ref a6), .val (.int (0 : Int32)), .val (.int (5 : Int32)), .val (.int (0 : Int32)), .val (.int (1 : Int32)), .val (.int (5 : Int32)), .val (.long (5 : Int64)), .second]) rfl k) ?_
  refine own_go (fun _ k => XS.iload X0.here hx rfl (hb hby d7_104) rfl k) ?_
  show own_Run p e below _ T0 (mkF m 106 #[.val (.ref a1), .val (.ref a2), .val (.int (0 : Int32)), .val (.ref a4), .val (.ref a5), .val (.ref a6), .val (.int (0 : Int32)), .val (.int (5 : Int32)), .val (.int (0 : Int32)), .val (.int (1 : Int32)), .val (.int (5 : Int32)), .val (.long (5 : Int64)), .second] [(.int (0 : Int32))])
  refine own_go (fun _ k => XS.ifYes X0.here hx rfl (pc0 := 106) (pc' := 119) rfl (hb hby d7_106) rfl ((if0 _ _).trans (teq (by decide : (0 : Int32) = (0 : Int32))).1) (by decide) (by decide) k) ?_
  show own_Run p e below _ T0 (mkF m 119 #[.val (.ref a1), .val (.ref a2), .val (.int (0 : Int32)), .val (.ref a4), .val (.ref a5), .val (.ref a6), .val (.int (0 : Int32)), .val (.int (5 : Int32)), .val (.int (0 : Int32)), .val (.int (1 : Int32)), .val (.int (5 : Int32)), .val (.long (5 : Int64)), .second] [])
  refine own_go (fun _ k => XS.lconst X0.here hx rfl (hb hby d7_119) k) ?_
  refine own_go (fun _ k => XS.iload X0.here hx rfl (hb hby d7_120) rfl k) ?_
  show own_Run p e below _ T0 (mkF m 122 #[.val (.ref a1), .val (.ref a2), .val (.int (0 : Int32)), .val (.ref a4), .val (.ref a5), .val (.ref a6), .val (.int (0 : Int32)), .val (.int (5 : Int32)), .val (.int (0 : Int32)), .val (.int (1 : Int32)), .val (.int (5 : Int32)), .val (.long (5 : Int64)), .second] [(.int (1 : Int32)), (.long (0 : Int64))])
  refine own_go (fun _ k => XS.ifNo X0.here hx rfl (hb hby d7_122) rfl ((if0 _ _).trans (feq (by decide : ¬ ((1 : Int32) = (0 : Int32)))).1) k) ?_
  show own_Run p e below _ T0 (mkF m 125 #[.val (.ref a1), .val (.ref a2), .val (.int (0 : Int32)), .val (.ref a4), .val (.ref a5), .val (.ref a6), .val (.int (0 : Int32)), .val (.int (5 : Int32)), .val (.int (0 : Int32)), .val (.int (1 : Int32)), .val (.int (5 : Int32)), .val (.long (5 : Int64)), .second] [(.long (0 : Int64))])
  refine own_go (fun _ k => XS.aload X0.here hx rfl (hb hby d7_125) rfl rfl k) ?_
  refine own_go (fun _ k => XS.iload X0.here hx rfl (hb hby d7_127) rfl k) ?_
  refine own_go (fun _ k => XS.iinc X0.here hx rfl (hb hby d7_129) rfl (l' := #[.val (.ref a1), .val (.ref a2), .val (.int (0 : Int32)), .val (.ref a4), .val (.ref a5), .val (.ref a6), .val (.int (0 : Int32)), .val (.int ((5 : Int32) + (1 : Int32))), .val (.int (0 : Int32)), .val (.int (1 : Int32)), .val (.int (5 : Int32)), .val (.long (5 : Int64)), .second]) rfl k) ?_
  show own_Run p e below _ T0 (mkF m 132 #[.val (.ref a1), .val (.ref a2), .val (.int (0 : Int32)), .val (.ref a4), .val (.ref a5), .val (.ref a6), .val (.int (0 : Int32)), .val (.int ((5 : Int32) + (1 : Int32))), .val (.int (0 : Int32)), .val (.int (1 : Int32)), .val (.int (5 : Int32)), .val (.long (5 : Int64)), .second] [(.int (5 : Int32)), (.ref a5), (.long (0 : Int64))])
  rw [show ((5 : Int32) + (1 : Int32)) = (6 : Int32) by decide]
  show own_Run p e below _ T0 (mkF m 132 #[.val (.ref a1), .val (.ref a2), .val (.int (0 : Int32)), .val (.ref a4), .val (.ref a5), .val (.ref a6), .val (.int (0 : Int32)), .val (.int (6 : Int32)), .val (.int (0 : Int32)), .val (.int (1 : Int32)), .val (.int (5 : Int32)), .val (.long (5 : Int64)), .second] [(.int (5 : Int32)), (.ref a5), (.long (0 : Int64))])
  obtain ⟨cl205, Ar205, q205, S205, N205, H205, G205⟩ := id V_a5
  have hin205 : ¬ ((5 : Int32) < 0 ∨ cl205.slots.size ≤ ((5 : Int32)).toNatClampNeg) := inb_of S205 ⟨by decide, by decide⟩
  refine own_go (X0.laload hx (j := (5 : Int32)) (v := (.long (6 : Int64))) (by rw [e0]; exact Ar205.1) (State.isArrayOf_alike hZ.alike Ar205.2.1) Ar205.2.2 hin205 (H205.at hin205 rfl) (g := (mkF m 132 #[.val (.ref a1), .val (.ref a2), .val (.int (0 : Int32)), .val (.ref a4), .val (.ref a5), .val (.ref a6), .val (.int (0 : Int32)), .val (.int (6 : Int32)), .val (.int (0 : Int32)), .val (.int (1 : Int32)), .val (.int (5 : Int32)), .val (.long (5 : Int64)), .second] [(.int (5 : Int32)), (.ref a5), (.long (0 : Int64))])) rfl rfl (hb hby d7_132)) ?_
  show own_Run p e below _ T0 (mkF m 133 #[.val (.ref a1), .val (.ref a2), .val (.int (0 : Int32)), .val (.ref a4), .val (.ref a5), .val (.ref a6), .val (.int (0 : Int32)), .val (.int (6 : Int32)), .val (.int (0 : Int32)), .val (.int (1 : Int32)), .val (.int (5 : Int32)), .val (.long (5 : Int64)), .second] [(.long (6 : Int64)), (.long (0 : Int64))])
  refine own_go (fun _ k => XS.goto X0.here hx rfl (pc0 := 133) (pc' := 137) rfl (hb hby d7_133) (by decide) (by decide) k) ?_
  show own_Run p e below _ T0 (mkF m 137 #[.val (.ref a1), .val (.ref a2), .val (.int (0 : Int32)), .val (.ref a4), .val (.ref a5), .val (.ref a6), .val (.int (0 : Int32)), .val (.int (6 : Int32)), .val (.int (0 : Int32)), .val (.int (1 : Int32)), .val (.int (5 : Int32)), .val (.long (5 : Int64)), .second] [(.long (6 : Int64)), (.long (0 : Int64))])
  obtain ⟨_, _, ⟨T206, L206, k206, n206⟩, -, X206, ⟨Lc206, hQ206, l206, y206, z206⟩, st206⟩ := Jvm.LawKit.callS X0 hx (y := (⟨"java/lang/Math", "addExact", "(JJ)J"⟩ : MethodName)) hown (mvT hZ (W 52 rfl)) (mvT hZ (W 53 rfl)) (mvT hZ (W 54 rfl)) (mvT hZ (W 55 rfl)) (by decide) (backOf (W := 0) (rm9 l Z a0 hw [] (0 : Int64) (6 : Int64) hh n0 Z0 (by decide)) hZ (W 55 rfl) (W 54 rfl) (by decide) (by decide)) (g := (mkF m 137 #[.val (.ref a1), .val (.ref a2), .val (.int (0 : Int32)), .val (.ref a4), .val (.ref a5), .val (.ref a6), .val (.int (0 : Int32)), .val (.int (6 : Int32)), .val (.int (0 : Int32)), .val (.int (1 : Int32)), .val (.int (5 : Int32)), .val (.long (5 : Int64)), .second] [(.long (6 : Int64)), (.long (0 : Int64))])) rfl (by rw [hml]; rfl) (argsL := [(.long (0 : Int64)), (.long (6 : Int64))]) (rest := []) (lenOf pd_4 rfl) rfl (by show 2 * 0 + _ ≤ _; exact Nat.le_of_eq rfl) (hb hby d7_137) (fun _ _ => ⟨rfl, e0, (by decide : 0 + 0 ≤ _), (by decide : 0 + 0 ≤ _)⟩)
  dsimp only [Pt.U, Pt.locs, Pt.cells, Pt.slots] at X206 l206 y206 z206 st206 hQ206
  subst l206 y206 z206
  obtain ⟨rfl, N206q, e206⟩ := hQ206
  have N206 := Fr.app N0 N206q
  refine own_go st206 ?_
  show own_Run p e below _ T206 (mkF m 140 #[.val (.ref a1), .val (.ref a2), .val (.int (0 : Int32)), .val (.ref a4), .val (.ref a5), .val (.ref a6), .val (.int (0 : Int32)), .val (.int (6 : Int32)), .val (.int (0 : Int32)), .val (.int (1 : Int32)), .val (.int (5 : Int32)), .val (.long (5 : Int64)), .second] [(.long ((0 : Int64) + (6 : Int64)))])
  rw [show ((0 : Int64) + (6 : Int64)) = (6 : Int64) by decide]
  show own_Run p e below _ T206 (mkF m 140 #[.val (.ref a1), .val (.ref a2), .val (.int (0 : Int32)), .val (.ref a4), .val (.ref a5), .val (.ref a6), .val (.int (0 : Int32)), .val (.int (6 : Int32)), .val (.int (0 : Int32)), .val (.int (1 : Int32)), .val (.int (5 : Int32)), .val (.long (5 : Int64)), .second] [(.long (6 : Int64))])
  refine own_go (fun _ k => XS.lstore X206.here hx rfl (hb hby d7_140) rfl (l' := #[.val (.ref a1), .val (.ref a2), .val (.int (0 : Int32)), .val (.ref a4), .val (.ref a5), .val (.ref a6), .val (.int (0 : Int32)), .val (.int (6 : Int32)), .val (.int (0 : Int32)), .val (.int (1 : Int32)), .val (.int (5 : Int32)), .val (.long (6 : Int64)), .second]) rfl k) ?_
  refine own_go (fun _ k => XS.lload X206.here hx rfl (hb hby d7_142) rfl k) ?_
  refine own_go (fun _ k => XS.lconst X206.here hx rfl (hb hby d7_144) k) ?_
  refine own_go (fun _ k => XS.lcmp X206.here hx rfl (hb hby d7_145) rfl k) ?_
  show own_Run p e below _ T206 (mkF m 146 #[.val (.ref a1), .val (.ref a2), .val (.int (0 : Int32)), .val (.ref a4), .val (.ref a5), .val (.ref a6), .val (.int (0 : Int32)), .val (.int (6 : Int32)), .val (.int (0 : Int32)), .val (.int (1 : Int32)), .val (.int (5 : Int32)), .val (.long (6 : Int64)), .second] [(.int (lcmpW (6 : Int64) (0 : Int64)))])
  refine own_go (fun _ k => XS.ifNo X206.here hx rfl (hb hby d7_146) rfl (own_lcFe (by decide : ¬ ((6 : Int64) = (0 : Int64)))).1 k) ?_
  show own_Run p e below _ T206 (mkF m 149 #[.val (.ref a1), .val (.ref a2), .val (.int (0 : Int32)), .val (.ref a4), .val (.ref a5), .val (.ref a6), .val (.int (0 : Int32)), .val (.int (6 : Int32)), .val (.int (0 : Int32)), .val (.int (1 : Int32)), .val (.int (5 : Int32)), .val (.long (6 : Int64)), .second] [])
  refine own_go (fun _ k => XS.aload X206.here hx rfl (hb hby d7_149) rfl rfl k) ?_
  refine own_go (fun _ k => XS.iload X206.here hx rfl (hb hby d7_151) rfl k) ?_
  refine own_go (fun _ k => XS.lload X206.here hx rfl (hb hby d7_153) rfl k) ?_
  show own_Run p e below _ T206 (mkF m 155 #[.val (.ref a1), .val (.ref a2), .val (.int (0 : Int32)), .val (.ref a4), .val (.ref a5), .val (.ref a6), .val (.int (0 : Int32)), .val (.int (6 : Int32)), .val (.int (0 : Int32)), .val (.int (1 : Int32)), .val (.int (5 : Int32)), .val (.long (6 : Int64)), .second] [(.long (6 : Int64)), (.int (5 : Int32)), (.ref a6)])
  obtain ⟨cq207, kq207, q207a, q207b, q207c⟩ := isOf hZ e206 E_a6
  obtain ⟨_, _, ⟨T207, L207, k207, n207⟩, -, X207, ⟨Lc207, hQ207, l207, y207, z207⟩, st207⟩ := X206.virtualBack hx (y := (⟨"com/example/net_reducer/netreducer/analysis/Marking", "add", "(IJ)V"⟩ : MethodName)) (z := (⟨"com/example/net_reducer/netreducer/analysis/Marking", "add", "(IJ)V"⟩ : MethodName)) hown (mvT hZ (W 56 rfl)) (mvT hZ (W 23 rfl)) (notFace_of_selects (args := #[]) (mvT hZ (W 25 rfl))) (mvT hZ (W 25 rfl)) (mvT hZ (W 24 rfl)) (by decide) (backOf (W := 0) (rm3c5 l Z a0 hw [] a6 (5 : Int32) (6 : Int64) b1 b2 k1 k2 (0 : Int32) (1 : Int32) (2 : Int32) (3 : Int32) (4 : Int32) (0 : Int32) (0 : Int32) (0 : Int32) (1 : Int64) (2 : Int64) (3 : Int64) (4 : Int64) (5 : Int64) (0 : Int64) (0 : Int64) (0 : Int64) hh n0 Z0 E_a6 F_places_a6 F_tokens_a6 F_size_a6 V_b1 V_b2 g_a6 g_b1 g_b2 ne_a6_b1 ne_a6_b2 ne_b1_b2) hZ (W 26 rfl) (W 11 rfl) (by decide) (by decide)) q207a q207c (g := (mkF m 155 #[.val (.ref a1), .val (.ref a2), .val (.int (0 : Int32)), .val (.ref a4), .val (.ref a5), .val (.ref a6), .val (.int (0 : Int32)), .val (.int (6 : Int32)), .val (.int (0 : Int32)), .val (.int (1 : Int32)), .val (.int (5 : Int32)), .val (.long (6 : Int64)), .second] [(.long (6 : Int64)), (.int (5 : Int32)), (.ref a6)])) rfl (by rw [hml]; rfl) (Steps.refl _) (argsL := [(.int (5 : Int32)), (.long (6 : Int64))]) (rest := []) (lenOf pd_5 rfl) rfl (by show 2 * 0 + _ ≤ _; exact Nat.le_of_eq rfl) (hb hby d7_155) (fun _ _ => ⟨rfl, e206, (by decide : 0 + 0 ≤ _), (by decide : 0 + 0 ≤ _)⟩)
  dsimp only [Pt.U, Pt.locs, Pt.cells, Pt.slots] at X207 l207 y207 z207 st207 hQ207
  subst l207 y207 z207
  obtain ⟨rfl, N207q, K207, P207_0, P207_1, P207_2, P207_3, P207_4, P207_5⟩ := hQ207
  have N207 := Fr.app N206 N207q
  refine own_goT st207 ?_
  show own_Run p e below _ T207 (mkF m 158 #[.val (.ref a1), .val (.ref a2), .val (.int (0 : Int32)), .val (.ref a4), .val (.ref a5), .val (.ref a6), .val (.int (0 : Int32)), .val (.int (6 : Int32)), .val (.int (0 : Int32)), .val (.int (1 : Int32)), .val (.int (5 : Int32)), .val (.long (6 : Int64)), .second] [])
  have Z0_c208 := Nat.le_trans Z0 K207.1
  have K0_c208 := K0.trans K207 (allS (Or.inl (List.mem_of_getElem? (i := 0) rfl)) (allS (Or.inl (List.mem_of_getElem? (i := 1) rfl)) (allS (Or.inl (List.mem_of_getElem? (i := 2) rfl)) all0)))
  have E_a6_c208 := E_a6.keep K207
  have V_a4_c208 := V_a4.keep K207 (ninS ne_a4_a6 (ninS ne_a4_b1 (ninS ne_a4_b2 nin0)))
  have V_a5_c208 := V_a5.keep K207 (ninS ne_a5_a6 (ninS ne_a5_b1 (ninS ne_a5_b2 nin0)))
  refine own_go (fun _ k => XS.goto X207.here hx rfl (pc0 := 158) (pc' := 11) rfl (hb hby d7_158) (by decide) (by decide) k) ?_
  show own_Run p e below _ T207 (mkF m 11 #[.val (.ref a1), .val (.ref a2), .val (.int (0 : Int32)), .val (.ref a4), .val (.ref a5), .val (.ref a6), .val (.int (0 : Int32)), .val (.int (6 : Int32)), .val (.int (0 : Int32)), .val (.int (1 : Int32)), .val (.int (5 : Int32)), .val (.long (6 : Int64)), .second] [])
  exact mg6 a1 a2 a4 a5 a6 b1 b2 k1 k2 k4 k5 h0 n0 hx hZ hw hby hml hown hnm hret hlk  T207 T207.heap _ X207 rfl N207 Z0_c208 K0_c208 P207_0 P207_1 P207_2 P207_3 P207_4 P207_5 V_a4_c208 V_a5_c208 g_a6 g_b1 g_b2 ne_a6_b1 ne_a6_b2 ne_b1_b2 ne_a4_a6 ne_a4_b1 ne_a4_b2 ne_a5_a6 ne_a5_b1 ne_a5_b2 
set_option maxRecDepth 65536 in
set_option maxHeartbeats 40000000 in
theorem mg4 {p : Program} {l : Launch} {e : Env} {s : State} {m : MethodId} {args : Array Value} {below : List Frame} {meth : Method} {c : Code} {Z : State} {a0 : Array Value} (a1 : Addr) (a2 : Addr) (a4 : Addr) (a5 : Addr) (a6 : Addr) (b1 : Addr) (b2 : Addr) (k1 : ClassId) (k2 : ClassId) (k4 : ClassId) (k5 : ClassId) (h0 : Heap) (n0 : Nat) (hx : p.tables.exec = Jvm.exec) (hZ : Z.Warmed39 s.vm) (hw : ∀ d ∈ tables_1, d.before a0 Z = true) (hby : c.code = prog_10_method_9_code) (hml : c.maxLocals = 13) (hown : s.vm.findClass "com/example/net_reducer/netreducer/analysis/Marking" = some m.cls) (hnm : meth.name = "merge") (hret : meth.sig.returnType = none) (hlk : meth.locks = false)
    (T0 : State) (hh : Heap) (locs : List Loc) (X0 : Stand p l e ({ frames := 1, cells := 0, slots := 0, locals := 20 } : Room) s m args below meth c T0 locs 0 0) (e0 : T0.heap = hh) (N0 : Fr n0 locs) (Z0 : n0 ≤ hh.size) (K0 : Keep h0 hh [a6, b1, b2]) (E_a6 : Exa Z hh a6 "com/example/net_reducer/netreducer/analysis/Marking") (F_places_a6 : Fld Z hh a6 "com/example/net_reducer/netreducer/analysis/Marking" "places" "[I" (.ref b1)) (F_tokens_a6 : Fld Z hh a6 "com/example/net_reducer/netreducer/analysis/Marking" "tokens" "[J" (.ref b2)) (F_size_a6 : Fld Z hh a6 "com/example/net_reducer/netreducer/analysis/Marking" "size" "I" (.int (4 : Int32))) (V_b1 : Arv Z hh b1 k1 .int (8 : Int32) [(.int (0 : Int32)), (.int (1 : Int32)), (.int (2 : Int32)), (.int (3 : Int32)), (.int (0 : Int32)), (.int (0 : Int32)), (.int (0 : Int32)), (.int (0 : Int32))] (.int (0 : Int32))) (V_b2 : Arv Z hh b2 k2 .long (8 : Int32) [(.long (1 : Int64)), (.long (2 : Int64)), (.long (3 : Int64)), (.long (4 : Int64)), (.long (0 : Int64)), (.long (0 : Int64)), (.long (0 : Int64)), (.long (0 : Int64))] (.long (0 : Int64))) (V_a4 : Arv Z hh a4 k4 .int (8 : Int32) [(.int (0 : Int32)), (.int (1 : Int32)), (.int (2 : Int32)), (.int (3 : Int32)), (.int (4 : Int32)), (.int (5 : Int32)), (.int (6 : Int32)), (.int (7 : Int32))] (.int (0 : Int32))) (V_a5 : Arv Z hh a5 k5 .long (8 : Int32) [(.long (1 : Int64)), (.long (2 : Int64)), (.long (3 : Int64)), (.long (4 : Int64)), (.long (5 : Int64)), (.long (6 : Int64)), (.long (7 : Int64)), (.long (8 : Int64))] (.long (0 : Int64))) (g_a6 : n0 ≤ a6) (g_b1 : n0 ≤ b1) (g_b2 : n0 ≤ b2) (ne_a6_b1 : a6 ≠ b1) (ne_a6_b2 : a6 ≠ b2) (ne_b1_b2 : b1 ≠ b2) (ne_a4_a6 : a4 ≠ a6) (ne_a4_b1 : a4 ≠ b1) (ne_a4_b2 : a4 ≠ b2) (ne_a5_a6 : a5 ≠ a6) (ne_a5_b1 : a5 ≠ b1) (ne_a5_b2 : a5 ≠ b2) :
    own_Run p e below (fun o U' => ∃ v L, o = .returned v ∧ Q7 Z a1 a2 a4 a5 a6 b1 b2 k1 k2 k4 k5 h0 n0 v U'.heap L ∧ FrameEnd s o U' L ({ frames := 1, cells := 0, slots := 0, locals := 20 } : Room).cells ({ frames := 1, cells := 0, slots := 0, locals := 20 } : Room).slots) T0 (mkF m 11 #[.val (.ref a1), .val (.ref a2), .val (.int (0 : Int32)), .val (.ref a4), .val (.ref a5), .val (.ref a6), .val (.int (0 : Int32)), .val (.int (4 : Int32)), .val (.int (0 : Int32)), .val (.int (1 : Int32)), .val (.int (3 : Int32)), .val (.long (4 : Int64)), .second] []) := by
  have W := fun (k : Nat) {d : Jvm.Cond} (h : tables_1[k]? = some d) => hw d (List.mem_of_getElem? h)
  show own_Run p e below _ T0 (mkF m 11 #[.val (.ref a1), .val (.ref a2), .val (.int (0 : Int32)), .val (.ref a4), .val (.ref a5), .val (.ref a6), .val (.int (0 : Int32)), .val (.int (4 : Int32)), .val (.int (0 : Int32)), .val (.int (1 : Int32)), .val (.int (3 : Int32)), .val (.long (4 : Int64)), .second] [])
  refine own_go (fun _ k => XS.iload X0.here hx rfl (hb hby d7_11) rfl k) ?_
  refine own_go (fun _ k => XS.iloadN X0.here hx rfl (hb hby d7_13) rfl k) ?_
  show own_Run p e below _ T0 (mkF m 14 #[.val (.ref a1), .val (.ref a2), .val (.int (0 : Int32)), .val (.ref a4), .val (.ref a5), .val (.ref a6), .val (.int (0 : Int32)), .val (.int (4 : Int32)), .val (.int (0 : Int32)), .val (.int (1 : Int32)), .val (.int (3 : Int32)), .val (.long (4 : Int64)), .second] [(.int (0 : Int32)), (.int (0 : Int32))])
  refine own_go (fun _ k => XS.icmpNo X0.here hx rfl (hb hby d7_14) rfl (flt (by decide : ¬ ((0 : Int32) < (0 : Int32)))).1 k) ?_
  show own_Run p e below _ T0 (mkF m 17 #[.val (.ref a1), .val (.ref a2), .val (.int (0 : Int32)), .val (.ref a4), .val (.ref a5), .val (.ref a6), .val (.int (0 : Int32)), .val (.int (4 : Int32)), .val (.int (0 : Int32)), .val (.int (1 : Int32)), .val (.int (3 : Int32)), .val (.long (4 : Int64)), .second] [])
  refine own_go (fun _ k => XS.iload X0.here hx rfl (hb hby d7_17) rfl k) ?_
  refine own_go (fun _ k => XS.aloadN X0.here hx rfl (hb hby d7_19) rfl rfl k) ?_
  show own_Run p e below _ T0 (mkF m 20 #[.val (.ref a1), .val (.ref a2), .val (.int (0 : Int32)), .val (.ref a4), .val (.ref a5), .val (.ref a6), .val (.int (0 : Int32)), .val (.int (4 : Int32)), .val (.int (0 : Int32)), .val (.int (1 : Int32)), .val (.int (3 : Int32)), .val (.long (4 : Int64)), .second] [(.ref a4), (.int (4 : Int32))])
  obtain ⟨cl209, Ar209, q209, S209, N209, H209, G209⟩ := id V_a4
  refine own_go (X0.arraylength hx (by rw [e0]; exact Ar209.1) (State.isArrayOf_alike hZ.alike Ar209.2.1) (g := (mkF m 20 #[.val (.ref a1), .val (.ref a2), .val (.int (0 : Int32)), .val (.ref a4), .val (.ref a5), .val (.ref a6), .val (.int (0 : Int32)), .val (.int (4 : Int32)), .val (.int (0 : Int32)), .val (.int (1 : Int32)), .val (.int (3 : Int32)), .val (.long (4 : Int64)), .second] [(.ref a4), (.int (4 : Int32))])) rfl rfl (hb hby d7_20)) ?_
  rw [len_of S209 N209]
  show own_Run p e below _ T0 (mkF m 21 #[.val (.ref a1), .val (.ref a2), .val (.int (0 : Int32)), .val (.ref a4), .val (.ref a5), .val (.ref a6), .val (.int (0 : Int32)), .val (.int (4 : Int32)), .val (.int (0 : Int32)), .val (.int (1 : Int32)), .val (.int (3 : Int32)), .val (.long (4 : Int64)), .second] [(.int (8 : Int32)), (.int (4 : Int32))])
  refine own_go (fun _ k => XS.icmpNo X0.here hx rfl (hb hby d7_21) rfl (tlt (by decide : (4 : Int32) < (8 : Int32))).2.1 k) ?_
  show own_Run p e below _ T0 (mkF m 24 #[.val (.ref a1), .val (.ref a2), .val (.int (0 : Int32)), .val (.ref a4), .val (.ref a5), .val (.ref a6), .val (.int (0 : Int32)), .val (.int (4 : Int32)), .val (.int (0 : Int32)), .val (.int (1 : Int32)), .val (.int (3 : Int32)), .val (.long (4 : Int64)), .second] [])
  refine own_go (fun _ k => XS.iload X0.here hx rfl (hb hby d7_24) rfl k) ?_
  refine own_go (fun _ k => XS.aloadN X0.here hx rfl (hb hby d7_26) rfl rfl k) ?_
  show own_Run p e below _ T0 (mkF m 27 #[.val (.ref a1), .val (.ref a2), .val (.int (0 : Int32)), .val (.ref a4), .val (.ref a5), .val (.ref a6), .val (.int (0 : Int32)), .val (.int (4 : Int32)), .val (.int (0 : Int32)), .val (.int (1 : Int32)), .val (.int (3 : Int32)), .val (.long (4 : Int64)), .second] [(.ref a4), (.int (4 : Int32))])
  obtain ⟨cl210, Ar210, q210, S210, N210, H210, G210⟩ := id V_a4
  refine own_go (X0.arraylength hx (by rw [e0]; exact Ar210.1) (State.isArrayOf_alike hZ.alike Ar210.2.1) (g := (mkF m 27 #[.val (.ref a1), .val (.ref a2), .val (.int (0 : Int32)), .val (.ref a4), .val (.ref a5), .val (.ref a6), .val (.int (0 : Int32)), .val (.int (4 : Int32)), .val (.int (0 : Int32)), .val (.int (1 : Int32)), .val (.int (3 : Int32)), .val (.long (4 : Int64)), .second] [(.ref a4), (.int (4 : Int32))])) rfl rfl (hb hby d7_27)) ?_
  rw [len_of S210 N210]
  show own_Run p e below _ T0 (mkF m 28 #[.val (.ref a1), .val (.ref a2), .val (.int (0 : Int32)), .val (.ref a4), .val (.ref a5), .val (.ref a6), .val (.int (0 : Int32)), .val (.int (4 : Int32)), .val (.int (0 : Int32)), .val (.int (1 : Int32)), .val (.int (3 : Int32)), .val (.long (4 : Int64)), .second] [(.int (8 : Int32)), (.int (4 : Int32))])
  refine own_go (fun _ k => XS.icmpNo X0.here hx rfl (hb hby d7_28) rfl (feq (by decide : ¬ ((4 : Int32) = (8 : Int32)))).1 k) ?_
  show own_Run p e below _ T0 (mkF m 31 #[.val (.ref a1), .val (.ref a2), .val (.int (0 : Int32)), .val (.ref a4), .val (.ref a5), .val (.ref a6), .val (.int (0 : Int32)), .val (.int (4 : Int32)), .val (.int (0 : Int32)), .val (.int (1 : Int32)), .val (.int (3 : Int32)), .val (.long (4 : Int64)), .second] [])
  refine own_go (fun _ k => XS.iload X0.here hx rfl (hb hby d7_31) rfl k) ?_
  refine own_go (fun _ k => XS.iloadN X0.here hx rfl (hb hby d7_33) rfl k) ?_
  show own_Run p e below _ T0 (mkF m 34 #[.val (.ref a1), .val (.ref a2), .val (.int (0 : Int32)), .val (.ref a4), .val (.ref a5), .val (.ref a6), .val (.int (0 : Int32)), .val (.int (4 : Int32)), .val (.int (0 : Int32)), .val (.int (1 : Int32)), .val (.int (3 : Int32)), .val (.long (4 : Int64)), .second] [(.int (0 : Int32)), (.int (0 : Int32))])
  refine own_go (fun _ k => XS.icmpYes X0.here hx rfl (pc0 := 34) (pc' := 52) rfl (hb hby d7_34) rfl (flt (by decide : ¬ ((0 : Int32) < (0 : Int32)))).2.1 (by decide) (by decide) k) ?_
  show own_Run p e below _ T0 (mkF m 52 #[.val (.ref a1), .val (.ref a2), .val (.int (0 : Int32)), .val (.ref a4), .val (.ref a5), .val (.ref a6), .val (.int (0 : Int32)), .val (.int (4 : Int32)), .val (.int (0 : Int32)), .val (.int (1 : Int32)), .val (.int (3 : Int32)), .val (.long (4 : Int64)), .second] [])
  refine own_go (fun _ k => XS.iconst X0.here hx rfl (hb hby d7_52) k) ?_
  refine own_go (fun _ k => XS.istore X0.here hx rfl (hb hby d7_53) rfl (l' := #[.val (.ref a1), .val (.ref a2), .val (.int (0 : Int32)), .val (.ref a4), .val (.ref a5), .val (.ref a6), .val (.int (0 : Int32)), .val (.int (4 : Int32)), .val (.int (0 : Int32)), .val (.int (1 : Int32)), .val (.int (3 : Int32)), .val (.long (4 : Int64)), .second]) rfl k) ?_
  refine own_go (fun _ k => XS.iload X0.here hx rfl (hb hby d7_55) rfl k) ?_
  refine own_go (fun _ k => XS.iloadN X0.here hx rfl (hb hby d7_57) rfl k) ?_
  show own_Run p e below _ T0 (mkF m 58 #[.val (.ref a1), .val (.ref a2), .val (.int (0 : Int32)), .val (.ref a4), .val (.ref a5), .val (.ref a6), .val (.int (0 : Int32)), .val (.int (4 : Int32)), .val (.int (0 : Int32)), .val (.int (1 : Int32)), .val (.int (3 : Int32)), .val (.long (4 : Int64)), .second] [(.int (0 : Int32)), (.int (0 : Int32))])
  refine own_go (fun _ k => XS.icmpYes X0.here hx rfl (pc0 := 58) (pc' := 79) rfl (hb hby d7_58) rfl (teq (by decide : (0 : Int32) = (0 : Int32))).1 (by decide) (by decide) k) ?_
  show own_Run p e below _ T0 (mkF m 79 #[.val (.ref a1), .val (.ref a2), .val (.int (0 : Int32)), .val (.ref a4), .val (.ref a5), .val (.ref a6), .val (.int (0 : Int32)), .val (.int (4 : Int32)), .val (.int (0 : Int32)), .val (.int (1 : Int32)), .val (.int (3 : Int32)), .val (.long (4 : Int64)), .second] [])
  refine own_go (fun _ k => XS.iconst X0.here hx rfl (hb hby d7_79) k) ?_
  refine own_go (fun _ k => XS.goto X0.here hx rfl (pc0 := 80) (pc' := 84) rfl (hb hby d7_80) (by decide) (by decide) k) ?_
  refine own_go (fun _ k => XS.istore X0.here hx rfl (hb hby d7_84) rfl (l' := #[.val (.ref a1), .val (.ref a2), .val (.int (0 : Int32)), .val (.ref a4), .val (.ref a5), .val (.ref a6), .val (.int (0 : Int32)), .val (.int (4 : Int32)), .val (.int (0 : Int32)), .val (.int (1 : Int32)), .val (.int (3 : Int32)), .val (.long (4 : Int64)), .second]) rfl k) ?_
  refine own_go (fun _ k => XS.iload X0.here hx rfl (hb hby d7_86) rfl k) ?_
  show own_Run p e below _ T0 (mkF m 88 #[.val (.ref a1), .val (.ref a2), .val (.int (0 : Int32)), .val (.ref a4), .val (.ref a5), .val (.ref a6), .val (.int (0 : Int32)), .val (.int (4 : Int32)), .val (.int (0 : Int32)), .val (.int (1 : Int32)), .val (.int (3 : Int32)), .val (.long (4 : Int64)), .second] [(.int (0 : Int32))])
  refine own_go (fun _ k => XS.ifYes X0.here hx rfl (pc0 := 88) (pc' := 98) rfl (hb hby d7_88) rfl ((if0 _ _).trans (teq (by decide : (0 : Int32) = (0 : Int32))).1) (by decide) (by decide) k) ?_
  show own_Run p e below _ T0 (mkF m 98 #[.val (.ref a1), .val (.ref a2), .val (.int (0 : Int32)), .val (.ref a4), .val (.ref a5), .val (.ref a6), .val (.int (0 : Int32)), .val (.int (4 : Int32)), .val (.int (0 : Int32)), .val (.int (1 : Int32)), .val (.int (3 : Int32)), .val (.long (4 : Int64)), .second] [])
  refine own_go (fun _ k => XS.aloadN X0.here hx rfl (hb hby d7_98) rfl rfl k) ?_
  refine own_go (fun _ k => XS.iload X0.here hx rfl (hb hby d7_99) rfl k) ?_
  show own_Run p e below _ T0 (mkF m 101 #[.val (.ref a1), .val (.ref a2), .val (.int (0 : Int32)), .val (.ref a4), .val (.ref a5), .val (.ref a6), .val (.int (0 : Int32)), .val (.int (4 : Int32)), .val (.int (0 : Int32)), .val (.int (1 : Int32)), .val (.int (3 : Int32)), .val (.long (4 : Int64)), .second] [(.int (4 : Int32)), (.ref a4)])
  obtain ⟨cl211, Ar211, q211, S211, N211, H211, G211⟩ := id V_a4
  have hin211 : ¬ ((4 : Int32) < 0 ∨ cl211.slots.size ≤ ((4 : Int32)).toNatClampNeg) := inb_of S211 ⟨by decide, by decide⟩
  refine own_go (X0.iaload hx (j := (4 : Int32)) (v := (.int (4 : Int32))) (by rw [e0]; exact Ar211.1) (State.isArrayOf_alike hZ.alike Ar211.2.1) Ar211.2.2 hin211 (H211.at hin211 rfl) (g := (mkF m 101 #[.val (.ref a1), .val (.ref a2), .val (.int (0 : Int32)), .val (.ref a4), .val (.ref a5), .val (.ref a6), .val (.int (0 : Int32)), .val (.int (4 : Int32)), .val (.int (0 : Int32)), .val (.int (1 : Int32)), .val (.int (3 : Int32)), .val (.long (4 : Int64)), .second] [(.int (4 : Int32)), (.ref a4)])) rfl rfl (hb hby d7_101)) ?_
  show own_Run p e below _ T0 (mkF m 102 #[.val (.ref a1), .val (.ref a2), .val (.int (0 : Int32)), .val (.ref a4), .val (.ref a5), .val (.ref a6), .val (.int (0 : Int32)), .val (.int (4 : Int32)), .val (.int (0 : Int32)), .val (.int (1 : Int32)), .val (.int (3 : Int32)), .val (.long (4 : Int64)), .second] [(.int (4 : Int32))])
  refine own_go (fun _ k => XS.istore X0.here hx rfl (hb hby d7_102) rfl (l' := #[.val (.ref a1), .val (.ref a2), .val (.int (0 : Int32)), .val (.ref a4), .val (.ref a5), .val (.ref a6), .val (.int (0 : Int32)), .val (.int (4 : Int32)), .val (.int (0 : Int32)), .val (.int (1 : Int32)), .val (.int (4 : Int32)), .val (.long (4 : Int64)), .second]) rfl k) ?_
  refine own_go (fun _ k => XS.iload X0.here hx rfl (hb hby d7_104) rfl k) ?_
  show own_Run p e below _ T0 (mkF m 106 #[.val (.ref a1), .val (.ref a2), .val (.int (0 : Int32)), .val (.ref a4), .val (.ref a5), .val (.ref a6), .val (.int (0 : Int32)), .val (.int (4 : Int32)), .val (.int (0 : Int32)), .val (.int (1 : Int32)), .val (.int (4 : Int32)), .val (.long (4 : Int64)), .second] [(.int (0 : Int32))])
  refine own_go (fun _ k => XS.ifYes X0.here hx rfl (pc0 := 106) (pc' := 119) rfl (hb hby d7_106) rfl ((if0 _ _).trans (teq (by decide : (0 : Int32) = (0 : Int32))).1) (by decide) (by decide) k) ?_
  show own_Run p e below _ T0 (mkF m 119 #[.val (.ref a1), .val (.ref a2), .val (.int (0 : Int32)), .val (.ref a4), .val (.ref a5), .val (.ref a6), .val (.int (0 : Int32)), .val (.int (4 : Int32)), .val (.int (0 : Int32)), .val (.int (1 : Int32)), .val (.int (4 : Int32)), .val (.long (4 : Int64)), .second] [])
  refine own_go (fun _ k => XS.lconst X0.here hx rfl (hb hby d7_119) k) ?_
  refine own_go (fun _ k => XS.iload X0.here hx rfl (hb hby d7_120) rfl k) ?_
  show own_Run p e below _ T0 (mkF m 122 #[.val (.ref a1), .val (.ref a2), .val (.int (0 : Int32)), .val (.ref a4), .val (.ref a5), .val (.ref a6), .val (.int (0 : Int32)), .val (.int (4 : Int32)), .val (.int (0 : Int32)), .val (.int (1 : Int32)), .val (.int (4 : Int32)), .val (.long (4 : Int64)), .second] [(.int (1 : Int32)), (.long (0 : Int64))])
  refine own_go (fun _ k => XS.ifNo X0.here hx rfl (hb hby d7_122) rfl ((if0 _ _).trans (feq (by decide : ¬ ((1 : Int32) = (0 : Int32)))).1) k) ?_
  show own_Run p e below _ T0 (mkF m 125 #[.val (.ref a1), .val (.ref a2), .val (.int (0 : Int32)), .val (.ref a4), .val (.ref a5), .val (.ref a6), .val (.int (0 : Int32)), .val (.int (4 : Int32)), .val (.int (0 : Int32)), .val (.int (1 : Int32)), .val (.int (4 : Int32)), .val (.long (4 : Int64)), .second] [(.long (0 : Int64))])
  refine own_go (fun _ k => XS.aload X0.here hx rfl (hb hby d7_125) rfl rfl k) ?_
  refine own_go (fun _ k => XS.iload X0.here hx rfl (hb hby d7_127) rfl k) ?_
  refine own_go (fun _ k => XS.iinc X0.here hx rfl (hb hby d7_129) rfl (l' := #[.val (.ref a1), .val (.ref a2), .val (.int (0 : Int32)), .val (.ref a4), .val (.ref a5), .val (.ref a6), .val (.int (0 : Int32)), .val (.int ((4 : Int32) + (1 : Int32))), .val (.int (0 : Int32)), .val (.int (1 : Int32)), .val (.int (4 : Int32)), .val (.long (4 : Int64)), .second]) rfl k) ?_
  show own_Run p e below _ T0 (mkF m 132 #[.val (.ref a1), .val (.ref a2), .val (.int (0 : Int32)), .val (.ref a4), .val (.ref a5), .val (.ref a6), .val (.int (0 : Int32)), .val (.int ((4 : Int32) + (1 : Int32))), .val (.int (0 : Int32)), .val (.int (1 : Int32)), .val (.int (4 : Int32)), .val (.long (4 : Int64)), .second] [(.int (4 : Int32)), (.ref a5), (.long (0 : Int64))])
  rw [show ((4 : Int32) + (1 : Int32)) = (5 : Int32) by decide]
  show own_Run p e below _ T0 (mkF m 132 #[.val (.ref a1), .val (.ref a2), .val (.int (0 : Int32)), .val (.ref a4), .val (.ref a5), .val (.ref a6), .val (.int (0 : Int32)), .val (.int (5 : Int32)), .val (.int (0 : Int32)), .val (.int (1 : Int32)), .val (.int (4 : Int32)), .val (.long (4 : Int64)), .second] [(.int (4 : Int32)), (.ref a5), (.long (0 : Int64))])
  obtain ⟨cl212, Ar212, q212, S212, N212, H212, G212⟩ := id V_a5
  have hin212 : ¬ ((4 : Int32) < 0 ∨ cl212.slots.size ≤ ((4 : Int32)).toNatClampNeg) := inb_of S212 ⟨by decide, by decide⟩
  refine own_go (X0.laload hx (j := (4 : Int32)) (v := (.long (5 : Int64))) (by rw [e0]; exact Ar212.1) (State.isArrayOf_alike hZ.alike Ar212.2.1) Ar212.2.2 hin212 (H212.at hin212 rfl) (g := (mkF m 132 #[.val (.ref a1), .val (.ref a2), .val (.int (0 : Int32)), .val (.ref a4), .val (.ref a5), .val (.ref a6), .val (.int (0 : Int32)), .val (.int (5 : Int32)), .val (.int (0 : Int32)), .val (.int (1 : Int32)), .val (.int (4 : Int32)), .val (.long (4 : Int64)), .second] [(.int (4 : Int32)), (.ref a5), (.long (0 : Int64))])) rfl rfl (hb hby d7_132)) ?_
  show own_Run p e below _ T0 (mkF m 133 #[.val (.ref a1), .val (.ref a2), .val (.int (0 : Int32)), .val (.ref a4), .val (.ref a5), .val (.ref a6), .val (.int (0 : Int32)), .val (.int (5 : Int32)), .val (.int (0 : Int32)), .val (.int (1 : Int32)), .val (.int (4 : Int32)), .val (.long (4 : Int64)), .second] [(.long (5 : Int64)), (.long (0 : Int64))])
  refine own_go (fun _ k => XS.goto X0.here hx rfl (pc0 := 133) (pc' := 137) rfl (hb hby d7_133) (by decide) (by decide) k) ?_
  show own_Run p e below _ T0 (mkF m 137 #[.val (.ref a1), .val (.ref a2), .val (.int (0 : Int32)), .val (.ref a4), .val (.ref a5), .val (.ref a6), .val (.int (0 : Int32)), .val (.int (5 : Int32)), .val (.int (0 : Int32)), .val (.int (1 : Int32)), .val (.int (4 : Int32)), .val (.long (4 : Int64)), .second] [(.long (5 : Int64)), (.long (0 : Int64))])
  obtain ⟨_, _, ⟨T213, L213, k213, n213⟩, -, X213, ⟨Lc213, hQ213, l213, y213, z213⟩, st213⟩ := Jvm.LawKit.callS X0 hx (y := (⟨"java/lang/Math", "addExact", "(JJ)J"⟩ : MethodName)) hown (mvT hZ (W 52 rfl)) (mvT hZ (W 53 rfl)) (mvT hZ (W 54 rfl)) (mvT hZ (W 55 rfl)) (by decide) (backOf (W := 0) (rm9 l Z a0 hw [] (0 : Int64) (5 : Int64) hh n0 Z0 (by decide)) hZ (W 55 rfl) (W 54 rfl) (by decide) (by decide)) (g := (mkF m 137 #[.val (.ref a1), .val (.ref a2), .val (.int (0 : Int32)), .val (.ref a4), .val (.ref a5), .val (.ref a6), .val (.int (0 : Int32)), .val (.int (5 : Int32)), .val (.int (0 : Int32)), .val (.int (1 : Int32)), .val (.int (4 : Int32)), .val (.long (4 : Int64)), .second] [(.long (5 : Int64)), (.long (0 : Int64))])) rfl (by rw [hml]; rfl) (argsL := [(.long (0 : Int64)), (.long (5 : Int64))]) (rest := []) (lenOf pd_4 rfl) rfl (by show 2 * 0 + _ ≤ _; exact Nat.le_of_eq rfl) (hb hby d7_137) (fun _ _ => ⟨rfl, e0, (by decide : 0 + 0 ≤ _), (by decide : 0 + 0 ≤ _)⟩)
  dsimp only [Pt.U, Pt.locs, Pt.cells, Pt.slots] at X213 l213 y213 z213 st213 hQ213
  subst l213 y213 z213
  obtain ⟨rfl, N213q, e213⟩ := hQ213
  have N213 := Fr.app N0 N213q
  refine own_go st213 ?_
  show own_Run p e below _ T213 (mkF m 140 #[.val (.ref a1), .val (.ref a2), .val (.int (0 : Int32)), .val (.ref a4), .val (.ref a5), .val (.ref a6), .val (.int (0 : Int32)), .val (.int (5 : Int32)), .val (.int (0 : Int32)), .val (.int (1 : Int32)), .val (.int (4 : Int32)), .val (.long (4 : Int64)), .second] [(.long ((0 : Int64) + (5 : Int64)))])
  rw [show ((0 : Int64) + (5 : Int64)) = (5 : Int64) by decide]
  show own_Run p e below _ T213 (mkF m 140 #[.val (.ref a1), .val (.ref a2), .val (.int (0 : Int32)), .val (.ref a4), .val (.ref a5), .val (.ref a6), .val (.int (0 : Int32)), .val (.int (5 : Int32)), .val (.int (0 : Int32)), .val (.int (1 : Int32)), .val (.int (4 : Int32)), .val (.long (4 : Int64)), .second] [(.long (5 : Int64))])
  refine own_go (fun _ k => XS.lstore X213.here hx rfl (hb hby d7_140) rfl (l' := #[.val (.ref a1), .val (.ref a2), .val (.int (0 : Int32)), .val (.ref a4), .val (.ref a5), .val (.ref a6), .val (.int (0 : Int32)), .val (.int (5 : Int32)), .val (.int (0 : Int32)), .val (.int (1 : Int32)), .val (.int (4 : Int32)), .val (.long (5 : Int64)), .second]) rfl k) ?_
  refine own_go (fun _ k => XS.lload X213.here hx rfl (hb hby d7_142) rfl k) ?_
  refine own_go (fun _ k => XS.lconst X213.here hx rfl (hb hby d7_144) k) ?_
  refine own_go (fun _ k => XS.lcmp X213.here hx rfl (hb hby d7_145) rfl k) ?_
  show own_Run p e below _ T213 (mkF m 146 #[.val (.ref a1), .val (.ref a2), .val (.int (0 : Int32)), .val (.ref a4), .val (.ref a5), .val (.ref a6), .val (.int (0 : Int32)), .val (.int (5 : Int32)), .val (.int (0 : Int32)), .val (.int (1 : Int32)), .val (.int (4 : Int32)), .val (.long (5 : Int64)), .second] [(.int (lcmpW (5 : Int64) (0 : Int64)))])
  refine own_go (fun _ k => XS.ifNo X213.here hx rfl (hb hby d7_146) rfl (own_lcFe (by decide : ¬ ((5 : Int64) = (0 : Int64)))).1 k) ?_
  show own_Run p e below _ T213 (mkF m 149 #[.val (.ref a1), .val (.ref a2), .val (.int (0 : Int32)), .val (.ref a4), .val (.ref a5), .val (.ref a6), .val (.int (0 : Int32)), .val (.int (5 : Int32)), .val (.int (0 : Int32)), .val (.int (1 : Int32)), .val (.int (4 : Int32)), .val (.long (5 : Int64)), .second] [])
  refine own_go (fun _ k => XS.aload X213.here hx rfl (hb hby d7_149) rfl rfl k) ?_
  refine own_go (fun _ k => XS.iload X213.here hx rfl (hb hby d7_151) rfl k) ?_
  refine own_go (fun _ k => XS.lload X213.here hx rfl (hb hby d7_153) rfl k) ?_
  show own_Run p e below _ T213 (mkF m 155 #[.val (.ref a1), .val (.ref a2), .val (.int (0 : Int32)), .val (.ref a4), .val (.ref a5), .val (.ref a6), .val (.int (0 : Int32)), .val (.int (5 : Int32)), .val (.int (0 : Int32)), .val (.int (1 : Int32)), .val (.int (4 : Int32)), .val (.long (5 : Int64)), .second] [(.long (5 : Int64)), (.int (4 : Int32)), (.ref a6)])
  obtain ⟨cq214, kq214, q214a, q214b, q214c⟩ := isOf hZ e213 E_a6
  obtain ⟨_, _, ⟨T214, L214, k214, n214⟩, -, X214, ⟨Lc214, hQ214, l214, y214, z214⟩, st214⟩ := X213.virtualBack hx (y := (⟨"com/example/net_reducer/netreducer/analysis/Marking", "add", "(IJ)V"⟩ : MethodName)) (z := (⟨"com/example/net_reducer/netreducer/analysis/Marking", "add", "(IJ)V"⟩ : MethodName)) hown (mvT hZ (W 56 rfl)) (mvT hZ (W 23 rfl)) (notFace_of_selects (args := #[]) (mvT hZ (W 25 rfl))) (mvT hZ (W 25 rfl)) (mvT hZ (W 24 rfl)) (by decide) (backOf (W := 0) (rm3c4 l Z a0 hw [] a6 (4 : Int32) (5 : Int64) b1 b2 k1 k2 (0 : Int32) (1 : Int32) (2 : Int32) (3 : Int32) (0 : Int32) (0 : Int32) (0 : Int32) (0 : Int32) (1 : Int64) (2 : Int64) (3 : Int64) (4 : Int64) (0 : Int64) (0 : Int64) (0 : Int64) (0 : Int64) hh n0 Z0 E_a6 F_places_a6 F_tokens_a6 F_size_a6 V_b1 V_b2 g_a6 g_b1 g_b2 ne_a6_b1 ne_a6_b2 ne_b1_b2) hZ (W 26 rfl) (W 11 rfl) (by decide) (by decide)) q214a q214c (g := (mkF m 155 #[.val (.ref a1), .val (.ref a2), .val (.int (0 : Int32)), .val (.ref a4), .val (.ref a5), .val (.ref a6), .val (.int (0 : Int32)), .val (.int (5 : Int32)), .val (.int (0 : Int32)), .val (.int (1 : Int32)), .val (.int (4 : Int32)), .val (.long (5 : Int64)), .second] [(.long (5 : Int64)), (.int (4 : Int32)), (.ref a6)])) rfl (by rw [hml]; rfl) (Steps.refl _) (argsL := [(.int (4 : Int32)), (.long (5 : Int64))]) (rest := []) (lenOf pd_5 rfl) rfl (by show 2 * 0 + _ ≤ _; exact Nat.le_of_eq rfl) (hb hby d7_155) (fun _ _ => ⟨rfl, e213, (by decide : 0 + 0 ≤ _), (by decide : 0 + 0 ≤ _)⟩)
  dsimp only [Pt.U, Pt.locs, Pt.cells, Pt.slots] at X214 l214 y214 z214 st214 hQ214
  subst l214 y214 z214
  obtain ⟨rfl, N214q, K214, P214_0, P214_1, P214_2, P214_3, P214_4, P214_5⟩ := hQ214
  have N214 := Fr.app N213 N214q
  refine own_goT st214 ?_
  show own_Run p e below _ T214 (mkF m 158 #[.val (.ref a1), .val (.ref a2), .val (.int (0 : Int32)), .val (.ref a4), .val (.ref a5), .val (.ref a6), .val (.int (0 : Int32)), .val (.int (5 : Int32)), .val (.int (0 : Int32)), .val (.int (1 : Int32)), .val (.int (4 : Int32)), .val (.long (5 : Int64)), .second] [])
  have Z0_c215 := Nat.le_trans Z0 K214.1
  have K0_c215 := K0.trans K214 (allS (Or.inl (List.mem_of_getElem? (i := 0) rfl)) (allS (Or.inl (List.mem_of_getElem? (i := 1) rfl)) (allS (Or.inl (List.mem_of_getElem? (i := 2) rfl)) all0)))
  have E_a6_c215 := E_a6.keep K214
  have V_a4_c215 := V_a4.keep K214 (ninS ne_a4_a6 (ninS ne_a4_b1 (ninS ne_a4_b2 nin0)))
  have V_a5_c215 := V_a5.keep K214 (ninS ne_a5_a6 (ninS ne_a5_b1 (ninS ne_a5_b2 nin0)))
  refine own_go (fun _ k => XS.goto X214.here hx rfl (pc0 := 158) (pc' := 11) rfl (hb hby d7_158) (by decide) (by decide) k) ?_
  show own_Run p e below _ T214 (mkF m 11 #[.val (.ref a1), .val (.ref a2), .val (.int (0 : Int32)), .val (.ref a4), .val (.ref a5), .val (.ref a6), .val (.int (0 : Int32)), .val (.int (5 : Int32)), .val (.int (0 : Int32)), .val (.int (1 : Int32)), .val (.int (4 : Int32)), .val (.long (5 : Int64)), .second] [])
  exact mg5 a1 a2 a4 a5 a6 b1 b2 k1 k2 k4 k5 h0 n0 hx hZ hw hby hml hown hnm hret hlk  T214 T214.heap _ X214 rfl N214 Z0_c215 K0_c215 P214_0 P214_1 P214_2 P214_3 P214_4 P214_5 V_a4_c215 V_a5_c215 g_a6 g_b1 g_b2 ne_a6_b1 ne_a6_b2 ne_b1_b2 ne_a4_a6 ne_a4_b1 ne_a4_b2 ne_a5_a6 ne_a5_b1 ne_a5_b2 
set_option maxRecDepth 65536 in
set_option maxHeartbeats 40000000 in
theorem mg3 {p : Program} {l : Launch} {e : Env} {s : State} {m : MethodId} {args : Array Value} {below : List Frame} {meth : Method} {c : Code} {Z : State} {a0 : Array Value} (a1 : Addr) (a2 : Addr) (a4 : Addr) (a5 : Addr) (a6 : Addr) (b1 : Addr) (b2 : Addr) (k1 : ClassId) (k2 : ClassId) (k4 : ClassId) (k5 : ClassId) (h0 : Heap) (n0 : Nat) (hx : p.tables.exec = Jvm.exec) (hZ : Z.Warmed39 s.vm) (hw : ∀ d ∈ tables_1, d.before a0 Z = true) (hby : c.code = prog_10_method_9_code) (hml : c.maxLocals = 13) (hown : s.vm.findClass "com/example/net_reducer/netreducer/analysis/Marking" = some m.cls) (hnm : meth.name = "merge") (hret : meth.sig.returnType = none) (hlk : meth.locks = false)
    (T0 : State) (hh : Heap) (locs : List Loc) (X0 : Stand p l e ({ frames := 1, cells := 0, slots := 0, locals := 20 } : Room) s m args below meth c T0 locs 0 0) (e0 : T0.heap = hh) (N0 : Fr n0 locs) (Z0 : n0 ≤ hh.size) (K0 : Keep h0 hh [a6, b1, b2]) (E_a6 : Exa Z hh a6 "com/example/net_reducer/netreducer/analysis/Marking") (F_places_a6 : Fld Z hh a6 "com/example/net_reducer/netreducer/analysis/Marking" "places" "[I" (.ref b1)) (F_tokens_a6 : Fld Z hh a6 "com/example/net_reducer/netreducer/analysis/Marking" "tokens" "[J" (.ref b2)) (F_size_a6 : Fld Z hh a6 "com/example/net_reducer/netreducer/analysis/Marking" "size" "I" (.int (3 : Int32))) (V_b1 : Arv Z hh b1 k1 .int (8 : Int32) [(.int (0 : Int32)), (.int (1 : Int32)), (.int (2 : Int32)), (.int (0 : Int32)), (.int (0 : Int32)), (.int (0 : Int32)), (.int (0 : Int32)), (.int (0 : Int32))] (.int (0 : Int32))) (V_b2 : Arv Z hh b2 k2 .long (8 : Int32) [(.long (1 : Int64)), (.long (2 : Int64)), (.long (3 : Int64)), (.long (0 : Int64)), (.long (0 : Int64)), (.long (0 : Int64)), (.long (0 : Int64)), (.long (0 : Int64))] (.long (0 : Int64))) (V_a4 : Arv Z hh a4 k4 .int (8 : Int32) [(.int (0 : Int32)), (.int (1 : Int32)), (.int (2 : Int32)), (.int (3 : Int32)), (.int (4 : Int32)), (.int (5 : Int32)), (.int (6 : Int32)), (.int (7 : Int32))] (.int (0 : Int32))) (V_a5 : Arv Z hh a5 k5 .long (8 : Int32) [(.long (1 : Int64)), (.long (2 : Int64)), (.long (3 : Int64)), (.long (4 : Int64)), (.long (5 : Int64)), (.long (6 : Int64)), (.long (7 : Int64)), (.long (8 : Int64))] (.long (0 : Int64))) (g_a6 : n0 ≤ a6) (g_b1 : n0 ≤ b1) (g_b2 : n0 ≤ b2) (ne_a6_b1 : a6 ≠ b1) (ne_a6_b2 : a6 ≠ b2) (ne_b1_b2 : b1 ≠ b2) (ne_a4_a6 : a4 ≠ a6) (ne_a4_b1 : a4 ≠ b1) (ne_a4_b2 : a4 ≠ b2) (ne_a5_a6 : a5 ≠ a6) (ne_a5_b1 : a5 ≠ b1) (ne_a5_b2 : a5 ≠ b2) :
    own_Run p e below (fun o U' => ∃ v L, o = .returned v ∧ Q7 Z a1 a2 a4 a5 a6 b1 b2 k1 k2 k4 k5 h0 n0 v U'.heap L ∧ FrameEnd s o U' L ({ frames := 1, cells := 0, slots := 0, locals := 20 } : Room).cells ({ frames := 1, cells := 0, slots := 0, locals := 20 } : Room).slots) T0 (mkF m 11 #[.val (.ref a1), .val (.ref a2), .val (.int (0 : Int32)), .val (.ref a4), .val (.ref a5), .val (.ref a6), .val (.int (0 : Int32)), .val (.int (3 : Int32)), .val (.int (0 : Int32)), .val (.int (1 : Int32)), .val (.int (2 : Int32)), .val (.long (3 : Int64)), .second] []) := by
  have W := fun (k : Nat) {d : Jvm.Cond} (h : tables_1[k]? = some d) => hw d (List.mem_of_getElem? h)
  show own_Run p e below _ T0 (mkF m 11 #[.val (.ref a1), .val (.ref a2), .val (.int (0 : Int32)), .val (.ref a4), .val (.ref a5), .val (.ref a6), .val (.int (0 : Int32)), .val (.int (3 : Int32)), .val (.int (0 : Int32)), .val (.int (1 : Int32)), .val (.int (2 : Int32)), .val (.long (3 : Int64)), .second] [])
  refine own_go (fun _ k => XS.iload X0.here hx rfl (hb hby d7_11) rfl k) ?_
  refine own_go (fun _ k => XS.iloadN X0.here hx rfl (hb hby d7_13) rfl k) ?_
  show own_Run p e below _ T0 (mkF m 14 #[.val (.ref a1), .val (.ref a2), .val (.int (0 : Int32)), .val (.ref a4), .val (.ref a5), .val (.ref a6), .val (.int (0 : Int32)), .val (.int (3 : Int32)), .val (.int (0 : Int32)), .val (.int (1 : Int32)), .val (.int (2 : Int32)), .val (.long (3 : Int64)), .second] [(.int (0 : Int32)), (.int (0 : Int32))])
  refine own_go (fun _ k => XS.icmpNo X0.here hx rfl (hb hby d7_14) rfl (flt (by decide : ¬ ((0 : Int32) < (0 : Int32)))).1 k) ?_
  show own_Run p e below _ T0 (mkF m 17 #[.val (.ref a1), .val (.ref a2), .val (.int (0 : Int32)), .val (.ref a4), .val (.ref a5), .val (.ref a6), .val (.int (0 : Int32)), .val (.int (3 : Int32)), .val (.int (0 : Int32)), .val (.int (1 : Int32)), .val (.int (2 : Int32)), .val (.long (3 : Int64)), .second] [])
  refine own_go (fun _ k => XS.iload X0.here hx rfl (hb hby d7_17) rfl k) ?_
  refine own_go (fun _ k => XS.aloadN X0.here hx rfl (hb hby d7_19) rfl rfl k) ?_
  show own_Run p e below _ T0 (mkF m 20 #[.val (.ref a1), .val (.ref a2), .val (.int (0 : Int32)), .val (.ref a4), .val (.ref a5), .val (.ref a6), .val (.int (0 : Int32)), .val (.int (3 : Int32)), .val (.int (0 : Int32)), .val (.int (1 : Int32)), .val (.int (2 : Int32)), .val (.long (3 : Int64)), .second] [(.ref a4), (.int (3 : Int32))])
  obtain ⟨cl216, Ar216, q216, S216, N216, H216, G216⟩ := id V_a4
  refine own_go (X0.arraylength hx (by rw [e0]; exact Ar216.1) (State.isArrayOf_alike hZ.alike Ar216.2.1) (g := (mkF m 20 #[.val (.ref a1), .val (.ref a2), .val (.int (0 : Int32)), .val (.ref a4), .val (.ref a5), .val (.ref a6), .val (.int (0 : Int32)), .val (.int (3 : Int32)), .val (.int (0 : Int32)), .val (.int (1 : Int32)), .val (.int (2 : Int32)), .val (.long (3 : Int64)), .second] [(.ref a4), (.int (3 : Int32))])) rfl rfl (hb hby d7_20)) ?_
  rw [len_of S216 N216]
  show own_Run p e below _ T0 (mkF m 21 #[.val (.ref a1), .val (.ref a2), .val (.int (0 : Int32)), .val (.ref a4), .val (.ref a5), .val (.ref a6), .val (.int (0 : Int32)), .val (.int (3 : Int32)), .val (.int (0 : Int32)), .val (.int (1 : Int32)), .val (.int (2 : Int32)), .val (.long (3 : Int64)), .second] [(.int (8 : Int32)), (.int (3 : Int32))])
  refine own_go (fun _ k => XS.icmpNo X0.here hx rfl (hb hby d7_21) rfl (tlt (by decide : (3 : Int32) < (8 : Int32))).2.1 k) ?_
  show own_Run p e below _ T0 (mkF m 24 #[.val (.ref a1), .val (.ref a2), .val (.int (0 : Int32)), .val (.ref a4), .val (.ref a5), .val (.ref a6), .val (.int (0 : Int32)), .val (.int (3 : Int32)), .val (.int (0 : Int32)), .val (.int (1 : Int32)), .val (.int (2 : Int32)), .val (.long (3 : Int64)), .second] [])
  refine own_go (fun _ k => XS.iload X0.here hx rfl (hb hby d7_24) rfl k) ?_
  refine own_go (fun _ k => XS.aloadN X0.here hx rfl (hb hby d7_26) rfl rfl k) ?_
  show own_Run p e below _ T0 (mkF m 27 #[.val (.ref a1), .val (.ref a2), .val (.int (0 : Int32)), .val (.ref a4), .val (.ref a5), .val (.ref a6), .val (.int (0 : Int32)), .val (.int (3 : Int32)), .val (.int (0 : Int32)), .val (.int (1 : Int32)), .val (.int (2 : Int32)), .val (.long (3 : Int64)), .second] [(.ref a4), (.int (3 : Int32))])
  obtain ⟨cl217, Ar217, q217, S217, N217, H217, G217⟩ := id V_a4
  refine own_go (X0.arraylength hx (by rw [e0]; exact Ar217.1) (State.isArrayOf_alike hZ.alike Ar217.2.1) (g := (mkF m 27 #[.val (.ref a1), .val (.ref a2), .val (.int (0 : Int32)), .val (.ref a4), .val (.ref a5), .val (.ref a6), .val (.int (0 : Int32)), .val (.int (3 : Int32)), .val (.int (0 : Int32)), .val (.int (1 : Int32)), .val (.int (2 : Int32)), .val (.long (3 : Int64)), .second] [(.ref a4), (.int (3 : Int32))])) rfl rfl (hb hby d7_27)) ?_
  rw [len_of S217 N217]
  show own_Run p e below _ T0 (mkF m 28 #[.val (.ref a1), .val (.ref a2), .val (.int (0 : Int32)), .val (.ref a4), .val (.ref a5), .val (.ref a6), .val (.int (0 : Int32)), .val (.int (3 : Int32)), .val (.int (0 : Int32)), .val (.int (1 : Int32)), .val (.int (2 : Int32)), .val (.long (3 : Int64)), .second] [(.int (8 : Int32)), (.int (3 : Int32))])
  refine own_go (fun _ k => XS.icmpNo X0.here hx rfl (hb hby d7_28) rfl (feq (by decide : ¬ ((3 : Int32) = (8 : Int32)))).1 k) ?_
  show own_Run p e below _ T0 (mkF m 31 #[.val (.ref a1), .val (.ref a2), .val (.int (0 : Int32)), .val (.ref a4), .val (.ref a5), .val (.ref a6), .val (.int (0 : Int32)), .val (.int (3 : Int32)), .val (.int (0 : Int32)), .val (.int (1 : Int32)), .val (.int (2 : Int32)), .val (.long (3 : Int64)), .second] [])
  refine own_go (fun _ k => XS.iload X0.here hx rfl (hb hby d7_31) rfl k) ?_
  refine own_go (fun _ k => XS.iloadN X0.here hx rfl (hb hby d7_33) rfl k) ?_
  show own_Run p e below _ T0 (mkF m 34 #[.val (.ref a1), .val (.ref a2), .val (.int (0 : Int32)), .val (.ref a4), .val (.ref a5), .val (.ref a6), .val (.int (0 : Int32)), .val (.int (3 : Int32)), .val (.int (0 : Int32)), .val (.int (1 : Int32)), .val (.int (2 : Int32)), .val (.long (3 : Int64)), .second] [(.int (0 : Int32)), (.int (0 : Int32))])
  refine own_go (fun _ k => XS.icmpYes X0.here hx rfl (pc0 := 34) (pc' := 52) rfl (hb hby d7_34) rfl (flt (by decide : ¬ ((0 : Int32) < (0 : Int32)))).2.1 (by decide) (by decide) k) ?_
  show own_Run p e below _ T0 (mkF m 52 #[.val (.ref a1), .val (.ref a2), .val (.int (0 : Int32)), .val (.ref a4), .val (.ref a5), .val (.ref a6), .val (.int (0 : Int32)), .val (.int (3 : Int32)), .val (.int (0 : Int32)), .val (.int (1 : Int32)), .val (.int (2 : Int32)), .val (.long (3 : Int64)), .second] [])
  refine own_go (fun _ k => XS.iconst X0.here hx rfl (hb hby d7_52) k) ?_
  refine own_go (fun _ k => XS.istore X0.here hx rfl (hb hby d7_53) rfl (l' := #[.val (.ref a1), .val (.ref a2), .val (.int (0 : Int32)), .val (.ref a4), .val (.ref a5), .val (.ref a6), .val (.int (0 : Int32)), .val (.int (3 : Int32)), .val (.int (0 : Int32)), .val (.int (1 : Int32)), .val (.int (2 : Int32)), .val (.long (3 : Int64)), .second]) rfl k) ?_
  refine own_go (fun _ k => XS.iload X0.here hx rfl (hb hby d7_55) rfl k) ?_
  refine own_go (fun _ k => XS.iloadN X0.here hx rfl (hb hby d7_57) rfl k) ?_
  show own_Run p e below _ T0 (mkF m 58 #[.val (.ref a1), .val (.ref a2), .val (.int (0 : Int32)), .val (.ref a4), .val (.ref a5), .val (.ref a6), .val (.int (0 : Int32)), .val (.int (3 : Int32)), .val (.int (0 : Int32)), .val (.int (1 : Int32)), .val (.int (2 : Int32)), .val (.long (3 : Int64)), .second] [(.int (0 : Int32)), (.int (0 : Int32))])
  refine own_go (fun _ k => XS.icmpYes X0.here hx rfl (pc0 := 58) (pc' := 79) rfl (hb hby d7_58) rfl (teq (by decide : (0 : Int32) = (0 : Int32))).1 (by decide) (by decide) k) ?_
  show own_Run p e below _ T0 (mkF m 79 #[.val (.ref a1), .val (.ref a2), .val (.int (0 : Int32)), .val (.ref a4), .val (.ref a5), .val (.ref a6), .val (.int (0 : Int32)), .val (.int (3 : Int32)), .val (.int (0 : Int32)), .val (.int (1 : Int32)), .val (.int (2 : Int32)), .val (.long (3 : Int64)), .second] [])
  refine own_go (fun _ k => XS.iconst X0.here hx rfl (hb hby d7_79) k) ?_
  refine own_go (fun _ k => XS.goto X0.here hx rfl (pc0 := 80) (pc' := 84) rfl (hb hby d7_80) (by decide) (by decide) k) ?_
  refine own_go (fun _ k => XS.istore X0.here hx rfl (hb hby d7_84) rfl (l' := #[.val (.ref a1), .val (.ref a2), .val (.int (0 : Int32)), .val (.ref a4), .val (.ref a5), .val (.ref a6), .val (.int (0 : Int32)), .val (.int (3 : Int32)), .val (.int (0 : Int32)), .val (.int (1 : Int32)), .val (.int (2 : Int32)), .val (.long (3 : Int64)), .second]) rfl k) ?_
  refine own_go (fun _ k => XS.iload X0.here hx rfl (hb hby d7_86) rfl k) ?_
  show own_Run p e below _ T0 (mkF m 88 #[.val (.ref a1), .val (.ref a2), .val (.int (0 : Int32)), .val (.ref a4), .val (.ref a5), .val (.ref a6), .val (.int (0 : Int32)), .val (.int (3 : Int32)), .val (.int (0 : Int32)), .val (.int (1 : Int32)), .val (.int (2 : Int32)), .val (.long (3 : Int64)), .second] [(.int (0 : Int32))])
  refine own_go (fun _ k => XS.ifYes X0.here hx rfl (pc0 := 88) (pc' := 98) rfl (hb hby d7_88) rfl ((if0 _ _).trans (teq (by decide : (0 : Int32) = (0 : Int32))).1) (by decide) (by decide) k) ?_
  show own_Run p e below _ T0 (mkF m 98 #[.val (.ref a1), .val (.ref a2), .val (.int (0 : Int32)), .val (.ref a4), .val (.ref a5), .val (.ref a6), .val (.int (0 : Int32)), .val (.int (3 : Int32)), .val (.int (0 : Int32)), .val (.int (1 : Int32)), .val (.int (2 : Int32)), .val (.long (3 : Int64)), .second] [])
  refine own_go (fun _ k => XS.aloadN X0.here hx rfl (hb hby d7_98) rfl rfl k) ?_
  refine own_go (fun _ k => XS.iload X0.here hx rfl (hb hby d7_99) rfl k) ?_
  show own_Run p e below _ T0 (mkF m 101 #[.val (.ref a1), .val (.ref a2), .val (.int (0 : Int32)), .val (.ref a4), .val (.ref a5), .val (.ref a6), .val (.int (0 : Int32)), .val (.int (3 : Int32)), .val (.int (0 : Int32)), .val (.int (1 : Int32)), .val (.int (2 : Int32)), .val (.long (3 : Int64)), .second] [(.int (3 : Int32)), (.ref a4)])
  obtain ⟨cl218, Ar218, q218, S218, N218, H218, G218⟩ := id V_a4
  have hin218 : ¬ ((3 : Int32) < 0 ∨ cl218.slots.size ≤ ((3 : Int32)).toNatClampNeg) := inb_of S218 ⟨by decide, by decide⟩
  refine own_go (X0.iaload hx (j := (3 : Int32)) (v := (.int (3 : Int32))) (by rw [e0]; exact Ar218.1) (State.isArrayOf_alike hZ.alike Ar218.2.1) Ar218.2.2 hin218 (H218.at hin218 rfl) (g := (mkF m 101 #[.val (.ref a1), .val (.ref a2), .val (.int (0 : Int32)), .val (.ref a4), .val (.ref a5), .val (.ref a6), .val (.int (0 : Int32)), .val (.int (3 : Int32)), .val (.int (0 : Int32)), .val (.int (1 : Int32)), .val (.int (2 : Int32)), .val (.long (3 : Int64)), .second] [(.int (3 : Int32)), (.ref a4)])) rfl rfl (hb hby d7_101)) ?_
  show own_Run p e below _ T0 (mkF m 102 #[.val (.ref a1), .val (.ref a2), .val (.int (0 : Int32)), .val (.ref a4), .val (.ref a5), .val (.ref a6), .val (.int (0 : Int32)), .val (.int (3 : Int32)), .val (.int (0 : Int32)), .val (.int (1 : Int32)), .val (.int (2 : Int32)), .val (.long (3 : Int64)), .second] [(.int (3 : Int32))])
  refine own_go (fun _ k => XS.istore X0.here hx rfl (hb hby d7_102) rfl (l' := #[.val (.ref a1), .val (.ref a2), .val (.int (0 : Int32)), .val (.ref a4), .val (.ref a5), .val (.ref a6), .val (.int (0 : Int32)), .val (.int (3 : Int32)), .val (.int (0 : Int32)), .val (.int (1 : Int32)), .val (.int (3 : Int32)), .val (.long (3 : Int64)), .second]) rfl k) ?_
  refine own_go (fun _ k => XS.iload X0.here hx rfl (hb hby d7_104) rfl k) ?_
  show own_Run p e below _ T0 (mkF m 106 #[.val (.ref a1), .val (.ref a2), .val (.int (0 : Int32)), .val (.ref a4), .val (.ref a5), .val (.ref a6), .val (.int (0 : Int32)), .val (.int (3 : Int32)), .val (.int (0 : Int32)), .val (.int (1 : Int32)), .val (.int (3 : Int32)), .val (.long (3 : Int64)), .second] [(.int (0 : Int32))])
  refine own_go (fun _ k => XS.ifYes X0.here hx rfl (pc0 := 106) (pc' := 119) rfl (hb hby d7_106) rfl ((if0 _ _).trans (teq (by decide : (0 : Int32) = (0 : Int32))).1) (by decide) (by decide) k) ?_
  show own_Run p e below _ T0 (mkF m 119 #[.val (.ref a1), .val (.ref a2), .val (.int (0 : Int32)), .val (.ref a4), .val (.ref a5), .val (.ref a6), .val (.int (0 : Int32)), .val (.int (3 : Int32)), .val (.int (0 : Int32)), .val (.int (1 : Int32)), .val (.int (3 : Int32)), .val (.long (3 : Int64)), .second] [])
  refine own_go (fun _ k => XS.lconst X0.here hx rfl (hb hby d7_119) k) ?_
  refine own_go (fun _ k => XS.iload X0.here hx rfl (hb hby d7_120) rfl k) ?_
  show own_Run p e below _ T0 (mkF m 122 #[.val (.ref a1), .val (.ref a2), .val (.int (0 : Int32)), .val (.ref a4), .val (.ref a5), .val (.ref a6), .val (.int (0 : Int32)), .val (.int (3 : Int32)), .val (.int (0 : Int32)), .val (.int (1 : Int32)), .val (.int (3 : Int32)), .val (.long (3 : Int64)), .second] [(.int (1 : Int32)), (.long (0 : Int64))])
  refine own_go (fun _ k => XS.ifNo X0.here hx rfl (hb hby d7_122) rfl ((if0 _ _).trans (feq (by decide : ¬ ((1 : Int32) = (0 : Int32)))).1) k) ?_
  show own_Run p e below _ T0 (mkF m 125 #[.val (.ref a1), .val (.ref a2), .val (.int (0 : Int32)), .val (.ref a4), .val (.ref a5), .val (.ref a6), .val (.int (0 : Int32)), .val (.int (3 : Int32)), .val (.int (0 : Int32)), .val (.int (1 : Int32)), .val (.int (3 : Int32)), .val (.long (3 : Int64)), .second] [(.long (0 : Int64))])
  refine own_go (fun _ k => XS.aload X0.here hx rfl (hb hby d7_125) rfl rfl k) ?_
  refine own_go (fun _ k => XS.iload X0.here hx rfl (hb hby d7_127) rfl k) ?_
  refine own_go (fun _ k => XS.iinc X0.here hx rfl (hb hby d7_129) rfl (l' := #[.val (.ref a1), .val (.ref a2), .val (.int (0 : Int32)), .val (.ref a4), .val (.ref a5), .val (.ref a6), .val (.int (0 : Int32)), .val (.int ((3 : Int32) + (1 : Int32))), .val (.int (0 : Int32)), .val (.int (1 : Int32)), .val (.int (3 : Int32)), .val (.long (3 : Int64)), .second]) rfl k) ?_
  show own_Run p e below _ T0 (mkF m 132 #[.val (.ref a1), .val (.ref a2), .val (.int (0 : Int32)), .val (.ref a4), .val (.ref a5), .val (.ref a6), .val (.int (0 : Int32)), .val (.int ((3 : Int32) + (1 : Int32))), .val (.int (0 : Int32)), .val (.int (1 : Int32)), .val (.int (3 : Int32)), .val (.long (3 : Int64)), .second] [(.int (3 : Int32)), (.ref a5), (.long (0 : Int64))])
  rw [show ((3 : Int32) + (1 : Int32)) = (4 : Int32) by decide]
  show own_Run p e below _ T0 (mkF m 132 #[.val (.ref a1), .val (.ref a2), .val (.int (0 : Int32)), .val (.ref a4), .val (.ref a5), .val (.ref a6), .val (.int (0 : Int32)), .val (.int (4 : Int32)), .val (.int (0 : Int32)), .val (.int (1 : Int32)), .val (.int (3 : Int32)), .val (.long (3 : Int64)), .second] [(.int (3 : Int32)), (.ref a5), (.long (0 : Int64))])
  obtain ⟨cl219, Ar219, q219, S219, N219, H219, G219⟩ := id V_a5
  have hin219 : ¬ ((3 : Int32) < 0 ∨ cl219.slots.size ≤ ((3 : Int32)).toNatClampNeg) := inb_of S219 ⟨by decide, by decide⟩
  refine own_go (X0.laload hx (j := (3 : Int32)) (v := (.long (4 : Int64))) (by rw [e0]; exact Ar219.1) (State.isArrayOf_alike hZ.alike Ar219.2.1) Ar219.2.2 hin219 (H219.at hin219 rfl) (g := (mkF m 132 #[.val (.ref a1), .val (.ref a2), .val (.int (0 : Int32)), .val (.ref a4), .val (.ref a5), .val (.ref a6), .val (.int (0 : Int32)), .val (.int (4 : Int32)), .val (.int (0 : Int32)), .val (.int (1 : Int32)), .val (.int (3 : Int32)), .val (.long (3 : Int64)), .second] [(.int (3 : Int32)), (.ref a5), (.long (0 : Int64))])) rfl rfl (hb hby d7_132)) ?_
  show own_Run p e below _ T0 (mkF m 133 #[.val (.ref a1), .val (.ref a2), .val (.int (0 : Int32)), .val (.ref a4), .val (.ref a5), .val (.ref a6), .val (.int (0 : Int32)), .val (.int (4 : Int32)), .val (.int (0 : Int32)), .val (.int (1 : Int32)), .val (.int (3 : Int32)), .val (.long (3 : Int64)), .second] [(.long (4 : Int64)), (.long (0 : Int64))])
  refine own_go (fun _ k => XS.goto X0.here hx rfl (pc0 := 133) (pc' := 137) rfl (hb hby d7_133) (by decide) (by decide) k) ?_
  show own_Run p e below _ T0 (mkF m 137 #[.val (.ref a1), .val (.ref a2), .val (.int (0 : Int32)), .val (.ref a4), .val (.ref a5), .val (.ref a6), .val (.int (0 : Int32)), .val (.int (4 : Int32)), .val (.int (0 : Int32)), .val (.int (1 : Int32)), .val (.int (3 : Int32)), .val (.long (3 : Int64)), .second] [(.long (4 : Int64)), (.long (0 : Int64))])
  obtain ⟨_, _, ⟨T220, L220, k220, n220⟩, -, X220, ⟨Lc220, hQ220, l220, y220, z220⟩, st220⟩ := Jvm.LawKit.callS X0 hx (y := (⟨"java/lang/Math", "addExact", "(JJ)J"⟩ : MethodName)) hown (mvT hZ (W 52 rfl)) (mvT hZ (W 53 rfl)) (mvT hZ (W 54 rfl)) (mvT hZ (W 55 rfl)) (by decide) (backOf (W := 0) (rm9 l Z a0 hw [] (0 : Int64) (4 : Int64) hh n0 Z0 (by decide)) hZ (W 55 rfl) (W 54 rfl) (by decide) (by decide)) (g := (mkF m 137 #[.val (.ref a1), .val (.ref a2), .val (.int (0 : Int32)), .val (.ref a4), .val (.ref a5), .val (.ref a6), .val (.int (0 : Int32)), .val (.int (4 : Int32)), .val (.int (0 : Int32)), .val (.int (1 : Int32)), .val (.int (3 : Int32)), .val (.long (3 : Int64)), .second] [(.long (4 : Int64)), (.long (0 : Int64))])) rfl (by rw [hml]; rfl) (argsL := [(.long (0 : Int64)), (.long (4 : Int64))]) (rest := []) (lenOf pd_4 rfl) rfl (by show 2 * 0 + _ ≤ _; exact Nat.le_of_eq rfl) (hb hby d7_137) (fun _ _ => ⟨rfl, e0, (by decide : 0 + 0 ≤ _), (by decide : 0 + 0 ≤ _)⟩)
  dsimp only [Pt.U, Pt.locs, Pt.cells, Pt.slots] at X220 l220 y220 z220 st220 hQ220
  subst l220 y220 z220
  obtain ⟨rfl, N220q, e220⟩ := hQ220
  have N220 := Fr.app N0 N220q
  refine own_go st220 ?_
  show own_Run p e below _ T220 (mkF m 140 #[.val (.ref a1), .val (.ref a2), .val (.int (0 : Int32)), .val (.ref a4), .val (.ref a5), .val (.ref a6), .val (.int (0 : Int32)), .val (.int (4 : Int32)), .val (.int (0 : Int32)), .val (.int (1 : Int32)), .val (.int (3 : Int32)), .val (.long (3 : Int64)), .second] [(.long ((0 : Int64) + (4 : Int64)))])
  rw [show ((0 : Int64) + (4 : Int64)) = (4 : Int64) by decide]
  show own_Run p e below _ T220 (mkF m 140 #[.val (.ref a1), .val (.ref a2), .val (.int (0 : Int32)), .val (.ref a4), .val (.ref a5), .val (.ref a6), .val (.int (0 : Int32)), .val (.int (4 : Int32)), .val (.int (0 : Int32)), .val (.int (1 : Int32)), .val (.int (3 : Int32)), .val (.long (3 : Int64)), .second] [(.long (4 : Int64))])
  refine own_go (fun _ k => XS.lstore X220.here hx rfl (hb hby d7_140) rfl (l' := #[.val (.ref a1), .val (.ref a2), .val (.int (0 : Int32)), .val (.ref a4), .val (.ref a5), .val (.ref a6), .val (.int (0 : Int32)), .val (.int (4 : Int32)), .val (.int (0 : Int32)), .val (.int (1 : Int32)), .val (.int (3 : Int32)), .val (.long (4 : Int64)), .second]) rfl k) ?_
  refine own_go (fun _ k => XS.lload X220.here hx rfl (hb hby d7_142) rfl k) ?_
  refine own_go (fun _ k => XS.lconst X220.here hx rfl (hb hby d7_144) k) ?_
  refine own_go (fun _ k => XS.lcmp X220.here hx rfl (hb hby d7_145) rfl k) ?_
  show own_Run p e below _ T220 (mkF m 146 #[.val (.ref a1), .val (.ref a2), .val (.int (0 : Int32)), .val (.ref a4), .val (.ref a5), .val (.ref a6), .val (.int (0 : Int32)), .val (.int (4 : Int32)), .val (.int (0 : Int32)), .val (.int (1 : Int32)), .val (.int (3 : Int32)), .val (.long (4 : Int64)), .second] [(.int (lcmpW (4 : Int64) (0 : Int64)))])
  refine own_go (fun _ k => XS.ifNo X220.here hx rfl (hb hby d7_146) rfl (own_lcFe (by decide : ¬ ((4 : Int64) = (0 : Int64)))).1 k) ?_
  show own_Run p e below _ T220 (mkF m 149 #[.val (.ref a1), .val (.ref a2), .val (.int (0 : Int32)), .val (.ref a4), .val (.ref a5), .val (.ref a6), .val (.int (0 : Int32)), .val (.int (4 : Int32)), .val (.int (0 : Int32)), .val (.int (1 : Int32)), .val (.int (3 : Int32)), .val (.long (4 : Int64)), .second] [])
  refine own_go (fun _ k => XS.aload X220.here hx rfl (hb hby d7_149) rfl rfl k) ?_
  refine own_go (fun _ k => XS.iload X220.here hx rfl (hb hby d7_151) rfl k) ?_
  refine own_go (fun _ k => XS.lload X220.here hx rfl (hb hby d7_153) rfl k) ?_
  show own_Run p e below _ T220 (mkF m 155 #[.val (.ref a1), .val (.ref a2), .val (.int (0 : Int32)), .val (.ref a4), .val (.ref a5), .val (.ref a6), .val (.int (0 : Int32)), .val (.int (4 : Int32)), .val (.int (0 : Int32)), .val (.int (1 : Int32)), .val (.int (3 : Int32)), .val (.long (4 : Int64)), .second] [(.long (4 : Int64)), (.int (3 : Int32)), (.ref a6)])
  obtain ⟨cq221, kq221, q221a, q221b, q221c⟩ := isOf hZ e220 E_a6
  obtain ⟨_, _, ⟨T221, L221, k221, n221⟩, -, X221, ⟨Lc221, hQ221, l221, y221, z221⟩, st221⟩ := X220.virtualBack hx (y := (⟨"com/example/net_reducer/netreducer/analysis/Marking", "add", "(IJ)V"⟩ : MethodName)) (z := (⟨"com/example/net_reducer/netreducer/analysis/Marking", "add", "(IJ)V"⟩ : MethodName)) hown (mvT hZ (W 56 rfl)) (mvT hZ (W 23 rfl)) (notFace_of_selects (args := #[]) (mvT hZ (W 25 rfl))) (mvT hZ (W 25 rfl)) (mvT hZ (W 24 rfl)) (by decide) (backOf (W := 0) (rm3c3 l Z a0 hw [] a6 (3 : Int32) (4 : Int64) b1 b2 k1 k2 (0 : Int32) (1 : Int32) (2 : Int32) (0 : Int32) (0 : Int32) (0 : Int32) (0 : Int32) (0 : Int32) (1 : Int64) (2 : Int64) (3 : Int64) (0 : Int64) (0 : Int64) (0 : Int64) (0 : Int64) (0 : Int64) hh n0 Z0 E_a6 F_places_a6 F_tokens_a6 F_size_a6 V_b1 V_b2 g_a6 g_b1 g_b2 ne_a6_b1 ne_a6_b2 ne_b1_b2) hZ (W 26 rfl) (W 11 rfl) (by decide) (by decide)) q221a q221c (g := (mkF m 155 #[.val (.ref a1), .val (.ref a2), .val (.int (0 : Int32)), .val (.ref a4), .val (.ref a5), .val (.ref a6), .val (.int (0 : Int32)), .val (.int (4 : Int32)), .val (.int (0 : Int32)), .val (.int (1 : Int32)), .val (.int (3 : Int32)), .val (.long (4 : Int64)), .second] [(.long (4 : Int64)), (.int (3 : Int32)), (.ref a6)])) rfl (by rw [hml]; rfl) (Steps.refl _) (argsL := [(.int (3 : Int32)), (.long (4 : Int64))]) (rest := []) (lenOf pd_5 rfl) rfl (by show 2 * 0 + _ ≤ _; exact Nat.le_of_eq rfl) (hb hby d7_155) (fun _ _ => ⟨rfl, e220, (by decide : 0 + 0 ≤ _), (by decide : 0 + 0 ≤ _)⟩)
  dsimp only [Pt.U, Pt.locs, Pt.cells, Pt.slots] at X221 l221 y221 z221 st221 hQ221
  subst l221 y221 z221
  obtain ⟨rfl, N221q, K221, P221_0, P221_1, P221_2, P221_3, P221_4, P221_5⟩ := hQ221
  have N221 := Fr.app N220 N221q
  refine own_goT st221 ?_
  show own_Run p e below _ T221 (mkF m 158 #[.val (.ref a1), .val (.ref a2), .val (.int (0 : Int32)), .val (.ref a4), .val (.ref a5), .val (.ref a6), .val (.int (0 : Int32)), .val (.int (4 : Int32)), .val (.int (0 : Int32)), .val (.int (1 : Int32)), .val (.int (3 : Int32)), .val (.long (4 : Int64)), .second] [])
  have Z0_c222 := Nat.le_trans Z0 K221.1
  have K0_c222 := K0.trans K221 (allS (Or.inl (List.mem_of_getElem? (i := 0) rfl)) (allS (Or.inl (List.mem_of_getElem? (i := 1) rfl)) (allS (Or.inl (List.mem_of_getElem? (i := 2) rfl)) all0)))
  have E_a6_c222 := E_a6.keep K221
  have V_a4_c222 := V_a4.keep K221 (ninS ne_a4_a6 (ninS ne_a4_b1 (ninS ne_a4_b2 nin0)))
  have V_a5_c222 := V_a5.keep K221 (ninS ne_a5_a6 (ninS ne_a5_b1 (ninS ne_a5_b2 nin0)))
  refine own_go (fun _ k => XS.goto X221.here hx rfl (pc0 := 158) (pc' := 11) rfl (hb hby d7_158) (by decide) (by decide) k) ?_
  show own_Run p e below _ T221 (mkF m 11 #[.val (.ref a1), .val (.ref a2), .val (.int (0 : Int32)), .val (.ref a4), .val (.ref a5), .val (.ref a6), .val (.int (0 : Int32)), .val (.int (4 : Int32)), .val (.int (0 : Int32)), .val (.int (1 : Int32)), .val (.int (3 : Int32)), .val (.long (4 : Int64)), .second] [])
  exact mg4 a1 a2 a4 a5 a6 b1 b2 k1 k2 k4 k5 h0 n0 hx hZ hw hby hml hown hnm hret hlk  T221 T221.heap _ X221 rfl N221 Z0_c222 K0_c222 P221_0 P221_1 P221_2 P221_3 P221_4 P221_5 V_a4_c222 V_a5_c222 g_a6 g_b1 g_b2 ne_a6_b1 ne_a6_b2 ne_b1_b2 ne_a4_a6 ne_a4_b1 ne_a4_b2 ne_a5_a6 ne_a5_b1 ne_a5_b2 
set_option maxRecDepth 65536 in
set_option maxHeartbeats 40000000 in
theorem mg2 {p : Program} {l : Launch} {e : Env} {s : State} {m : MethodId} {args : Array Value} {below : List Frame} {meth : Method} {c : Code} {Z : State} {a0 : Array Value} (a1 : Addr) (a2 : Addr) (a4 : Addr) (a5 : Addr) (a6 : Addr) (b1 : Addr) (b2 : Addr) (k1 : ClassId) (k2 : ClassId) (k4 : ClassId) (k5 : ClassId) (h0 : Heap) (n0 : Nat) (hx : p.tables.exec = Jvm.exec) (hZ : Z.Warmed39 s.vm) (hw : ∀ d ∈ tables_1, d.before a0 Z = true) (hby : c.code = prog_10_method_9_code) (hml : c.maxLocals = 13) (hown : s.vm.findClass "com/example/net_reducer/netreducer/analysis/Marking" = some m.cls) (hnm : meth.name = "merge") (hret : meth.sig.returnType = none) (hlk : meth.locks = false)
    (T0 : State) (hh : Heap) (locs : List Loc) (X0 : Stand p l e ({ frames := 1, cells := 0, slots := 0, locals := 20 } : Room) s m args below meth c T0 locs 0 0) (e0 : T0.heap = hh) (N0 : Fr n0 locs) (Z0 : n0 ≤ hh.size) (K0 : Keep h0 hh [a6, b1, b2]) (E_a6 : Exa Z hh a6 "com/example/net_reducer/netreducer/analysis/Marking") (F_places_a6 : Fld Z hh a6 "com/example/net_reducer/netreducer/analysis/Marking" "places" "[I" (.ref b1)) (F_tokens_a6 : Fld Z hh a6 "com/example/net_reducer/netreducer/analysis/Marking" "tokens" "[J" (.ref b2)) (F_size_a6 : Fld Z hh a6 "com/example/net_reducer/netreducer/analysis/Marking" "size" "I" (.int (2 : Int32))) (V_b1 : Arv Z hh b1 k1 .int (8 : Int32) [(.int (0 : Int32)), (.int (1 : Int32)), (.int (0 : Int32)), (.int (0 : Int32)), (.int (0 : Int32)), (.int (0 : Int32)), (.int (0 : Int32)), (.int (0 : Int32))] (.int (0 : Int32))) (V_b2 : Arv Z hh b2 k2 .long (8 : Int32) [(.long (1 : Int64)), (.long (2 : Int64)), (.long (0 : Int64)), (.long (0 : Int64)), (.long (0 : Int64)), (.long (0 : Int64)), (.long (0 : Int64)), (.long (0 : Int64))] (.long (0 : Int64))) (V_a4 : Arv Z hh a4 k4 .int (8 : Int32) [(.int (0 : Int32)), (.int (1 : Int32)), (.int (2 : Int32)), (.int (3 : Int32)), (.int (4 : Int32)), (.int (5 : Int32)), (.int (6 : Int32)), (.int (7 : Int32))] (.int (0 : Int32))) (V_a5 : Arv Z hh a5 k5 .long (8 : Int32) [(.long (1 : Int64)), (.long (2 : Int64)), (.long (3 : Int64)), (.long (4 : Int64)), (.long (5 : Int64)), (.long (6 : Int64)), (.long (7 : Int64)), (.long (8 : Int64))] (.long (0 : Int64))) (g_a6 : n0 ≤ a6) (g_b1 : n0 ≤ b1) (g_b2 : n0 ≤ b2) (ne_a6_b1 : a6 ≠ b1) (ne_a6_b2 : a6 ≠ b2) (ne_b1_b2 : b1 ≠ b2) (ne_a4_a6 : a4 ≠ a6) (ne_a4_b1 : a4 ≠ b1) (ne_a4_b2 : a4 ≠ b2) (ne_a5_a6 : a5 ≠ a6) (ne_a5_b1 : a5 ≠ b1) (ne_a5_b2 : a5 ≠ b2) :
    own_Run p e below (fun o U' => ∃ v L, o = .returned v ∧ Q7 Z a1 a2 a4 a5 a6 b1 b2 k1 k2 k4 k5 h0 n0 v U'.heap L ∧ FrameEnd s o U' L ({ frames := 1, cells := 0, slots := 0, locals := 20 } : Room).cells ({ frames := 1, cells := 0, slots := 0, locals := 20 } : Room).slots) T0 (mkF m 11 #[.val (.ref a1), .val (.ref a2), .val (.int (0 : Int32)), .val (.ref a4), .val (.ref a5), .val (.ref a6), .val (.int (0 : Int32)), .val (.int (2 : Int32)), .val (.int (0 : Int32)), .val (.int (1 : Int32)), .val (.int (1 : Int32)), .val (.long (2 : Int64)), .second] []) := by
  have W := fun (k : Nat) {d : Jvm.Cond} (h : tables_1[k]? = some d) => hw d (List.mem_of_getElem? h)
  show own_Run p e below _ T0 (mkF m 11 #[.val (.ref a1), .val (.ref a2), .val (.int (0 : Int32)), .val (.ref a4), .val (.ref a5), .val (.ref a6), .val (.int (0 : Int32)), .val (.int (2 : Int32)), .val (.int (0 : Int32)), .val (.int (1 : Int32)), .val (.int (1 : Int32)), .val (.long (2 : Int64)), .second] [])
  refine own_go (fun _ k => XS.iload X0.here hx rfl (hb hby d7_11) rfl k) ?_
  refine own_go (fun _ k => XS.iloadN X0.here hx rfl (hb hby d7_13) rfl k) ?_
  show own_Run p e below _ T0 (mkF m 14 #[.val (.ref a1), .val (.ref a2), .val (.int (0 : Int32)), .val (.ref a4), .val (.ref a5), .val (.ref a6), .val (.int (0 : Int32)), .val (.int (2 : Int32)), .val (.int (0 : Int32)), .val (.int (1 : Int32)), .val (.int (1 : Int32)), .val (.long (2 : Int64)), .second] [(.int (0 : Int32)), (.int (0 : Int32))])
  refine own_go (fun _ k => XS.icmpNo X0.here hx rfl (hb hby d7_14) rfl (flt (by decide : ¬ ((0 : Int32) < (0 : Int32)))).1 k) ?_
  show own_Run p e below _ T0 (mkF m 17 #[.val (.ref a1), .val (.ref a2), .val (.int (0 : Int32)), .val (.ref a4), .val (.ref a5), .val (.ref a6), .val (.int (0 : Int32)), .val (.int (2 : Int32)), .val (.int (0 : Int32)), .val (.int (1 : Int32)), .val (.int (1 : Int32)), .val (.long (2 : Int64)), .second] [])
  refine own_go (fun _ k => XS.iload X0.here hx rfl (hb hby d7_17) rfl k) ?_
  refine own_go (fun _ k => XS.aloadN X0.here hx rfl (hb hby d7_19) rfl rfl k) ?_
  show own_Run p e below _ T0 (mkF m 20 #[.val (.ref a1), .val (.ref a2), .val (.int (0 : Int32)), .val (.ref a4), .val (.ref a5), .val (.ref a6), .val (.int (0 : Int32)), .val (.int (2 : Int32)), .val (.int (0 : Int32)), .val (.int (1 : Int32)), .val (.int (1 : Int32)), .val (.long (2 : Int64)), .second] [(.ref a4), (.int (2 : Int32))])
  obtain ⟨cl223, Ar223, q223, S223, N223, H223, G223⟩ := id V_a4
  refine own_go (X0.arraylength hx (by rw [e0]; exact Ar223.1) (State.isArrayOf_alike hZ.alike Ar223.2.1) (g := (mkF m 20 #[.val (.ref a1), .val (.ref a2), .val (.int (0 : Int32)), .val (.ref a4), .val (.ref a5), .val (.ref a6), .val (.int (0 : Int32)), .val (.int (2 : Int32)), .val (.int (0 : Int32)), .val (.int (1 : Int32)), .val (.int (1 : Int32)), .val (.long (2 : Int64)), .second] [(.ref a4), (.int (2 : Int32))])) rfl rfl (hb hby d7_20)) ?_
  rw [len_of S223 N223]
  show own_Run p e below _ T0 (mkF m 21 #[.val (.ref a1), .val (.ref a2), .val (.int (0 : Int32)), .val (.ref a4), .val (.ref a5), .val (.ref a6), .val (.int (0 : Int32)), .val (.int (2 : Int32)), .val (.int (0 : Int32)), .val (.int (1 : Int32)), .val (.int (1 : Int32)), .val (.long (2 : Int64)), .second] [(.int (8 : Int32)), (.int (2 : Int32))])
  refine own_go (fun _ k => XS.icmpNo X0.here hx rfl (hb hby d7_21) rfl (tlt (by decide : (2 : Int32) < (8 : Int32))).2.1 k) ?_
  show own_Run p e below _ T0 (mkF m 24 #[.val (.ref a1), .val (.ref a2), .val (.int (0 : Int32)), .val (.ref a4), .val (.ref a5), .val (.ref a6), .val (.int (0 : Int32)), .val (.int (2 : Int32)), .val (.int (0 : Int32)), .val (.int (1 : Int32)), .val (.int (1 : Int32)), .val (.long (2 : Int64)), .second] [])
  refine own_go (fun _ k => XS.iload X0.here hx rfl (hb hby d7_24) rfl k) ?_
  refine own_go (fun _ k => XS.aloadN X0.here hx rfl (hb hby d7_26) rfl rfl k) ?_
  show own_Run p e below _ T0 (mkF m 27 #[.val (.ref a1), .val (.ref a2), .val (.int (0 : Int32)), .val (.ref a4), .val (.ref a5), .val (.ref a6), .val (.int (0 : Int32)), .val (.int (2 : Int32)), .val (.int (0 : Int32)), .val (.int (1 : Int32)), .val (.int (1 : Int32)), .val (.long (2 : Int64)), .second] [(.ref a4), (.int (2 : Int32))])
  obtain ⟨cl224, Ar224, q224, S224, N224, H224, G224⟩ := id V_a4
  refine own_go (X0.arraylength hx (by rw [e0]; exact Ar224.1) (State.isArrayOf_alike hZ.alike Ar224.2.1) (g := (mkF m 27 #[.val (.ref a1), .val (.ref a2), .val (.int (0 : Int32)), .val (.ref a4), .val (.ref a5), .val (.ref a6), .val (.int (0 : Int32)), .val (.int (2 : Int32)), .val (.int (0 : Int32)), .val (.int (1 : Int32)), .val (.int (1 : Int32)), .val (.long (2 : Int64)), .second] [(.ref a4), (.int (2 : Int32))])) rfl rfl (hb hby d7_27)) ?_
  rw [len_of S224 N224]
  show own_Run p e below _ T0 (mkF m 28 #[.val (.ref a1), .val (.ref a2), .val (.int (0 : Int32)), .val (.ref a4), .val (.ref a5), .val (.ref a6), .val (.int (0 : Int32)), .val (.int (2 : Int32)), .val (.int (0 : Int32)), .val (.int (1 : Int32)), .val (.int (1 : Int32)), .val (.long (2 : Int64)), .second] [(.int (8 : Int32)), (.int (2 : Int32))])
  refine own_go (fun _ k => XS.icmpNo X0.here hx rfl (hb hby d7_28) rfl (feq (by decide : ¬ ((2 : Int32) = (8 : Int32)))).1 k) ?_
  show own_Run p e below _ T0 (mkF m 31 #[.val (.ref a1), .val (.ref a2), .val (.int (0 : Int32)), .val (.ref a4), .val (.ref a5), .val (.ref a6), .val (.int (0 : Int32)), .val (.int (2 : Int32)), .val (.int (0 : Int32)), .val (.int (1 : Int32)), .val (.int (1 : Int32)), .val (.long (2 : Int64)), .second] [])
  refine own_go (fun _ k => XS.iload X0.here hx rfl (hb hby d7_31) rfl k) ?_
  refine own_go (fun _ k => XS.iloadN X0.here hx rfl (hb hby d7_33) rfl k) ?_
  show own_Run p e below _ T0 (mkF m 34 #[.val (.ref a1), .val (.ref a2), .val (.int (0 : Int32)), .val (.ref a4), .val (.ref a5), .val (.ref a6), .val (.int (0 : Int32)), .val (.int (2 : Int32)), .val (.int (0 : Int32)), .val (.int (1 : Int32)), .val (.int (1 : Int32)), .val (.long (2 : Int64)), .second] [(.int (0 : Int32)), (.int (0 : Int32))])
  refine own_go (fun _ k => XS.icmpYes X0.here hx rfl (pc0 := 34) (pc' := 52) rfl (hb hby d7_34) rfl (flt (by decide : ¬ ((0 : Int32) < (0 : Int32)))).2.1 (by decide) (by decide) k) ?_
  show own_Run p e below _ T0 (mkF m 52 #[.val (.ref a1), .val (.ref a2), .val (.int (0 : Int32)), .val (.ref a4), .val (.ref a5), .val (.ref a6), .val (.int (0 : Int32)), .val (.int (2 : Int32)), .val (.int (0 : Int32)), .val (.int (1 : Int32)), .val (.int (1 : Int32)), .val (.long (2 : Int64)), .second] [])
  refine own_go (fun _ k => XS.iconst X0.here hx rfl (hb hby d7_52) k) ?_
  refine own_go (fun _ k => XS.istore X0.here hx rfl (hb hby d7_53) rfl (l' := #[.val (.ref a1), .val (.ref a2), .val (.int (0 : Int32)), .val (.ref a4), .val (.ref a5), .val (.ref a6), .val (.int (0 : Int32)), .val (.int (2 : Int32)), .val (.int (0 : Int32)), .val (.int (1 : Int32)), .val (.int (1 : Int32)), .val (.long (2 : Int64)), .second]) rfl k) ?_
  refine own_go (fun _ k => XS.iload X0.here hx rfl (hb hby d7_55) rfl k) ?_
  refine own_go (fun _ k => XS.iloadN X0.here hx rfl (hb hby d7_57) rfl k) ?_
  show own_Run p e below _ T0 (mkF m 58 #[.val (.ref a1), .val (.ref a2), .val (.int (0 : Int32)), .val (.ref a4), .val (.ref a5), .val (.ref a6), .val (.int (0 : Int32)), .val (.int (2 : Int32)), .val (.int (0 : Int32)), .val (.int (1 : Int32)), .val (.int (1 : Int32)), .val (.long (2 : Int64)), .second] [(.int (0 : Int32)), (.int (0 : Int32))])
  refine own_go (fun _ k => XS.icmpYes X0.here hx rfl (pc0 := 58) (pc' := 79) rfl (hb hby d7_58) rfl (teq (by decide : (0 : Int32) = (0 : Int32))).1 (by decide) (by decide) k) ?_
  show own_Run p e below _ T0 (mkF m 79 #[.val (.ref a1), .val (.ref a2), .val (.int (0 : Int32)), .val (.ref a4), .val (.ref a5), .val (.ref a6), .val (.int (0 : Int32)), .val (.int (2 : Int32)), .val (.int (0 : Int32)), .val (.int (1 : Int32)), .val (.int (1 : Int32)), .val (.long (2 : Int64)), .second] [])
  refine own_go (fun _ k => XS.iconst X0.here hx rfl (hb hby d7_79) k) ?_
  refine own_go (fun _ k => XS.goto X0.here hx rfl (pc0 := 80) (pc' := 84) rfl (hb hby d7_80) (by decide) (by decide) k) ?_
  refine own_go (fun _ k => XS.istore X0.here hx rfl (hb hby d7_84) rfl (l' := #[.val (.ref a1), .val (.ref a2), .val (.int (0 : Int32)), .val (.ref a4), .val (.ref a5), .val (.ref a6), .val (.int (0 : Int32)), .val (.int (2 : Int32)), .val (.int (0 : Int32)), .val (.int (1 : Int32)), .val (.int (1 : Int32)), .val (.long (2 : Int64)), .second]) rfl k) ?_
  refine own_go (fun _ k => XS.iload X0.here hx rfl (hb hby d7_86) rfl k) ?_
  show own_Run p e below _ T0 (mkF m 88 #[.val (.ref a1), .val (.ref a2), .val (.int (0 : Int32)), .val (.ref a4), .val (.ref a5), .val (.ref a6), .val (.int (0 : Int32)), .val (.int (2 : Int32)), .val (.int (0 : Int32)), .val (.int (1 : Int32)), .val (.int (1 : Int32)), .val (.long (2 : Int64)), .second] [(.int (0 : Int32))])
  refine own_go (fun _ k => XS.ifYes X0.here hx rfl (pc0 := 88) (pc' := 98) rfl (hb hby d7_88) rfl ((if0 _ _).trans (teq (by decide : (0 : Int32) = (0 : Int32))).1) (by decide) (by decide) k) ?_
  show own_Run p e below _ T0 (mkF m 98 #[.val (.ref a1), .val (.ref a2), .val (.int (0 : Int32)), .val (.ref a4), .val (.ref a5), .val (.ref a6), .val (.int (0 : Int32)), .val (.int (2 : Int32)), .val (.int (0 : Int32)), .val (.int (1 : Int32)), .val (.int (1 : Int32)), .val (.long (2 : Int64)), .second] [])
  refine own_go (fun _ k => XS.aloadN X0.here hx rfl (hb hby d7_98) rfl rfl k) ?_
  refine own_go (fun _ k => XS.iload X0.here hx rfl (hb hby d7_99) rfl k) ?_
  show own_Run p e below _ T0 (mkF m 101 #[.val (.ref a1), .val (.ref a2), .val (.int (0 : Int32)), .val (.ref a4), .val (.ref a5), .val (.ref a6), .val (.int (0 : Int32)), .val (.int (2 : Int32)), .val (.int (0 : Int32)), .val (.int (1 : Int32)), .val (.int (1 : Int32)), .val (.long (2 : Int64)), .second] [(.int (2 : Int32)), (.ref a4)])
  obtain ⟨cl225, Ar225, q225, S225, N225, H225, G225⟩ := id V_a4
  have hin225 : ¬ ((2 : Int32) < 0 ∨ cl225.slots.size ≤ ((2 : Int32)).toNatClampNeg) := inb_of S225 ⟨by decide, by decide⟩
  refine own_go (X0.iaload hx (j := (2 : Int32)) (v := (.int (2 : Int32))) (by rw [e0]; exact Ar225.1) (State.isArrayOf_alike hZ.alike Ar225.2.1) Ar225.2.2 hin225 (H225.at hin225 rfl) (g := (mkF m 101 #[.val (.ref a1), .val (.ref a2), .val (.int (0 : Int32)), .val (.ref a4), .val (.ref a5), .val (.ref a6), .val (.int (0 : Int32)), .val (.int (2 : Int32)), .val (.int (0 : Int32)), .val (.int (1 : Int32)), .val (.int (1 : Int32)), .val (.long (2 : Int64)), .second] [(.int (2 : Int32)), (.ref a4)])) rfl rfl (hb hby d7_101)) ?_
  show own_Run p e below _ T0 (mkF m 102 #[.val (.ref a1), .val (.ref a2), .val (.int (0 : Int32)), .val (.ref a4), .val (.ref a5), .val (.ref a6), .val (.int (0 : Int32)), .val (.int (2 : Int32)), .val (.int (0 : Int32)), .val (.int (1 : Int32)), .val (.int (1 : Int32)), .val (.long (2 : Int64)), .second] [(.int (2 : Int32))])
  refine own_go (fun _ k => XS.istore X0.here hx rfl (hb hby d7_102) rfl (l' := #[.val (.ref a1), .val (.ref a2), .val (.int (0 : Int32)), .val (.ref a4), .val (.ref a5), .val (.ref a6), .val (.int (0 : Int32)), .val (.int (2 : Int32)), .val (.int (0 : Int32)), .val (.int (1 : Int32)), .val (.int (2 : Int32)), .val (.long (2 : Int64)), .second]) rfl k) ?_
  refine own_go (fun _ k => XS.iload X0.here hx rfl (hb hby d7_104) rfl k) ?_
  show own_Run p e below _ T0 (mkF m 106 #[.val (.ref a1), .val (.ref a2), .val (.int (0 : Int32)), .val (.ref a4), .val (.ref a5), .val (.ref a6), .val (.int (0 : Int32)), .val (.int (2 : Int32)), .val (.int (0 : Int32)), .val (.int (1 : Int32)), .val (.int (2 : Int32)), .val (.long (2 : Int64)), .second] [(.int (0 : Int32))])
  refine own_go (fun _ k => XS.ifYes X0.here hx rfl (pc0 := 106) (pc' := 119) rfl (hb hby d7_106) rfl ((if0 _ _).trans (teq (by decide : (0 : Int32) = (0 : Int32))).1) (by decide) (by decide) k) ?_
  show own_Run p e below _ T0 (mkF m 119 #[.val (.ref a1), .val (.ref a2), .val (.int (0 : Int32)), .val (.ref a4), .val (.ref a5), .val (.ref a6), .val (.int (0 : Int32)), .val (.int (2 : Int32)), .val (.int (0 : Int32)), .val (.int (1 : Int32)), .val (.int (2 : Int32)), .val (.long (2 : Int64)), .second] [])
  refine own_go (fun _ k => XS.lconst X0.here hx rfl (hb hby d7_119) k) ?_
  refine own_go (fun _ k => XS.iload X0.here hx rfl (hb hby d7_120) rfl k) ?_
  show own_Run p e below _ T0 (mkF m 122 #[.val (.ref a1), .val (.ref a2), .val (.int (0 : Int32)), .val (.ref a4), .val (.ref a5), .val (.ref a6), .val (.int (0 : Int32)), .val (.int (2 : Int32)), .val (.int (0 : Int32)), .val (.int (1 : Int32)), .val (.int (2 : Int32)), .val (.long (2 : Int64)), .second] [(.int (1 : Int32)), (.long (0 : Int64))])
  refine own_go (fun _ k => XS.ifNo X0.here hx rfl (hb hby d7_122) rfl ((if0 _ _).trans (feq (by decide : ¬ ((1 : Int32) = (0 : Int32)))).1) k) ?_
  show own_Run p e below _ T0 (mkF m 125 #[.val (.ref a1), .val (.ref a2), .val (.int (0 : Int32)), .val (.ref a4), .val (.ref a5), .val (.ref a6), .val (.int (0 : Int32)), .val (.int (2 : Int32)), .val (.int (0 : Int32)), .val (.int (1 : Int32)), .val (.int (2 : Int32)), .val (.long (2 : Int64)), .second] [(.long (0 : Int64))])
  refine own_go (fun _ k => XS.aload X0.here hx rfl (hb hby d7_125) rfl rfl k) ?_
  refine own_go (fun _ k => XS.iload X0.here hx rfl (hb hby d7_127) rfl k) ?_
  refine own_go (fun _ k => XS.iinc X0.here hx rfl (hb hby d7_129) rfl (l' := #[.val (.ref a1), .val (.ref a2), .val (.int (0 : Int32)), .val (.ref a4), .val (.ref a5), .val (.ref a6), .val (.int (0 : Int32)), .val (.int ((2 : Int32) + (1 : Int32))), .val (.int (0 : Int32)), .val (.int (1 : Int32)), .val (.int (2 : Int32)), .val (.long (2 : Int64)), .second]) rfl k) ?_
  show own_Run p e below _ T0 (mkF m 132 #[.val (.ref a1), .val (.ref a2), .val (.int (0 : Int32)), .val (.ref a4), .val (.ref a5), .val (.ref a6), .val (.int (0 : Int32)), .val (.int ((2 : Int32) + (1 : Int32))), .val (.int (0 : Int32)), .val (.int (1 : Int32)), .val (.int (2 : Int32)), .val (.long (2 : Int64)), .second] [(.int (2 : Int32)), (.ref a5), (.long (0 : Int64))])
  rw [show ((2 : Int32) + (1 : Int32)) = (3 : Int32) by decide]
  show own_Run p e below _ T0 (mkF m 132 #[.val (.ref a1), .val (.ref a2), .val (.int (0 : Int32)), .val (.ref a4), .val (.ref a5), .val (.ref a6), .val (.int (0 : Int32)), .val (.int (3 : Int32)), .val (.int (0 : Int32)), .val (.int (1 : Int32)), .val (.int (2 : Int32)), .val (.long (2 : Int64)), .second] [(.int (2 : Int32)), (.ref a5), (.long (0 : Int64))])
  obtain ⟨cl226, Ar226, q226, S226, N226, H226, G226⟩ := id V_a5
  have hin226 : ¬ ((2 : Int32) < 0 ∨ cl226.slots.size ≤ ((2 : Int32)).toNatClampNeg) := inb_of S226 ⟨by decide, by decide⟩
  refine own_go (X0.laload hx (j := (2 : Int32)) (v := (.long (3 : Int64))) (by rw [e0]; exact Ar226.1) (State.isArrayOf_alike hZ.alike Ar226.2.1) Ar226.2.2 hin226 (H226.at hin226 rfl) (g := (mkF m 132 #[.val (.ref a1), .val (.ref a2), .val (.int (0 : Int32)), .val (.ref a4), .val (.ref a5), .val (.ref a6), .val (.int (0 : Int32)), .val (.int (3 : Int32)), .val (.int (0 : Int32)), .val (.int (1 : Int32)), .val (.int (2 : Int32)), .val (.long (2 : Int64)), .second] [(.int (2 : Int32)), (.ref a5), (.long (0 : Int64))])) rfl rfl (hb hby d7_132)) ?_
  show own_Run p e below _ T0 (mkF m 133 #[.val (.ref a1), .val (.ref a2), .val (.int (0 : Int32)), .val (.ref a4), .val (.ref a5), .val (.ref a6), .val (.int (0 : Int32)), .val (.int (3 : Int32)), .val (.int (0 : Int32)), .val (.int (1 : Int32)), .val (.int (2 : Int32)), .val (.long (2 : Int64)), .second] [(.long (3 : Int64)), (.long (0 : Int64))])
  refine own_go (fun _ k => XS.goto X0.here hx rfl (pc0 := 133) (pc' := 137) rfl (hb hby d7_133) (by decide) (by decide) k) ?_
  show own_Run p e below _ T0 (mkF m 137 #[.val (.ref a1), .val (.ref a2), .val (.int (0 : Int32)), .val (.ref a4), .val (.ref a5), .val (.ref a6), .val (.int (0 : Int32)), .val (.int (3 : Int32)), .val (.int (0 : Int32)), .val (.int (1 : Int32)), .val (.int (2 : Int32)), .val (.long (2 : Int64)), .second] [(.long (3 : Int64)), (.long (0 : Int64))])
  obtain ⟨_, _, ⟨T227, L227, k227, n227⟩, -, X227, ⟨Lc227, hQ227, l227, y227, z227⟩, st227⟩ := Jvm.LawKit.callS X0 hx (y := (⟨"java/lang/Math", "addExact", "(JJ)J"⟩ : MethodName)) hown (mvT hZ (W 52 rfl)) (mvT hZ (W 53 rfl)) (mvT hZ (W 54 rfl)) (mvT hZ (W 55 rfl)) (by decide) (backOf (W := 0) (rm9 l Z a0 hw [] (0 : Int64) (3 : Int64) hh n0 Z0 (by decide)) hZ (W 55 rfl) (W 54 rfl) (by decide) (by decide)) (g := (mkF m 137 #[.val (.ref a1), .val (.ref a2), .val (.int (0 : Int32)), .val (.ref a4), .val (.ref a5), .val (.ref a6), .val (.int (0 : Int32)), .val (.int (3 : Int32)), .val (.int (0 : Int32)), .val (.int (1 : Int32)), .val (.int (2 : Int32)), .val (.long (2 : Int64)), .second] [(.long (3 : Int64)), (.long (0 : Int64))])) rfl (by rw [hml]; rfl) (argsL := [(.long (0 : Int64)), (.long (3 : Int64))]) (rest := []) (lenOf pd_4 rfl) rfl (by show 2 * 0 + _ ≤ _; exact Nat.le_of_eq rfl) (hb hby d7_137) (fun _ _ => ⟨rfl, e0, (by decide : 0 + 0 ≤ _), (by decide : 0 + 0 ≤ _)⟩)
  dsimp only [Pt.U, Pt.locs, Pt.cells, Pt.slots] at X227 l227 y227 z227 st227 hQ227
  subst l227 y227 z227
  obtain ⟨rfl, N227q, e227⟩ := hQ227
  have N227 := Fr.app N0 N227q
  refine own_go st227 ?_
  show own_Run p e below _ T227 (mkF m 140 #[.val (.ref a1), .val (.ref a2), .val (.int (0 : Int32)), .val (.ref a4), .val (.ref a5), .val (.ref a6), .val (.int (0 : Int32)), .val (.int (3 : Int32)), .val (.int (0 : Int32)), .val (.int (1 : Int32)), .val (.int (2 : Int32)), .val (.long (2 : Int64)), .second] [(.long ((0 : Int64) + (3 : Int64)))])
  rw [show ((0 : Int64) + (3 : Int64)) = (3 : Int64) by decide]
  show own_Run p e below _ T227 (mkF m 140 #[.val (.ref a1), .val (.ref a2), .val (.int (0 : Int32)), .val (.ref a4), .val (.ref a5), .val (.ref a6), .val (.int (0 : Int32)), .val (.int (3 : Int32)), .val (.int (0 : Int32)), .val (.int (1 : Int32)), .val (.int (2 : Int32)), .val (.long (2 : Int64)), .second] [(.long (3 : Int64))])
  refine own_go (fun _ k => XS.lstore X227.here hx rfl (hb hby d7_140) rfl (l' := #[.val (.ref a1), .val (.ref a2), .val (.int (0 : Int32)), .val (.ref a4), .val (.ref a5), .val (.ref a6), .val (.int (0 : Int32)), .val (.int (3 : Int32)), .val (.int (0 : Int32)), .val (.int (1 : Int32)), .val (.int (2 : Int32)), .val (.long (3 : Int64)), .second]) rfl k) ?_
  refine own_go (fun _ k => XS.lload X227.here hx rfl (hb hby d7_142) rfl k) ?_
  refine own_go (fun _ k => XS.lconst X227.here hx rfl (hb hby d7_144) k) ?_
  refine own_go (fun _ k => XS.lcmp X227.here hx rfl (hb hby d7_145) rfl k) ?_
  show own_Run p e below _ T227 (mkF m 146 #[.val (.ref a1), .val (.ref a2), .val (.int (0 : Int32)), .val (.ref a4), .val (.ref a5), .val (.ref a6), .val (.int (0 : Int32)), .val (.int (3 : Int32)), .val (.int (0 : Int32)), .val (.int (1 : Int32)), .val (.int (2 : Int32)), .val (.long (3 : Int64)), .second] [(.int (lcmpW (3 : Int64) (0 : Int64)))])
  refine own_go (fun _ k => XS.ifNo X227.here hx rfl (hb hby d7_146) rfl (own_lcFe (by decide : ¬ ((3 : Int64) = (0 : Int64)))).1 k) ?_
  show own_Run p e below _ T227 (mkF m 149 #[.val (.ref a1), .val (.ref a2), .val (.int (0 : Int32)), .val (.ref a4), .val (.ref a5), .val (.ref a6), .val (.int (0 : Int32)), .val (.int (3 : Int32)), .val (.int (0 : Int32)), .val (.int (1 : Int32)), .val (.int (2 : Int32)), .val (.long (3 : Int64)), .second] [])
  refine own_go (fun _ k => XS.aload X227.here hx rfl (hb hby d7_149) rfl rfl k) ?_
  refine own_go (fun _ k => XS.iload X227.here hx rfl (hb hby d7_151) rfl k) ?_
  refine own_go (fun _ k => XS.lload X227.here hx rfl (hb hby d7_153) rfl k) ?_
  show own_Run p e below _ T227 (mkF m 155 #[.val (.ref a1), .val (.ref a2), .val (.int (0 : Int32)), .val (.ref a4), .val (.ref a5), .val (.ref a6), .val (.int (0 : Int32)), .val (.int (3 : Int32)), .val (.int (0 : Int32)), .val (.int (1 : Int32)), .val (.int (2 : Int32)), .val (.long (3 : Int64)), .second] [(.long (3 : Int64)), (.int (2 : Int32)), (.ref a6)])
  obtain ⟨cq228, kq228, q228a, q228b, q228c⟩ := isOf hZ e227 E_a6
  obtain ⟨_, _, ⟨T228, L228, k228, n228⟩, -, X228, ⟨Lc228, hQ228, l228, y228, z228⟩, st228⟩ := X227.virtualBack hx (y := (⟨"com/example/net_reducer/netreducer/analysis/Marking", "add", "(IJ)V"⟩ : MethodName)) (z := (⟨"com/example/net_reducer/netreducer/analysis/Marking", "add", "(IJ)V"⟩ : MethodName)) hown (mvT hZ (W 56 rfl)) (mvT hZ (W 23 rfl)) (notFace_of_selects (args := #[]) (mvT hZ (W 25 rfl))) (mvT hZ (W 25 rfl)) (mvT hZ (W 24 rfl)) (by decide) (backOf (W := 0) (rm3c2 l Z a0 hw [] a6 (2 : Int32) (3 : Int64) b1 b2 k1 k2 (0 : Int32) (1 : Int32) (0 : Int32) (0 : Int32) (0 : Int32) (0 : Int32) (0 : Int32) (0 : Int32) (1 : Int64) (2 : Int64) (0 : Int64) (0 : Int64) (0 : Int64) (0 : Int64) (0 : Int64) (0 : Int64) hh n0 Z0 E_a6 F_places_a6 F_tokens_a6 F_size_a6 V_b1 V_b2 g_a6 g_b1 g_b2 ne_a6_b1 ne_a6_b2 ne_b1_b2) hZ (W 26 rfl) (W 11 rfl) (by decide) (by decide)) q228a q228c (g := (mkF m 155 #[.val (.ref a1), .val (.ref a2), .val (.int (0 : Int32)), .val (.ref a4), .val (.ref a5), .val (.ref a6), .val (.int (0 : Int32)), .val (.int (3 : Int32)), .val (.int (0 : Int32)), .val (.int (1 : Int32)), .val (.int (2 : Int32)), .val (.long (3 : Int64)), .second] [(.long (3 : Int64)), (.int (2 : Int32)), (.ref a6)])) rfl (by rw [hml]; rfl) (Steps.refl _) (argsL := [(.int (2 : Int32)), (.long (3 : Int64))]) (rest := []) (lenOf pd_5 rfl) rfl (by show 2 * 0 + _ ≤ _; exact Nat.le_of_eq rfl) (hb hby d7_155) (fun _ _ => ⟨rfl, e227, (by decide : 0 + 0 ≤ _), (by decide : 0 + 0 ≤ _)⟩)
  dsimp only [Pt.U, Pt.locs, Pt.cells, Pt.slots] at X228 l228 y228 z228 st228 hQ228
  subst l228 y228 z228
  obtain ⟨rfl, N228q, K228, P228_0, P228_1, P228_2, P228_3, P228_4, P228_5⟩ := hQ228
  have N228 := Fr.app N227 N228q
  refine own_goT st228 ?_
  show own_Run p e below _ T228 (mkF m 158 #[.val (.ref a1), .val (.ref a2), .val (.int (0 : Int32)), .val (.ref a4), .val (.ref a5), .val (.ref a6), .val (.int (0 : Int32)), .val (.int (3 : Int32)), .val (.int (0 : Int32)), .val (.int (1 : Int32)), .val (.int (2 : Int32)), .val (.long (3 : Int64)), .second] [])
  have Z0_c229 := Nat.le_trans Z0 K228.1
  have K0_c229 := K0.trans K228 (allS (Or.inl (List.mem_of_getElem? (i := 0) rfl)) (allS (Or.inl (List.mem_of_getElem? (i := 1) rfl)) (allS (Or.inl (List.mem_of_getElem? (i := 2) rfl)) all0)))
  have E_a6_c229 := E_a6.keep K228
  have V_a4_c229 := V_a4.keep K228 (ninS ne_a4_a6 (ninS ne_a4_b1 (ninS ne_a4_b2 nin0)))
  have V_a5_c229 := V_a5.keep K228 (ninS ne_a5_a6 (ninS ne_a5_b1 (ninS ne_a5_b2 nin0)))
  refine own_go (fun _ k => XS.goto X228.here hx rfl (pc0 := 158) (pc' := 11) rfl (hb hby d7_158) (by decide) (by decide) k) ?_
  show own_Run p e below _ T228 (mkF m 11 #[.val (.ref a1), .val (.ref a2), .val (.int (0 : Int32)), .val (.ref a4), .val (.ref a5), .val (.ref a6), .val (.int (0 : Int32)), .val (.int (3 : Int32)), .val (.int (0 : Int32)), .val (.int (1 : Int32)), .val (.int (2 : Int32)), .val (.long (3 : Int64)), .second] [])
  exact mg3 a1 a2 a4 a5 a6 b1 b2 k1 k2 k4 k5 h0 n0 hx hZ hw hby hml hown hnm hret hlk  T228 T228.heap _ X228 rfl N228 Z0_c229 K0_c229 P228_0 P228_1 P228_2 P228_3 P228_4 P228_5 V_a4_c229 V_a5_c229 g_a6 g_b1 g_b2 ne_a6_b1 ne_a6_b2 ne_b1_b2 ne_a4_a6 ne_a4_b1 ne_a4_b2 ne_a5_a6 ne_a5_b1 ne_a5_b2 
set_option maxRecDepth 65536 in
set_option maxHeartbeats 40000000 in
theorem mg1 {p : Program} {l : Launch} {e : Env} {s : State} {m : MethodId} {args : Array Value} {below : List Frame} {meth : Method} {c : Code} {Z : State} {a0 : Array Value} (a1 : Addr) (a2 : Addr) (a4 : Addr) (a5 : Addr) (a6 : Addr) (b1 : Addr) (b2 : Addr) (k1 : ClassId) (k2 : ClassId) (k4 : ClassId) (k5 : ClassId) (h0 : Heap) (n0 : Nat) (hx : p.tables.exec = Jvm.exec) (hZ : Z.Warmed39 s.vm) (hw : ∀ d ∈ tables_1, d.before a0 Z = true) (hby : c.code = prog_10_method_9_code) (hml : c.maxLocals = 13) (hown : s.vm.findClass "com/example/net_reducer/netreducer/analysis/Marking" = some m.cls) (hnm : meth.name = "merge") (hret : meth.sig.returnType = none) (hlk : meth.locks = false)
    (T0 : State) (hh : Heap) (locs : List Loc) (X0 : Stand p l e ({ frames := 1, cells := 0, slots := 0, locals := 20 } : Room) s m args below meth c T0 locs 0 0) (e0 : T0.heap = hh) (N0 : Fr n0 locs) (Z0 : n0 ≤ hh.size) (K0 : Keep h0 hh [a6, b1, b2]) (E_a6 : Exa Z hh a6 "com/example/net_reducer/netreducer/analysis/Marking") (F_places_a6 : Fld Z hh a6 "com/example/net_reducer/netreducer/analysis/Marking" "places" "[I" (.ref b1)) (F_tokens_a6 : Fld Z hh a6 "com/example/net_reducer/netreducer/analysis/Marking" "tokens" "[J" (.ref b2)) (F_size_a6 : Fld Z hh a6 "com/example/net_reducer/netreducer/analysis/Marking" "size" "I" (.int (1 : Int32))) (V_b1 : Arv Z hh b1 k1 .int (8 : Int32) [(.int (0 : Int32)), (.int (0 : Int32)), (.int (0 : Int32)), (.int (0 : Int32)), (.int (0 : Int32)), (.int (0 : Int32)), (.int (0 : Int32)), (.int (0 : Int32))] (.int (0 : Int32))) (V_b2 : Arv Z hh b2 k2 .long (8 : Int32) [(.long (1 : Int64)), (.long (0 : Int64)), (.long (0 : Int64)), (.long (0 : Int64)), (.long (0 : Int64)), (.long (0 : Int64)), (.long (0 : Int64)), (.long (0 : Int64))] (.long (0 : Int64))) (V_a4 : Arv Z hh a4 k4 .int (8 : Int32) [(.int (0 : Int32)), (.int (1 : Int32)), (.int (2 : Int32)), (.int (3 : Int32)), (.int (4 : Int32)), (.int (5 : Int32)), (.int (6 : Int32)), (.int (7 : Int32))] (.int (0 : Int32))) (V_a5 : Arv Z hh a5 k5 .long (8 : Int32) [(.long (1 : Int64)), (.long (2 : Int64)), (.long (3 : Int64)), (.long (4 : Int64)), (.long (5 : Int64)), (.long (6 : Int64)), (.long (7 : Int64)), (.long (8 : Int64))] (.long (0 : Int64))) (g_a6 : n0 ≤ a6) (g_b1 : n0 ≤ b1) (g_b2 : n0 ≤ b2) (ne_a6_b1 : a6 ≠ b1) (ne_a6_b2 : a6 ≠ b2) (ne_b1_b2 : b1 ≠ b2) (ne_a4_a6 : a4 ≠ a6) (ne_a4_b1 : a4 ≠ b1) (ne_a4_b2 : a4 ≠ b2) (ne_a5_a6 : a5 ≠ a6) (ne_a5_b1 : a5 ≠ b1) (ne_a5_b2 : a5 ≠ b2) :
    own_Run p e below (fun o U' => ∃ v L, o = .returned v ∧ Q7 Z a1 a2 a4 a5 a6 b1 b2 k1 k2 k4 k5 h0 n0 v U'.heap L ∧ FrameEnd s o U' L ({ frames := 1, cells := 0, slots := 0, locals := 20 } : Room).cells ({ frames := 1, cells := 0, slots := 0, locals := 20 } : Room).slots) T0 (mkF m 11 #[.val (.ref a1), .val (.ref a2), .val (.int (0 : Int32)), .val (.ref a4), .val (.ref a5), .val (.ref a6), .val (.int (0 : Int32)), .val (.int (1 : Int32)), .val (.int (0 : Int32)), .val (.int (1 : Int32)), .val (.int (0 : Int32)), .val (.long (1 : Int64)), .second] []) := by
  have W := fun (k : Nat) {d : Jvm.Cond} (h : tables_1[k]? = some d) => hw d (List.mem_of_getElem? h)
  show own_Run p e below _ T0 (mkF m 11 #[.val (.ref a1), .val (.ref a2), .val (.int (0 : Int32)), .val (.ref a4), .val (.ref a5), .val (.ref a6), .val (.int (0 : Int32)), .val (.int (1 : Int32)), .val (.int (0 : Int32)), .val (.int (1 : Int32)), .val (.int (0 : Int32)), .val (.long (1 : Int64)), .second] [])
  refine own_go (fun _ k => XS.iload X0.here hx rfl (hb hby d7_11) rfl k) ?_
  refine own_go (fun _ k => XS.iloadN X0.here hx rfl (hb hby d7_13) rfl k) ?_
  show own_Run p e below _ T0 (mkF m 14 #[.val (.ref a1), .val (.ref a2), .val (.int (0 : Int32)), .val (.ref a4), .val (.ref a5), .val (.ref a6), .val (.int (0 : Int32)), .val (.int (1 : Int32)), .val (.int (0 : Int32)), .val (.int (1 : Int32)), .val (.int (0 : Int32)), .val (.long (1 : Int64)), .second] [(.int (0 : Int32)), (.int (0 : Int32))])
  refine own_go (fun _ k => XS.icmpNo X0.here hx rfl (hb hby d7_14) rfl (flt (by decide : ¬ ((0 : Int32) < (0 : Int32)))).1 k) ?_
  show own_Run p e below _ T0 (mkF m 17 #[.val (.ref a1), .val (.ref a2), .val (.int (0 : Int32)), .val (.ref a4), .val (.ref a5), .val (.ref a6), .val (.int (0 : Int32)), .val (.int (1 : Int32)), .val (.int (0 : Int32)), .val (.int (1 : Int32)), .val (.int (0 : Int32)), .val (.long (1 : Int64)), .second] [])
  refine own_go (fun _ k => XS.iload X0.here hx rfl (hb hby d7_17) rfl k) ?_
  refine own_go (fun _ k => XS.aloadN X0.here hx rfl (hb hby d7_19) rfl rfl k) ?_
  show own_Run p e below _ T0 (mkF m 20 #[.val (.ref a1), .val (.ref a2), .val (.int (0 : Int32)), .val (.ref a4), .val (.ref a5), .val (.ref a6), .val (.int (0 : Int32)), .val (.int (1 : Int32)), .val (.int (0 : Int32)), .val (.int (1 : Int32)), .val (.int (0 : Int32)), .val (.long (1 : Int64)), .second] [(.ref a4), (.int (1 : Int32))])
  obtain ⟨cl230, Ar230, q230, S230, N230, H230, G230⟩ := id V_a4
  refine own_go (X0.arraylength hx (by rw [e0]; exact Ar230.1) (State.isArrayOf_alike hZ.alike Ar230.2.1) (g := (mkF m 20 #[.val (.ref a1), .val (.ref a2), .val (.int (0 : Int32)), .val (.ref a4), .val (.ref a5), .val (.ref a6), .val (.int (0 : Int32)), .val (.int (1 : Int32)), .val (.int (0 : Int32)), .val (.int (1 : Int32)), .val (.int (0 : Int32)), .val (.long (1 : Int64)), .second] [(.ref a4), (.int (1 : Int32))])) rfl rfl (hb hby d7_20)) ?_
  rw [len_of S230 N230]
  show own_Run p e below _ T0 (mkF m 21 #[.val (.ref a1), .val (.ref a2), .val (.int (0 : Int32)), .val (.ref a4), .val (.ref a5), .val (.ref a6), .val (.int (0 : Int32)), .val (.int (1 : Int32)), .val (.int (0 : Int32)), .val (.int (1 : Int32)), .val (.int (0 : Int32)), .val (.long (1 : Int64)), .second] [(.int (8 : Int32)), (.int (1 : Int32))])
  refine own_go (fun _ k => XS.icmpNo X0.here hx rfl (hb hby d7_21) rfl (tlt (by decide : (1 : Int32) < (8 : Int32))).2.1 k) ?_
  show own_Run p e below _ T0 (mkF m 24 #[.val (.ref a1), .val (.ref a2), .val (.int (0 : Int32)), .val (.ref a4), .val (.ref a5), .val (.ref a6), .val (.int (0 : Int32)), .val (.int (1 : Int32)), .val (.int (0 : Int32)), .val (.int (1 : Int32)), .val (.int (0 : Int32)), .val (.long (1 : Int64)), .second] [])
  refine own_go (fun _ k => XS.iload X0.here hx rfl (hb hby d7_24) rfl k) ?_
  refine own_go (fun _ k => XS.aloadN X0.here hx rfl (hb hby d7_26) rfl rfl k) ?_
  show own_Run p e below _ T0 (mkF m 27 #[.val (.ref a1), .val (.ref a2), .val (.int (0 : Int32)), .val (.ref a4), .val (.ref a5), .val (.ref a6), .val (.int (0 : Int32)), .val (.int (1 : Int32)), .val (.int (0 : Int32)), .val (.int (1 : Int32)), .val (.int (0 : Int32)), .val (.long (1 : Int64)), .second] [(.ref a4), (.int (1 : Int32))])
  obtain ⟨cl231, Ar231, q231, S231, N231, H231, G231⟩ := id V_a4
  refine own_go (X0.arraylength hx (by rw [e0]; exact Ar231.1) (State.isArrayOf_alike hZ.alike Ar231.2.1) (g := (mkF m 27 #[.val (.ref a1), .val (.ref a2), .val (.int (0 : Int32)), .val (.ref a4), .val (.ref a5), .val (.ref a6), .val (.int (0 : Int32)), .val (.int (1 : Int32)), .val (.int (0 : Int32)), .val (.int (1 : Int32)), .val (.int (0 : Int32)), .val (.long (1 : Int64)), .second] [(.ref a4), (.int (1 : Int32))])) rfl rfl (hb hby d7_27)) ?_
  rw [len_of S231 N231]
  show own_Run p e below _ T0 (mkF m 28 #[.val (.ref a1), .val (.ref a2), .val (.int (0 : Int32)), .val (.ref a4), .val (.ref a5), .val (.ref a6), .val (.int (0 : Int32)), .val (.int (1 : Int32)), .val (.int (0 : Int32)), .val (.int (1 : Int32)), .val (.int (0 : Int32)), .val (.long (1 : Int64)), .second] [(.int (8 : Int32)), (.int (1 : Int32))])
  refine own_go (fun _ k => XS.icmpNo X0.here hx rfl (hb hby d7_28) rfl (feq (by decide : ¬ ((1 : Int32) = (8 : Int32)))).1 k) ?_
  show own_Run p e below _ T0 (mkF m 31 #[.val (.ref a1), .val (.ref a2), .val (.int (0 : Int32)), .val (.ref a4), .val (.ref a5), .val (.ref a6), .val (.int (0 : Int32)), .val (.int (1 : Int32)), .val (.int (0 : Int32)), .val (.int (1 : Int32)), .val (.int (0 : Int32)), .val (.long (1 : Int64)), .second] [])
  refine own_go (fun _ k => XS.iload X0.here hx rfl (hb hby d7_31) rfl k) ?_
  refine own_go (fun _ k => XS.iloadN X0.here hx rfl (hb hby d7_33) rfl k) ?_
  show own_Run p e below _ T0 (mkF m 34 #[.val (.ref a1), .val (.ref a2), .val (.int (0 : Int32)), .val (.ref a4), .val (.ref a5), .val (.ref a6), .val (.int (0 : Int32)), .val (.int (1 : Int32)), .val (.int (0 : Int32)), .val (.int (1 : Int32)), .val (.int (0 : Int32)), .val (.long (1 : Int64)), .second] [(.int (0 : Int32)), (.int (0 : Int32))])
  refine own_go (fun _ k => XS.icmpYes X0.here hx rfl (pc0 := 34) (pc' := 52) rfl (hb hby d7_34) rfl (flt (by decide : ¬ ((0 : Int32) < (0 : Int32)))).2.1 (by decide) (by decide) k) ?_
  show own_Run p e below _ T0 (mkF m 52 #[.val (.ref a1), .val (.ref a2), .val (.int (0 : Int32)), .val (.ref a4), .val (.ref a5), .val (.ref a6), .val (.int (0 : Int32)), .val (.int (1 : Int32)), .val (.int (0 : Int32)), .val (.int (1 : Int32)), .val (.int (0 : Int32)), .val (.long (1 : Int64)), .second] [])
  refine own_go (fun _ k => XS.iconst X0.here hx rfl (hb hby d7_52) k) ?_
  refine own_go (fun _ k => XS.istore X0.here hx rfl (hb hby d7_53) rfl (l' := #[.val (.ref a1), .val (.ref a2), .val (.int (0 : Int32)), .val (.ref a4), .val (.ref a5), .val (.ref a6), .val (.int (0 : Int32)), .val (.int (1 : Int32)), .val (.int (0 : Int32)), .val (.int (1 : Int32)), .val (.int (0 : Int32)), .val (.long (1 : Int64)), .second]) rfl k) ?_
  refine own_go (fun _ k => XS.iload X0.here hx rfl (hb hby d7_55) rfl k) ?_
  refine own_go (fun _ k => XS.iloadN X0.here hx rfl (hb hby d7_57) rfl k) ?_
  show own_Run p e below _ T0 (mkF m 58 #[.val (.ref a1), .val (.ref a2), .val (.int (0 : Int32)), .val (.ref a4), .val (.ref a5), .val (.ref a6), .val (.int (0 : Int32)), .val (.int (1 : Int32)), .val (.int (0 : Int32)), .val (.int (1 : Int32)), .val (.int (0 : Int32)), .val (.long (1 : Int64)), .second] [(.int (0 : Int32)), (.int (0 : Int32))])
  refine own_go (fun _ k => XS.icmpYes X0.here hx rfl (pc0 := 58) (pc' := 79) rfl (hb hby d7_58) rfl (teq (by decide : (0 : Int32) = (0 : Int32))).1 (by decide) (by decide) k) ?_
  show own_Run p e below _ T0 (mkF m 79 #[.val (.ref a1), .val (.ref a2), .val (.int (0 : Int32)), .val (.ref a4), .val (.ref a5), .val (.ref a6), .val (.int (0 : Int32)), .val (.int (1 : Int32)), .val (.int (0 : Int32)), .val (.int (1 : Int32)), .val (.int (0 : Int32)), .val (.long (1 : Int64)), .second] [])
  refine own_go (fun _ k => XS.iconst X0.here hx rfl (hb hby d7_79) k) ?_
  refine own_go (fun _ k => XS.goto X0.here hx rfl (pc0 := 80) (pc' := 84) rfl (hb hby d7_80) (by decide) (by decide) k) ?_
  refine own_go (fun _ k => XS.istore X0.here hx rfl (hb hby d7_84) rfl (l' := #[.val (.ref a1), .val (.ref a2), .val (.int (0 : Int32)), .val (.ref a4), .val (.ref a5), .val (.ref a6), .val (.int (0 : Int32)), .val (.int (1 : Int32)), .val (.int (0 : Int32)), .val (.int (1 : Int32)), .val (.int (0 : Int32)), .val (.long (1 : Int64)), .second]) rfl k) ?_
  refine own_go (fun _ k => XS.iload X0.here hx rfl (hb hby d7_86) rfl k) ?_
  show own_Run p e below _ T0 (mkF m 88 #[.val (.ref a1), .val (.ref a2), .val (.int (0 : Int32)), .val (.ref a4), .val (.ref a5), .val (.ref a6), .val (.int (0 : Int32)), .val (.int (1 : Int32)), .val (.int (0 : Int32)), .val (.int (1 : Int32)), .val (.int (0 : Int32)), .val (.long (1 : Int64)), .second] [(.int (0 : Int32))])
  refine own_go (fun _ k => XS.ifYes X0.here hx rfl (pc0 := 88) (pc' := 98) rfl (hb hby d7_88) rfl ((if0 _ _).trans (teq (by decide : (0 : Int32) = (0 : Int32))).1) (by decide) (by decide) k) ?_
  show own_Run p e below _ T0 (mkF m 98 #[.val (.ref a1), .val (.ref a2), .val (.int (0 : Int32)), .val (.ref a4), .val (.ref a5), .val (.ref a6), .val (.int (0 : Int32)), .val (.int (1 : Int32)), .val (.int (0 : Int32)), .val (.int (1 : Int32)), .val (.int (0 : Int32)), .val (.long (1 : Int64)), .second] [])
  refine own_go (fun _ k => XS.aloadN X0.here hx rfl (hb hby d7_98) rfl rfl k) ?_
  refine own_go (fun _ k => XS.iload X0.here hx rfl (hb hby d7_99) rfl k) ?_
  show own_Run p e below _ T0 (mkF m 101 #[.val (.ref a1), .val (.ref a2), .val (.int (0 : Int32)), .val (.ref a4), .val (.ref a5), .val (.ref a6), .val (.int (0 : Int32)), .val (.int (1 : Int32)), .val (.int (0 : Int32)), .val (.int (1 : Int32)), .val (.int (0 : Int32)), .val (.long (1 : Int64)), .second] [(.int (1 : Int32)), (.ref a4)])
  obtain ⟨cl232, Ar232, q232, S232, N232, H232, G232⟩ := id V_a4
  have hin232 : ¬ ((1 : Int32) < 0 ∨ cl232.slots.size ≤ ((1 : Int32)).toNatClampNeg) := inb_of S232 ⟨by decide, by decide⟩
  refine own_go (X0.iaload hx (j := (1 : Int32)) (v := (.int (1 : Int32))) (by rw [e0]; exact Ar232.1) (State.isArrayOf_alike hZ.alike Ar232.2.1) Ar232.2.2 hin232 (H232.at hin232 rfl) (g := (mkF m 101 #[.val (.ref a1), .val (.ref a2), .val (.int (0 : Int32)), .val (.ref a4), .val (.ref a5), .val (.ref a6), .val (.int (0 : Int32)), .val (.int (1 : Int32)), .val (.int (0 : Int32)), .val (.int (1 : Int32)), .val (.int (0 : Int32)), .val (.long (1 : Int64)), .second] [(.int (1 : Int32)), (.ref a4)])) rfl rfl (hb hby d7_101)) ?_
  show own_Run p e below _ T0 (mkF m 102 #[.val (.ref a1), .val (.ref a2), .val (.int (0 : Int32)), .val (.ref a4), .val (.ref a5), .val (.ref a6), .val (.int (0 : Int32)), .val (.int (1 : Int32)), .val (.int (0 : Int32)), .val (.int (1 : Int32)), .val (.int (0 : Int32)), .val (.long (1 : Int64)), .second] [(.int (1 : Int32))])
  refine own_go (fun _ k => XS.istore X0.here hx rfl (hb hby d7_102) rfl (l' := #[.val (.ref a1), .val (.ref a2), .val (.int (0 : Int32)), .val (.ref a4), .val (.ref a5), .val (.ref a6), .val (.int (0 : Int32)), .val (.int (1 : Int32)), .val (.int (0 : Int32)), .val (.int (1 : Int32)), .val (.int (1 : Int32)), .val (.long (1 : Int64)), .second]) rfl k) ?_
  refine own_go (fun _ k => XS.iload X0.here hx rfl (hb hby d7_104) rfl k) ?_
  show own_Run p e below _ T0 (mkF m 106 #[.val (.ref a1), .val (.ref a2), .val (.int (0 : Int32)), .val (.ref a4), .val (.ref a5), .val (.ref a6), .val (.int (0 : Int32)), .val (.int (1 : Int32)), .val (.int (0 : Int32)), .val (.int (1 : Int32)), .val (.int (1 : Int32)), .val (.long (1 : Int64)), .second] [(.int (0 : Int32))])
  refine own_go (fun _ k => XS.ifYes X0.here hx rfl (pc0 := 106) (pc' := 119) rfl (hb hby d7_106) rfl ((if0 _ _).trans (teq (by decide : (0 : Int32) = (0 : Int32))).1) (by decide) (by decide) k) ?_
  show own_Run p e below _ T0 (mkF m 119 #[.val (.ref a1), .val (.ref a2), .val (.int (0 : Int32)), .val (.ref a4), .val (.ref a5), .val (.ref a6), .val (.int (0 : Int32)), .val (.int (1 : Int32)), .val (.int (0 : Int32)), .val (.int (1 : Int32)), .val (.int (1 : Int32)), .val (.long (1 : Int64)), .second] [])
  refine own_go (fun _ k => XS.lconst X0.here hx rfl (hb hby d7_119) k) ?_
  refine own_go (fun _ k => XS.iload X0.here hx rfl (hb hby d7_120) rfl k) ?_
  show own_Run p e below _ T0 (mkF m 122 #[.val (.ref a1), .val (.ref a2), .val (.int (0 : Int32)), .val (.ref a4), .val (.ref a5), .val (.ref a6), .val (.int (0 : Int32)), .val (.int (1 : Int32)), .val (.int (0 : Int32)), .val (.int (1 : Int32)), .val (.int (1 : Int32)), .val (.long (1 : Int64)), .second] [(.int (1 : Int32)), (.long (0 : Int64))])
  refine own_go (fun _ k => XS.ifNo X0.here hx rfl (hb hby d7_122) rfl ((if0 _ _).trans (feq (by decide : ¬ ((1 : Int32) = (0 : Int32)))).1) k) ?_
  show own_Run p e below _ T0 (mkF m 125 #[.val (.ref a1), .val (.ref a2), .val (.int (0 : Int32)), .val (.ref a4), .val (.ref a5), .val (.ref a6), .val (.int (0 : Int32)), .val (.int (1 : Int32)), .val (.int (0 : Int32)), .val (.int (1 : Int32)), .val (.int (1 : Int32)), .val (.long (1 : Int64)), .second] [(.long (0 : Int64))])
  refine own_go (fun _ k => XS.aload X0.here hx rfl (hb hby d7_125) rfl rfl k) ?_
  refine own_go (fun _ k => XS.iload X0.here hx rfl (hb hby d7_127) rfl k) ?_
  refine own_go (fun _ k => XS.iinc X0.here hx rfl (hb hby d7_129) rfl (l' := #[.val (.ref a1), .val (.ref a2), .val (.int (0 : Int32)), .val (.ref a4), .val (.ref a5), .val (.ref a6), .val (.int (0 : Int32)), .val (.int ((1 : Int32) + (1 : Int32))), .val (.int (0 : Int32)), .val (.int (1 : Int32)), .val (.int (1 : Int32)), .val (.long (1 : Int64)), .second]) rfl k) ?_
  show own_Run p e below _ T0 (mkF m 132 #[.val (.ref a1), .val (.ref a2), .val (.int (0 : Int32)), .val (.ref a4), .val (.ref a5), .val (.ref a6), .val (.int (0 : Int32)), .val (.int ((1 : Int32) + (1 : Int32))), .val (.int (0 : Int32)), .val (.int (1 : Int32)), .val (.int (1 : Int32)), .val (.long (1 : Int64)), .second] [(.int (1 : Int32)), (.ref a5), (.long (0 : Int64))])
  rw [show ((1 : Int32) + (1 : Int32)) = (2 : Int32) by decide]
  show own_Run p e below _ T0 (mkF m 132 #[.val (.ref a1), .val (.ref a2), .val (.int (0 : Int32)), .val (.ref a4), .val (.ref a5), .val (.ref a6), .val (.int (0 : Int32)), .val (.int (2 : Int32)), .val (.int (0 : Int32)), .val (.int (1 : Int32)), .val (.int (1 : Int32)), .val (.long (1 : Int64)), .second] [(.int (1 : Int32)), (.ref a5), (.long (0 : Int64))])
  obtain ⟨cl233, Ar233, q233, S233, N233, H233, G233⟩ := id V_a5
  have hin233 : ¬ ((1 : Int32) < 0 ∨ cl233.slots.size ≤ ((1 : Int32)).toNatClampNeg) := inb_of S233 ⟨by decide, by decide⟩
  refine own_go (X0.laload hx (j := (1 : Int32)) (v := (.long (2 : Int64))) (by rw [e0]; exact Ar233.1) (State.isArrayOf_alike hZ.alike Ar233.2.1) Ar233.2.2 hin233 (H233.at hin233 rfl) (g := (mkF m 132 #[.val (.ref a1), .val (.ref a2), .val (.int (0 : Int32)), .val (.ref a4), .val (.ref a5), .val (.ref a6), .val (.int (0 : Int32)), .val (.int (2 : Int32)), .val (.int (0 : Int32)), .val (.int (1 : Int32)), .val (.int (1 : Int32)), .val (.long (1 : Int64)), .second] [(.int (1 : Int32)), (.ref a5), (.long (0 : Int64))])) rfl rfl (hb hby d7_132)) ?_
  show own_Run p e below _ T0 (mkF m 133 #[.val (.ref a1), .val (.ref a2), .val (.int (0 : Int32)), .val (.ref a4), .val (.ref a5), .val (.ref a6), .val (.int (0 : Int32)), .val (.int (2 : Int32)), .val (.int (0 : Int32)), .val (.int (1 : Int32)), .val (.int (1 : Int32)), .val (.long (1 : Int64)), .second] [(.long (2 : Int64)), (.long (0 : Int64))])
  refine own_go (fun _ k => XS.goto X0.here hx rfl (pc0 := 133) (pc' := 137) rfl (hb hby d7_133) (by decide) (by decide) k) ?_
  show own_Run p e below _ T0 (mkF m 137 #[.val (.ref a1), .val (.ref a2), .val (.int (0 : Int32)), .val (.ref a4), .val (.ref a5), .val (.ref a6), .val (.int (0 : Int32)), .val (.int (2 : Int32)), .val (.int (0 : Int32)), .val (.int (1 : Int32)), .val (.int (1 : Int32)), .val (.long (1 : Int64)), .second] [(.long (2 : Int64)), (.long (0 : Int64))])
  obtain ⟨_, _, ⟨T234, L234, k234, n234⟩, -, X234, ⟨Lc234, hQ234, l234, y234, z234⟩, st234⟩ := Jvm.LawKit.callS X0 hx (y := (⟨"java/lang/Math", "addExact", "(JJ)J"⟩ : MethodName)) hown (mvT hZ (W 52 rfl)) (mvT hZ (W 53 rfl)) (mvT hZ (W 54 rfl)) (mvT hZ (W 55 rfl)) (by decide) (backOf (W := 0) (rm9 l Z a0 hw [] (0 : Int64) (2 : Int64) hh n0 Z0 (by decide)) hZ (W 55 rfl) (W 54 rfl) (by decide) (by decide)) (g := (mkF m 137 #[.val (.ref a1), .val (.ref a2), .val (.int (0 : Int32)), .val (.ref a4), .val (.ref a5), .val (.ref a6), .val (.int (0 : Int32)), .val (.int (2 : Int32)), .val (.int (0 : Int32)), .val (.int (1 : Int32)), .val (.int (1 : Int32)), .val (.long (1 : Int64)), .second] [(.long (2 : Int64)), (.long (0 : Int64))])) rfl (by rw [hml]; rfl) (argsL := [(.long (0 : Int64)), (.long (2 : Int64))]) (rest := []) (lenOf pd_4 rfl) rfl (by show 2 * 0 + _ ≤ _; exact Nat.le_of_eq rfl) (hb hby d7_137) (fun _ _ => ⟨rfl, e0, (by decide : 0 + 0 ≤ _), (by decide : 0 + 0 ≤ _)⟩)
  dsimp only [Pt.U, Pt.locs, Pt.cells, Pt.slots] at X234 l234 y234 z234 st234 hQ234
  subst l234 y234 z234
  obtain ⟨rfl, N234q, e234⟩ := hQ234
  have N234 := Fr.app N0 N234q
  refine own_go st234 ?_
  show own_Run p e below _ T234 (mkF m 140 #[.val (.ref a1), .val (.ref a2), .val (.int (0 : Int32)), .val (.ref a4), .val (.ref a5), .val (.ref a6), .val (.int (0 : Int32)), .val (.int (2 : Int32)), .val (.int (0 : Int32)), .val (.int (1 : Int32)), .val (.int (1 : Int32)), .val (.long (1 : Int64)), .second] [(.long ((0 : Int64) + (2 : Int64)))])
  rw [show ((0 : Int64) + (2 : Int64)) = (2 : Int64) by decide]
  show own_Run p e below _ T234 (mkF m 140 #[.val (.ref a1), .val (.ref a2), .val (.int (0 : Int32)), .val (.ref a4), .val (.ref a5), .val (.ref a6), .val (.int (0 : Int32)), .val (.int (2 : Int32)), .val (.int (0 : Int32)), .val (.int (1 : Int32)), .val (.int (1 : Int32)), .val (.long (1 : Int64)), .second] [(.long (2 : Int64))])
  refine own_go (fun _ k => XS.lstore X234.here hx rfl (hb hby d7_140) rfl (l' := #[.val (.ref a1), .val (.ref a2), .val (.int (0 : Int32)), .val (.ref a4), .val (.ref a5), .val (.ref a6), .val (.int (0 : Int32)), .val (.int (2 : Int32)), .val (.int (0 : Int32)), .val (.int (1 : Int32)), .val (.int (1 : Int32)), .val (.long (2 : Int64)), .second]) rfl k) ?_
  refine own_go (fun _ k => XS.lload X234.here hx rfl (hb hby d7_142) rfl k) ?_
  refine own_go (fun _ k => XS.lconst X234.here hx rfl (hb hby d7_144) k) ?_
  refine own_go (fun _ k => XS.lcmp X234.here hx rfl (hb hby d7_145) rfl k) ?_
  show own_Run p e below _ T234 (mkF m 146 #[.val (.ref a1), .val (.ref a2), .val (.int (0 : Int32)), .val (.ref a4), .val (.ref a5), .val (.ref a6), .val (.int (0 : Int32)), .val (.int (2 : Int32)), .val (.int (0 : Int32)), .val (.int (1 : Int32)), .val (.int (1 : Int32)), .val (.long (2 : Int64)), .second] [(.int (lcmpW (2 : Int64) (0 : Int64)))])
  refine own_go (fun _ k => XS.ifNo X234.here hx rfl (hb hby d7_146) rfl (own_lcFe (by decide : ¬ ((2 : Int64) = (0 : Int64)))).1 k) ?_
  show own_Run p e below _ T234 (mkF m 149 #[.val (.ref a1), .val (.ref a2), .val (.int (0 : Int32)), .val (.ref a4), .val (.ref a5), .val (.ref a6), .val (.int (0 : Int32)), .val (.int (2 : Int32)), .val (.int (0 : Int32)), .val (.int (1 : Int32)), .val (.int (1 : Int32)), .val (.long (2 : Int64)), .second] [])
  refine own_go (fun _ k => XS.aload X234.here hx rfl (hb hby d7_149) rfl rfl k) ?_
  refine own_go (fun _ k => XS.iload X234.here hx rfl (hb hby d7_151) rfl k) ?_
  refine own_go (fun _ k => XS.lload X234.here hx rfl (hb hby d7_153) rfl k) ?_
  show own_Run p e below _ T234 (mkF m 155 #[.val (.ref a1), .val (.ref a2), .val (.int (0 : Int32)), .val (.ref a4), .val (.ref a5), .val (.ref a6), .val (.int (0 : Int32)), .val (.int (2 : Int32)), .val (.int (0 : Int32)), .val (.int (1 : Int32)), .val (.int (1 : Int32)), .val (.long (2 : Int64)), .second] [(.long (2 : Int64)), (.int (1 : Int32)), (.ref a6)])
  obtain ⟨cq235, kq235, q235a, q235b, q235c⟩ := isOf hZ e234 E_a6
  obtain ⟨_, _, ⟨T235, L235, k235, n235⟩, -, X235, ⟨Lc235, hQ235, l235, y235, z235⟩, st235⟩ := X234.virtualBack hx (y := (⟨"com/example/net_reducer/netreducer/analysis/Marking", "add", "(IJ)V"⟩ : MethodName)) (z := (⟨"com/example/net_reducer/netreducer/analysis/Marking", "add", "(IJ)V"⟩ : MethodName)) hown (mvT hZ (W 56 rfl)) (mvT hZ (W 23 rfl)) (notFace_of_selects (args := #[]) (mvT hZ (W 25 rfl))) (mvT hZ (W 25 rfl)) (mvT hZ (W 24 rfl)) (by decide) (backOf (W := 0) (rm3c1 l Z a0 hw [] a6 (1 : Int32) (2 : Int64) b1 b2 k1 k2 (0 : Int32) (0 : Int32) (0 : Int32) (0 : Int32) (0 : Int32) (0 : Int32) (0 : Int32) (0 : Int32) (1 : Int64) (0 : Int64) (0 : Int64) (0 : Int64) (0 : Int64) (0 : Int64) (0 : Int64) (0 : Int64) hh n0 Z0 E_a6 F_places_a6 F_tokens_a6 F_size_a6 V_b1 V_b2 g_a6 g_b1 g_b2 ne_a6_b1 ne_a6_b2 ne_b1_b2) hZ (W 26 rfl) (W 11 rfl) (by decide) (by decide)) q235a q235c (g := (mkF m 155 #[.val (.ref a1), .val (.ref a2), .val (.int (0 : Int32)), .val (.ref a4), .val (.ref a5), .val (.ref a6), .val (.int (0 : Int32)), .val (.int (2 : Int32)), .val (.int (0 : Int32)), .val (.int (1 : Int32)), .val (.int (1 : Int32)), .val (.long (2 : Int64)), .second] [(.long (2 : Int64)), (.int (1 : Int32)), (.ref a6)])) rfl (by rw [hml]; rfl) (Steps.refl _) (argsL := [(.int (1 : Int32)), (.long (2 : Int64))]) (rest := []) (lenOf pd_5 rfl) rfl (by show 2 * 0 + _ ≤ _; exact Nat.le_of_eq rfl) (hb hby d7_155) (fun _ _ => ⟨rfl, e234, (by decide : 0 + 0 ≤ _), (by decide : 0 + 0 ≤ _)⟩)
  dsimp only [Pt.U, Pt.locs, Pt.cells, Pt.slots] at X235 l235 y235 z235 st235 hQ235
  subst l235 y235 z235
  obtain ⟨rfl, N235q, K235, P235_0, P235_1, P235_2, P235_3, P235_4, P235_5⟩ := hQ235
  have N235 := Fr.app N234 N235q
  refine own_goT st235 ?_
  show own_Run p e below _ T235 (mkF m 158 #[.val (.ref a1), .val (.ref a2), .val (.int (0 : Int32)), .val (.ref a4), .val (.ref a5), .val (.ref a6), .val (.int (0 : Int32)), .val (.int (2 : Int32)), .val (.int (0 : Int32)), .val (.int (1 : Int32)), .val (.int (1 : Int32)), .val (.long (2 : Int64)), .second] [])
  have Z0_c236 := Nat.le_trans Z0 K235.1
  have K0_c236 := K0.trans K235 (allS (Or.inl (List.mem_of_getElem? (i := 0) rfl)) (allS (Or.inl (List.mem_of_getElem? (i := 1) rfl)) (allS (Or.inl (List.mem_of_getElem? (i := 2) rfl)) all0)))
  have E_a6_c236 := E_a6.keep K235
  have V_a4_c236 := V_a4.keep K235 (ninS ne_a4_a6 (ninS ne_a4_b1 (ninS ne_a4_b2 nin0)))
  have V_a5_c236 := V_a5.keep K235 (ninS ne_a5_a6 (ninS ne_a5_b1 (ninS ne_a5_b2 nin0)))
  refine own_go (fun _ k => XS.goto X235.here hx rfl (pc0 := 158) (pc' := 11) rfl (hb hby d7_158) (by decide) (by decide) k) ?_
  show own_Run p e below _ T235 (mkF m 11 #[.val (.ref a1), .val (.ref a2), .val (.int (0 : Int32)), .val (.ref a4), .val (.ref a5), .val (.ref a6), .val (.int (0 : Int32)), .val (.int (2 : Int32)), .val (.int (0 : Int32)), .val (.int (1 : Int32)), .val (.int (1 : Int32)), .val (.long (2 : Int64)), .second] [])
  exact mg2 a1 a2 a4 a5 a6 b1 b2 k1 k2 k4 k5 h0 n0 hx hZ hw hby hml hown hnm hret hlk  T235 T235.heap _ X235 rfl N235 Z0_c236 K0_c236 P235_0 P235_1 P235_2 P235_3 P235_4 P235_5 V_a4_c236 V_a5_c236 g_a6 g_b1 g_b2 ne_a6_b1 ne_a6_b2 ne_b1_b2 ne_a4_a6 ne_a4_b1 ne_a4_b2 ne_a5_a6 ne_a5_b1 ne_a5_b2 
set_option maxRecDepth 65536 in
set_option maxHeartbeats 40000000 in
theorem mg0 {p : Program} {l : Launch} {e : Env} {s : State} {m : MethodId} {args : Array Value} {below : List Frame} {meth : Method} {c : Code} {Z : State} {a0 : Array Value} (a1 : Addr) (a2 : Addr) (a4 : Addr) (a5 : Addr) (a6 : Addr) (b1 : Addr) (b2 : Addr) (k1 : ClassId) (k2 : ClassId) (k4 : ClassId) (k5 : ClassId) (h0 : Heap) (n0 : Nat) (hx : p.tables.exec = Jvm.exec) (hZ : Z.Warmed39 s.vm) (hw : ∀ d ∈ tables_1, d.before a0 Z = true) (hby : c.code = prog_10_method_9_code) (hml : c.maxLocals = 13) (hown : s.vm.findClass "com/example/net_reducer/netreducer/analysis/Marking" = some m.cls) (hnm : meth.name = "merge") (hret : meth.sig.returnType = none) (hlk : meth.locks = false)
    (T0 : State) (hh : Heap) (locs : List Loc) (X0 : Stand p l e ({ frames := 1, cells := 0, slots := 0, locals := 20 } : Room) s m args below meth c T0 locs 0 0) (e0 : T0.heap = hh) (N0 : Fr n0 locs) (Z0 : n0 ≤ hh.size) (K0 : Keep h0 hh [a6, b1, b2]) (E_a6 : Exa Z hh a6 "com/example/net_reducer/netreducer/analysis/Marking") (F_places_a6 : Fld Z hh a6 "com/example/net_reducer/netreducer/analysis/Marking" "places" "[I" (.ref b1)) (F_tokens_a6 : Fld Z hh a6 "com/example/net_reducer/netreducer/analysis/Marking" "tokens" "[J" (.ref b2)) (F_size_a6 : Fld Z hh a6 "com/example/net_reducer/netreducer/analysis/Marking" "size" "I" (.int (0 : Int32))) (V_b1 : Arv Z hh b1 k1 .int (8 : Int32) [(.int (0 : Int32)), (.int (0 : Int32)), (.int (0 : Int32)), (.int (0 : Int32)), (.int (0 : Int32)), (.int (0 : Int32)), (.int (0 : Int32)), (.int (0 : Int32))] (.int (0 : Int32))) (V_b2 : Arv Z hh b2 k2 .long (8 : Int32) [(.long (0 : Int64)), (.long (0 : Int64)), (.long (0 : Int64)), (.long (0 : Int64)), (.long (0 : Int64)), (.long (0 : Int64)), (.long (0 : Int64)), (.long (0 : Int64))] (.long (0 : Int64))) (V_a4 : Arv Z hh a4 k4 .int (8 : Int32) [(.int (0 : Int32)), (.int (1 : Int32)), (.int (2 : Int32)), (.int (3 : Int32)), (.int (4 : Int32)), (.int (5 : Int32)), (.int (6 : Int32)), (.int (7 : Int32))] (.int (0 : Int32))) (V_a5 : Arv Z hh a5 k5 .long (8 : Int32) [(.long (1 : Int64)), (.long (2 : Int64)), (.long (3 : Int64)), (.long (4 : Int64)), (.long (5 : Int64)), (.long (6 : Int64)), (.long (7 : Int64)), (.long (8 : Int64))] (.long (0 : Int64))) (g_a6 : n0 ≤ a6) (g_b1 : n0 ≤ b1) (g_b2 : n0 ≤ b2) (ne_a6_b1 : a6 ≠ b1) (ne_a6_b2 : a6 ≠ b2) (ne_b1_b2 : b1 ≠ b2) (ne_a4_a6 : a4 ≠ a6) (ne_a4_b1 : a4 ≠ b1) (ne_a4_b2 : a4 ≠ b2) (ne_a5_a6 : a5 ≠ a6) (ne_a5_b1 : a5 ≠ b1) (ne_a5_b2 : a5 ≠ b2) :
    own_Run p e below (fun o U' => ∃ v L, o = .returned v ∧ Q7 Z a1 a2 a4 a5 a6 b1 b2 k1 k2 k4 k5 h0 n0 v U'.heap L ∧ FrameEnd s o U' L ({ frames := 1, cells := 0, slots := 0, locals := 20 } : Room).cells ({ frames := 1, cells := 0, slots := 0, locals := 20 } : Room).slots) T0 (mkF m 11 #[.val (.ref a1), .val (.ref a2), .val (.int (0 : Int32)), .val (.ref a4), .val (.ref a5), .val (.ref a6), .val (.int (0 : Int32)), .val (.int (0 : Int32)), .unset, .unset, .unset, .unset, .unset] []) := by
  have W := fun (k : Nat) {d : Jvm.Cond} (h : tables_1[k]? = some d) => hw d (List.mem_of_getElem? h)
  show own_Run p e below _ T0 (mkF m 11 #[.val (.ref a1), .val (.ref a2), .val (.int (0 : Int32)), .val (.ref a4), .val (.ref a5), .val (.ref a6), .val (.int (0 : Int32)), .val (.int (0 : Int32)), .unset, .unset, .unset, .unset, .unset] [])
  refine own_go (fun _ k => XS.iload X0.here hx rfl (hb hby d7_11) rfl k) ?_
  refine own_go (fun _ k => XS.iloadN X0.here hx rfl (hb hby d7_13) rfl k) ?_
  show own_Run p e below _ T0 (mkF m 14 #[.val (.ref a1), .val (.ref a2), .val (.int (0 : Int32)), .val (.ref a4), .val (.ref a5), .val (.ref a6), .val (.int (0 : Int32)), .val (.int (0 : Int32)), .unset, .unset, .unset, .unset, .unset] [(.int (0 : Int32)), (.int (0 : Int32))])
  refine own_go (fun _ k => XS.icmpNo X0.here hx rfl (hb hby d7_14) rfl (flt (by decide : ¬ ((0 : Int32) < (0 : Int32)))).1 k) ?_
  show own_Run p e below _ T0 (mkF m 17 #[.val (.ref a1), .val (.ref a2), .val (.int (0 : Int32)), .val (.ref a4), .val (.ref a5), .val (.ref a6), .val (.int (0 : Int32)), .val (.int (0 : Int32)), .unset, .unset, .unset, .unset, .unset] [])
  refine own_go (fun _ k => XS.iload X0.here hx rfl (hb hby d7_17) rfl k) ?_
  refine own_go (fun _ k => XS.aloadN X0.here hx rfl (hb hby d7_19) rfl rfl k) ?_
  show own_Run p e below _ T0 (mkF m 20 #[.val (.ref a1), .val (.ref a2), .val (.int (0 : Int32)), .val (.ref a4), .val (.ref a5), .val (.ref a6), .val (.int (0 : Int32)), .val (.int (0 : Int32)), .unset, .unset, .unset, .unset, .unset] [(.ref a4), (.int (0 : Int32))])
  obtain ⟨cl237, Ar237, q237, S237, N237, H237, G237⟩ := id V_a4
  refine own_go (X0.arraylength hx (by rw [e0]; exact Ar237.1) (State.isArrayOf_alike hZ.alike Ar237.2.1) (g := (mkF m 20 #[.val (.ref a1), .val (.ref a2), .val (.int (0 : Int32)), .val (.ref a4), .val (.ref a5), .val (.ref a6), .val (.int (0 : Int32)), .val (.int (0 : Int32)), .unset, .unset, .unset, .unset, .unset] [(.ref a4), (.int (0 : Int32))])) rfl rfl (hb hby d7_20)) ?_
  rw [len_of S237 N237]
  show own_Run p e below _ T0 (mkF m 21 #[.val (.ref a1), .val (.ref a2), .val (.int (0 : Int32)), .val (.ref a4), .val (.ref a5), .val (.ref a6), .val (.int (0 : Int32)), .val (.int (0 : Int32)), .unset, .unset, .unset, .unset, .unset] [(.int (8 : Int32)), (.int (0 : Int32))])
  refine own_go (fun _ k => XS.icmpNo X0.here hx rfl (hb hby d7_21) rfl (tlt (by decide : (0 : Int32) < (8 : Int32))).2.1 k) ?_
  show own_Run p e below _ T0 (mkF m 24 #[.val (.ref a1), .val (.ref a2), .val (.int (0 : Int32)), .val (.ref a4), .val (.ref a5), .val (.ref a6), .val (.int (0 : Int32)), .val (.int (0 : Int32)), .unset, .unset, .unset, .unset, .unset] [])
  refine own_go (fun _ k => XS.iload X0.here hx rfl (hb hby d7_24) rfl k) ?_
  refine own_go (fun _ k => XS.aloadN X0.here hx rfl (hb hby d7_26) rfl rfl k) ?_
  show own_Run p e below _ T0 (mkF m 27 #[.val (.ref a1), .val (.ref a2), .val (.int (0 : Int32)), .val (.ref a4), .val (.ref a5), .val (.ref a6), .val (.int (0 : Int32)), .val (.int (0 : Int32)), .unset, .unset, .unset, .unset, .unset] [(.ref a4), (.int (0 : Int32))])
  obtain ⟨cl238, Ar238, q238, S238, N238, H238, G238⟩ := id V_a4
  refine own_go (X0.arraylength hx (by rw [e0]; exact Ar238.1) (State.isArrayOf_alike hZ.alike Ar238.2.1) (g := (mkF m 27 #[.val (.ref a1), .val (.ref a2), .val (.int (0 : Int32)), .val (.ref a4), .val (.ref a5), .val (.ref a6), .val (.int (0 : Int32)), .val (.int (0 : Int32)), .unset, .unset, .unset, .unset, .unset] [(.ref a4), (.int (0 : Int32))])) rfl rfl (hb hby d7_27)) ?_
  rw [len_of S238 N238]
  show own_Run p e below _ T0 (mkF m 28 #[.val (.ref a1), .val (.ref a2), .val (.int (0 : Int32)), .val (.ref a4), .val (.ref a5), .val (.ref a6), .val (.int (0 : Int32)), .val (.int (0 : Int32)), .unset, .unset, .unset, .unset, .unset] [(.int (8 : Int32)), (.int (0 : Int32))])
  refine own_go (fun _ k => XS.icmpNo X0.here hx rfl (hb hby d7_28) rfl (feq (by decide : ¬ ((0 : Int32) = (8 : Int32)))).1 k) ?_
  show own_Run p e below _ T0 (mkF m 31 #[.val (.ref a1), .val (.ref a2), .val (.int (0 : Int32)), .val (.ref a4), .val (.ref a5), .val (.ref a6), .val (.int (0 : Int32)), .val (.int (0 : Int32)), .unset, .unset, .unset, .unset, .unset] [])
  refine own_go (fun _ k => XS.iload X0.here hx rfl (hb hby d7_31) rfl k) ?_
  refine own_go (fun _ k => XS.iloadN X0.here hx rfl (hb hby d7_33) rfl k) ?_
  show own_Run p e below _ T0 (mkF m 34 #[.val (.ref a1), .val (.ref a2), .val (.int (0 : Int32)), .val (.ref a4), .val (.ref a5), .val (.ref a6), .val (.int (0 : Int32)), .val (.int (0 : Int32)), .unset, .unset, .unset, .unset, .unset] [(.int (0 : Int32)), (.int (0 : Int32))])
  refine own_go (fun _ k => XS.icmpYes X0.here hx rfl (pc0 := 34) (pc' := 52) rfl (hb hby d7_34) rfl (flt (by decide : ¬ ((0 : Int32) < (0 : Int32)))).2.1 (by decide) (by decide) k) ?_
  show own_Run p e below _ T0 (mkF m 52 #[.val (.ref a1), .val (.ref a2), .val (.int (0 : Int32)), .val (.ref a4), .val (.ref a5), .val (.ref a6), .val (.int (0 : Int32)), .val (.int (0 : Int32)), .unset, .unset, .unset, .unset, .unset] [])
  refine own_go (fun _ k => XS.iconst X0.here hx rfl (hb hby d7_52) k) ?_
  refine own_go (fun _ k => XS.istore X0.here hx rfl (hb hby d7_53) rfl (l' := #[.val (.ref a1), .val (.ref a2), .val (.int (0 : Int32)), .val (.ref a4), .val (.ref a5), .val (.ref a6), .val (.int (0 : Int32)), .val (.int (0 : Int32)), .val (.int (0 : Int32)), .unset, .unset, .unset, .unset]) rfl k) ?_
  refine own_go (fun _ k => XS.iload X0.here hx rfl (hb hby d7_55) rfl k) ?_
  refine own_go (fun _ k => XS.iloadN X0.here hx rfl (hb hby d7_57) rfl k) ?_
  show own_Run p e below _ T0 (mkF m 58 #[.val (.ref a1), .val (.ref a2), .val (.int (0 : Int32)), .val (.ref a4), .val (.ref a5), .val (.ref a6), .val (.int (0 : Int32)), .val (.int (0 : Int32)), .val (.int (0 : Int32)), .unset, .unset, .unset, .unset] [(.int (0 : Int32)), (.int (0 : Int32))])
  refine own_go (fun _ k => XS.icmpYes X0.here hx rfl (pc0 := 58) (pc' := 79) rfl (hb hby d7_58) rfl (teq (by decide : (0 : Int32) = (0 : Int32))).1 (by decide) (by decide) k) ?_
  show own_Run p e below _ T0 (mkF m 79 #[.val (.ref a1), .val (.ref a2), .val (.int (0 : Int32)), .val (.ref a4), .val (.ref a5), .val (.ref a6), .val (.int (0 : Int32)), .val (.int (0 : Int32)), .val (.int (0 : Int32)), .unset, .unset, .unset, .unset] [])
  refine own_go (fun _ k => XS.iconst X0.here hx rfl (hb hby d7_79) k) ?_
  refine own_go (fun _ k => XS.goto X0.here hx rfl (pc0 := 80) (pc' := 84) rfl (hb hby d7_80) (by decide) (by decide) k) ?_
  refine own_go (fun _ k => XS.istore X0.here hx rfl (hb hby d7_84) rfl (l' := #[.val (.ref a1), .val (.ref a2), .val (.int (0 : Int32)), .val (.ref a4), .val (.ref a5), .val (.ref a6), .val (.int (0 : Int32)), .val (.int (0 : Int32)), .val (.int (0 : Int32)), .val (.int (1 : Int32)), .unset, .unset, .unset]) rfl k) ?_
  refine own_go (fun _ k => XS.iload X0.here hx rfl (hb hby d7_86) rfl k) ?_
  show own_Run p e below _ T0 (mkF m 88 #[.val (.ref a1), .val (.ref a2), .val (.int (0 : Int32)), .val (.ref a4), .val (.ref a5), .val (.ref a6), .val (.int (0 : Int32)), .val (.int (0 : Int32)), .val (.int (0 : Int32)), .val (.int (1 : Int32)), .unset, .unset, .unset] [(.int (0 : Int32))])
  refine own_go (fun _ k => XS.ifYes X0.here hx rfl (pc0 := 88) (pc' := 98) rfl (hb hby d7_88) rfl ((if0 _ _).trans (teq (by decide : (0 : Int32) = (0 : Int32))).1) (by decide) (by decide) k) ?_
  show own_Run p e below _ T0 (mkF m 98 #[.val (.ref a1), .val (.ref a2), .val (.int (0 : Int32)), .val (.ref a4), .val (.ref a5), .val (.ref a6), .val (.int (0 : Int32)), .val (.int (0 : Int32)), .val (.int (0 : Int32)), .val (.int (1 : Int32)), .unset, .unset, .unset] [])
  refine own_go (fun _ k => XS.aloadN X0.here hx rfl (hb hby d7_98) rfl rfl k) ?_
  refine own_go (fun _ k => XS.iload X0.here hx rfl (hb hby d7_99) rfl k) ?_
  show own_Run p e below _ T0 (mkF m 101 #[.val (.ref a1), .val (.ref a2), .val (.int (0 : Int32)), .val (.ref a4), .val (.ref a5), .val (.ref a6), .val (.int (0 : Int32)), .val (.int (0 : Int32)), .val (.int (0 : Int32)), .val (.int (1 : Int32)), .unset, .unset, .unset] [(.int (0 : Int32)), (.ref a4)])
  obtain ⟨cl239, Ar239, q239, S239, N239, H239, G239⟩ := id V_a4
  have hin239 : ¬ ((0 : Int32) < 0 ∨ cl239.slots.size ≤ ((0 : Int32)).toNatClampNeg) := inb_of S239 ⟨by decide, by decide⟩
  refine own_go (X0.iaload hx (j := (0 : Int32)) (v := (.int (0 : Int32))) (by rw [e0]; exact Ar239.1) (State.isArrayOf_alike hZ.alike Ar239.2.1) Ar239.2.2 hin239 (H239.at hin239 rfl) (g := (mkF m 101 #[.val (.ref a1), .val (.ref a2), .val (.int (0 : Int32)), .val (.ref a4), .val (.ref a5), .val (.ref a6), .val (.int (0 : Int32)), .val (.int (0 : Int32)), .val (.int (0 : Int32)), .val (.int (1 : Int32)), .unset, .unset, .unset] [(.int (0 : Int32)), (.ref a4)])) rfl rfl (hb hby d7_101)) ?_
  show own_Run p e below _ T0 (mkF m 102 #[.val (.ref a1), .val (.ref a2), .val (.int (0 : Int32)), .val (.ref a4), .val (.ref a5), .val (.ref a6), .val (.int (0 : Int32)), .val (.int (0 : Int32)), .val (.int (0 : Int32)), .val (.int (1 : Int32)), .unset, .unset, .unset] [(.int (0 : Int32))])
  refine own_go (fun _ k => XS.istore X0.here hx rfl (hb hby d7_102) rfl (l' := #[.val (.ref a1), .val (.ref a2), .val (.int (0 : Int32)), .val (.ref a4), .val (.ref a5), .val (.ref a6), .val (.int (0 : Int32)), .val (.int (0 : Int32)), .val (.int (0 : Int32)), .val (.int (1 : Int32)), .val (.int (0 : Int32)), .unset, .unset]) rfl k) ?_
  refine own_go (fun _ k => XS.iload X0.here hx rfl (hb hby d7_104) rfl k) ?_
  show own_Run p e below _ T0 (mkF m 106 #[.val (.ref a1), .val (.ref a2), .val (.int (0 : Int32)), .val (.ref a4), .val (.ref a5), .val (.ref a6), .val (.int (0 : Int32)), .val (.int (0 : Int32)), .val (.int (0 : Int32)), .val (.int (1 : Int32)), .val (.int (0 : Int32)), .unset, .unset] [(.int (0 : Int32))])
  refine own_go (fun _ k => XS.ifYes X0.here hx rfl (pc0 := 106) (pc' := 119) rfl (hb hby d7_106) rfl ((if0 _ _).trans (teq (by decide : (0 : Int32) = (0 : Int32))).1) (by decide) (by decide) k) ?_
  show own_Run p e below _ T0 (mkF m 119 #[.val (.ref a1), .val (.ref a2), .val (.int (0 : Int32)), .val (.ref a4), .val (.ref a5), .val (.ref a6), .val (.int (0 : Int32)), .val (.int (0 : Int32)), .val (.int (0 : Int32)), .val (.int (1 : Int32)), .val (.int (0 : Int32)), .unset, .unset] [])
  refine own_go (fun _ k => XS.lconst X0.here hx rfl (hb hby d7_119) k) ?_
  refine own_go (fun _ k => XS.iload X0.here hx rfl (hb hby d7_120) rfl k) ?_
  show own_Run p e below _ T0 (mkF m 122 #[.val (.ref a1), .val (.ref a2), .val (.int (0 : Int32)), .val (.ref a4), .val (.ref a5), .val (.ref a6), .val (.int (0 : Int32)), .val (.int (0 : Int32)), .val (.int (0 : Int32)), .val (.int (1 : Int32)), .val (.int (0 : Int32)), .unset, .unset] [(.int (1 : Int32)), (.long (0 : Int64))])
  refine own_go (fun _ k => XS.ifNo X0.here hx rfl (hb hby d7_122) rfl ((if0 _ _).trans (feq (by decide : ¬ ((1 : Int32) = (0 : Int32)))).1) k) ?_
  show own_Run p e below _ T0 (mkF m 125 #[.val (.ref a1), .val (.ref a2), .val (.int (0 : Int32)), .val (.ref a4), .val (.ref a5), .val (.ref a6), .val (.int (0 : Int32)), .val (.int (0 : Int32)), .val (.int (0 : Int32)), .val (.int (1 : Int32)), .val (.int (0 : Int32)), .unset, .unset] [(.long (0 : Int64))])
  refine own_go (fun _ k => XS.aload X0.here hx rfl (hb hby d7_125) rfl rfl k) ?_
  refine own_go (fun _ k => XS.iload X0.here hx rfl (hb hby d7_127) rfl k) ?_
  refine own_go (fun _ k => XS.iinc X0.here hx rfl (hb hby d7_129) rfl (l' := #[.val (.ref a1), .val (.ref a2), .val (.int (0 : Int32)), .val (.ref a4), .val (.ref a5), .val (.ref a6), .val (.int (0 : Int32)), .val (.int ((0 : Int32) + (1 : Int32))), .val (.int (0 : Int32)), .val (.int (1 : Int32)), .val (.int (0 : Int32)), .unset, .unset]) rfl k) ?_
  show own_Run p e below _ T0 (mkF m 132 #[.val (.ref a1), .val (.ref a2), .val (.int (0 : Int32)), .val (.ref a4), .val (.ref a5), .val (.ref a6), .val (.int (0 : Int32)), .val (.int ((0 : Int32) + (1 : Int32))), .val (.int (0 : Int32)), .val (.int (1 : Int32)), .val (.int (0 : Int32)), .unset, .unset] [(.int (0 : Int32)), (.ref a5), (.long (0 : Int64))])
  rw [show ((0 : Int32) + (1 : Int32)) = (1 : Int32) by decide]
  show own_Run p e below _ T0 (mkF m 132 #[.val (.ref a1), .val (.ref a2), .val (.int (0 : Int32)), .val (.ref a4), .val (.ref a5), .val (.ref a6), .val (.int (0 : Int32)), .val (.int (1 : Int32)), .val (.int (0 : Int32)), .val (.int (1 : Int32)), .val (.int (0 : Int32)), .unset, .unset] [(.int (0 : Int32)), (.ref a5), (.long (0 : Int64))])
  obtain ⟨cl240, Ar240, q240, S240, N240, H240, G240⟩ := id V_a5
  have hin240 : ¬ ((0 : Int32) < 0 ∨ cl240.slots.size ≤ ((0 : Int32)).toNatClampNeg) := inb_of S240 ⟨by decide, by decide⟩
  refine own_go (X0.laload hx (j := (0 : Int32)) (v := (.long (1 : Int64))) (by rw [e0]; exact Ar240.1) (State.isArrayOf_alike hZ.alike Ar240.2.1) Ar240.2.2 hin240 (H240.at hin240 rfl) (g := (mkF m 132 #[.val (.ref a1), .val (.ref a2), .val (.int (0 : Int32)), .val (.ref a4), .val (.ref a5), .val (.ref a6), .val (.int (0 : Int32)), .val (.int (1 : Int32)), .val (.int (0 : Int32)), .val (.int (1 : Int32)), .val (.int (0 : Int32)), .unset, .unset] [(.int (0 : Int32)), (.ref a5), (.long (0 : Int64))])) rfl rfl (hb hby d7_132)) ?_
  show own_Run p e below _ T0 (mkF m 133 #[.val (.ref a1), .val (.ref a2), .val (.int (0 : Int32)), .val (.ref a4), .val (.ref a5), .val (.ref a6), .val (.int (0 : Int32)), .val (.int (1 : Int32)), .val (.int (0 : Int32)), .val (.int (1 : Int32)), .val (.int (0 : Int32)), .unset, .unset] [(.long (1 : Int64)), (.long (0 : Int64))])
  refine own_go (fun _ k => XS.goto X0.here hx rfl (pc0 := 133) (pc' := 137) rfl (hb hby d7_133) (by decide) (by decide) k) ?_
  show own_Run p e below _ T0 (mkF m 137 #[.val (.ref a1), .val (.ref a2), .val (.int (0 : Int32)), .val (.ref a4), .val (.ref a5), .val (.ref a6), .val (.int (0 : Int32)), .val (.int (1 : Int32)), .val (.int (0 : Int32)), .val (.int (1 : Int32)), .val (.int (0 : Int32)), .unset, .unset] [(.long (1 : Int64)), (.long (0 : Int64))])
  obtain ⟨_, _, ⟨T241, L241, k241, n241⟩, -, X241, ⟨Lc241, hQ241, l241, y241, z241⟩, st241⟩ := Jvm.LawKit.callS X0 hx (y := (⟨"java/lang/Math", "addExact", "(JJ)J"⟩ : MethodName)) hown (mvT hZ (W 52 rfl)) (mvT hZ (W 53 rfl)) (mvT hZ (W 54 rfl)) (mvT hZ (W 55 rfl)) (by decide) (backOf (W := 0) (rm9 l Z a0 hw [] (0 : Int64) (1 : Int64) hh n0 Z0 (by decide)) hZ (W 55 rfl) (W 54 rfl) (by decide) (by decide)) (g := (mkF m 137 #[.val (.ref a1), .val (.ref a2), .val (.int (0 : Int32)), .val (.ref a4), .val (.ref a5), .val (.ref a6), .val (.int (0 : Int32)), .val (.int (1 : Int32)), .val (.int (0 : Int32)), .val (.int (1 : Int32)), .val (.int (0 : Int32)), .unset, .unset] [(.long (1 : Int64)), (.long (0 : Int64))])) rfl (by rw [hml]; rfl) (argsL := [(.long (0 : Int64)), (.long (1 : Int64))]) (rest := []) (lenOf pd_4 rfl) rfl (by show 2 * 0 + _ ≤ _; exact Nat.le_of_eq rfl) (hb hby d7_137) (fun _ _ => ⟨rfl, e0, (by decide : 0 + 0 ≤ _), (by decide : 0 + 0 ≤ _)⟩)
  dsimp only [Pt.U, Pt.locs, Pt.cells, Pt.slots] at X241 l241 y241 z241 st241 hQ241
  subst l241 y241 z241
  obtain ⟨rfl, N241q, e241⟩ := hQ241
  have N241 := Fr.app N0 N241q
  refine own_go st241 ?_
  show own_Run p e below _ T241 (mkF m 140 #[.val (.ref a1), .val (.ref a2), .val (.int (0 : Int32)), .val (.ref a4), .val (.ref a5), .val (.ref a6), .val (.int (0 : Int32)), .val (.int (1 : Int32)), .val (.int (0 : Int32)), .val (.int (1 : Int32)), .val (.int (0 : Int32)), .unset, .unset] [(.long ((0 : Int64) + (1 : Int64)))])
  rw [show ((0 : Int64) + (1 : Int64)) = (1 : Int64) by decide]
  show own_Run p e below _ T241 (mkF m 140 #[.val (.ref a1), .val (.ref a2), .val (.int (0 : Int32)), .val (.ref a4), .val (.ref a5), .val (.ref a6), .val (.int (0 : Int32)), .val (.int (1 : Int32)), .val (.int (0 : Int32)), .val (.int (1 : Int32)), .val (.int (0 : Int32)), .unset, .unset] [(.long (1 : Int64))])
  refine own_go (fun _ k => XS.lstore X241.here hx rfl (hb hby d7_140) rfl (l' := #[.val (.ref a1), .val (.ref a2), .val (.int (0 : Int32)), .val (.ref a4), .val (.ref a5), .val (.ref a6), .val (.int (0 : Int32)), .val (.int (1 : Int32)), .val (.int (0 : Int32)), .val (.int (1 : Int32)), .val (.int (0 : Int32)), .val (.long (1 : Int64)), .second]) rfl k) ?_
  refine own_go (fun _ k => XS.lload X241.here hx rfl (hb hby d7_142) rfl k) ?_
  refine own_go (fun _ k => XS.lconst X241.here hx rfl (hb hby d7_144) k) ?_
  refine own_go (fun _ k => XS.lcmp X241.here hx rfl (hb hby d7_145) rfl k) ?_
  show own_Run p e below _ T241 (mkF m 146 #[.val (.ref a1), .val (.ref a2), .val (.int (0 : Int32)), .val (.ref a4), .val (.ref a5), .val (.ref a6), .val (.int (0 : Int32)), .val (.int (1 : Int32)), .val (.int (0 : Int32)), .val (.int (1 : Int32)), .val (.int (0 : Int32)), .val (.long (1 : Int64)), .second] [(.int (lcmpW (1 : Int64) (0 : Int64)))])
  refine own_go (fun _ k => XS.ifNo X241.here hx rfl (hb hby d7_146) rfl (own_lcFe (by decide : ¬ ((1 : Int64) = (0 : Int64)))).1 k) ?_
  show own_Run p e below _ T241 (mkF m 149 #[.val (.ref a1), .val (.ref a2), .val (.int (0 : Int32)), .val (.ref a4), .val (.ref a5), .val (.ref a6), .val (.int (0 : Int32)), .val (.int (1 : Int32)), .val (.int (0 : Int32)), .val (.int (1 : Int32)), .val (.int (0 : Int32)), .val (.long (1 : Int64)), .second] [])
  refine own_go (fun _ k => XS.aload X241.here hx rfl (hb hby d7_149) rfl rfl k) ?_
  refine own_go (fun _ k => XS.iload X241.here hx rfl (hb hby d7_151) rfl k) ?_
  refine own_go (fun _ k => XS.lload X241.here hx rfl (hb hby d7_153) rfl k) ?_
  show own_Run p e below _ T241 (mkF m 155 #[.val (.ref a1), .val (.ref a2), .val (.int (0 : Int32)), .val (.ref a4), .val (.ref a5), .val (.ref a6), .val (.int (0 : Int32)), .val (.int (1 : Int32)), .val (.int (0 : Int32)), .val (.int (1 : Int32)), .val (.int (0 : Int32)), .val (.long (1 : Int64)), .second] [(.long (1 : Int64)), (.int (0 : Int32)), (.ref a6)])
  obtain ⟨cq242, kq242, q242a, q242b, q242c⟩ := isOf hZ e241 E_a6
  obtain ⟨_, _, ⟨T242, L242, k242, n242⟩, -, X242, ⟨Lc242, hQ242, l242, y242, z242⟩, st242⟩ := X241.virtualBack hx (y := (⟨"com/example/net_reducer/netreducer/analysis/Marking", "add", "(IJ)V"⟩ : MethodName)) (z := (⟨"com/example/net_reducer/netreducer/analysis/Marking", "add", "(IJ)V"⟩ : MethodName)) hown (mvT hZ (W 56 rfl)) (mvT hZ (W 23 rfl)) (notFace_of_selects (args := #[]) (mvT hZ (W 25 rfl))) (mvT hZ (W 25 rfl)) (mvT hZ (W 24 rfl)) (by decide) (backOf (W := 0) (rm3c0 l Z a0 hw [] a6 (0 : Int32) (1 : Int64) b1 b2 k1 k2 (0 : Int32) (0 : Int32) (0 : Int32) (0 : Int32) (0 : Int32) (0 : Int32) (0 : Int32) (0 : Int32) (0 : Int64) (0 : Int64) (0 : Int64) (0 : Int64) (0 : Int64) (0 : Int64) (0 : Int64) (0 : Int64) hh n0 Z0 E_a6 F_places_a6 F_tokens_a6 F_size_a6 V_b1 V_b2 g_a6 g_b1 g_b2 ne_a6_b1 ne_a6_b2 ne_b1_b2) hZ (W 26 rfl) (W 11 rfl) (by decide) (by decide)) q242a q242c (g := (mkF m 155 #[.val (.ref a1), .val (.ref a2), .val (.int (0 : Int32)), .val (.ref a4), .val (.ref a5), .val (.ref a6), .val (.int (0 : Int32)), .val (.int (1 : Int32)), .val (.int (0 : Int32)), .val (.int (1 : Int32)), .val (.int (0 : Int32)), .val (.long (1 : Int64)), .second] [(.long (1 : Int64)), (.int (0 : Int32)), (.ref a6)])) rfl (by rw [hml]; rfl) (Steps.refl _) (argsL := [(.int (0 : Int32)), (.long (1 : Int64))]) (rest := []) (lenOf pd_5 rfl) rfl (by show 2 * 0 + _ ≤ _; exact Nat.le_of_eq rfl) (hb hby d7_155) (fun _ _ => ⟨rfl, e241, (by decide : 0 + 0 ≤ _), (by decide : 0 + 0 ≤ _)⟩)
  dsimp only [Pt.U, Pt.locs, Pt.cells, Pt.slots] at X242 l242 y242 z242 st242 hQ242
  subst l242 y242 z242
  obtain ⟨rfl, N242q, K242, P242_0, P242_1, P242_2, P242_3, P242_4, P242_5⟩ := hQ242
  have N242 := Fr.app N241 N242q
  refine own_goT st242 ?_
  show own_Run p e below _ T242 (mkF m 158 #[.val (.ref a1), .val (.ref a2), .val (.int (0 : Int32)), .val (.ref a4), .val (.ref a5), .val (.ref a6), .val (.int (0 : Int32)), .val (.int (1 : Int32)), .val (.int (0 : Int32)), .val (.int (1 : Int32)), .val (.int (0 : Int32)), .val (.long (1 : Int64)), .second] [])
  have Z0_c243 := Nat.le_trans Z0 K242.1
  have K0_c243 := K0.trans K242 (allS (Or.inl (List.mem_of_getElem? (i := 0) rfl)) (allS (Or.inl (List.mem_of_getElem? (i := 1) rfl)) (allS (Or.inl (List.mem_of_getElem? (i := 2) rfl)) all0)))
  have E_a6_c243 := E_a6.keep K242
  have V_a4_c243 := V_a4.keep K242 (ninS ne_a4_a6 (ninS ne_a4_b1 (ninS ne_a4_b2 nin0)))
  have V_a5_c243 := V_a5.keep K242 (ninS ne_a5_a6 (ninS ne_a5_b1 (ninS ne_a5_b2 nin0)))
  refine own_go (fun _ k => XS.goto X242.here hx rfl (pc0 := 158) (pc' := 11) rfl (hb hby d7_158) (by decide) (by decide) k) ?_
  show own_Run p e below _ T242 (mkF m 11 #[.val (.ref a1), .val (.ref a2), .val (.int (0 : Int32)), .val (.ref a4), .val (.ref a5), .val (.ref a6), .val (.int (0 : Int32)), .val (.int (1 : Int32)), .val (.int (0 : Int32)), .val (.int (1 : Int32)), .val (.int (0 : Int32)), .val (.long (1 : Int64)), .second] [])
  exact mg1 a1 a2 a4 a5 a6 b1 b2 k1 k2 k4 k5 h0 n0 hx hZ hw hby hml hown hnm hret hlk  T242 T242.heap _ X242 rfl N242 Z0_c243 K0_c243 P242_0 P242_1 P242_2 P242_3 P242_4 P242_5 V_a4_c243 V_a5_c243 g_a6 g_b1 g_b2 ne_a6_b1 ne_a6_b2 ne_b1_b2 ne_a4_a6 ne_a4_b1 ne_a4_b2 ne_a5_a6 ne_a5_b1 ne_a5_b2 
theorem ef_7 (m : MethodId) (x0 : Addr) (x1 : Addr) (x2 : Int32) (x3 : Addr) (x4 : Addr) (x5 : Addr) : entryFrame m #[(.ref x0), (.ref x1), (.int x2), (.ref x3), (.ref x4), (.ref x5)] 13 = mkF m 0 #[.val (.ref x0), .val (.ref x1), .val (.int x2), .val (.ref x3), .val (.ref x4), .val (.ref x5), .unset, .unset, .unset, .unset, .unset, .unset, .unset] [] := by first | (simp [entryFrame, mkF, argsToLocals, Value.category]; done) | rfl
theorem pd_6 : parseMethodDescriptor "()V" = some ⟨[], none⟩ := by decide +kernel
set_option maxRecDepth 65536 in
set_option maxHeartbeats 40000000 in
theorem rm7 (l : Launch) (Z : State) (a0 : Array Value) (hw : ∀ d ∈ tables_1, d.before a0 Z = true) (ws : List Jvm.Cond) (a1 : Addr) (a2 : Addr) (a4 : Addr) (a5 : Addr) (a6 : Addr) (b1 : Addr) (b2 : Addr) (k1 : ClassId) (k2 : ClassId) (k4 : ClassId) (k5 : ClassId) (h0 : Heap) (n0 : Nat) (Z0 : n0 ≤ h0.size) (E_a6 : Exa Z h0 a6 "com/example/net_reducer/netreducer/analysis/Marking") (F_places_a6 : Fld Z h0 a6 "com/example/net_reducer/netreducer/analysis/Marking" "places" "[I" (.ref b1)) (F_tokens_a6 : Fld Z h0 a6 "com/example/net_reducer/netreducer/analysis/Marking" "tokens" "[J" (.ref b2)) (F_size_a6 : Fld Z h0 a6 "com/example/net_reducer/netreducer/analysis/Marking" "size" "I" (.int (0 : Int32))) (V_b1 : Arv Z h0 b1 k1 .int (8 : Int32) [(.int (0 : Int32)), (.int (0 : Int32)), (.int (0 : Int32)), (.int (0 : Int32)), (.int (0 : Int32)), (.int (0 : Int32)), (.int (0 : Int32)), (.int (0 : Int32))] (.int (0 : Int32))) (V_b2 : Arv Z h0 b2 k2 .long (8 : Int32) [(.long (0 : Int64)), (.long (0 : Int64)), (.long (0 : Int64)), (.long (0 : Int64)), (.long (0 : Int64)), (.long (0 : Int64)), (.long (0 : Int64)), (.long (0 : Int64))] (.long (0 : Int64))) (V_a4 : Arv Z h0 a4 k4 .int (8 : Int32) [(.int (0 : Int32)), (.int (1 : Int32)), (.int (2 : Int32)), (.int (3 : Int32)), (.int (4 : Int32)), (.int (5 : Int32)), (.int (6 : Int32)), (.int (7 : Int32))] (.int (0 : Int32))) (V_a5 : Arv Z h0 a5 k5 .long (8 : Int32) [(.long (1 : Int64)), (.long (2 : Int64)), (.long (3 : Int64)), (.long (4 : Int64)), (.long (5 : Int64)), (.long (6 : Int64)), (.long (7 : Int64)), (.long (8 : Int64))] (.long (0 : Int64))) (g_a6 : n0 ≤ a6) (g_b1 : n0 ≤ b1) (g_b2 : n0 ≤ b2) (ne_a6_b1 : a6 ≠ b1) (ne_a6_b2 : a6 ≠ b2) (ne_b1_b2 : b1 ≠ b2) (ne_a4_a6 : a4 ≠ a6) (ne_a4_b1 : a4 ≠ b1) (ne_a4_b2 : a4 ≠ b2) (ne_a5_a6 : a5 ≠ a6) (ne_a5_b1 : a5 ≠ b1) (ne_a5_b2 : a5 ≠ b2) :
    MetFree l (⟨"com/example/net_reducer/netreducer/analysis/Marking", "merge", "([I[JI[I[JLcom/example/net_reducer/netreducer/analysis/Marking;)V"⟩ : MethodName) (head1 (Jvm.Cond.code (⟨"com/example/net_reducer/netreducer/analysis/Marking", "merge", "([I[JI[I[JLcom/example/net_reducer/netreducer/analysis/Marking;)V"⟩ : MethodName) prog_10_method_9_code 13 none :: ws) ({ frames := 1, cells := 0, slots := 0, locals := 20 } : Room)) (fun a U => a = #[(.ref a1), (.ref a2), (.int (0 : Int32)), (.ref a4), (.ref a5), (.ref a6)] ∧ Z.Warmed39 U.vm ∧ U.heap = h0) (fun _ _ _ _ _ => True) (fun _ U o U' => ∃ v L, o = .returned v ∧ Q7 Z a1 a2 a4 a5 a6 b1 b2 k1 k2 k4 k5 h0 n0 v U'.heap L ∧ FrameEnd U o U' L ({ frames := 1, cells := 0, slots := 0, locals := 20 } : Room).cells ({ frames := 1, cells := 0, slots := 0, locals := 20 } : Room).slots) := by
  refine MetFree.of_bodySF (plainFor_of_name pn_7) hisR ?_
  intro p e s m args below meth c s₁ Bd hml0 hP hK
  obtain ⟨rfl, hZ, hh⟩ := hP
  have hx := Bd.exec
  have hby := Bd.bytes
  have hml : c.maxLocals = 13 := hml0
  have hown : s.vm.findClass "com/example/net_reducer/netreducer/analysis/Marking" = some m.cls := findClass_of_methodNamed Bd.named
  have hnm := (name_of_methodNamed Bd.named Bd.method).1
  have hret := Bd.returns
  have hlk : meth.locks = false := BodyLoose.notSynchronized Bd
  have X0 : Stand p l e ({ frames := 1, cells := 0, slots := 0, locals := 20 } : Room) s m #[(.ref a1), (.ref a2), (.int (0 : Int32)), (.ref a4), (.ref a5), (.ref a6)] below meth c s₁ [] 0 0 := Stand.of_body Bd
  have e0 : s₁.heap = h0 := by rw [← hh, Bd.state]; rfl
  have N0 := Fr.nil n0
  have W := fun (k : Nat) {d : Jvm.Cond} (h : tables_1[k]? = some d) => hw d (List.mem_of_getElem? h)
  have K0 : Keep h0 h0 [a6, b1, b2] := Keep.refl _ _
  refine own_start (ef_7 m a1 a2 (0 : Int32) a4 a5 a6) ?_
  show own_Run p e below _ s₁ (mkF m 0 #[.val (.ref a1), .val (.ref a2), .val (.int (0 : Int32)), .val (.ref a4), .val (.ref a5), .val (.ref a6), .unset, .unset, .unset, .unset, .unset, .unset, .unset] [])
  refine own_go (fun _ k => XS.aload X0.here hx rfl (hb hby d7_0) rfl rfl k) ?_
  show own_Run p e below _ s₁ (mkF m 2 #[.val (.ref a1), .val (.ref a2), .val (.int (0 : Int32)), .val (.ref a4), .val (.ref a5), .val (.ref a6), .unset, .unset, .unset, .unset, .unset, .unset, .unset] [(.ref a6)])
  obtain ⟨cq244, kq244, q244a, q244b, q244c⟩ := isOf hZ e0 E_a6
  obtain ⟨_, _, ⟨T244, L244, k244, n244⟩, -, X244, ⟨Lc244, hQ244, l244, y244, z244⟩, st244⟩ := X0.virtualBack hx (y := (⟨"com/example/net_reducer/netreducer/analysis/Marking", "clear", "()V"⟩ : MethodName)) (z := (⟨"com/example/net_reducer/netreducer/analysis/Marking", "clear", "()V"⟩ : MethodName)) hown (mvT hZ (W 47 rfl)) (mvT hZ (W 48 rfl)) (notFace_of_selects (args := #[]) (mvT hZ (W 50 rfl))) (mvT hZ (W 50 rfl)) (mvT hZ (W 49 rfl)) (by decide) (backOf (W := 0) (rm8 l Z a0 hw [] a6 b1 b2 (0 : Int32) h0 n0 Z0 E_a6 F_places_a6 F_tokens_a6 F_size_a6 g_a6) hZ (W 51 rfl) (W 11 rfl) (by decide) (by decide)) q244a q244c (g := (mkF m 2 #[.val (.ref a1), .val (.ref a2), .val (.int (0 : Int32)), .val (.ref a4), .val (.ref a5), .val (.ref a6), .unset, .unset, .unset, .unset, .unset, .unset, .unset] [(.ref a6)])) rfl (by rw [hml]; rfl) (Steps.refl _) (argsL := []) (rest := []) (lenOf pd_6 rfl) rfl (by show 2 * 0 + _ ≤ _; exact Nat.le_of_eq rfl) (hb hby d7_2) (fun _ _ => ⟨rfl, e0, (by decide : 0 + 0 ≤ _), (by decide : 0 + 0 ≤ _)⟩)
  dsimp only [Pt.U, Pt.locs, Pt.cells, Pt.slots] at X244 l244 y244 z244 st244 hQ244
  subst l244 y244 z244
  obtain ⟨rfl, N244q, K244, P244_0, P244_1, P244_2, P244_3⟩ := hQ244
  have N244 := Fr.app N0 N244q
  refine own_goT st244 ?_
  show own_Run p e below _ T244 (mkF m 5 #[.val (.ref a1), .val (.ref a2), .val (.int (0 : Int32)), .val (.ref a4), .val (.ref a5), .val (.ref a6), .unset, .unset, .unset, .unset, .unset, .unset, .unset] [])
  have Z0_c245 := Nat.le_trans Z0 K244.1
  have K0_c245 := K0.trans K244 (allS (Or.inl (List.mem_of_getElem? (i := 0) rfl)) all0)
  have E_a6_c245 := E_a6.keep K244
  have V_b1_c245 := V_b1.keep K244 (ninS (Ne.symm ne_a6_b1) nin0)
  have V_b2_c245 := V_b2.keep K244 (ninS (Ne.symm ne_a6_b2) nin0)
  have V_a4_c245 := V_a4.keep K244 (ninS ne_a4_a6 nin0)
  have V_a5_c245 := V_a5.keep K244 (ninS ne_a5_a6 nin0)
  refine own_go (fun _ k => XS.iconst X244.here hx rfl (hb hby d7_5) k) ?_
  refine own_go (fun _ k => XS.istore X244.here hx rfl (hb hby d7_6) rfl (l' := #[.val (.ref a1), .val (.ref a2), .val (.int (0 : Int32)), .val (.ref a4), .val (.ref a5), .val (.ref a6), .val (.int (0 : Int32)), .unset, .unset, .unset, .unset, .unset, .unset]) rfl k) ?_
  refine own_go (fun _ k => XS.iconst X244.here hx rfl (hb hby d7_8) k) ?_
  refine own_go (fun _ k => XS.istore X244.here hx rfl (hb hby d7_9) rfl (l' := #[.val (.ref a1), .val (.ref a2), .val (.int (0 : Int32)), .val (.ref a4), .val (.ref a5), .val (.ref a6), .val (.int (0 : Int32)), .val (.int (0 : Int32)), .unset, .unset, .unset, .unset, .unset]) rfl k) ?_
  show own_Run p e below _ T244 (mkF m 11 #[.val (.ref a1), .val (.ref a2), .val (.int (0 : Int32)), .val (.ref a4), .val (.ref a5), .val (.ref a6), .val (.int (0 : Int32)), .val (.int (0 : Int32)), .unset, .unset, .unset, .unset, .unset] [])
  exact mg0 a1 a2 a4 a5 a6 b1 b2 k1 k2 k4 k5 h0 n0 hx hZ hw hby hml hown hnm hret hlk  T244 T244.heap _ X244 rfl N244 Z0_c245 K0_c245 P244_0 P244_1 P244_2 P244_3 V_b1_c245 V_b2_c245 V_a4_c245 V_a5_c245 g_a6 g_b1 g_b2 ne_a6_b1 ne_a6_b2 ne_b1_b2 ne_a4_a6 ne_a4_b1 ne_a4_b2 ne_a5_a6 ne_a5_b1 ne_a5_b2 
def Q0 (Z : State) (p1 : Int32) (q2 : Int64) (p3 : Int32) (q4 : Int64) (p5 : Int32) (h0 : Heap) (n0 : Nat) (v : Option Value) (h : Heap) (L : List Loc) : Prop := v = some (.int (1 : Int32)) ∧ Fr n0 L
theorem pn_0 : plainName "com/example/net_reducer/netreducer/analysis/MarkingAddPinLaw" = true := by first | (simp [plainName, overriddenIn]; done) | decide +kernel
theorem pd_7 : parseMethodDescriptor "()I" = some ⟨[], some .int⟩ := by decide +kernel
theorem pd_8 : parseMethodDescriptor "(I)I" = some ⟨[.int], some .int⟩ := by decide +kernel
theorem pd_9 : parseMethodDescriptor "(I)J" = some ⟨[.int], some .long⟩ := by decide +kernel
set_option maxRecDepth 65536 in
set_option maxHeartbeats 40000000 in
theorem endG {p : Program} {l : Launch} {e : Env} {s : State} {m : MethodId} {args : Array Value} {below : List Frame} {meth : Method} {c : Code} {Z : State} {a0 : Array Value} (p1 : Int32) (q2 : Int64) (p3 : Int32) (q4 : Int64) (p5 : Int32) (h0 : Heap) (n0 : Nat) (hx : p.tables.exec = Jvm.exec) (hZ : Z.Warmed39 s.vm) (hw : ∀ d ∈ tables_1, d.before a0 Z = true) (hby : c.code = code) (hml : c.maxLocals = 20) (hown : s.vm.findClass "com/example/net_reducer/netreducer/analysis/MarkingAddPinLaw" = some m.cls) (hnm : meth.name = "law") (hret : meth.sig.returnType = some .boolean) (hlk : meth.locks = false)
    (x7 : Int32) (o8 : Addr) (o9 : Addr) (o10 : Addr) (o11 : Addr) (mk : Addr) (b1 : Addr) (b2 : Addr) (k1 : ClassId) (k2 : ClassId) (T0 : State) (hh : Heap) (locs : List Loc) (X0 : Stand p l e room_1 s m args below meth c T0 locs 7 35) (e0 : T0.heap = hh) (N0 : Fr n0 locs) (Z0 : n0 ≤ hh.size) (K0 : Keep h0 hh []) (E_mk : Exa Z hh mk "com/example/net_reducer/netreducer/analysis/Marking") (F_places_mk : Fld Z hh mk "com/example/net_reducer/netreducer/analysis/Marking" "places" "[I" (.ref b1)) (F_tokens_mk : Fld Z hh mk "com/example/net_reducer/netreducer/analysis/Marking" "tokens" "[J" (.ref b2)) (F_size_mk : Fld Z hh mk "com/example/net_reducer/netreducer/analysis/Marking" "size" "I" (.int (8 : Int32))) (V_b1 : Arv Z hh b1 k1 .int (8 : Int32) [(.int (0 : Int32)), (.int (1 : Int32)), (.int (2 : Int32)), (.int (3 : Int32)), (.int (4 : Int32)), (.int (5 : Int32)), (.int (6 : Int32)), (.int (7 : Int32))] (.int (0 : Int32))) (V_b2 : Arv Z hh b2 k2 .long (8 : Int32) [(.long (1 : Int64)), (.long (2 : Int64)), (.long (3 : Int64)), (.long (4 : Int64)), (.long (5 : Int64)), (.long (6 : Int64)), (.long (7 : Int64)), (.long (8 : Int64))] (.long (0 : Int64))) (g_mk : n0 ≤ mk) (g_b1 : n0 ≤ b1) (g_b2 : n0 ≤ b2) (sz_mk : h0.size ≤ mk) (sz_b1 : h0.size ≤ b1) (sz_b2 : h0.size ≤ b2) (ne_mk_b1 : mk ≠ b1) (ne_mk_b2 : mk ≠ b2) (ne_b1_b2 : b1 ≠ b2) :
    own_Run p e below (fun o U' => ∃ v L, o = .returned v ∧ Q0 Z p1 q2 p3 q4 p5 h0 n0 v U'.heap L ∧ FrameEnd s o U' L room_1.cells room_1.slots) T0 (mkF m 195 #[.val (.int p1), .val (.long q2), .second, .val (.int p3), .val (.long q4), .second, .val (.int p5), .val (.int x7), .val (.ref o8), .val (.ref o9), .val (.ref o10), .val (.ref o11), .val (.ref mk), .val (.int (8 : Int32)), .val (.int (0 : Int32)), .val (.long (1 : Int64)), .second, .val (.int (7 : Int32)), .val (.long (8 : Int64)), .second] []) := by
  have W := fun (k : Nat) {d : Jvm.Cond} (h : tables_1[k]? = some d) => hw d (List.mem_of_getElem? h)
  show own_Run p e below _ T0 (mkF m 195 #[.val (.int p1), .val (.long q2), .second, .val (.int p3), .val (.long q4), .second, .val (.int p5), .val (.int x7), .val (.ref o8), .val (.ref o9), .val (.ref o10), .val (.ref o11), .val (.ref mk), .val (.int (8 : Int32)), .val (.int (0 : Int32)), .val (.long (1 : Int64)), .second, .val (.int (7 : Int32)), .val (.long (8 : Int64)), .second] [])
  refine own_go (fun _ k => XS.aload X0.here hx rfl (hb hby at_195) rfl rfl k) ?_
  refine own_go (fun _ k => XS.iloadN X0.here hx rfl (hb hby at_197) rfl k) ?_
  refine own_go (fun _ k => XS.lloadN X0.here hx rfl (hb hby at_198) rfl k) ?_
  show own_Run p e below _ T0 (mkF m 199 #[.val (.int p1), .val (.long q2), .second, .val (.int p3), .val (.long q4), .second, .val (.int p5), .val (.int x7), .val (.ref o8), .val (.ref o9), .val (.ref o10), .val (.ref o11), .val (.ref mk), .val (.int (8 : Int32)), .val (.int (0 : Int32)), .val (.long (1 : Int64)), .second, .val (.int (7 : Int32)), .val (.long (8 : Int64)), .second] [(.long q2), (.int p1), (.ref mk)])
  obtain ⟨cq246, kq246, q246a, q246b, q246c⟩ := isOf hZ e0 E_mk
  obtain ⟨_, _, ⟨T246, L246, k246, n246⟩, -, X246, ⟨Lc246, hQ246, l246, y246, z246⟩, st246⟩ := X0.virtualBack hx (y := (⟨"com/example/net_reducer/netreducer/analysis/Marking", "add", "(IJ)V"⟩ : MethodName)) (z := (⟨"com/example/net_reducer/netreducer/analysis/Marking", "add", "(IJ)V"⟩ : MethodName)) hown (mvT hZ (W 22 rfl)) (mvT hZ (W 23 rfl)) (notFace_of_selects (args := #[]) (mvT hZ (W 25 rfl))) (mvT hZ (W 25 rfl)) (mvT hZ (W 24 rfl)) (by decide) (backOf (W := 0) (rm3full l Z a0 hw [] mk p1 q2 b1 b2 k1 k2 (0 : Int32) (1 : Int32) (2 : Int32) (3 : Int32) (4 : Int32) (5 : Int32) (6 : Int32) (7 : Int32) (1 : Int64) (2 : Int64) (3 : Int64) (4 : Int64) (5 : Int64) (6 : Int64) (7 : Int64) (8 : Int64) hh n0 Z0 E_mk F_places_mk F_tokens_mk F_size_mk V_b1 V_b2 g_mk g_b1 g_b2 ne_mk_b1 ne_mk_b2 ne_b1_b2) hZ (W 26 rfl) (W 11 rfl) (by decide) (by decide)) q246a q246c (g := (mkF m 199 #[.val (.int p1), .val (.long q2), .second, .val (.int p3), .val (.long q4), .second, .val (.int p5), .val (.int x7), .val (.ref o8), .val (.ref o9), .val (.ref o10), .val (.ref o11), .val (.ref mk), .val (.int (8 : Int32)), .val (.int (0 : Int32)), .val (.long (1 : Int64)), .second, .val (.int (7 : Int32)), .val (.long (8 : Int64)), .second] [(.long q2), (.int p1), (.ref mk)])) rfl (by rw [hml]; rfl) (Steps.refl _) (argsL := [(.int p1), (.long q2)]) (rest := []) (lenOf pd_5 rfl) rfl (by show 2 * 0 + _ ≤ _; exact Nat.le_of_eq rfl) (hb hby at_199) (fun _ _ => ⟨rfl, e0, (by decide : 7 + 2 ≤ _), (by decide : 35 + 32 ≤ _)⟩)
  dsimp only [Pt.U, Pt.locs, Pt.cells, Pt.slots] at X246 l246 y246 z246 st246 hQ246
  subst l246 y246 z246
  obtain ⟨d1_246, d2_246, m1_246, m2_246, rfl, N246q, K246, P246_0, P246_1, P246_2, P246_3, P246_4, P246_5, P246_6, P246_7⟩ := hQ246
  have ne_mk_d1_246 : mk ≠ d1_246 := Nat.ne_of_lt (Nat.lt_of_lt_of_le E_mk.lt P246_6)
  have ne_b1_d1_246 : b1 ≠ d1_246 := Nat.ne_of_lt (Nat.lt_of_lt_of_le V_b1.lt P246_6)
  have ne_b2_d1_246 : b2 ≠ d1_246 := Nat.ne_of_lt (Nat.lt_of_lt_of_le V_b2.lt P246_6)
  have g_d1_246 : n0 ≤ d1_246 := Nat.le_trans Z0 P246_6
  have sz_d1_246 : h0.size ≤ d1_246 := Nat.le_trans K0.1 P246_6
  have ne_mk_d2_246 : mk ≠ d2_246 := Nat.ne_of_lt (Nat.lt_of_lt_of_le E_mk.lt P246_7)
  have ne_b1_d2_246 : b1 ≠ d2_246 := Nat.ne_of_lt (Nat.lt_of_lt_of_le V_b1.lt P246_7)
  have ne_b2_d2_246 : b2 ≠ d2_246 := Nat.ne_of_lt (Nat.lt_of_lt_of_le V_b2.lt P246_7)
  have g_d2_246 : n0 ≤ d2_246 := Nat.le_trans Z0 P246_7
  have sz_d2_246 : h0.size ≤ d2_246 := Nat.le_trans K0.1 P246_7
  have N246 := Fr.app N0 N246q
  refine own_goT st246 ?_
  show own_Run p e below _ T246 (mkF m 202 #[.val (.int p1), .val (.long q2), .second, .val (.int p3), .val (.long q4), .second, .val (.int p5), .val (.int x7), .val (.ref o8), .val (.ref o9), .val (.ref o10), .val (.ref o11), .val (.ref mk), .val (.int (8 : Int32)), .val (.int (0 : Int32)), .val (.long (1 : Int64)), .second, .val (.int (7 : Int32)), .val (.long (8 : Int64)), .second] [])
  have Z0_c247 := Nat.le_trans Z0 K246.1
  have K0_c247 := K0.trans K246 (allS (Or.inr sz_mk) all0)
  have E_mk_c247 := E_mk.keep K246
  have V_b1_c247 := V_b1.keep K246 (ninS (Ne.symm ne_mk_b1) nin0)
  have V_b2_c247 := V_b2.keep K246 (ninS (Ne.symm ne_mk_b2) nin0)
  refine own_go (fun _ k => XS.aload X246.here hx rfl (hb hby at_202) rfl rfl k) ?_
  show own_Run p e below _ T246 (mkF m 204 #[.val (.int p1), .val (.long q2), .second, .val (.int p3), .val (.long q4), .second, .val (.int p5), .val (.int x7), .val (.ref o8), .val (.ref o9), .val (.ref o10), .val (.ref o11), .val (.ref mk), .val (.int (8 : Int32)), .val (.int (0 : Int32)), .val (.long (1 : Int64)), .second, .val (.int (7 : Int32)), .val (.long (8 : Int64)), .second] [(.ref mk)])
  obtain ⟨cq248, kq248, q248a, q248b, q248c⟩ := isOf hZ rfl P246_0
  obtain ⟨_, _, ⟨T248, L248, k248, n248⟩, -, X248, ⟨Lc248, hQ248, l248, y248, z248⟩, st248⟩ := X246.virtualBack hx (y := (⟨"com/example/net_reducer/netreducer/analysis/Marking", "size", "()I"⟩ : MethodName)) (z := (⟨"com/example/net_reducer/netreducer/analysis/Marking", "size", "()I"⟩ : MethodName)) hown (mvT hZ (W 29 rfl)) (mvT hZ (W 30 rfl)) (notFace_of_selects (args := #[]) (mvT hZ (W 32 rfl))) (mvT hZ (W 32 rfl)) (mvT hZ (W 31 rfl)) (by decide) (backOf (W := 0) (rm4 l Z a0 hw [] mk (9 : Int32) T246.heap n0 Z0_c247 P246_3) hZ (W 33 rfl) (W 11 rfl) (by decide) (by decide)) q248a q248c (g := (mkF m 204 #[.val (.int p1), .val (.long q2), .second, .val (.int p3), .val (.long q4), .second, .val (.int p5), .val (.int x7), .val (.ref o8), .val (.ref o9), .val (.ref o10), .val (.ref o11), .val (.ref mk), .val (.int (8 : Int32)), .val (.int (0 : Int32)), .val (.long (1 : Int64)), .second, .val (.int (7 : Int32)), .val (.long (8 : Int64)), .second] [(.ref mk)])) rfl (by rw [hml]; rfl) (Steps.refl _) (argsL := []) (rest := []) (lenOf pd_7 rfl) rfl (by show 2 * 0 + _ ≤ _; exact Nat.le_of_eq rfl) (hb hby at_204) (fun _ _ => ⟨rfl, rfl, (by decide : 9 + 0 ≤ _), (by decide : 67 + 0 ≤ _)⟩)
  dsimp only [Pt.U, Pt.locs, Pt.cells, Pt.slots] at X248 l248 y248 z248 st248 hQ248
  subst l248 y248 z248
  obtain ⟨rfl, N248q, e248⟩ := hQ248
  have N248 := Fr.app N246 N248q
  refine own_goT st248 ?_
  show own_Run p e below _ T248 (mkF m 207 #[.val (.int p1), .val (.long q2), .second, .val (.int p3), .val (.long q4), .second, .val (.int p5), .val (.int x7), .val (.ref o8), .val (.ref o9), .val (.ref o10), .val (.ref o11), .val (.ref mk), .val (.int (8 : Int32)), .val (.int (0 : Int32)), .val (.long (1 : Int64)), .second, .val (.int (7 : Int32)), .val (.long (8 : Int64)), .second] [(.int (9 : Int32))])
  refine own_go (fun _ k => XS.iload X248.here hx rfl (hb hby at_207) rfl k) ?_
  refine own_go (fun _ k => XS.iconst X248.here hx rfl (hb hby at_209) k) ?_
  refine own_go (fun _ k => XS.iadd X248.here hx rfl (hb hby at_210) rfl k) ?_
  show own_Run p e below _ T248 (mkF m 211 #[.val (.int p1), .val (.long q2), .second, .val (.int p3), .val (.long q4), .second, .val (.int p5), .val (.int x7), .val (.ref o8), .val (.ref o9), .val (.ref o10), .val (.ref o11), .val (.ref mk), .val (.int (8 : Int32)), .val (.int (0 : Int32)), .val (.long (1 : Int64)), .second, .val (.int (7 : Int32)), .val (.long (8 : Int64)), .second] [(.int ((8 : Int32) + (1 : Int32))), (.int (9 : Int32))])
  rw [show ((8 : Int32) + (1 : Int32)) = (9 : Int32) by decide]
  show own_Run p e below _ T248 (mkF m 211 #[.val (.int p1), .val (.long q2), .second, .val (.int p3), .val (.long q4), .second, .val (.int p5), .val (.int x7), .val (.ref o8), .val (.ref o9), .val (.ref o10), .val (.ref o11), .val (.ref mk), .val (.int (8 : Int32)), .val (.int (0 : Int32)), .val (.long (1 : Int64)), .second, .val (.int (7 : Int32)), .val (.long (8 : Int64)), .second] [(.int (9 : Int32)), (.int (9 : Int32))])
  refine own_go (fun _ k => XS.icmpNo X248.here hx rfl (hb hby at_211) rfl (teq (by decide : (9 : Int32) = (9 : Int32))).2 k) ?_
  show own_Run p e below _ T248 (mkF m 214 #[.val (.int p1), .val (.long q2), .second, .val (.int p3), .val (.long q4), .second, .val (.int p5), .val (.int x7), .val (.ref o8), .val (.ref o9), .val (.ref o10), .val (.ref o11), .val (.ref mk), .val (.int (8 : Int32)), .val (.int (0 : Int32)), .val (.long (1 : Int64)), .second, .val (.int (7 : Int32)), .val (.long (8 : Int64)), .second] [])
  refine own_go (fun _ k => XS.aload X248.here hx rfl (hb hby at_214) rfl rfl k) ?_
  refine own_go (fun _ k => XS.iload X248.here hx rfl (hb hby at_216) rfl k) ?_
  show own_Run p e below _ T248 (mkF m 218 #[.val (.int p1), .val (.long q2), .second, .val (.int p3), .val (.long q4), .second, .val (.int p5), .val (.int x7), .val (.ref o8), .val (.ref o9), .val (.ref o10), .val (.ref o11), .val (.ref mk), .val (.int (8 : Int32)), .val (.int (0 : Int32)), .val (.long (1 : Int64)), .second, .val (.int (7 : Int32)), .val (.long (8 : Int64)), .second] [(.int (8 : Int32)), (.ref mk)])
  obtain ⟨cq249, kq249, q249a, q249b, q249c⟩ := isOf hZ e248 P246_0
  obtain ⟨_, _, ⟨T249, L249, k249, n249⟩, -, X249, ⟨Lc249, hQ249, l249, y249, z249⟩, st249⟩ := X248.virtualBack hx (y := (⟨"com/example/net_reducer/netreducer/analysis/Marking", "place", "(I)I"⟩ : MethodName)) (z := (⟨"com/example/net_reducer/netreducer/analysis/Marking", "place", "(I)I"⟩ : MethodName)) hown (mvT hZ (W 34 rfl)) (mvT hZ (W 35 rfl)) (notFace_of_selects (args := #[]) (mvT hZ (W 37 rfl))) (mvT hZ (W 37 rfl)) (mvT hZ (W 36 rfl)) (by decide) (backOf (W := 0) (rm5 l Z a0 hw [] mk (8 : Int32) d1_246 m1_246 (16 : Int32) [(.int (0 : Int32)), (.int (1 : Int32)), (.int (2 : Int32)), (.int (3 : Int32)), (.int (4 : Int32)), (.int (5 : Int32)), (.int (6 : Int32)), (.int (7 : Int32)), (.int p1), (.int (0 : Int32)), (.int (0 : Int32)), (.int (0 : Int32)), (.int (0 : Int32)), (.int (0 : Int32)), (.int (0 : Int32)), (.int (0 : Int32))] (.int (0 : Int32)) p1 T246.heap n0 Z0_c247 P246_1 P246_4 (⟨by decide, by decide⟩) (rfl)) hZ (W 38 rfl) (W 11 rfl) (by decide) (by decide)) q249a q249c (g := (mkF m 218 #[.val (.int p1), .val (.long q2), .second, .val (.int p3), .val (.long q4), .second, .val (.int p5), .val (.int x7), .val (.ref o8), .val (.ref o9), .val (.ref o10), .val (.ref o11), .val (.ref mk), .val (.int (8 : Int32)), .val (.int (0 : Int32)), .val (.long (1 : Int64)), .second, .val (.int (7 : Int32)), .val (.long (8 : Int64)), .second] [(.int (8 : Int32)), (.ref mk)])) rfl (by rw [hml]; rfl) (Steps.refl _) (argsL := [(.int (8 : Int32))]) (rest := []) (lenOf pd_8 rfl) rfl (by show 2 * 0 + _ ≤ _; exact Nat.le_of_eq rfl) (hb hby at_218) (fun _ _ => ⟨rfl, e248, (by decide : 9 + 0 ≤ _), (by decide : 67 + 0 ≤ _)⟩)
  dsimp only [Pt.U, Pt.locs, Pt.cells, Pt.slots] at X249 l249 y249 z249 st249 hQ249
  subst l249 y249 z249
  obtain ⟨rfl, N249q, e249⟩ := hQ249
  have N249 := Fr.app N248 N249q
  refine own_goT st249 ?_
  show own_Run p e below _ T249 (mkF m 221 #[.val (.int p1), .val (.long q2), .second, .val (.int p3), .val (.long q4), .second, .val (.int p5), .val (.int x7), .val (.ref o8), .val (.ref o9), .val (.ref o10), .val (.ref o11), .val (.ref mk), .val (.int (8 : Int32)), .val (.int (0 : Int32)), .val (.long (1 : Int64)), .second, .val (.int (7 : Int32)), .val (.long (8 : Int64)), .second] [(.int p1)])
  refine own_go (fun _ k => XS.iloadN X249.here hx rfl (hb hby at_221) rfl k) ?_
  show own_Run p e below _ T249 (mkF m 222 #[.val (.int p1), .val (.long q2), .second, .val (.int p3), .val (.long q4), .second, .val (.int p5), .val (.int x7), .val (.ref o8), .val (.ref o9), .val (.ref o10), .val (.ref o11), .val (.ref mk), .val (.int (8 : Int32)), .val (.int (0 : Int32)), .val (.long (1 : Int64)), .second, .val (.int (7 : Int32)), .val (.long (8 : Int64)), .second] [(.int p1), (.int p1)])
  refine own_go (fun _ k => XS.icmpNo X249.here hx rfl (hb hby at_222) rfl (teq rfl).2 k) ?_
  show own_Run p e below _ T249 (mkF m 225 #[.val (.int p1), .val (.long q2), .second, .val (.int p3), .val (.long q4), .second, .val (.int p5), .val (.int x7), .val (.ref o8), .val (.ref o9), .val (.ref o10), .val (.ref o11), .val (.ref mk), .val (.int (8 : Int32)), .val (.int (0 : Int32)), .val (.long (1 : Int64)), .second, .val (.int (7 : Int32)), .val (.long (8 : Int64)), .second] [])
  refine own_go (fun _ k => XS.aload X249.here hx rfl (hb hby at_225) rfl rfl k) ?_
  refine own_go (fun _ k => XS.iload X249.here hx rfl (hb hby at_227) rfl k) ?_
  show own_Run p e below _ T249 (mkF m 229 #[.val (.int p1), .val (.long q2), .second, .val (.int p3), .val (.long q4), .second, .val (.int p5), .val (.int x7), .val (.ref o8), .val (.ref o9), .val (.ref o10), .val (.ref o11), .val (.ref mk), .val (.int (8 : Int32)), .val (.int (0 : Int32)), .val (.long (1 : Int64)), .second, .val (.int (7 : Int32)), .val (.long (8 : Int64)), .second] [(.int (8 : Int32)), (.ref mk)])
  obtain ⟨cq250, kq250, q250a, q250b, q250c⟩ := isOf hZ e249 P246_0
  obtain ⟨_, _, ⟨T250, L250, k250, n250⟩, -, X250, ⟨Lc250, hQ250, l250, y250, z250⟩, st250⟩ := X249.virtualBack hx (y := (⟨"com/example/net_reducer/netreducer/analysis/Marking", "tokens", "(I)J"⟩ : MethodName)) (z := (⟨"com/example/net_reducer/netreducer/analysis/Marking", "tokens", "(I)J"⟩ : MethodName)) hown (mvT hZ (W 39 rfl)) (mvT hZ (W 40 rfl)) (notFace_of_selects (args := #[]) (mvT hZ (W 42 rfl))) (mvT hZ (W 42 rfl)) (mvT hZ (W 41 rfl)) (by decide) (backOf (W := 0) (rm6 l Z a0 hw [] mk (8 : Int32) d2_246 m2_246 (16 : Int32) [(.long (1 : Int64)), (.long (2 : Int64)), (.long (3 : Int64)), (.long (4 : Int64)), (.long (5 : Int64)), (.long (6 : Int64)), (.long (7 : Int64)), (.long (8 : Int64)), (.long q2), (.long (0 : Int64)), (.long (0 : Int64)), (.long (0 : Int64)), (.long (0 : Int64)), (.long (0 : Int64)), (.long (0 : Int64)), (.long (0 : Int64))] (.long (0 : Int64)) q2 T246.heap n0 Z0_c247 P246_2 P246_5 (⟨by decide, by decide⟩) (rfl)) hZ (W 43 rfl) (W 11 rfl) (by decide) (by decide)) q250a q250c (g := (mkF m 229 #[.val (.int p1), .val (.long q2), .second, .val (.int p3), .val (.long q4), .second, .val (.int p5), .val (.int x7), .val (.ref o8), .val (.ref o9), .val (.ref o10), .val (.ref o11), .val (.ref mk), .val (.int (8 : Int32)), .val (.int (0 : Int32)), .val (.long (1 : Int64)), .second, .val (.int (7 : Int32)), .val (.long (8 : Int64)), .second] [(.int (8 : Int32)), (.ref mk)])) rfl (by rw [hml]; rfl) (Steps.refl _) (argsL := [(.int (8 : Int32))]) (rest := []) (lenOf pd_9 rfl) rfl (by show 2 * 0 + _ ≤ _; exact Nat.le_of_eq rfl) (hb hby at_229) (fun _ _ => ⟨rfl, e249, (by decide : 9 + 0 ≤ _), (by decide : 67 + 0 ≤ _)⟩)
  dsimp only [Pt.U, Pt.locs, Pt.cells, Pt.slots] at X250 l250 y250 z250 st250 hQ250
  subst l250 y250 z250
  obtain ⟨rfl, N250q, e250⟩ := hQ250
  have N250 := Fr.app N249 N250q
  refine own_goT st250 ?_
  show own_Run p e below _ T250 (mkF m 232 #[.val (.int p1), .val (.long q2), .second, .val (.int p3), .val (.long q4), .second, .val (.int p5), .val (.int x7), .val (.ref o8), .val (.ref o9), .val (.ref o10), .val (.ref o11), .val (.ref mk), .val (.int (8 : Int32)), .val (.int (0 : Int32)), .val (.long (1 : Int64)), .second, .val (.int (7 : Int32)), .val (.long (8 : Int64)), .second] [(.long q2)])
  refine own_go (fun _ k => XS.lloadN X250.here hx rfl (hb hby at_232) rfl k) ?_
  refine own_go (fun _ k => XS.lcmp X250.here hx rfl (hb hby at_233) rfl k) ?_
  show own_Run p e below _ T250 (mkF m 234 #[.val (.int p1), .val (.long q2), .second, .val (.int p3), .val (.long q4), .second, .val (.int p5), .val (.int x7), .val (.ref o8), .val (.ref o9), .val (.ref o10), .val (.ref o11), .val (.ref mk), .val (.int (8 : Int32)), .val (.int (0 : Int32)), .val (.long (1 : Int64)), .second, .val (.int (7 : Int32)), .val (.long (8 : Int64)), .second] [(.int (lcmpW q2 q2))])
  refine own_go (fun _ k => XS.ifNo X250.here hx rfl (hb hby at_234) rfl (own_lcTe rfl).2 k) ?_
  show own_Run p e below _ T250 (mkF m 237 #[.val (.int p1), .val (.long q2), .second, .val (.int p3), .val (.long q4), .second, .val (.int p5), .val (.int x7), .val (.ref o8), .val (.ref o9), .val (.ref o10), .val (.ref o11), .val (.ref mk), .val (.int (8 : Int32)), .val (.int (0 : Int32)), .val (.long (1 : Int64)), .second, .val (.int (7 : Int32)), .val (.long (8 : Int64)), .second] [])
  refine own_go (fun _ k => XS.aload X250.here hx rfl (hb hby at_237) rfl rfl k) ?_
  refine own_go (fun _ k => XS.iconst X250.here hx rfl (hb hby at_239) k) ?_
  show own_Run p e below _ T250 (mkF m 240 #[.val (.int p1), .val (.long q2), .second, .val (.int p3), .val (.long q4), .second, .val (.int p5), .val (.int x7), .val (.ref o8), .val (.ref o9), .val (.ref o10), .val (.ref o11), .val (.ref mk), .val (.int (8 : Int32)), .val (.int (0 : Int32)), .val (.long (1 : Int64)), .second, .val (.int (7 : Int32)), .val (.long (8 : Int64)), .second] [(.int (0 : Int32)), (.ref mk)])
  obtain ⟨cq251, kq251, q251a, q251b, q251c⟩ := isOf hZ e250 P246_0
  obtain ⟨_, _, ⟨T251, L251, k251, n251⟩, -, X251, ⟨Lc251, hQ251, l251, y251, z251⟩, st251⟩ := X250.virtualBack hx (y := (⟨"com/example/net_reducer/netreducer/analysis/Marking", "place", "(I)I"⟩ : MethodName)) (z := (⟨"com/example/net_reducer/netreducer/analysis/Marking", "place", "(I)I"⟩ : MethodName)) hown (mvT hZ (W 34 rfl)) (mvT hZ (W 35 rfl)) (notFace_of_selects (args := #[]) (mvT hZ (W 37 rfl))) (mvT hZ (W 37 rfl)) (mvT hZ (W 36 rfl)) (by decide) (backOf (W := 0) (rm5 l Z a0 hw [] mk (0 : Int32) d1_246 m1_246 (16 : Int32) [(.int (0 : Int32)), (.int (1 : Int32)), (.int (2 : Int32)), (.int (3 : Int32)), (.int (4 : Int32)), (.int (5 : Int32)), (.int (6 : Int32)), (.int (7 : Int32)), (.int p1), (.int (0 : Int32)), (.int (0 : Int32)), (.int (0 : Int32)), (.int (0 : Int32)), (.int (0 : Int32)), (.int (0 : Int32)), (.int (0 : Int32))] (.int (0 : Int32)) (0 : Int32) T246.heap n0 Z0_c247 P246_1 P246_4 (⟨by decide, by decide⟩) (rfl)) hZ (W 38 rfl) (W 11 rfl) (by decide) (by decide)) q251a q251c (g := (mkF m 240 #[.val (.int p1), .val (.long q2), .second, .val (.int p3), .val (.long q4), .second, .val (.int p5), .val (.int x7), .val (.ref o8), .val (.ref o9), .val (.ref o10), .val (.ref o11), .val (.ref mk), .val (.int (8 : Int32)), .val (.int (0 : Int32)), .val (.long (1 : Int64)), .second, .val (.int (7 : Int32)), .val (.long (8 : Int64)), .second] [(.int (0 : Int32)), (.ref mk)])) rfl (by rw [hml]; rfl) (Steps.refl _) (argsL := [(.int (0 : Int32))]) (rest := []) (lenOf pd_8 rfl) rfl (by show 2 * 0 + _ ≤ _; exact Nat.le_of_eq rfl) (hb hby at_240) (fun _ _ => ⟨rfl, e250, (by decide : 9 + 0 ≤ _), (by decide : 67 + 0 ≤ _)⟩)
  dsimp only [Pt.U, Pt.locs, Pt.cells, Pt.slots] at X251 l251 y251 z251 st251 hQ251
  subst l251 y251 z251
  obtain ⟨rfl, N251q, e251⟩ := hQ251
  have N251 := Fr.app N250 N251q
  refine own_goT st251 ?_
  show own_Run p e below _ T251 (mkF m 243 #[.val (.int p1), .val (.long q2), .second, .val (.int p3), .val (.long q4), .second, .val (.int p5), .val (.int x7), .val (.ref o8), .val (.ref o9), .val (.ref o10), .val (.ref o11), .val (.ref mk), .val (.int (8 : Int32)), .val (.int (0 : Int32)), .val (.long (1 : Int64)), .second, .val (.int (7 : Int32)), .val (.long (8 : Int64)), .second] [(.int (0 : Int32))])
  refine own_go (fun _ k => XS.iload X251.here hx rfl (hb hby at_243) rfl k) ?_
  show own_Run p e below _ T251 (mkF m 245 #[.val (.int p1), .val (.long q2), .second, .val (.int p3), .val (.long q4), .second, .val (.int p5), .val (.int x7), .val (.ref o8), .val (.ref o9), .val (.ref o10), .val (.ref o11), .val (.ref mk), .val (.int (8 : Int32)), .val (.int (0 : Int32)), .val (.long (1 : Int64)), .second, .val (.int (7 : Int32)), .val (.long (8 : Int64)), .second] [(.int (0 : Int32)), (.int (0 : Int32))])
  refine own_go (fun _ k => XS.icmpNo X251.here hx rfl (hb hby at_245) rfl (teq (by decide : (0 : Int32) = (0 : Int32))).2 k) ?_
  show own_Run p e below _ T251 (mkF m 248 #[.val (.int p1), .val (.long q2), .second, .val (.int p3), .val (.long q4), .second, .val (.int p5), .val (.int x7), .val (.ref o8), .val (.ref o9), .val (.ref o10), .val (.ref o11), .val (.ref mk), .val (.int (8 : Int32)), .val (.int (0 : Int32)), .val (.long (1 : Int64)), .second, .val (.int (7 : Int32)), .val (.long (8 : Int64)), .second] [])
  refine own_go (fun _ k => XS.aload X251.here hx rfl (hb hby at_248) rfl rfl k) ?_
  refine own_go (fun _ k => XS.iconst X251.here hx rfl (hb hby at_250) k) ?_
  show own_Run p e below _ T251 (mkF m 251 #[.val (.int p1), .val (.long q2), .second, .val (.int p3), .val (.long q4), .second, .val (.int p5), .val (.int x7), .val (.ref o8), .val (.ref o9), .val (.ref o10), .val (.ref o11), .val (.ref mk), .val (.int (8 : Int32)), .val (.int (0 : Int32)), .val (.long (1 : Int64)), .second, .val (.int (7 : Int32)), .val (.long (8 : Int64)), .second] [(.int (0 : Int32)), (.ref mk)])
  obtain ⟨cq252, kq252, q252a, q252b, q252c⟩ := isOf hZ e251 P246_0
  obtain ⟨_, _, ⟨T252, L252, k252, n252⟩, -, X252, ⟨Lc252, hQ252, l252, y252, z252⟩, st252⟩ := X251.virtualBack hx (y := (⟨"com/example/net_reducer/netreducer/analysis/Marking", "tokens", "(I)J"⟩ : MethodName)) (z := (⟨"com/example/net_reducer/netreducer/analysis/Marking", "tokens", "(I)J"⟩ : MethodName)) hown (mvT hZ (W 39 rfl)) (mvT hZ (W 40 rfl)) (notFace_of_selects (args := #[]) (mvT hZ (W 42 rfl))) (mvT hZ (W 42 rfl)) (mvT hZ (W 41 rfl)) (by decide) (backOf (W := 0) (rm6 l Z a0 hw [] mk (0 : Int32) d2_246 m2_246 (16 : Int32) [(.long (1 : Int64)), (.long (2 : Int64)), (.long (3 : Int64)), (.long (4 : Int64)), (.long (5 : Int64)), (.long (6 : Int64)), (.long (7 : Int64)), (.long (8 : Int64)), (.long q2), (.long (0 : Int64)), (.long (0 : Int64)), (.long (0 : Int64)), (.long (0 : Int64)), (.long (0 : Int64)), (.long (0 : Int64)), (.long (0 : Int64))] (.long (0 : Int64)) (1 : Int64) T246.heap n0 Z0_c247 P246_2 P246_5 (⟨by decide, by decide⟩) (rfl)) hZ (W 43 rfl) (W 11 rfl) (by decide) (by decide)) q252a q252c (g := (mkF m 251 #[.val (.int p1), .val (.long q2), .second, .val (.int p3), .val (.long q4), .second, .val (.int p5), .val (.int x7), .val (.ref o8), .val (.ref o9), .val (.ref o10), .val (.ref o11), .val (.ref mk), .val (.int (8 : Int32)), .val (.int (0 : Int32)), .val (.long (1 : Int64)), .second, .val (.int (7 : Int32)), .val (.long (8 : Int64)), .second] [(.int (0 : Int32)), (.ref mk)])) rfl (by rw [hml]; rfl) (Steps.refl _) (argsL := [(.int (0 : Int32))]) (rest := []) (lenOf pd_9 rfl) rfl (by show 2 * 0 + _ ≤ _; exact Nat.le_of_eq rfl) (hb hby at_251) (fun _ _ => ⟨rfl, e251, (by decide : 9 + 0 ≤ _), (by decide : 67 + 0 ≤ _)⟩)
  dsimp only [Pt.U, Pt.locs, Pt.cells, Pt.slots] at X252 l252 y252 z252 st252 hQ252
  subst l252 y252 z252
  obtain ⟨rfl, N252q, e252⟩ := hQ252
  have N252 := Fr.app N251 N252q
  refine own_goT st252 ?_
  show own_Run p e below _ T252 (mkF m 254 #[.val (.int p1), .val (.long q2), .second, .val (.int p3), .val (.long q4), .second, .val (.int p5), .val (.int x7), .val (.ref o8), .val (.ref o9), .val (.ref o10), .val (.ref o11), .val (.ref mk), .val (.int (8 : Int32)), .val (.int (0 : Int32)), .val (.long (1 : Int64)), .second, .val (.int (7 : Int32)), .val (.long (8 : Int64)), .second] [(.long (1 : Int64))])
  refine own_go (fun _ k => XS.lload X252.here hx rfl (hb hby at_254) rfl k) ?_
  refine own_go (fun _ k => XS.lcmp X252.here hx rfl (hb hby at_256) rfl k) ?_
  show own_Run p e below _ T252 (mkF m 257 #[.val (.int p1), .val (.long q2), .second, .val (.int p3), .val (.long q4), .second, .val (.int p5), .val (.int x7), .val (.ref o8), .val (.ref o9), .val (.ref o10), .val (.ref o11), .val (.ref mk), .val (.int (8 : Int32)), .val (.int (0 : Int32)), .val (.long (1 : Int64)), .second, .val (.int (7 : Int32)), .val (.long (8 : Int64)), .second] [(.int (lcmpW (1 : Int64) (1 : Int64)))])
  refine own_go (fun _ k => XS.ifNo X252.here hx rfl (hb hby at_257) rfl (own_lcTe (by decide : (1 : Int64) = (1 : Int64))).2 k) ?_
  show own_Run p e below _ T252 (mkF m 260 #[.val (.int p1), .val (.long q2), .second, .val (.int p3), .val (.long q4), .second, .val (.int p5), .val (.int x7), .val (.ref o8), .val (.ref o9), .val (.ref o10), .val (.ref o11), .val (.ref mk), .val (.int (8 : Int32)), .val (.int (0 : Int32)), .val (.long (1 : Int64)), .second, .val (.int (7 : Int32)), .val (.long (8 : Int64)), .second] [])
  refine own_go (fun _ k => XS.aload X252.here hx rfl (hb hby at_260) rfl rfl k) ?_
  refine own_go (fun _ k => XS.iload X252.here hx rfl (hb hby at_262) rfl k) ?_
  refine own_go (fun _ k => XS.iconst X252.here hx rfl (hb hby at_264) k) ?_
  refine own_go (fun _ k => XS.isub X252.here hx rfl (hb hby at_265) rfl k) ?_
  show own_Run p e below _ T252 (mkF m 266 #[.val (.int p1), .val (.long q2), .second, .val (.int p3), .val (.long q4), .second, .val (.int p5), .val (.int x7), .val (.ref o8), .val (.ref o9), .val (.ref o10), .val (.ref o11), .val (.ref mk), .val (.int (8 : Int32)), .val (.int (0 : Int32)), .val (.long (1 : Int64)), .second, .val (.int (7 : Int32)), .val (.long (8 : Int64)), .second] [(.int ((8 : Int32) - (1 : Int32))), (.ref mk)])
  rw [show ((8 : Int32) - (1 : Int32)) = (7 : Int32) by decide]
  show own_Run p e below _ T252 (mkF m 266 #[.val (.int p1), .val (.long q2), .second, .val (.int p3), .val (.long q4), .second, .val (.int p5), .val (.int x7), .val (.ref o8), .val (.ref o9), .val (.ref o10), .val (.ref o11), .val (.ref mk), .val (.int (8 : Int32)), .val (.int (0 : Int32)), .val (.long (1 : Int64)), .second, .val (.int (7 : Int32)), .val (.long (8 : Int64)), .second] [(.int (7 : Int32)), (.ref mk)])
  obtain ⟨cq253, kq253, q253a, q253b, q253c⟩ := isOf hZ e252 P246_0
  obtain ⟨_, _, ⟨T253, L253, k253, n253⟩, -, X253, ⟨Lc253, hQ253, l253, y253, z253⟩, st253⟩ := X252.virtualBack hx (y := (⟨"com/example/net_reducer/netreducer/analysis/Marking", "place", "(I)I"⟩ : MethodName)) (z := (⟨"com/example/net_reducer/netreducer/analysis/Marking", "place", "(I)I"⟩ : MethodName)) hown (mvT hZ (W 34 rfl)) (mvT hZ (W 35 rfl)) (notFace_of_selects (args := #[]) (mvT hZ (W 37 rfl))) (mvT hZ (W 37 rfl)) (mvT hZ (W 36 rfl)) (by decide) (backOf (W := 0) (rm5 l Z a0 hw [] mk (7 : Int32) d1_246 m1_246 (16 : Int32) [(.int (0 : Int32)), (.int (1 : Int32)), (.int (2 : Int32)), (.int (3 : Int32)), (.int (4 : Int32)), (.int (5 : Int32)), (.int (6 : Int32)), (.int (7 : Int32)), (.int p1), (.int (0 : Int32)), (.int (0 : Int32)), (.int (0 : Int32)), (.int (0 : Int32)), (.int (0 : Int32)), (.int (0 : Int32)), (.int (0 : Int32))] (.int (0 : Int32)) (7 : Int32) T246.heap n0 Z0_c247 P246_1 P246_4 (⟨by decide, by decide⟩) (rfl)) hZ (W 38 rfl) (W 11 rfl) (by decide) (by decide)) q253a q253c (g := (mkF m 266 #[.val (.int p1), .val (.long q2), .second, .val (.int p3), .val (.long q4), .second, .val (.int p5), .val (.int x7), .val (.ref o8), .val (.ref o9), .val (.ref o10), .val (.ref o11), .val (.ref mk), .val (.int (8 : Int32)), .val (.int (0 : Int32)), .val (.long (1 : Int64)), .second, .val (.int (7 : Int32)), .val (.long (8 : Int64)), .second] [(.int (7 : Int32)), (.ref mk)])) rfl (by rw [hml]; rfl) (Steps.refl _) (argsL := [(.int (7 : Int32))]) (rest := []) (lenOf pd_8 rfl) rfl (by show 2 * 0 + _ ≤ _; exact Nat.le_of_eq rfl) (hb hby at_266) (fun _ _ => ⟨rfl, e252, (by decide : 9 + 0 ≤ _), (by decide : 67 + 0 ≤ _)⟩)
  dsimp only [Pt.U, Pt.locs, Pt.cells, Pt.slots] at X253 l253 y253 z253 st253 hQ253
  subst l253 y253 z253
  obtain ⟨rfl, N253q, e253⟩ := hQ253
  have N253 := Fr.app N252 N253q
  refine own_goT st253 ?_
  show own_Run p e below _ T253 (mkF m 269 #[.val (.int p1), .val (.long q2), .second, .val (.int p3), .val (.long q4), .second, .val (.int p5), .val (.int x7), .val (.ref o8), .val (.ref o9), .val (.ref o10), .val (.ref o11), .val (.ref mk), .val (.int (8 : Int32)), .val (.int (0 : Int32)), .val (.long (1 : Int64)), .second, .val (.int (7 : Int32)), .val (.long (8 : Int64)), .second] [(.int (7 : Int32))])
  refine own_go (fun _ k => XS.iload X253.here hx rfl (hb hby at_269) rfl k) ?_
  show own_Run p e below _ T253 (mkF m 271 #[.val (.int p1), .val (.long q2), .second, .val (.int p3), .val (.long q4), .second, .val (.int p5), .val (.int x7), .val (.ref o8), .val (.ref o9), .val (.ref o10), .val (.ref o11), .val (.ref mk), .val (.int (8 : Int32)), .val (.int (0 : Int32)), .val (.long (1 : Int64)), .second, .val (.int (7 : Int32)), .val (.long (8 : Int64)), .second] [(.int (7 : Int32)), (.int (7 : Int32))])
  refine own_go (fun _ k => XS.icmpNo X253.here hx rfl (hb hby at_271) rfl (teq (by decide : (7 : Int32) = (7 : Int32))).2 k) ?_
  show own_Run p e below _ T253 (mkF m 274 #[.val (.int p1), .val (.long q2), .second, .val (.int p3), .val (.long q4), .second, .val (.int p5), .val (.int x7), .val (.ref o8), .val (.ref o9), .val (.ref o10), .val (.ref o11), .val (.ref mk), .val (.int (8 : Int32)), .val (.int (0 : Int32)), .val (.long (1 : Int64)), .second, .val (.int (7 : Int32)), .val (.long (8 : Int64)), .second] [])
  refine own_go (fun _ k => XS.aload X253.here hx rfl (hb hby at_274) rfl rfl k) ?_
  refine own_go (fun _ k => XS.iload X253.here hx rfl (hb hby at_276) rfl k) ?_
  refine own_go (fun _ k => XS.iconst X253.here hx rfl (hb hby at_278) k) ?_
  refine own_go (fun _ k => XS.isub X253.here hx rfl (hb hby at_279) rfl k) ?_
  show own_Run p e below _ T253 (mkF m 280 #[.val (.int p1), .val (.long q2), .second, .val (.int p3), .val (.long q4), .second, .val (.int p5), .val (.int x7), .val (.ref o8), .val (.ref o9), .val (.ref o10), .val (.ref o11), .val (.ref mk), .val (.int (8 : Int32)), .val (.int (0 : Int32)), .val (.long (1 : Int64)), .second, .val (.int (7 : Int32)), .val (.long (8 : Int64)), .second] [(.int ((8 : Int32) - (1 : Int32))), (.ref mk)])
  rw [show ((8 : Int32) - (1 : Int32)) = (7 : Int32) by decide]
  show own_Run p e below _ T253 (mkF m 280 #[.val (.int p1), .val (.long q2), .second, .val (.int p3), .val (.long q4), .second, .val (.int p5), .val (.int x7), .val (.ref o8), .val (.ref o9), .val (.ref o10), .val (.ref o11), .val (.ref mk), .val (.int (8 : Int32)), .val (.int (0 : Int32)), .val (.long (1 : Int64)), .second, .val (.int (7 : Int32)), .val (.long (8 : Int64)), .second] [(.int (7 : Int32)), (.ref mk)])
  obtain ⟨cq254, kq254, q254a, q254b, q254c⟩ := isOf hZ e253 P246_0
  obtain ⟨_, _, ⟨T254, L254, k254, n254⟩, -, X254, ⟨Lc254, hQ254, l254, y254, z254⟩, st254⟩ := X253.virtualBack hx (y := (⟨"com/example/net_reducer/netreducer/analysis/Marking", "tokens", "(I)J"⟩ : MethodName)) (z := (⟨"com/example/net_reducer/netreducer/analysis/Marking", "tokens", "(I)J"⟩ : MethodName)) hown (mvT hZ (W 39 rfl)) (mvT hZ (W 40 rfl)) (notFace_of_selects (args := #[]) (mvT hZ (W 42 rfl))) (mvT hZ (W 42 rfl)) (mvT hZ (W 41 rfl)) (by decide) (backOf (W := 0) (rm6 l Z a0 hw [] mk (7 : Int32) d2_246 m2_246 (16 : Int32) [(.long (1 : Int64)), (.long (2 : Int64)), (.long (3 : Int64)), (.long (4 : Int64)), (.long (5 : Int64)), (.long (6 : Int64)), (.long (7 : Int64)), (.long (8 : Int64)), (.long q2), (.long (0 : Int64)), (.long (0 : Int64)), (.long (0 : Int64)), (.long (0 : Int64)), (.long (0 : Int64)), (.long (0 : Int64)), (.long (0 : Int64))] (.long (0 : Int64)) (8 : Int64) T246.heap n0 Z0_c247 P246_2 P246_5 (⟨by decide, by decide⟩) (rfl)) hZ (W 43 rfl) (W 11 rfl) (by decide) (by decide)) q254a q254c (g := (mkF m 280 #[.val (.int p1), .val (.long q2), .second, .val (.int p3), .val (.long q4), .second, .val (.int p5), .val (.int x7), .val (.ref o8), .val (.ref o9), .val (.ref o10), .val (.ref o11), .val (.ref mk), .val (.int (8 : Int32)), .val (.int (0 : Int32)), .val (.long (1 : Int64)), .second, .val (.int (7 : Int32)), .val (.long (8 : Int64)), .second] [(.int (7 : Int32)), (.ref mk)])) rfl (by rw [hml]; rfl) (Steps.refl _) (argsL := [(.int (7 : Int32))]) (rest := []) (lenOf pd_9 rfl) rfl (by show 2 * 0 + _ ≤ _; exact Nat.le_of_eq rfl) (hb hby at_280) (fun _ _ => ⟨rfl, e253, (by decide : 9 + 0 ≤ _), (by decide : 67 + 0 ≤ _)⟩)
  dsimp only [Pt.U, Pt.locs, Pt.cells, Pt.slots] at X254 l254 y254 z254 st254 hQ254
  subst l254 y254 z254
  obtain ⟨rfl, N254q, e254⟩ := hQ254
  have N254 := Fr.app N253 N254q
  refine own_goT st254 ?_
  show own_Run p e below _ T254 (mkF m 283 #[.val (.int p1), .val (.long q2), .second, .val (.int p3), .val (.long q4), .second, .val (.int p5), .val (.int x7), .val (.ref o8), .val (.ref o9), .val (.ref o10), .val (.ref o11), .val (.ref mk), .val (.int (8 : Int32)), .val (.int (0 : Int32)), .val (.long (1 : Int64)), .second, .val (.int (7 : Int32)), .val (.long (8 : Int64)), .second] [(.long (8 : Int64))])
  refine own_go (fun _ k => XS.lload X254.here hx rfl (hb hby at_283) rfl k) ?_
  refine own_go (fun _ k => XS.lcmp X254.here hx rfl (hb hby at_285) rfl k) ?_
  show own_Run p e below _ T254 (mkF m 286 #[.val (.int p1), .val (.long q2), .second, .val (.int p3), .val (.long q4), .second, .val (.int p5), .val (.int x7), .val (.ref o8), .val (.ref o9), .val (.ref o10), .val (.ref o11), .val (.ref mk), .val (.int (8 : Int32)), .val (.int (0 : Int32)), .val (.long (1 : Int64)), .second, .val (.int (7 : Int32)), .val (.long (8 : Int64)), .second] [(.int (lcmpW (8 : Int64) (8 : Int64)))])
  refine own_go (fun _ k => XS.ifNo X254.here hx rfl (hb hby at_286) rfl (own_lcTe (by decide : (8 : Int64) = (8 : Int64))).2 k) ?_
  show own_Run p e below _ T254 (mkF m 289 #[.val (.int p1), .val (.long q2), .second, .val (.int p3), .val (.long q4), .second, .val (.int p5), .val (.int x7), .val (.ref o8), .val (.ref o9), .val (.ref o10), .val (.ref o11), .val (.ref mk), .val (.int (8 : Int32)), .val (.int (0 : Int32)), .val (.long (1 : Int64)), .second, .val (.int (7 : Int32)), .val (.long (8 : Int64)), .second] [])
  refine own_go (fun _ k => XS.iconst X254.here hx rfl (hb hby at_289) k) ?_
  refine own_go (fun _ k => XS.goto X254.here hx rfl (pc0 := 290) (pc' := 294) rfl (hb hby at_290) (by decide) (by decide) k) ?_
  show own_Run p e below _ T254 (mkF m 294 #[.val (.int p1), .val (.long q2), .second, .val (.int p3), .val (.long q4), .second, .val (.int p5), .val (.int x7), .val (.ref o8), .val (.ref o9), .val (.ref o10), .val (.ref o11), .val (.ref mk), .val (.int (8 : Int32)), .val (.int (0 : Int32)), .val (.long (1 : Int64)), .second, .val (.int (7 : Int32)), .val (.long (8 : Int64)), .second] [(.int (1 : Int32))])
  refine own_done (Q := fun v h L => Q0 Z p1 q2 p3 q4 p5 h0 n0 v h L) (v := (some (.int (1 : Int32)))) X254 (fun h => by rw [hret] at h; cases h) hlk (fun fs hr => retN X254 hx (t := .boolean) hret (by simp) (hb hby at_294) hr) ?_ (by decide) (by decide)
  show Q0 Z p1 q2 p3 q4 p5 h0 n0 _ T254.heap _
  rw [e254]
  exact ⟨rfl, N254⟩
set_option maxRecDepth 65536 in
set_option maxHeartbeats 40000000 in
theorem endN {p : Program} {l : Launch} {e : Env} {s : State} {m : MethodId} {args : Array Value} {below : List Frame} {meth : Method} {c : Code} {Z : State} {a0 : Array Value} (p1 : Int32) (q2 : Int64) (p3 : Int32) (q4 : Int64) (p5 : Int32) (h0 : Heap) (n0 : Nat) (hx : p.tables.exec = Jvm.exec) (hZ : Z.Warmed39 s.vm) (hw : ∀ d ∈ tables_1, d.before a0 Z = true) (hby : c.code = code) (hml : c.maxLocals = 20) (hown : s.vm.findClass "com/example/net_reducer/netreducer/analysis/MarkingAddPinLaw" = some m.cls) (hnm : meth.name = "law") (hret : meth.sig.returnType = some .boolean) (hlk : meth.locks = false)
    (x7 : Int32) (o8 : Addr) (o9 : Addr) (o10 : Addr) (o11 : Addr) (mk : Addr) (b1 : Addr) (b2 : Addr) (k1 : ClassId) (k2 : ClassId) (T0 : State) (hh : Heap) (locs : List Loc) (X0 : Stand p l e room_1 s m args below meth c T0 locs 7 35) (e0 : T0.heap = hh) (N0 : Fr n0 locs) (Z0 : n0 ≤ hh.size) (K0 : Keep h0 hh []) (E_mk : Exa Z hh mk "com/example/net_reducer/netreducer/analysis/Marking") (F_places_mk : Fld Z hh mk "com/example/net_reducer/netreducer/analysis/Marking" "places" "[I" (.ref b1)) (F_tokens_mk : Fld Z hh mk "com/example/net_reducer/netreducer/analysis/Marking" "tokens" "[J" (.ref b2)) (F_size_mk : Fld Z hh mk "com/example/net_reducer/netreducer/analysis/Marking" "size" "I" (.int (1 : Int32))) (V_b1 : Arv Z hh b1 k1 .int (8 : Int32) [(.int p3), (.int (0 : Int32)), (.int (0 : Int32)), (.int (0 : Int32)), (.int (0 : Int32)), (.int (0 : Int32)), (.int (0 : Int32)), (.int (0 : Int32))] (.int (0 : Int32))) (V_b2 : Arv Z hh b2 k2 .long (8 : Int32) [(.long q4), (.long (0 : Int64)), (.long (0 : Int64)), (.long (0 : Int64)), (.long (0 : Int64)), (.long (0 : Int64)), (.long (0 : Int64)), (.long (0 : Int64))] (.long (0 : Int64))) (g_mk : n0 ≤ mk) (g_b1 : n0 ≤ b1) (g_b2 : n0 ≤ b2) (sz_mk : h0.size ≤ mk) (sz_b1 : h0.size ≤ b1) (sz_b2 : h0.size ≤ b2) (ne_mk_b1 : mk ≠ b1) (ne_mk_b2 : mk ≠ b2) (ne_b1_b2 : b1 ≠ b2) :
    own_Run p e below (fun o U' => ∃ v L, o = .returned v ∧ Q0 Z p1 q2 p3 q4 p5 h0 n0 v U'.heap L ∧ FrameEnd s o U' L room_1.cells room_1.slots) T0 (mkF m 195 #[.val (.int p1), .val (.long q2), .second, .val (.int p3), .val (.long q4), .second, .val (.int p5), .val (.int x7), .val (.ref o8), .val (.ref o9), .val (.ref o10), .val (.ref o11), .val (.ref mk), .val (.int (1 : Int32)), .val (.int p3), .val (.long q4), .second, .val (.int p3), .val (.long q4), .second] []) := by
  have W := fun (k : Nat) {d : Jvm.Cond} (h : tables_1[k]? = some d) => hw d (List.mem_of_getElem? h)
  show own_Run p e below _ T0 (mkF m 195 #[.val (.int p1), .val (.long q2), .second, .val (.int p3), .val (.long q4), .second, .val (.int p5), .val (.int x7), .val (.ref o8), .val (.ref o9), .val (.ref o10), .val (.ref o11), .val (.ref mk), .val (.int (1 : Int32)), .val (.int p3), .val (.long q4), .second, .val (.int p3), .val (.long q4), .second] [])
  refine own_go (fun _ k => XS.aload X0.here hx rfl (hb hby at_195) rfl rfl k) ?_
  refine own_go (fun _ k => XS.iloadN X0.here hx rfl (hb hby at_197) rfl k) ?_
  refine own_go (fun _ k => XS.lloadN X0.here hx rfl (hb hby at_198) rfl k) ?_
  show own_Run p e below _ T0 (mkF m 199 #[.val (.int p1), .val (.long q2), .second, .val (.int p3), .val (.long q4), .second, .val (.int p5), .val (.int x7), .val (.ref o8), .val (.ref o9), .val (.ref o10), .val (.ref o11), .val (.ref mk), .val (.int (1 : Int32)), .val (.int p3), .val (.long q4), .second, .val (.int p3), .val (.long q4), .second] [(.long q2), (.int p1), (.ref mk)])
  obtain ⟨cq255, kq255, q255a, q255b, q255c⟩ := isOf hZ e0 E_mk
  obtain ⟨_, _, ⟨T255, L255, k255, n255⟩, -, X255, ⟨Lc255, hQ255, l255, y255, z255⟩, st255⟩ := X0.virtualBack hx (y := (⟨"com/example/net_reducer/netreducer/analysis/Marking", "add", "(IJ)V"⟩ : MethodName)) (z := (⟨"com/example/net_reducer/netreducer/analysis/Marking", "add", "(IJ)V"⟩ : MethodName)) hown (mvT hZ (W 22 rfl)) (mvT hZ (W 23 rfl)) (notFace_of_selects (args := #[]) (mvT hZ (W 25 rfl))) (mvT hZ (W 25 rfl)) (mvT hZ (W 24 rfl)) (by decide) (backOf (W := 0) (rm3c1 l Z a0 hw [] mk p1 q2 b1 b2 k1 k2 p3 (0 : Int32) (0 : Int32) (0 : Int32) (0 : Int32) (0 : Int32) (0 : Int32) (0 : Int32) q4 (0 : Int64) (0 : Int64) (0 : Int64) (0 : Int64) (0 : Int64) (0 : Int64) (0 : Int64) hh n0 Z0 E_mk F_places_mk F_tokens_mk F_size_mk V_b1 V_b2 g_mk g_b1 g_b2 ne_mk_b1 ne_mk_b2 ne_b1_b2) hZ (W 26 rfl) (W 11 rfl) (by decide) (by decide)) q255a q255c (g := (mkF m 199 #[.val (.int p1), .val (.long q2), .second, .val (.int p3), .val (.long q4), .second, .val (.int p5), .val (.int x7), .val (.ref o8), .val (.ref o9), .val (.ref o10), .val (.ref o11), .val (.ref mk), .val (.int (1 : Int32)), .val (.int p3), .val (.long q4), .second, .val (.int p3), .val (.long q4), .second] [(.long q2), (.int p1), (.ref mk)])) rfl (by rw [hml]; rfl) (Steps.refl _) (argsL := [(.int p1), (.long q2)]) (rest := []) (lenOf pd_5 rfl) rfl (by show 2 * 0 + _ ≤ _; exact Nat.le_of_eq rfl) (hb hby at_199) (fun _ _ => ⟨rfl, e0, (by decide : 7 + 0 ≤ _), (by decide : 35 + 0 ≤ _)⟩)
  dsimp only [Pt.U, Pt.locs, Pt.cells, Pt.slots] at X255 l255 y255 z255 st255 hQ255
  subst l255 y255 z255
  obtain ⟨rfl, N255q, K255, P255_0, P255_1, P255_2, P255_3, P255_4, P255_5⟩ := hQ255
  have N255 := Fr.app N0 N255q
  refine own_goT st255 ?_
  show own_Run p e below _ T255 (mkF m 202 #[.val (.int p1), .val (.long q2), .second, .val (.int p3), .val (.long q4), .second, .val (.int p5), .val (.int x7), .val (.ref o8), .val (.ref o9), .val (.ref o10), .val (.ref o11), .val (.ref mk), .val (.int (1 : Int32)), .val (.int p3), .val (.long q4), .second, .val (.int p3), .val (.long q4), .second] [])
  have Z0_c256 := Nat.le_trans Z0 K255.1
  have K0_c256 := K0.trans K255 (allS (Or.inr sz_mk) (allS (Or.inr sz_b1) (allS (Or.inr sz_b2) all0)))
  have E_mk_c256 := E_mk.keep K255
  refine own_go (fun _ k => XS.aload X255.here hx rfl (hb hby at_202) rfl rfl k) ?_
  show own_Run p e below _ T255 (mkF m 204 #[.val (.int p1), .val (.long q2), .second, .val (.int p3), .val (.long q4), .second, .val (.int p5), .val (.int x7), .val (.ref o8), .val (.ref o9), .val (.ref o10), .val (.ref o11), .val (.ref mk), .val (.int (1 : Int32)), .val (.int p3), .val (.long q4), .second, .val (.int p3), .val (.long q4), .second] [(.ref mk)])
  obtain ⟨cq257, kq257, q257a, q257b, q257c⟩ := isOf hZ rfl P255_0
  obtain ⟨_, _, ⟨T257, L257, k257, n257⟩, -, X257, ⟨Lc257, hQ257, l257, y257, z257⟩, st257⟩ := X255.virtualBack hx (y := (⟨"com/example/net_reducer/netreducer/analysis/Marking", "size", "()I"⟩ : MethodName)) (z := (⟨"com/example/net_reducer/netreducer/analysis/Marking", "size", "()I"⟩ : MethodName)) hown (mvT hZ (W 29 rfl)) (mvT hZ (W 30 rfl)) (notFace_of_selects (args := #[]) (mvT hZ (W 32 rfl))) (mvT hZ (W 32 rfl)) (mvT hZ (W 31 rfl)) (by decide) (backOf (W := 0) (rm4 l Z a0 hw [] mk (2 : Int32) T255.heap n0 Z0_c256 P255_3) hZ (W 33 rfl) (W 11 rfl) (by decide) (by decide)) q257a q257c (g := (mkF m 204 #[.val (.int p1), .val (.long q2), .second, .val (.int p3), .val (.long q4), .second, .val (.int p5), .val (.int x7), .val (.ref o8), .val (.ref o9), .val (.ref o10), .val (.ref o11), .val (.ref mk), .val (.int (1 : Int32)), .val (.int p3), .val (.long q4), .second, .val (.int p3), .val (.long q4), .second] [(.ref mk)])) rfl (by rw [hml]; rfl) (Steps.refl _) (argsL := []) (rest := []) (lenOf pd_7 rfl) rfl (by show 2 * 0 + _ ≤ _; exact Nat.le_of_eq rfl) (hb hby at_204) (fun _ _ => ⟨rfl, rfl, (by decide : 7 + 0 ≤ _), (by decide : 35 + 0 ≤ _)⟩)
  dsimp only [Pt.U, Pt.locs, Pt.cells, Pt.slots] at X257 l257 y257 z257 st257 hQ257
  subst l257 y257 z257
  obtain ⟨rfl, N257q, e257⟩ := hQ257
  have N257 := Fr.app N255 N257q
  refine own_goT st257 ?_
  show own_Run p e below _ T257 (mkF m 207 #[.val (.int p1), .val (.long q2), .second, .val (.int p3), .val (.long q4), .second, .val (.int p5), .val (.int x7), .val (.ref o8), .val (.ref o9), .val (.ref o10), .val (.ref o11), .val (.ref mk), .val (.int (1 : Int32)), .val (.int p3), .val (.long q4), .second, .val (.int p3), .val (.long q4), .second] [(.int (2 : Int32))])
  refine own_go (fun _ k => XS.iload X257.here hx rfl (hb hby at_207) rfl k) ?_
  refine own_go (fun _ k => XS.iconst X257.here hx rfl (hb hby at_209) k) ?_
  refine own_go (fun _ k => XS.iadd X257.here hx rfl (hb hby at_210) rfl k) ?_
  show own_Run p e below _ T257 (mkF m 211 #[.val (.int p1), .val (.long q2), .second, .val (.int p3), .val (.long q4), .second, .val (.int p5), .val (.int x7), .val (.ref o8), .val (.ref o9), .val (.ref o10), .val (.ref o11), .val (.ref mk), .val (.int (1 : Int32)), .val (.int p3), .val (.long q4), .second, .val (.int p3), .val (.long q4), .second] [(.int ((1 : Int32) + (1 : Int32))), (.int (2 : Int32))])
  rw [show ((1 : Int32) + (1 : Int32)) = (2 : Int32) by decide]
  show own_Run p e below _ T257 (mkF m 211 #[.val (.int p1), .val (.long q2), .second, .val (.int p3), .val (.long q4), .second, .val (.int p5), .val (.int x7), .val (.ref o8), .val (.ref o9), .val (.ref o10), .val (.ref o11), .val (.ref mk), .val (.int (1 : Int32)), .val (.int p3), .val (.long q4), .second, .val (.int p3), .val (.long q4), .second] [(.int (2 : Int32)), (.int (2 : Int32))])
  refine own_go (fun _ k => XS.icmpNo X257.here hx rfl (hb hby at_211) rfl (teq (by decide : (2 : Int32) = (2 : Int32))).2 k) ?_
  show own_Run p e below _ T257 (mkF m 214 #[.val (.int p1), .val (.long q2), .second, .val (.int p3), .val (.long q4), .second, .val (.int p5), .val (.int x7), .val (.ref o8), .val (.ref o9), .val (.ref o10), .val (.ref o11), .val (.ref mk), .val (.int (1 : Int32)), .val (.int p3), .val (.long q4), .second, .val (.int p3), .val (.long q4), .second] [])
  refine own_go (fun _ k => XS.aload X257.here hx rfl (hb hby at_214) rfl rfl k) ?_
  refine own_go (fun _ k => XS.iload X257.here hx rfl (hb hby at_216) rfl k) ?_
  show own_Run p e below _ T257 (mkF m 218 #[.val (.int p1), .val (.long q2), .second, .val (.int p3), .val (.long q4), .second, .val (.int p5), .val (.int x7), .val (.ref o8), .val (.ref o9), .val (.ref o10), .val (.ref o11), .val (.ref mk), .val (.int (1 : Int32)), .val (.int p3), .val (.long q4), .second, .val (.int p3), .val (.long q4), .second] [(.int (1 : Int32)), (.ref mk)])
  obtain ⟨cq258, kq258, q258a, q258b, q258c⟩ := isOf hZ e257 P255_0
  obtain ⟨_, _, ⟨T258, L258, k258, n258⟩, -, X258, ⟨Lc258, hQ258, l258, y258, z258⟩, st258⟩ := X257.virtualBack hx (y := (⟨"com/example/net_reducer/netreducer/analysis/Marking", "place", "(I)I"⟩ : MethodName)) (z := (⟨"com/example/net_reducer/netreducer/analysis/Marking", "place", "(I)I"⟩ : MethodName)) hown (mvT hZ (W 34 rfl)) (mvT hZ (W 35 rfl)) (notFace_of_selects (args := #[]) (mvT hZ (W 37 rfl))) (mvT hZ (W 37 rfl)) (mvT hZ (W 36 rfl)) (by decide) (backOf (W := 0) (rm5 l Z a0 hw [] mk (1 : Int32) b1 k1 (8 : Int32) [(.int p3), (.int p1), (.int (0 : Int32)), (.int (0 : Int32)), (.int (0 : Int32)), (.int (0 : Int32)), (.int (0 : Int32)), (.int (0 : Int32))] (.int (0 : Int32)) p1 T255.heap n0 Z0_c256 P255_1 P255_4 (⟨by decide, by decide⟩) (rfl)) hZ (W 38 rfl) (W 11 rfl) (by decide) (by decide)) q258a q258c (g := (mkF m 218 #[.val (.int p1), .val (.long q2), .second, .val (.int p3), .val (.long q4), .second, .val (.int p5), .val (.int x7), .val (.ref o8), .val (.ref o9), .val (.ref o10), .val (.ref o11), .val (.ref mk), .val (.int (1 : Int32)), .val (.int p3), .val (.long q4), .second, .val (.int p3), .val (.long q4), .second] [(.int (1 : Int32)), (.ref mk)])) rfl (by rw [hml]; rfl) (Steps.refl _) (argsL := [(.int (1 : Int32))]) (rest := []) (lenOf pd_8 rfl) rfl (by show 2 * 0 + _ ≤ _; exact Nat.le_of_eq rfl) (hb hby at_218) (fun _ _ => ⟨rfl, e257, (by decide : 7 + 0 ≤ _), (by decide : 35 + 0 ≤ _)⟩)
  dsimp only [Pt.U, Pt.locs, Pt.cells, Pt.slots] at X258 l258 y258 z258 st258 hQ258
  subst l258 y258 z258
  obtain ⟨rfl, N258q, e258⟩ := hQ258
  have N258 := Fr.app N257 N258q
  refine own_goT st258 ?_
  show own_Run p e below _ T258 (mkF m 221 #[.val (.int p1), .val (.long q2), .second, .val (.int p3), .val (.long q4), .second, .val (.int p5), .val (.int x7), .val (.ref o8), .val (.ref o9), .val (.ref o10), .val (.ref o11), .val (.ref mk), .val (.int (1 : Int32)), .val (.int p3), .val (.long q4), .second, .val (.int p3), .val (.long q4), .second] [(.int p1)])
  refine own_go (fun _ k => XS.iloadN X258.here hx rfl (hb hby at_221) rfl k) ?_
  show own_Run p e below _ T258 (mkF m 222 #[.val (.int p1), .val (.long q2), .second, .val (.int p3), .val (.long q4), .second, .val (.int p5), .val (.int x7), .val (.ref o8), .val (.ref o9), .val (.ref o10), .val (.ref o11), .val (.ref mk), .val (.int (1 : Int32)), .val (.int p3), .val (.long q4), .second, .val (.int p3), .val (.long q4), .second] [(.int p1), (.int p1)])
  refine own_go (fun _ k => XS.icmpNo X258.here hx rfl (hb hby at_222) rfl (teq rfl).2 k) ?_
  show own_Run p e below _ T258 (mkF m 225 #[.val (.int p1), .val (.long q2), .second, .val (.int p3), .val (.long q4), .second, .val (.int p5), .val (.int x7), .val (.ref o8), .val (.ref o9), .val (.ref o10), .val (.ref o11), .val (.ref mk), .val (.int (1 : Int32)), .val (.int p3), .val (.long q4), .second, .val (.int p3), .val (.long q4), .second] [])
  refine own_go (fun _ k => XS.aload X258.here hx rfl (hb hby at_225) rfl rfl k) ?_
  refine own_go (fun _ k => XS.iload X258.here hx rfl (hb hby at_227) rfl k) ?_
  show own_Run p e below _ T258 (mkF m 229 #[.val (.int p1), .val (.long q2), .second, .val (.int p3), .val (.long q4), .second, .val (.int p5), .val (.int x7), .val (.ref o8), .val (.ref o9), .val (.ref o10), .val (.ref o11), .val (.ref mk), .val (.int (1 : Int32)), .val (.int p3), .val (.long q4), .second, .val (.int p3), .val (.long q4), .second] [(.int (1 : Int32)), (.ref mk)])
  obtain ⟨cq259, kq259, q259a, q259b, q259c⟩ := isOf hZ e258 P255_0
  obtain ⟨_, _, ⟨T259, L259, k259, n259⟩, -, X259, ⟨Lc259, hQ259, l259, y259, z259⟩, st259⟩ := X258.virtualBack hx (y := (⟨"com/example/net_reducer/netreducer/analysis/Marking", "tokens", "(I)J"⟩ : MethodName)) (z := (⟨"com/example/net_reducer/netreducer/analysis/Marking", "tokens", "(I)J"⟩ : MethodName)) hown (mvT hZ (W 39 rfl)) (mvT hZ (W 40 rfl)) (notFace_of_selects (args := #[]) (mvT hZ (W 42 rfl))) (mvT hZ (W 42 rfl)) (mvT hZ (W 41 rfl)) (by decide) (backOf (W := 0) (rm6 l Z a0 hw [] mk (1 : Int32) b2 k2 (8 : Int32) [(.long q4), (.long q2), (.long (0 : Int64)), (.long (0 : Int64)), (.long (0 : Int64)), (.long (0 : Int64)), (.long (0 : Int64)), (.long (0 : Int64))] (.long (0 : Int64)) q2 T255.heap n0 Z0_c256 P255_2 P255_5 (⟨by decide, by decide⟩) (rfl)) hZ (W 43 rfl) (W 11 rfl) (by decide) (by decide)) q259a q259c (g := (mkF m 229 #[.val (.int p1), .val (.long q2), .second, .val (.int p3), .val (.long q4), .second, .val (.int p5), .val (.int x7), .val (.ref o8), .val (.ref o9), .val (.ref o10), .val (.ref o11), .val (.ref mk), .val (.int (1 : Int32)), .val (.int p3), .val (.long q4), .second, .val (.int p3), .val (.long q4), .second] [(.int (1 : Int32)), (.ref mk)])) rfl (by rw [hml]; rfl) (Steps.refl _) (argsL := [(.int (1 : Int32))]) (rest := []) (lenOf pd_9 rfl) rfl (by show 2 * 0 + _ ≤ _; exact Nat.le_of_eq rfl) (hb hby at_229) (fun _ _ => ⟨rfl, e258, (by decide : 7 + 0 ≤ _), (by decide : 35 + 0 ≤ _)⟩)
  dsimp only [Pt.U, Pt.locs, Pt.cells, Pt.slots] at X259 l259 y259 z259 st259 hQ259
  subst l259 y259 z259
  obtain ⟨rfl, N259q, e259⟩ := hQ259
  have N259 := Fr.app N258 N259q
  refine own_goT st259 ?_
  show own_Run p e below _ T259 (mkF m 232 #[.val (.int p1), .val (.long q2), .second, .val (.int p3), .val (.long q4), .second, .val (.int p5), .val (.int x7), .val (.ref o8), .val (.ref o9), .val (.ref o10), .val (.ref o11), .val (.ref mk), .val (.int (1 : Int32)), .val (.int p3), .val (.long q4), .second, .val (.int p3), .val (.long q4), .second] [(.long q2)])
  refine own_go (fun _ k => XS.lloadN X259.here hx rfl (hb hby at_232) rfl k) ?_
  refine own_go (fun _ k => XS.lcmp X259.here hx rfl (hb hby at_233) rfl k) ?_
  show own_Run p e below _ T259 (mkF m 234 #[.val (.int p1), .val (.long q2), .second, .val (.int p3), .val (.long q4), .second, .val (.int p5), .val (.int x7), .val (.ref o8), .val (.ref o9), .val (.ref o10), .val (.ref o11), .val (.ref mk), .val (.int (1 : Int32)), .val (.int p3), .val (.long q4), .second, .val (.int p3), .val (.long q4), .second] [(.int (lcmpW q2 q2))])
  refine own_go (fun _ k => XS.ifNo X259.here hx rfl (hb hby at_234) rfl (own_lcTe rfl).2 k) ?_
  show own_Run p e below _ T259 (mkF m 237 #[.val (.int p1), .val (.long q2), .second, .val (.int p3), .val (.long q4), .second, .val (.int p5), .val (.int x7), .val (.ref o8), .val (.ref o9), .val (.ref o10), .val (.ref o11), .val (.ref mk), .val (.int (1 : Int32)), .val (.int p3), .val (.long q4), .second, .val (.int p3), .val (.long q4), .second] [])
  refine own_go (fun _ k => XS.aload X259.here hx rfl (hb hby at_237) rfl rfl k) ?_
  refine own_go (fun _ k => XS.iconst X259.here hx rfl (hb hby at_239) k) ?_
  show own_Run p e below _ T259 (mkF m 240 #[.val (.int p1), .val (.long q2), .second, .val (.int p3), .val (.long q4), .second, .val (.int p5), .val (.int x7), .val (.ref o8), .val (.ref o9), .val (.ref o10), .val (.ref o11), .val (.ref mk), .val (.int (1 : Int32)), .val (.int p3), .val (.long q4), .second, .val (.int p3), .val (.long q4), .second] [(.int (0 : Int32)), (.ref mk)])
  obtain ⟨cq260, kq260, q260a, q260b, q260c⟩ := isOf hZ e259 P255_0
  obtain ⟨_, _, ⟨T260, L260, k260, n260⟩, -, X260, ⟨Lc260, hQ260, l260, y260, z260⟩, st260⟩ := X259.virtualBack hx (y := (⟨"com/example/net_reducer/netreducer/analysis/Marking", "place", "(I)I"⟩ : MethodName)) (z := (⟨"com/example/net_reducer/netreducer/analysis/Marking", "place", "(I)I"⟩ : MethodName)) hown (mvT hZ (W 34 rfl)) (mvT hZ (W 35 rfl)) (notFace_of_selects (args := #[]) (mvT hZ (W 37 rfl))) (mvT hZ (W 37 rfl)) (mvT hZ (W 36 rfl)) (by decide) (backOf (W := 0) (rm5 l Z a0 hw [] mk (0 : Int32) b1 k1 (8 : Int32) [(.int p3), (.int p1), (.int (0 : Int32)), (.int (0 : Int32)), (.int (0 : Int32)), (.int (0 : Int32)), (.int (0 : Int32)), (.int (0 : Int32))] (.int (0 : Int32)) p3 T255.heap n0 Z0_c256 P255_1 P255_4 (⟨by decide, by decide⟩) (rfl)) hZ (W 38 rfl) (W 11 rfl) (by decide) (by decide)) q260a q260c (g := (mkF m 240 #[.val (.int p1), .val (.long q2), .second, .val (.int p3), .val (.long q4), .second, .val (.int p5), .val (.int x7), .val (.ref o8), .val (.ref o9), .val (.ref o10), .val (.ref o11), .val (.ref mk), .val (.int (1 : Int32)), .val (.int p3), .val (.long q4), .second, .val (.int p3), .val (.long q4), .second] [(.int (0 : Int32)), (.ref mk)])) rfl (by rw [hml]; rfl) (Steps.refl _) (argsL := [(.int (0 : Int32))]) (rest := []) (lenOf pd_8 rfl) rfl (by show 2 * 0 + _ ≤ _; exact Nat.le_of_eq rfl) (hb hby at_240) (fun _ _ => ⟨rfl, e259, (by decide : 7 + 0 ≤ _), (by decide : 35 + 0 ≤ _)⟩)
  dsimp only [Pt.U, Pt.locs, Pt.cells, Pt.slots] at X260 l260 y260 z260 st260 hQ260
  subst l260 y260 z260
  obtain ⟨rfl, N260q, e260⟩ := hQ260
  have N260 := Fr.app N259 N260q
  refine own_goT st260 ?_
  show own_Run p e below _ T260 (mkF m 243 #[.val (.int p1), .val (.long q2), .second, .val (.int p3), .val (.long q4), .second, .val (.int p5), .val (.int x7), .val (.ref o8), .val (.ref o9), .val (.ref o10), .val (.ref o11), .val (.ref mk), .val (.int (1 : Int32)), .val (.int p3), .val (.long q4), .second, .val (.int p3), .val (.long q4), .second] [(.int p3)])
  refine own_go (fun _ k => XS.iload X260.here hx rfl (hb hby at_243) rfl k) ?_
  show own_Run p e below _ T260 (mkF m 245 #[.val (.int p1), .val (.long q2), .second, .val (.int p3), .val (.long q4), .second, .val (.int p5), .val (.int x7), .val (.ref o8), .val (.ref o9), .val (.ref o10), .val (.ref o11), .val (.ref mk), .val (.int (1 : Int32)), .val (.int p3), .val (.long q4), .second, .val (.int p3), .val (.long q4), .second] [(.int p3), (.int p3)])
  refine own_go (fun _ k => XS.icmpNo X260.here hx rfl (hb hby at_245) rfl (teq rfl).2 k) ?_
  show own_Run p e below _ T260 (mkF m 248 #[.val (.int p1), .val (.long q2), .second, .val (.int p3), .val (.long q4), .second, .val (.int p5), .val (.int x7), .val (.ref o8), .val (.ref o9), .val (.ref o10), .val (.ref o11), .val (.ref mk), .val (.int (1 : Int32)), .val (.int p3), .val (.long q4), .second, .val (.int p3), .val (.long q4), .second] [])
  refine own_go (fun _ k => XS.aload X260.here hx rfl (hb hby at_248) rfl rfl k) ?_
  refine own_go (fun _ k => XS.iconst X260.here hx rfl (hb hby at_250) k) ?_
  show own_Run p e below _ T260 (mkF m 251 #[.val (.int p1), .val (.long q2), .second, .val (.int p3), .val (.long q4), .second, .val (.int p5), .val (.int x7), .val (.ref o8), .val (.ref o9), .val (.ref o10), .val (.ref o11), .val (.ref mk), .val (.int (1 : Int32)), .val (.int p3), .val (.long q4), .second, .val (.int p3), .val (.long q4), .second] [(.int (0 : Int32)), (.ref mk)])
  obtain ⟨cq261, kq261, q261a, q261b, q261c⟩ := isOf hZ e260 P255_0
  obtain ⟨_, _, ⟨T261, L261, k261, n261⟩, -, X261, ⟨Lc261, hQ261, l261, y261, z261⟩, st261⟩ := X260.virtualBack hx (y := (⟨"com/example/net_reducer/netreducer/analysis/Marking", "tokens", "(I)J"⟩ : MethodName)) (z := (⟨"com/example/net_reducer/netreducer/analysis/Marking", "tokens", "(I)J"⟩ : MethodName)) hown (mvT hZ (W 39 rfl)) (mvT hZ (W 40 rfl)) (notFace_of_selects (args := #[]) (mvT hZ (W 42 rfl))) (mvT hZ (W 42 rfl)) (mvT hZ (W 41 rfl)) (by decide) (backOf (W := 0) (rm6 l Z a0 hw [] mk (0 : Int32) b2 k2 (8 : Int32) [(.long q4), (.long q2), (.long (0 : Int64)), (.long (0 : Int64)), (.long (0 : Int64)), (.long (0 : Int64)), (.long (0 : Int64)), (.long (0 : Int64))] (.long (0 : Int64)) q4 T255.heap n0 Z0_c256 P255_2 P255_5 (⟨by decide, by decide⟩) (rfl)) hZ (W 43 rfl) (W 11 rfl) (by decide) (by decide)) q261a q261c (g := (mkF m 251 #[.val (.int p1), .val (.long q2), .second, .val (.int p3), .val (.long q4), .second, .val (.int p5), .val (.int x7), .val (.ref o8), .val (.ref o9), .val (.ref o10), .val (.ref o11), .val (.ref mk), .val (.int (1 : Int32)), .val (.int p3), .val (.long q4), .second, .val (.int p3), .val (.long q4), .second] [(.int (0 : Int32)), (.ref mk)])) rfl (by rw [hml]; rfl) (Steps.refl _) (argsL := [(.int (0 : Int32))]) (rest := []) (lenOf pd_9 rfl) rfl (by show 2 * 0 + _ ≤ _; exact Nat.le_of_eq rfl) (hb hby at_251) (fun _ _ => ⟨rfl, e260, (by decide : 7 + 0 ≤ _), (by decide : 35 + 0 ≤ _)⟩)
  dsimp only [Pt.U, Pt.locs, Pt.cells, Pt.slots] at X261 l261 y261 z261 st261 hQ261
  subst l261 y261 z261
  obtain ⟨rfl, N261q, e261⟩ := hQ261
  have N261 := Fr.app N260 N261q
  refine own_goT st261 ?_
  show own_Run p e below _ T261 (mkF m 254 #[.val (.int p1), .val (.long q2), .second, .val (.int p3), .val (.long q4), .second, .val (.int p5), .val (.int x7), .val (.ref o8), .val (.ref o9), .val (.ref o10), .val (.ref o11), .val (.ref mk), .val (.int (1 : Int32)), .val (.int p3), .val (.long q4), .second, .val (.int p3), .val (.long q4), .second] [(.long q4)])
  refine own_go (fun _ k => XS.lload X261.here hx rfl (hb hby at_254) rfl k) ?_
  refine own_go (fun _ k => XS.lcmp X261.here hx rfl (hb hby at_256) rfl k) ?_
  show own_Run p e below _ T261 (mkF m 257 #[.val (.int p1), .val (.long q2), .second, .val (.int p3), .val (.long q4), .second, .val (.int p5), .val (.int x7), .val (.ref o8), .val (.ref o9), .val (.ref o10), .val (.ref o11), .val (.ref mk), .val (.int (1 : Int32)), .val (.int p3), .val (.long q4), .second, .val (.int p3), .val (.long q4), .second] [(.int (lcmpW q4 q4))])
  refine own_go (fun _ k => XS.ifNo X261.here hx rfl (hb hby at_257) rfl (own_lcTe rfl).2 k) ?_
  show own_Run p e below _ T261 (mkF m 260 #[.val (.int p1), .val (.long q2), .second, .val (.int p3), .val (.long q4), .second, .val (.int p5), .val (.int x7), .val (.ref o8), .val (.ref o9), .val (.ref o10), .val (.ref o11), .val (.ref mk), .val (.int (1 : Int32)), .val (.int p3), .val (.long q4), .second, .val (.int p3), .val (.long q4), .second] [])
  refine own_go (fun _ k => XS.aload X261.here hx rfl (hb hby at_260) rfl rfl k) ?_
  refine own_go (fun _ k => XS.iload X261.here hx rfl (hb hby at_262) rfl k) ?_
  refine own_go (fun _ k => XS.iconst X261.here hx rfl (hb hby at_264) k) ?_
  refine own_go (fun _ k => XS.isub X261.here hx rfl (hb hby at_265) rfl k) ?_
  show own_Run p e below _ T261 (mkF m 266 #[.val (.int p1), .val (.long q2), .second, .val (.int p3), .val (.long q4), .second, .val (.int p5), .val (.int x7), .val (.ref o8), .val (.ref o9), .val (.ref o10), .val (.ref o11), .val (.ref mk), .val (.int (1 : Int32)), .val (.int p3), .val (.long q4), .second, .val (.int p3), .val (.long q4), .second] [(.int ((1 : Int32) - (1 : Int32))), (.ref mk)])
  rw [show ((1 : Int32) - (1 : Int32)) = (0 : Int32) by decide]
  show own_Run p e below _ T261 (mkF m 266 #[.val (.int p1), .val (.long q2), .second, .val (.int p3), .val (.long q4), .second, .val (.int p5), .val (.int x7), .val (.ref o8), .val (.ref o9), .val (.ref o10), .val (.ref o11), .val (.ref mk), .val (.int (1 : Int32)), .val (.int p3), .val (.long q4), .second, .val (.int p3), .val (.long q4), .second] [(.int (0 : Int32)), (.ref mk)])
  obtain ⟨cq262, kq262, q262a, q262b, q262c⟩ := isOf hZ e261 P255_0
  obtain ⟨_, _, ⟨T262, L262, k262, n262⟩, -, X262, ⟨Lc262, hQ262, l262, y262, z262⟩, st262⟩ := X261.virtualBack hx (y := (⟨"com/example/net_reducer/netreducer/analysis/Marking", "place", "(I)I"⟩ : MethodName)) (z := (⟨"com/example/net_reducer/netreducer/analysis/Marking", "place", "(I)I"⟩ : MethodName)) hown (mvT hZ (W 34 rfl)) (mvT hZ (W 35 rfl)) (notFace_of_selects (args := #[]) (mvT hZ (W 37 rfl))) (mvT hZ (W 37 rfl)) (mvT hZ (W 36 rfl)) (by decide) (backOf (W := 0) (rm5 l Z a0 hw [] mk (0 : Int32) b1 k1 (8 : Int32) [(.int p3), (.int p1), (.int (0 : Int32)), (.int (0 : Int32)), (.int (0 : Int32)), (.int (0 : Int32)), (.int (0 : Int32)), (.int (0 : Int32))] (.int (0 : Int32)) p3 T255.heap n0 Z0_c256 P255_1 P255_4 (⟨by decide, by decide⟩) (rfl)) hZ (W 38 rfl) (W 11 rfl) (by decide) (by decide)) q262a q262c (g := (mkF m 266 #[.val (.int p1), .val (.long q2), .second, .val (.int p3), .val (.long q4), .second, .val (.int p5), .val (.int x7), .val (.ref o8), .val (.ref o9), .val (.ref o10), .val (.ref o11), .val (.ref mk), .val (.int (1 : Int32)), .val (.int p3), .val (.long q4), .second, .val (.int p3), .val (.long q4), .second] [(.int (0 : Int32)), (.ref mk)])) rfl (by rw [hml]; rfl) (Steps.refl _) (argsL := [(.int (0 : Int32))]) (rest := []) (lenOf pd_8 rfl) rfl (by show 2 * 0 + _ ≤ _; exact Nat.le_of_eq rfl) (hb hby at_266) (fun _ _ => ⟨rfl, e261, (by decide : 7 + 0 ≤ _), (by decide : 35 + 0 ≤ _)⟩)
  dsimp only [Pt.U, Pt.locs, Pt.cells, Pt.slots] at X262 l262 y262 z262 st262 hQ262
  subst l262 y262 z262
  obtain ⟨rfl, N262q, e262⟩ := hQ262
  have N262 := Fr.app N261 N262q
  refine own_goT st262 ?_
  show own_Run p e below _ T262 (mkF m 269 #[.val (.int p1), .val (.long q2), .second, .val (.int p3), .val (.long q4), .second, .val (.int p5), .val (.int x7), .val (.ref o8), .val (.ref o9), .val (.ref o10), .val (.ref o11), .val (.ref mk), .val (.int (1 : Int32)), .val (.int p3), .val (.long q4), .second, .val (.int p3), .val (.long q4), .second] [(.int p3)])
  refine own_go (fun _ k => XS.iload X262.here hx rfl (hb hby at_269) rfl k) ?_
  show own_Run p e below _ T262 (mkF m 271 #[.val (.int p1), .val (.long q2), .second, .val (.int p3), .val (.long q4), .second, .val (.int p5), .val (.int x7), .val (.ref o8), .val (.ref o9), .val (.ref o10), .val (.ref o11), .val (.ref mk), .val (.int (1 : Int32)), .val (.int p3), .val (.long q4), .second, .val (.int p3), .val (.long q4), .second] [(.int p3), (.int p3)])
  refine own_go (fun _ k => XS.icmpNo X262.here hx rfl (hb hby at_271) rfl (teq rfl).2 k) ?_
  show own_Run p e below _ T262 (mkF m 274 #[.val (.int p1), .val (.long q2), .second, .val (.int p3), .val (.long q4), .second, .val (.int p5), .val (.int x7), .val (.ref o8), .val (.ref o9), .val (.ref o10), .val (.ref o11), .val (.ref mk), .val (.int (1 : Int32)), .val (.int p3), .val (.long q4), .second, .val (.int p3), .val (.long q4), .second] [])
  refine own_go (fun _ k => XS.aload X262.here hx rfl (hb hby at_274) rfl rfl k) ?_
  refine own_go (fun _ k => XS.iload X262.here hx rfl (hb hby at_276) rfl k) ?_
  refine own_go (fun _ k => XS.iconst X262.here hx rfl (hb hby at_278) k) ?_
  refine own_go (fun _ k => XS.isub X262.here hx rfl (hb hby at_279) rfl k) ?_
  show own_Run p e below _ T262 (mkF m 280 #[.val (.int p1), .val (.long q2), .second, .val (.int p3), .val (.long q4), .second, .val (.int p5), .val (.int x7), .val (.ref o8), .val (.ref o9), .val (.ref o10), .val (.ref o11), .val (.ref mk), .val (.int (1 : Int32)), .val (.int p3), .val (.long q4), .second, .val (.int p3), .val (.long q4), .second] [(.int ((1 : Int32) - (1 : Int32))), (.ref mk)])
  rw [show ((1 : Int32) - (1 : Int32)) = (0 : Int32) by decide]
  show own_Run p e below _ T262 (mkF m 280 #[.val (.int p1), .val (.long q2), .second, .val (.int p3), .val (.long q4), .second, .val (.int p5), .val (.int x7), .val (.ref o8), .val (.ref o9), .val (.ref o10), .val (.ref o11), .val (.ref mk), .val (.int (1 : Int32)), .val (.int p3), .val (.long q4), .second, .val (.int p3), .val (.long q4), .second] [(.int (0 : Int32)), (.ref mk)])
  obtain ⟨cq263, kq263, q263a, q263b, q263c⟩ := isOf hZ e262 P255_0
  obtain ⟨_, _, ⟨T263, L263, k263, n263⟩, -, X263, ⟨Lc263, hQ263, l263, y263, z263⟩, st263⟩ := X262.virtualBack hx (y := (⟨"com/example/net_reducer/netreducer/analysis/Marking", "tokens", "(I)J"⟩ : MethodName)) (z := (⟨"com/example/net_reducer/netreducer/analysis/Marking", "tokens", "(I)J"⟩ : MethodName)) hown (mvT hZ (W 39 rfl)) (mvT hZ (W 40 rfl)) (notFace_of_selects (args := #[]) (mvT hZ (W 42 rfl))) (mvT hZ (W 42 rfl)) (mvT hZ (W 41 rfl)) (by decide) (backOf (W := 0) (rm6 l Z a0 hw [] mk (0 : Int32) b2 k2 (8 : Int32) [(.long q4), (.long q2), (.long (0 : Int64)), (.long (0 : Int64)), (.long (0 : Int64)), (.long (0 : Int64)), (.long (0 : Int64)), (.long (0 : Int64))] (.long (0 : Int64)) q4 T255.heap n0 Z0_c256 P255_2 P255_5 (⟨by decide, by decide⟩) (rfl)) hZ (W 43 rfl) (W 11 rfl) (by decide) (by decide)) q263a q263c (g := (mkF m 280 #[.val (.int p1), .val (.long q2), .second, .val (.int p3), .val (.long q4), .second, .val (.int p5), .val (.int x7), .val (.ref o8), .val (.ref o9), .val (.ref o10), .val (.ref o11), .val (.ref mk), .val (.int (1 : Int32)), .val (.int p3), .val (.long q4), .second, .val (.int p3), .val (.long q4), .second] [(.int (0 : Int32)), (.ref mk)])) rfl (by rw [hml]; rfl) (Steps.refl _) (argsL := [(.int (0 : Int32))]) (rest := []) (lenOf pd_9 rfl) rfl (by show 2 * 0 + _ ≤ _; exact Nat.le_of_eq rfl) (hb hby at_280) (fun _ _ => ⟨rfl, e262, (by decide : 7 + 0 ≤ _), (by decide : 35 + 0 ≤ _)⟩)
  dsimp only [Pt.U, Pt.locs, Pt.cells, Pt.slots] at X263 l263 y263 z263 st263 hQ263
  subst l263 y263 z263
  obtain ⟨rfl, N263q, e263⟩ := hQ263
  have N263 := Fr.app N262 N263q
  refine own_goT st263 ?_
  show own_Run p e below _ T263 (mkF m 283 #[.val (.int p1), .val (.long q2), .second, .val (.int p3), .val (.long q4), .second, .val (.int p5), .val (.int x7), .val (.ref o8), .val (.ref o9), .val (.ref o10), .val (.ref o11), .val (.ref mk), .val (.int (1 : Int32)), .val (.int p3), .val (.long q4), .second, .val (.int p3), .val (.long q4), .second] [(.long q4)])
  refine own_go (fun _ k => XS.lload X263.here hx rfl (hb hby at_283) rfl k) ?_
  refine own_go (fun _ k => XS.lcmp X263.here hx rfl (hb hby at_285) rfl k) ?_
  show own_Run p e below _ T263 (mkF m 286 #[.val (.int p1), .val (.long q2), .second, .val (.int p3), .val (.long q4), .second, .val (.int p5), .val (.int x7), .val (.ref o8), .val (.ref o9), .val (.ref o10), .val (.ref o11), .val (.ref mk), .val (.int (1 : Int32)), .val (.int p3), .val (.long q4), .second, .val (.int p3), .val (.long q4), .second] [(.int (lcmpW q4 q4))])
  refine own_go (fun _ k => XS.ifNo X263.here hx rfl (hb hby at_286) rfl (own_lcTe rfl).2 k) ?_
  show own_Run p e below _ T263 (mkF m 289 #[.val (.int p1), .val (.long q2), .second, .val (.int p3), .val (.long q4), .second, .val (.int p5), .val (.int x7), .val (.ref o8), .val (.ref o9), .val (.ref o10), .val (.ref o11), .val (.ref mk), .val (.int (1 : Int32)), .val (.int p3), .val (.long q4), .second, .val (.int p3), .val (.long q4), .second] [])
  refine own_go (fun _ k => XS.iconst X263.here hx rfl (hb hby at_289) k) ?_
  refine own_go (fun _ k => XS.goto X263.here hx rfl (pc0 := 290) (pc' := 294) rfl (hb hby at_290) (by decide) (by decide) k) ?_
  show own_Run p e below _ T263 (mkF m 294 #[.val (.int p1), .val (.long q2), .second, .val (.int p3), .val (.long q4), .second, .val (.int p5), .val (.int x7), .val (.ref o8), .val (.ref o9), .val (.ref o10), .val (.ref o11), .val (.ref mk), .val (.int (1 : Int32)), .val (.int p3), .val (.long q4), .second, .val (.int p3), .val (.long q4), .second] [(.int (1 : Int32))])
  refine own_done (Q := fun v h L => Q0 Z p1 q2 p3 q4 p5 h0 n0 v h L) (v := (some (.int (1 : Int32)))) X263 (fun h => by rw [hret] at h; cases h) hlk (fun fs hr => retN X263 hx (t := .boolean) hret (by simp) (hb hby at_294) hr) ?_ (by decide) (by decide)
  show Q0 Z p1 q2 p3 q4 p5 h0 n0 _ T263.heap _
  rw [e263]
  exact ⟨rfl, N263⟩
theorem pd_10 : parseMethodDescriptor "([I[JI[I[JLcom/example/net_reducer/netreducer/analysis/Marking;)V" = some ⟨[(.array .int), (.array .long), .int, (.array .int), (.array .long), (.object "com/example/net_reducer/netreducer/analysis/Marking")], none⟩ := by decide +kernel
set_option maxRecDepth 65536 in
set_option maxHeartbeats 40000000 in
theorem seg110 {p : Program} {l : Launch} {e : Env} {s : State} {m : MethodId} {args : Array Value} {below : List Frame} {meth : Method} {c : Code} {Z : State} {a0 : Array Value} (p1 : Int32) (q2 : Int64) (p3 : Int32) (q4 : Int64) (p5 : Int32) (h0 : Heap) (n0 : Nat) (hx : p.tables.exec = Jvm.exec) (hZ : Z.Warmed39 s.vm) (hw : ∀ d ∈ tables_1, d.before a0 Z = true) (hby : c.code = code) (hml : c.maxLocals = 20) (hown : s.vm.findClass "com/example/net_reducer/netreducer/analysis/MarkingAddPinLaw" = some m.cls) (hnm : meth.name = "law") (hret : meth.sig.returnType = some .boolean) (hlk : meth.locks = false)
    (x7 : Int32) (o8 : Addr) (k8 : ClassId) (o9 : Addr) (k9 : ClassId) (T0 : State) (hh : Heap) (locs : List Loc) (X0 : Stand p l e room_1 s m args below meth c T0 locs 2 16) (e0 : T0.heap = hh) (N0 : Fr n0 locs) (Z0 : n0 ≤ hh.size) (K0 : Keep h0 hh []) (V_o8 : Arv Z hh o8 k8 .int (8 : Int32) [(.int (0 : Int32)), (.int (1 : Int32)), (.int (2 : Int32)), (.int (3 : Int32)), (.int (4 : Int32)), (.int (5 : Int32)), (.int (6 : Int32)), (.int (7 : Int32))] (.int (0 : Int32))) (V_o9 : Arv Z hh o9 k9 .long (8 : Int32) [(.long (1 : Int64)), (.long (2 : Int64)), (.long (3 : Int64)), (.long (4 : Int64)), (.long (5 : Int64)), (.long (6 : Int64)), (.long (7 : Int64)), (.long (8 : Int64))] (.long (0 : Int64))) (hx7 : x7 = (0 : Int32) ∨ x7 = (1 : Int32)) (g_o8 : n0 ≤ o8) (g_o9 : n0 ≤ o9) (sz_o8 : h0.size ≤ o8) (sz_o9 : h0.size ≤ o9) (ne_o8_o9 : o8 ≠ o9) :
    own_Run p e below (fun o U' => ∃ v L, o = .returned v ∧ Q0 Z p1 q2 p3 q4 p5 h0 n0 v U'.heap L ∧ FrameEnd s o U' L room_1.cells room_1.slots) T0 (mkF m 110 #[.val (.int p1), .val (.long q2), .second, .val (.int p3), .val (.long q4), .second, .val (.int p5), .val (.int x7), .val (.ref o8), .val (.ref o9), .unset, .unset, .unset, .unset, .unset, .unset, .unset, .unset, .unset, .unset] []) := by
  have W := fun (k : Nat) {d : Jvm.Cond} (h : tables_1[k]? = some d) => hw d (List.mem_of_getElem? h)
  show own_Run p e below _ T0 (mkF m 110 #[.val (.int p1), .val (.long q2), .second, .val (.int p3), .val (.long q4), .second, .val (.int p5), .val (.int x7), .val (.ref o8), .val (.ref o9), .unset, .unset, .unset, .unset, .unset, .unset, .unset, .unset, .unset, .unset] [])
  refine own_go (fun _ k => XS.iconst X0.here hx rfl (hb hby at_110) k) ?_
  show own_Run p e below _ T0 (mkF m 111 #[.val (.int p1), .val (.long q2), .second, .val (.int p3), .val (.long q4), .second, .val (.int p5), .val (.int x7), .val (.ref o8), .val (.ref o9), .unset, .unset, .unset, .unset, .unset, .unset, .unset, .unset, .unset, .unset] [(.int (0 : Int32))])
  obtain ⟨T264, h264, k264, X264, e264, E264, A264, st264⟩ := newP X0 hx hZ (W 0 rfl) e0 (g := (mkF m 111 #[.val (.int p1), .val (.long q2), .second, .val (.int p3), .val (.long q4), .second, .val (.int p5), .val (.int x7), .val (.ref o8), .val (.ref o9), .unset, .unset, .unset, .unset, .unset, .unset, .unset, .unset, .unset, .unset] [(.int (0 : Int32))])) rfl (hb hby at_111) rfl (by decide) (cap := 0) (by decide) (by decide) (by decide) (by decide)
  refine own_go st264 ?_
  obtain ⟨b264, g264⟩ : ∃ z, z = hh.size := ⟨_, rfl⟩
  rw [← g264] at A264
  rw [← g264]
  show own_Run p e below _ T264 (mkF m 113 #[.val (.int p1), .val (.long q2), .second, .val (.int p3), .val (.long q4), .second, .val (.int p5), .val (.int x7), .val (.ref o8), .val (.ref o9), .unset, .unset, .unset, .unset, .unset, .unset, .unset, .unset, .unset, .unset] [(.ref b264)])
  have ne_o8_b264 : o8 ≠ b264 := Nat.ne_of_lt (Nat.lt_of_lt_of_eq V_o8.lt g264.symm)
  have ne_o9_b264 : o9 ≠ b264 := Nat.ne_of_lt (Nat.lt_of_lt_of_eq V_o9.lt g264.symm)
  have g_b264 : n0 ≤ b264 := Nat.le_trans Z0 (Nat.le_of_eq g264.symm)
  have sz_b264 : h0.size ≤ b264 := Nat.le_trans K0.1 (Nat.le_of_eq g264.symm)
  have Z0_c265 := Nat.le_trans Z0 E264.1
  have K0_c265 := K0.ext E264
  have V_o8_c265 := V_o8.ext E264
  have V_o9_c265 := V_o9.ext E264
  have V_b264 : Arv Z h264 b264 k264 .int (0 : Int32) [] (.int (0 : Int32)) := (Arv.new A264 (by decide)).pad (pad_rep [] (.int (0 : Int32)) 0)
  refine own_go (fun _ k => XS.astore X264.here hx rfl (hb hby at_113) rfl rfl (l' := #[.val (.int p1), .val (.long q2), .second, .val (.int p3), .val (.long q4), .second, .val (.int p5), .val (.int x7), .val (.ref o8), .val (.ref o9), .val (.ref b264), .unset, .unset, .unset, .unset, .unset, .unset, .unset, .unset, .unset]) rfl k) ?_
  refine own_go (fun _ k => XS.iconst X264.here hx rfl (hb hby at_115) k) ?_
  show own_Run p e below _ T264 (mkF m 116 #[.val (.int p1), .val (.long q2), .second, .val (.int p3), .val (.long q4), .second, .val (.int p5), .val (.int x7), .val (.ref o8), .val (.ref o9), .val (.ref b264), .unset, .unset, .unset, .unset, .unset, .unset, .unset, .unset, .unset] [(.int (0 : Int32))])
  obtain ⟨T266, h266, k266, X266, e266, E266, A266, st266⟩ := newP X264 hx hZ (W 1 rfl) e264 (g := (mkF m 116 #[.val (.int p1), .val (.long q2), .second, .val (.int p3), .val (.long q4), .second, .val (.int p5), .val (.int x7), .val (.ref o8), .val (.ref o9), .val (.ref b264), .unset, .unset, .unset, .unset, .unset, .unset, .unset, .unset, .unset] [(.int (0 : Int32))])) rfl (hb hby at_116) rfl (by decide) (cap := 0) (by decide) (by decide) (by decide) (by decide)
  refine own_go st266 ?_
  obtain ⟨b266, g266⟩ : ∃ z, z = h264.size := ⟨_, rfl⟩
  rw [← g266] at A266
  rw [← g266]
  show own_Run p e below _ T266 (mkF m 118 #[.val (.int p1), .val (.long q2), .second, .val (.int p3), .val (.long q4), .second, .val (.int p5), .val (.int x7), .val (.ref o8), .val (.ref o9), .val (.ref b264), .unset, .unset, .unset, .unset, .unset, .unset, .unset, .unset, .unset] [(.ref b266)])
  have ne_o8_b266 : o8 ≠ b266 := Nat.ne_of_lt (Nat.lt_of_lt_of_eq V_o8_c265.lt g266.symm)
  have ne_o9_b266 : o9 ≠ b266 := Nat.ne_of_lt (Nat.lt_of_lt_of_eq V_o9_c265.lt g266.symm)
  have ne_b264_b266 : b264 ≠ b266 := Nat.ne_of_lt (Nat.lt_of_lt_of_eq V_b264.lt g266.symm)
  have g_b266 : n0 ≤ b266 := Nat.le_trans Z0_c265 (Nat.le_of_eq g266.symm)
  have sz_b266 : h0.size ≤ b266 := Nat.le_trans K0_c265.1 (Nat.le_of_eq g266.symm)
  have Z0_c267 := Nat.le_trans Z0_c265 E266.1
  have K0_c267 := K0_c265.ext E266
  have V_o8_c267 := V_o8_c265.ext E266
  have V_o9_c267 := V_o9_c265.ext E266
  have V_b264_c267 := V_b264.ext E266
  have V_b266 : Arv Z h266 b266 k266 .long (0 : Int32) [] (.long (0 : Int64)) := (Arv.new A266 (by decide)).pad (pad_rep [] (.long (0 : Int64)) 0)
  refine own_go (fun _ k => XS.astore X266.here hx rfl (hb hby at_118) rfl rfl (l' := #[.val (.int p1), .val (.long q2), .second, .val (.int p3), .val (.long q4), .second, .val (.int p5), .val (.int x7), .val (.ref o8), .val (.ref o9), .val (.ref b264), .val (.ref b266), .unset, .unset, .unset, .unset, .unset, .unset, .unset, .unset]) rfl k) ?_
  show own_Run p e below _ T266 (mkF m 120 #[.val (.int p1), .val (.long q2), .second, .val (.int p3), .val (.long q4), .second, .val (.int p5), .val (.int x7), .val (.ref o8), .val (.ref o9), .val (.ref b264), .val (.ref b266), .unset, .unset, .unset, .unset, .unset, .unset, .unset, .unset] [])
  obtain ⟨T268, h268, X268, e268, E268, A268, D268, -, st268⟩ := newO X266 hx hZ hown (W 9 rfl) (W 10 rfl) (W 11 rfl) e266 (g := (mkF m 120 #[.val (.int p1), .val (.long q2), .second, .val (.int p3), .val (.long q4), .second, .val (.int p5), .val (.int x7), .val (.ref o8), .val (.ref o9), .val (.ref b264), .val (.ref b266), .unset, .unset, .unset, .unset, .unset, .unset, .unset, .unset] [])) rfl (hb hby at_120) (by decide) (by decide)
  refine own_go st268 ?_
  obtain ⟨b268, g268⟩ : ∃ z, z = h266.size := ⟨_, rfl⟩
  rw [← g268] at A268 D268
  rw [← g268]
  show own_Run p e below _ T268 (mkF m 123 #[.val (.int p1), .val (.long q2), .second, .val (.int p3), .val (.long q4), .second, .val (.int p5), .val (.int x7), .val (.ref o8), .val (.ref o9), .val (.ref b264), .val (.ref b266), .unset, .unset, .unset, .unset, .unset, .unset, .unset, .unset] [(.ref b268)])
  have ne_o8_b268 : o8 ≠ b268 := Nat.ne_of_lt (Nat.lt_of_lt_of_eq V_o8_c267.lt g268.symm)
  have ne_o9_b268 : o9 ≠ b268 := Nat.ne_of_lt (Nat.lt_of_lt_of_eq V_o9_c267.lt g268.symm)
  have ne_b264_b268 : b264 ≠ b268 := Nat.ne_of_lt (Nat.lt_of_lt_of_eq V_b264_c267.lt g268.symm)
  have ne_b266_b268 : b266 ≠ b268 := Nat.ne_of_lt (Nat.lt_of_lt_of_eq V_b266.lt g268.symm)
  have g_b268 : n0 ≤ b268 := Nat.le_trans Z0_c267 (Nat.le_of_eq g268.symm)
  have sz_b268 : h0.size ≤ b268 := Nat.le_trans K0_c267.1 (Nat.le_of_eq g268.symm)
  have Z0_c269 := Nat.le_trans Z0_c267 E268.1
  have K0_c269 := K0_c267.ext E268
  have V_o8_c269 := V_o8_c267.ext E268
  have V_o9_c269 := V_o9_c267.ext E268
  have V_b264_c269 := V_b264_c267.ext E268
  have V_b266_c269 := V_b266.ext E268
  have F_places_b268 : Fld Z h268 b268 "com/example/net_reducer/netreducer/analysis/Marking" "places" "[I" .null := D268 (Or.inl (W 19 rfl)) (ty := (.array .int)) (by decide)
  have F_tokens_b268 : Fld Z h268 b268 "com/example/net_reducer/netreducer/analysis/Marking" "tokens" "[J" .null := D268 (Or.inl (W 21 rfl)) (ty := (.array .long)) (by decide)
  have F_size_b268 : Fld Z h268 b268 "com/example/net_reducer/netreducer/analysis/Marking" "size" "I" (.int (0 : Int32)) := D268 (Or.inl (W 28 rfl)) (ty := .int) (by decide)
  refine own_go (fun _ k => XS.dup X268.here hx rfl (hb hby at_123) rfl rfl k) ?_
  show own_Run p e below _ T268 (mkF m 124 #[.val (.int p1), .val (.long q2), .second, .val (.int p3), .val (.long q4), .second, .val (.int p5), .val (.int x7), .val (.ref o8), .val (.ref o9), .val (.ref b264), .val (.ref b266), .unset, .unset, .unset, .unset, .unset, .unset, .unset, .unset] [(.ref b268), (.ref b268)])
  obtain ⟨_, _, ⟨T270, L270, k270, n270⟩, -, X270, ⟨Lc270, hQ270, l270, y270, z270⟩, st270⟩ := X268.specialBack hx (y := (⟨"com/example/net_reducer/netreducer/analysis/Marking", "<init>", "()V"⟩ : MethodName)) rfl hown (mvT hZ (W 12 rfl)) (mvT hZ (W 13 rfl)) (mvT hZ (W 14 rfl)) (by decide) (backOf (W := 1) (rm1 l Z a0 hw [] b268 .null .null h268 n0 Z0_c269 A268 F_places_b268 F_tokens_b268 F_size_b268 g_b268) hZ (W 14 rfl) (W 11 rfl) (by decide) (by decide)) (g := (mkF m 124 #[.val (.int p1), .val (.long q2), .second, .val (.int p3), .val (.long q4), .second, .val (.int p5), .val (.int x7), .val (.ref o8), .val (.ref o9), .val (.ref b264), .val (.ref b266), .unset, .unset, .unset, .unset, .unset, .unset, .unset, .unset] [(.ref b268), (.ref b268)])) rfl (by rw [hml]; rfl) (Steps.refl _) (a := b268) (argsL := []) (rest := [(.ref b268)]) (lenOf pd_6 rfl) rfl (by show 2 * 0 + _ ≤ _; exact Nat.le_of_eq rfl) (hb hby at_124) (fun _ _ => ⟨rfl, e268, (by decide : 5 + 2 ≤ _), (by decide : 19 + 16 ≤ _)⟩)
  dsimp only [Pt.U, Pt.locs, Pt.cells, Pt.slots] at X270 l270 y270 z270 st270 hQ270
  subst l270 y270 z270
  obtain ⟨b1_270, b2_270, k1_270, k2_270, rfl, N270q, K270, P270_0, P270_1, P270_2, P270_3, P270_4, P270_5, P270_6, P270_7, P270_8, P270_9, P270_10⟩ := hQ270
  have ne_o8_b1_270 : o8 ≠ b1_270 := Nat.ne_of_lt (Nat.lt_of_lt_of_le V_o8_c269.lt P270_6)
  have ne_o9_b1_270 : o9 ≠ b1_270 := Nat.ne_of_lt (Nat.lt_of_lt_of_le V_o9_c269.lt P270_6)
  have ne_b264_b1_270 : b264 ≠ b1_270 := Nat.ne_of_lt (Nat.lt_of_lt_of_le V_b264_c269.lt P270_6)
  have ne_b266_b1_270 : b266 ≠ b1_270 := Nat.ne_of_lt (Nat.lt_of_lt_of_le V_b266_c269.lt P270_6)
  have ne_b268_b1_270 : b268 ≠ b1_270 := Nat.ne_of_lt (Nat.lt_of_lt_of_le A268.lt P270_6)
  have g_b1_270 : n0 ≤ b1_270 := Nat.le_trans Z0_c269 P270_6
  have sz_b1_270 : h0.size ≤ b1_270 := Nat.le_trans K0_c269.1 P270_6
  have ne_o8_b2_270 : o8 ≠ b2_270 := Nat.ne_of_lt (Nat.lt_of_lt_of_le V_o8_c269.lt P270_7)
  have ne_o9_b2_270 : o9 ≠ b2_270 := Nat.ne_of_lt (Nat.lt_of_lt_of_le V_o9_c269.lt P270_7)
  have ne_b264_b2_270 : b264 ≠ b2_270 := Nat.ne_of_lt (Nat.lt_of_lt_of_le V_b264_c269.lt P270_7)
  have ne_b266_b2_270 : b266 ≠ b2_270 := Nat.ne_of_lt (Nat.lt_of_lt_of_le V_b266_c269.lt P270_7)
  have ne_b268_b2_270 : b268 ≠ b2_270 := Nat.ne_of_lt (Nat.lt_of_lt_of_le A268.lt P270_7)
  have g_b2_270 : n0 ≤ b2_270 := Nat.le_trans Z0_c269 P270_7
  have sz_b2_270 : h0.size ≤ b2_270 := Nat.le_trans K0_c269.1 P270_7
  have N270 := Fr.app N0 N270q
  refine own_goT st270 ?_
  show own_Run p e below _ T270 (mkF m 127 #[.val (.int p1), .val (.long q2), .second, .val (.int p3), .val (.long q4), .second, .val (.int p5), .val (.int x7), .val (.ref o8), .val (.ref o9), .val (.ref b264), .val (.ref b266), .unset, .unset, .unset, .unset, .unset, .unset, .unset, .unset] [(.ref b268)])
  have Z0_c271 := Nat.le_trans Z0_c269 K270.1
  have K0_c271 := K0_c269.trans K270 (allS (Or.inr sz_b268) all0)
  have V_o8_c271 := V_o8_c269.keep K270 (ninS ne_o8_b268 nin0)
  have V_o9_c271 := V_o9_c269.keep K270 (ninS ne_o9_b268 nin0)
  have V_b264_c271 := V_b264_c269.keep K270 (ninS ne_b264_b268 nin0)
  have V_b266_c271 := V_b266_c269.keep K270 (ninS ne_b266_b268 nin0)
  have A268_c271 := A268.keep K270
  refine own_go (fun _ k => XS.astore X270.here hx rfl (hb hby at_127) rfl rfl (l' := #[.val (.int p1), .val (.long q2), .second, .val (.int p3), .val (.long q4), .second, .val (.int p5), .val (.int x7), .val (.ref o8), .val (.ref o9), .val (.ref b264), .val (.ref b266), .val (.ref b268), .unset, .unset, .unset, .unset, .unset, .unset, .unset]) rfl k) ?_
  show own_Run p e below _ T270 (mkF m 129 #[.val (.int p1), .val (.long q2), .second, .val (.int p3), .val (.long q4), .second, .val (.int p5), .val (.int x7), .val (.ref o8), .val (.ref o9), .val (.ref b264), .val (.ref b266), .val (.ref b268), .unset, .unset, .unset, .unset, .unset, .unset, .unset] [])
  rcases hx7 with rfl | rfl
  · show own_Run p e below _ T270 (mkF m 129 #[.val (.int p1), .val (.long q2), .second, .val (.int p3), .val (.long q4), .second, .val (.int p5), .val (.int (0 : Int32)), .val (.ref o8), .val (.ref o9), .val (.ref b264), .val (.ref b266), .val (.ref b268), .unset, .unset, .unset, .unset, .unset, .unset, .unset] [])
    refine own_go (fun _ k => XS.iload X270.here hx rfl (hb hby at_129) rfl k) ?_
    show own_Run p e below _ T270 (mkF m 131 #[.val (.int p1), .val (.long q2), .second, .val (.int p3), .val (.long q4), .second, .val (.int p5), .val (.int (0 : Int32)), .val (.ref o8), .val (.ref o9), .val (.ref b264), .val (.ref b266), .val (.ref b268), .unset, .unset, .unset, .unset, .unset, .unset, .unset] [(.int (0 : Int32))])
    refine own_go (fun _ k => XS.ifYes X270.here hx rfl (pc0 := 131) (pc' := 170) rfl (hb hby at_131) rfl ((if0 _ _).trans (teq (by decide : (0 : Int32) = (0 : Int32))).1) (by decide) (by decide) k) ?_
    show own_Run p e below _ T270 (mkF m 170 #[.val (.int p1), .val (.long q2), .second, .val (.int p3), .val (.long q4), .second, .val (.int p5), .val (.int (0 : Int32)), .val (.ref o8), .val (.ref o9), .val (.ref b264), .val (.ref b266), .val (.ref b268), .unset, .unset, .unset, .unset, .unset, .unset, .unset] [])
    refine own_go (fun _ k => XS.aload X270.here hx rfl (hb hby at_170) rfl rfl k) ?_
    refine own_go (fun _ k => XS.iloadN X270.here hx rfl (hb hby at_172) rfl k) ?_
    refine own_go (fun _ k => XS.lload X270.here hx rfl (hb hby at_173) rfl k) ?_
    show own_Run p e below _ T270 (mkF m 175 #[.val (.int p1), .val (.long q2), .second, .val (.int p3), .val (.long q4), .second, .val (.int p5), .val (.int (0 : Int32)), .val (.ref o8), .val (.ref o9), .val (.ref b264), .val (.ref b266), .val (.ref b268), .unset, .unset, .unset, .unset, .unset, .unset, .unset] [(.long q4), (.int p3), (.ref b268)])
    obtain ⟨cq272, kq272, q272a, q272b, q272c⟩ := isOf hZ rfl P270_0
    obtain ⟨_, _, ⟨T272, L272, k272, n272⟩, -, X272, ⟨Lc272, hQ272, l272, y272, z272⟩, st272⟩ := X270.virtualBack hx (y := (⟨"com/example/net_reducer/netreducer/analysis/Marking", "add", "(IJ)V"⟩ : MethodName)) (z := (⟨"com/example/net_reducer/netreducer/analysis/Marking", "add", "(IJ)V"⟩ : MethodName)) hown (mvT hZ (W 22 rfl)) (mvT hZ (W 23 rfl)) (notFace_of_selects (args := #[]) (mvT hZ (W 25 rfl))) (mvT hZ (W 25 rfl)) (mvT hZ (W 24 rfl)) (by decide) (backOf (W := 0) (rm3c0 l Z a0 hw [] b268 p3 q4 b1_270 b2_270 k1_270 k2_270 (0 : Int32) (0 : Int32) (0 : Int32) (0 : Int32) (0 : Int32) (0 : Int32) (0 : Int32) (0 : Int32) (0 : Int64) (0 : Int64) (0 : Int64) (0 : Int64) (0 : Int64) (0 : Int64) (0 : Int64) (0 : Int64) T270.heap n0 Z0_c271 P270_0 P270_1 P270_2 P270_3 P270_4 P270_5 g_b268 g_b1_270 g_b2_270 P270_8 P270_9 P270_10) hZ (W 26 rfl) (W 11 rfl) (by decide) (by decide)) q272a q272c (g := (mkF m 175 #[.val (.int p1), .val (.long q2), .second, .val (.int p3), .val (.long q4), .second, .val (.int p5), .val (.int (0 : Int32)), .val (.ref o8), .val (.ref o9), .val (.ref b264), .val (.ref b266), .val (.ref b268), .unset, .unset, .unset, .unset, .unset, .unset, .unset] [(.long q4), (.int p3), (.ref b268)])) rfl (by rw [hml]; rfl) (Steps.refl _) (argsL := [(.int p3), (.long q4)]) (rest := []) (lenOf pd_5 rfl) rfl (by show 2 * 0 + _ ≤ _; exact Nat.le_of_eq rfl) (hb hby at_175) (fun _ _ => ⟨rfl, rfl, (by decide : 7 + 0 ≤ _), (by decide : 35 + 0 ≤ _)⟩)
    dsimp only [Pt.U, Pt.locs, Pt.cells, Pt.slots] at X272 l272 y272 z272 st272 hQ272
    subst l272 y272 z272
    obtain ⟨rfl, N272q, K272, P272_0, P272_1, P272_2, P272_3, P272_4, P272_5⟩ := hQ272
    have N272 := Fr.app N270 N272q
    refine own_goT st272 ?_
    show own_Run p e below _ T272 (mkF m 178 #[.val (.int p1), .val (.long q2), .second, .val (.int p3), .val (.long q4), .second, .val (.int p5), .val (.int (0 : Int32)), .val (.ref o8), .val (.ref o9), .val (.ref b264), .val (.ref b266), .val (.ref b268), .unset, .unset, .unset, .unset, .unset, .unset, .unset] [])
    have Z0_c273 := Nat.le_trans Z0_c271 K272.1
    have K0_c273 := K0_c271.trans K272 (allS (Or.inr sz_b268) (allS (Or.inr sz_b1_270) (allS (Or.inr sz_b2_270) all0)))
    have V_o8_c273 := V_o8_c271.keep K272 (ninS ne_o8_b268 (ninS ne_o8_b1_270 (ninS ne_o8_b2_270 nin0)))
    have V_o9_c273 := V_o9_c271.keep K272 (ninS ne_o9_b268 (ninS ne_o9_b1_270 (ninS ne_o9_b2_270 nin0)))
    have V_b264_c273 := V_b264_c271.keep K272 (ninS ne_b264_b268 (ninS ne_b264_b1_270 (ninS ne_b264_b2_270 nin0)))
    have V_b266_c273 := V_b266_c271.keep K272 (ninS ne_b266_b268 (ninS ne_b266_b1_270 (ninS ne_b266_b2_270 nin0)))
    have P270_0_c273 := P270_0.keep K272
    refine own_go (fun _ k => XS.iconst X272.here hx rfl (hb hby at_178) k) ?_
    refine own_go (fun _ k => XS.istore X272.here hx rfl (hb hby at_179) rfl (l' := #[.val (.int p1), .val (.long q2), .second, .val (.int p3), .val (.long q4), .second, .val (.int p5), .val (.int (0 : Int32)), .val (.ref o8), .val (.ref o9), .val (.ref b264), .val (.ref b266), .val (.ref b268), .val (.int (1 : Int32)), .unset, .unset, .unset, .unset, .unset, .unset]) rfl k) ?_
    refine own_go (fun _ k => XS.iloadN X272.here hx rfl (hb hby at_181) rfl k) ?_
    refine own_go (fun _ k => XS.istore X272.here hx rfl (hb hby at_182) rfl (l' := #[.val (.int p1), .val (.long q2), .second, .val (.int p3), .val (.long q4), .second, .val (.int p5), .val (.int (0 : Int32)), .val (.ref o8), .val (.ref o9), .val (.ref b264), .val (.ref b266), .val (.ref b268), .val (.int (1 : Int32)), .val (.int p3), .unset, .unset, .unset, .unset, .unset]) rfl k) ?_
    show own_Run p e below _ T272 (mkF m 184 #[.val (.int p1), .val (.long q2), .second, .val (.int p3), .val (.long q4), .second, .val (.int p5), .val (.int (0 : Int32)), .val (.ref o8), .val (.ref o9), .val (.ref b264), .val (.ref b266), .val (.ref b268), .val (.int (1 : Int32)), .val (.int p3), .unset, .unset, .unset, .unset, .unset] [])
    refine own_go (fun _ k => XS.lload X272.here hx rfl (hb hby at_184) rfl k) ?_
    refine own_go (fun _ k => XS.lstore X272.here hx rfl (hb hby at_186) rfl (l' := #[.val (.int p1), .val (.long q2), .second, .val (.int p3), .val (.long q4), .second, .val (.int p5), .val (.int (0 : Int32)), .val (.ref o8), .val (.ref o9), .val (.ref b264), .val (.ref b266), .val (.ref b268), .val (.int (1 : Int32)), .val (.int p3), .val (.long q4), .second, .unset, .unset, .unset]) rfl k) ?_
    refine own_go (fun _ k => XS.iloadN X272.here hx rfl (hb hby at_188) rfl k) ?_
    refine own_go (fun _ k => XS.istore X272.here hx rfl (hb hby at_189) rfl (l' := #[.val (.int p1), .val (.long q2), .second, .val (.int p3), .val (.long q4), .second, .val (.int p5), .val (.int (0 : Int32)), .val (.ref o8), .val (.ref o9), .val (.ref b264), .val (.ref b266), .val (.ref b268), .val (.int (1 : Int32)), .val (.int p3), .val (.long q4), .second, .val (.int p3), .unset, .unset]) rfl k) ?_
    show own_Run p e below _ T272 (mkF m 191 #[.val (.int p1), .val (.long q2), .second, .val (.int p3), .val (.long q4), .second, .val (.int p5), .val (.int (0 : Int32)), .val (.ref o8), .val (.ref o9), .val (.ref b264), .val (.ref b266), .val (.ref b268), .val (.int (1 : Int32)), .val (.int p3), .val (.long q4), .second, .val (.int p3), .unset, .unset] [])
    refine own_go (fun _ k => XS.lload X272.here hx rfl (hb hby at_191) rfl k) ?_
    refine own_go (fun _ k => XS.lstore X272.here hx rfl (hb hby at_193) rfl (l' := #[.val (.int p1), .val (.long q2), .second, .val (.int p3), .val (.long q4), .second, .val (.int p5), .val (.int (0 : Int32)), .val (.ref o8), .val (.ref o9), .val (.ref b264), .val (.ref b266), .val (.ref b268), .val (.int (1 : Int32)), .val (.int p3), .val (.long q4), .second, .val (.int p3), .val (.long q4), .second]) rfl k) ?_
    show own_Run p e below _ T272 (mkF m 195 #[.val (.int p1), .val (.long q2), .second, .val (.int p3), .val (.long q4), .second, .val (.int p5), .val (.int (0 : Int32)), .val (.ref o8), .val (.ref o9), .val (.ref b264), .val (.ref b266), .val (.ref b268), .val (.int (1 : Int32)), .val (.int p3), .val (.long q4), .second, .val (.int p3), .val (.long q4), .second] [])
    exact endN p1 q2 p3 q4 p5 h0 n0 hx hZ hw hby hml hown hnm hret hlk (0 : Int32) o8 o9 b264 b266 b268 b1_270 b2_270 k1_270 k2_270 T272 T272.heap _ X272 rfl N272 Z0_c273 K0_c273 P272_0 P272_1 P272_2 P272_3 P272_4 P272_5 g_b268 g_b1_270 g_b2_270 sz_b268 sz_b1_270 sz_b2_270 P270_8 P270_9 P270_10 
  · show own_Run p e below _ T270 (mkF m 129 #[.val (.int p1), .val (.long q2), .second, .val (.int p3), .val (.long q4), .second, .val (.int p5), .val (.int (1 : Int32)), .val (.ref o8), .val (.ref o9), .val (.ref b264), .val (.ref b266), .val (.ref b268), .unset, .unset, .unset, .unset, .unset, .unset, .unset] [])
    refine own_go (fun _ k => XS.iload X270.here hx rfl (hb hby at_129) rfl k) ?_
    show own_Run p e below _ T270 (mkF m 131 #[.val (.int p1), .val (.long q2), .second, .val (.int p3), .val (.long q4), .second, .val (.int p5), .val (.int (1 : Int32)), .val (.ref o8), .val (.ref o9), .val (.ref b264), .val (.ref b266), .val (.ref b268), .unset, .unset, .unset, .unset, .unset, .unset, .unset] [(.int (1 : Int32))])
    refine own_go (fun _ k => XS.ifNo X270.here hx rfl (hb hby at_131) rfl ((if0 _ _).trans (feq (by decide : ¬ ((1 : Int32) = (0 : Int32)))).1) k) ?_
    show own_Run p e below _ T270 (mkF m 134 #[.val (.int p1), .val (.long q2), .second, .val (.int p3), .val (.long q4), .second, .val (.int p5), .val (.int (1 : Int32)), .val (.ref o8), .val (.ref o9), .val (.ref b264), .val (.ref b266), .val (.ref b268), .unset, .unset, .unset, .unset, .unset, .unset, .unset] [])
    refine own_go (fun _ k => XS.aload X270.here hx rfl (hb hby at_134) rfl rfl k) ?_
    refine own_go (fun _ k => XS.aload X270.here hx rfl (hb hby at_136) rfl rfl k) ?_
    refine own_go (fun _ k => XS.iconst X270.here hx rfl (hb hby at_138) k) ?_
    refine own_go (fun _ k => XS.aload X270.here hx rfl (hb hby at_139) rfl rfl k) ?_
    show own_Run p e below _ T270 (mkF m 141 #[.val (.int p1), .val (.long q2), .second, .val (.int p3), .val (.long q4), .second, .val (.int p5), .val (.int (1 : Int32)), .val (.ref o8), .val (.ref o9), .val (.ref b264), .val (.ref b266), .val (.ref b268), .unset, .unset, .unset, .unset, .unset, .unset, .unset] [(.ref o8), (.int (0 : Int32)), (.ref b266), (.ref b264)])
    refine own_go (fun _ k => XS.aload X270.here hx rfl (hb hby at_141) rfl rfl k) ?_
    refine own_go (fun _ k => XS.aload X270.here hx rfl (hb hby at_143) rfl rfl k) ?_
    show own_Run p e below _ T270 (mkF m 145 #[.val (.int p1), .val (.long q2), .second, .val (.int p3), .val (.long q4), .second, .val (.int p5), .val (.int (1 : Int32)), .val (.ref o8), .val (.ref o9), .val (.ref b264), .val (.ref b266), .val (.ref b268), .unset, .unset, .unset, .unset, .unset, .unset, .unset] [(.ref b268), (.ref o9), (.ref o8), (.int (0 : Int32)), (.ref b266), (.ref b264)])
    obtain ⟨_, _, ⟨T274, L274, k274, n274⟩, -, X274, ⟨Lc274, hQ274, l274, y274, z274⟩, st274⟩ := Jvm.LawKit.callS X270 hx (y := (⟨"com/example/net_reducer/netreducer/analysis/Marking", "merge", "([I[JI[I[JLcom/example/net_reducer/netreducer/analysis/Marking;)V"⟩ : MethodName)) hown (mvT hZ (W 44 rfl)) (mvT hZ (W 45 rfl)) (mvT hZ (W 11 rfl)) (mvT hZ (W 46 rfl)) (by decide) (backOf (W := 0) (rm7 l Z a0 hw [] b264 b266 o8 o9 b268 b1_270 b2_270 k1_270 k2_270 k8 k9 T270.heap n0 Z0_c271 P270_0 P270_1 P270_2 P270_3 P270_4 P270_5 V_o8_c271 V_o9_c271 g_b268 g_b1_270 g_b2_270 P270_8 P270_9 P270_10 ne_o8_b268 ne_o8_b1_270 ne_o8_b2_270 ne_o9_b268 ne_o9_b1_270 ne_o9_b2_270) hZ (W 46 rfl) (W 11 rfl) (by decide) (by decide)) (g := (mkF m 145 #[.val (.int p1), .val (.long q2), .second, .val (.int p3), .val (.long q4), .second, .val (.int p5), .val (.int (1 : Int32)), .val (.ref o8), .val (.ref o9), .val (.ref b264), .val (.ref b266), .val (.ref b268), .unset, .unset, .unset, .unset, .unset, .unset, .unset] [(.ref b268), (.ref o9), (.ref o8), (.int (0 : Int32)), (.ref b266), (.ref b264)])) rfl (by rw [hml]; rfl) (argsL := [(.ref b264), (.ref b266), (.int (0 : Int32)), (.ref o8), (.ref o9), (.ref b268)]) (rest := []) (lenOf pd_10 rfl) rfl (by show 2 * 0 + _ ≤ _; exact Nat.le_of_eq rfl) (hb hby at_145) (fun _ _ => ⟨rfl, rfl, (by decide : 7 + 0 ≤ _), (by decide : 35 + 0 ≤ _)⟩)
    dsimp only [Pt.U, Pt.locs, Pt.cells, Pt.slots] at X274 l274 y274 z274 st274 hQ274
    subst l274 y274 z274
    obtain ⟨rfl, N274q, K274, P274_0, P274_1, P274_2, P274_3, P274_4, P274_5⟩ := hQ274
    have N274 := Fr.app N270 N274q
    refine own_go st274 ?_
    show own_Run p e below _ T274 (mkF m 148 #[.val (.int p1), .val (.long q2), .second, .val (.int p3), .val (.long q4), .second, .val (.int p5), .val (.int (1 : Int32)), .val (.ref o8), .val (.ref o9), .val (.ref b264), .val (.ref b266), .val (.ref b268), .unset, .unset, .unset, .unset, .unset, .unset, .unset] [])
    have Z0_c275 := Nat.le_trans Z0_c271 K274.1
    have K0_c275 := K0_c271.trans K274 (allS (Or.inr sz_b268) (allS (Or.inr sz_b1_270) (allS (Or.inr sz_b2_270) all0)))
    have V_o8_c275 := V_o8_c271.keep K274 (ninS ne_o8_b268 (ninS ne_o8_b1_270 (ninS ne_o8_b2_270 nin0)))
    have V_o9_c275 := V_o9_c271.keep K274 (ninS ne_o9_b268 (ninS ne_o9_b1_270 (ninS ne_o9_b2_270 nin0)))
    have V_b264_c275 := V_b264_c271.keep K274 (ninS ne_b264_b268 (ninS ne_b264_b1_270 (ninS ne_b264_b2_270 nin0)))
    have V_b266_c275 := V_b266_c271.keep K274 (ninS ne_b266_b268 (ninS ne_b266_b1_270 (ninS ne_b266_b2_270 nin0)))
    have P270_0_c275 := P270_0.keep K274
    refine own_go (fun _ k => XS.bipush X274.here hx rfl (hb hby at_148) k) ?_
    refine own_go (fun _ k => XS.istore X274.here hx rfl (hb hby at_150) rfl (l' := #[.val (.int p1), .val (.long q2), .second, .val (.int p3), .val (.long q4), .second, .val (.int p5), .val (.int (1 : Int32)), .val (.ref o8), .val (.ref o9), .val (.ref b264), .val (.ref b266), .val (.ref b268), .val (.int (8 : Int32)), .unset, .unset, .unset, .unset, .unset, .unset]) rfl k) ?_
    refine own_go (fun _ k => XS.iconst X274.here hx rfl (hb hby at_152) k) ?_
    refine own_go (fun _ k => XS.istore X274.here hx rfl (hb hby at_153) rfl (l' := #[.val (.int p1), .val (.long q2), .second, .val (.int p3), .val (.long q4), .second, .val (.int p5), .val (.int (1 : Int32)), .val (.ref o8), .val (.ref o9), .val (.ref b264), .val (.ref b266), .val (.ref b268), .val (.int (8 : Int32)), .val (.int (0 : Int32)), .unset, .unset, .unset, .unset, .unset]) rfl k) ?_
    show own_Run p e below _ T274 (mkF m 155 #[.val (.int p1), .val (.long q2), .second, .val (.int p3), .val (.long q4), .second, .val (.int p5), .val (.int (1 : Int32)), .val (.ref o8), .val (.ref o9), .val (.ref b264), .val (.ref b266), .val (.ref b268), .val (.int (8 : Int32)), .val (.int (0 : Int32)), .unset, .unset, .unset, .unset, .unset] [])
    refine own_go (fun _ k => XS.lconst X274.here hx rfl (hb hby at_155) k) ?_
    refine own_go (fun _ k => XS.lstore X274.here hx rfl (hb hby at_156) rfl (l' := #[.val (.int p1), .val (.long q2), .second, .val (.int p3), .val (.long q4), .second, .val (.int p5), .val (.int (1 : Int32)), .val (.ref o8), .val (.ref o9), .val (.ref b264), .val (.ref b266), .val (.ref b268), .val (.int (8 : Int32)), .val (.int (0 : Int32)), .val (.long (1 : Int64)), .second, .unset, .unset, .unset]) rfl k) ?_
    refine own_go (fun _ k => XS.bipush X274.here hx rfl (hb hby at_158) k) ?_
    refine own_go (fun _ k => XS.istore X274.here hx rfl (hb hby at_160) rfl (l' := #[.val (.int p1), .val (.long q2), .second, .val (.int p3), .val (.long q4), .second, .val (.int p5), .val (.int (1 : Int32)), .val (.ref o8), .val (.ref o9), .val (.ref b264), .val (.ref b266), .val (.ref b268), .val (.int (8 : Int32)), .val (.int (0 : Int32)), .val (.long (1 : Int64)), .second, .val (.int (7 : Int32)), .unset, .unset]) rfl k) ?_
    show own_Run p e below _ T274 (mkF m 162 #[.val (.int p1), .val (.long q2), .second, .val (.int p3), .val (.long q4), .second, .val (.int p5), .val (.int (1 : Int32)), .val (.ref o8), .val (.ref o9), .val (.ref b264), .val (.ref b266), .val (.ref b268), .val (.int (8 : Int32)), .val (.int (0 : Int32)), .val (.long (1 : Int64)), .second, .val (.int (7 : Int32)), .unset, .unset] [])
    refine own_go (X274.ldc2Long hx hown (mvT hZ (W 8 rfl)) (g := (mkF m 162 #[.val (.int p1), .val (.long q2), .second, .val (.int p3), .val (.long q4), .second, .val (.int p5), .val (.int (1 : Int32)), .val (.ref o8), .val (.ref o9), .val (.ref b264), .val (.ref b266), .val (.ref b268), .val (.int (8 : Int32)), .val (.int (0 : Int32)), .val (.long (1 : Int64)), .second, .val (.int (7 : Int32)), .unset, .unset] [])) rfl (hb hby at_162)) ?_
    show own_Run p e below _ T274 (mkF m 165 #[.val (.int p1), .val (.long q2), .second, .val (.int p3), .val (.long q4), .second, .val (.int p5), .val (.int (1 : Int32)), .val (.ref o8), .val (.ref o9), .val (.ref b264), .val (.ref b266), .val (.ref b268), .val (.int (8 : Int32)), .val (.int (0 : Int32)), .val (.long (1 : Int64)), .second, .val (.int (7 : Int32)), .unset, .unset] [(.long (8 : Int64))])
    refine own_go (fun _ k => XS.lstore X274.here hx rfl (hb hby at_165) rfl (l' := #[.val (.int p1), .val (.long q2), .second, .val (.int p3), .val (.long q4), .second, .val (.int p5), .val (.int (1 : Int32)), .val (.ref o8), .val (.ref o9), .val (.ref b264), .val (.ref b266), .val (.ref b268), .val (.int (8 : Int32)), .val (.int (0 : Int32)), .val (.long (1 : Int64)), .second, .val (.int (7 : Int32)), .val (.long (8 : Int64)), .second]) rfl k) ?_
    refine own_go (fun _ k => XS.goto X274.here hx rfl (pc0 := 167) (pc' := 195) rfl (hb hby at_167) (by decide) (by decide) k) ?_
    show own_Run p e below _ T274 (mkF m 195 #[.val (.int p1), .val (.long q2), .second, .val (.int p3), .val (.long q4), .second, .val (.int p5), .val (.int (1 : Int32)), .val (.ref o8), .val (.ref o9), .val (.ref b264), .val (.ref b266), .val (.ref b268), .val (.int (8 : Int32)), .val (.int (0 : Int32)), .val (.long (1 : Int64)), .second, .val (.int (7 : Int32)), .val (.long (8 : Int64)), .second] [])
    exact endG p1 q2 p3 q4 p5 h0 n0 hx hZ hw hby hml hown hnm hret hlk (1 : Int32) o8 o9 b264 b266 b268 b1_270 b2_270 k1_270 k2_270 T274 T274.heap _ X274 rfl N274 Z0_c275 K0_c275 P274_0 P274_1 P274_2 P274_3 P274_4 P274_5 g_b268 g_b1_270 g_b2_270 sz_b268 sz_b1_270 sz_b2_270 P270_8 P270_9 P270_10 
set_option maxRecDepth 65536 in
set_option maxHeartbeats 40000000 in
theorem seg56 {p : Program} {l : Launch} {e : Env} {s : State} {m : MethodId} {args : Array Value} {below : List Frame} {meth : Method} {c : Code} {Z : State} {a0 : Array Value} (p1 : Int32) (q2 : Int64) (p3 : Int32) (q4 : Int64) (p5 : Int32) (h0 : Heap) (n0 : Nat) (hx : p.tables.exec = Jvm.exec) (hZ : Z.Warmed39 s.vm) (hw : ∀ d ∈ tables_1, d.before a0 Z = true) (hby : c.code = code) (hml : c.maxLocals = 20) (hown : s.vm.findClass "com/example/net_reducer/netreducer/analysis/MarkingAddPinLaw" = some m.cls) (hnm : meth.name = "law") (hret : meth.sig.returnType = some .boolean) (hlk : meth.locks = false)
    (x7 : Int32) (o8 : Addr) (k8 : ClassId) (T0 : State) (hh : Heap) (locs : List Loc) (X0 : Stand p l e room_1 s m args below meth c T0 locs 1 8) (e0 : T0.heap = hh) (N0 : Fr n0 locs) (Z0 : n0 ≤ hh.size) (K0 : Keep h0 hh []) (V_o8 : Arv Z hh o8 k8 .int (8 : Int32) [(.int (0 : Int32)), (.int (1 : Int32)), (.int (2 : Int32)), (.int (3 : Int32)), (.int (4 : Int32)), (.int (5 : Int32)), (.int (6 : Int32)), (.int (7 : Int32))] (.int (0 : Int32))) (hx7 : x7 = (0 : Int32) ∨ x7 = (1 : Int32)) (g_o8 : n0 ≤ o8) (sz_o8 : h0.size ≤ o8) :
    own_Run p e below (fun o U' => ∃ v L, o = .returned v ∧ Q0 Z p1 q2 p3 q4 p5 h0 n0 v U'.heap L ∧ FrameEnd s o U' L room_1.cells room_1.slots) T0 (mkF m 56 #[.val (.int p1), .val (.long q2), .second, .val (.int p3), .val (.long q4), .second, .val (.int p5), .val (.int x7), .val (.ref o8), .unset, .unset, .unset, .unset, .unset, .unset, .unset, .unset, .unset, .unset, .unset] []) := by
  have W := fun (k : Nat) {d : Jvm.Cond} (h : tables_1[k]? = some d) => hw d (List.mem_of_getElem? h)
  show own_Run p e below _ T0 (mkF m 56 #[.val (.int p1), .val (.long q2), .second, .val (.int p3), .val (.long q4), .second, .val (.int p5), .val (.int x7), .val (.ref o8), .unset, .unset, .unset, .unset, .unset, .unset, .unset, .unset, .unset, .unset, .unset] [])
  refine own_go (fun _ k => XS.bipush X0.here hx rfl (hb hby at_56) k) ?_
  show own_Run p e below _ T0 (mkF m 58 #[.val (.int p1), .val (.long q2), .second, .val (.int p3), .val (.long q4), .second, .val (.int p5), .val (.int x7), .val (.ref o8), .unset, .unset, .unset, .unset, .unset, .unset, .unset, .unset, .unset, .unset, .unset] [(.int (8 : Int32))])
  obtain ⟨T276, h276, k276, X276, e276, E276, A276, st276⟩ := newP X0 hx hZ (W 1 rfl) e0 (g := (mkF m 58 #[.val (.int p1), .val (.long q2), .second, .val (.int p3), .val (.long q4), .second, .val (.int p5), .val (.int x7), .val (.ref o8), .unset, .unset, .unset, .unset, .unset, .unset, .unset, .unset, .unset, .unset, .unset] [(.int (8 : Int32))])) rfl (hb hby at_58) rfl (by decide) (cap := 8) (by decide) (by decide) (by decide) (by decide)
  refine own_go st276 ?_
  obtain ⟨b276, g276⟩ : ∃ z, z = hh.size := ⟨_, rfl⟩
  rw [← g276] at A276
  rw [← g276]
  show own_Run p e below _ T276 (mkF m 60 #[.val (.int p1), .val (.long q2), .second, .val (.int p3), .val (.long q4), .second, .val (.int p5), .val (.int x7), .val (.ref o8), .unset, .unset, .unset, .unset, .unset, .unset, .unset, .unset, .unset, .unset, .unset] [(.ref b276)])
  have ne_o8_b276 : o8 ≠ b276 := Nat.ne_of_lt (Nat.lt_of_lt_of_eq V_o8.lt g276.symm)
  have g_b276 : n0 ≤ b276 := Nat.le_trans Z0 (Nat.le_of_eq g276.symm)
  have sz_b276 : h0.size ≤ b276 := Nat.le_trans K0.1 (Nat.le_of_eq g276.symm)
  have Z0_c277 := Nat.le_trans Z0 E276.1
  have K0_c277 := K0.ext E276
  have V_o8_c277 := V_o8.ext E276
  have V_b276 : Arv Z h276 b276 k276 .long (8 : Int32) [(.long (0 : Int64)), (.long (0 : Int64)), (.long (0 : Int64)), (.long (0 : Int64)), (.long (0 : Int64)), (.long (0 : Int64)), (.long (0 : Int64)), (.long (0 : Int64))] (.long (0 : Int64)) := (Arv.new A276 (by decide)).pad (pad_rep [] (.long (0 : Int64)) 8)
  refine own_go (fun _ k => XS.dup X276.here hx rfl (hb hby at_60) rfl rfl k) ?_
  refine own_go (fun _ k => XS.iconst X276.here hx rfl (hb hby at_61) k) ?_
  refine own_go (fun _ k => XS.lconst X276.here hx rfl (hb hby at_62) k) ?_
  show own_Run p e below _ T276 (mkF m 63 #[.val (.int p1), .val (.long q2), .second, .val (.int p3), .val (.long q4), .second, .val (.int p5), .val (.int x7), .val (.ref o8), .unset, .unset, .unset, .unset, .unset, .unset, .unset, .unset, .unset, .unset, .unset] [(.long (1 : Int64)), (.int (0 : Int32)), (.ref b276), (.ref b276)])
  obtain ⟨cl278, Ar278, q278, S278, N278, H278, G278⟩ := id V_b276
  have hin278 : ¬ ((0 : Int32) < 0 ∨ cl278.slots.size ≤ ((0 : Int32)).toNatClampNeg) := inb_of S278 ⟨by decide, by decide⟩
  obtain ⟨T279, h279, X279, e279, W279, st279⟩ := stJ X276 hx hZ e276 Ar278 (j := (0 : Int32)) hin278 (g := (mkF m 63 #[.val (.int p1), .val (.long q2), .second, .val (.int p3), .val (.long q4), .second, .val (.int p5), .val (.int x7), .val (.ref o8), .unset, .unset, .unset, .unset, .unset, .unset, .unset, .unset, .unset, .unset, .unset] [(.long (1 : Int64)), (.int (0 : Int32)), (.ref b276), (.ref b276)])) rfl rfl (hb hby at_63)
  refine own_go st279 ?_
  show own_Run p e below _ T279 (mkF m 64 #[.val (.int p1), .val (.long q2), .second, .val (.int p3), .val (.long q4), .second, .val (.int p5), .val (.int x7), .val (.ref o8), .unset, .unset, .unset, .unset, .unset, .unset, .unset, .unset, .unset, .unset, .unset] [(.ref b276)])
  have Z0_c280 := Nat.le_trans Z0_c277 (Keep.of_wr W279).1
  have K0_c280 := K0_c277.wr W279 (Or.inr sz_b276)
  have V_o8_c280 := V_o8_c277.other W279 ne_o8_b276
  have V_b276_c279 : Arv Z h279 b276 k276 .long (8 : Int32) [(.long (1 : Int64)), (.long (0 : Int64)), (.long (0 : Int64)), (.long (0 : Int64)), (.long (0 : Int64)), (.long (0 : Int64)), (.long (0 : Int64)), (.long (0 : Int64))] (.long (0 : Int64)) := Arv.set Ar278 q278 S278 N278 H278 G278 rfl W279 0 rfl (Nat.le_of_ble_eq_true rfl)
  have N279 := Fr.snoc X279 N0 g_b276
  refine own_go (fun _ k => XS.dup X279.here hx rfl (hb hby at_64) rfl rfl k) ?_
  refine own_go (fun _ k => XS.iconst X279.here hx rfl (hb hby at_65) k) ?_
  show own_Run p e below _ T279 (mkF m 66 #[.val (.int p1), .val (.long q2), .second, .val (.int p3), .val (.long q4), .second, .val (.int p5), .val (.int x7), .val (.ref o8), .unset, .unset, .unset, .unset, .unset, .unset, .unset, .unset, .unset, .unset, .unset] [(.int (1 : Int32)), (.ref b276), (.ref b276)])
  refine own_go (X279.ldc2Long hx hown (mvT hZ (W 2 rfl)) (g := (mkF m 66 #[.val (.int p1), .val (.long q2), .second, .val (.int p3), .val (.long q4), .second, .val (.int p5), .val (.int x7), .val (.ref o8), .unset, .unset, .unset, .unset, .unset, .unset, .unset, .unset, .unset, .unset, .unset] [(.int (1 : Int32)), (.ref b276), (.ref b276)])) rfl (hb hby at_66)) ?_
  show own_Run p e below _ T279 (mkF m 69 #[.val (.int p1), .val (.long q2), .second, .val (.int p3), .val (.long q4), .second, .val (.int p5), .val (.int x7), .val (.ref o8), .unset, .unset, .unset, .unset, .unset, .unset, .unset, .unset, .unset, .unset, .unset] [(.long (2 : Int64)), (.int (1 : Int32)), (.ref b276), (.ref b276)])
  obtain ⟨cl281, Ar281, q281, S281, N281, H281, G281⟩ := id V_b276_c279
  have hin281 : ¬ ((1 : Int32) < 0 ∨ cl281.slots.size ≤ ((1 : Int32)).toNatClampNeg) := inb_of S281 ⟨by decide, by decide⟩
  obtain ⟨T282, h282, X282, e282, W282, st282⟩ := stJ X279 hx hZ e279 Ar281 (j := (1 : Int32)) hin281 (g := (mkF m 69 #[.val (.int p1), .val (.long q2), .second, .val (.int p3), .val (.long q4), .second, .val (.int p5), .val (.int x7), .val (.ref o8), .unset, .unset, .unset, .unset, .unset, .unset, .unset, .unset, .unset, .unset, .unset] [(.long (2 : Int64)), (.int (1 : Int32)), (.ref b276), (.ref b276)])) rfl rfl (hb hby at_69)
  refine own_go st282 ?_
  show own_Run p e below _ T282 (mkF m 70 #[.val (.int p1), .val (.long q2), .second, .val (.int p3), .val (.long q4), .second, .val (.int p5), .val (.int x7), .val (.ref o8), .unset, .unset, .unset, .unset, .unset, .unset, .unset, .unset, .unset, .unset, .unset] [(.ref b276)])
  have Z0_c283 := Nat.le_trans Z0_c280 (Keep.of_wr W282).1
  have K0_c283 := K0_c280.wr W282 (Or.inr sz_b276)
  have V_o8_c283 := V_o8_c280.other W282 ne_o8_b276
  have V_b276_c282 : Arv Z h282 b276 k276 .long (8 : Int32) [(.long (1 : Int64)), (.long (2 : Int64)), (.long (0 : Int64)), (.long (0 : Int64)), (.long (0 : Int64)), (.long (0 : Int64)), (.long (0 : Int64)), (.long (0 : Int64))] (.long (0 : Int64)) := Arv.set Ar281 q281 S281 N281 H281 G281 rfl W282 1 rfl (Nat.le_of_ble_eq_true rfl)
  have N282 := Fr.snoc X282 N279 g_b276
  refine own_go (fun _ k => XS.dup X282.here hx rfl (hb hby at_70) rfl rfl k) ?_
  refine own_go (fun _ k => XS.iconst X282.here hx rfl (hb hby at_71) k) ?_
  show own_Run p e below _ T282 (mkF m 72 #[.val (.int p1), .val (.long q2), .second, .val (.int p3), .val (.long q4), .second, .val (.int p5), .val (.int x7), .val (.ref o8), .unset, .unset, .unset, .unset, .unset, .unset, .unset, .unset, .unset, .unset, .unset] [(.int (2 : Int32)), (.ref b276), (.ref b276)])
  refine own_go (X282.ldc2Long hx hown (mvT hZ (W 3 rfl)) (g := (mkF m 72 #[.val (.int p1), .val (.long q2), .second, .val (.int p3), .val (.long q4), .second, .val (.int p5), .val (.int x7), .val (.ref o8), .unset, .unset, .unset, .unset, .unset, .unset, .unset, .unset, .unset, .unset, .unset] [(.int (2 : Int32)), (.ref b276), (.ref b276)])) rfl (hb hby at_72)) ?_
  show own_Run p e below _ T282 (mkF m 75 #[.val (.int p1), .val (.long q2), .second, .val (.int p3), .val (.long q4), .second, .val (.int p5), .val (.int x7), .val (.ref o8), .unset, .unset, .unset, .unset, .unset, .unset, .unset, .unset, .unset, .unset, .unset] [(.long (3 : Int64)), (.int (2 : Int32)), (.ref b276), (.ref b276)])
  obtain ⟨cl284, Ar284, q284, S284, N284, H284, G284⟩ := id V_b276_c282
  have hin284 : ¬ ((2 : Int32) < 0 ∨ cl284.slots.size ≤ ((2 : Int32)).toNatClampNeg) := inb_of S284 ⟨by decide, by decide⟩
  obtain ⟨T285, h285, X285, e285, W285, st285⟩ := stJ X282 hx hZ e282 Ar284 (j := (2 : Int32)) hin284 (g := (mkF m 75 #[.val (.int p1), .val (.long q2), .second, .val (.int p3), .val (.long q4), .second, .val (.int p5), .val (.int x7), .val (.ref o8), .unset, .unset, .unset, .unset, .unset, .unset, .unset, .unset, .unset, .unset, .unset] [(.long (3 : Int64)), (.int (2 : Int32)), (.ref b276), (.ref b276)])) rfl rfl (hb hby at_75)
  refine own_go st285 ?_
  show own_Run p e below _ T285 (mkF m 76 #[.val (.int p1), .val (.long q2), .second, .val (.int p3), .val (.long q4), .second, .val (.int p5), .val (.int x7), .val (.ref o8), .unset, .unset, .unset, .unset, .unset, .unset, .unset, .unset, .unset, .unset, .unset] [(.ref b276)])
  have Z0_c286 := Nat.le_trans Z0_c283 (Keep.of_wr W285).1
  have K0_c286 := K0_c283.wr W285 (Or.inr sz_b276)
  have V_o8_c286 := V_o8_c283.other W285 ne_o8_b276
  have V_b276_c285 : Arv Z h285 b276 k276 .long (8 : Int32) [(.long (1 : Int64)), (.long (2 : Int64)), (.long (3 : Int64)), (.long (0 : Int64)), (.long (0 : Int64)), (.long (0 : Int64)), (.long (0 : Int64)), (.long (0 : Int64))] (.long (0 : Int64)) := Arv.set Ar284 q284 S284 N284 H284 G284 rfl W285 2 rfl (Nat.le_of_ble_eq_true rfl)
  have N285 := Fr.snoc X285 N282 g_b276
  refine own_go (fun _ k => XS.dup X285.here hx rfl (hb hby at_76) rfl rfl k) ?_
  refine own_go (fun _ k => XS.iconst X285.here hx rfl (hb hby at_77) k) ?_
  show own_Run p e below _ T285 (mkF m 78 #[.val (.int p1), .val (.long q2), .second, .val (.int p3), .val (.long q4), .second, .val (.int p5), .val (.int x7), .val (.ref o8), .unset, .unset, .unset, .unset, .unset, .unset, .unset, .unset, .unset, .unset, .unset] [(.int (3 : Int32)), (.ref b276), (.ref b276)])
  refine own_go (X285.ldc2Long hx hown (mvT hZ (W 4 rfl)) (g := (mkF m 78 #[.val (.int p1), .val (.long q2), .second, .val (.int p3), .val (.long q4), .second, .val (.int p5), .val (.int x7), .val (.ref o8), .unset, .unset, .unset, .unset, .unset, .unset, .unset, .unset, .unset, .unset, .unset] [(.int (3 : Int32)), (.ref b276), (.ref b276)])) rfl (hb hby at_78)) ?_
  show own_Run p e below _ T285 (mkF m 81 #[.val (.int p1), .val (.long q2), .second, .val (.int p3), .val (.long q4), .second, .val (.int p5), .val (.int x7), .val (.ref o8), .unset, .unset, .unset, .unset, .unset, .unset, .unset, .unset, .unset, .unset, .unset] [(.long (4 : Int64)), (.int (3 : Int32)), (.ref b276), (.ref b276)])
  obtain ⟨cl287, Ar287, q287, S287, N287, H287, G287⟩ := id V_b276_c285
  have hin287 : ¬ ((3 : Int32) < 0 ∨ cl287.slots.size ≤ ((3 : Int32)).toNatClampNeg) := inb_of S287 ⟨by decide, by decide⟩
  obtain ⟨T288, h288, X288, e288, W288, st288⟩ := stJ X285 hx hZ e285 Ar287 (j := (3 : Int32)) hin287 (g := (mkF m 81 #[.val (.int p1), .val (.long q2), .second, .val (.int p3), .val (.long q4), .second, .val (.int p5), .val (.int x7), .val (.ref o8), .unset, .unset, .unset, .unset, .unset, .unset, .unset, .unset, .unset, .unset, .unset] [(.long (4 : Int64)), (.int (3 : Int32)), (.ref b276), (.ref b276)])) rfl rfl (hb hby at_81)
  refine own_go st288 ?_
  show own_Run p e below _ T288 (mkF m 82 #[.val (.int p1), .val (.long q2), .second, .val (.int p3), .val (.long q4), .second, .val (.int p5), .val (.int x7), .val (.ref o8), .unset, .unset, .unset, .unset, .unset, .unset, .unset, .unset, .unset, .unset, .unset] [(.ref b276)])
  have Z0_c289 := Nat.le_trans Z0_c286 (Keep.of_wr W288).1
  have K0_c289 := K0_c286.wr W288 (Or.inr sz_b276)
  have V_o8_c289 := V_o8_c286.other W288 ne_o8_b276
  have V_b276_c288 : Arv Z h288 b276 k276 .long (8 : Int32) [(.long (1 : Int64)), (.long (2 : Int64)), (.long (3 : Int64)), (.long (4 : Int64)), (.long (0 : Int64)), (.long (0 : Int64)), (.long (0 : Int64)), (.long (0 : Int64))] (.long (0 : Int64)) := Arv.set Ar287 q287 S287 N287 H287 G287 rfl W288 3 rfl (Nat.le_of_ble_eq_true rfl)
  have N288 := Fr.snoc X288 N285 g_b276
  refine own_go (fun _ k => XS.dup X288.here hx rfl (hb hby at_82) rfl rfl k) ?_
  refine own_go (fun _ k => XS.iconst X288.here hx rfl (hb hby at_83) k) ?_
  show own_Run p e below _ T288 (mkF m 84 #[.val (.int p1), .val (.long q2), .second, .val (.int p3), .val (.long q4), .second, .val (.int p5), .val (.int x7), .val (.ref o8), .unset, .unset, .unset, .unset, .unset, .unset, .unset, .unset, .unset, .unset, .unset] [(.int (4 : Int32)), (.ref b276), (.ref b276)])
  refine own_go (X288.ldc2Long hx hown (mvT hZ (W 5 rfl)) (g := (mkF m 84 #[.val (.int p1), .val (.long q2), .second, .val (.int p3), .val (.long q4), .second, .val (.int p5), .val (.int x7), .val (.ref o8), .unset, .unset, .unset, .unset, .unset, .unset, .unset, .unset, .unset, .unset, .unset] [(.int (4 : Int32)), (.ref b276), (.ref b276)])) rfl (hb hby at_84)) ?_
  show own_Run p e below _ T288 (mkF m 87 #[.val (.int p1), .val (.long q2), .second, .val (.int p3), .val (.long q4), .second, .val (.int p5), .val (.int x7), .val (.ref o8), .unset, .unset, .unset, .unset, .unset, .unset, .unset, .unset, .unset, .unset, .unset] [(.long (5 : Int64)), (.int (4 : Int32)), (.ref b276), (.ref b276)])
  obtain ⟨cl290, Ar290, q290, S290, N290, H290, G290⟩ := id V_b276_c288
  have hin290 : ¬ ((4 : Int32) < 0 ∨ cl290.slots.size ≤ ((4 : Int32)).toNatClampNeg) := inb_of S290 ⟨by decide, by decide⟩
  obtain ⟨T291, h291, X291, e291, W291, st291⟩ := stJ X288 hx hZ e288 Ar290 (j := (4 : Int32)) hin290 (g := (mkF m 87 #[.val (.int p1), .val (.long q2), .second, .val (.int p3), .val (.long q4), .second, .val (.int p5), .val (.int x7), .val (.ref o8), .unset, .unset, .unset, .unset, .unset, .unset, .unset, .unset, .unset, .unset, .unset] [(.long (5 : Int64)), (.int (4 : Int32)), (.ref b276), (.ref b276)])) rfl rfl (hb hby at_87)
  refine own_go st291 ?_
  show own_Run p e below _ T291 (mkF m 88 #[.val (.int p1), .val (.long q2), .second, .val (.int p3), .val (.long q4), .second, .val (.int p5), .val (.int x7), .val (.ref o8), .unset, .unset, .unset, .unset, .unset, .unset, .unset, .unset, .unset, .unset, .unset] [(.ref b276)])
  have Z0_c292 := Nat.le_trans Z0_c289 (Keep.of_wr W291).1
  have K0_c292 := K0_c289.wr W291 (Or.inr sz_b276)
  have V_o8_c292 := V_o8_c289.other W291 ne_o8_b276
  have V_b276_c291 : Arv Z h291 b276 k276 .long (8 : Int32) [(.long (1 : Int64)), (.long (2 : Int64)), (.long (3 : Int64)), (.long (4 : Int64)), (.long (5 : Int64)), (.long (0 : Int64)), (.long (0 : Int64)), (.long (0 : Int64))] (.long (0 : Int64)) := Arv.set Ar290 q290 S290 N290 H290 G290 rfl W291 4 rfl (Nat.le_of_ble_eq_true rfl)
  have N291 := Fr.snoc X291 N288 g_b276
  refine own_go (fun _ k => XS.dup X291.here hx rfl (hb hby at_88) rfl rfl k) ?_
  refine own_go (fun _ k => XS.iconst X291.here hx rfl (hb hby at_89) k) ?_
  show own_Run p e below _ T291 (mkF m 90 #[.val (.int p1), .val (.long q2), .second, .val (.int p3), .val (.long q4), .second, .val (.int p5), .val (.int x7), .val (.ref o8), .unset, .unset, .unset, .unset, .unset, .unset, .unset, .unset, .unset, .unset, .unset] [(.int (5 : Int32)), (.ref b276), (.ref b276)])
  refine own_go (X291.ldc2Long hx hown (mvT hZ (W 6 rfl)) (g := (mkF m 90 #[.val (.int p1), .val (.long q2), .second, .val (.int p3), .val (.long q4), .second, .val (.int p5), .val (.int x7), .val (.ref o8), .unset, .unset, .unset, .unset, .unset, .unset, .unset, .unset, .unset, .unset, .unset] [(.int (5 : Int32)), (.ref b276), (.ref b276)])) rfl (hb hby at_90)) ?_
  show own_Run p e below _ T291 (mkF m 93 #[.val (.int p1), .val (.long q2), .second, .val (.int p3), .val (.long q4), .second, .val (.int p5), .val (.int x7), .val (.ref o8), .unset, .unset, .unset, .unset, .unset, .unset, .unset, .unset, .unset, .unset, .unset] [(.long (6 : Int64)), (.int (5 : Int32)), (.ref b276), (.ref b276)])
  obtain ⟨cl293, Ar293, q293, S293, N293, H293, G293⟩ := id V_b276_c291
  have hin293 : ¬ ((5 : Int32) < 0 ∨ cl293.slots.size ≤ ((5 : Int32)).toNatClampNeg) := inb_of S293 ⟨by decide, by decide⟩
  obtain ⟨T294, h294, X294, e294, W294, st294⟩ := stJ X291 hx hZ e291 Ar293 (j := (5 : Int32)) hin293 (g := (mkF m 93 #[.val (.int p1), .val (.long q2), .second, .val (.int p3), .val (.long q4), .second, .val (.int p5), .val (.int x7), .val (.ref o8), .unset, .unset, .unset, .unset, .unset, .unset, .unset, .unset, .unset, .unset, .unset] [(.long (6 : Int64)), (.int (5 : Int32)), (.ref b276), (.ref b276)])) rfl rfl (hb hby at_93)
  refine own_go st294 ?_
  show own_Run p e below _ T294 (mkF m 94 #[.val (.int p1), .val (.long q2), .second, .val (.int p3), .val (.long q4), .second, .val (.int p5), .val (.int x7), .val (.ref o8), .unset, .unset, .unset, .unset, .unset, .unset, .unset, .unset, .unset, .unset, .unset] [(.ref b276)])
  have Z0_c295 := Nat.le_trans Z0_c292 (Keep.of_wr W294).1
  have K0_c295 := K0_c292.wr W294 (Or.inr sz_b276)
  have V_o8_c295 := V_o8_c292.other W294 ne_o8_b276
  have V_b276_c294 : Arv Z h294 b276 k276 .long (8 : Int32) [(.long (1 : Int64)), (.long (2 : Int64)), (.long (3 : Int64)), (.long (4 : Int64)), (.long (5 : Int64)), (.long (6 : Int64)), (.long (0 : Int64)), (.long (0 : Int64))] (.long (0 : Int64)) := Arv.set Ar293 q293 S293 N293 H293 G293 rfl W294 5 rfl (Nat.le_of_ble_eq_true rfl)
  have N294 := Fr.snoc X294 N291 g_b276
  refine own_go (fun _ k => XS.dup X294.here hx rfl (hb hby at_94) rfl rfl k) ?_
  refine own_go (fun _ k => XS.bipush X294.here hx rfl (hb hby at_95) k) ?_
  show own_Run p e below _ T294 (mkF m 97 #[.val (.int p1), .val (.long q2), .second, .val (.int p3), .val (.long q4), .second, .val (.int p5), .val (.int x7), .val (.ref o8), .unset, .unset, .unset, .unset, .unset, .unset, .unset, .unset, .unset, .unset, .unset] [(.int (6 : Int32)), (.ref b276), (.ref b276)])
  refine own_go (X294.ldc2Long hx hown (mvT hZ (W 7 rfl)) (g := (mkF m 97 #[.val (.int p1), .val (.long q2), .second, .val (.int p3), .val (.long q4), .second, .val (.int p5), .val (.int x7), .val (.ref o8), .unset, .unset, .unset, .unset, .unset, .unset, .unset, .unset, .unset, .unset, .unset] [(.int (6 : Int32)), (.ref b276), (.ref b276)])) rfl (hb hby at_97)) ?_
  show own_Run p e below _ T294 (mkF m 100 #[.val (.int p1), .val (.long q2), .second, .val (.int p3), .val (.long q4), .second, .val (.int p5), .val (.int x7), .val (.ref o8), .unset, .unset, .unset, .unset, .unset, .unset, .unset, .unset, .unset, .unset, .unset] [(.long (7 : Int64)), (.int (6 : Int32)), (.ref b276), (.ref b276)])
  obtain ⟨cl296, Ar296, q296, S296, N296, H296, G296⟩ := id V_b276_c294
  have hin296 : ¬ ((6 : Int32) < 0 ∨ cl296.slots.size ≤ ((6 : Int32)).toNatClampNeg) := inb_of S296 ⟨by decide, by decide⟩
  obtain ⟨T297, h297, X297, e297, W297, st297⟩ := stJ X294 hx hZ e294 Ar296 (j := (6 : Int32)) hin296 (g := (mkF m 100 #[.val (.int p1), .val (.long q2), .second, .val (.int p3), .val (.long q4), .second, .val (.int p5), .val (.int x7), .val (.ref o8), .unset, .unset, .unset, .unset, .unset, .unset, .unset, .unset, .unset, .unset, .unset] [(.long (7 : Int64)), (.int (6 : Int32)), (.ref b276), (.ref b276)])) rfl rfl (hb hby at_100)
  refine own_go st297 ?_
  show own_Run p e below _ T297 (mkF m 101 #[.val (.int p1), .val (.long q2), .second, .val (.int p3), .val (.long q4), .second, .val (.int p5), .val (.int x7), .val (.ref o8), .unset, .unset, .unset, .unset, .unset, .unset, .unset, .unset, .unset, .unset, .unset] [(.ref b276)])
  have Z0_c298 := Nat.le_trans Z0_c295 (Keep.of_wr W297).1
  have K0_c298 := K0_c295.wr W297 (Or.inr sz_b276)
  have V_o8_c298 := V_o8_c295.other W297 ne_o8_b276
  have V_b276_c297 : Arv Z h297 b276 k276 .long (8 : Int32) [(.long (1 : Int64)), (.long (2 : Int64)), (.long (3 : Int64)), (.long (4 : Int64)), (.long (5 : Int64)), (.long (6 : Int64)), (.long (7 : Int64)), (.long (0 : Int64))] (.long (0 : Int64)) := Arv.set Ar296 q296 S296 N296 H296 G296 rfl W297 6 rfl (Nat.le_of_ble_eq_true rfl)
  have N297 := Fr.snoc X297 N294 g_b276
  refine own_go (fun _ k => XS.dup X297.here hx rfl (hb hby at_101) rfl rfl k) ?_
  refine own_go (fun _ k => XS.bipush X297.here hx rfl (hb hby at_102) k) ?_
  show own_Run p e below _ T297 (mkF m 104 #[.val (.int p1), .val (.long q2), .second, .val (.int p3), .val (.long q4), .second, .val (.int p5), .val (.int x7), .val (.ref o8), .unset, .unset, .unset, .unset, .unset, .unset, .unset, .unset, .unset, .unset, .unset] [(.int (7 : Int32)), (.ref b276), (.ref b276)])
  refine own_go (X297.ldc2Long hx hown (mvT hZ (W 8 rfl)) (g := (mkF m 104 #[.val (.int p1), .val (.long q2), .second, .val (.int p3), .val (.long q4), .second, .val (.int p5), .val (.int x7), .val (.ref o8), .unset, .unset, .unset, .unset, .unset, .unset, .unset, .unset, .unset, .unset, .unset] [(.int (7 : Int32)), (.ref b276), (.ref b276)])) rfl (hb hby at_104)) ?_
  show own_Run p e below _ T297 (mkF m 107 #[.val (.int p1), .val (.long q2), .second, .val (.int p3), .val (.long q4), .second, .val (.int p5), .val (.int x7), .val (.ref o8), .unset, .unset, .unset, .unset, .unset, .unset, .unset, .unset, .unset, .unset, .unset] [(.long (8 : Int64)), (.int (7 : Int32)), (.ref b276), (.ref b276)])
  obtain ⟨cl299, Ar299, q299, S299, N299, H299, G299⟩ := id V_b276_c297
  have hin299 : ¬ ((7 : Int32) < 0 ∨ cl299.slots.size ≤ ((7 : Int32)).toNatClampNeg) := inb_of S299 ⟨by decide, by decide⟩
  obtain ⟨T300, h300, X300, e300, W300, st300⟩ := stJ X297 hx hZ e297 Ar299 (j := (7 : Int32)) hin299 (g := (mkF m 107 #[.val (.int p1), .val (.long q2), .second, .val (.int p3), .val (.long q4), .second, .val (.int p5), .val (.int x7), .val (.ref o8), .unset, .unset, .unset, .unset, .unset, .unset, .unset, .unset, .unset, .unset, .unset] [(.long (8 : Int64)), (.int (7 : Int32)), (.ref b276), (.ref b276)])) rfl rfl (hb hby at_107)
  refine own_go st300 ?_
  show own_Run p e below _ T300 (mkF m 108 #[.val (.int p1), .val (.long q2), .second, .val (.int p3), .val (.long q4), .second, .val (.int p5), .val (.int x7), .val (.ref o8), .unset, .unset, .unset, .unset, .unset, .unset, .unset, .unset, .unset, .unset, .unset] [(.ref b276)])
  have Z0_c301 := Nat.le_trans Z0_c298 (Keep.of_wr W300).1
  have K0_c301 := K0_c298.wr W300 (Or.inr sz_b276)
  have V_o8_c301 := V_o8_c298.other W300 ne_o8_b276
  have V_b276_c300 : Arv Z h300 b276 k276 .long (8 : Int32) [(.long (1 : Int64)), (.long (2 : Int64)), (.long (3 : Int64)), (.long (4 : Int64)), (.long (5 : Int64)), (.long (6 : Int64)), (.long (7 : Int64)), (.long (8 : Int64))] (.long (0 : Int64)) := Arv.set Ar299 q299 S299 N299 H299 G299 rfl W300 7 rfl (Nat.le_of_ble_eq_true rfl)
  have N300 := Fr.snoc X300 N297 g_b276
  refine own_go (fun _ k => XS.astore X300.here hx rfl (hb hby at_108) rfl rfl (l' := #[.val (.int p1), .val (.long q2), .second, .val (.int p3), .val (.long q4), .second, .val (.int p5), .val (.int x7), .val (.ref o8), .val (.ref b276), .unset, .unset, .unset, .unset, .unset, .unset, .unset, .unset, .unset, .unset]) rfl k) ?_
  show own_Run p e below _ T300 (mkF m 110 #[.val (.int p1), .val (.long q2), .second, .val (.int p3), .val (.long q4), .second, .val (.int p5), .val (.int x7), .val (.ref o8), .val (.ref b276), .unset, .unset, .unset, .unset, .unset, .unset, .unset, .unset, .unset, .unset] [])
  exact seg110 p1 q2 p3 q4 p5 h0 n0 hx hZ hw hby hml hown hnm hret hlk x7 o8 k8 b276 k276 T300 h300 _ X300 e300 N300 Z0_c301 K0_c301 V_o8_c301 V_b276_c300 (hx7) g_o8 g_b276 sz_o8 sz_b276 ne_o8_b276 
set_option maxRecDepth 65536 in
set_option maxHeartbeats 40000000 in
theorem seg14 {p : Program} {l : Launch} {e : Env} {s : State} {m : MethodId} {args : Array Value} {below : List Frame} {meth : Method} {c : Code} {Z : State} {a0 : Array Value} (p1 : Int32) (q2 : Int64) (p3 : Int32) (q4 : Int64) (p5 : Int32) (h0 : Heap) (n0 : Nat) (hx : p.tables.exec = Jvm.exec) (hZ : Z.Warmed39 s.vm) (hw : ∀ d ∈ tables_1, d.before a0 Z = true) (hby : c.code = code) (hml : c.maxLocals = 20) (hown : s.vm.findClass "com/example/net_reducer/netreducer/analysis/MarkingAddPinLaw" = some m.cls) (hnm : meth.name = "law") (hret : meth.sig.returnType = some .boolean) (hlk : meth.locks = false)
    (x7 : Int32) (T0 : State) (hh : Heap) (locs : List Loc) (X0 : Stand p l e room_1 s m args below meth c T0 locs 0 0) (e0 : T0.heap = hh) (N0 : Fr n0 locs) (Z0 : n0 ≤ hh.size) (K0 : Keep h0 hh []) (hx7 : x7 = (0 : Int32) ∨ x7 = (1 : Int32)) :
    own_Run p e below (fun o U' => ∃ v L, o = .returned v ∧ Q0 Z p1 q2 p3 q4 p5 h0 n0 v U'.heap L ∧ FrameEnd s o U' L room_1.cells room_1.slots) T0 (mkF m 14 #[.val (.int p1), .val (.long q2), .second, .val (.int p3), .val (.long q4), .second, .val (.int p5), .val (.int x7), .unset, .unset, .unset, .unset, .unset, .unset, .unset, .unset, .unset, .unset, .unset, .unset] []) := by
  have W := fun (k : Nat) {d : Jvm.Cond} (h : tables_1[k]? = some d) => hw d (List.mem_of_getElem? h)
  show own_Run p e below _ T0 (mkF m 14 #[.val (.int p1), .val (.long q2), .second, .val (.int p3), .val (.long q4), .second, .val (.int p5), .val (.int x7), .unset, .unset, .unset, .unset, .unset, .unset, .unset, .unset, .unset, .unset, .unset, .unset] [])
  refine own_go (fun _ k => XS.bipush X0.here hx rfl (hb hby at_14) k) ?_
  show own_Run p e below _ T0 (mkF m 16 #[.val (.int p1), .val (.long q2), .second, .val (.int p3), .val (.long q4), .second, .val (.int p5), .val (.int x7), .unset, .unset, .unset, .unset, .unset, .unset, .unset, .unset, .unset, .unset, .unset, .unset] [(.int (8 : Int32))])
  obtain ⟨T302, h302, k302, X302, e302, E302, A302, st302⟩ := newP X0 hx hZ (W 0 rfl) e0 (g := (mkF m 16 #[.val (.int p1), .val (.long q2), .second, .val (.int p3), .val (.long q4), .second, .val (.int p5), .val (.int x7), .unset, .unset, .unset, .unset, .unset, .unset, .unset, .unset, .unset, .unset, .unset, .unset] [(.int (8 : Int32))])) rfl (hb hby at_16) rfl (by decide) (cap := 8) (by decide) (by decide) (by decide) (by decide)
  refine own_go st302 ?_
  obtain ⟨b302, g302⟩ : ∃ z, z = hh.size := ⟨_, rfl⟩
  rw [← g302] at A302
  rw [← g302]
  show own_Run p e below _ T302 (mkF m 18 #[.val (.int p1), .val (.long q2), .second, .val (.int p3), .val (.long q4), .second, .val (.int p5), .val (.int x7), .unset, .unset, .unset, .unset, .unset, .unset, .unset, .unset, .unset, .unset, .unset, .unset] [(.ref b302)])
  have g_b302 : n0 ≤ b302 := Nat.le_trans Z0 (Nat.le_of_eq g302.symm)
  have sz_b302 : h0.size ≤ b302 := Nat.le_trans K0.1 (Nat.le_of_eq g302.symm)
  have Z0_c303 := Nat.le_trans Z0 E302.1
  have K0_c303 := K0.ext E302
  have V_b302 : Arv Z h302 b302 k302 .int (8 : Int32) [(.int (0 : Int32)), (.int (0 : Int32)), (.int (0 : Int32)), (.int (0 : Int32)), (.int (0 : Int32)), (.int (0 : Int32)), (.int (0 : Int32)), (.int (0 : Int32))] (.int (0 : Int32)) := (Arv.new A302 (by decide)).pad (pad_rep [] (.int (0 : Int32)) 8)
  refine own_go (fun _ k => XS.dup X302.here hx rfl (hb hby at_18) rfl rfl k) ?_
  refine own_go (fun _ k => XS.iconst X302.here hx rfl (hb hby at_19) k) ?_
  refine own_go (fun _ k => XS.iconst X302.here hx rfl (hb hby at_20) k) ?_
  show own_Run p e below _ T302 (mkF m 21 #[.val (.int p1), .val (.long q2), .second, .val (.int p3), .val (.long q4), .second, .val (.int p5), .val (.int x7), .unset, .unset, .unset, .unset, .unset, .unset, .unset, .unset, .unset, .unset, .unset, .unset] [(.int (0 : Int32)), (.int (0 : Int32)), (.ref b302), (.ref b302)])
  obtain ⟨cl304, Ar304, q304, S304, N304, H304, G304⟩ := id V_b302
  have hin304 : ¬ ((0 : Int32) < 0 ∨ cl304.slots.size ≤ ((0 : Int32)).toNatClampNeg) := inb_of S304 ⟨by decide, by decide⟩
  obtain ⟨T305, h305, X305, e305, W305, st305⟩ := stI X302 hx hZ e302 Ar304 (j := (0 : Int32)) hin304 (g := (mkF m 21 #[.val (.int p1), .val (.long q2), .second, .val (.int p3), .val (.long q4), .second, .val (.int p5), .val (.int x7), .unset, .unset, .unset, .unset, .unset, .unset, .unset, .unset, .unset, .unset, .unset, .unset] [(.int (0 : Int32)), (.int (0 : Int32)), (.ref b302), (.ref b302)])) rfl rfl (hb hby at_21)
  refine own_go st305 ?_
  show own_Run p e below _ T305 (mkF m 22 #[.val (.int p1), .val (.long q2), .second, .val (.int p3), .val (.long q4), .second, .val (.int p5), .val (.int x7), .unset, .unset, .unset, .unset, .unset, .unset, .unset, .unset, .unset, .unset, .unset, .unset] [(.ref b302)])
  have Z0_c306 := Nat.le_trans Z0_c303 (Keep.of_wr W305).1
  have K0_c306 := K0_c303.wr W305 (Or.inr sz_b302)
  have V_b302_c305 : Arv Z h305 b302 k302 .int (8 : Int32) [(.int (0 : Int32)), (.int (0 : Int32)), (.int (0 : Int32)), (.int (0 : Int32)), (.int (0 : Int32)), (.int (0 : Int32)), (.int (0 : Int32)), (.int (0 : Int32))] (.int (0 : Int32)) := Arv.set Ar304 q304 S304 N304 H304 G304 rfl W305 0 rfl (Nat.le_of_ble_eq_true rfl)
  have N305 := Fr.snoc X305 N0 g_b302
  refine own_go (fun _ k => XS.dup X305.here hx rfl (hb hby at_22) rfl rfl k) ?_
  refine own_go (fun _ k => XS.iconst X305.here hx rfl (hb hby at_23) k) ?_
  refine own_go (fun _ k => XS.iconst X305.here hx rfl (hb hby at_24) k) ?_
  show own_Run p e below _ T305 (mkF m 25 #[.val (.int p1), .val (.long q2), .second, .val (.int p3), .val (.long q4), .second, .val (.int p5), .val (.int x7), .unset, .unset, .unset, .unset, .unset, .unset, .unset, .unset, .unset, .unset, .unset, .unset] [(.int (1 : Int32)), (.int (1 : Int32)), (.ref b302), (.ref b302)])
  obtain ⟨cl307, Ar307, q307, S307, N307, H307, G307⟩ := id V_b302_c305
  have hin307 : ¬ ((1 : Int32) < 0 ∨ cl307.slots.size ≤ ((1 : Int32)).toNatClampNeg) := inb_of S307 ⟨by decide, by decide⟩
  obtain ⟨T308, h308, X308, e308, W308, st308⟩ := stI X305 hx hZ e305 Ar307 (j := (1 : Int32)) hin307 (g := (mkF m 25 #[.val (.int p1), .val (.long q2), .second, .val (.int p3), .val (.long q4), .second, .val (.int p5), .val (.int x7), .unset, .unset, .unset, .unset, .unset, .unset, .unset, .unset, .unset, .unset, .unset, .unset] [(.int (1 : Int32)), (.int (1 : Int32)), (.ref b302), (.ref b302)])) rfl rfl (hb hby at_25)
  refine own_go st308 ?_
  show own_Run p e below _ T308 (mkF m 26 #[.val (.int p1), .val (.long q2), .second, .val (.int p3), .val (.long q4), .second, .val (.int p5), .val (.int x7), .unset, .unset, .unset, .unset, .unset, .unset, .unset, .unset, .unset, .unset, .unset, .unset] [(.ref b302)])
  have Z0_c309 := Nat.le_trans Z0_c306 (Keep.of_wr W308).1
  have K0_c309 := K0_c306.wr W308 (Or.inr sz_b302)
  have V_b302_c308 : Arv Z h308 b302 k302 .int (8 : Int32) [(.int (0 : Int32)), (.int (1 : Int32)), (.int (0 : Int32)), (.int (0 : Int32)), (.int (0 : Int32)), (.int (0 : Int32)), (.int (0 : Int32)), (.int (0 : Int32))] (.int (0 : Int32)) := Arv.set Ar307 q307 S307 N307 H307 G307 rfl W308 1 rfl (Nat.le_of_ble_eq_true rfl)
  have N308 := Fr.snoc X308 N305 g_b302
  refine own_go (fun _ k => XS.dup X308.here hx rfl (hb hby at_26) rfl rfl k) ?_
  refine own_go (fun _ k => XS.iconst X308.here hx rfl (hb hby at_27) k) ?_
  refine own_go (fun _ k => XS.iconst X308.here hx rfl (hb hby at_28) k) ?_
  show own_Run p e below _ T308 (mkF m 29 #[.val (.int p1), .val (.long q2), .second, .val (.int p3), .val (.long q4), .second, .val (.int p5), .val (.int x7), .unset, .unset, .unset, .unset, .unset, .unset, .unset, .unset, .unset, .unset, .unset, .unset] [(.int (2 : Int32)), (.int (2 : Int32)), (.ref b302), (.ref b302)])
  obtain ⟨cl310, Ar310, q310, S310, N310, H310, G310⟩ := id V_b302_c308
  have hin310 : ¬ ((2 : Int32) < 0 ∨ cl310.slots.size ≤ ((2 : Int32)).toNatClampNeg) := inb_of S310 ⟨by decide, by decide⟩
  obtain ⟨T311, h311, X311, e311, W311, st311⟩ := stI X308 hx hZ e308 Ar310 (j := (2 : Int32)) hin310 (g := (mkF m 29 #[.val (.int p1), .val (.long q2), .second, .val (.int p3), .val (.long q4), .second, .val (.int p5), .val (.int x7), .unset, .unset, .unset, .unset, .unset, .unset, .unset, .unset, .unset, .unset, .unset, .unset] [(.int (2 : Int32)), (.int (2 : Int32)), (.ref b302), (.ref b302)])) rfl rfl (hb hby at_29)
  refine own_go st311 ?_
  show own_Run p e below _ T311 (mkF m 30 #[.val (.int p1), .val (.long q2), .second, .val (.int p3), .val (.long q4), .second, .val (.int p5), .val (.int x7), .unset, .unset, .unset, .unset, .unset, .unset, .unset, .unset, .unset, .unset, .unset, .unset] [(.ref b302)])
  have Z0_c312 := Nat.le_trans Z0_c309 (Keep.of_wr W311).1
  have K0_c312 := K0_c309.wr W311 (Or.inr sz_b302)
  have V_b302_c311 : Arv Z h311 b302 k302 .int (8 : Int32) [(.int (0 : Int32)), (.int (1 : Int32)), (.int (2 : Int32)), (.int (0 : Int32)), (.int (0 : Int32)), (.int (0 : Int32)), (.int (0 : Int32)), (.int (0 : Int32))] (.int (0 : Int32)) := Arv.set Ar310 q310 S310 N310 H310 G310 rfl W311 2 rfl (Nat.le_of_ble_eq_true rfl)
  have N311 := Fr.snoc X311 N308 g_b302
  refine own_go (fun _ k => XS.dup X311.here hx rfl (hb hby at_30) rfl rfl k) ?_
  refine own_go (fun _ k => XS.iconst X311.here hx rfl (hb hby at_31) k) ?_
  refine own_go (fun _ k => XS.iconst X311.here hx rfl (hb hby at_32) k) ?_
  show own_Run p e below _ T311 (mkF m 33 #[.val (.int p1), .val (.long q2), .second, .val (.int p3), .val (.long q4), .second, .val (.int p5), .val (.int x7), .unset, .unset, .unset, .unset, .unset, .unset, .unset, .unset, .unset, .unset, .unset, .unset] [(.int (3 : Int32)), (.int (3 : Int32)), (.ref b302), (.ref b302)])
  obtain ⟨cl313, Ar313, q313, S313, N313, H313, G313⟩ := id V_b302_c311
  have hin313 : ¬ ((3 : Int32) < 0 ∨ cl313.slots.size ≤ ((3 : Int32)).toNatClampNeg) := inb_of S313 ⟨by decide, by decide⟩
  obtain ⟨T314, h314, X314, e314, W314, st314⟩ := stI X311 hx hZ e311 Ar313 (j := (3 : Int32)) hin313 (g := (mkF m 33 #[.val (.int p1), .val (.long q2), .second, .val (.int p3), .val (.long q4), .second, .val (.int p5), .val (.int x7), .unset, .unset, .unset, .unset, .unset, .unset, .unset, .unset, .unset, .unset, .unset, .unset] [(.int (3 : Int32)), (.int (3 : Int32)), (.ref b302), (.ref b302)])) rfl rfl (hb hby at_33)
  refine own_go st314 ?_
  show own_Run p e below _ T314 (mkF m 34 #[.val (.int p1), .val (.long q2), .second, .val (.int p3), .val (.long q4), .second, .val (.int p5), .val (.int x7), .unset, .unset, .unset, .unset, .unset, .unset, .unset, .unset, .unset, .unset, .unset, .unset] [(.ref b302)])
  have Z0_c315 := Nat.le_trans Z0_c312 (Keep.of_wr W314).1
  have K0_c315 := K0_c312.wr W314 (Or.inr sz_b302)
  have V_b302_c314 : Arv Z h314 b302 k302 .int (8 : Int32) [(.int (0 : Int32)), (.int (1 : Int32)), (.int (2 : Int32)), (.int (3 : Int32)), (.int (0 : Int32)), (.int (0 : Int32)), (.int (0 : Int32)), (.int (0 : Int32))] (.int (0 : Int32)) := Arv.set Ar313 q313 S313 N313 H313 G313 rfl W314 3 rfl (Nat.le_of_ble_eq_true rfl)
  have N314 := Fr.snoc X314 N311 g_b302
  refine own_go (fun _ k => XS.dup X314.here hx rfl (hb hby at_34) rfl rfl k) ?_
  refine own_go (fun _ k => XS.iconst X314.here hx rfl (hb hby at_35) k) ?_
  refine own_go (fun _ k => XS.iconst X314.here hx rfl (hb hby at_36) k) ?_
  show own_Run p e below _ T314 (mkF m 37 #[.val (.int p1), .val (.long q2), .second, .val (.int p3), .val (.long q4), .second, .val (.int p5), .val (.int x7), .unset, .unset, .unset, .unset, .unset, .unset, .unset, .unset, .unset, .unset, .unset, .unset] [(.int (4 : Int32)), (.int (4 : Int32)), (.ref b302), (.ref b302)])
  obtain ⟨cl316, Ar316, q316, S316, N316, H316, G316⟩ := id V_b302_c314
  have hin316 : ¬ ((4 : Int32) < 0 ∨ cl316.slots.size ≤ ((4 : Int32)).toNatClampNeg) := inb_of S316 ⟨by decide, by decide⟩
  obtain ⟨T317, h317, X317, e317, W317, st317⟩ := stI X314 hx hZ e314 Ar316 (j := (4 : Int32)) hin316 (g := (mkF m 37 #[.val (.int p1), .val (.long q2), .second, .val (.int p3), .val (.long q4), .second, .val (.int p5), .val (.int x7), .unset, .unset, .unset, .unset, .unset, .unset, .unset, .unset, .unset, .unset, .unset, .unset] [(.int (4 : Int32)), (.int (4 : Int32)), (.ref b302), (.ref b302)])) rfl rfl (hb hby at_37)
  refine own_go st317 ?_
  show own_Run p e below _ T317 (mkF m 38 #[.val (.int p1), .val (.long q2), .second, .val (.int p3), .val (.long q4), .second, .val (.int p5), .val (.int x7), .unset, .unset, .unset, .unset, .unset, .unset, .unset, .unset, .unset, .unset, .unset, .unset] [(.ref b302)])
  have Z0_c318 := Nat.le_trans Z0_c315 (Keep.of_wr W317).1
  have K0_c318 := K0_c315.wr W317 (Or.inr sz_b302)
  have V_b302_c317 : Arv Z h317 b302 k302 .int (8 : Int32) [(.int (0 : Int32)), (.int (1 : Int32)), (.int (2 : Int32)), (.int (3 : Int32)), (.int (4 : Int32)), (.int (0 : Int32)), (.int (0 : Int32)), (.int (0 : Int32))] (.int (0 : Int32)) := Arv.set Ar316 q316 S316 N316 H316 G316 rfl W317 4 rfl (Nat.le_of_ble_eq_true rfl)
  have N317 := Fr.snoc X317 N314 g_b302
  refine own_go (fun _ k => XS.dup X317.here hx rfl (hb hby at_38) rfl rfl k) ?_
  refine own_go (fun _ k => XS.iconst X317.here hx rfl (hb hby at_39) k) ?_
  refine own_go (fun _ k => XS.iconst X317.here hx rfl (hb hby at_40) k) ?_
  show own_Run p e below _ T317 (mkF m 41 #[.val (.int p1), .val (.long q2), .second, .val (.int p3), .val (.long q4), .second, .val (.int p5), .val (.int x7), .unset, .unset, .unset, .unset, .unset, .unset, .unset, .unset, .unset, .unset, .unset, .unset] [(.int (5 : Int32)), (.int (5 : Int32)), (.ref b302), (.ref b302)])
  obtain ⟨cl319, Ar319, q319, S319, N319, H319, G319⟩ := id V_b302_c317
  have hin319 : ¬ ((5 : Int32) < 0 ∨ cl319.slots.size ≤ ((5 : Int32)).toNatClampNeg) := inb_of S319 ⟨by decide, by decide⟩
  obtain ⟨T320, h320, X320, e320, W320, st320⟩ := stI X317 hx hZ e317 Ar319 (j := (5 : Int32)) hin319 (g := (mkF m 41 #[.val (.int p1), .val (.long q2), .second, .val (.int p3), .val (.long q4), .second, .val (.int p5), .val (.int x7), .unset, .unset, .unset, .unset, .unset, .unset, .unset, .unset, .unset, .unset, .unset, .unset] [(.int (5 : Int32)), (.int (5 : Int32)), (.ref b302), (.ref b302)])) rfl rfl (hb hby at_41)
  refine own_go st320 ?_
  show own_Run p e below _ T320 (mkF m 42 #[.val (.int p1), .val (.long q2), .second, .val (.int p3), .val (.long q4), .second, .val (.int p5), .val (.int x7), .unset, .unset, .unset, .unset, .unset, .unset, .unset, .unset, .unset, .unset, .unset, .unset] [(.ref b302)])
  have Z0_c321 := Nat.le_trans Z0_c318 (Keep.of_wr W320).1
  have K0_c321 := K0_c318.wr W320 (Or.inr sz_b302)
  have V_b302_c320 : Arv Z h320 b302 k302 .int (8 : Int32) [(.int (0 : Int32)), (.int (1 : Int32)), (.int (2 : Int32)), (.int (3 : Int32)), (.int (4 : Int32)), (.int (5 : Int32)), (.int (0 : Int32)), (.int (0 : Int32))] (.int (0 : Int32)) := Arv.set Ar319 q319 S319 N319 H319 G319 rfl W320 5 rfl (Nat.le_of_ble_eq_true rfl)
  have N320 := Fr.snoc X320 N317 g_b302
  refine own_go (fun _ k => XS.dup X320.here hx rfl (hb hby at_42) rfl rfl k) ?_
  refine own_go (fun _ k => XS.bipush X320.here hx rfl (hb hby at_43) k) ?_
  refine own_go (fun _ k => XS.bipush X320.here hx rfl (hb hby at_45) k) ?_
  show own_Run p e below _ T320 (mkF m 47 #[.val (.int p1), .val (.long q2), .second, .val (.int p3), .val (.long q4), .second, .val (.int p5), .val (.int x7), .unset, .unset, .unset, .unset, .unset, .unset, .unset, .unset, .unset, .unset, .unset, .unset] [(.int (6 : Int32)), (.int (6 : Int32)), (.ref b302), (.ref b302)])
  obtain ⟨cl322, Ar322, q322, S322, N322, H322, G322⟩ := id V_b302_c320
  have hin322 : ¬ ((6 : Int32) < 0 ∨ cl322.slots.size ≤ ((6 : Int32)).toNatClampNeg) := inb_of S322 ⟨by decide, by decide⟩
  obtain ⟨T323, h323, X323, e323, W323, st323⟩ := stI X320 hx hZ e320 Ar322 (j := (6 : Int32)) hin322 (g := (mkF m 47 #[.val (.int p1), .val (.long q2), .second, .val (.int p3), .val (.long q4), .second, .val (.int p5), .val (.int x7), .unset, .unset, .unset, .unset, .unset, .unset, .unset, .unset, .unset, .unset, .unset, .unset] [(.int (6 : Int32)), (.int (6 : Int32)), (.ref b302), (.ref b302)])) rfl rfl (hb hby at_47)
  refine own_go st323 ?_
  show own_Run p e below _ T323 (mkF m 48 #[.val (.int p1), .val (.long q2), .second, .val (.int p3), .val (.long q4), .second, .val (.int p5), .val (.int x7), .unset, .unset, .unset, .unset, .unset, .unset, .unset, .unset, .unset, .unset, .unset, .unset] [(.ref b302)])
  have Z0_c324 := Nat.le_trans Z0_c321 (Keep.of_wr W323).1
  have K0_c324 := K0_c321.wr W323 (Or.inr sz_b302)
  have V_b302_c323 : Arv Z h323 b302 k302 .int (8 : Int32) [(.int (0 : Int32)), (.int (1 : Int32)), (.int (2 : Int32)), (.int (3 : Int32)), (.int (4 : Int32)), (.int (5 : Int32)), (.int (6 : Int32)), (.int (0 : Int32))] (.int (0 : Int32)) := Arv.set Ar322 q322 S322 N322 H322 G322 rfl W323 6 rfl (Nat.le_of_ble_eq_true rfl)
  have N323 := Fr.snoc X323 N320 g_b302
  refine own_go (fun _ k => XS.dup X323.here hx rfl (hb hby at_48) rfl rfl k) ?_
  refine own_go (fun _ k => XS.bipush X323.here hx rfl (hb hby at_49) k) ?_
  refine own_go (fun _ k => XS.bipush X323.here hx rfl (hb hby at_51) k) ?_
  show own_Run p e below _ T323 (mkF m 53 #[.val (.int p1), .val (.long q2), .second, .val (.int p3), .val (.long q4), .second, .val (.int p5), .val (.int x7), .unset, .unset, .unset, .unset, .unset, .unset, .unset, .unset, .unset, .unset, .unset, .unset] [(.int (7 : Int32)), (.int (7 : Int32)), (.ref b302), (.ref b302)])
  obtain ⟨cl325, Ar325, q325, S325, N325, H325, G325⟩ := id V_b302_c323
  have hin325 : ¬ ((7 : Int32) < 0 ∨ cl325.slots.size ≤ ((7 : Int32)).toNatClampNeg) := inb_of S325 ⟨by decide, by decide⟩
  obtain ⟨T326, h326, X326, e326, W326, st326⟩ := stI X323 hx hZ e323 Ar325 (j := (7 : Int32)) hin325 (g := (mkF m 53 #[.val (.int p1), .val (.long q2), .second, .val (.int p3), .val (.long q4), .second, .val (.int p5), .val (.int x7), .unset, .unset, .unset, .unset, .unset, .unset, .unset, .unset, .unset, .unset, .unset, .unset] [(.int (7 : Int32)), (.int (7 : Int32)), (.ref b302), (.ref b302)])) rfl rfl (hb hby at_53)
  refine own_go st326 ?_
  show own_Run p e below _ T326 (mkF m 54 #[.val (.int p1), .val (.long q2), .second, .val (.int p3), .val (.long q4), .second, .val (.int p5), .val (.int x7), .unset, .unset, .unset, .unset, .unset, .unset, .unset, .unset, .unset, .unset, .unset, .unset] [(.ref b302)])
  have Z0_c327 := Nat.le_trans Z0_c324 (Keep.of_wr W326).1
  have K0_c327 := K0_c324.wr W326 (Or.inr sz_b302)
  have V_b302_c326 : Arv Z h326 b302 k302 .int (8 : Int32) [(.int (0 : Int32)), (.int (1 : Int32)), (.int (2 : Int32)), (.int (3 : Int32)), (.int (4 : Int32)), (.int (5 : Int32)), (.int (6 : Int32)), (.int (7 : Int32))] (.int (0 : Int32)) := Arv.set Ar325 q325 S325 N325 H325 G325 rfl W326 7 rfl (Nat.le_of_ble_eq_true rfl)
  have N326 := Fr.snoc X326 N323 g_b302
  refine own_go (fun _ k => XS.astore X326.here hx rfl (hb hby at_54) rfl rfl (l' := #[.val (.int p1), .val (.long q2), .second, .val (.int p3), .val (.long q4), .second, .val (.int p5), .val (.int x7), .val (.ref b302), .unset, .unset, .unset, .unset, .unset, .unset, .unset, .unset, .unset, .unset, .unset]) rfl k) ?_
  show own_Run p e below _ T326 (mkF m 56 #[.val (.int p1), .val (.long q2), .second, .val (.int p3), .val (.long q4), .second, .val (.int p5), .val (.int x7), .val (.ref b302), .unset, .unset, .unset, .unset, .unset, .unset, .unset, .unset, .unset, .unset, .unset] [])
  exact seg56 p1 q2 p3 q4 p5 h0 n0 hx hZ hw hby hml hown hnm hret hlk x7 b302 k302 T326 h326 _ X326 e326 N326 Z0_c327 K0_c327 V_b302_c326 (hx7) g_b302 sz_b302 
theorem ef_0 (m : MethodId) (x0 : Int32) (x1 : Int64) (x2 : Int32) (x3 : Int64) (x4 : Int32) : entryFrame m #[(.int x0), (.long x1), (.int x2), (.long x3), (.int x4)] maxLocals = mkF m 0 #[.val (.int x0), .val (.long x1), .second, .val (.int x2), .val (.long x3), .second, .val (.int x4), .unset, .unset, .unset, .unset, .unset, .unset, .unset, .unset, .unset, .unset, .unset, .unset, .unset] [] := by first | (simp [entryFrame, mkF, argsToLocals, Value.category, maxLocals]; done) | rfl
set_option maxRecDepth 65536 in
set_option maxHeartbeats 40000000 in
theorem rm0 (l : Launch) (Z : State) (a0 : Array Value) (hw : ∀ d ∈ tables_1, d.before a0 Z = true) (ws : List Jvm.Cond) (p1 : Int32) (q2 : Int64) (p3 : Int32) (q4 : Int64) (p5 : Int32) (h0 : Heap) (n0 : Nat) (Z0 : n0 ≤ h0.size) :
    MetFree l x (head1 (Jvm.Cond.code x code maxLocals ret :: ws) room_1) (fun a U => a = #[(.int p1), (.long q2), (.int p3), (.long q4), (.int p5)] ∧ Z.Warmed39 U.vm ∧ U.heap = h0) (fun _ _ _ _ _ => True) (fun _ U o U' => ∃ v L, o = .returned v ∧ Q0 Z p1 q2 p3 q4 p5 h0 n0 v U'.heap L ∧ FrameEnd U o U' L room_1.cells room_1.slots) := by
  refine MetFree.of_bodySF (plainFor_of_name pn_0) hisR ?_
  intro p e s m args below meth c s₁ Bd hml0 hP hK
  obtain ⟨rfl, hZ, hh⟩ := hP
  have hx := Bd.exec
  have hby := Bd.bytes
  have hml : c.maxLocals = 20 := hml0
  have hown : s.vm.findClass "com/example/net_reducer/netreducer/analysis/MarkingAddPinLaw" = some m.cls := findClass_of_methodNamed Bd.named
  have hnm := (name_of_methodNamed Bd.named Bd.method).1
  have hret := Bd.returns
  have hlk : meth.locks = false := BodyLoose.notSynchronized Bd
  have X0 : Stand p l e room_1 s m #[(.int p1), (.long q2), (.int p3), (.long q4), (.int p5)] below meth c s₁ [] 0 0 := Stand.of_body Bd
  have e0 : s₁.heap = h0 := by rw [← hh, Bd.state]; rfl
  have N0 := Fr.nil n0
  have W := fun (k : Nat) {d : Jvm.Cond} (h : tables_1[k]? = some d) => hw d (List.mem_of_getElem? h)
  have K0 : Keep h0 h0 [] := Keep.refl _ _
  refine own_start (ef_0 m p1 q2 p3 q4 p5) ?_
  show own_Run p e below _ s₁ (mkF m 0 #[.val (.int p1), .val (.long q2), .second, .val (.int p3), .val (.long q4), .second, .val (.int p5), .unset, .unset, .unset, .unset, .unset, .unset, .unset, .unset, .unset, .unset, .unset, .unset, .unset] [])
  refine own_go (fun _ k => XS.iload X0.here hx rfl (hb hby at_0) rfl k) ?_
  refine own_go (fun _ k => XS.iconst X0.here hx rfl (hb hby at_2) k) ?_
  refine own_go (fun _ k => XS.iand X0.here hx rfl (hb hby at_3) rfl k) ?_
  show own_Run p e below _ s₁ (mkF m 4 #[.val (.int p1), .val (.long q2), .second, .val (.int p3), .val (.long q4), .second, .val (.int p5), .unset, .unset, .unset, .unset, .unset, .unset, .unset, .unset, .unset, .unset, .unset, .unset, .unset] [(.int (p5 &&& (1 : Int32)))])
  by_cases hc4_328 : (p5 &&& (1 : Int32)) = (0 : Int32)
  · refine own_go (fun _ k => XS.ifYes X0.here hx rfl (pc0 := 4) (pc' := 11) rfl (hb hby at_4) rfl ((if0 _ _).trans (teq hc4_328).1) (by decide) (by decide) k) ?_
    show own_Run p e below _ s₁ (mkF m 11 #[.val (.int p1), .val (.long q2), .second, .val (.int p3), .val (.long q4), .second, .val (.int p5), .unset, .unset, .unset, .unset, .unset, .unset, .unset, .unset, .unset, .unset, .unset, .unset, .unset] [])
    refine own_go (fun _ k => XS.iconst X0.here hx rfl (hb hby at_11) k) ?_
    refine own_go (fun _ k => XS.istore X0.here hx rfl (hb hby at_12) rfl (l' := #[.val (.int p1), .val (.long q2), .second, .val (.int p3), .val (.long q4), .second, .val (.int p5), .val (.int (0 : Int32)), .unset, .unset, .unset, .unset, .unset, .unset, .unset, .unset, .unset, .unset, .unset, .unset]) rfl k) ?_
    show own_Run p e below _ s₁ (mkF m 14 #[.val (.int p1), .val (.long q2), .second, .val (.int p3), .val (.long q4), .second, .val (.int p5), .val (.int (0 : Int32)), .unset, .unset, .unset, .unset, .unset, .unset, .unset, .unset, .unset, .unset, .unset, .unset] [])
    exact seg14 p1 q2 p3 q4 p5 h0 n0 hx hZ hw hby hml hown hnm hret hlk (0 : Int32) s₁ h0 _ X0 e0 N0 Z0 K0 (Or.inl rfl) 
  · refine own_go (fun _ k => XS.ifNo X0.here hx rfl (hb hby at_4) rfl ((if0 _ _).trans (feq hc4_328).1) k) ?_
    show own_Run p e below _ s₁ (mkF m 7 #[.val (.int p1), .val (.long q2), .second, .val (.int p3), .val (.long q4), .second, .val (.int p5), .unset, .unset, .unset, .unset, .unset, .unset, .unset, .unset, .unset, .unset, .unset, .unset, .unset] [])
    refine own_go (fun _ k => XS.iconst X0.here hx rfl (hb hby at_7) k) ?_
    refine own_go (fun _ k => XS.goto X0.here hx rfl (pc0 := 8) (pc' := 12) rfl (hb hby at_8) (by decide) (by decide) k) ?_
    refine own_go (fun _ k => XS.istore X0.here hx rfl (hb hby at_12) rfl (l' := #[.val (.int p1), .val (.long q2), .second, .val (.int p3), .val (.long q4), .second, .val (.int p5), .val (.int (1 : Int32)), .unset, .unset, .unset, .unset, .unset, .unset, .unset, .unset, .unset, .unset, .unset, .unset]) rfl k) ?_
    show own_Run p e below _ s₁ (mkF m 14 #[.val (.int p1), .val (.long q2), .second, .val (.int p3), .val (.long q4), .second, .val (.int p5), .val (.int (1 : Int32)), .unset, .unset, .unset, .unset, .unset, .unset, .unset, .unset, .unset, .unset, .unset, .unset] [])
    exact seg14 p1 q2 p3 q4 p5 h0 n0 hx hZ hw hby hml hown hnm hret hlk (1 : Int32) s₁ h0 _ X0 e0 N0 Z0 K0 (Or.inr rfl) 
set_option maxRecDepth 65536 in
set_option maxHeartbeats 40000000 in
theorem comes_1 {Post : Tables → Env → Array Value → State → Outcome → State → Prop} (hpost : ∀ tb e args s v u, (limb_1_1.after args s (.returned v) u = true ∧ limb_1_2.after args s (.returned v) u = true ∧ True) → FrameEnd s (.returned v) u (Jvm.fieldLocs frame_1_writes args s ++ Jvm.arrayLocs frame_1_arrays args s ++ Jvm.staticLocs frame_1_statics s) 32 256 → Post tb e args s (.returned v) u) :
    ArmFor flags0 classFile x code maxLocals ret World_1 tables_1 room_1 Calls_1 rest_1 Pre_1 Post := by
  intro l hfl _ _ p e ha hc hk s m args below hf hA hF happ hP
  obtain ⟨hcalls, hrest, hpre⟩ := hP
  obtain ⟨-, -, -, hnamed, -, -, -, hat⟩ := (Spec.applies_iff hf).mp happ
  obtain ⟨hg, hn⟩ := and_e (Cond.before_iff.mp (show (Jvm.Cond.and given_1 narrow_1).before args s = true from hpre))
  obtain ⟨hcount, hr0⟩ := and_e hg
  obtain ⟨ha0, hr1⟩ := and_e hr0
  obtain ⟨ha1, hr2⟩ := and_e hr1
  obtain ⟨ha2, hr3⟩ := and_e hr2
  obtain ⟨ha3, hr4⟩ := and_e hr3
  have ha4 := hr4
  obtain ⟨w0, w1, w2, w3, w4, rfl⟩ : ∃ w0 w1 w2 w3 w4 : Value, args = #[w0, w1, w2, w3, w4] := by
    have hs : args.size = 5 := by simpa [Cond.value, given_1] using hcount
    obtain ⟨L⟩ := args
    match L, hs with
    | [w0, w1, w2, w3, w4], _ => exact ⟨w0, w1, w2, w3, w4, rfl⟩
  have hw := fun d (hd : d ∈ tables_1) => atoms_spec (ws := Jvm.Cond.code x code maxLocals ret :: tables_1) hat d (List.mem_cons_of_mem _ hd)
  have W := fun (k : Nat) {d : Jvm.Cond} (h : tables_1[k]? = some d) => hw d (List.mem_of_getElem? h)
  have hfit : Fit s := fun {y c} hc i hi => by
    obtain ⟨ha, rfl⟩ := Array.getElem?_eq_some_iff.mp hc
    have q := List.all_eq_true.mp ((Array.all_eq_true_iff_forall_mem.mp hF) _ (Array.getElem_mem ha)) i (List.mem_range.mpr hi)
    simpa [Array.getElem?_eq_getElem hi] using q
  obtain ⟨i0, ei0⟩ := is_v ha0
  obtain rfl : w0 = (.int i0) := Option.some.inj ei0
  obtain ⟨i1, ei1⟩ := isL_v ha1
  obtain rfl : w1 = (.long i1) := Option.some.inj ei1
  obtain ⟨i2, ei2⟩ := is_v ha2
  obtain rfl : w2 = (.int i2) := Option.some.inj ei2
  obtain ⟨i3, ei3⟩ := isL_v ha3
  obtain rfl : w3 = (.long i3) := Option.some.inj ei3
  obtain ⟨i4, ei4⟩ := is_v ha4
  obtain rfl : w4 = (.int i4) := Option.some.inj ei4
  obtain ⟨n, o, h1, h2, h3, _, L, rfl, ⟨rfl, N⟩, hq⟩ := rm0 l s _ hw tables_1 i0 i1 i2 i3 i4 s.heap s.heap.size (Nat.le_refl _) p e ha hc hk s m _ below hf ((Spec.applies_iff_loose hf).mp happ).1 ⟨rfl, State.Warmed39.refl s, rfl⟩ trivial
  refine ⟨n, _, h1, h2, h3, hpost _ _ _ _ _ _ ⟨Cond.after_iff.mpr rfl, Cond.after_iff.mpr (eq_i res_at (Term.int_eval (1)) rfl), trivial⟩ ⟨hq.1, hq.2.1, (hq.2.2.sift fun y hy => Or.inr (N y hy)).mono (by decide) (by decide)⟩⟩
theorem main_1_1 : Claimed_1_1 := comes_1 fun _ _ _ _ _ _ h hF => ⟨h.1, hF⟩
theorem main_1_2 : Claimed_1_2 := comes_1 fun _ _ _ _ _ _ h hF => ⟨h.2.1, hF⟩
end Jvm.Pilot.@@N@@
namespace Jvm.Pilot.@@N@@
open Jvm Jvm.ClassFile Sem Op Lib Jvm.Free Jvm.Stand Jvm.Pilot.@@N@@.Jvm.D
/-! MADE BY PROGRAM (witnessworld.py) out of the Statement's table words and the real class files: 14 classes; the members and pool entries that the words name. The judged class is class 1, her method 1. -/
namespace start1
open Jvm.ClassFile
def u (s : String) : CpInfo := .utf8 (stringToUtf16 s)
/-- a pool by its gaps: so many unusable entries, then the entry; so many at the end -/
def gap : Nat → List CpInfo → List CpInfo
  | 0, r => r
  | n + 1, r => .unusable :: gap n r
def poolList (es : List (Nat × CpInfo)) (last : Nat) : List CpInfo := es.foldr (fun e r => gap e.1 (e.2 :: r)) (gap last [])
def pool (es : List (Nat × CpInfo)) (last : Nat) : Array CpInfo := ⟨poolList es last⟩
def fileOf (pool : Array CpInfo) (this : Nat) (attrs : Array Attribute := #[]) (ms : Array MethodInfo := #[]) (fl : Nat := 33) (sup : Nat := 0) (ifs : Array Nat := #[]) (fds : Array FieldInfo := #[]) : ClassFile where
  minorVersion := 0
  majorVersion := 65
  constantPool := pool
  accessFlags := fl
  thisClass := this
  superClass := sup
  interfaces := ifs
  fields := fds
  methods := ms
  attributes := attrs
def plain (name : String) (sup : Option ClassId) : Class where
  name := name
  kind := .ordinary
  loader := none
  accessFlags := 33
  super := sup
  interfaces := #[]
  cf := none
  fields := #[]
  methods := #[]
  instanceTypes := #[]
  staticTypes := #[]
  resolved := #[]
  callSites := []
  init := .initialized
  statics := none
  mirror := none

def pool0 : Array CpInfo := pool [(5, u "<init>"), (0, u "()V"), (1, .class_ 10), (1, u "java/lang/Object")] 113

def k0c0 : Code := { maxStack := 0, maxLocals := 1, code := object_method_1_code, exceptionTable := #[], attributes := #[] }
def k0m0 : Method := { name := "<init>", desc := "()V", sig := { parameters := [], returnType := none }, accessFlags := 1, code := some k0c0 }
/-- java/lang/Object -/
def k0 : Class := { plain "java/lang/Object" none with
  accessFlags := 33
  interfaces := #[]
  cf := some (fileOf pool0 8 #[] #[{ accessFlags := 1, nameIndex := 5, descriptorIndex := 6, attributes := #[] }] 33 0 #[] #[])
  fields := #[]
  methods := #[k0m0]
  instanceTypes := #[]
  staticTypes := #[]
  resolved := Array.replicate 124 none
  statics := none }

def pool1 : Array CpInfo := pool [(2, .class_ 4), (0, .nameAndType 5 6), (0, u "java/lang/Object"), (0, u "<init>"), (0, u "()V"), (0, .long 2), (1, .long 3), (1, .long 4), (1, .long 5), (1, .long 6), (1, .long 7), (1, .long 8), (1, .class_ 22), (0, u "com/example/net_reducer/netreducer/analysis/Marking"), (0, .methodref 21 3), (0, .methodref 21 25), (0, .nameAndType 26 27), (0, u "merge"), (0, u "([I[JI[I[JLcom/example/net_reducer/netreducer/analysis/Marking;)V"), (0, .methodref 21 29), (0, .nameAndType 30 31), (0, u "add"), (0, u "(IJ)V"), (0, .methodref 21 33), (0, .nameAndType 34 35), (0, u "size"), (0, u "()I"), (0, .methodref 21 37), (0, .nameAndType 38 39), (0, u "place"), (0, u "(I)I"), (0, .methodref 21 41), (0, .nameAndType 42 43), (0, u "tokens"), (0, u "(I)J"), (0, .class_ 45), (0, u "com/example/net_reducer/netreducer/analysis/MarkingAddPinLaw"), (2, u "law"), (0, u "(IJIJI)Z")] 7

def k1m0 : Method := { name := "<init>", desc := "()V", sig := { parameters := [], returnType := none }, accessFlags := 1, code := none }
def k1c1 : Code := { maxStack := 6, maxLocals := 20, code := code, exceptionTable := #[], attributes := #[] }
def k1m1 : Method := { name := "law", desc := "(IJIJI)Z", sig := { parameters := [.int, .long, .int, .long, .int], returnType := some .boolean }, accessFlags := 9, code := some k1c1 }
/-- com/example/net_reducer/netreducer/analysis/MarkingAddPinLaw -/
def k1 : Class := { plain "com/example/net_reducer/netreducer/analysis/MarkingAddPinLaw" (some 0) with
  accessFlags := 49
  interfaces := #[]
  cf := some (fileOf pool1 44 #[] #[{ accessFlags := 1, nameIndex := 5, descriptorIndex := 6, attributes := #[] }, { accessFlags := 9, nameIndex := 48, descriptorIndex := 49, attributes := #[] }] 49 2 #[] #[])
  fields := #[]
  methods := #[k1m0, k1m1]
  instanceTypes := #[]
  staticTypes := #[]
  resolved := Array.replicate 57 none
  statics := none }

def pool2 : Array CpInfo := pool [(1, .methodref 2 3), (0, .class_ 4), (0, .nameAndType 5 6), (0, u "java/lang/Object"), (0, u "<init>"), (0, u "()V"), (0, .fieldref 8 9), (0, .class_ 10), (0, .nameAndType 11 12), (0, u "com/example/net_reducer/netreducer/analysis/Marking"), (0, u "places"), (0, u "[I"), (0, .fieldref 8 14), (0, .nameAndType 15 16), (0, u "tokens"), (0, u "[J"), (0, .fieldref 8 18), (0, .nameAndType 19 20), (0, u "size"), (0, u "I"), (1, .class_ 24), (1, u "java/util/Arrays"), (2, .methodref 22 28), (0, .nameAndType 29 30), (0, u "copyOf"), (0, u "([II)[I"), (0, .methodref 22 32), (0, .nameAndType 29 33), (0, u "([JI)[J"), (2, u "merge"), (0, u "([I[JI[I[JLcom/example/net_reducer/netreducer/analysis/Marking;)V"), (0, .methodref 8 39), (0, .nameAndType 40 6), (0, u "clear"), (0, .methodref 42 43), (0, .class_ 44), (0, .nameAndType 45 46), (0, u "java/lang/Math"), (0, u "addExact"), (0, u "(JJ)J"), (0, .methodref 8 48), (0, .nameAndType 49 50), (0, u "add"), (0, u "(IJ)V"), (2, u "()I"), (0, u "place"), (0, u "(I)I"), (0, u "(I)J")] 8

def k2c0 : Code := { maxStack := 2, maxLocals := 1, code := prog_10_method_1_code, exceptionTable := #[], attributes := #[] }
def k2m0 : Method := { name := "<init>", desc := "()V", sig := { parameters := [], returnType := none }, accessFlags := 0, code := some k2c0 }
def k2c1 : Code := { maxStack := 1, maxLocals := 1, code := prog_10_method_2_code, exceptionTable := #[], attributes := #[] }
def k2m1 : Method := { name := "size", desc := "()I", sig := { parameters := [], returnType := some .int }, accessFlags := 0, code := some k2c1 }
def k2c2 : Code := { maxStack := 2, maxLocals := 2, code := prog_10_method_3_code, exceptionTable := #[], attributes := #[] }
def k2m2 : Method := { name := "place", desc := "(I)I", sig := { parameters := [.int], returnType := some .int }, accessFlags := 0, code := some k2c2 }
def k2c3 : Code := { maxStack := 2, maxLocals := 2, code := prog_10_method_4_code, exceptionTable := #[], attributes := #[] }
def k2m3 : Method := { name := "tokens", desc := "(I)J", sig := { parameters := [.int], returnType := some .long }, accessFlags := 0, code := some k2c3 }
def k2c4 : Code := { maxStack := 2, maxLocals := 1, code := prog_10_method_6_code, exceptionTable := #[], attributes := #[] }
def k2m4 : Method := { name := "clear", desc := "()V", sig := { parameters := [], returnType := none }, accessFlags := 0, code := some k2c4 }
def k2c5 : Code := { maxStack := 4, maxLocals := 4, code := prog_10_method_7_code, exceptionTable := #[], attributes := #[] }
def k2m5 : Method := { name := "add", desc := "(IJ)V", sig := { parameters := [.int, .long], returnType := none }, accessFlags := 0, code := some k2c5 }
def k2c6 : Code := { maxStack := 4, maxLocals := 13, code := prog_10_method_9_code, exceptionTable := #[], attributes := #[] }
def k2m6 : Method := { name := "merge", desc := "([I[JI[I[JLcom/example/net_reducer/netreducer/analysis/Marking;)V", sig := { parameters := [(.array .int), (.array .long), .int, (.array .int), (.array .long), (.object "com/example/net_reducer/netreducer/analysis/Marking")], returnType := none }, accessFlags := 8, code := some k2c6 }
/-- com/example/net_reducer/netreducer/analysis/Marking -/
def k2 : Class := { plain "com/example/net_reducer/netreducer/analysis/Marking" (some 0) with
  accessFlags := 48
  interfaces := #[]
  cf := some (fileOf pool2 8 #[] #[{ accessFlags := 0, nameIndex := 5, descriptorIndex := 6, attributes := #[] }, { accessFlags := 0, nameIndex := 19, descriptorIndex := 53, attributes := #[] }, { accessFlags := 0, nameIndex := 54, descriptorIndex := 55, attributes := #[] }, { accessFlags := 0, nameIndex := 15, descriptorIndex := 56, attributes := #[] }, { accessFlags := 0, nameIndex := 40, descriptorIndex := 6, attributes := #[] }, { accessFlags := 0, nameIndex := 49, descriptorIndex := 50, attributes := #[] }, { accessFlags := 8, nameIndex := 36, descriptorIndex := 37, attributes := #[] }] 48 2 #[] #[{ accessFlags := 2, nameIndex := 11, descriptorIndex := 12, attributes := #[] }, { accessFlags := 2, nameIndex := 15, descriptorIndex := 16, attributes := #[] }, { accessFlags := 2, nameIndex := 19, descriptorIndex := 20, attributes := #[] }])
  fields := #[{ name := "places", type := (.array .int), accessFlags := 2, slot := 0, constantValue := 0 }, { name := "tokens", type := (.array .long), accessFlags := 2, slot := 1, constantValue := 0 }, { name := "size", type := .int, accessFlags := 2, slot := 2, constantValue := 0 }]
  methods := #[k2m0, k2m1, k2m2, k2m3, k2m4, k2m5, k2m6]
  instanceTypes := #[(.array .int), (.array .long), .int]
  staticTypes := #[]
  resolved := Array.replicate 65 none
  statics := none }

def pool3 : Array CpInfo := pool [(1, .class_ 2), (0, u "java/lang/Math"), (1, .class_ 6), (1, u "java/lang/Object"), (0, u "<init>"), (0, u "()V"), (89, .class_ 100), (1, u "java/lang/Math$RandomNumberGeneratorHolder"), (20, u "(JJ)J"), (50, u "negativeZeroFloatBits"), (0, u "J"), (2, u "negativeZeroDoubleBits"), (24, u "min"), (43, u "$assertionsDisabled"), (0, u "Z"), (88, u "(II)I"), (2, u "twoToTheDoubleScaleDown"), (0, u "D"), (4, u "twoToTheDoubleScaleUp"), (9, u "E"), (3, u "PI"), (2, u "TAU"), (2, u "DEGREES_TO_RADIANS"), (0, u "RADIANS_TO_DEGREES"), (27, u "addExact")] 66

def k3m0 : Method := { name := "<init>", desc := "()V", sig := { parameters := [], returnType := none }, accessFlags := 2, code := none }
def k3c1 : Code := { maxStack := 6, maxLocals := 6, code := jdk_29_method_25_code, exceptionTable := #[], attributes := #[] }
def k3m1 : Method := { name := "addExact", desc := "(JJ)J", sig := { parameters := [.long, .long], returnType := some .long }, accessFlags := 9, code := some k3c1 }
def k3c2 : Code := { maxStack := 2, maxLocals := 2, code := jdk_29_method_69_code, exceptionTable := #[], attributes := #[] }
def k3m2 : Method := { name := "min", desc := "(II)I", sig := { parameters := [.int, .int], returnType := some .int }, accessFlags := 9, code := some k3c2 }
/-- java/lang/Math -/
def k3 : Class := { plain "java/lang/Math" (some 0) with
  accessFlags := 49
  interfaces := #[]
  cf := some (fileOf pool3 1 #[.nestMembers #[98]] #[{ accessFlags := 2, nameIndex := 7, descriptorIndex := 8, attributes := #[] }, { accessFlags := 9, nameIndex := 393, descriptorIndex := 121, attributes := #[] }, { accessFlags := 9, nameIndex := 201, descriptorIndex := 335, attributes := #[] }] 49 4 #[] #[{ accessFlags := 25, nameIndex := 354, descriptorIndex := 339, attributes := #[] }, { accessFlags := 25, nameIndex := 358, descriptorIndex := 339, attributes := #[] }, { accessFlags := 25, nameIndex := 361, descriptorIndex := 339, attributes := #[] }, { accessFlags := 26, nameIndex := 364, descriptorIndex := 339, attributes := #[] }, { accessFlags := 26, nameIndex := 365, descriptorIndex := 339, attributes := #[] }, { accessFlags := 26, nameIndex := 172, descriptorIndex := 173, attributes := #[] }, { accessFlags := 26, nameIndex := 176, descriptorIndex := 173, attributes := #[] }, { accessFlags := 8, nameIndex := 344, descriptorIndex := 339, attributes := #[] }, { accessFlags := 8, nameIndex := 338, descriptorIndex := 339, attributes := #[] }, { accessFlags := 4120, nameIndex := 245, descriptorIndex := 246, attributes := #[] }])
  fields := #[{ name := "E", type := .double, accessFlags := 25, slot := 0, constantValue := 0 }, { name := "PI", type := .double, accessFlags := 25, slot := 1, constantValue := 0 }, { name := "TAU", type := .double, accessFlags := 25, slot := 2, constantValue := 0 }, { name := "DEGREES_TO_RADIANS", type := .double, accessFlags := 26, slot := 3, constantValue := 0 }, { name := "RADIANS_TO_DEGREES", type := .double, accessFlags := 26, slot := 4, constantValue := 0 }, { name := "negativeZeroFloatBits", type := .long, accessFlags := 26, slot := 5, constantValue := 0 }, { name := "negativeZeroDoubleBits", type := .long, accessFlags := 26, slot := 6, constantValue := 0 }, { name := "twoToTheDoubleScaleUp", type := .double, accessFlags := 8, slot := 7, constantValue := 0 }, { name := "twoToTheDoubleScaleDown", type := .double, accessFlags := 8, slot := 8, constantValue := 0 }, { name := "$assertionsDisabled", type := .boolean, accessFlags := 4120, slot := 9, constantValue := 0 }]
  methods := #[k3m0, k3m1, k3m2]
  instanceTypes := #[]
  staticTypes := #[.double, .double, .double, .double, .double, .long, .long, .double, .double, .boolean]
  resolved := Array.replicate 460 none
  statics := none }

def pool4 : Array CpInfo := pool [(2, .class_ 4), (1, u "java/lang/Object"), (0, u "<init>"), (0, u "()V"), (7, .class_ 16), (1, u "java/util/Arrays"), (57, .class_ 76), (1, u "java/util/Arrays$NaturalOrder"), (36, .class_ 115), (1, u "java/util/Arrays$LegacyMergeSort"), (1, u "Z"), (32, .methodref 151 152), (0, .class_ 153), (0, .nameAndType 154 155), (0, u "java/lang/System"), (0, u "arraycopy"), (0, u "(Ljava/lang/Object;ILjava/lang/Object;II)V"), (146, u "copyOf"), (1, .methodref 305 306), (0, .class_ 307), (0, .nameAndType 308 309), (0, u "java/lang/Math"), (0, u "min"), (0, u "(II)I"), (65, .class_ 376), (0, u "java/util/Arrays$ArrayList"), (68, u "$assertionsDisabled"), (269, u "MIN_ARRAY_SORT_GRAN"), (0, u "I"), (2, u "INSERTIONSORT_THRESHOLD"), (151, u "([II)[I"), (0, u "([JI)[J"), (102, .class_ 976), (0, u "java/util/Arrays$ArrayItr")] 52

def k4m0 : Method := { name := "<init>", desc := "()V", sig := { parameters := [], returnType := none }, accessFlags := 2, code := none }
def k4c1 : Code := { maxStack := 6, maxLocals := 3, code := jdk_65_method_123_code, exceptionTable := #[], attributes := #[] }
def k4m1 : Method := { name := "copyOf", desc := "([II)[I", sig := { parameters := [(.array .int), .int], returnType := some (.array .int) }, accessFlags := 9, code := some k4c1 }
def k4c2 : Code := { maxStack := 6, maxLocals := 3, code := jdk_65_method_124_code, exceptionTable := #[], attributes := #[] }
def k4m2 : Method := { name := "copyOf", desc := "([JI)[J", sig := { parameters := [(.array .long), .int], returnType := some (.array .long) }, accessFlags := 9, code := some k4c2 }
/-- java/util/Arrays -/
def k4 : Class := { plain "java/util/Arrays" (some 0) with
  accessFlags := 49
  interfaces := #[]
  cf := some (fileOf pool4 14 #[.nestMembers #[975, 375, 113, 74]] #[{ accessFlags := 2, nameIndex := 5, descriptorIndex := 6, attributes := #[] }, { accessFlags := 9, nameIndex := 302, descriptorIndex := 871, attributes := #[] }, { accessFlags := 9, nameIndex := 302, descriptorIndex := 872, attributes := #[] }] 49 2 #[] #[{ accessFlags := 26, nameIndex := 715, descriptorIndex := 716, attributes := #[] }, { accessFlags := 26, nameIndex := 719, descriptorIndex := 716, attributes := #[] }, { accessFlags := 4120, nameIndex := 445, descriptorIndex := 117, attributes := #[] }])
  fields := #[{ name := "MIN_ARRAY_SORT_GRAN", type := .int, accessFlags := 26, slot := 0, constantValue := 0 }, { name := "INSERTIONSORT_THRESHOLD", type := .int, accessFlags := 26, slot := 1, constantValue := 0 }, { name := "$assertionsDisabled", type := .boolean, accessFlags := 4120, slot := 2, constantValue := 0 }]
  methods := #[k4m0, k4m1, k4m2]
  instanceTypes := #[]
  staticTypes := #[.int, .int, .boolean]
  resolved := Array.replicate 1029 none
  statics := none }

def pool5 : Array CpInfo := pool [(2, .class_ 4), (1, u "java/lang/Object"), (0, u "<init>"), (0, u "()V"), (1, .class_ 10), (1, u "java/lang/System"), (0, u "allowSecurityManager"), (0, u "I"), (16, u "cons"), (0, u "Ljava/io/Console;"), (77, .class_ 110), (1, u "java/lang/System$CallersHolder"), (43, u "initialErrStream"), (0, u "Ljava/io/PrintStream;"), (19, u "security"), (0, u "Ljava/lang/SecurityManager;"), (31, .class_ 209), (0, u "java/lang/System$1"), (7, u "props"), (0, u "Ljava/util/Properties;"), (2, u "lineSeparator"), (0, u "Ljava/lang/String;"), (96, .class_ 321), (1, u "java/lang/System$LoggerFinder"), (5, .class_ 328), (0, u "java/lang/System$Logger"), (67, u "err"), (2, u "out"), (91, u "notSupportedJnuEncoding"), (15, u "in"), (17, u "initialIn"), (0, u "Ljava/io/InputStream;"), (35, u "bootLayer"), (0, u "Ljava/lang/ModuleLayer;"), (99, .class_ 664), (0, u "java/lang/System$2"), (9, u "NEVER"), (2, u "MAYBE"), (49, u "arraycopy"), (0, u "(Ljava/lang/Object;ILjava/lang/Object;II)V"), (72, .class_ 802), (0, u "java/lang/System$Logger$Level")] 31

def k5m0 : Method := { name := "<init>", desc := "()V", sig := { parameters := [], returnType := none }, accessFlags := 2, code := none }
def k5m1 : Method := { name := "arraycopy", desc := "(Ljava/lang/Object;ILjava/lang/Object;II)V", sig := { parameters := [(.object "java/lang/Object"), .int, (.object "java/lang/Object"), .int, .int], returnType := none }, accessFlags := 265, code := none }
/-- java/lang/System -/
def k5 : Class := { plain "java/lang/System" (some 0) with
  accessFlags := 49
  interfaces := #[]
  cf := some (fileOf pool5 8 #[.nestMembers #[319, 327, 801, 108, 663, 208]] #[{ accessFlags := 2, nameIndex := 5, descriptorIndex := 6, attributes := #[] }, { accessFlags := 265, nameIndex := 727, descriptorIndex := 728, attributes := #[] }] 49 2 #[] #[{ accessFlags := 25, nameIndex := 507, descriptorIndex := 526, attributes := #[] }, { accessFlags := 25, nameIndex := 399, descriptorIndex := 155, attributes := #[] }, { accessFlags := 25, nameIndex := 396, descriptorIndex := 155, attributes := #[] }, { accessFlags := 10, nameIndex := 525, descriptorIndex := 526, attributes := #[] }, { accessFlags := 26, nameIndex := 674, descriptorIndex := 12, attributes := #[] }, { accessFlags := 26, nameIndex := 677, descriptorIndex := 12, attributes := #[] }, { accessFlags := 10, nameIndex := 11, descriptorIndex := 12, attributes := #[] }, { accessFlags := 74, nameIndex := 175, descriptorIndex := 176, attributes := #[] }, { accessFlags := 10, nameIndex := 491, descriptorIndex := 222, attributes := #[] }, { accessFlags := 74, nameIndex := 29, descriptorIndex := 30, attributes := #[] }, { accessFlags := 74, nameIndex := 154, descriptorIndex := 155, attributes := #[] }, { accessFlags := 10, nameIndex := 217, descriptorIndex := 218, attributes := #[] }, { accessFlags := 10, nameIndex := 221, descriptorIndex := 222, attributes := #[] }, { accessFlags := 8, nameIndex := 562, descriptorIndex := 563, attributes := #[] }])
  fields := #[{ name := "in", type := (.object "java/io/InputStream"), accessFlags := 25, slot := 0, constantValue := 0 }, { name := "out", type := (.object "java/io/PrintStream"), accessFlags := 25, slot := 1, constantValue := 0 }, { name := "err", type := (.object "java/io/PrintStream"), accessFlags := 25, slot := 2, constantValue := 0 }, { name := "initialIn", type := (.object "java/io/InputStream"), accessFlags := 10, slot := 3, constantValue := 0 }, { name := "NEVER", type := .int, accessFlags := 26, slot := 4, constantValue := 0 }, { name := "MAYBE", type := .int, accessFlags := 26, slot := 5, constantValue := 0 }, { name := "allowSecurityManager", type := .int, accessFlags := 10, slot := 6, constantValue := 0 }, { name := "security", type := (.object "java/lang/SecurityManager"), accessFlags := 74, slot := 7, constantValue := 0 }, { name := "notSupportedJnuEncoding", type := (.object "java/lang/String"), accessFlags := 10, slot := 8, constantValue := 0 }, { name := "cons", type := (.object "java/io/Console"), accessFlags := 74, slot := 9, constantValue := 0 }, { name := "initialErrStream", type := (.object "java/io/PrintStream"), accessFlags := 74, slot := 10, constantValue := 0 }, { name := "props", type := (.object "java/util/Properties"), accessFlags := 10, slot := 11, constantValue := 0 }, { name := "lineSeparator", type := (.object "java/lang/String"), accessFlags := 10, slot := 12, constantValue := 0 }, { name := "bootLayer", type := (.object "java/lang/ModuleLayer"), accessFlags := 8, slot := 13, constantValue := 0 }]
  methods := #[k5m0, k5m1]
  instanceTypes := #[]
  staticTypes := #[(.object "java/io/InputStream"), (.object "java/io/PrintStream"), (.object "java/io/PrintStream"), (.object "java/io/InputStream"), .int, .int, .int, (.object "java/lang/SecurityManager"), (.object "java/lang/String"), (.object "java/io/Console"), (.object "java/io/PrintStream"), (.object "java/util/Properties"), (.object "java/lang/String"), (.object "java/lang/ModuleLayer")]
  resolved := Array.replicate 834 none
  statics := none }

def pool6 : Array CpInfo := pool [(1, u "java/lang/Cloneable"), (0, .class_ 1), (0, u "java/lang/Object"), (0, .class_ 3)] 3

/-- java/lang/Cloneable -/
def k6 : Class := { plain "java/lang/Cloneable" (some 0) with
  accessFlags := 1537
  interfaces := #[]
  cf := some (fileOf pool6 2 #[] #[] 1537 4 #[] #[])
  fields := #[]
  methods := #[]
  instanceTypes := #[]
  staticTypes := #[]
  resolved := Array.replicate 8 none
  statics := none }

def pool7 : Array CpInfo := pool [(1, u "java/io/Serializable"), (0, .class_ 1), (0, u "java/lang/Object"), (0, .class_ 3)] 3

/-- java/io/Serializable -/
def k7 : Class := { plain "java/io/Serializable" (some 0) with
  accessFlags := 1537
  interfaces := #[]
  cf := some (fileOf pool7 2 #[] #[] 1537 4 #[] #[])
  fields := #[]
  methods := #[]
  instanceTypes := #[]
  staticTypes := #[]
  resolved := Array.replicate 8 none
  statics := none }

/-- the primitive byte -/
def k8 : Class := { plain "byte" none with kind := .primitive 'B', accessFlags := 0x411 }
/-- [B -/
def k9 : Class := { plain "[B" (some 0) with kind := .array 8 .byte, interfaces := #[6, 7], accessFlags := 1041 }

/-- the primitive int -/
def k10 : Class := { plain "int" none with kind := .primitive 'I', accessFlags := 0x411 }
/-- [I -/
def k11 : Class := { plain "[I" (some 0) with kind := .array 10 .int, interfaces := #[6, 7], accessFlags := 1041 }

/-- the primitive long -/
def k12 : Class := { plain "long" none with kind := .primitive 'J', accessFlags := 0x411 }
/-- [J -/
def k13 : Class := { plain "[J" (some 0) with kind := .array 12 .long, interfaces := #[6, 7], accessFlags := 1041 }

def heap : Heap := #[]
def classes : Array Class := #[k0, k1, k2, k3, k4, k5, k6, k7, k8, k9, k10, k11, k12, k13]
def interned : List (Array UInt16 × Addr) := []
def slotsUsed : Nat := 0
def theMethod : MethodId := ⟨1, 1⟩
def args0 : Array Value := #[.int 5, .long 6, .int 7, .long 8, .int 3]
def aboutOver (below : List Frame) : State where
  vm := { classes := classes, interned := interned.toArray }
  heap := heap
  slotsUsed := slotsUsed
  threads := #[{ frames := .invoking theMethod args0 :: below }]
def below0 : List Frame := [.native { method := ⟨0, 0⟩, args := #[] }]
def about1 : State := aboutOver below0
def p0 : Program := .bare "" "" ""
def e0 : Env := launch0.env 0 0 0
theorem w_frames : about1.frames = Frame.invoking theMethod args0 :: below0 := rfl
set_option maxRecDepth 65536 in
theorem w_args : argsFit about1.vm theMethod args0 = true := by decide +kernel
set_option maxRecDepth 65536 in
theorem w_heap : heapFits about1 = true := by decide +kernel
set_option maxRecDepth 65536 in
theorem w_runnable : about1.curStatus? = some .runnable := by decide +kernel
set_option maxRecDepth 65536 in
theorem w_alone : about1.alone = true := by decide +kernel
set_option maxRecDepth 65536 in
theorem w_named : about1.methodNamed? x = some theMethod := by decide +kernel
set_option maxRecDepth 65536 in
theorem w_hears : about1.hears theMethod below0 = true := by decide +kernel
set_option maxRecDepth 65536 in
theorem w_ripe : about1.ripe theMethod args0 below0 = true := by decide +kernel
theorem w_running : about1.status = .running := rfl
set_option maxRecDepth 65536 in
theorem w_room : about1.hasRoom e0.platform room_1 = true :=
  launch0.hasRoom_least _ room_1 (by decide +kernel) (by decide +kernel) (by decide +kernel) (by decide +kernel) (by decide +kernel) (by decide +kernel)
theorem allAtoms_all (ts : List Jvm.Cond) (a : Array Jvm.Value) (st : Jvm.State) : (allAtoms ts).before a st = ts.all (fun c => c.before a st) := by
  induction ts with
  | nil => rfl
  | cons c t ih =>
    show (Jvm.Cond.and c (allAtoms t)).before a st = _
    rw [Jvm.Cond.before_and, ih, List.all_cons]
def words1 : List Jvm.Cond := Jvm.Cond.code x code maxLocals ret :: tables_1
/-- a 'code' word, met by the world's own term for the bytes: nothing is compared byte by byte -/
theorem code_word {y : MethodName} {bytes : ByteArray} {mx : Nat} {rt : Option FieldType} {a : Array Value} {s : State} {m : MethodId} {meth : Method} {c : Code} (h1 : s.methodNamed? y = some m) (h2 : s.vm.method? m = some meth) (h3 : meth.code = some c) (h4 : c.code = bytes)
    (h5 : (c.maxLocals == mx && c.exceptionTable.isEmpty && decide (c.maxStack ≤ mostOperands) && decide (meth.sig.returnType = rt) && !meth.locks && decide (parseMethodDescriptor y.desc = some meth.sig)) = true) : (Jvm.Cond.code y bytes mx rt).before a s = true := by
  simp only [Bool.and_eq_true, beq_iff_eq, Bool.not_eq_true', decide_eq_true_eq] at h5
  obtain ⟨⟨⟨⟨⟨g1, g2⟩, g3⟩, g4⟩, g5⟩, g6⟩ := h5
  simp [Cond.before, Cond.holds, Cond.value, h1, h2, h3, h4, g1, g2, g3, g4, g5, g6]
def isCode : Jvm.Cond → Bool
  | .code _ _ _ _ => true
  | _ => false
theorem all_split {L : List Jvm.Cond} {P : Jvm.Cond → Bool} (h1 : L.all (fun c => isCode c || P c) = true) (h2 : ∀ c ∈ L.filter isCode, P c = true) : L.all P = true := by
  refine List.all_eq_true.mpr fun c hc => ?_
  have h := List.all_eq_true.mp h1 c hc
  rcases Bool.eq_false_or_eq_true (isCode c) with hi | hi
  · exact h2 c (List.mem_filter.mpr ⟨hc, hi⟩)
  · simpa [hi] using h
set_option maxRecDepth 65536 in
theorem w_c0 : (Jvm.Cond.code x code maxLocals ret).before args0 about1 = true := code_word (m := ⟨1, 1⟩) (meth := k1m1) (c := k1c1) (by decide +kernel) rfl rfl rfl (by decide +kernel)
set_option maxRecDepth 65536 in
theorem w_c1 : (Jvm.Cond.code ({ cls := "com/example/net_reducer/netreducer/analysis/Marking", name := "<init>", desc := "()V" } : Jvm.MethodName) prog_10_method_1_code (1 : Nat) (Option.none : Option Jvm.ClassFile.FieldType)).before args0 about1 = true := code_word (m := ⟨2, 0⟩) (meth := k2m0) (c := k2c0) (by decide +kernel) rfl rfl rfl (by decide +kernel)
set_option maxRecDepth 65536 in
theorem w_c2 : (Jvm.Cond.code ({ cls := "java/lang/Object", name := "<init>", desc := "()V" } : Jvm.MethodName) object_method_1_code (1 : Nat) (Option.none : Option Jvm.ClassFile.FieldType)).before args0 about1 = true := code_word (m := ⟨0, 0⟩) (meth := k0m0) (c := k0c0) (by decide +kernel) rfl rfl rfl (by decide +kernel)
set_option maxRecDepth 65536 in
theorem w_c3 : (Jvm.Cond.code ({ cls := "com/example/net_reducer/netreducer/analysis/Marking", name := "add", desc := "(IJ)V" } : Jvm.MethodName) prog_10_method_7_code (4 : Nat) (Option.none : Option Jvm.ClassFile.FieldType)).before args0 about1 = true := code_word (m := ⟨2, 5⟩) (meth := k2m5) (c := k2c5) (by decide +kernel) rfl rfl rfl (by decide +kernel)
set_option maxRecDepth 65536 in
theorem w_c4 : (Jvm.Cond.code ({ cls := "com/example/net_reducer/netreducer/analysis/Marking", name := "size", desc := "()I" } : Jvm.MethodName) prog_10_method_2_code (1 : Nat) (Option.some Jvm.ClassFile.FieldType.int)).before args0 about1 = true := code_word (m := ⟨2, 1⟩) (meth := k2m1) (c := k2c1) (by decide +kernel) rfl rfl rfl (by decide +kernel)
set_option maxRecDepth 65536 in
theorem w_c5 : (Jvm.Cond.code ({ cls := "com/example/net_reducer/netreducer/analysis/Marking", name := "place", desc := "(I)I" } : Jvm.MethodName) prog_10_method_3_code (2 : Nat) (Option.some Jvm.ClassFile.FieldType.int)).before args0 about1 = true := code_word (m := ⟨2, 2⟩) (meth := k2m2) (c := k2c2) (by decide +kernel) rfl rfl rfl (by decide +kernel)
set_option maxRecDepth 65536 in
theorem w_c6 : (Jvm.Cond.code ({ cls := "com/example/net_reducer/netreducer/analysis/Marking", name := "tokens", desc := "(I)J" } : Jvm.MethodName) prog_10_method_4_code (2 : Nat) (Option.some Jvm.ClassFile.FieldType.long)).before args0 about1 = true := code_word (m := ⟨2, 3⟩) (meth := k2m3) (c := k2c3) (by decide +kernel) rfl rfl rfl (by decide +kernel)
set_option maxRecDepth 65536 in
theorem w_c7 : (Jvm.Cond.code ({ cls := "com/example/net_reducer/netreducer/analysis/Marking", name := "merge", desc := "([I[JI[I[JLcom/example/net_reducer/netreducer/analysis/Marking;)V" } : Jvm.MethodName) prog_10_method_9_code (13 : Nat) (Option.none : Option Jvm.ClassFile.FieldType)).before args0 about1 = true := code_word (m := ⟨2, 6⟩) (meth := k2m6) (c := k2c6) (by decide +kernel) rfl rfl rfl (by decide +kernel)
set_option maxRecDepth 65536 in
theorem w_c8 : (Jvm.Cond.code ({ cls := "com/example/net_reducer/netreducer/analysis/Marking", name := "clear", desc := "()V" } : Jvm.MethodName) prog_10_method_6_code (1 : Nat) (Option.none : Option Jvm.ClassFile.FieldType)).before args0 about1 = true := code_word (m := ⟨2, 4⟩) (meth := k2m4) (c := k2c4) (by decide +kernel) rfl rfl rfl (by decide +kernel)
set_option maxRecDepth 65536 in
theorem w_c9 : (Jvm.Cond.code ({ cls := "java/lang/Math", name := "addExact", desc := "(JJ)J" } : Jvm.MethodName) jdk_29_method_25_code (6 : Nat) (Option.some Jvm.ClassFile.FieldType.long)).before args0 about1 = true := code_word (m := ⟨3, 1⟩) (meth := k3m1) (c := k3c1) (by decide +kernel) rfl rfl rfl (by decide +kernel)
set_option maxRecDepth 65536 in
theorem w_c10 : (Jvm.Cond.code ({ cls := "java/util/Arrays", name := "copyOf", desc := "([II)[I" } : Jvm.MethodName) jdk_65_method_123_code (3 : Nat) (Option.some (Jvm.ClassFile.FieldType.array Jvm.ClassFile.FieldType.int))).before args0 about1 = true := code_word (m := ⟨4, 1⟩) (meth := k4m1) (c := k4c1) (by decide +kernel) rfl rfl rfl (by decide +kernel)
set_option maxRecDepth 65536 in
theorem w_c11 : (Jvm.Cond.code ({ cls := "java/lang/Math", name := "min", desc := "(II)I" } : Jvm.MethodName) jdk_29_method_69_code (2 : Nat) (Option.some Jvm.ClassFile.FieldType.int)).before args0 about1 = true := code_word (m := ⟨3, 2⟩) (meth := k3m2) (c := k3c2) (by decide +kernel) rfl rfl rfl (by decide +kernel)
set_option maxRecDepth 65536 in
theorem w_c12 : (Jvm.Cond.code ({ cls := "java/util/Arrays", name := "copyOf", desc := "([JI)[J" } : Jvm.MethodName) jdk_65_method_124_code (3 : Nat) (Option.some (Jvm.ClassFile.FieldType.array Jvm.ClassFile.FieldType.long))).before args0 about1 = true := code_word (m := ⟨4, 2⟩) (meth := k4m2) (c := k4c2) (by decide +kernel) rfl rfl rfl (by decide +kernel)
def codes1 : List Jvm.Cond := [Jvm.Cond.code x code maxLocals ret, Jvm.Cond.code ({ cls := "com/example/net_reducer/netreducer/analysis/Marking", name := "<init>", desc := "()V" } : Jvm.MethodName) prog_10_method_1_code (1 : Nat) (Option.none : Option Jvm.ClassFile.FieldType), Jvm.Cond.code ({ cls := "java/lang/Object", name := "<init>", desc := "()V" } : Jvm.MethodName) object_method_1_code (1 : Nat) (Option.none : Option Jvm.ClassFile.FieldType), Jvm.Cond.code ({ cls := "com/example/net_reducer/netreducer/analysis/Marking", name := "add", desc := "(IJ)V" } : Jvm.MethodName) prog_10_method_7_code (4 : Nat) (Option.none : Option Jvm.ClassFile.FieldType), Jvm.Cond.code ({ cls := "com/example/net_reducer/netreducer/analysis/Marking", name := "size", desc := "()I" } : Jvm.MethodName) prog_10_method_2_code (1 : Nat) (Option.some Jvm.ClassFile.FieldType.int), Jvm.Cond.code ({ cls := "com/example/net_reducer/netreducer/analysis/Marking", name := "place", desc := "(I)I" } : Jvm.MethodName) prog_10_method_3_code (2 : Nat) (Option.some Jvm.ClassFile.FieldType.int), Jvm.Cond.code ({ cls := "com/example/net_reducer/netreducer/analysis/Marking", name := "tokens", desc := "(I)J" } : Jvm.MethodName) prog_10_method_4_code (2 : Nat) (Option.some Jvm.ClassFile.FieldType.long), Jvm.Cond.code ({ cls := "com/example/net_reducer/netreducer/analysis/Marking", name := "merge", desc := "([I[JI[I[JLcom/example/net_reducer/netreducer/analysis/Marking;)V" } : Jvm.MethodName) prog_10_method_9_code (13 : Nat) (Option.none : Option Jvm.ClassFile.FieldType), Jvm.Cond.code ({ cls := "com/example/net_reducer/netreducer/analysis/Marking", name := "clear", desc := "()V" } : Jvm.MethodName) prog_10_method_6_code (1 : Nat) (Option.none : Option Jvm.ClassFile.FieldType), Jvm.Cond.code ({ cls := "java/lang/Math", name := "addExact", desc := "(JJ)J" } : Jvm.MethodName) jdk_29_method_25_code (6 : Nat) (Option.some Jvm.ClassFile.FieldType.long), Jvm.Cond.code ({ cls := "java/util/Arrays", name := "copyOf", desc := "([II)[I" } : Jvm.MethodName) jdk_65_method_123_code (3 : Nat) (Option.some (Jvm.ClassFile.FieldType.array Jvm.ClassFile.FieldType.int)), Jvm.Cond.code ({ cls := "java/lang/Math", name := "min", desc := "(II)I" } : Jvm.MethodName) jdk_29_method_69_code (2 : Nat) (Option.some Jvm.ClassFile.FieldType.int), Jvm.Cond.code ({ cls := "java/util/Arrays", name := "copyOf", desc := "([JI)[J" } : Jvm.MethodName) jdk_65_method_124_code (3 : Nat) (Option.some (Jvm.ClassFile.FieldType.array Jvm.ClassFile.FieldType.long))]
set_option maxRecDepth 65536 in
theorem codes_eq : words1.filter isCode = codes1 := rfl
theorem w_codes : ∀ c ∈ words1.filter isCode, c.before args0 about1 = true := by
  rw [codes_eq]
  intro c hc
  simp only [codes1, List.mem_cons, List.not_mem_nil, or_false] at hc
  rcases hc with rfl | rfl | rfl | rfl | rfl | rfl | rfl | rfl | rfl | rfl | rfl | rfl | rfl
  · exact w_c0
  · exact w_c1
  · exact w_c2
  · exact w_c3
  · exact w_c4
  · exact w_c5
  · exact w_c6
  · exact w_c7
  · exact w_c8
  · exact w_c9
  · exact w_c10
  · exact w_c11
  · exact w_c12
set_option maxRecDepth 65536 in
theorem w_t1 : (words1.take 24).all (fun c => isCode c || c.before args0 about1) = true := by decide +kernel
set_option maxRecDepth 65536 in
theorem w_t2 : ((words1.drop 24).take 24).all (fun c => isCode c || c.before args0 about1) = true := by decide +kernel
set_option maxRecDepth 65536 in
theorem w_t3 : ((words1.drop 24).drop 24).all (fun c => isCode c || c.before args0 about1) = true := by decide +kernel
theorem w_tables : (allAtoms (Jvm.Cond.code x code maxLocals ret :: tables_1)).before args0 about1 = true := by
  rw [allAtoms_all]
  show words1.all (fun c => c.before args0 about1) = true
  refine all_split ?_ w_codes
  rw [← List.take_append_drop 24 words1, List.all_append, w_t1, ← List.take_append_drop 24 (words1.drop 24), List.all_append, w_t2, w_t3]
  rfl
set_option maxRecDepth 65536 in
theorem w_case : (Jvm.Cond.and given_1 narrow_1).before args0 about1 = true := by decide +kernel
theorem w_applies : (headSpec (Jvm.Cond.code x code maxLocals ret :: tables_1) room_1).applies x e0.platform about1 = true :=
  (Spec.applies_iff w_frames).mpr ⟨w_running, w_runnable, w_alone, w_named, w_hears, w_ripe, w_room, w_tables⟩
theorem atStart : AtStart classFile x code maxLocals ret World_1 tables_1 room_1 Calls_1 rest_1 Pre_1 launch0 p0 e0 about1 theMethod args0 below0 :=
  ⟨lists_1, trivial, launch0.admits_env _ _ _, launch0.least_env, fairChoices_fair.cas, fairChoices_fair.clock, w_frames, w_args, w_heap, w_applies, trivial, trivial, w_case⟩
end start1
theorem witness_1 : WitnessClaimed_1 := ⟨start1.p0, start1.e0, start1.about1, start1.theMethod, start1.args0, start1.below0, start1.atStart⟩
end Jvm.Pilot.@@N@@
