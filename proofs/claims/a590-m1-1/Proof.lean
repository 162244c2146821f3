import JvmDerived
import JvmDerived.Pilot.@@N@@Statement
import JvmDerived.Pilot.@@N@@Code
set_option linter.unusedVariables false
set_option linter.unusedSimpArgs false
namespace Jvm.Pilot.@@N@@
open Jvm Jvm.ClassFile Sem Op Lib Jvm.Free Jvm.Stand Jvm.LawKit Jvm.RoadKit Bundle Jvm.Pilot.@@N@@.Jvm.D
section OwnRun
variable {p : Program} {l : Launch} {e : Env} {R : Room} {s : State} {m : MethodId} {args : Array Value} {below : List Frame} {meth : Method} {c : Code} {T T' : State} {locs : List Loc} {cells slots : Nat}
/-- from here the run ends, as G says -/
def own_Run (p : Program) (e : Env) (below : List Frame) (G : Outcome → State → Prop) (T : State) (g : JFrame) : Prop :=
  ∃ s₂ o, Steps p.tables e below (T.setTop g) s₂ ∧ s₂.status = .running ∧ Ended s₂ below o ∧ G o s₂
theorem own_go {G : Outcome → State → Prop} {g g' : JFrame} (h : ∀ t, Steps p.tables e below (T'.setTop g') t → Steps p.tables e below (T.setTop g) t) (k : own_Run p e below G T' g') : own_Run p e below G T g := by
  obtain ⟨s₂, o, h1, h2, h3, h4⟩ := k
  exact ⟨s₂, o, h _ h1, h2, h3, h4⟩
theorem own_goT {G : Outcome → State → Prop} {g g' : JFrame} (h : Steps p.tables e below (T.setTop g) (T'.setTop g')) (k : own_Run p e below G T' g') : own_Run p e below G T g :=
  own_go (fun _ q => h.trans q) k
theorem own_start {G : Outcome → State → Prop} {f f' : JFrame} (h : f = f') (k : own_Run p e below G T f') : ∃ s₂ o, Steps p.tables e below (T.setTop f) s₂ ∧ s₂.status = .running ∧ Ended s₂ below o ∧ G o s₂ := by
  subst h
  exact k
theorem own_done {Q : Option Value → Heap → List Loc → Prop} {C N : Nat} {g : JFrame} (X : Stand p l e R s m args below meth c T locs cells slots) {v : Option Value} (hv : meth.sig.returnType = none → v = none) (hlocks : meth.locks = false)
    (hstep : ∀ fs, (∀ (f : JFrame) (acts : List Action), f.method = m → f.locked = none → f.entered = [] → (doReturn e (T.setTop f) acts v).1 = T.setFrames fs) → Steps p.tables e below (T.setTop g) (T.setFrames fs))
    (hQ : Q v T.heap locs) (hc : cells ≤ C) (hs : slots ≤ N) :
    own_Run p e below (fun o U' => ∃ v L, o = .returned v ∧ Q v U'.heap L ∧ FrameEnd s o U' L C N) T g := by
  obtain ⟨fs, hr, hrun, hended, hW, hsame⟩ := X.leave hv hlocks
  exact ⟨_, _, hstep fs hr, hrun, hended, _, _, rfl, hQ, ⟨_, rfl⟩, hW, hsame.mono hc hs⟩
theorem own_mono {cells' slots' : Nat} (X : Stand p l e R s m args below meth c T locs cells slots) (hc : cells ≤ cells') (hs : slots ≤ slots') : Stand p l e R s m args below meth c T locs cells' slots' :=
  ⟨X.admits, X.cas, X.clock, X.frames, X.room, X.hears, X.method, X.code, X.here, X.tail, X.warmed, X.limits, X.bytes, X.same.mono hc hs⟩
theorem own_retI (X : Stand p l e R s m args below meth c T locs cells slots) (hx : p.tables.exec = Jvm.exec) {pc : Nat} {Ls : Array Slot} {z : Int32} {rest : List Value} (hret : meth.sig.returnType = some .int) (hd : decode c.code pc = .ok (.ireturn, 1)) {fs : List Frame}
    (hl : ∀ (f : JFrame) (acts : List Action), f.method = m → f.locked = none → f.entered = [] → (doReturn e (T.setTop f) acts (some (.int z))).1 = T.setFrames fs) : Steps p.tables e below (T.setTop (mkF m pc Ls (.int z :: rest))) (T.setFrames fs) :=
  retOut X hx hret rfl (Or.inl ⟨rfl, Or.inl rfl, z, rfl⟩) hd hl
theorem own_retL (X : Stand p l e R s m args below meth c T locs cells slots) (hx : p.tables.exec = Jvm.exec) {pc : Nat} {Ls : Array Slot} {z : Int64} {rest : List Value} (hret : meth.sig.returnType = some .long) (hd : decode c.code pc = .ok (.lreturn, 1)) {fs : List Frame}
    (hl : ∀ (f : JFrame) (acts : List Action), f.method = m → f.locked = none → f.entered = [] → (doReturn e (T.setTop f) acts (some (.long z))).1 = T.setFrames fs) : Steps p.tables e below (T.setTop (mkF m pc Ls (.long z :: rest))) (T.setFrames fs) :=
  retOut X hx hret rfl (Or.inr (Or.inl ⟨rfl, rfl, z, rfl⟩)) hd hl
theorem own_retA {t : FieldType} (X : Stand p l e R s m args below meth c T locs cells slots) (hx : p.tables.exec = Jvm.exec) {pc : Nat} {Ls : Array Slot} {w : Value} {rest : List Value} (hret : meth.sig.returnType = some t) (ht : t.isReference = true) (hn : narrow t w = w) (hw : w.isRef = true) (hd : decode c.code pc = .ok (.areturn, 1)) {fs : List Frame}
    (hl : ∀ (f : JFrame) (acts : List Action), f.method = m → f.locked = none → f.entered = [] → (doReturn e (T.setTop f) acts (some w)).1 = T.setFrames fs) : Steps p.tables e below (T.setTop (mkF m pc Ls (w :: rest))) (T.setFrames fs) :=
  retOut X hx hret hn (Or.inr (Or.inr (Or.inr (Or.inr ⟨rfl, ht, hw⟩)))) hd hl
theorem own_ns {Z : State} {h : Heap} {a : Addr} {C : String} (E : Exa Z h a C) : ∃ c : Cell, h[a]? = some c ∧ c.vm.isStatics = false := by
  obtain ⟨c, k, h1, -, -, h4, -⟩ := E
  exact ⟨c, h1, h4⟩
theorem own_nsV {Z : State} {h : Heap} {a : Addr} {k : ClassId} {ty : FieldType} {n : Int32} {vs : List Value} {d : Value} (V : Arv Z h a k ty n vs d) : ∃ c : Cell, h[a]? = some c ∧ c.vm.isStatics = false := by
  obtain ⟨c, A, -⟩ := V
  exact ⟨c, A.1, A.plain⟩
theorem own_staKeep {Z : State} {h h' : Heap} {ws : List Addr} {C n d : String} {w : Value} (F : Sta Z h C n d w) (K : Keep h h' ws) (q : ∀ x ∈ ws, ∃ c : Cell, h[x]? = some c ∧ c.vm.isStatics = false) : Sta Z h' C n d w := by
  obtain ⟨cf, i, k, f, st, cell, h1, h2, h3, h4, h5, h6, h7⟩ := F
  refine ⟨cf, i, k, f, st, cell, h1, h2, h3, h4, K.2.1 st cell h5 (fun hm => ?_), h6, h7⟩
  obtain ⟨c, e1, e2⟩ := q st hm
  cases h5.symm.trans e1
  rw [h6] at e2; cases e2
theorem own_eqL {args : Array Value} {first s : State} {o : Option Outcome} {idx : List Nat} {t : Term} {n : Int64} (h : (Jvm.Cond.eq t (Term.long n)).value args first o s idx = some true) : t.eval args first o idx s = some (.long n) := by
  cases ht : t.eval args first o idx s with
  | none => simp [Cond.value, ht] at h
  | some x => cases x <;> simp [Cond.value, ht, Term.eval] at h ⊢ <;> exact h
theorem own_eqI {args : Array Value} {first s : State} {o : Option Outcome} {idx : List Nat} {t : Term} {n : Int32} (h : (Jvm.Cond.eq t (Term.int n)).value args first o s idx = some true) : t.eval args first o idx s = some (.int n) := by
  cases ht : t.eval args first o idx s with
  | none => simp [Cond.value, ht] at h
  | some x => cases x <;> simp [Cond.value, ht, Term.eval] at h ⊢ <;> exact h
theorem own_eqR {args : Array Value} {first s : State} {o : Option Outcome} {idx : List Nat} {t u : Term} {x : Addr} (h : (Jvm.Cond.eq t u).value args first o s idx = some true) (hu : u.eval args first o idx s = some (.ref x)) : t.eval args first o idx s = some (.ref x) := by
  cases ht : t.eval args first o idx s with
  | none => simp [Cond.value, ht] at h
  | some y => cases y <;> simp [Cond.value, ht, hu] at h ⊢ <;> exact h
theorem own_nf {s : State} {args : Array Value} {C : String} {y y' : MethodName} (hsel : (Jvm.Cond.selects C y y).before args s = true) (hc : y'.cls = y.cls) : NotFace s y' := fun r0 h0 => by
  obtain ⟨c2, r2, m2, q1, q2, q3, q4, kP, hkP, hkPi⟩ := Cond.selects_spec hsel
  have a := findClass_of_methodNamed q3
  have b := findClass_of_methodNamed h0
  rw [hc] at b
  have e := Option.some.inj (a.symm.trans b)
  exact ⟨kP, by rw [← e]; exact hkP, hkPi⟩
theorem own_selP {s : State} {args args' : Array Value} {C : String} {y y' : MethodName} (hsel : (Jvm.Cond.selects C y' y').before args s = true) (hc : y.cls = y'.cls) (hpriv : s.PrivateAt y) (hinst : (Jvm.Cond.instanceMethod y).before args' s = true) (hy : y.cls ≠ "java/lang/invoke/MethodHandle" ∧ y.cls ≠ "java/lang/invoke/VarHandle") : (Jvm.Cond.selects y.cls y y).before args' s = true := by
  obtain ⟨mk, methM, hnamed, -, -, -⟩ := Cond.instanceMethod_spec hinst
  obtain ⟨k, hk, hni⟩ := own_nf hsel hc mk hnamed
  exact selects_self_of_private (findClass_of_methodNamed hnamed) hk hni hpriv hinst hy
end OwnRun
theorem own_lcLt {x y : Int64} (h : x < y) : lcmpW x y = -1 := by
  have h1 : ¬ (x > y) := by simp only [GT.gt, Int64.lt_iff_toInt_lt] at h ⊢; omega
  have h2 : ¬ (x = y) := by rintro rfl; exact Int64.lt_irrefl h
  simp [lcmpW, h1, h2]
theorem own_lcGt {x y : Int64} (h : y < x) : lcmpW x y = 1 := by
  have h1 : x > y := h
  simp [lcmpW, h1]
theorem own_lcEq {x y : Int64} (h : x = y) : lcmpW x y = 0 := by
  subst h
  have h1 : ¬ (x > x) := Int64.lt_irrefl
  simp [lcmpW, h1]
theorem own_lcNlt {x y : Int64} (h : ¬ x < y) : lcmpW x y = 0 ∨ lcmpW x y = 1 := by
  by_cases q : x = y
  · exact Or.inl (own_lcEq q)
  · refine Or.inr (own_lcGt ?_)
    simp only [Int64.lt_iff_toInt_lt, ← Int64.toInt_inj] at h q ⊢; omega
theorem own_lcNgt {x y : Int64} (h : ¬ y < x) : lcmpW x y = 0 ∨ lcmpW x y = -1 := by
  by_cases q : x = y
  · exact Or.inl (own_lcEq q)
  · refine Or.inr (own_lcLt ?_)
    simp only [Int64.lt_iff_toInt_lt, ← Int64.toInt_inj] at h q ⊢; omega
theorem own_lcNe {x y : Int64} (h : ¬ x = y) : lcmpW x y = 1 ∨ lcmpW x y = -1 := by
  by_cases q : x < y
  · exact Or.inr (own_lcLt q)
  · refine Or.inl (own_lcGt ?_)
    simp only [Int64.lt_iff_toInt_lt, ← Int64.toInt_inj] at h q ⊢; omega
theorem own_lcT {x y : Int64} (h : x < y) : ifCond.holds .lt (lcmpW x y) = true ∧ ifCond.holds .ge (lcmpW x y) = false ∧ ifCond.holds .gt (lcmpW y x) = true ∧ ifCond.holds .le (lcmpW y x) = false := by
  rw [own_lcLt h, own_lcGt h]; decide
theorem own_lcF {x y : Int64} (h : ¬ x < y) : ifCond.holds .lt (lcmpW x y) = false ∧ ifCond.holds .ge (lcmpW x y) = true ∧ ifCond.holds .gt (lcmpW y x) = false ∧ ifCond.holds .le (lcmpW y x) = true := by
  rcases own_lcNlt h with q | q <;> rcases own_lcNgt (x := y) (y := x) h with r | r <;> rw [q, r] <;> decide
theorem own_lcTe {x y : Int64} (h : x = y) : ifCond.holds .eq (lcmpW x y) = true ∧ ifCond.holds .ne (lcmpW x y) = false := by
  rw [own_lcEq h]; decide
theorem own_lcFe {x y : Int64} (h : ¬ x = y) : ifCond.holds .eq (lcmpW x y) = false ∧ ifCond.holds .ne (lcmpW x y) = true := by
  rcases own_lcNe h with q | q <;> rw [q] <;> decide
theorem d1_0 : decode prog_4_method_1_code 0 = .ok (.aload_n 0, 1) := by decide +kernel
theorem d1_1 : decode prog_4_method_1_code 1 = .ok (.invokespecial 1, 3) := by decide +kernel
theorem d1_4 : decode prog_4_method_1_code 4 = .ok (.return_, 1) := by decide +kernel
theorem pn_1 : plainName "com/example/eventail/eventail/DeliveryCount" = true := by first | (simp [plainName, overriddenIn]; done) | decide +kernel
theorem ef_1 (m : MethodId) (x0 : Addr) : entryFrame m #[(.ref x0)] 1 = mkF m 0 #[.val (.ref x0)] [] := by first | (simp [entryFrame, mkF, argsToLocals, Value.category]; done) | rfl
def Q1 (Z : State) (a1 : Addr) (h0 : Heap) (n0 : Nat) (v : Option Value) (h : Heap) (L : List Loc) : Prop := v = none ∧ Fr n0 L ∧ h = h0
set_option maxRecDepth 65536 in
set_option maxHeartbeats 40000000 in
theorem rm1 (l : Launch) (Z : State) (a0 : Array Value) (hw : ∀ d ∈ tables_1, d.before a0 Z = true) (ws : List Jvm.Cond) (a1 : Addr) (h0 : Heap) (n0 : Nat) (Z0 : n0 ≤ h0.size) :
    MetFree l (⟨"com/example/eventail/eventail/DeliveryCount", "<init>", "()V"⟩ : MethodName) (head1 (Jvm.Cond.code (⟨"com/example/eventail/eventail/DeliveryCount", "<init>", "()V"⟩ : MethodName) prog_4_method_1_code 1 none :: ws) ({ frames := 1, cells := 0, slots := 0, locals := 12 } : Room)) (fun a U => a = #[(.ref a1)] ∧ Z.Warmed39 U.vm ∧ U.heap = h0) (fun _ _ _ _ _ => True) (fun _ U o U' => ∃ v L, o = .returned v ∧ Q1 Z a1 h0 n0 v U'.heap L ∧ FrameEnd U o U' L ({ frames := 1, cells := 0, slots := 0, locals := 12 } : Room).cells ({ frames := 1, cells := 0, slots := 0, locals := 12 } : Room).slots) := by
  refine MetFree.of_bodySF (plainFor_of_name pn_1) hisR ?_
  intro p e s m args below meth c s₁ Bd hml0 hP hK
  obtain ⟨rfl, hZ, hh⟩ := hP
  have hx := Bd.exec
  have hby := Bd.bytes
  have hml : c.maxLocals = 1 := hml0
  have hown : s.vm.findClass "com/example/eventail/eventail/DeliveryCount" = some m.cls := findClass_of_methodNamed Bd.named
  have hnm := (name_of_methodNamed Bd.named Bd.method).1
  have hret := Bd.returns
  have hlk : meth.locks = false := BodyLoose.notSynchronized Bd
  have X0 : Stand p l e ({ frames := 1, cells := 0, slots := 0, locals := 12 } : Room) s m #[(.ref a1)] below meth c s₁ [] 0 0 := Stand.of_body Bd
  have e0 : s₁.heap = h0 := by rw [← hh, Bd.state]; rfl
  have N0 := Fr.nil n0
  have W := fun (k : Nat) {d : Jvm.Cond} (h : tables_1[k]? = some d) => hw d (List.mem_of_getElem? h)
  have K0 : Keep h0 h0 [] := Keep.refl _ _
  refine own_start (ef_1 m a1) ?_
  show own_Run p e below _ s₁ (mkF m 0 #[.val (.ref a1)] [])
  refine own_go (fun _ k => XS.aloadN X0.here hx rfl (hb hby d1_0) rfl rfl k) ?_
  show own_Run p e below _ s₁ (mkF m 1 #[.val (.ref a1)] [(.ref a1)])
  obtain ⟨T1, X1, e1, st1⟩ := initO X0 hx hZ hown (W 6 rfl) (W 7 rfl) (W 8 rfl) e0 (g := (mkF m 1 #[.val (.ref a1)] [(.ref a1)])) rfl (by rw [hml]; rfl) rfl (hb hby d1_1) (by decide) (W := 0) (by show 2 * 0 + _ ≤ _; exact Nat.le_of_eq rfl) (by decide)
  refine own_go st1 ?_
  show own_Run p e below _ T1 (mkF m 4 #[.val (.ref a1)] [])
  refine own_done (Q := fun v h L => Q1 Z a1 h0 n0 v h L) (v := none) X1 (fun _ => rfl) hlk (fun fs hr => X1.returnOut hx hret (hb hby d1_4) hr) ?_ (by decide) (by decide)
  show Q1 Z a1 h0 n0 _ T1.heap _
  rw [e1]
  exact ⟨rfl, N0, rfl⟩
theorem d5_0 : decode prog_4_method_4_code 0 = .ok (.aload_n 0, 1) := by decide +kernel
theorem d5_1 : decode prog_4_method_4_code 1 = .ok (.getfield 13, 3) := by decide +kernel
theorem d5_4 : decode prog_4_method_4_code 4 = .ok (.lconst 0, 1) := by decide +kernel
theorem d5_5 : decode prog_4_method_4_code 5 = .ok (.lcmp, 1) := by decide +kernel
theorem d5_6 : decode prog_4_method_4_code 6 = .ok (.ifCond .eq 7, 3) := by decide +kernel
theorem d5_9 : decode prog_4_method_4_code 9 = .ok (.iconst 1, 1) := by decide +kernel
theorem d5_10 : decode prog_4_method_4_code 10 = .ok (.goto 4, 3) := by decide +kernel
theorem d5_13 : decode prog_4_method_4_code 13 = .ok (.iconst 0, 1) := by decide +kernel
theorem d5_14 : decode prog_4_method_4_code 14 = .ok (.ireturn, 1) := by decide +kernel
theorem pn_5 : plainName "com/example/eventail/eventail/DeliveryCount" = true := by first | (simp [plainName, overriddenIn]; done) | decide +kernel
theorem ef_5 (m : MethodId) (x0 : Addr) : entryFrame m #[(.ref x0)] 1 = mkF m 0 #[.val (.ref x0)] [] := by first | (simp [entryFrame, mkF, argsToLocals, Value.category]; done) | rfl
def Q5 (Z : State) (a1 : Addr) (w1 : Int64) (r1 : Int32) (h0 : Heap) (n0 : Nat) (v : Option Value) (h : Heap) (L : List Loc) : Prop := v = some (.int r1) ∧ Fr n0 L ∧ h = h0
set_option maxRecDepth 65536 in
set_option maxHeartbeats 40000000 in
theorem rm5 (l : Launch) (Z : State) (a0 : Array Value) (hw : ∀ d ∈ tables_1, d.before a0 Z = true) (ws : List Jvm.Cond) (a1 : Addr) (w1 : Int64) (r1 : Int32) (h0 : Heap) (n0 : Nat) (Z0 : n0 ≤ h0.size) (F_roomWanted_a1 : Fld Z h0 a1 "com/example/eventail/eventail/DeliveryCount" "roomWanted" "J" (.long w1)) (hp : w1 = (0 : Int64) ∧ r1 = (0 : Int32) ∨ w1 = (1 : Int64) ∧ r1 = (1 : Int32)) :
    MetFree l (⟨"com/example/eventail/eventail/DeliveryCount", "isRoomWanted", "()Z"⟩ : MethodName) (head1 (Jvm.Cond.code (⟨"com/example/eventail/eventail/DeliveryCount", "isRoomWanted", "()Z"⟩ : MethodName) prog_4_method_4_code 1 (some .boolean) :: ws) ({ frames := 0, cells := 0, slots := 0, locals := 0 } : Room)) (fun a U => a = #[(.ref a1)] ∧ Z.Warmed39 U.vm ∧ U.heap = h0) (fun _ _ _ _ _ => True) (fun _ U o U' => ∃ v L, o = .returned v ∧ Q5 Z a1 w1 r1 h0 n0 v U'.heap L ∧ FrameEnd U o U' L ({ frames := 0, cells := 0, slots := 0, locals := 0 } : Room).cells ({ frames := 0, cells := 0, slots := 0, locals := 0 } : Room).slots) := by
  refine MetFree.of_bodySF (plainFor_of_name pn_5) hisR ?_
  intro p e s m args below meth c s₁ Bd hml0 hP hK
  obtain ⟨rfl, hZ, hh⟩ := hP
  have hx := Bd.exec
  have hby := Bd.bytes
  have hml : c.maxLocals = 1 := hml0
  have hown : s.vm.findClass "com/example/eventail/eventail/DeliveryCount" = some m.cls := findClass_of_methodNamed Bd.named
  have hnm := (name_of_methodNamed Bd.named Bd.method).1
  have hret := Bd.returns
  have hlk : meth.locks = false := BodyLoose.notSynchronized Bd
  have X0 : Stand p l e ({ frames := 0, cells := 0, slots := 0, locals := 0 } : Room) s m #[(.ref a1)] below meth c s₁ [] 0 0 := Stand.of_body Bd
  have e0 : s₁.heap = h0 := by rw [← hh, Bd.state]; rfl
  have N0 := Fr.nil n0
  have W := fun (k : Nat) {d : Jvm.Cond} (h : tables_1[k]? = some d) => hw d (List.mem_of_getElem? h)
  have K0 : Keep h0 h0 [] := Keep.refl _ _
  refine own_start (ef_5 m a1) ?_
  show own_Run p e below _ s₁ (mkF m 0 #[.val (.ref a1)] [])
  rcases hp with ⟨rfl, rfl⟩ | ⟨rfl, rfl⟩
  · show own_Run p e below _ s₁ (mkF m 0 #[.val (.ref a1)] [])
    refine own_go (fun _ k => XS.aloadN X0.here hx rfl (hb hby d5_0) rfl rfl k) ?_
    show own_Run p e below _ s₁ (mkF m 1 #[.val (.ref a1)] [(.ref a1)])
    obtain ⟨T2, X2, e2, st2⟩ := getF X0 hx hZ hown (host := "") (Or.inl (W 16 rfl)) Via.refl e0 F_roomWanted_a1 (g := (mkF m 1 #[.val (.ref a1)] [(.ref a1)])) rfl rfl (hb hby d5_1)
    refine own_go st2 ?_
    show own_Run p e below _ T2 (mkF m 4 #[.val (.ref a1)] [(.long (0 : Int64))])
    refine own_go (fun _ k => XS.lconst X2.here hx rfl (hb hby d5_4) k) ?_
    refine own_go (fun _ k => XS.lcmp X2.here hx rfl (hb hby d5_5) rfl k) ?_
    show own_Run p e below _ T2 (mkF m 6 #[.val (.ref a1)] [(.int (lcmpW (0 : Int64) (0 : Int64)))])
    refine own_go (fun _ k => XS.ifYes X2.here hx rfl (pc0 := 6) (pc' := 13) rfl (hb hby d5_6) rfl (own_lcTe (by decide : (0 : Int64) = (0 : Int64))).1 (by decide) (by decide) k) ?_
    show own_Run p e below _ T2 (mkF m 13 #[.val (.ref a1)] [])
    refine own_go (fun _ k => XS.iconst X2.here hx rfl (hb hby d5_13) k) ?_
    show own_Run p e below _ T2 (mkF m 14 #[.val (.ref a1)] [(.int (0 : Int32))])
    refine own_done (Q := fun v h L => Q5 Z a1 (0 : Int64) (0 : Int32) h0 n0 v h L) (v := (some (.int (0 : Int32)))) X2 (fun h => by rw [hret] at h; cases h) hlk (fun fs hr => retN X2 hx (t := .boolean) hret (by simp) (hb hby d5_14) hr) ?_ (by decide) (by decide)
    show Q5 Z a1 (0 : Int64) (0 : Int32) h0 n0 _ T2.heap _
    rw [e2]
    exact ⟨rfl, N0, rfl⟩
  · show own_Run p e below _ s₁ (mkF m 0 #[.val (.ref a1)] [])
    refine own_go (fun _ k => XS.aloadN X0.here hx rfl (hb hby d5_0) rfl rfl k) ?_
    show own_Run p e below _ s₁ (mkF m 1 #[.val (.ref a1)] [(.ref a1)])
    obtain ⟨T3, X3, e3, st3⟩ := getF X0 hx hZ hown (host := "") (Or.inl (W 16 rfl)) Via.refl e0 F_roomWanted_a1 (g := (mkF m 1 #[.val (.ref a1)] [(.ref a1)])) rfl rfl (hb hby d5_1)
    refine own_go st3 ?_
    show own_Run p e below _ T3 (mkF m 4 #[.val (.ref a1)] [(.long (1 : Int64))])
    refine own_go (fun _ k => XS.lconst X3.here hx rfl (hb hby d5_4) k) ?_
    refine own_go (fun _ k => XS.lcmp X3.here hx rfl (hb hby d5_5) rfl k) ?_
    show own_Run p e below _ T3 (mkF m 6 #[.val (.ref a1)] [(.int (lcmpW (1 : Int64) (0 : Int64)))])
    refine own_go (fun _ k => XS.ifNo X3.here hx rfl (hb hby d5_6) rfl (own_lcFe (by decide : ¬ ((1 : Int64) = (0 : Int64)))).1 k) ?_
    show own_Run p e below _ T3 (mkF m 9 #[.val (.ref a1)] [])
    refine own_go (fun _ k => XS.iconst X3.here hx rfl (hb hby d5_9) k) ?_
    refine own_go (fun _ k => XS.goto X3.here hx rfl (pc0 := 10) (pc' := 14) rfl (hb hby d5_10) (by decide) (by decide) k) ?_
    show own_Run p e below _ T3 (mkF m 14 #[.val (.ref a1)] [(.int (1 : Int32))])
    refine own_done (Q := fun v h L => Q5 Z a1 (1 : Int64) (1 : Int32) h0 n0 v h L) (v := (some (.int (1 : Int32)))) X3 (fun h => by rw [hret] at h; cases h) hlk (fun fs hr => retN X3 hx (t := .boolean) hret (by simp) (hb hby d5_14) hr) ?_ (by decide) (by decide)
    show Q5 Z a1 (1 : Int64) (1 : Int32) h0 n0 _ T3.heap _
    rw [e3]
    exact ⟨rfl, N0, rfl⟩
theorem d6_0 : decode prog_4_method_5_code 0 = .ok (.aload_n 0, 1) := by decide +kernel
theorem d6_1 : decode prog_4_method_5_code 1 = .ok (.iload_n 1, 1) := by decide +kernel
theorem d6_2 : decode prog_4_method_5_code 2 = .ok (.ifCond .eq 7, 3) := by decide +kernel
theorem d6_5 : decode prog_4_method_5_code 5 = .ok (.lconst 1, 1) := by decide +kernel
theorem d6_6 : decode prog_4_method_5_code 6 = .ok (.goto 4, 3) := by decide +kernel
theorem d6_9 : decode prog_4_method_5_code 9 = .ok (.lconst 0, 1) := by decide +kernel
theorem d6_10 : decode prog_4_method_5_code 10 = .ok (.putfield 13, 3) := by decide +kernel
theorem d6_13 : decode prog_4_method_5_code 13 = .ok (.return_, 1) := by decide +kernel
theorem pn_6 : plainName "com/example/eventail/eventail/DeliveryCount" = true := by first | (simp [plainName, overriddenIn]; done) | decide +kernel
theorem ef_6 (m : MethodId) (x0 : Addr) (x1 : Int32) : entryFrame m #[(.ref x0), (.int x1)] 2 = mkF m 0 #[.val (.ref x0), .val (.int x1)] [] := by first | (simp [entryFrame, mkF, argsToLocals, Value.category]; done) | rfl
def Q6 (Z : State) (a1 : Addr) (p2 : Int32) (u : Int64) (u2 : Int64) (w4 : Int64) (h0 : Heap) (n0 : Nat) (v : Option Value) (h : Heap) (L : List Loc) : Prop := v = none ∧ Fr n0 L ∧ Keep h0 h [a1] ∧ Exa Z h a1 "com/example/eventail/eventail/DeliveryCount" ∧ Fld Z h a1 "com/example/eventail/eventail/DeliveryCount" "roomWanted" "J" (.long u2) ∧ Fld Z h a1 "com/example/eventail/eventail/DeliveryCount" "begun" "J" (.long w4)
set_option maxRecDepth 65536 in
set_option maxHeartbeats 40000000 in
theorem rm6 (l : Launch) (Z : State) (a0 : Array Value) (hw : ∀ d ∈ tables_1, d.before a0 Z = true) (ws : List Jvm.Cond) (a1 : Addr) (p2 : Int32) (u : Int64) (u2 : Int64) (w4 : Int64) (h0 : Heap) (n0 : Nat) (Z0 : n0 ≤ h0.size) (E_a1 : Exa Z h0 a1 "com/example/eventail/eventail/DeliveryCount") (F_roomWanted_a1 : Fld Z h0 a1 "com/example/eventail/eventail/DeliveryCount" "roomWanted" "J" (.long u)) (F_begun_a1 : Fld Z h0 a1 "com/example/eventail/eventail/DeliveryCount" "begun" "J" (.long w4)) (g_a1 : n0 ≤ a1) (hp : p2 = (0 : Int32) ∧ u2 = (0 : Int64) ∨ p2 = (1 : Int32) ∧ u2 = (1 : Int64)) :
    MetFree l (⟨"com/example/eventail/eventail/DeliveryCount", "setRoomWanted", "(Z)V"⟩ : MethodName) (head1 (Jvm.Cond.code (⟨"com/example/eventail/eventail/DeliveryCount", "setRoomWanted", "(Z)V"⟩ : MethodName) prog_4_method_5_code 2 none :: ws) ({ frames := 0, cells := 0, slots := 0, locals := 0 } : Room)) (fun a U => a = #[(.ref a1), (.int p2)] ∧ Z.Warmed39 U.vm ∧ U.heap = h0) (fun _ _ _ _ _ => True) (fun _ U o U' => ∃ v L, o = .returned v ∧ Q6 Z a1 p2 u u2 w4 h0 n0 v U'.heap L ∧ FrameEnd U o U' L ({ frames := 0, cells := 0, slots := 0, locals := 0 } : Room).cells ({ frames := 0, cells := 0, slots := 0, locals := 0 } : Room).slots) := by
  refine MetFree.of_bodySF (plainFor_of_name pn_6) hisR ?_
  intro p e s m args below meth c s₁ Bd hml0 hP hK
  obtain ⟨rfl, hZ, hh⟩ := hP
  have hx := Bd.exec
  have hby := Bd.bytes
  have hml : c.maxLocals = 2 := hml0
  have hown : s.vm.findClass "com/example/eventail/eventail/DeliveryCount" = some m.cls := findClass_of_methodNamed Bd.named
  have hnm := (name_of_methodNamed Bd.named Bd.method).1
  have hret := Bd.returns
  have hlk : meth.locks = false := BodyLoose.notSynchronized Bd
  have X0 : Stand p l e ({ frames := 0, cells := 0, slots := 0, locals := 0 } : Room) s m #[(.ref a1), (.int p2)] below meth c s₁ [] 0 0 := Stand.of_body Bd
  have e0 : s₁.heap = h0 := by rw [← hh, Bd.state]; rfl
  have N0 := Fr.nil n0
  have W := fun (k : Nat) {d : Jvm.Cond} (h : tables_1[k]? = some d) => hw d (List.mem_of_getElem? h)
  have K0 : Keep h0 h0 [a1] := Keep.refl _ _
  refine own_start (ef_6 m a1 p2) ?_
  show own_Run p e below _ s₁ (mkF m 0 #[.val (.ref a1), .val (.int p2)] [])
  rcases hp with ⟨rfl, rfl⟩ | ⟨rfl, rfl⟩
  · show own_Run p e below _ s₁ (mkF m 0 #[.val (.ref a1), .val (.int (0 : Int32))] [])
    refine own_go (fun _ k => XS.aloadN X0.here hx rfl (hb hby d6_0) rfl rfl k) ?_
    refine own_go (fun _ k => XS.iloadN X0.here hx rfl (hb hby d6_1) rfl k) ?_
    show own_Run p e below _ s₁ (mkF m 2 #[.val (.ref a1), .val (.int (0 : Int32))] [(.int (0 : Int32)), (.ref a1)])
    refine own_go (fun _ k => XS.ifYes X0.here hx rfl (pc0 := 2) (pc' := 9) rfl (hb hby d6_2) rfl ((if0 _ _).trans (teq (by decide : (0 : Int32) = (0 : Int32))).1) (by decide) (by decide) k) ?_
    show own_Run p e below _ s₁ (mkF m 9 #[.val (.ref a1), .val (.int (0 : Int32))] [(.ref a1)])
    refine own_go (fun _ k => XS.lconst X0.here hx rfl (hb hby d6_9) k) ?_
    show own_Run p e below _ s₁ (mkF m 10 #[.val (.ref a1), .val (.int (0 : Int32))] [(.long (0 : Int64)), (.ref a1)])
    obtain ⟨T4, h4, X4, e4, W4, st4⟩ := putF X0 hx hZ hown (host := "") (Or.inl (W 16 rfl)) Via.refl e0 F_roomWanted_a1 E_a1 (Or.inl (W 17 rfl)) (W 1 rfl) (ty := .long) (by decide) rfl rfl (g := (mkF m 10 #[.val (.ref a1), .val (.int (0 : Int32))] [(.long (0 : Int64)), (.ref a1)])) rfl rfl (hb hby d6_10)
    refine own_go st4 ?_
    show own_Run p e below _ T4 (mkF m 13 #[.val (.ref a1), .val (.int (0 : Int32))] [])
    have Z0_c5 := Nat.le_trans Z0 (Keep.of_wr W4).1
    have K0_c5 := K0.wr W4 (Or.inl (List.mem_of_getElem? (i := 0) rfl))
    have E_a1_c5 := E_a1.wr W4
    have F_begun_a1_c5 := F_begun_a1.other W4 (Or.inr (slot_ne (Or.inl (W 15 rfl)) (Or.inl (W 17 rfl)) (by decide) (t := .long) (t' := .long) (by decide) (by decide)))
    have F_roomWanted_a1_c4 : Fld Z h4 a1 "com/example/eventail/eventail/DeliveryCount" "roomWanted" "J" (.long (0 : Int64)) := F_roomWanted_a1.same W4
    have N4 := Fr.snoc X4 N0 g_a1
    refine own_done (Q := fun v h L => Q6 Z a1 (0 : Int32) u (0 : Int64) w4 h0 n0 v h L) (v := none) X4 (fun _ => rfl) hlk (fun fs hr => X4.returnOut hx hret (hb hby d6_13) hr) ?_ (by decide) (by decide)
    show Q6 Z a1 (0 : Int32) u (0 : Int64) w4 h0 n0 _ T4.heap _
    rw [e4]
    exact ⟨rfl, N4, K0_c5, E_a1_c5, F_roomWanted_a1_c4, F_begun_a1_c5⟩
  · show own_Run p e below _ s₁ (mkF m 0 #[.val (.ref a1), .val (.int (1 : Int32))] [])
    refine own_go (fun _ k => XS.aloadN X0.here hx rfl (hb hby d6_0) rfl rfl k) ?_
    refine own_go (fun _ k => XS.iloadN X0.here hx rfl (hb hby d6_1) rfl k) ?_
    show own_Run p e below _ s₁ (mkF m 2 #[.val (.ref a1), .val (.int (1 : Int32))] [(.int (1 : Int32)), (.ref a1)])
    refine own_go (fun _ k => XS.ifNo X0.here hx rfl (hb hby d6_2) rfl ((if0 _ _).trans (feq (by decide : ¬ ((1 : Int32) = (0 : Int32)))).1) k) ?_
    show own_Run p e below _ s₁ (mkF m 5 #[.val (.ref a1), .val (.int (1 : Int32))] [(.ref a1)])
    refine own_go (fun _ k => XS.lconst X0.here hx rfl (hb hby d6_5) k) ?_
    refine own_go (fun _ k => XS.goto X0.here hx rfl (pc0 := 6) (pc' := 10) rfl (hb hby d6_6) (by decide) (by decide) k) ?_
    show own_Run p e below _ s₁ (mkF m 10 #[.val (.ref a1), .val (.int (1 : Int32))] [(.long (1 : Int64)), (.ref a1)])
    obtain ⟨T6, h6, X6, e6, W6, st6⟩ := putF X0 hx hZ hown (host := "") (Or.inl (W 16 rfl)) Via.refl e0 F_roomWanted_a1 E_a1 (Or.inl (W 17 rfl)) (W 1 rfl) (ty := .long) (by decide) rfl rfl (g := (mkF m 10 #[.val (.ref a1), .val (.int (1 : Int32))] [(.long (1 : Int64)), (.ref a1)])) rfl rfl (hb hby d6_10)
    refine own_go st6 ?_
    show own_Run p e below _ T6 (mkF m 13 #[.val (.ref a1), .val (.int (1 : Int32))] [])
    have Z0_c7 := Nat.le_trans Z0 (Keep.of_wr W6).1
    have K0_c7 := K0.wr W6 (Or.inl (List.mem_of_getElem? (i := 0) rfl))
    have E_a1_c7 := E_a1.wr W6
    have F_begun_a1_c7 := F_begun_a1.other W6 (Or.inr (slot_ne (Or.inl (W 15 rfl)) (Or.inl (W 17 rfl)) (by decide) (t := .long) (t' := .long) (by decide) (by decide)))
    have F_roomWanted_a1_c6 : Fld Z h6 a1 "com/example/eventail/eventail/DeliveryCount" "roomWanted" "J" (.long (1 : Int64)) := F_roomWanted_a1.same W6
    have N6 := Fr.snoc X6 N0 g_a1
    refine own_done (Q := fun v h L => Q6 Z a1 (1 : Int32) u (1 : Int64) w4 h0 n0 v h L) (v := none) X6 (fun _ => rfl) hlk (fun fs hr => X6.returnOut hx hret (hb hby d6_13) hr) ?_ (by decide) (by decide)
    show Q6 Z a1 (1 : Int32) u (1 : Int64) w4 h0 n0 _ T6.heap _
    rw [e6]
    exact ⟨rfl, N6, K0_c7, E_a1_c7, F_roomWanted_a1_c6, F_begun_a1_c7⟩
theorem d3_0 : decode prog_4_method_2_code 0 = .ok (.aload_n 0, 1) := by decide +kernel
theorem d3_1 : decode prog_4_method_2_code 1 = .ok (.dup, 1) := by decide +kernel
theorem d3_2 : decode prog_4_method_2_code 2 = .ok (.getfield 7, 3) := by decide +kernel
theorem d3_5 : decode prog_4_method_2_code 5 = .ok (.lconst 1, 1) := by decide +kernel
theorem d3_6 : decode prog_4_method_2_code 6 = .ok (.ladd, 1) := by decide +kernel
theorem d3_7 : decode prog_4_method_2_code 7 = .ok (.putfield 7, 3) := by decide +kernel
theorem d3_10 : decode prog_4_method_2_code 10 = .ok (.aload_n 0, 1) := by decide +kernel
theorem d3_11 : decode prog_4_method_2_code 11 = .ok (.getfield 13, 3) := by decide +kernel
theorem d3_14 : decode prog_4_method_2_code 14 = .ok (.lconst 0, 1) := by decide +kernel
theorem d3_15 : decode prog_4_method_2_code 15 = .ok (.lcmp, 1) := by decide +kernel
theorem d3_16 : decode prog_4_method_2_code 16 = .ok (.ifCond .eq 7, 3) := by decide +kernel
theorem d3_19 : decode prog_4_method_2_code 19 = .ok (.iconst 1, 1) := by decide +kernel
theorem d3_20 : decode prog_4_method_2_code 20 = .ok (.goto 4, 3) := by decide +kernel
theorem d3_23 : decode prog_4_method_2_code 23 = .ok (.iconst 0, 1) := by decide +kernel
theorem d3_24 : decode prog_4_method_2_code 24 = .ok (.ireturn, 1) := by decide +kernel
theorem pn_3 : plainName "com/example/eventail/eventail/DeliveryCount" = true := by first | (simp [plainName, overriddenIn]; done) | decide +kernel
theorem ef_3 (m : MethodId) (x0 : Addr) : entryFrame m #[(.ref x0)] 1 = mkF m 0 #[.val (.ref x0)] [] := by first | (simp [entryFrame, mkF, argsToLocals, Value.category]; done) | rfl
def Q3 (Z : State) (a1 : Addr) (w1 : Int64) (r1 : Int32) (w4 : Int64) (h0 : Heap) (n0 : Nat) (v : Option Value) (h : Heap) (L : List Loc) : Prop := v = some (.int r1) ∧ Fr n0 L ∧ Keep h0 h [a1] ∧ Exa Z h a1 "com/example/eventail/eventail/DeliveryCount" ∧ Fld Z h a1 "com/example/eventail/eventail/DeliveryCount" "roomWanted" "J" (.long w1) ∧ Fld Z h a1 "com/example/eventail/eventail/DeliveryCount" "begun" "J" (.long (w4 + (1 : Int64)))
set_option maxRecDepth 65536 in
set_option maxHeartbeats 40000000 in
theorem rm3 (l : Launch) (Z : State) (a0 : Array Value) (hw : ∀ d ∈ tables_1, d.before a0 Z = true) (ws : List Jvm.Cond) (a1 : Addr) (w1 : Int64) (r1 : Int32) (w4 : Int64) (h0 : Heap) (n0 : Nat) (Z0 : n0 ≤ h0.size) (E_a1 : Exa Z h0 a1 "com/example/eventail/eventail/DeliveryCount") (F_roomWanted_a1 : Fld Z h0 a1 "com/example/eventail/eventail/DeliveryCount" "roomWanted" "J" (.long w1)) (F_begun_a1 : Fld Z h0 a1 "com/example/eventail/eventail/DeliveryCount" "begun" "J" (.long w4)) (g_a1 : n0 ≤ a1) (hp : w1 = (0 : Int64) ∧ r1 = (0 : Int32) ∨ w1 = (1 : Int64) ∧ r1 = (1 : Int32)) :
    MetFree l (⟨"com/example/eventail/eventail/DeliveryCount", "deliveryBegins", "()Z"⟩ : MethodName) (head1 (Jvm.Cond.code (⟨"com/example/eventail/eventail/DeliveryCount", "deliveryBegins", "()Z"⟩ : MethodName) prog_4_method_2_code 1 (some .boolean) :: ws) ({ frames := 0, cells := 0, slots := 0, locals := 0 } : Room)) (fun a U => a = #[(.ref a1)] ∧ Z.Warmed39 U.vm ∧ U.heap = h0) (fun _ _ _ _ _ => True) (fun _ U o U' => ∃ v L, o = .returned v ∧ Q3 Z a1 w1 r1 w4 h0 n0 v U'.heap L ∧ FrameEnd U o U' L ({ frames := 0, cells := 0, slots := 0, locals := 0 } : Room).cells ({ frames := 0, cells := 0, slots := 0, locals := 0 } : Room).slots) := by
  refine MetFree.of_bodySF (plainFor_of_name pn_3) hisR ?_
  intro p e s m args below meth c s₁ Bd hml0 hP hK
  obtain ⟨rfl, hZ, hh⟩ := hP
  have hx := Bd.exec
  have hby := Bd.bytes
  have hml : c.maxLocals = 1 := hml0
  have hown : s.vm.findClass "com/example/eventail/eventail/DeliveryCount" = some m.cls := findClass_of_methodNamed Bd.named
  have hnm := (name_of_methodNamed Bd.named Bd.method).1
  have hret := Bd.returns
  have hlk : meth.locks = false := BodyLoose.notSynchronized Bd
  have X0 : Stand p l e ({ frames := 0, cells := 0, slots := 0, locals := 0 } : Room) s m #[(.ref a1)] below meth c s₁ [] 0 0 := Stand.of_body Bd
  have e0 : s₁.heap = h0 := by rw [← hh, Bd.state]; rfl
  have N0 := Fr.nil n0
  have W := fun (k : Nat) {d : Jvm.Cond} (h : tables_1[k]? = some d) => hw d (List.mem_of_getElem? h)
  have K0 : Keep h0 h0 [a1] := Keep.refl _ _
  refine own_start (ef_3 m a1) ?_
  show own_Run p e below _ s₁ (mkF m 0 #[.val (.ref a1)] [])
  rcases hp with ⟨rfl, rfl⟩ | ⟨rfl, rfl⟩
  · show own_Run p e below _ s₁ (mkF m 0 #[.val (.ref a1)] [])
    refine own_go (fun _ k => XS.aloadN X0.here hx rfl (hb hby d3_0) rfl rfl k) ?_
    refine own_go (fun _ k => XS.dup X0.here hx rfl (hb hby d3_1) rfl rfl k) ?_
    show own_Run p e below _ s₁ (mkF m 2 #[.val (.ref a1)] [(.ref a1), (.ref a1)])
    obtain ⟨T8, X8, e8, st8⟩ := getF X0 hx hZ hown (host := "") (Or.inl (W 14 rfl)) Via.refl e0 F_begun_a1 (g := (mkF m 2 #[.val (.ref a1)] [(.ref a1), (.ref a1)])) rfl rfl (hb hby d3_2)
    refine own_go st8 ?_
    show own_Run p e below _ T8 (mkF m 5 #[.val (.ref a1)] [(.long w4), (.ref a1)])
    refine own_go (fun _ k => XS.lconst X8.here hx rfl (hb hby d3_5) k) ?_
    refine own_go (fun _ k => XS.ladd X8.here hx rfl (hb hby d3_6) rfl k) ?_
    show own_Run p e below _ T8 (mkF m 7 #[.val (.ref a1)] [(.long (w4 + (1 : Int64))), (.ref a1)])
    obtain ⟨T9, h9, X9, e9, W9, st9⟩ := putF X8 hx hZ hown (host := "") (Or.inl (W 14 rfl)) Via.refl e8 F_begun_a1 E_a1 (Or.inl (W 15 rfl)) (W 1 rfl) (ty := .long) (by decide) rfl rfl (g := (mkF m 7 #[.val (.ref a1)] [(.long (w4 + (1 : Int64))), (.ref a1)])) rfl rfl (hb hby d3_7)
    refine own_go st9 ?_
    show own_Run p e below _ T9 (mkF m 10 #[.val (.ref a1)] [])
    have Z0_c10 := Nat.le_trans Z0 (Keep.of_wr W9).1
    have K0_c10 := K0.wr W9 (Or.inl (List.mem_of_getElem? (i := 0) rfl))
    have E_a1_c10 := E_a1.wr W9
    have F_roomWanted_a1_c10 := F_roomWanted_a1.other W9 (Or.inr (slot_ne (Or.inl (W 17 rfl)) (Or.inl (W 15 rfl)) (by decide) (t := .long) (t' := .long) (by decide) (by decide)))
    have F_begun_a1_c9 : Fld Z h9 a1 "com/example/eventail/eventail/DeliveryCount" "begun" "J" (.long (w4 + (1 : Int64))) := F_begun_a1.same W9
    have N9 := Fr.snoc X9 N0 g_a1
    refine own_go (fun _ k => XS.aloadN X9.here hx rfl (hb hby d3_10) rfl rfl k) ?_
    show own_Run p e below _ T9 (mkF m 11 #[.val (.ref a1)] [(.ref a1)])
    obtain ⟨T11, X11, e11, st11⟩ := getF X9 hx hZ hown (host := "") (Or.inl (W 16 rfl)) Via.refl e9 F_roomWanted_a1_c10 (g := (mkF m 11 #[.val (.ref a1)] [(.ref a1)])) rfl rfl (hb hby d3_11)
    refine own_go st11 ?_
    show own_Run p e below _ T11 (mkF m 14 #[.val (.ref a1)] [(.long (0 : Int64))])
    refine own_go (fun _ k => XS.lconst X11.here hx rfl (hb hby d3_14) k) ?_
    refine own_go (fun _ k => XS.lcmp X11.here hx rfl (hb hby d3_15) rfl k) ?_
    show own_Run p e below _ T11 (mkF m 16 #[.val (.ref a1)] [(.int (lcmpW (0 : Int64) (0 : Int64)))])
    refine own_go (fun _ k => XS.ifYes X11.here hx rfl (pc0 := 16) (pc' := 23) rfl (hb hby d3_16) rfl (own_lcTe (by decide : (0 : Int64) = (0 : Int64))).1 (by decide) (by decide) k) ?_
    show own_Run p e below _ T11 (mkF m 23 #[.val (.ref a1)] [])
    refine own_go (fun _ k => XS.iconst X11.here hx rfl (hb hby d3_23) k) ?_
    show own_Run p e below _ T11 (mkF m 24 #[.val (.ref a1)] [(.int (0 : Int32))])
    refine own_done (Q := fun v h L => Q3 Z a1 (0 : Int64) (0 : Int32) w4 h0 n0 v h L) (v := (some (.int (0 : Int32)))) X11 (fun h => by rw [hret] at h; cases h) hlk (fun fs hr => retN X11 hx (t := .boolean) hret (by simp) (hb hby d3_24) hr) ?_ (by decide) (by decide)
    show Q3 Z a1 (0 : Int64) (0 : Int32) w4 h0 n0 _ T11.heap _
    rw [e11]
    exact ⟨rfl, N9, K0_c10, E_a1_c10, F_roomWanted_a1_c10, F_begun_a1_c9⟩
  · show own_Run p e below _ s₁ (mkF m 0 #[.val (.ref a1)] [])
    refine own_go (fun _ k => XS.aloadN X0.here hx rfl (hb hby d3_0) rfl rfl k) ?_
    refine own_go (fun _ k => XS.dup X0.here hx rfl (hb hby d3_1) rfl rfl k) ?_
    show own_Run p e below _ s₁ (mkF m 2 #[.val (.ref a1)] [(.ref a1), (.ref a1)])
    obtain ⟨T12, X12, e12, st12⟩ := getF X0 hx hZ hown (host := "") (Or.inl (W 14 rfl)) Via.refl e0 F_begun_a1 (g := (mkF m 2 #[.val (.ref a1)] [(.ref a1), (.ref a1)])) rfl rfl (hb hby d3_2)
    refine own_go st12 ?_
    show own_Run p e below _ T12 (mkF m 5 #[.val (.ref a1)] [(.long w4), (.ref a1)])
    refine own_go (fun _ k => XS.lconst X12.here hx rfl (hb hby d3_5) k) ?_
    refine own_go (fun _ k => XS.ladd X12.here hx rfl (hb hby d3_6) rfl k) ?_
    show own_Run p e below _ T12 (mkF m 7 #[.val (.ref a1)] [(.long (w4 + (1 : Int64))), (.ref a1)])
    obtain ⟨T13, h13, X13, e13, W13, st13⟩ := putF X12 hx hZ hown (host := "") (Or.inl (W 14 rfl)) Via.refl e12 F_begun_a1 E_a1 (Or.inl (W 15 rfl)) (W 1 rfl) (ty := .long) (by decide) rfl rfl (g := (mkF m 7 #[.val (.ref a1)] [(.long (w4 + (1 : Int64))), (.ref a1)])) rfl rfl (hb hby d3_7)
    refine own_go st13 ?_
    show own_Run p e below _ T13 (mkF m 10 #[.val (.ref a1)] [])
    have Z0_c14 := Nat.le_trans Z0 (Keep.of_wr W13).1
    have K0_c14 := K0.wr W13 (Or.inl (List.mem_of_getElem? (i := 0) rfl))
    have E_a1_c14 := E_a1.wr W13
    have F_roomWanted_a1_c14 := F_roomWanted_a1.other W13 (Or.inr (slot_ne (Or.inl (W 17 rfl)) (Or.inl (W 15 rfl)) (by decide) (t := .long) (t' := .long) (by decide) (by decide)))
    have F_begun_a1_c13 : Fld Z h13 a1 "com/example/eventail/eventail/DeliveryCount" "begun" "J" (.long (w4 + (1 : Int64))) := F_begun_a1.same W13
    have N13 := Fr.snoc X13 N0 g_a1
    refine own_go (fun _ k => XS.aloadN X13.here hx rfl (hb hby d3_10) rfl rfl k) ?_
    show own_Run p e below _ T13 (mkF m 11 #[.val (.ref a1)] [(.ref a1)])
    obtain ⟨T15, X15, e15, st15⟩ := getF X13 hx hZ hown (host := "") (Or.inl (W 16 rfl)) Via.refl e13 F_roomWanted_a1_c14 (g := (mkF m 11 #[.val (.ref a1)] [(.ref a1)])) rfl rfl (hb hby d3_11)
    refine own_go st15 ?_
    show own_Run p e below _ T15 (mkF m 14 #[.val (.ref a1)] [(.long (1 : Int64))])
    refine own_go (fun _ k => XS.lconst X15.here hx rfl (hb hby d3_14) k) ?_
    refine own_go (fun _ k => XS.lcmp X15.here hx rfl (hb hby d3_15) rfl k) ?_
    show own_Run p e below _ T15 (mkF m 16 #[.val (.ref a1)] [(.int (lcmpW (1 : Int64) (0 : Int64)))])
    refine own_go (fun _ k => XS.ifNo X15.here hx rfl (hb hby d3_16) rfl (own_lcFe (by decide : ¬ ((1 : Int64) = (0 : Int64)))).1 k) ?_
    show own_Run p e below _ T15 (mkF m 19 #[.val (.ref a1)] [])
    refine own_go (fun _ k => XS.iconst X15.here hx rfl (hb hby d3_19) k) ?_
    refine own_go (fun _ k => XS.goto X15.here hx rfl (pc0 := 20) (pc' := 24) rfl (hb hby d3_20) (by decide) (by decide) k) ?_
    show own_Run p e below _ T15 (mkF m 24 #[.val (.ref a1)] [(.int (1 : Int32))])
    refine own_done (Q := fun v h L => Q3 Z a1 (1 : Int64) (1 : Int32) w4 h0 n0 v h L) (v := (some (.int (1 : Int32)))) X15 (fun h => by rw [hret] at h; cases h) hlk (fun fs hr => retN X15 hx (t := .boolean) hret (by simp) (hb hby d3_24) hr) ?_ (by decide) (by decide)
    show Q3 Z a1 (1 : Int64) (1 : Int32) w4 h0 n0 _ T15.heap _
    rw [e15]
    exact ⟨rfl, N13, K0_c14, E_a1_c14, F_roomWanted_a1_c14, F_begun_a1_c13⟩
theorem d4_0 : decode prog_4_method_3_code 0 = .ok (.aload_n 0, 1) := by decide +kernel
theorem d4_1 : decode prog_4_method_3_code 1 = .ok (.getfield 7, 3) := by decide +kernel
theorem d4_4 : decode prog_4_method_3_code 4 = .ok (.lreturn, 1) := by decide +kernel
theorem pn_4 : plainName "com/example/eventail/eventail/DeliveryCount" = true := by first | (simp [plainName, overriddenIn]; done) | decide +kernel
theorem ef_4 (m : MethodId) (x0 : Addr) : entryFrame m #[(.ref x0)] 1 = mkF m 0 #[.val (.ref x0)] [] := by first | (simp [entryFrame, mkF, argsToLocals, Value.category]; done) | rfl
def Q4 (Z : State) (a1 : Addr) (w4 : Int64) (h0 : Heap) (n0 : Nat) (v : Option Value) (h : Heap) (L : List Loc) : Prop := v = some (.long w4) ∧ Fr n0 L ∧ h = h0
set_option maxRecDepth 65536 in
set_option maxHeartbeats 40000000 in
theorem rm4 (l : Launch) (Z : State) (a0 : Array Value) (hw : ∀ d ∈ tables_1, d.before a0 Z = true) (ws : List Jvm.Cond) (a1 : Addr) (w4 : Int64) (h0 : Heap) (n0 : Nat) (Z0 : n0 ≤ h0.size) (F_begun_a1 : Fld Z h0 a1 "com/example/eventail/eventail/DeliveryCount" "begun" "J" (.long w4)) :
    MetFree l (⟨"com/example/eventail/eventail/DeliveryCount", "begun", "()J"⟩ : MethodName) (head1 (Jvm.Cond.code (⟨"com/example/eventail/eventail/DeliveryCount", "begun", "()J"⟩ : MethodName) prog_4_method_3_code 1 (some .long) :: ws) ({ frames := 0, cells := 0, slots := 0, locals := 0 } : Room)) (fun a U => a = #[(.ref a1)] ∧ Z.Warmed39 U.vm ∧ U.heap = h0) (fun _ _ _ _ _ => True) (fun _ U o U' => ∃ v L, o = .returned v ∧ Q4 Z a1 w4 h0 n0 v U'.heap L ∧ FrameEnd U o U' L ({ frames := 0, cells := 0, slots := 0, locals := 0 } : Room).cells ({ frames := 0, cells := 0, slots := 0, locals := 0 } : Room).slots) := by
  refine MetFree.of_bodySF (plainFor_of_name pn_4) hisR ?_
  intro p e s m args below meth c s₁ Bd hml0 hP hK
  obtain ⟨rfl, hZ, hh⟩ := hP
  have hx := Bd.exec
  have hby := Bd.bytes
  have hml : c.maxLocals = 1 := hml0
  have hown : s.vm.findClass "com/example/eventail/eventail/DeliveryCount" = some m.cls := findClass_of_methodNamed Bd.named
  have hnm := (name_of_methodNamed Bd.named Bd.method).1
  have hret := Bd.returns
  have hlk : meth.locks = false := BodyLoose.notSynchronized Bd
  have X0 : Stand p l e ({ frames := 0, cells := 0, slots := 0, locals := 0 } : Room) s m #[(.ref a1)] below meth c s₁ [] 0 0 := Stand.of_body Bd
  have e0 : s₁.heap = h0 := by rw [← hh, Bd.state]; rfl
  have N0 := Fr.nil n0
  have W := fun (k : Nat) {d : Jvm.Cond} (h : tables_1[k]? = some d) => hw d (List.mem_of_getElem? h)
  have K0 : Keep h0 h0 [] := Keep.refl _ _
  refine own_start (ef_4 m a1) ?_
  show own_Run p e below _ s₁ (mkF m 0 #[.val (.ref a1)] [])
  refine own_go (fun _ k => XS.aloadN X0.here hx rfl (hb hby d4_0) rfl rfl k) ?_
  show own_Run p e below _ s₁ (mkF m 1 #[.val (.ref a1)] [(.ref a1)])
  obtain ⟨T16, X16, e16, st16⟩ := getF X0 hx hZ hown (host := "") (Or.inl (W 14 rfl)) Via.refl e0 F_begun_a1 (g := (mkF m 1 #[.val (.ref a1)] [(.ref a1)])) rfl rfl (hb hby d4_1)
  refine own_go st16 ?_
  show own_Run p e below _ T16 (mkF m 4 #[.val (.ref a1)] [(.long w4)])
  refine own_done (Q := fun v h L => Q4 Z a1 w4 h0 n0 v h L) (v := (some (.long w4))) X16 (fun h => by rw [hret] at h; cases h) hlk (fun fs hr => own_retL X16 hx hret (hb hby d4_4) hr) ?_ (by decide) (by decide)
  show Q4 Z a1 w4 h0 n0 _ T16.heap _
  rw [e16]
  exact ⟨rfl, N0, rfl⟩
theorem pn_0 : plainName "com/example/eventail/eventail/DeliveryCountDeliveryBeginsPinLaw" = true := by first | (simp [plainName, overriddenIn]; done) | decide +kernel
theorem ef_0 (m : MethodId) (x0 : Int32) : entryFrame m #[(.int x0)] maxLocals = mkF m 0 #[.val (.int x0), .unset, .unset, .unset, .unset, .unset, .unset, .unset] [] := by first | (simp [entryFrame, mkF, argsToLocals, Value.category, maxLocals]; done) | rfl
theorem pd_1 : parseMethodDescriptor "()V" = some ⟨[], none⟩ := by decide +kernel
theorem pd_2 : parseMethodDescriptor "()Z" = some ⟨[], some .boolean⟩ := by decide +kernel
theorem pd_3 : parseMethodDescriptor "()J" = some ⟨[], some .long⟩ := by decide +kernel
theorem pd_4 : parseMethodDescriptor "(Z)V" = some ⟨[.boolean], none⟩ := by decide +kernel
def Q0 (Z : State) (p1 : Int32) (h0 : Heap) (n0 : Nat) (v : Option Value) (h : Heap) (L : List Loc) : Prop := v = some (.int (1 : Int32)) ∧ Fr n0 L
set_option maxRecDepth 65536 in
set_option maxHeartbeats 40000000 in
theorem rm0 (l : Launch) (Z : State) (a0 : Array Value) (hw : ∀ d ∈ tables_1, d.before a0 Z = true) (ws : List Jvm.Cond) (p1 : Int32) (h0 : Heap) (n0 : Nat) (Z0 : n0 ≤ h0.size) :
    MetFree l x (head1 (Jvm.Cond.code x code maxLocals ret :: ws) room_1) (fun a U => a = #[(.int p1)] ∧ Z.Warmed39 U.vm ∧ U.heap = h0) (fun _ _ _ _ _ => True) (fun _ U o U' => ∃ v L, o = .returned v ∧ Q0 Z p1 h0 n0 v U'.heap L ∧ FrameEnd U o U' L room_1.cells room_1.slots) := by
  refine MetFree.of_bodySF (plainFor_of_name pn_0) hisR ?_
  intro p e s m args below meth c s₁ Bd hml0 hP hK
  obtain ⟨rfl, hZ, hh⟩ := hP
  have hx := Bd.exec
  have hby := Bd.bytes
  have hml : c.maxLocals = 8 := hml0
  have hown : s.vm.findClass "com/example/eventail/eventail/DeliveryCountDeliveryBeginsPinLaw" = some m.cls := findClass_of_methodNamed Bd.named
  have hnm := (name_of_methodNamed Bd.named Bd.method).1
  have hret := Bd.returns
  have hlk : meth.locks = false := BodyLoose.notSynchronized Bd
  have X0 : Stand p l e room_1 s m #[(.int p1)] below meth c s₁ [] 0 0 := Stand.of_body Bd
  have e0 : s₁.heap = h0 := by rw [← hh, Bd.state]; rfl
  have N0 := Fr.nil n0
  have W := fun (k : Nat) {d : Jvm.Cond} (h : tables_1[k]? = some d) => hw d (List.mem_of_getElem? h)
  have K0 : Keep h0 h0 [] := Keep.refl _ _
  refine own_start (ef_0 m p1) ?_
  show own_Run p e below _ s₁ (mkF m 0 #[.val (.int p1), .unset, .unset, .unset, .unset, .unset, .unset, .unset] [])
  refine own_go (fun _ k => XS.iloadN X0.here hx rfl (hb hby at_0) rfl k) ?_
  refine own_go (fun _ k => XS.iconst X0.here hx rfl (hb hby at_1) k) ?_
  refine own_go (fun _ k => XS.iand X0.here hx rfl (hb hby at_2) rfl k) ?_
  show own_Run p e below _ s₁ (mkF m 3 #[.val (.int p1), .unset, .unset, .unset, .unset, .unset, .unset, .unset] [(.int (p1 &&& (1 : Int32)))])
  by_cases hc3_17 : (p1 &&& (1 : Int32)) = (0 : Int32)
  · refine own_go (fun _ k => XS.ifYes X0.here hx rfl (pc0 := 3) (pc' := 10) rfl (hb hby at_3) rfl ((if0 _ _).trans (teq hc3_17).1) (by decide) (by decide) k) ?_
    show own_Run p e below _ s₁ (mkF m 10 #[.val (.int p1), .unset, .unset, .unset, .unset, .unset, .unset, .unset] [])
    refine own_go (fun _ k => XS.iconst X0.here hx rfl (hb hby at_10) k) ?_
    refine own_go (fun _ k => XS.istoreN X0.here hx rfl (hb hby at_11) rfl (l' := #[.val (.int p1), .val (.int (0 : Int32)), .unset, .unset, .unset, .unset, .unset, .unset]) rfl k) ?_
    refine own_go (fun _ k => XS.iloadN X0.here hx rfl (hb hby at_12) rfl k) ?_
    refine own_go (fun _ k => XS.iconst X0.here hx rfl (hb hby at_13) k) ?_
    show own_Run p e below _ s₁ (mkF m 14 #[.val (.int p1), .val (.int (0 : Int32)), .unset, .unset, .unset, .unset, .unset, .unset] [(.int (2 : Int32)), (.int p1)])
    refine own_go (fun _ k => XS.iand X0.here hx rfl (hb hby at_14) rfl k) ?_
    show own_Run p e below _ s₁ (mkF m 15 #[.val (.int p1), .val (.int (0 : Int32)), .unset, .unset, .unset, .unset, .unset, .unset] [(.int (p1 &&& (2 : Int32)))])
    by_cases hc15_18 : (p1 &&& (2 : Int32)) = (0 : Int32)
    · refine own_go (fun _ k => XS.ifYes X0.here hx rfl (pc0 := 15) (pc' := 22) rfl (hb hby at_15) rfl ((if0 _ _).trans (teq hc15_18).1) (by decide) (by decide) k) ?_
      show own_Run p e below _ s₁ (mkF m 22 #[.val (.int p1), .val (.int (0 : Int32)), .unset, .unset, .unset, .unset, .unset, .unset] [])
      refine own_go (fun _ k => XS.iconst X0.here hx rfl (hb hby at_22) k) ?_
      refine own_go (fun _ k => XS.istoreN X0.here hx rfl (hb hby at_23) rfl (l' := #[.val (.int p1), .val (.int (0 : Int32)), .val (.int (0 : Int32)), .unset, .unset, .unset, .unset, .unset]) rfl k) ?_
      refine own_go (fun _ k => XS.iloadN X0.here hx rfl (hb hby at_24) rfl k) ?_
      refine own_go (fun _ k => XS.iconst X0.here hx rfl (hb hby at_25) k) ?_
      show own_Run p e below _ s₁ (mkF m 26 #[.val (.int p1), .val (.int (0 : Int32)), .val (.int (0 : Int32)), .unset, .unset, .unset, .unset, .unset] [(.int (4 : Int32)), (.int p1)])
      refine own_go (fun _ k => XS.iand X0.here hx rfl (hb hby at_26) rfl k) ?_
      show own_Run p e below _ s₁ (mkF m 27 #[.val (.int p1), .val (.int (0 : Int32)), .val (.int (0 : Int32)), .unset, .unset, .unset, .unset, .unset] [(.int (p1 &&& (4 : Int32)))])
      by_cases hc27_19 : (p1 &&& (4 : Int32)) = (0 : Int32)
      · refine own_go (fun _ k => XS.ifYes X0.here hx rfl (pc0 := 27) (pc' := 34) rfl (hb hby at_27) rfl ((if0 _ _).trans (teq hc27_19).1) (by decide) (by decide) k) ?_
        show own_Run p e below _ s₁ (mkF m 34 #[.val (.int p1), .val (.int (0 : Int32)), .val (.int (0 : Int32)), .unset, .unset, .unset, .unset, .unset] [])
        refine own_go (fun _ k => XS.iconst X0.here hx rfl (hb hby at_34) k) ?_
        refine own_go (fun _ k => XS.istoreN X0.here hx rfl (hb hby at_35) rfl (l' := #[.val (.int p1), .val (.int (0 : Int32)), .val (.int (0 : Int32)), .val (.int (0 : Int32)), .unset, .unset, .unset, .unset]) rfl k) ?_
        show own_Run p e below _ s₁ (mkF m 36 #[.val (.int p1), .val (.int (0 : Int32)), .val (.int (0 : Int32)), .val (.int (0 : Int32)), .unset, .unset, .unset, .unset] [])
        obtain ⟨T20, h20, X20, e20, E20, A20, D20, -, st20⟩ := newO X0 hx hZ hown (W 0 rfl) (W 1 rfl) (W 2 rfl) e0 (g := (mkF m 36 #[.val (.int p1), .val (.int (0 : Int32)), .val (.int (0 : Int32)), .val (.int (0 : Int32)), .unset, .unset, .unset, .unset] [])) rfl (hb hby at_36) (by decide) (by decide)
        refine own_go st20 ?_
        obtain ⟨b20, g20⟩ : ∃ z, z = h0.size := ⟨_, rfl⟩
        rw [← g20] at A20 D20
        rw [← g20]
        show own_Run p e below _ T20 (mkF m 39 #[.val (.int p1), .val (.int (0 : Int32)), .val (.int (0 : Int32)), .val (.int (0 : Int32)), .unset, .unset, .unset, .unset] [(.ref b20)])
        have g_b20 : n0 ≤ b20 := Nat.le_trans Z0 (Nat.le_of_eq g20.symm)
        have sz_b20 : h0.size ≤ b20 := Nat.le_trans K0.1 (Nat.le_of_eq g20.symm)
        have Z0_c21 := Nat.le_trans Z0 E20.1
        have K0_c21 := K0.ext E20
        have F_begun_b20 : Fld Z h20 b20 "com/example/eventail/eventail/DeliveryCount" "begun" "J" (.long (0 : Int64)) := D20 (Or.inl (W 15 rfl)) (ty := .long) (by decide)
        have F_roomWanted_b20 : Fld Z h20 b20 "com/example/eventail/eventail/DeliveryCount" "roomWanted" "J" (.long (0 : Int64)) := D20 (Or.inl (W 17 rfl)) (ty := .long) (by decide)
        refine own_go (fun _ k => XS.dup X20.here hx rfl (hb hby at_39) rfl rfl k) ?_
        show own_Run p e below _ T20 (mkF m 40 #[.val (.int p1), .val (.int (0 : Int32)), .val (.int (0 : Int32)), .val (.int (0 : Int32)), .unset, .unset, .unset, .unset] [(.ref b20), (.ref b20)])
        obtain ⟨_, _, ⟨T22, L22, k22, n22⟩, -, X22, ⟨Lc22, hQ22, l22, y22, z22⟩, st22⟩ := X20.specialBack hx (y := (⟨"com/example/eventail/eventail/DeliveryCount", "<init>", "()V"⟩ : MethodName)) rfl hown (mvT hZ (W 3 rfl)) (mvT hZ (W 4 rfl)) (mvT hZ (W 5 rfl)) (by decide) (backOf (W := 1) (rm1 l Z a0 hw [] b20 h20 n0 Z0_c21 ) hZ (W 5 rfl) (W 2 rfl) (by decide) (by decide)) (g := (mkF m 40 #[.val (.int p1), .val (.int (0 : Int32)), .val (.int (0 : Int32)), .val (.int (0 : Int32)), .unset, .unset, .unset, .unset] [(.ref b20), (.ref b20)])) rfl (by rw [hml]; rfl) (Steps.refl _) (a := b20) (argsL := []) (rest := [(.ref b20)]) (lenOf pd_1 rfl) rfl (by show 2 * 0 + _ ≤ _; exact Nat.le_of_eq rfl) (hb hby at_40) (fun _ _ => ⟨rfl, e20, (by decide : 1 + 0 ≤ _), (by decide : 16 + 0 ≤ _)⟩)
        dsimp only [Pt.U, Pt.locs, Pt.cells, Pt.slots] at X22 l22 y22 z22 st22 hQ22
        subst l22 y22 z22
        obtain ⟨rfl, N22q, e22⟩ := hQ22
        have N22 := Fr.app N0 N22q
        refine own_goT st22 ?_
        show own_Run p e below _ T22 (mkF m 43 #[.val (.int p1), .val (.int (0 : Int32)), .val (.int (0 : Int32)), .val (.int (0 : Int32)), .unset, .unset, .unset, .unset] [(.ref b20)])
        refine own_go (fun _ k => XS.astore X22.here hx rfl (hb hby at_43) rfl rfl (l' := #[.val (.int p1), .val (.int (0 : Int32)), .val (.int (0 : Int32)), .val (.int (0 : Int32)), .val (.ref b20), .unset, .unset, .unset]) rfl k) ?_
        refine own_go (fun _ k => XS.iloadN X22.here hx rfl (hb hby at_45) rfl k) ?_
        show own_Run p e below _ T22 (mkF m 46 #[.val (.int p1), .val (.int (0 : Int32)), .val (.int (0 : Int32)), .val (.int (0 : Int32)), .val (.ref b20), .unset, .unset, .unset] [(.int (0 : Int32))])
        refine own_go (fun _ k => XS.ifYes X22.here hx rfl (pc0 := 46) (pc' := 55) rfl (hb hby at_46) rfl ((if0 _ _).trans (teq (by decide : (0 : Int32) = (0 : Int32))).1) (by decide) (by decide) k) ?_
        show own_Run p e below _ T22 (mkF m 55 #[.val (.int p1), .val (.int (0 : Int32)), .val (.int (0 : Int32)), .val (.int (0 : Int32)), .val (.ref b20), .unset, .unset, .unset] [])
        refine own_go (fun _ k => XS.iloadN X22.here hx rfl (hb hby at_55) rfl k) ?_
        show own_Run p e below _ T22 (mkF m 56 #[.val (.int p1), .val (.int (0 : Int32)), .val (.int (0 : Int32)), .val (.int (0 : Int32)), .val (.ref b20), .unset, .unset, .unset] [(.int (0 : Int32))])
        refine own_go (fun _ k => XS.ifYes X22.here hx rfl (pc0 := 56) (pc' := 67) rfl (hb hby at_56) rfl ((if0 _ _).trans (teq (by decide : (0 : Int32) = (0 : Int32))).1) (by decide) (by decide) k) ?_
        show own_Run p e below _ T22 (mkF m 67 #[.val (.int p1), .val (.int (0 : Int32)), .val (.int (0 : Int32)), .val (.int (0 : Int32)), .val (.ref b20), .unset, .unset, .unset] [])
        refine own_go (fun _ k => XS.iconst X22.here hx rfl (hb hby at_67) k) ?_
        refine own_go (fun _ k => XS.istore X22.here hx rfl (hb hby at_68) rfl (l' := #[.val (.int p1), .val (.int (0 : Int32)), .val (.int (0 : Int32)), .val (.int (0 : Int32)), .val (.ref b20), .val (.int (0 : Int32)), .unset, .unset]) rfl k) ?_
        refine own_go (fun _ k => XS.aload X22.here hx rfl (hb hby at_70) rfl rfl k) ?_
        show own_Run p e below _ T22 (mkF m 72 #[.val (.int p1), .val (.int (0 : Int32)), .val (.int (0 : Int32)), .val (.int (0 : Int32)), .val (.ref b20), .val (.int (0 : Int32)), .unset, .unset] [(.ref b20)])
        obtain ⟨cq23, kq23, q23a, q23b, q23c⟩ := isOf hZ e22 A20
        obtain ⟨_, _, ⟨T23, L23, k23, n23⟩, -, X23, ⟨Lc23, hQ23, l23, y23, z23⟩, st23⟩ := X22.virtualBack hx (y := (⟨"com/example/eventail/eventail/DeliveryCount", "deliveryBegins", "()Z"⟩ : MethodName)) (z := (⟨"com/example/eventail/eventail/DeliveryCount", "deliveryBegins", "()Z"⟩ : MethodName)) hown (mvT hZ (W 9 rfl)) (mvT hZ (W 10 rfl)) (notFace_of_selects (args := #[]) (mvT hZ (W 12 rfl))) (mvT hZ (W 12 rfl)) (mvT hZ (W 11 rfl)) (by decide) (backOf (W := 0) (rm3 l Z a0 hw [] b20 (0 : Int64) (0 : Int32) (0 : Int64) h20 n0 Z0_c21 A20 F_roomWanted_b20 F_begun_b20 g_b20 (Or.inl ⟨rfl, rfl⟩)) hZ (W 13 rfl) (W 2 rfl) (by decide) (by decide)) q23a q23c (g := (mkF m 72 #[.val (.int p1), .val (.int (0 : Int32)), .val (.int (0 : Int32)), .val (.int (0 : Int32)), .val (.ref b20), .val (.int (0 : Int32)), .unset, .unset] [(.ref b20)])) rfl (by rw [hml]; rfl) (Steps.refl _) (argsL := []) (rest := []) (lenOf pd_2 rfl) rfl (by show 2 * 0 + _ ≤ _; exact Nat.le_of_eq rfl) (hb hby at_72) (fun _ _ => ⟨rfl, e22, (by decide : 1 + 0 ≤ _), (by decide : 16 + 0 ≤ _)⟩)
        dsimp only [Pt.U, Pt.locs, Pt.cells, Pt.slots] at X23 l23 y23 z23 st23 hQ23
        subst l23 y23 z23
        obtain ⟨rfl, N23q, K23, P23_0, P23_1, P23_2⟩ := hQ23
        have N23 := Fr.app N22 N23q
        refine own_goT st23 ?_
        show own_Run p e below _ T23 (mkF m 75 #[.val (.int p1), .val (.int (0 : Int32)), .val (.int (0 : Int32)), .val (.int (0 : Int32)), .val (.ref b20), .val (.int (0 : Int32)), .unset, .unset] [(.int (0 : Int32))])
        have Z0_c24 := Nat.le_trans Z0_c21 K23.1
        have K0_c24 := K0_c21.trans K23 (allS (Or.inr sz_b20) all0)
        have A20_c24 := A20.keep K23
        have F_begun_e25 : Fld Z T23.heap b20 "com/example/eventail/eventail/DeliveryCount" "begun" "J" (.long (1 : Int64)) := P23_2
        refine own_go (fun _ k => XS.istore X23.here hx rfl (hb hby at_75) rfl (l' := #[.val (.int p1), .val (.int (0 : Int32)), .val (.int (0 : Int32)), .val (.int (0 : Int32)), .val (.ref b20), .val (.int (0 : Int32)), .val (.int (0 : Int32)), .unset]) rfl k) ?_
        refine own_go (fun _ k => XS.iload X23.here hx rfl (hb hby at_77) rfl k) ?_
        refine own_go (fun _ k => XS.iload X23.here hx rfl (hb hby at_79) rfl k) ?_
        show own_Run p e below _ T23 (mkF m 81 #[.val (.int p1), .val (.int (0 : Int32)), .val (.int (0 : Int32)), .val (.int (0 : Int32)), .val (.ref b20), .val (.int (0 : Int32)), .val (.int (0 : Int32)), .unset] [(.int (0 : Int32)), (.int (0 : Int32))])
        refine own_go (fun _ k => XS.icmpYes X23.here hx rfl (pc0 := 81) (pc' := 86) rfl (hb hby at_81) rfl (teq (by decide : (0 : Int32) = (0 : Int32))).1 (by decide) (by decide) k) ?_
        show own_Run p e below _ T23 (mkF m 86 #[.val (.int p1), .val (.int (0 : Int32)), .val (.int (0 : Int32)), .val (.int (0 : Int32)), .val (.ref b20), .val (.int (0 : Int32)), .val (.int (0 : Int32)), .unset] [])
        refine own_go (fun _ k => XS.aload X23.here hx rfl (hb hby at_86) rfl rfl k) ?_
        show own_Run p e below _ T23 (mkF m 88 #[.val (.int p1), .val (.int (0 : Int32)), .val (.int (0 : Int32)), .val (.int (0 : Int32)), .val (.ref b20), .val (.int (0 : Int32)), .val (.int (0 : Int32)), .unset] [(.ref b20)])
        obtain ⟨cq26, kq26, q26a, q26b, q26c⟩ := isOf hZ rfl P23_0
        obtain ⟨_, _, ⟨T26, L26, k26, n26⟩, -, X26, ⟨Lc26, hQ26, l26, y26, z26⟩, st26⟩ := X23.virtualBack hx (y := (⟨"com/example/eventail/eventail/DeliveryCount", "begun", "()J"⟩ : MethodName)) (z := (⟨"com/example/eventail/eventail/DeliveryCount", "begun", "()J"⟩ : MethodName)) hown (mvT hZ (W 18 rfl)) (mvT hZ (W 19 rfl)) (notFace_of_selects (args := #[]) (mvT hZ (W 21 rfl))) (mvT hZ (W 21 rfl)) (mvT hZ (W 20 rfl)) (by decide) (backOf (W := 0) (rm4 l Z a0 hw [] b20 (1 : Int64) T23.heap n0 Z0_c24 F_begun_e25) hZ (W 22 rfl) (W 2 rfl) (by decide) (by decide)) q26a q26c (g := (mkF m 88 #[.val (.int p1), .val (.int (0 : Int32)), .val (.int (0 : Int32)), .val (.int (0 : Int32)), .val (.ref b20), .val (.int (0 : Int32)), .val (.int (0 : Int32)), .unset] [(.ref b20)])) rfl (by rw [hml]; rfl) (Steps.refl _) (argsL := []) (rest := []) (lenOf pd_3 rfl) rfl (by show 2 * 0 + _ ≤ _; exact Nat.le_of_eq rfl) (hb hby at_88) (fun _ _ => ⟨rfl, rfl, (by decide : 1 + 0 ≤ _), (by decide : 16 + 0 ≤ _)⟩)
        dsimp only [Pt.U, Pt.locs, Pt.cells, Pt.slots] at X26 l26 y26 z26 st26 hQ26
        subst l26 y26 z26
        obtain ⟨rfl, N26q, e26⟩ := hQ26
        have N26 := Fr.app N23 N26q
        refine own_goT st26 ?_
        show own_Run p e below _ T26 (mkF m 91 #[.val (.int p1), .val (.int (0 : Int32)), .val (.int (0 : Int32)), .val (.int (0 : Int32)), .val (.ref b20), .val (.int (0 : Int32)), .val (.int (0 : Int32)), .unset] [(.long (1 : Int64))])
        refine own_go (fun _ k => XS.lconst X26.here hx rfl (hb hby at_91) k) ?_
        refine own_go (fun _ k => XS.lcmp X26.here hx rfl (hb hby at_92) rfl k) ?_
        show own_Run p e below _ T26 (mkF m 93 #[.val (.int p1), .val (.int (0 : Int32)), .val (.int (0 : Int32)), .val (.int (0 : Int32)), .val (.ref b20), .val (.int (0 : Int32)), .val (.int (0 : Int32)), .unset] [(.int (lcmpW (1 : Int64) (1 : Int64)))])
        refine own_go (fun _ k => XS.ifYes X26.here hx rfl (pc0 := 93) (pc' := 98) rfl (hb hby at_93) rfl (own_lcTe (by decide : (1 : Int64) = (1 : Int64))).1 (by decide) (by decide) k) ?_
        show own_Run p e below _ T26 (mkF m 98 #[.val (.int p1), .val (.int (0 : Int32)), .val (.int (0 : Int32)), .val (.int (0 : Int32)), .val (.ref b20), .val (.int (0 : Int32)), .val (.int (0 : Int32)), .unset] [])
        refine own_go (fun _ k => XS.aload X26.here hx rfl (hb hby at_98) rfl rfl k) ?_
        show own_Run p e below _ T26 (mkF m 100 #[.val (.int p1), .val (.int (0 : Int32)), .val (.int (0 : Int32)), .val (.int (0 : Int32)), .val (.ref b20), .val (.int (0 : Int32)), .val (.int (0 : Int32)), .unset] [(.ref b20)])
        obtain ⟨cq27, kq27, q27a, q27b, q27c⟩ := isOf hZ e26 P23_0
        obtain ⟨_, _, ⟨T27, L27, k27, n27⟩, -, X27, ⟨Lc27, hQ27, l27, y27, z27⟩, st27⟩ := X26.virtualBack hx (y := (⟨"com/example/eventail/eventail/DeliveryCount", "isRoomWanted", "()Z"⟩ : MethodName)) (z := (⟨"com/example/eventail/eventail/DeliveryCount", "isRoomWanted", "()Z"⟩ : MethodName)) hown (mvT hZ (W 23 rfl)) (mvT hZ (W 24 rfl)) (notFace_of_selects (args := #[]) (mvT hZ (W 26 rfl))) (mvT hZ (W 26 rfl)) (mvT hZ (W 25 rfl)) (by decide) (backOf (W := 0) (rm5 l Z a0 hw [] b20 (0 : Int64) (0 : Int32) T23.heap n0 Z0_c24 P23_1 (Or.inl ⟨rfl, rfl⟩)) hZ (W 27 rfl) (W 2 rfl) (by decide) (by decide)) q27a q27c (g := (mkF m 100 #[.val (.int p1), .val (.int (0 : Int32)), .val (.int (0 : Int32)), .val (.int (0 : Int32)), .val (.ref b20), .val (.int (0 : Int32)), .val (.int (0 : Int32)), .unset] [(.ref b20)])) rfl (by rw [hml]; rfl) (Steps.refl _) (argsL := []) (rest := []) (lenOf pd_2 rfl) rfl (by show 2 * 0 + _ ≤ _; exact Nat.le_of_eq rfl) (hb hby at_100) (fun _ _ => ⟨rfl, e26, (by decide : 1 + 0 ≤ _), (by decide : 16 + 0 ≤ _)⟩)
        dsimp only [Pt.U, Pt.locs, Pt.cells, Pt.slots] at X27 l27 y27 z27 st27 hQ27
        subst l27 y27 z27
        obtain ⟨rfl, N27q, e27⟩ := hQ27
        have N27 := Fr.app N26 N27q
        refine own_goT st27 ?_
        show own_Run p e below _ T27 (mkF m 103 #[.val (.int p1), .val (.int (0 : Int32)), .val (.int (0 : Int32)), .val (.int (0 : Int32)), .val (.ref b20), .val (.int (0 : Int32)), .val (.int (0 : Int32)), .unset] [(.int (0 : Int32))])
        refine own_go (fun _ k => XS.iload X27.here hx rfl (hb hby at_103) rfl k) ?_
        show own_Run p e below _ T27 (mkF m 105 #[.val (.int p1), .val (.int (0 : Int32)), .val (.int (0 : Int32)), .val (.int (0 : Int32)), .val (.ref b20), .val (.int (0 : Int32)), .val (.int (0 : Int32)), .unset] [(.int (0 : Int32)), (.int (0 : Int32))])
        refine own_go (fun _ k => XS.icmpYes X27.here hx rfl (pc0 := 105) (pc' := 110) rfl (hb hby at_105) rfl (teq (by decide : (0 : Int32) = (0 : Int32))).1 (by decide) (by decide) k) ?_
        show own_Run p e below _ T27 (mkF m 110 #[.val (.int p1), .val (.int (0 : Int32)), .val (.int (0 : Int32)), .val (.int (0 : Int32)), .val (.ref b20), .val (.int (0 : Int32)), .val (.int (0 : Int32)), .unset] [])
        refine own_go (fun _ k => XS.aload X27.here hx rfl (hb hby at_110) rfl rfl k) ?_
        refine own_go (fun _ k => XS.iloadN X27.here hx rfl (hb hby at_112) rfl k) ?_
        show own_Run p e below _ T27 (mkF m 113 #[.val (.int p1), .val (.int (0 : Int32)), .val (.int (0 : Int32)), .val (.int (0 : Int32)), .val (.ref b20), .val (.int (0 : Int32)), .val (.int (0 : Int32)), .unset] [(.int (0 : Int32)), (.ref b20)])
        obtain ⟨cq28, kq28, q28a, q28b, q28c⟩ := isOf hZ e27 P23_0
        obtain ⟨_, _, ⟨T28, L28, k28, n28⟩, -, X28, ⟨Lc28, hQ28, l28, y28, z28⟩, st28⟩ := X27.virtualBack hx (y := (⟨"com/example/eventail/eventail/DeliveryCount", "setRoomWanted", "(Z)V"⟩ : MethodName)) (z := (⟨"com/example/eventail/eventail/DeliveryCount", "setRoomWanted", "(Z)V"⟩ : MethodName)) hown (mvT hZ (W 28 rfl)) (mvT hZ (W 29 rfl)) (notFace_of_selects (args := #[]) (mvT hZ (W 31 rfl))) (mvT hZ (W 31 rfl)) (mvT hZ (W 30 rfl)) (by decide) (backOf (W := 0) (rm6 l Z a0 hw [] b20 (0 : Int32) (0 : Int64) (0 : Int64) (1 : Int64) T23.heap n0 Z0_c24 P23_0 P23_1 F_begun_e25 g_b20 (Or.inl ⟨rfl, rfl⟩)) hZ (W 32 rfl) (W 2 rfl) (by decide) (by decide)) q28a q28c (g := (mkF m 113 #[.val (.int p1), .val (.int (0 : Int32)), .val (.int (0 : Int32)), .val (.int (0 : Int32)), .val (.ref b20), .val (.int (0 : Int32)), .val (.int (0 : Int32)), .unset] [(.int (0 : Int32)), (.ref b20)])) rfl (by rw [hml]; rfl) (Steps.refl _) (argsL := [(.int (0 : Int32))]) (rest := []) (lenOf pd_4 rfl) rfl (by show 2 * 0 + _ ≤ _; exact Nat.le_of_eq rfl) (hb hby at_113) (fun _ _ => ⟨rfl, e27, (by decide : 1 + 0 ≤ _), (by decide : 16 + 0 ≤ _)⟩)
        dsimp only [Pt.U, Pt.locs, Pt.cells, Pt.slots] at X28 l28 y28 z28 st28 hQ28
        subst l28 y28 z28
        obtain ⟨rfl, N28q, K28, P28_0, P28_1, P28_2⟩ := hQ28
        have N28 := Fr.app N27 N28q
        refine own_goT st28 ?_
        show own_Run p e below _ T28 (mkF m 116 #[.val (.int p1), .val (.int (0 : Int32)), .val (.int (0 : Int32)), .val (.int (0 : Int32)), .val (.ref b20), .val (.int (0 : Int32)), .val (.int (0 : Int32)), .unset] [])
        have Z0_c29 := Nat.le_trans Z0_c24 K28.1
        have K0_c29 := K0_c24.trans K28 (allS (Or.inr sz_b20) all0)
        have P23_0_c29 := P23_0.keep K28
        refine own_go (fun _ k => XS.aload X28.here hx rfl (hb hby at_116) rfl rfl k) ?_
        show own_Run p e below _ T28 (mkF m 118 #[.val (.int p1), .val (.int (0 : Int32)), .val (.int (0 : Int32)), .val (.int (0 : Int32)), .val (.ref b20), .val (.int (0 : Int32)), .val (.int (0 : Int32)), .unset] [(.ref b20)])
        obtain ⟨cq30, kq30, q30a, q30b, q30c⟩ := isOf hZ rfl P28_0
        obtain ⟨_, _, ⟨T30, L30, k30, n30⟩, -, X30, ⟨Lc30, hQ30, l30, y30, z30⟩, st30⟩ := X28.virtualBack hx (y := (⟨"com/example/eventail/eventail/DeliveryCount", "deliveryBegins", "()Z"⟩ : MethodName)) (z := (⟨"com/example/eventail/eventail/DeliveryCount", "deliveryBegins", "()Z"⟩ : MethodName)) hown (mvT hZ (W 9 rfl)) (mvT hZ (W 10 rfl)) (notFace_of_selects (args := #[]) (mvT hZ (W 12 rfl))) (mvT hZ (W 12 rfl)) (mvT hZ (W 11 rfl)) (by decide) (backOf (W := 0) (rm3 l Z a0 hw [] b20 (0 : Int64) (0 : Int32) (1 : Int64) T28.heap n0 Z0_c29 P28_0 P28_1 P28_2 g_b20 (Or.inl ⟨rfl, rfl⟩)) hZ (W 13 rfl) (W 2 rfl) (by decide) (by decide)) q30a q30c (g := (mkF m 118 #[.val (.int p1), .val (.int (0 : Int32)), .val (.int (0 : Int32)), .val (.int (0 : Int32)), .val (.ref b20), .val (.int (0 : Int32)), .val (.int (0 : Int32)), .unset] [(.ref b20)])) rfl (by rw [hml]; rfl) (Steps.refl _) (argsL := []) (rest := []) (lenOf pd_2 rfl) rfl (by show 2 * 0 + _ ≤ _; exact Nat.le_of_eq rfl) (hb hby at_118) (fun _ _ => ⟨rfl, rfl, (by decide : 1 + 0 ≤ _), (by decide : 16 + 0 ≤ _)⟩)
        dsimp only [Pt.U, Pt.locs, Pt.cells, Pt.slots] at X30 l30 y30 z30 st30 hQ30
        subst l30 y30 z30
        obtain ⟨rfl, N30q, K30, P30_0, P30_1, P30_2⟩ := hQ30
        have N30 := Fr.app N28 N30q
        refine own_goT st30 ?_
        show own_Run p e below _ T30 (mkF m 121 #[.val (.int p1), .val (.int (0 : Int32)), .val (.int (0 : Int32)), .val (.int (0 : Int32)), .val (.ref b20), .val (.int (0 : Int32)), .val (.int (0 : Int32)), .unset] [(.int (0 : Int32))])
        have Z0_c31 := Nat.le_trans Z0_c29 K30.1
        have K0_c31 := K0_c29.trans K30 (allS (Or.inr sz_b20) all0)
        have P28_0_c31 := P28_0.keep K30
        have F_begun_e32 : Fld Z T30.heap b20 "com/example/eventail/eventail/DeliveryCount" "begun" "J" (.long (2 : Int64)) := P30_2
        refine own_go (fun _ k => XS.istore X30.here hx rfl (hb hby at_121) rfl (l' := #[.val (.int p1), .val (.int (0 : Int32)), .val (.int (0 : Int32)), .val (.int (0 : Int32)), .val (.ref b20), .val (.int (0 : Int32)), .val (.int (0 : Int32)), .val (.int (0 : Int32))]) rfl k) ?_
        refine own_go (fun _ k => XS.iload X30.here hx rfl (hb hby at_123) rfl k) ?_
        refine own_go (fun _ k => XS.iloadN X30.here hx rfl (hb hby at_125) rfl k) ?_
        show own_Run p e below _ T30 (mkF m 126 #[.val (.int p1), .val (.int (0 : Int32)), .val (.int (0 : Int32)), .val (.int (0 : Int32)), .val (.ref b20), .val (.int (0 : Int32)), .val (.int (0 : Int32)), .val (.int (0 : Int32))] [(.int (0 : Int32)), (.int (0 : Int32))])
        refine own_go (fun _ k => XS.icmpYes X30.here hx rfl (pc0 := 126) (pc' := 131) rfl (hb hby at_126) rfl (teq (by decide : (0 : Int32) = (0 : Int32))).1 (by decide) (by decide) k) ?_
        show own_Run p e below _ T30 (mkF m 131 #[.val (.int p1), .val (.int (0 : Int32)), .val (.int (0 : Int32)), .val (.int (0 : Int32)), .val (.ref b20), .val (.int (0 : Int32)), .val (.int (0 : Int32)), .val (.int (0 : Int32))] [])
        refine own_go (fun _ k => XS.aload X30.here hx rfl (hb hby at_131) rfl rfl k) ?_
        show own_Run p e below _ T30 (mkF m 133 #[.val (.int p1), .val (.int (0 : Int32)), .val (.int (0 : Int32)), .val (.int (0 : Int32)), .val (.ref b20), .val (.int (0 : Int32)), .val (.int (0 : Int32)), .val (.int (0 : Int32))] [(.ref b20)])
        obtain ⟨cq33, kq33, q33a, q33b, q33c⟩ := isOf hZ rfl P30_0
        obtain ⟨_, _, ⟨T33, L33, k33, n33⟩, -, X33, ⟨Lc33, hQ33, l33, y33, z33⟩, st33⟩ := X30.virtualBack hx (y := (⟨"com/example/eventail/eventail/DeliveryCount", "begun", "()J"⟩ : MethodName)) (z := (⟨"com/example/eventail/eventail/DeliveryCount", "begun", "()J"⟩ : MethodName)) hown (mvT hZ (W 18 rfl)) (mvT hZ (W 19 rfl)) (notFace_of_selects (args := #[]) (mvT hZ (W 21 rfl))) (mvT hZ (W 21 rfl)) (mvT hZ (W 20 rfl)) (by decide) (backOf (W := 0) (rm4 l Z a0 hw [] b20 (2 : Int64) T30.heap n0 Z0_c31 F_begun_e32) hZ (W 22 rfl) (W 2 rfl) (by decide) (by decide)) q33a q33c (g := (mkF m 133 #[.val (.int p1), .val (.int (0 : Int32)), .val (.int (0 : Int32)), .val (.int (0 : Int32)), .val (.ref b20), .val (.int (0 : Int32)), .val (.int (0 : Int32)), .val (.int (0 : Int32))] [(.ref b20)])) rfl (by rw [hml]; rfl) (Steps.refl _) (argsL := []) (rest := []) (lenOf pd_3 rfl) rfl (by show 2 * 0 + _ ≤ _; exact Nat.le_of_eq rfl) (hb hby at_133) (fun _ _ => ⟨rfl, rfl, (by decide : 1 + 0 ≤ _), (by decide : 16 + 0 ≤ _)⟩)
        dsimp only [Pt.U, Pt.locs, Pt.cells, Pt.slots] at X33 l33 y33 z33 st33 hQ33
        subst l33 y33 z33
        obtain ⟨rfl, N33q, e33⟩ := hQ33
        have N33 := Fr.app N30 N33q
        refine own_goT st33 ?_
        show own_Run p e below _ T33 (mkF m 136 #[.val (.int p1), .val (.int (0 : Int32)), .val (.int (0 : Int32)), .val (.int (0 : Int32)), .val (.ref b20), .val (.int (0 : Int32)), .val (.int (0 : Int32)), .val (.int (0 : Int32))] [(.long (2 : Int64))])
        refine own_go (X33.ldc2Long hx hown (mvT hZ (W 33 rfl)) (g := (mkF m 136 #[.val (.int p1), .val (.int (0 : Int32)), .val (.int (0 : Int32)), .val (.int (0 : Int32)), .val (.ref b20), .val (.int (0 : Int32)), .val (.int (0 : Int32)), .val (.int (0 : Int32))] [(.long (2 : Int64))])) rfl (hb hby at_136)) ?_
        show own_Run p e below _ T33 (mkF m 139 #[.val (.int p1), .val (.int (0 : Int32)), .val (.int (0 : Int32)), .val (.int (0 : Int32)), .val (.ref b20), .val (.int (0 : Int32)), .val (.int (0 : Int32)), .val (.int (0 : Int32))] [(.long (2 : Int64)), (.long (2 : Int64))])
        refine own_go (fun _ k => XS.lcmp X33.here hx rfl (hb hby at_139) rfl k) ?_
        show own_Run p e below _ T33 (mkF m 140 #[.val (.int p1), .val (.int (0 : Int32)), .val (.int (0 : Int32)), .val (.int (0 : Int32)), .val (.ref b20), .val (.int (0 : Int32)), .val (.int (0 : Int32)), .val (.int (0 : Int32))] [(.int (lcmpW (2 : Int64) (2 : Int64)))])
        refine own_go (fun _ k => XS.ifYes X33.here hx rfl (pc0 := 140) (pc' := 145) rfl (hb hby at_140) rfl (own_lcTe (by decide : (2 : Int64) = (2 : Int64))).1 (by decide) (by decide) k) ?_
        show own_Run p e below _ T33 (mkF m 145 #[.val (.int p1), .val (.int (0 : Int32)), .val (.int (0 : Int32)), .val (.int (0 : Int32)), .val (.ref b20), .val (.int (0 : Int32)), .val (.int (0 : Int32)), .val (.int (0 : Int32))] [])
        refine own_go (fun _ k => XS.aload X33.here hx rfl (hb hby at_145) rfl rfl k) ?_
        show own_Run p e below _ T33 (mkF m 147 #[.val (.int p1), .val (.int (0 : Int32)), .val (.int (0 : Int32)), .val (.int (0 : Int32)), .val (.ref b20), .val (.int (0 : Int32)), .val (.int (0 : Int32)), .val (.int (0 : Int32))] [(.ref b20)])
        obtain ⟨cq34, kq34, q34a, q34b, q34c⟩ := isOf hZ e33 P30_0
        obtain ⟨_, _, ⟨T34, L34, k34, n34⟩, -, X34, ⟨Lc34, hQ34, l34, y34, z34⟩, st34⟩ := X33.virtualBack hx (y := (⟨"com/example/eventail/eventail/DeliveryCount", "isRoomWanted", "()Z"⟩ : MethodName)) (z := (⟨"com/example/eventail/eventail/DeliveryCount", "isRoomWanted", "()Z"⟩ : MethodName)) hown (mvT hZ (W 23 rfl)) (mvT hZ (W 24 rfl)) (notFace_of_selects (args := #[]) (mvT hZ (W 26 rfl))) (mvT hZ (W 26 rfl)) (mvT hZ (W 25 rfl)) (by decide) (backOf (W := 0) (rm5 l Z a0 hw [] b20 (0 : Int64) (0 : Int32) T30.heap n0 Z0_c31 P30_1 (Or.inl ⟨rfl, rfl⟩)) hZ (W 27 rfl) (W 2 rfl) (by decide) (by decide)) q34a q34c (g := (mkF m 147 #[.val (.int p1), .val (.int (0 : Int32)), .val (.int (0 : Int32)), .val (.int (0 : Int32)), .val (.ref b20), .val (.int (0 : Int32)), .val (.int (0 : Int32)), .val (.int (0 : Int32))] [(.ref b20)])) rfl (by rw [hml]; rfl) (Steps.refl _) (argsL := []) (rest := []) (lenOf pd_2 rfl) rfl (by show 2 * 0 + _ ≤ _; exact Nat.le_of_eq rfl) (hb hby at_147) (fun _ _ => ⟨rfl, e33, (by decide : 1 + 0 ≤ _), (by decide : 16 + 0 ≤ _)⟩)
        dsimp only [Pt.U, Pt.locs, Pt.cells, Pt.slots] at X34 l34 y34 z34 st34 hQ34
        subst l34 y34 z34
        obtain ⟨rfl, N34q, e34⟩ := hQ34
        have N34 := Fr.app N33 N34q
        refine own_goT st34 ?_
        show own_Run p e below _ T34 (mkF m 150 #[.val (.int p1), .val (.int (0 : Int32)), .val (.int (0 : Int32)), .val (.int (0 : Int32)), .val (.ref b20), .val (.int (0 : Int32)), .val (.int (0 : Int32)), .val (.int (0 : Int32))] [(.int (0 : Int32))])
        refine own_go (fun _ k => XS.iloadN X34.here hx rfl (hb hby at_150) rfl k) ?_
        show own_Run p e below _ T34 (mkF m 151 #[.val (.int p1), .val (.int (0 : Int32)), .val (.int (0 : Int32)), .val (.int (0 : Int32)), .val (.ref b20), .val (.int (0 : Int32)), .val (.int (0 : Int32)), .val (.int (0 : Int32))] [(.int (0 : Int32)), (.int (0 : Int32))])
        refine own_go (fun _ k => XS.icmpNo X34.here hx rfl (hb hby at_151) rfl (teq (by decide : (0 : Int32) = (0 : Int32))).2 k) ?_
        show own_Run p e below _ T34 (mkF m 154 #[.val (.int p1), .val (.int (0 : Int32)), .val (.int (0 : Int32)), .val (.int (0 : Int32)), .val (.ref b20), .val (.int (0 : Int32)), .val (.int (0 : Int32)), .val (.int (0 : Int32))] [])
        refine own_go (fun _ k => XS.iconst X34.here hx rfl (hb hby at_154) k) ?_
        refine own_go (fun _ k => XS.goto X34.here hx rfl (pc0 := 155) (pc' := 159) rfl (hb hby at_155) (by decide) (by decide) k) ?_
        show own_Run p e below _ T34 (mkF m 159 #[.val (.int p1), .val (.int (0 : Int32)), .val (.int (0 : Int32)), .val (.int (0 : Int32)), .val (.ref b20), .val (.int (0 : Int32)), .val (.int (0 : Int32)), .val (.int (0 : Int32))] [(.int (1 : Int32))])
        refine own_done (Q := fun v h L => Q0 Z p1 h0 n0 v h L) (v := (some (.int (1 : Int32)))) X34 (fun h => by rw [hret] at h; cases h) hlk (fun fs hr => retN X34 hx (t := .boolean) hret (by simp) (hb hby at_159) hr) ?_ (by decide) (by decide)
        show Q0 Z p1 h0 n0 _ T34.heap _
        rw [e34]
        exact ⟨rfl, N34⟩
      · refine own_go (fun _ k => XS.ifNo X0.here hx rfl (hb hby at_27) rfl ((if0 _ _).trans (feq hc27_19).1) k) ?_
        show own_Run p e below _ s₁ (mkF m 30 #[.val (.int p1), .val (.int (0 : Int32)), .val (.int (0 : Int32)), .unset, .unset, .unset, .unset, .unset] [])
        refine own_go (fun _ k => XS.iconst X0.here hx rfl (hb hby at_30) k) ?_
        refine own_go (fun _ k => XS.goto X0.here hx rfl (pc0 := 31) (pc' := 35) rfl (hb hby at_31) (by decide) (by decide) k) ?_
        refine own_go (fun _ k => XS.istoreN X0.here hx rfl (hb hby at_35) rfl (l' := #[.val (.int p1), .val (.int (0 : Int32)), .val (.int (0 : Int32)), .val (.int (1 : Int32)), .unset, .unset, .unset, .unset]) rfl k) ?_
        show own_Run p e below _ s₁ (mkF m 36 #[.val (.int p1), .val (.int (0 : Int32)), .val (.int (0 : Int32)), .val (.int (1 : Int32)), .unset, .unset, .unset, .unset] [])
        obtain ⟨T35, h35, X35, e35, E35, A35, D35, -, st35⟩ := newO X0 hx hZ hown (W 0 rfl) (W 1 rfl) (W 2 rfl) e0 (g := (mkF m 36 #[.val (.int p1), .val (.int (0 : Int32)), .val (.int (0 : Int32)), .val (.int (1 : Int32)), .unset, .unset, .unset, .unset] [])) rfl (hb hby at_36) (by decide) (by decide)
        refine own_go st35 ?_
        obtain ⟨b35, g35⟩ : ∃ z, z = h0.size := ⟨_, rfl⟩
        rw [← g35] at A35 D35
        rw [← g35]
        show own_Run p e below _ T35 (mkF m 39 #[.val (.int p1), .val (.int (0 : Int32)), .val (.int (0 : Int32)), .val (.int (1 : Int32)), .unset, .unset, .unset, .unset] [(.ref b35)])
        have g_b35 : n0 ≤ b35 := Nat.le_trans Z0 (Nat.le_of_eq g35.symm)
        have sz_b35 : h0.size ≤ b35 := Nat.le_trans K0.1 (Nat.le_of_eq g35.symm)
        have Z0_c36 := Nat.le_trans Z0 E35.1
        have K0_c36 := K0.ext E35
        have F_begun_b35 : Fld Z h35 b35 "com/example/eventail/eventail/DeliveryCount" "begun" "J" (.long (0 : Int64)) := D35 (Or.inl (W 15 rfl)) (ty := .long) (by decide)
        have F_roomWanted_b35 : Fld Z h35 b35 "com/example/eventail/eventail/DeliveryCount" "roomWanted" "J" (.long (0 : Int64)) := D35 (Or.inl (W 17 rfl)) (ty := .long) (by decide)
        refine own_go (fun _ k => XS.dup X35.here hx rfl (hb hby at_39) rfl rfl k) ?_
        show own_Run p e below _ T35 (mkF m 40 #[.val (.int p1), .val (.int (0 : Int32)), .val (.int (0 : Int32)), .val (.int (1 : Int32)), .unset, .unset, .unset, .unset] [(.ref b35), (.ref b35)])
        obtain ⟨_, _, ⟨T37, L37, k37, n37⟩, -, X37, ⟨Lc37, hQ37, l37, y37, z37⟩, st37⟩ := X35.specialBack hx (y := (⟨"com/example/eventail/eventail/DeliveryCount", "<init>", "()V"⟩ : MethodName)) rfl hown (mvT hZ (W 3 rfl)) (mvT hZ (W 4 rfl)) (mvT hZ (W 5 rfl)) (by decide) (backOf (W := 1) (rm1 l Z a0 hw [] b35 h35 n0 Z0_c36 ) hZ (W 5 rfl) (W 2 rfl) (by decide) (by decide)) (g := (mkF m 40 #[.val (.int p1), .val (.int (0 : Int32)), .val (.int (0 : Int32)), .val (.int (1 : Int32)), .unset, .unset, .unset, .unset] [(.ref b35), (.ref b35)])) rfl (by rw [hml]; rfl) (Steps.refl _) (a := b35) (argsL := []) (rest := [(.ref b35)]) (lenOf pd_1 rfl) rfl (by show 2 * 0 + _ ≤ _; exact Nat.le_of_eq rfl) (hb hby at_40) (fun _ _ => ⟨rfl, e35, (by decide : 1 + 0 ≤ _), (by decide : 16 + 0 ≤ _)⟩)
        dsimp only [Pt.U, Pt.locs, Pt.cells, Pt.slots] at X37 l37 y37 z37 st37 hQ37
        subst l37 y37 z37
        obtain ⟨rfl, N37q, e37⟩ := hQ37
        have N37 := Fr.app N0 N37q
        refine own_goT st37 ?_
        show own_Run p e below _ T37 (mkF m 43 #[.val (.int p1), .val (.int (0 : Int32)), .val (.int (0 : Int32)), .val (.int (1 : Int32)), .unset, .unset, .unset, .unset] [(.ref b35)])
        refine own_go (fun _ k => XS.astore X37.here hx rfl (hb hby at_43) rfl rfl (l' := #[.val (.int p1), .val (.int (0 : Int32)), .val (.int (0 : Int32)), .val (.int (1 : Int32)), .val (.ref b35), .unset, .unset, .unset]) rfl k) ?_
        refine own_go (fun _ k => XS.iloadN X37.here hx rfl (hb hby at_45) rfl k) ?_
        show own_Run p e below _ T37 (mkF m 46 #[.val (.int p1), .val (.int (0 : Int32)), .val (.int (0 : Int32)), .val (.int (1 : Int32)), .val (.ref b35), .unset, .unset, .unset] [(.int (0 : Int32))])
        refine own_go (fun _ k => XS.ifYes X37.here hx rfl (pc0 := 46) (pc' := 55) rfl (hb hby at_46) rfl ((if0 _ _).trans (teq (by decide : (0 : Int32) = (0 : Int32))).1) (by decide) (by decide) k) ?_
        show own_Run p e below _ T37 (mkF m 55 #[.val (.int p1), .val (.int (0 : Int32)), .val (.int (0 : Int32)), .val (.int (1 : Int32)), .val (.ref b35), .unset, .unset, .unset] [])
        refine own_go (fun _ k => XS.iloadN X37.here hx rfl (hb hby at_55) rfl k) ?_
        show own_Run p e below _ T37 (mkF m 56 #[.val (.int p1), .val (.int (0 : Int32)), .val (.int (0 : Int32)), .val (.int (1 : Int32)), .val (.ref b35), .unset, .unset, .unset] [(.int (0 : Int32))])
        refine own_go (fun _ k => XS.ifYes X37.here hx rfl (pc0 := 56) (pc' := 67) rfl (hb hby at_56) rfl ((if0 _ _).trans (teq (by decide : (0 : Int32) = (0 : Int32))).1) (by decide) (by decide) k) ?_
        show own_Run p e below _ T37 (mkF m 67 #[.val (.int p1), .val (.int (0 : Int32)), .val (.int (0 : Int32)), .val (.int (1 : Int32)), .val (.ref b35), .unset, .unset, .unset] [])
        refine own_go (fun _ k => XS.iconst X37.here hx rfl (hb hby at_67) k) ?_
        refine own_go (fun _ k => XS.istore X37.here hx rfl (hb hby at_68) rfl (l' := #[.val (.int p1), .val (.int (0 : Int32)), .val (.int (0 : Int32)), .val (.int (1 : Int32)), .val (.ref b35), .val (.int (0 : Int32)), .unset, .unset]) rfl k) ?_
        refine own_go (fun _ k => XS.aload X37.here hx rfl (hb hby at_70) rfl rfl k) ?_
        show own_Run p e below _ T37 (mkF m 72 #[.val (.int p1), .val (.int (0 : Int32)), .val (.int (0 : Int32)), .val (.int (1 : Int32)), .val (.ref b35), .val (.int (0 : Int32)), .unset, .unset] [(.ref b35)])
        obtain ⟨cq38, kq38, q38a, q38b, q38c⟩ := isOf hZ e37 A35
        obtain ⟨_, _, ⟨T38, L38, k38, n38⟩, -, X38, ⟨Lc38, hQ38, l38, y38, z38⟩, st38⟩ := X37.virtualBack hx (y := (⟨"com/example/eventail/eventail/DeliveryCount", "deliveryBegins", "()Z"⟩ : MethodName)) (z := (⟨"com/example/eventail/eventail/DeliveryCount", "deliveryBegins", "()Z"⟩ : MethodName)) hown (mvT hZ (W 9 rfl)) (mvT hZ (W 10 rfl)) (notFace_of_selects (args := #[]) (mvT hZ (W 12 rfl))) (mvT hZ (W 12 rfl)) (mvT hZ (W 11 rfl)) (by decide) (backOf (W := 0) (rm3 l Z a0 hw [] b35 (0 : Int64) (0 : Int32) (0 : Int64) h35 n0 Z0_c36 A35 F_roomWanted_b35 F_begun_b35 g_b35 (Or.inl ⟨rfl, rfl⟩)) hZ (W 13 rfl) (W 2 rfl) (by decide) (by decide)) q38a q38c (g := (mkF m 72 #[.val (.int p1), .val (.int (0 : Int32)), .val (.int (0 : Int32)), .val (.int (1 : Int32)), .val (.ref b35), .val (.int (0 : Int32)), .unset, .unset] [(.ref b35)])) rfl (by rw [hml]; rfl) (Steps.refl _) (argsL := []) (rest := []) (lenOf pd_2 rfl) rfl (by show 2 * 0 + _ ≤ _; exact Nat.le_of_eq rfl) (hb hby at_72) (fun _ _ => ⟨rfl, e37, (by decide : 1 + 0 ≤ _), (by decide : 16 + 0 ≤ _)⟩)
        dsimp only [Pt.U, Pt.locs, Pt.cells, Pt.slots] at X38 l38 y38 z38 st38 hQ38
        subst l38 y38 z38
        obtain ⟨rfl, N38q, K38, P38_0, P38_1, P38_2⟩ := hQ38
        have N38 := Fr.app N37 N38q
        refine own_goT st38 ?_
        show own_Run p e below _ T38 (mkF m 75 #[.val (.int p1), .val (.int (0 : Int32)), .val (.int (0 : Int32)), .val (.int (1 : Int32)), .val (.ref b35), .val (.int (0 : Int32)), .unset, .unset] [(.int (0 : Int32))])
        have Z0_c39 := Nat.le_trans Z0_c36 K38.1
        have K0_c39 := K0_c36.trans K38 (allS (Or.inr sz_b35) all0)
        have A35_c39 := A35.keep K38
        have F_begun_e40 : Fld Z T38.heap b35 "com/example/eventail/eventail/DeliveryCount" "begun" "J" (.long (1 : Int64)) := P38_2
        refine own_go (fun _ k => XS.istore X38.here hx rfl (hb hby at_75) rfl (l' := #[.val (.int p1), .val (.int (0 : Int32)), .val (.int (0 : Int32)), .val (.int (1 : Int32)), .val (.ref b35), .val (.int (0 : Int32)), .val (.int (0 : Int32)), .unset]) rfl k) ?_
        refine own_go (fun _ k => XS.iload X38.here hx rfl (hb hby at_77) rfl k) ?_
        refine own_go (fun _ k => XS.iload X38.here hx rfl (hb hby at_79) rfl k) ?_
        show own_Run p e below _ T38 (mkF m 81 #[.val (.int p1), .val (.int (0 : Int32)), .val (.int (0 : Int32)), .val (.int (1 : Int32)), .val (.ref b35), .val (.int (0 : Int32)), .val (.int (0 : Int32)), .unset] [(.int (0 : Int32)), (.int (0 : Int32))])
        refine own_go (fun _ k => XS.icmpYes X38.here hx rfl (pc0 := 81) (pc' := 86) rfl (hb hby at_81) rfl (teq (by decide : (0 : Int32) = (0 : Int32))).1 (by decide) (by decide) k) ?_
        show own_Run p e below _ T38 (mkF m 86 #[.val (.int p1), .val (.int (0 : Int32)), .val (.int (0 : Int32)), .val (.int (1 : Int32)), .val (.ref b35), .val (.int (0 : Int32)), .val (.int (0 : Int32)), .unset] [])
        refine own_go (fun _ k => XS.aload X38.here hx rfl (hb hby at_86) rfl rfl k) ?_
        show own_Run p e below _ T38 (mkF m 88 #[.val (.int p1), .val (.int (0 : Int32)), .val (.int (0 : Int32)), .val (.int (1 : Int32)), .val (.ref b35), .val (.int (0 : Int32)), .val (.int (0 : Int32)), .unset] [(.ref b35)])
        obtain ⟨cq41, kq41, q41a, q41b, q41c⟩ := isOf hZ rfl P38_0
        obtain ⟨_, _, ⟨T41, L41, k41, n41⟩, -, X41, ⟨Lc41, hQ41, l41, y41, z41⟩, st41⟩ := X38.virtualBack hx (y := (⟨"com/example/eventail/eventail/DeliveryCount", "begun", "()J"⟩ : MethodName)) (z := (⟨"com/example/eventail/eventail/DeliveryCount", "begun", "()J"⟩ : MethodName)) hown (mvT hZ (W 18 rfl)) (mvT hZ (W 19 rfl)) (notFace_of_selects (args := #[]) (mvT hZ (W 21 rfl))) (mvT hZ (W 21 rfl)) (mvT hZ (W 20 rfl)) (by decide) (backOf (W := 0) (rm4 l Z a0 hw [] b35 (1 : Int64) T38.heap n0 Z0_c39 F_begun_e40) hZ (W 22 rfl) (W 2 rfl) (by decide) (by decide)) q41a q41c (g := (mkF m 88 #[.val (.int p1), .val (.int (0 : Int32)), .val (.int (0 : Int32)), .val (.int (1 : Int32)), .val (.ref b35), .val (.int (0 : Int32)), .val (.int (0 : Int32)), .unset] [(.ref b35)])) rfl (by rw [hml]; rfl) (Steps.refl _) (argsL := []) (rest := []) (lenOf pd_3 rfl) rfl (by show 2 * 0 + _ ≤ _; exact Nat.le_of_eq rfl) (hb hby at_88) (fun _ _ => ⟨rfl, rfl, (by decide : 1 + 0 ≤ _), (by decide : 16 + 0 ≤ _)⟩)
        dsimp only [Pt.U, Pt.locs, Pt.cells, Pt.slots] at X41 l41 y41 z41 st41 hQ41
        subst l41 y41 z41
        obtain ⟨rfl, N41q, e41⟩ := hQ41
        have N41 := Fr.app N38 N41q
        refine own_goT st41 ?_
        show own_Run p e below _ T41 (mkF m 91 #[.val (.int p1), .val (.int (0 : Int32)), .val (.int (0 : Int32)), .val (.int (1 : Int32)), .val (.ref b35), .val (.int (0 : Int32)), .val (.int (0 : Int32)), .unset] [(.long (1 : Int64))])
        refine own_go (fun _ k => XS.lconst X41.here hx rfl (hb hby at_91) k) ?_
        refine own_go (fun _ k => XS.lcmp X41.here hx rfl (hb hby at_92) rfl k) ?_
        show own_Run p e below _ T41 (mkF m 93 #[.val (.int p1), .val (.int (0 : Int32)), .val (.int (0 : Int32)), .val (.int (1 : Int32)), .val (.ref b35), .val (.int (0 : Int32)), .val (.int (0 : Int32)), .unset] [(.int (lcmpW (1 : Int64) (1 : Int64)))])
        refine own_go (fun _ k => XS.ifYes X41.here hx rfl (pc0 := 93) (pc' := 98) rfl (hb hby at_93) rfl (own_lcTe (by decide : (1 : Int64) = (1 : Int64))).1 (by decide) (by decide) k) ?_
        show own_Run p e below _ T41 (mkF m 98 #[.val (.int p1), .val (.int (0 : Int32)), .val (.int (0 : Int32)), .val (.int (1 : Int32)), .val (.ref b35), .val (.int (0 : Int32)), .val (.int (0 : Int32)), .unset] [])
        refine own_go (fun _ k => XS.aload X41.here hx rfl (hb hby at_98) rfl rfl k) ?_
        show own_Run p e below _ T41 (mkF m 100 #[.val (.int p1), .val (.int (0 : Int32)), .val (.int (0 : Int32)), .val (.int (1 : Int32)), .val (.ref b35), .val (.int (0 : Int32)), .val (.int (0 : Int32)), .unset] [(.ref b35)])
        obtain ⟨cq42, kq42, q42a, q42b, q42c⟩ := isOf hZ e41 P38_0
        obtain ⟨_, _, ⟨T42, L42, k42, n42⟩, -, X42, ⟨Lc42, hQ42, l42, y42, z42⟩, st42⟩ := X41.virtualBack hx (y := (⟨"com/example/eventail/eventail/DeliveryCount", "isRoomWanted", "()Z"⟩ : MethodName)) (z := (⟨"com/example/eventail/eventail/DeliveryCount", "isRoomWanted", "()Z"⟩ : MethodName)) hown (mvT hZ (W 23 rfl)) (mvT hZ (W 24 rfl)) (notFace_of_selects (args := #[]) (mvT hZ (W 26 rfl))) (mvT hZ (W 26 rfl)) (mvT hZ (W 25 rfl)) (by decide) (backOf (W := 0) (rm5 l Z a0 hw [] b35 (0 : Int64) (0 : Int32) T38.heap n0 Z0_c39 P38_1 (Or.inl ⟨rfl, rfl⟩)) hZ (W 27 rfl) (W 2 rfl) (by decide) (by decide)) q42a q42c (g := (mkF m 100 #[.val (.int p1), .val (.int (0 : Int32)), .val (.int (0 : Int32)), .val (.int (1 : Int32)), .val (.ref b35), .val (.int (0 : Int32)), .val (.int (0 : Int32)), .unset] [(.ref b35)])) rfl (by rw [hml]; rfl) (Steps.refl _) (argsL := []) (rest := []) (lenOf pd_2 rfl) rfl (by show 2 * 0 + _ ≤ _; exact Nat.le_of_eq rfl) (hb hby at_100) (fun _ _ => ⟨rfl, e41, (by decide : 1 + 0 ≤ _), (by decide : 16 + 0 ≤ _)⟩)
        dsimp only [Pt.U, Pt.locs, Pt.cells, Pt.slots] at X42 l42 y42 z42 st42 hQ42
        subst l42 y42 z42
        obtain ⟨rfl, N42q, e42⟩ := hQ42
        have N42 := Fr.app N41 N42q
        refine own_goT st42 ?_
        show own_Run p e below _ T42 (mkF m 103 #[.val (.int p1), .val (.int (0 : Int32)), .val (.int (0 : Int32)), .val (.int (1 : Int32)), .val (.ref b35), .val (.int (0 : Int32)), .val (.int (0 : Int32)), .unset] [(.int (0 : Int32))])
        refine own_go (fun _ k => XS.iload X42.here hx rfl (hb hby at_103) rfl k) ?_
        show own_Run p e below _ T42 (mkF m 105 #[.val (.int p1), .val (.int (0 : Int32)), .val (.int (0 : Int32)), .val (.int (1 : Int32)), .val (.ref b35), .val (.int (0 : Int32)), .val (.int (0 : Int32)), .unset] [(.int (0 : Int32)), (.int (0 : Int32))])
        refine own_go (fun _ k => XS.icmpYes X42.here hx rfl (pc0 := 105) (pc' := 110) rfl (hb hby at_105) rfl (teq (by decide : (0 : Int32) = (0 : Int32))).1 (by decide) (by decide) k) ?_
        show own_Run p e below _ T42 (mkF m 110 #[.val (.int p1), .val (.int (0 : Int32)), .val (.int (0 : Int32)), .val (.int (1 : Int32)), .val (.ref b35), .val (.int (0 : Int32)), .val (.int (0 : Int32)), .unset] [])
        refine own_go (fun _ k => XS.aload X42.here hx rfl (hb hby at_110) rfl rfl k) ?_
        refine own_go (fun _ k => XS.iloadN X42.here hx rfl (hb hby at_112) rfl k) ?_
        show own_Run p e below _ T42 (mkF m 113 #[.val (.int p1), .val (.int (0 : Int32)), .val (.int (0 : Int32)), .val (.int (1 : Int32)), .val (.ref b35), .val (.int (0 : Int32)), .val (.int (0 : Int32)), .unset] [(.int (1 : Int32)), (.ref b35)])
        obtain ⟨cq43, kq43, q43a, q43b, q43c⟩ := isOf hZ e42 P38_0
        obtain ⟨_, _, ⟨T43, L43, k43, n43⟩, -, X43, ⟨Lc43, hQ43, l43, y43, z43⟩, st43⟩ := X42.virtualBack hx (y := (⟨"com/example/eventail/eventail/DeliveryCount", "setRoomWanted", "(Z)V"⟩ : MethodName)) (z := (⟨"com/example/eventail/eventail/DeliveryCount", "setRoomWanted", "(Z)V"⟩ : MethodName)) hown (mvT hZ (W 28 rfl)) (mvT hZ (W 29 rfl)) (notFace_of_selects (args := #[]) (mvT hZ (W 31 rfl))) (mvT hZ (W 31 rfl)) (mvT hZ (W 30 rfl)) (by decide) (backOf (W := 0) (rm6 l Z a0 hw [] b35 (1 : Int32) (0 : Int64) (1 : Int64) (1 : Int64) T38.heap n0 Z0_c39 P38_0 P38_1 F_begun_e40 g_b35 (Or.inr ⟨rfl, rfl⟩)) hZ (W 32 rfl) (W 2 rfl) (by decide) (by decide)) q43a q43c (g := (mkF m 113 #[.val (.int p1), .val (.int (0 : Int32)), .val (.int (0 : Int32)), .val (.int (1 : Int32)), .val (.ref b35), .val (.int (0 : Int32)), .val (.int (0 : Int32)), .unset] [(.int (1 : Int32)), (.ref b35)])) rfl (by rw [hml]; rfl) (Steps.refl _) (argsL := [(.int (1 : Int32))]) (rest := []) (lenOf pd_4 rfl) rfl (by show 2 * 0 + _ ≤ _; exact Nat.le_of_eq rfl) (hb hby at_113) (fun _ _ => ⟨rfl, e42, (by decide : 1 + 0 ≤ _), (by decide : 16 + 0 ≤ _)⟩)
        dsimp only [Pt.U, Pt.locs, Pt.cells, Pt.slots] at X43 l43 y43 z43 st43 hQ43
        subst l43 y43 z43
        obtain ⟨rfl, N43q, K43, P43_0, P43_1, P43_2⟩ := hQ43
        have N43 := Fr.app N42 N43q
        refine own_goT st43 ?_
        show own_Run p e below _ T43 (mkF m 116 #[.val (.int p1), .val (.int (0 : Int32)), .val (.int (0 : Int32)), .val (.int (1 : Int32)), .val (.ref b35), .val (.int (0 : Int32)), .val (.int (0 : Int32)), .unset] [])
        have Z0_c44 := Nat.le_trans Z0_c39 K43.1
        have K0_c44 := K0_c39.trans K43 (allS (Or.inr sz_b35) all0)
        have P38_0_c44 := P38_0.keep K43
        refine own_go (fun _ k => XS.aload X43.here hx rfl (hb hby at_116) rfl rfl k) ?_
        show own_Run p e below _ T43 (mkF m 118 #[.val (.int p1), .val (.int (0 : Int32)), .val (.int (0 : Int32)), .val (.int (1 : Int32)), .val (.ref b35), .val (.int (0 : Int32)), .val (.int (0 : Int32)), .unset] [(.ref b35)])
        obtain ⟨cq45, kq45, q45a, q45b, q45c⟩ := isOf hZ rfl P43_0
        obtain ⟨_, _, ⟨T45, L45, k45, n45⟩, -, X45, ⟨Lc45, hQ45, l45, y45, z45⟩, st45⟩ := X43.virtualBack hx (y := (⟨"com/example/eventail/eventail/DeliveryCount", "deliveryBegins", "()Z"⟩ : MethodName)) (z := (⟨"com/example/eventail/eventail/DeliveryCount", "deliveryBegins", "()Z"⟩ : MethodName)) hown (mvT hZ (W 9 rfl)) (mvT hZ (W 10 rfl)) (notFace_of_selects (args := #[]) (mvT hZ (W 12 rfl))) (mvT hZ (W 12 rfl)) (mvT hZ (W 11 rfl)) (by decide) (backOf (W := 0) (rm3 l Z a0 hw [] b35 (1 : Int64) (1 : Int32) (1 : Int64) T43.heap n0 Z0_c44 P43_0 P43_1 P43_2 g_b35 (Or.inr ⟨rfl, rfl⟩)) hZ (W 13 rfl) (W 2 rfl) (by decide) (by decide)) q45a q45c (g := (mkF m 118 #[.val (.int p1), .val (.int (0 : Int32)), .val (.int (0 : Int32)), .val (.int (1 : Int32)), .val (.ref b35), .val (.int (0 : Int32)), .val (.int (0 : Int32)), .unset] [(.ref b35)])) rfl (by rw [hml]; rfl) (Steps.refl _) (argsL := []) (rest := []) (lenOf pd_2 rfl) rfl (by show 2 * 0 + _ ≤ _; exact Nat.le_of_eq rfl) (hb hby at_118) (fun _ _ => ⟨rfl, rfl, (by decide : 1 + 0 ≤ _), (by decide : 16 + 0 ≤ _)⟩)
        dsimp only [Pt.U, Pt.locs, Pt.cells, Pt.slots] at X45 l45 y45 z45 st45 hQ45
        subst l45 y45 z45
        obtain ⟨rfl, N45q, K45, P45_0, P45_1, P45_2⟩ := hQ45
        have N45 := Fr.app N43 N45q
        refine own_goT st45 ?_
        show own_Run p e below _ T45 (mkF m 121 #[.val (.int p1), .val (.int (0 : Int32)), .val (.int (0 : Int32)), .val (.int (1 : Int32)), .val (.ref b35), .val (.int (0 : Int32)), .val (.int (0 : Int32)), .unset] [(.int (1 : Int32))])
        have Z0_c46 := Nat.le_trans Z0_c44 K45.1
        have K0_c46 := K0_c44.trans K45 (allS (Or.inr sz_b35) all0)
        have P43_0_c46 := P43_0.keep K45
        have F_begun_e47 : Fld Z T45.heap b35 "com/example/eventail/eventail/DeliveryCount" "begun" "J" (.long (2 : Int64)) := P45_2
        refine own_go (fun _ k => XS.istore X45.here hx rfl (hb hby at_121) rfl (l' := #[.val (.int p1), .val (.int (0 : Int32)), .val (.int (0 : Int32)), .val (.int (1 : Int32)), .val (.ref b35), .val (.int (0 : Int32)), .val (.int (0 : Int32)), .val (.int (1 : Int32))]) rfl k) ?_
        refine own_go (fun _ k => XS.iload X45.here hx rfl (hb hby at_123) rfl k) ?_
        refine own_go (fun _ k => XS.iloadN X45.here hx rfl (hb hby at_125) rfl k) ?_
        show own_Run p e below _ T45 (mkF m 126 #[.val (.int p1), .val (.int (0 : Int32)), .val (.int (0 : Int32)), .val (.int (1 : Int32)), .val (.ref b35), .val (.int (0 : Int32)), .val (.int (0 : Int32)), .val (.int (1 : Int32))] [(.int (1 : Int32)), (.int (1 : Int32))])
        refine own_go (fun _ k => XS.icmpYes X45.here hx rfl (pc0 := 126) (pc' := 131) rfl (hb hby at_126) rfl (teq (by decide : (1 : Int32) = (1 : Int32))).1 (by decide) (by decide) k) ?_
        show own_Run p e below _ T45 (mkF m 131 #[.val (.int p1), .val (.int (0 : Int32)), .val (.int (0 : Int32)), .val (.int (1 : Int32)), .val (.ref b35), .val (.int (0 : Int32)), .val (.int (0 : Int32)), .val (.int (1 : Int32))] [])
        refine own_go (fun _ k => XS.aload X45.here hx rfl (hb hby at_131) rfl rfl k) ?_
        show own_Run p e below _ T45 (mkF m 133 #[.val (.int p1), .val (.int (0 : Int32)), .val (.int (0 : Int32)), .val (.int (1 : Int32)), .val (.ref b35), .val (.int (0 : Int32)), .val (.int (0 : Int32)), .val (.int (1 : Int32))] [(.ref b35)])
        obtain ⟨cq48, kq48, q48a, q48b, q48c⟩ := isOf hZ rfl P45_0
        obtain ⟨_, _, ⟨T48, L48, k48, n48⟩, -, X48, ⟨Lc48, hQ48, l48, y48, z48⟩, st48⟩ := X45.virtualBack hx (y := (⟨"com/example/eventail/eventail/DeliveryCount", "begun", "()J"⟩ : MethodName)) (z := (⟨"com/example/eventail/eventail/DeliveryCount", "begun", "()J"⟩ : MethodName)) hown (mvT hZ (W 18 rfl)) (mvT hZ (W 19 rfl)) (notFace_of_selects (args := #[]) (mvT hZ (W 21 rfl))) (mvT hZ (W 21 rfl)) (mvT hZ (W 20 rfl)) (by decide) (backOf (W := 0) (rm4 l Z a0 hw [] b35 (2 : Int64) T45.heap n0 Z0_c46 F_begun_e47) hZ (W 22 rfl) (W 2 rfl) (by decide) (by decide)) q48a q48c (g := (mkF m 133 #[.val (.int p1), .val (.int (0 : Int32)), .val (.int (0 : Int32)), .val (.int (1 : Int32)), .val (.ref b35), .val (.int (0 : Int32)), .val (.int (0 : Int32)), .val (.int (1 : Int32))] [(.ref b35)])) rfl (by rw [hml]; rfl) (Steps.refl _) (argsL := []) (rest := []) (lenOf pd_3 rfl) rfl (by show 2 * 0 + _ ≤ _; exact Nat.le_of_eq rfl) (hb hby at_133) (fun _ _ => ⟨rfl, rfl, (by decide : 1 + 0 ≤ _), (by decide : 16 + 0 ≤ _)⟩)
        dsimp only [Pt.U, Pt.locs, Pt.cells, Pt.slots] at X48 l48 y48 z48 st48 hQ48
        subst l48 y48 z48
        obtain ⟨rfl, N48q, e48⟩ := hQ48
        have N48 := Fr.app N45 N48q
        refine own_goT st48 ?_
        show own_Run p e below _ T48 (mkF m 136 #[.val (.int p1), .val (.int (0 : Int32)), .val (.int (0 : Int32)), .val (.int (1 : Int32)), .val (.ref b35), .val (.int (0 : Int32)), .val (.int (0 : Int32)), .val (.int (1 : Int32))] [(.long (2 : Int64))])
        refine own_go (X48.ldc2Long hx hown (mvT hZ (W 33 rfl)) (g := (mkF m 136 #[.val (.int p1), .val (.int (0 : Int32)), .val (.int (0 : Int32)), .val (.int (1 : Int32)), .val (.ref b35), .val (.int (0 : Int32)), .val (.int (0 : Int32)), .val (.int (1 : Int32))] [(.long (2 : Int64))])) rfl (hb hby at_136)) ?_
        show own_Run p e below _ T48 (mkF m 139 #[.val (.int p1), .val (.int (0 : Int32)), .val (.int (0 : Int32)), .val (.int (1 : Int32)), .val (.ref b35), .val (.int (0 : Int32)), .val (.int (0 : Int32)), .val (.int (1 : Int32))] [(.long (2 : Int64)), (.long (2 : Int64))])
        refine own_go (fun _ k => XS.lcmp X48.here hx rfl (hb hby at_139) rfl k) ?_
        show own_Run p e below _ T48 (mkF m 140 #[.val (.int p1), .val (.int (0 : Int32)), .val (.int (0 : Int32)), .val (.int (1 : Int32)), .val (.ref b35), .val (.int (0 : Int32)), .val (.int (0 : Int32)), .val (.int (1 : Int32))] [(.int (lcmpW (2 : Int64) (2 : Int64)))])
        refine own_go (fun _ k => XS.ifYes X48.here hx rfl (pc0 := 140) (pc' := 145) rfl (hb hby at_140) rfl (own_lcTe (by decide : (2 : Int64) = (2 : Int64))).1 (by decide) (by decide) k) ?_
        show own_Run p e below _ T48 (mkF m 145 #[.val (.int p1), .val (.int (0 : Int32)), .val (.int (0 : Int32)), .val (.int (1 : Int32)), .val (.ref b35), .val (.int (0 : Int32)), .val (.int (0 : Int32)), .val (.int (1 : Int32))] [])
        refine own_go (fun _ k => XS.aload X48.here hx rfl (hb hby at_145) rfl rfl k) ?_
        show own_Run p e below _ T48 (mkF m 147 #[.val (.int p1), .val (.int (0 : Int32)), .val (.int (0 : Int32)), .val (.int (1 : Int32)), .val (.ref b35), .val (.int (0 : Int32)), .val (.int (0 : Int32)), .val (.int (1 : Int32))] [(.ref b35)])
        obtain ⟨cq49, kq49, q49a, q49b, q49c⟩ := isOf hZ e48 P45_0
        obtain ⟨_, _, ⟨T49, L49, k49, n49⟩, -, X49, ⟨Lc49, hQ49, l49, y49, z49⟩, st49⟩ := X48.virtualBack hx (y := (⟨"com/example/eventail/eventail/DeliveryCount", "isRoomWanted", "()Z"⟩ : MethodName)) (z := (⟨"com/example/eventail/eventail/DeliveryCount", "isRoomWanted", "()Z"⟩ : MethodName)) hown (mvT hZ (W 23 rfl)) (mvT hZ (W 24 rfl)) (notFace_of_selects (args := #[]) (mvT hZ (W 26 rfl))) (mvT hZ (W 26 rfl)) (mvT hZ (W 25 rfl)) (by decide) (backOf (W := 0) (rm5 l Z a0 hw [] b35 (1 : Int64) (1 : Int32) T45.heap n0 Z0_c46 P45_1 (Or.inr ⟨rfl, rfl⟩)) hZ (W 27 rfl) (W 2 rfl) (by decide) (by decide)) q49a q49c (g := (mkF m 147 #[.val (.int p1), .val (.int (0 : Int32)), .val (.int (0 : Int32)), .val (.int (1 : Int32)), .val (.ref b35), .val (.int (0 : Int32)), .val (.int (0 : Int32)), .val (.int (1 : Int32))] [(.ref b35)])) rfl (by rw [hml]; rfl) (Steps.refl _) (argsL := []) (rest := []) (lenOf pd_2 rfl) rfl (by show 2 * 0 + _ ≤ _; exact Nat.le_of_eq rfl) (hb hby at_147) (fun _ _ => ⟨rfl, e48, (by decide : 1 + 0 ≤ _), (by decide : 16 + 0 ≤ _)⟩)
        dsimp only [Pt.U, Pt.locs, Pt.cells, Pt.slots] at X49 l49 y49 z49 st49 hQ49
        subst l49 y49 z49
        obtain ⟨rfl, N49q, e49⟩ := hQ49
        have N49 := Fr.app N48 N49q
        refine own_goT st49 ?_
        show own_Run p e below _ T49 (mkF m 150 #[.val (.int p1), .val (.int (0 : Int32)), .val (.int (0 : Int32)), .val (.int (1 : Int32)), .val (.ref b35), .val (.int (0 : Int32)), .val (.int (0 : Int32)), .val (.int (1 : Int32))] [(.int (1 : Int32))])
        refine own_go (fun _ k => XS.iloadN X49.here hx rfl (hb hby at_150) rfl k) ?_
        show own_Run p e below _ T49 (mkF m 151 #[.val (.int p1), .val (.int (0 : Int32)), .val (.int (0 : Int32)), .val (.int (1 : Int32)), .val (.ref b35), .val (.int (0 : Int32)), .val (.int (0 : Int32)), .val (.int (1 : Int32))] [(.int (1 : Int32)), (.int (1 : Int32))])
        refine own_go (fun _ k => XS.icmpNo X49.here hx rfl (hb hby at_151) rfl (teq (by decide : (1 : Int32) = (1 : Int32))).2 k) ?_
        show own_Run p e below _ T49 (mkF m 154 #[.val (.int p1), .val (.int (0 : Int32)), .val (.int (0 : Int32)), .val (.int (1 : Int32)), .val (.ref b35), .val (.int (0 : Int32)), .val (.int (0 : Int32)), .val (.int (1 : Int32))] [])
        refine own_go (fun _ k => XS.iconst X49.here hx rfl (hb hby at_154) k) ?_
        refine own_go (fun _ k => XS.goto X49.here hx rfl (pc0 := 155) (pc' := 159) rfl (hb hby at_155) (by decide) (by decide) k) ?_
        show own_Run p e below _ T49 (mkF m 159 #[.val (.int p1), .val (.int (0 : Int32)), .val (.int (0 : Int32)), .val (.int (1 : Int32)), .val (.ref b35), .val (.int (0 : Int32)), .val (.int (0 : Int32)), .val (.int (1 : Int32))] [(.int (1 : Int32))])
        refine own_done (Q := fun v h L => Q0 Z p1 h0 n0 v h L) (v := (some (.int (1 : Int32)))) X49 (fun h => by rw [hret] at h; cases h) hlk (fun fs hr => retN X49 hx (t := .boolean) hret (by simp) (hb hby at_159) hr) ?_ (by decide) (by decide)
        show Q0 Z p1 h0 n0 _ T49.heap _
        rw [e49]
        exact ⟨rfl, N49⟩
    · refine own_go (fun _ k => XS.ifNo X0.here hx rfl (hb hby at_15) rfl ((if0 _ _).trans (feq hc15_18).1) k) ?_
      show own_Run p e below _ s₁ (mkF m 18 #[.val (.int p1), .val (.int (0 : Int32)), .unset, .unset, .unset, .unset, .unset, .unset] [])
      refine own_go (fun _ k => XS.iconst X0.here hx rfl (hb hby at_18) k) ?_
      refine own_go (fun _ k => XS.goto X0.here hx rfl (pc0 := 19) (pc' := 23) rfl (hb hby at_19) (by decide) (by decide) k) ?_
      refine own_go (fun _ k => XS.istoreN X0.here hx rfl (hb hby at_23) rfl (l' := #[.val (.int p1), .val (.int (0 : Int32)), .val (.int (1 : Int32)), .unset, .unset, .unset, .unset, .unset]) rfl k) ?_
      refine own_go (fun _ k => XS.iloadN X0.here hx rfl (hb hby at_24) rfl k) ?_
      show own_Run p e below _ s₁ (mkF m 25 #[.val (.int p1), .val (.int (0 : Int32)), .val (.int (1 : Int32)), .unset, .unset, .unset, .unset, .unset] [(.int p1)])
      refine own_go (fun _ k => XS.iconst X0.here hx rfl (hb hby at_25) k) ?_
      refine own_go (fun _ k => XS.iand X0.here hx rfl (hb hby at_26) rfl k) ?_
      show own_Run p e below _ s₁ (mkF m 27 #[.val (.int p1), .val (.int (0 : Int32)), .val (.int (1 : Int32)), .unset, .unset, .unset, .unset, .unset] [(.int (p1 &&& (4 : Int32)))])
      by_cases hc27_50 : (p1 &&& (4 : Int32)) = (0 : Int32)
      · refine own_go (fun _ k => XS.ifYes X0.here hx rfl (pc0 := 27) (pc' := 34) rfl (hb hby at_27) rfl ((if0 _ _).trans (teq hc27_50).1) (by decide) (by decide) k) ?_
        show own_Run p e below _ s₁ (mkF m 34 #[.val (.int p1), .val (.int (0 : Int32)), .val (.int (1 : Int32)), .unset, .unset, .unset, .unset, .unset] [])
        refine own_go (fun _ k => XS.iconst X0.here hx rfl (hb hby at_34) k) ?_
        refine own_go (fun _ k => XS.istoreN X0.here hx rfl (hb hby at_35) rfl (l' := #[.val (.int p1), .val (.int (0 : Int32)), .val (.int (1 : Int32)), .val (.int (0 : Int32)), .unset, .unset, .unset, .unset]) rfl k) ?_
        show own_Run p e below _ s₁ (mkF m 36 #[.val (.int p1), .val (.int (0 : Int32)), .val (.int (1 : Int32)), .val (.int (0 : Int32)), .unset, .unset, .unset, .unset] [])
        obtain ⟨T51, h51, X51, e51, E51, A51, D51, -, st51⟩ := newO X0 hx hZ hown (W 0 rfl) (W 1 rfl) (W 2 rfl) e0 (g := (mkF m 36 #[.val (.int p1), .val (.int (0 : Int32)), .val (.int (1 : Int32)), .val (.int (0 : Int32)), .unset, .unset, .unset, .unset] [])) rfl (hb hby at_36) (by decide) (by decide)
        refine own_go st51 ?_
        obtain ⟨b51, g51⟩ : ∃ z, z = h0.size := ⟨_, rfl⟩
        rw [← g51] at A51 D51
        rw [← g51]
        show own_Run p e below _ T51 (mkF m 39 #[.val (.int p1), .val (.int (0 : Int32)), .val (.int (1 : Int32)), .val (.int (0 : Int32)), .unset, .unset, .unset, .unset] [(.ref b51)])
        have g_b51 : n0 ≤ b51 := Nat.le_trans Z0 (Nat.le_of_eq g51.symm)
        have sz_b51 : h0.size ≤ b51 := Nat.le_trans K0.1 (Nat.le_of_eq g51.symm)
        have Z0_c52 := Nat.le_trans Z0 E51.1
        have K0_c52 := K0.ext E51
        have F_begun_b51 : Fld Z h51 b51 "com/example/eventail/eventail/DeliveryCount" "begun" "J" (.long (0 : Int64)) := D51 (Or.inl (W 15 rfl)) (ty := .long) (by decide)
        have F_roomWanted_b51 : Fld Z h51 b51 "com/example/eventail/eventail/DeliveryCount" "roomWanted" "J" (.long (0 : Int64)) := D51 (Or.inl (W 17 rfl)) (ty := .long) (by decide)
        refine own_go (fun _ k => XS.dup X51.here hx rfl (hb hby at_39) rfl rfl k) ?_
        show own_Run p e below _ T51 (mkF m 40 #[.val (.int p1), .val (.int (0 : Int32)), .val (.int (1 : Int32)), .val (.int (0 : Int32)), .unset, .unset, .unset, .unset] [(.ref b51), (.ref b51)])
        obtain ⟨_, _, ⟨T53, L53, k53, n53⟩, -, X53, ⟨Lc53, hQ53, l53, y53, z53⟩, st53⟩ := X51.specialBack hx (y := (⟨"com/example/eventail/eventail/DeliveryCount", "<init>", "()V"⟩ : MethodName)) rfl hown (mvT hZ (W 3 rfl)) (mvT hZ (W 4 rfl)) (mvT hZ (W 5 rfl)) (by decide) (backOf (W := 1) (rm1 l Z a0 hw [] b51 h51 n0 Z0_c52 ) hZ (W 5 rfl) (W 2 rfl) (by decide) (by decide)) (g := (mkF m 40 #[.val (.int p1), .val (.int (0 : Int32)), .val (.int (1 : Int32)), .val (.int (0 : Int32)), .unset, .unset, .unset, .unset] [(.ref b51), (.ref b51)])) rfl (by rw [hml]; rfl) (Steps.refl _) (a := b51) (argsL := []) (rest := [(.ref b51)]) (lenOf pd_1 rfl) rfl (by show 2 * 0 + _ ≤ _; exact Nat.le_of_eq rfl) (hb hby at_40) (fun _ _ => ⟨rfl, e51, (by decide : 1 + 0 ≤ _), (by decide : 16 + 0 ≤ _)⟩)
        dsimp only [Pt.U, Pt.locs, Pt.cells, Pt.slots] at X53 l53 y53 z53 st53 hQ53
        subst l53 y53 z53
        obtain ⟨rfl, N53q, e53⟩ := hQ53
        have N53 := Fr.app N0 N53q
        refine own_goT st53 ?_
        show own_Run p e below _ T53 (mkF m 43 #[.val (.int p1), .val (.int (0 : Int32)), .val (.int (1 : Int32)), .val (.int (0 : Int32)), .unset, .unset, .unset, .unset] [(.ref b51)])
        refine own_go (fun _ k => XS.astore X53.here hx rfl (hb hby at_43) rfl rfl (l' := #[.val (.int p1), .val (.int (0 : Int32)), .val (.int (1 : Int32)), .val (.int (0 : Int32)), .val (.ref b51), .unset, .unset, .unset]) rfl k) ?_
        refine own_go (fun _ k => XS.iloadN X53.here hx rfl (hb hby at_45) rfl k) ?_
        show own_Run p e below _ T53 (mkF m 46 #[.val (.int p1), .val (.int (0 : Int32)), .val (.int (1 : Int32)), .val (.int (0 : Int32)), .val (.ref b51), .unset, .unset, .unset] [(.int (0 : Int32))])
        refine own_go (fun _ k => XS.ifYes X53.here hx rfl (pc0 := 46) (pc' := 55) rfl (hb hby at_46) rfl ((if0 _ _).trans (teq (by decide : (0 : Int32) = (0 : Int32))).1) (by decide) (by decide) k) ?_
        show own_Run p e below _ T53 (mkF m 55 #[.val (.int p1), .val (.int (0 : Int32)), .val (.int (1 : Int32)), .val (.int (0 : Int32)), .val (.ref b51), .unset, .unset, .unset] [])
        refine own_go (fun _ k => XS.iloadN X53.here hx rfl (hb hby at_55) rfl k) ?_
        show own_Run p e below _ T53 (mkF m 56 #[.val (.int p1), .val (.int (0 : Int32)), .val (.int (1 : Int32)), .val (.int (0 : Int32)), .val (.ref b51), .unset, .unset, .unset] [(.int (0 : Int32))])
        refine own_go (fun _ k => XS.ifYes X53.here hx rfl (pc0 := 56) (pc' := 67) rfl (hb hby at_56) rfl ((if0 _ _).trans (teq (by decide : (0 : Int32) = (0 : Int32))).1) (by decide) (by decide) k) ?_
        show own_Run p e below _ T53 (mkF m 67 #[.val (.int p1), .val (.int (0 : Int32)), .val (.int (1 : Int32)), .val (.int (0 : Int32)), .val (.ref b51), .unset, .unset, .unset] [])
        refine own_go (fun _ k => XS.iconst X53.here hx rfl (hb hby at_67) k) ?_
        refine own_go (fun _ k => XS.istore X53.here hx rfl (hb hby at_68) rfl (l' := #[.val (.int p1), .val (.int (0 : Int32)), .val (.int (1 : Int32)), .val (.int (0 : Int32)), .val (.ref b51), .val (.int (0 : Int32)), .unset, .unset]) rfl k) ?_
        refine own_go (fun _ k => XS.aload X53.here hx rfl (hb hby at_70) rfl rfl k) ?_
        show own_Run p e below _ T53 (mkF m 72 #[.val (.int p1), .val (.int (0 : Int32)), .val (.int (1 : Int32)), .val (.int (0 : Int32)), .val (.ref b51), .val (.int (0 : Int32)), .unset, .unset] [(.ref b51)])
        obtain ⟨cq54, kq54, q54a, q54b, q54c⟩ := isOf hZ e53 A51
        obtain ⟨_, _, ⟨T54, L54, k54, n54⟩, -, X54, ⟨Lc54, hQ54, l54, y54, z54⟩, st54⟩ := X53.virtualBack hx (y := (⟨"com/example/eventail/eventail/DeliveryCount", "deliveryBegins", "()Z"⟩ : MethodName)) (z := (⟨"com/example/eventail/eventail/DeliveryCount", "deliveryBegins", "()Z"⟩ : MethodName)) hown (mvT hZ (W 9 rfl)) (mvT hZ (W 10 rfl)) (notFace_of_selects (args := #[]) (mvT hZ (W 12 rfl))) (mvT hZ (W 12 rfl)) (mvT hZ (W 11 rfl)) (by decide) (backOf (W := 0) (rm3 l Z a0 hw [] b51 (0 : Int64) (0 : Int32) (0 : Int64) h51 n0 Z0_c52 A51 F_roomWanted_b51 F_begun_b51 g_b51 (Or.inl ⟨rfl, rfl⟩)) hZ (W 13 rfl) (W 2 rfl) (by decide) (by decide)) q54a q54c (g := (mkF m 72 #[.val (.int p1), .val (.int (0 : Int32)), .val (.int (1 : Int32)), .val (.int (0 : Int32)), .val (.ref b51), .val (.int (0 : Int32)), .unset, .unset] [(.ref b51)])) rfl (by rw [hml]; rfl) (Steps.refl _) (argsL := []) (rest := []) (lenOf pd_2 rfl) rfl (by show 2 * 0 + _ ≤ _; exact Nat.le_of_eq rfl) (hb hby at_72) (fun _ _ => ⟨rfl, e53, (by decide : 1 + 0 ≤ _), (by decide : 16 + 0 ≤ _)⟩)
        dsimp only [Pt.U, Pt.locs, Pt.cells, Pt.slots] at X54 l54 y54 z54 st54 hQ54
        subst l54 y54 z54
        obtain ⟨rfl, N54q, K54, P54_0, P54_1, P54_2⟩ := hQ54
        have N54 := Fr.app N53 N54q
        refine own_goT st54 ?_
        show own_Run p e below _ T54 (mkF m 75 #[.val (.int p1), .val (.int (0 : Int32)), .val (.int (1 : Int32)), .val (.int (0 : Int32)), .val (.ref b51), .val (.int (0 : Int32)), .unset, .unset] [(.int (0 : Int32))])
        have Z0_c55 := Nat.le_trans Z0_c52 K54.1
        have K0_c55 := K0_c52.trans K54 (allS (Or.inr sz_b51) all0)
        have A51_c55 := A51.keep K54
        have F_begun_e56 : Fld Z T54.heap b51 "com/example/eventail/eventail/DeliveryCount" "begun" "J" (.long (1 : Int64)) := P54_2
        refine own_go (fun _ k => XS.istore X54.here hx rfl (hb hby at_75) rfl (l' := #[.val (.int p1), .val (.int (0 : Int32)), .val (.int (1 : Int32)), .val (.int (0 : Int32)), .val (.ref b51), .val (.int (0 : Int32)), .val (.int (0 : Int32)), .unset]) rfl k) ?_
        refine own_go (fun _ k => XS.iload X54.here hx rfl (hb hby at_77) rfl k) ?_
        refine own_go (fun _ k => XS.iload X54.here hx rfl (hb hby at_79) rfl k) ?_
        show own_Run p e below _ T54 (mkF m 81 #[.val (.int p1), .val (.int (0 : Int32)), .val (.int (1 : Int32)), .val (.int (0 : Int32)), .val (.ref b51), .val (.int (0 : Int32)), .val (.int (0 : Int32)), .unset] [(.int (0 : Int32)), (.int (0 : Int32))])
        refine own_go (fun _ k => XS.icmpYes X54.here hx rfl (pc0 := 81) (pc' := 86) rfl (hb hby at_81) rfl (teq (by decide : (0 : Int32) = (0 : Int32))).1 (by decide) (by decide) k) ?_
        show own_Run p e below _ T54 (mkF m 86 #[.val (.int p1), .val (.int (0 : Int32)), .val (.int (1 : Int32)), .val (.int (0 : Int32)), .val (.ref b51), .val (.int (0 : Int32)), .val (.int (0 : Int32)), .unset] [])
        refine own_go (fun _ k => XS.aload X54.here hx rfl (hb hby at_86) rfl rfl k) ?_
        show own_Run p e below _ T54 (mkF m 88 #[.val (.int p1), .val (.int (0 : Int32)), .val (.int (1 : Int32)), .val (.int (0 : Int32)), .val (.ref b51), .val (.int (0 : Int32)), .val (.int (0 : Int32)), .unset] [(.ref b51)])
        obtain ⟨cq57, kq57, q57a, q57b, q57c⟩ := isOf hZ rfl P54_0
        obtain ⟨_, _, ⟨T57, L57, k57, n57⟩, -, X57, ⟨Lc57, hQ57, l57, y57, z57⟩, st57⟩ := X54.virtualBack hx (y := (⟨"com/example/eventail/eventail/DeliveryCount", "begun", "()J"⟩ : MethodName)) (z := (⟨"com/example/eventail/eventail/DeliveryCount", "begun", "()J"⟩ : MethodName)) hown (mvT hZ (W 18 rfl)) (mvT hZ (W 19 rfl)) (notFace_of_selects (args := #[]) (mvT hZ (W 21 rfl))) (mvT hZ (W 21 rfl)) (mvT hZ (W 20 rfl)) (by decide) (backOf (W := 0) (rm4 l Z a0 hw [] b51 (1 : Int64) T54.heap n0 Z0_c55 F_begun_e56) hZ (W 22 rfl) (W 2 rfl) (by decide) (by decide)) q57a q57c (g := (mkF m 88 #[.val (.int p1), .val (.int (0 : Int32)), .val (.int (1 : Int32)), .val (.int (0 : Int32)), .val (.ref b51), .val (.int (0 : Int32)), .val (.int (0 : Int32)), .unset] [(.ref b51)])) rfl (by rw [hml]; rfl) (Steps.refl _) (argsL := []) (rest := []) (lenOf pd_3 rfl) rfl (by show 2 * 0 + _ ≤ _; exact Nat.le_of_eq rfl) (hb hby at_88) (fun _ _ => ⟨rfl, rfl, (by decide : 1 + 0 ≤ _), (by decide : 16 + 0 ≤ _)⟩)
        dsimp only [Pt.U, Pt.locs, Pt.cells, Pt.slots] at X57 l57 y57 z57 st57 hQ57
        subst l57 y57 z57
        obtain ⟨rfl, N57q, e57⟩ := hQ57
        have N57 := Fr.app N54 N57q
        refine own_goT st57 ?_
        show own_Run p e below _ T57 (mkF m 91 #[.val (.int p1), .val (.int (0 : Int32)), .val (.int (1 : Int32)), .val (.int (0 : Int32)), .val (.ref b51), .val (.int (0 : Int32)), .val (.int (0 : Int32)), .unset] [(.long (1 : Int64))])
        refine own_go (fun _ k => XS.lconst X57.here hx rfl (hb hby at_91) k) ?_
        refine own_go (fun _ k => XS.lcmp X57.here hx rfl (hb hby at_92) rfl k) ?_
        show own_Run p e below _ T57 (mkF m 93 #[.val (.int p1), .val (.int (0 : Int32)), .val (.int (1 : Int32)), .val (.int (0 : Int32)), .val (.ref b51), .val (.int (0 : Int32)), .val (.int (0 : Int32)), .unset] [(.int (lcmpW (1 : Int64) (1 : Int64)))])
        refine own_go (fun _ k => XS.ifYes X57.here hx rfl (pc0 := 93) (pc' := 98) rfl (hb hby at_93) rfl (own_lcTe (by decide : (1 : Int64) = (1 : Int64))).1 (by decide) (by decide) k) ?_
        show own_Run p e below _ T57 (mkF m 98 #[.val (.int p1), .val (.int (0 : Int32)), .val (.int (1 : Int32)), .val (.int (0 : Int32)), .val (.ref b51), .val (.int (0 : Int32)), .val (.int (0 : Int32)), .unset] [])
        refine own_go (fun _ k => XS.aload X57.here hx rfl (hb hby at_98) rfl rfl k) ?_
        show own_Run p e below _ T57 (mkF m 100 #[.val (.int p1), .val (.int (0 : Int32)), .val (.int (1 : Int32)), .val (.int (0 : Int32)), .val (.ref b51), .val (.int (0 : Int32)), .val (.int (0 : Int32)), .unset] [(.ref b51)])
        obtain ⟨cq58, kq58, q58a, q58b, q58c⟩ := isOf hZ e57 P54_0
        obtain ⟨_, _, ⟨T58, L58, k58, n58⟩, -, X58, ⟨Lc58, hQ58, l58, y58, z58⟩, st58⟩ := X57.virtualBack hx (y := (⟨"com/example/eventail/eventail/DeliveryCount", "isRoomWanted", "()Z"⟩ : MethodName)) (z := (⟨"com/example/eventail/eventail/DeliveryCount", "isRoomWanted", "()Z"⟩ : MethodName)) hown (mvT hZ (W 23 rfl)) (mvT hZ (W 24 rfl)) (notFace_of_selects (args := #[]) (mvT hZ (W 26 rfl))) (mvT hZ (W 26 rfl)) (mvT hZ (W 25 rfl)) (by decide) (backOf (W := 0) (rm5 l Z a0 hw [] b51 (0 : Int64) (0 : Int32) T54.heap n0 Z0_c55 P54_1 (Or.inl ⟨rfl, rfl⟩)) hZ (W 27 rfl) (W 2 rfl) (by decide) (by decide)) q58a q58c (g := (mkF m 100 #[.val (.int p1), .val (.int (0 : Int32)), .val (.int (1 : Int32)), .val (.int (0 : Int32)), .val (.ref b51), .val (.int (0 : Int32)), .val (.int (0 : Int32)), .unset] [(.ref b51)])) rfl (by rw [hml]; rfl) (Steps.refl _) (argsL := []) (rest := []) (lenOf pd_2 rfl) rfl (by show 2 * 0 + _ ≤ _; exact Nat.le_of_eq rfl) (hb hby at_100) (fun _ _ => ⟨rfl, e57, (by decide : 1 + 0 ≤ _), (by decide : 16 + 0 ≤ _)⟩)
        dsimp only [Pt.U, Pt.locs, Pt.cells, Pt.slots] at X58 l58 y58 z58 st58 hQ58
        subst l58 y58 z58
        obtain ⟨rfl, N58q, e58⟩ := hQ58
        have N58 := Fr.app N57 N58q
        refine own_goT st58 ?_
        show own_Run p e below _ T58 (mkF m 103 #[.val (.int p1), .val (.int (0 : Int32)), .val (.int (1 : Int32)), .val (.int (0 : Int32)), .val (.ref b51), .val (.int (0 : Int32)), .val (.int (0 : Int32)), .unset] [(.int (0 : Int32))])
        refine own_go (fun _ k => XS.iload X58.here hx rfl (hb hby at_103) rfl k) ?_
        show own_Run p e below _ T58 (mkF m 105 #[.val (.int p1), .val (.int (0 : Int32)), .val (.int (1 : Int32)), .val (.int (0 : Int32)), .val (.ref b51), .val (.int (0 : Int32)), .val (.int (0 : Int32)), .unset] [(.int (0 : Int32)), (.int (0 : Int32))])
        refine own_go (fun _ k => XS.icmpYes X58.here hx rfl (pc0 := 105) (pc' := 110) rfl (hb hby at_105) rfl (teq (by decide : (0 : Int32) = (0 : Int32))).1 (by decide) (by decide) k) ?_
        show own_Run p e below _ T58 (mkF m 110 #[.val (.int p1), .val (.int (0 : Int32)), .val (.int (1 : Int32)), .val (.int (0 : Int32)), .val (.ref b51), .val (.int (0 : Int32)), .val (.int (0 : Int32)), .unset] [])
        refine own_go (fun _ k => XS.aload X58.here hx rfl (hb hby at_110) rfl rfl k) ?_
        refine own_go (fun _ k => XS.iloadN X58.here hx rfl (hb hby at_112) rfl k) ?_
        show own_Run p e below _ T58 (mkF m 113 #[.val (.int p1), .val (.int (0 : Int32)), .val (.int (1 : Int32)), .val (.int (0 : Int32)), .val (.ref b51), .val (.int (0 : Int32)), .val (.int (0 : Int32)), .unset] [(.int (0 : Int32)), (.ref b51)])
        obtain ⟨cq59, kq59, q59a, q59b, q59c⟩ := isOf hZ e58 P54_0
        obtain ⟨_, _, ⟨T59, L59, k59, n59⟩, -, X59, ⟨Lc59, hQ59, l59, y59, z59⟩, st59⟩ := X58.virtualBack hx (y := (⟨"com/example/eventail/eventail/DeliveryCount", "setRoomWanted", "(Z)V"⟩ : MethodName)) (z := (⟨"com/example/eventail/eventail/DeliveryCount", "setRoomWanted", "(Z)V"⟩ : MethodName)) hown (mvT hZ (W 28 rfl)) (mvT hZ (W 29 rfl)) (notFace_of_selects (args := #[]) (mvT hZ (W 31 rfl))) (mvT hZ (W 31 rfl)) (mvT hZ (W 30 rfl)) (by decide) (backOf (W := 0) (rm6 l Z a0 hw [] b51 (0 : Int32) (0 : Int64) (0 : Int64) (1 : Int64) T54.heap n0 Z0_c55 P54_0 P54_1 F_begun_e56 g_b51 (Or.inl ⟨rfl, rfl⟩)) hZ (W 32 rfl) (W 2 rfl) (by decide) (by decide)) q59a q59c (g := (mkF m 113 #[.val (.int p1), .val (.int (0 : Int32)), .val (.int (1 : Int32)), .val (.int (0 : Int32)), .val (.ref b51), .val (.int (0 : Int32)), .val (.int (0 : Int32)), .unset] [(.int (0 : Int32)), (.ref b51)])) rfl (by rw [hml]; rfl) (Steps.refl _) (argsL := [(.int (0 : Int32))]) (rest := []) (lenOf pd_4 rfl) rfl (by show 2 * 0 + _ ≤ _; exact Nat.le_of_eq rfl) (hb hby at_113) (fun _ _ => ⟨rfl, e58, (by decide : 1 + 0 ≤ _), (by decide : 16 + 0 ≤ _)⟩)
        dsimp only [Pt.U, Pt.locs, Pt.cells, Pt.slots] at X59 l59 y59 z59 st59 hQ59
        subst l59 y59 z59
        obtain ⟨rfl, N59q, K59, P59_0, P59_1, P59_2⟩ := hQ59
        have N59 := Fr.app N58 N59q
        refine own_goT st59 ?_
        show own_Run p e below _ T59 (mkF m 116 #[.val (.int p1), .val (.int (0 : Int32)), .val (.int (1 : Int32)), .val (.int (0 : Int32)), .val (.ref b51), .val (.int (0 : Int32)), .val (.int (0 : Int32)), .unset] [])
        have Z0_c60 := Nat.le_trans Z0_c55 K59.1
        have K0_c60 := K0_c55.trans K59 (allS (Or.inr sz_b51) all0)
        have P54_0_c60 := P54_0.keep K59
        refine own_go (fun _ k => XS.aload X59.here hx rfl (hb hby at_116) rfl rfl k) ?_
        show own_Run p e below _ T59 (mkF m 118 #[.val (.int p1), .val (.int (0 : Int32)), .val (.int (1 : Int32)), .val (.int (0 : Int32)), .val (.ref b51), .val (.int (0 : Int32)), .val (.int (0 : Int32)), .unset] [(.ref b51)])
        obtain ⟨cq61, kq61, q61a, q61b, q61c⟩ := isOf hZ rfl P59_0
        obtain ⟨_, _, ⟨T61, L61, k61, n61⟩, -, X61, ⟨Lc61, hQ61, l61, y61, z61⟩, st61⟩ := X59.virtualBack hx (y := (⟨"com/example/eventail/eventail/DeliveryCount", "deliveryBegins", "()Z"⟩ : MethodName)) (z := (⟨"com/example/eventail/eventail/DeliveryCount", "deliveryBegins", "()Z"⟩ : MethodName)) hown (mvT hZ (W 9 rfl)) (mvT hZ (W 10 rfl)) (notFace_of_selects (args := #[]) (mvT hZ (W 12 rfl))) (mvT hZ (W 12 rfl)) (mvT hZ (W 11 rfl)) (by decide) (backOf (W := 0) (rm3 l Z a0 hw [] b51 (0 : Int64) (0 : Int32) (1 : Int64) T59.heap n0 Z0_c60 P59_0 P59_1 P59_2 g_b51 (Or.inl ⟨rfl, rfl⟩)) hZ (W 13 rfl) (W 2 rfl) (by decide) (by decide)) q61a q61c (g := (mkF m 118 #[.val (.int p1), .val (.int (0 : Int32)), .val (.int (1 : Int32)), .val (.int (0 : Int32)), .val (.ref b51), .val (.int (0 : Int32)), .val (.int (0 : Int32)), .unset] [(.ref b51)])) rfl (by rw [hml]; rfl) (Steps.refl _) (argsL := []) (rest := []) (lenOf pd_2 rfl) rfl (by show 2 * 0 + _ ≤ _; exact Nat.le_of_eq rfl) (hb hby at_118) (fun _ _ => ⟨rfl, rfl, (by decide : 1 + 0 ≤ _), (by decide : 16 + 0 ≤ _)⟩)
        dsimp only [Pt.U, Pt.locs, Pt.cells, Pt.slots] at X61 l61 y61 z61 st61 hQ61
        subst l61 y61 z61
        obtain ⟨rfl, N61q, K61, P61_0, P61_1, P61_2⟩ := hQ61
        have N61 := Fr.app N59 N61q
        refine own_goT st61 ?_
        show own_Run p e below _ T61 (mkF m 121 #[.val (.int p1), .val (.int (0 : Int32)), .val (.int (1 : Int32)), .val (.int (0 : Int32)), .val (.ref b51), .val (.int (0 : Int32)), .val (.int (0 : Int32)), .unset] [(.int (0 : Int32))])
        have Z0_c62 := Nat.le_trans Z0_c60 K61.1
        have K0_c62 := K0_c60.trans K61 (allS (Or.inr sz_b51) all0)
        have P59_0_c62 := P59_0.keep K61
        have F_begun_e63 : Fld Z T61.heap b51 "com/example/eventail/eventail/DeliveryCount" "begun" "J" (.long (2 : Int64)) := P61_2
        refine own_go (fun _ k => XS.istore X61.here hx rfl (hb hby at_121) rfl (l' := #[.val (.int p1), .val (.int (0 : Int32)), .val (.int (1 : Int32)), .val (.int (0 : Int32)), .val (.ref b51), .val (.int (0 : Int32)), .val (.int (0 : Int32)), .val (.int (0 : Int32))]) rfl k) ?_
        refine own_go (fun _ k => XS.iload X61.here hx rfl (hb hby at_123) rfl k) ?_
        refine own_go (fun _ k => XS.iloadN X61.here hx rfl (hb hby at_125) rfl k) ?_
        show own_Run p e below _ T61 (mkF m 126 #[.val (.int p1), .val (.int (0 : Int32)), .val (.int (1 : Int32)), .val (.int (0 : Int32)), .val (.ref b51), .val (.int (0 : Int32)), .val (.int (0 : Int32)), .val (.int (0 : Int32))] [(.int (0 : Int32)), (.int (0 : Int32))])
        refine own_go (fun _ k => XS.icmpYes X61.here hx rfl (pc0 := 126) (pc' := 131) rfl (hb hby at_126) rfl (teq (by decide : (0 : Int32) = (0 : Int32))).1 (by decide) (by decide) k) ?_
        show own_Run p e below _ T61 (mkF m 131 #[.val (.int p1), .val (.int (0 : Int32)), .val (.int (1 : Int32)), .val (.int (0 : Int32)), .val (.ref b51), .val (.int (0 : Int32)), .val (.int (0 : Int32)), .val (.int (0 : Int32))] [])
        refine own_go (fun _ k => XS.aload X61.here hx rfl (hb hby at_131) rfl rfl k) ?_
        show own_Run p e below _ T61 (mkF m 133 #[.val (.int p1), .val (.int (0 : Int32)), .val (.int (1 : Int32)), .val (.int (0 : Int32)), .val (.ref b51), .val (.int (0 : Int32)), .val (.int (0 : Int32)), .val (.int (0 : Int32))] [(.ref b51)])
        obtain ⟨cq64, kq64, q64a, q64b, q64c⟩ := isOf hZ rfl P61_0
        obtain ⟨_, _, ⟨T64, L64, k64, n64⟩, -, X64, ⟨Lc64, hQ64, l64, y64, z64⟩, st64⟩ := X61.virtualBack hx (y := (⟨"com/example/eventail/eventail/DeliveryCount", "begun", "()J"⟩ : MethodName)) (z := (⟨"com/example/eventail/eventail/DeliveryCount", "begun", "()J"⟩ : MethodName)) hown (mvT hZ (W 18 rfl)) (mvT hZ (W 19 rfl)) (notFace_of_selects (args := #[]) (mvT hZ (W 21 rfl))) (mvT hZ (W 21 rfl)) (mvT hZ (W 20 rfl)) (by decide) (backOf (W := 0) (rm4 l Z a0 hw [] b51 (2 : Int64) T61.heap n0 Z0_c62 F_begun_e63) hZ (W 22 rfl) (W 2 rfl) (by decide) (by decide)) q64a q64c (g := (mkF m 133 #[.val (.int p1), .val (.int (0 : Int32)), .val (.int (1 : Int32)), .val (.int (0 : Int32)), .val (.ref b51), .val (.int (0 : Int32)), .val (.int (0 : Int32)), .val (.int (0 : Int32))] [(.ref b51)])) rfl (by rw [hml]; rfl) (Steps.refl _) (argsL := []) (rest := []) (lenOf pd_3 rfl) rfl (by show 2 * 0 + _ ≤ _; exact Nat.le_of_eq rfl) (hb hby at_133) (fun _ _ => ⟨rfl, rfl, (by decide : 1 + 0 ≤ _), (by decide : 16 + 0 ≤ _)⟩)
        dsimp only [Pt.U, Pt.locs, Pt.cells, Pt.slots] at X64 l64 y64 z64 st64 hQ64
        subst l64 y64 z64
        obtain ⟨rfl, N64q, e64⟩ := hQ64
        have N64 := Fr.app N61 N64q
        refine own_goT st64 ?_
        show own_Run p e below _ T64 (mkF m 136 #[.val (.int p1), .val (.int (0 : Int32)), .val (.int (1 : Int32)), .val (.int (0 : Int32)), .val (.ref b51), .val (.int (0 : Int32)), .val (.int (0 : Int32)), .val (.int (0 : Int32))] [(.long (2 : Int64))])
        refine own_go (X64.ldc2Long hx hown (mvT hZ (W 33 rfl)) (g := (mkF m 136 #[.val (.int p1), .val (.int (0 : Int32)), .val (.int (1 : Int32)), .val (.int (0 : Int32)), .val (.ref b51), .val (.int (0 : Int32)), .val (.int (0 : Int32)), .val (.int (0 : Int32))] [(.long (2 : Int64))])) rfl (hb hby at_136)) ?_
        show own_Run p e below _ T64 (mkF m 139 #[.val (.int p1), .val (.int (0 : Int32)), .val (.int (1 : Int32)), .val (.int (0 : Int32)), .val (.ref b51), .val (.int (0 : Int32)), .val (.int (0 : Int32)), .val (.int (0 : Int32))] [(.long (2 : Int64)), (.long (2 : Int64))])
        refine own_go (fun _ k => XS.lcmp X64.here hx rfl (hb hby at_139) rfl k) ?_
        show own_Run p e below _ T64 (mkF m 140 #[.val (.int p1), .val (.int (0 : Int32)), .val (.int (1 : Int32)), .val (.int (0 : Int32)), .val (.ref b51), .val (.int (0 : Int32)), .val (.int (0 : Int32)), .val (.int (0 : Int32))] [(.int (lcmpW (2 : Int64) (2 : Int64)))])
        refine own_go (fun _ k => XS.ifYes X64.here hx rfl (pc0 := 140) (pc' := 145) rfl (hb hby at_140) rfl (own_lcTe (by decide : (2 : Int64) = (2 : Int64))).1 (by decide) (by decide) k) ?_
        show own_Run p e below _ T64 (mkF m 145 #[.val (.int p1), .val (.int (0 : Int32)), .val (.int (1 : Int32)), .val (.int (0 : Int32)), .val (.ref b51), .val (.int (0 : Int32)), .val (.int (0 : Int32)), .val (.int (0 : Int32))] [])
        refine own_go (fun _ k => XS.aload X64.here hx rfl (hb hby at_145) rfl rfl k) ?_
        show own_Run p e below _ T64 (mkF m 147 #[.val (.int p1), .val (.int (0 : Int32)), .val (.int (1 : Int32)), .val (.int (0 : Int32)), .val (.ref b51), .val (.int (0 : Int32)), .val (.int (0 : Int32)), .val (.int (0 : Int32))] [(.ref b51)])
        obtain ⟨cq65, kq65, q65a, q65b, q65c⟩ := isOf hZ e64 P61_0
        obtain ⟨_, _, ⟨T65, L65, k65, n65⟩, -, X65, ⟨Lc65, hQ65, l65, y65, z65⟩, st65⟩ := X64.virtualBack hx (y := (⟨"com/example/eventail/eventail/DeliveryCount", "isRoomWanted", "()Z"⟩ : MethodName)) (z := (⟨"com/example/eventail/eventail/DeliveryCount", "isRoomWanted", "()Z"⟩ : MethodName)) hown (mvT hZ (W 23 rfl)) (mvT hZ (W 24 rfl)) (notFace_of_selects (args := #[]) (mvT hZ (W 26 rfl))) (mvT hZ (W 26 rfl)) (mvT hZ (W 25 rfl)) (by decide) (backOf (W := 0) (rm5 l Z a0 hw [] b51 (0 : Int64) (0 : Int32) T61.heap n0 Z0_c62 P61_1 (Or.inl ⟨rfl, rfl⟩)) hZ (W 27 rfl) (W 2 rfl) (by decide) (by decide)) q65a q65c (g := (mkF m 147 #[.val (.int p1), .val (.int (0 : Int32)), .val (.int (1 : Int32)), .val (.int (0 : Int32)), .val (.ref b51), .val (.int (0 : Int32)), .val (.int (0 : Int32)), .val (.int (0 : Int32))] [(.ref b51)])) rfl (by rw [hml]; rfl) (Steps.refl _) (argsL := []) (rest := []) (lenOf pd_2 rfl) rfl (by show 2 * 0 + _ ≤ _; exact Nat.le_of_eq rfl) (hb hby at_147) (fun _ _ => ⟨rfl, e64, (by decide : 1 + 0 ≤ _), (by decide : 16 + 0 ≤ _)⟩)
        dsimp only [Pt.U, Pt.locs, Pt.cells, Pt.slots] at X65 l65 y65 z65 st65 hQ65
        subst l65 y65 z65
        obtain ⟨rfl, N65q, e65⟩ := hQ65
        have N65 := Fr.app N64 N65q
        refine own_goT st65 ?_
        show own_Run p e below _ T65 (mkF m 150 #[.val (.int p1), .val (.int (0 : Int32)), .val (.int (1 : Int32)), .val (.int (0 : Int32)), .val (.ref b51), .val (.int (0 : Int32)), .val (.int (0 : Int32)), .val (.int (0 : Int32))] [(.int (0 : Int32))])
        refine own_go (fun _ k => XS.iloadN X65.here hx rfl (hb hby at_150) rfl k) ?_
        show own_Run p e below _ T65 (mkF m 151 #[.val (.int p1), .val (.int (0 : Int32)), .val (.int (1 : Int32)), .val (.int (0 : Int32)), .val (.ref b51), .val (.int (0 : Int32)), .val (.int (0 : Int32)), .val (.int (0 : Int32))] [(.int (0 : Int32)), (.int (0 : Int32))])
        refine own_go (fun _ k => XS.icmpNo X65.here hx rfl (hb hby at_151) rfl (teq (by decide : (0 : Int32) = (0 : Int32))).2 k) ?_
        show own_Run p e below _ T65 (mkF m 154 #[.val (.int p1), .val (.int (0 : Int32)), .val (.int (1 : Int32)), .val (.int (0 : Int32)), .val (.ref b51), .val (.int (0 : Int32)), .val (.int (0 : Int32)), .val (.int (0 : Int32))] [])
        refine own_go (fun _ k => XS.iconst X65.here hx rfl (hb hby at_154) k) ?_
        refine own_go (fun _ k => XS.goto X65.here hx rfl (pc0 := 155) (pc' := 159) rfl (hb hby at_155) (by decide) (by decide) k) ?_
        show own_Run p e below _ T65 (mkF m 159 #[.val (.int p1), .val (.int (0 : Int32)), .val (.int (1 : Int32)), .val (.int (0 : Int32)), .val (.ref b51), .val (.int (0 : Int32)), .val (.int (0 : Int32)), .val (.int (0 : Int32))] [(.int (1 : Int32))])
        refine own_done (Q := fun v h L => Q0 Z p1 h0 n0 v h L) (v := (some (.int (1 : Int32)))) X65 (fun h => by rw [hret] at h; cases h) hlk (fun fs hr => retN X65 hx (t := .boolean) hret (by simp) (hb hby at_159) hr) ?_ (by decide) (by decide)
        show Q0 Z p1 h0 n0 _ T65.heap _
        rw [e65]
        exact ⟨rfl, N65⟩
      · refine own_go (fun _ k => XS.ifNo X0.here hx rfl (hb hby at_27) rfl ((if0 _ _).trans (feq hc27_50).1) k) ?_
        show own_Run p e below _ s₁ (mkF m 30 #[.val (.int p1), .val (.int (0 : Int32)), .val (.int (1 : Int32)), .unset, .unset, .unset, .unset, .unset] [])
        refine own_go (fun _ k => XS.iconst X0.here hx rfl (hb hby at_30) k) ?_
        refine own_go (fun _ k => XS.goto X0.here hx rfl (pc0 := 31) (pc' := 35) rfl (hb hby at_31) (by decide) (by decide) k) ?_
        refine own_go (fun _ k => XS.istoreN X0.here hx rfl (hb hby at_35) rfl (l' := #[.val (.int p1), .val (.int (0 : Int32)), .val (.int (1 : Int32)), .val (.int (1 : Int32)), .unset, .unset, .unset, .unset]) rfl k) ?_
        show own_Run p e below _ s₁ (mkF m 36 #[.val (.int p1), .val (.int (0 : Int32)), .val (.int (1 : Int32)), .val (.int (1 : Int32)), .unset, .unset, .unset, .unset] [])
        obtain ⟨T66, h66, X66, e66, E66, A66, D66, -, st66⟩ := newO X0 hx hZ hown (W 0 rfl) (W 1 rfl) (W 2 rfl) e0 (g := (mkF m 36 #[.val (.int p1), .val (.int (0 : Int32)), .val (.int (1 : Int32)), .val (.int (1 : Int32)), .unset, .unset, .unset, .unset] [])) rfl (hb hby at_36) (by decide) (by decide)
        refine own_go st66 ?_
        obtain ⟨b66, g66⟩ : ∃ z, z = h0.size := ⟨_, rfl⟩
        rw [← g66] at A66 D66
        rw [← g66]
        show own_Run p e below _ T66 (mkF m 39 #[.val (.int p1), .val (.int (0 : Int32)), .val (.int (1 : Int32)), .val (.int (1 : Int32)), .unset, .unset, .unset, .unset] [(.ref b66)])
        have g_b66 : n0 ≤ b66 := Nat.le_trans Z0 (Nat.le_of_eq g66.symm)
        have sz_b66 : h0.size ≤ b66 := Nat.le_trans K0.1 (Nat.le_of_eq g66.symm)
        have Z0_c67 := Nat.le_trans Z0 E66.1
        have K0_c67 := K0.ext E66
        have F_begun_b66 : Fld Z h66 b66 "com/example/eventail/eventail/DeliveryCount" "begun" "J" (.long (0 : Int64)) := D66 (Or.inl (W 15 rfl)) (ty := .long) (by decide)
        have F_roomWanted_b66 : Fld Z h66 b66 "com/example/eventail/eventail/DeliveryCount" "roomWanted" "J" (.long (0 : Int64)) := D66 (Or.inl (W 17 rfl)) (ty := .long) (by decide)
        refine own_go (fun _ k => XS.dup X66.here hx rfl (hb hby at_39) rfl rfl k) ?_
        show own_Run p e below _ T66 (mkF m 40 #[.val (.int p1), .val (.int (0 : Int32)), .val (.int (1 : Int32)), .val (.int (1 : Int32)), .unset, .unset, .unset, .unset] [(.ref b66), (.ref b66)])
        obtain ⟨_, _, ⟨T68, L68, k68, n68⟩, -, X68, ⟨Lc68, hQ68, l68, y68, z68⟩, st68⟩ := X66.specialBack hx (y := (⟨"com/example/eventail/eventail/DeliveryCount", "<init>", "()V"⟩ : MethodName)) rfl hown (mvT hZ (W 3 rfl)) (mvT hZ (W 4 rfl)) (mvT hZ (W 5 rfl)) (by decide) (backOf (W := 1) (rm1 l Z a0 hw [] b66 h66 n0 Z0_c67 ) hZ (W 5 rfl) (W 2 rfl) (by decide) (by decide)) (g := (mkF m 40 #[.val (.int p1), .val (.int (0 : Int32)), .val (.int (1 : Int32)), .val (.int (1 : Int32)), .unset, .unset, .unset, .unset] [(.ref b66), (.ref b66)])) rfl (by rw [hml]; rfl) (Steps.refl _) (a := b66) (argsL := []) (rest := [(.ref b66)]) (lenOf pd_1 rfl) rfl (by show 2 * 0 + _ ≤ _; exact Nat.le_of_eq rfl) (hb hby at_40) (fun _ _ => ⟨rfl, e66, (by decide : 1 + 0 ≤ _), (by decide : 16 + 0 ≤ _)⟩)
        dsimp only [Pt.U, Pt.locs, Pt.cells, Pt.slots] at X68 l68 y68 z68 st68 hQ68
        subst l68 y68 z68
        obtain ⟨rfl, N68q, e68⟩ := hQ68
        have N68 := Fr.app N0 N68q
        refine own_goT st68 ?_
        show own_Run p e below _ T68 (mkF m 43 #[.val (.int p1), .val (.int (0 : Int32)), .val (.int (1 : Int32)), .val (.int (1 : Int32)), .unset, .unset, .unset, .unset] [(.ref b66)])
        refine own_go (fun _ k => XS.astore X68.here hx rfl (hb hby at_43) rfl rfl (l' := #[.val (.int p1), .val (.int (0 : Int32)), .val (.int (1 : Int32)), .val (.int (1 : Int32)), .val (.ref b66), .unset, .unset, .unset]) rfl k) ?_
        refine own_go (fun _ k => XS.iloadN X68.here hx rfl (hb hby at_45) rfl k) ?_
        show own_Run p e below _ T68 (mkF m 46 #[.val (.int p1), .val (.int (0 : Int32)), .val (.int (1 : Int32)), .val (.int (1 : Int32)), .val (.ref b66), .unset, .unset, .unset] [(.int (0 : Int32))])
        refine own_go (fun _ k => XS.ifYes X68.here hx rfl (pc0 := 46) (pc' := 55) rfl (hb hby at_46) rfl ((if0 _ _).trans (teq (by decide : (0 : Int32) = (0 : Int32))).1) (by decide) (by decide) k) ?_
        show own_Run p e below _ T68 (mkF m 55 #[.val (.int p1), .val (.int (0 : Int32)), .val (.int (1 : Int32)), .val (.int (1 : Int32)), .val (.ref b66), .unset, .unset, .unset] [])
        refine own_go (fun _ k => XS.iloadN X68.here hx rfl (hb hby at_55) rfl k) ?_
        show own_Run p e below _ T68 (mkF m 56 #[.val (.int p1), .val (.int (0 : Int32)), .val (.int (1 : Int32)), .val (.int (1 : Int32)), .val (.ref b66), .unset, .unset, .unset] [(.int (0 : Int32))])
        refine own_go (fun _ k => XS.ifYes X68.here hx rfl (pc0 := 56) (pc' := 67) rfl (hb hby at_56) rfl ((if0 _ _).trans (teq (by decide : (0 : Int32) = (0 : Int32))).1) (by decide) (by decide) k) ?_
        show own_Run p e below _ T68 (mkF m 67 #[.val (.int p1), .val (.int (0 : Int32)), .val (.int (1 : Int32)), .val (.int (1 : Int32)), .val (.ref b66), .unset, .unset, .unset] [])
        refine own_go (fun _ k => XS.iconst X68.here hx rfl (hb hby at_67) k) ?_
        refine own_go (fun _ k => XS.istore X68.here hx rfl (hb hby at_68) rfl (l' := #[.val (.int p1), .val (.int (0 : Int32)), .val (.int (1 : Int32)), .val (.int (1 : Int32)), .val (.ref b66), .val (.int (0 : Int32)), .unset, .unset]) rfl k) ?_
        refine own_go (fun _ k => XS.aload X68.here hx rfl (hb hby at_70) rfl rfl k) ?_
        show own_Run p e below _ T68 (mkF m 72 #[.val (.int p1), .val (.int (0 : Int32)), .val (.int (1 : Int32)), .val (.int (1 : Int32)), .val (.ref b66), .val (.int (0 : Int32)), .unset, .unset] [(.ref b66)])
        obtain ⟨cq69, kq69, q69a, q69b, q69c⟩ := isOf hZ e68 A66
        obtain ⟨_, _, ⟨T69, L69, k69, n69⟩, -, X69, ⟨Lc69, hQ69, l69, y69, z69⟩, st69⟩ := X68.virtualBack hx (y := (⟨"com/example/eventail/eventail/DeliveryCount", "deliveryBegins", "()Z"⟩ : MethodName)) (z := (⟨"com/example/eventail/eventail/DeliveryCount", "deliveryBegins", "()Z"⟩ : MethodName)) hown (mvT hZ (W 9 rfl)) (mvT hZ (W 10 rfl)) (notFace_of_selects (args := #[]) (mvT hZ (W 12 rfl))) (mvT hZ (W 12 rfl)) (mvT hZ (W 11 rfl)) (by decide) (backOf (W := 0) (rm3 l Z a0 hw [] b66 (0 : Int64) (0 : Int32) (0 : Int64) h66 n0 Z0_c67 A66 F_roomWanted_b66 F_begun_b66 g_b66 (Or.inl ⟨rfl, rfl⟩)) hZ (W 13 rfl) (W 2 rfl) (by decide) (by decide)) q69a q69c (g := (mkF m 72 #[.val (.int p1), .val (.int (0 : Int32)), .val (.int (1 : Int32)), .val (.int (1 : Int32)), .val (.ref b66), .val (.int (0 : Int32)), .unset, .unset] [(.ref b66)])) rfl (by rw [hml]; rfl) (Steps.refl _) (argsL := []) (rest := []) (lenOf pd_2 rfl) rfl (by show 2 * 0 + _ ≤ _; exact Nat.le_of_eq rfl) (hb hby at_72) (fun _ _ => ⟨rfl, e68, (by decide : 1 + 0 ≤ _), (by decide : 16 + 0 ≤ _)⟩)
        dsimp only [Pt.U, Pt.locs, Pt.cells, Pt.slots] at X69 l69 y69 z69 st69 hQ69
        subst l69 y69 z69
        obtain ⟨rfl, N69q, K69, P69_0, P69_1, P69_2⟩ := hQ69
        have N69 := Fr.app N68 N69q
        refine own_goT st69 ?_
        show own_Run p e below _ T69 (mkF m 75 #[.val (.int p1), .val (.int (0 : Int32)), .val (.int (1 : Int32)), .val (.int (1 : Int32)), .val (.ref b66), .val (.int (0 : Int32)), .unset, .unset] [(.int (0 : Int32))])
        have Z0_c70 := Nat.le_trans Z0_c67 K69.1
        have K0_c70 := K0_c67.trans K69 (allS (Or.inr sz_b66) all0)
        have A66_c70 := A66.keep K69
        have F_begun_e71 : Fld Z T69.heap b66 "com/example/eventail/eventail/DeliveryCount" "begun" "J" (.long (1 : Int64)) := P69_2
        refine own_go (fun _ k => XS.istore X69.here hx rfl (hb hby at_75) rfl (l' := #[.val (.int p1), .val (.int (0 : Int32)), .val (.int (1 : Int32)), .val (.int (1 : Int32)), .val (.ref b66), .val (.int (0 : Int32)), .val (.int (0 : Int32)), .unset]) rfl k) ?_
        refine own_go (fun _ k => XS.iload X69.here hx rfl (hb hby at_77) rfl k) ?_
        refine own_go (fun _ k => XS.iload X69.here hx rfl (hb hby at_79) rfl k) ?_
        show own_Run p e below _ T69 (mkF m 81 #[.val (.int p1), .val (.int (0 : Int32)), .val (.int (1 : Int32)), .val (.int (1 : Int32)), .val (.ref b66), .val (.int (0 : Int32)), .val (.int (0 : Int32)), .unset] [(.int (0 : Int32)), (.int (0 : Int32))])
        refine own_go (fun _ k => XS.icmpYes X69.here hx rfl (pc0 := 81) (pc' := 86) rfl (hb hby at_81) rfl (teq (by decide : (0 : Int32) = (0 : Int32))).1 (by decide) (by decide) k) ?_
        show own_Run p e below _ T69 (mkF m 86 #[.val (.int p1), .val (.int (0 : Int32)), .val (.int (1 : Int32)), .val (.int (1 : Int32)), .val (.ref b66), .val (.int (0 : Int32)), .val (.int (0 : Int32)), .unset] [])
        refine own_go (fun _ k => XS.aload X69.here hx rfl (hb hby at_86) rfl rfl k) ?_
        show own_Run p e below _ T69 (mkF m 88 #[.val (.int p1), .val (.int (0 : Int32)), .val (.int (1 : Int32)), .val (.int (1 : Int32)), .val (.ref b66), .val (.int (0 : Int32)), .val (.int (0 : Int32)), .unset] [(.ref b66)])
        obtain ⟨cq72, kq72, q72a, q72b, q72c⟩ := isOf hZ rfl P69_0
        obtain ⟨_, _, ⟨T72, L72, k72, n72⟩, -, X72, ⟨Lc72, hQ72, l72, y72, z72⟩, st72⟩ := X69.virtualBack hx (y := (⟨"com/example/eventail/eventail/DeliveryCount", "begun", "()J"⟩ : MethodName)) (z := (⟨"com/example/eventail/eventail/DeliveryCount", "begun", "()J"⟩ : MethodName)) hown (mvT hZ (W 18 rfl)) (mvT hZ (W 19 rfl)) (notFace_of_selects (args := #[]) (mvT hZ (W 21 rfl))) (mvT hZ (W 21 rfl)) (mvT hZ (W 20 rfl)) (by decide) (backOf (W := 0) (rm4 l Z a0 hw [] b66 (1 : Int64) T69.heap n0 Z0_c70 F_begun_e71) hZ (W 22 rfl) (W 2 rfl) (by decide) (by decide)) q72a q72c (g := (mkF m 88 #[.val (.int p1), .val (.int (0 : Int32)), .val (.int (1 : Int32)), .val (.int (1 : Int32)), .val (.ref b66), .val (.int (0 : Int32)), .val (.int (0 : Int32)), .unset] [(.ref b66)])) rfl (by rw [hml]; rfl) (Steps.refl _) (argsL := []) (rest := []) (lenOf pd_3 rfl) rfl (by show 2 * 0 + _ ≤ _; exact Nat.le_of_eq rfl) (hb hby at_88) (fun _ _ => ⟨rfl, rfl, (by decide : 1 + 0 ≤ _), (by decide : 16 + 0 ≤ _)⟩)
        dsimp only [Pt.U, Pt.locs, Pt.cells, Pt.slots] at X72 l72 y72 z72 st72 hQ72
        subst l72 y72 z72
        obtain ⟨rfl, N72q, e72⟩ := hQ72
        have N72 := Fr.app N69 N72q
        refine own_goT st72 ?_
        show own_Run p e below _ T72 (mkF m 91 #[.val (.int p1), .val (.int (0 : Int32)), .val (.int (1 : Int32)), .val (.int (1 : Int32)), .val (.ref b66), .val (.int (0 : Int32)), .val (.int (0 : Int32)), .unset] [(.long (1 : Int64))])
        refine own_go (fun _ k => XS.lconst X72.here hx rfl (hb hby at_91) k) ?_
        refine own_go (fun _ k => XS.lcmp X72.here hx rfl (hb hby at_92) rfl k) ?_
        show own_Run p e below _ T72 (mkF m 93 #[.val (.int p1), .val (.int (0 : Int32)), .val (.int (1 : Int32)), .val (.int (1 : Int32)), .val (.ref b66), .val (.int (0 : Int32)), .val (.int (0 : Int32)), .unset] [(.int (lcmpW (1 : Int64) (1 : Int64)))])
        refine own_go (fun _ k => XS.ifYes X72.here hx rfl (pc0 := 93) (pc' := 98) rfl (hb hby at_93) rfl (own_lcTe (by decide : (1 : Int64) = (1 : Int64))).1 (by decide) (by decide) k) ?_
        show own_Run p e below _ T72 (mkF m 98 #[.val (.int p1), .val (.int (0 : Int32)), .val (.int (1 : Int32)), .val (.int (1 : Int32)), .val (.ref b66), .val (.int (0 : Int32)), .val (.int (0 : Int32)), .unset] [])
        refine own_go (fun _ k => XS.aload X72.here hx rfl (hb hby at_98) rfl rfl k) ?_
        show own_Run p e below _ T72 (mkF m 100 #[.val (.int p1), .val (.int (0 : Int32)), .val (.int (1 : Int32)), .val (.int (1 : Int32)), .val (.ref b66), .val (.int (0 : Int32)), .val (.int (0 : Int32)), .unset] [(.ref b66)])
        obtain ⟨cq73, kq73, q73a, q73b, q73c⟩ := isOf hZ e72 P69_0
        obtain ⟨_, _, ⟨T73, L73, k73, n73⟩, -, X73, ⟨Lc73, hQ73, l73, y73, z73⟩, st73⟩ := X72.virtualBack hx (y := (⟨"com/example/eventail/eventail/DeliveryCount", "isRoomWanted", "()Z"⟩ : MethodName)) (z := (⟨"com/example/eventail/eventail/DeliveryCount", "isRoomWanted", "()Z"⟩ : MethodName)) hown (mvT hZ (W 23 rfl)) (mvT hZ (W 24 rfl)) (notFace_of_selects (args := #[]) (mvT hZ (W 26 rfl))) (mvT hZ (W 26 rfl)) (mvT hZ (W 25 rfl)) (by decide) (backOf (W := 0) (rm5 l Z a0 hw [] b66 (0 : Int64) (0 : Int32) T69.heap n0 Z0_c70 P69_1 (Or.inl ⟨rfl, rfl⟩)) hZ (W 27 rfl) (W 2 rfl) (by decide) (by decide)) q73a q73c (g := (mkF m 100 #[.val (.int p1), .val (.int (0 : Int32)), .val (.int (1 : Int32)), .val (.int (1 : Int32)), .val (.ref b66), .val (.int (0 : Int32)), .val (.int (0 : Int32)), .unset] [(.ref b66)])) rfl (by rw [hml]; rfl) (Steps.refl _) (argsL := []) (rest := []) (lenOf pd_2 rfl) rfl (by show 2 * 0 + _ ≤ _; exact Nat.le_of_eq rfl) (hb hby at_100) (fun _ _ => ⟨rfl, e72, (by decide : 1 + 0 ≤ _), (by decide : 16 + 0 ≤ _)⟩)
        dsimp only [Pt.U, Pt.locs, Pt.cells, Pt.slots] at X73 l73 y73 z73 st73 hQ73
        subst l73 y73 z73
        obtain ⟨rfl, N73q, e73⟩ := hQ73
        have N73 := Fr.app N72 N73q
        refine own_goT st73 ?_
        show own_Run p e below _ T73 (mkF m 103 #[.val (.int p1), .val (.int (0 : Int32)), .val (.int (1 : Int32)), .val (.int (1 : Int32)), .val (.ref b66), .val (.int (0 : Int32)), .val (.int (0 : Int32)), .unset] [(.int (0 : Int32))])
        refine own_go (fun _ k => XS.iload X73.here hx rfl (hb hby at_103) rfl k) ?_
        show own_Run p e below _ T73 (mkF m 105 #[.val (.int p1), .val (.int (0 : Int32)), .val (.int (1 : Int32)), .val (.int (1 : Int32)), .val (.ref b66), .val (.int (0 : Int32)), .val (.int (0 : Int32)), .unset] [(.int (0 : Int32)), (.int (0 : Int32))])
        refine own_go (fun _ k => XS.icmpYes X73.here hx rfl (pc0 := 105) (pc' := 110) rfl (hb hby at_105) rfl (teq (by decide : (0 : Int32) = (0 : Int32))).1 (by decide) (by decide) k) ?_
        show own_Run p e below _ T73 (mkF m 110 #[.val (.int p1), .val (.int (0 : Int32)), .val (.int (1 : Int32)), .val (.int (1 : Int32)), .val (.ref b66), .val (.int (0 : Int32)), .val (.int (0 : Int32)), .unset] [])
        refine own_go (fun _ k => XS.aload X73.here hx rfl (hb hby at_110) rfl rfl k) ?_
        refine own_go (fun _ k => XS.iloadN X73.here hx rfl (hb hby at_112) rfl k) ?_
        show own_Run p e below _ T73 (mkF m 113 #[.val (.int p1), .val (.int (0 : Int32)), .val (.int (1 : Int32)), .val (.int (1 : Int32)), .val (.ref b66), .val (.int (0 : Int32)), .val (.int (0 : Int32)), .unset] [(.int (1 : Int32)), (.ref b66)])
        obtain ⟨cq74, kq74, q74a, q74b, q74c⟩ := isOf hZ e73 P69_0
        obtain ⟨_, _, ⟨T74, L74, k74, n74⟩, -, X74, ⟨Lc74, hQ74, l74, y74, z74⟩, st74⟩ := X73.virtualBack hx (y := (⟨"com/example/eventail/eventail/DeliveryCount", "setRoomWanted", "(Z)V"⟩ : MethodName)) (z := (⟨"com/example/eventail/eventail/DeliveryCount", "setRoomWanted", "(Z)V"⟩ : MethodName)) hown (mvT hZ (W 28 rfl)) (mvT hZ (W 29 rfl)) (notFace_of_selects (args := #[]) (mvT hZ (W 31 rfl))) (mvT hZ (W 31 rfl)) (mvT hZ (W 30 rfl)) (by decide) (backOf (W := 0) (rm6 l Z a0 hw [] b66 (1 : Int32) (0 : Int64) (1 : Int64) (1 : Int64) T69.heap n0 Z0_c70 P69_0 P69_1 F_begun_e71 g_b66 (Or.inr ⟨rfl, rfl⟩)) hZ (W 32 rfl) (W 2 rfl) (by decide) (by decide)) q74a q74c (g := (mkF m 113 #[.val (.int p1), .val (.int (0 : Int32)), .val (.int (1 : Int32)), .val (.int (1 : Int32)), .val (.ref b66), .val (.int (0 : Int32)), .val (.int (0 : Int32)), .unset] [(.int (1 : Int32)), (.ref b66)])) rfl (by rw [hml]; rfl) (Steps.refl _) (argsL := [(.int (1 : Int32))]) (rest := []) (lenOf pd_4 rfl) rfl (by show 2 * 0 + _ ≤ _; exact Nat.le_of_eq rfl) (hb hby at_113) (fun _ _ => ⟨rfl, e73, (by decide : 1 + 0 ≤ _), (by decide : 16 + 0 ≤ _)⟩)
        dsimp only [Pt.U, Pt.locs, Pt.cells, Pt.slots] at X74 l74 y74 z74 st74 hQ74
        subst l74 y74 z74
        obtain ⟨rfl, N74q, K74, P74_0, P74_1, P74_2⟩ := hQ74
        have N74 := Fr.app N73 N74q
        refine own_goT st74 ?_
        show own_Run p e below _ T74 (mkF m 116 #[.val (.int p1), .val (.int (0 : Int32)), .val (.int (1 : Int32)), .val (.int (1 : Int32)), .val (.ref b66), .val (.int (0 : Int32)), .val (.int (0 : Int32)), .unset] [])
        have Z0_c75 := Nat.le_trans Z0_c70 K74.1
        have K0_c75 := K0_c70.trans K74 (allS (Or.inr sz_b66) all0)
        have P69_0_c75 := P69_0.keep K74
        refine own_go (fun _ k => XS.aload X74.here hx rfl (hb hby at_116) rfl rfl k) ?_
        show own_Run p e below _ T74 (mkF m 118 #[.val (.int p1), .val (.int (0 : Int32)), .val (.int (1 : Int32)), .val (.int (1 : Int32)), .val (.ref b66), .val (.int (0 : Int32)), .val (.int (0 : Int32)), .unset] [(.ref b66)])
        obtain ⟨cq76, kq76, q76a, q76b, q76c⟩ := isOf hZ rfl P74_0
        obtain ⟨_, _, ⟨T76, L76, k76, n76⟩, -, X76, ⟨Lc76, hQ76, l76, y76, z76⟩, st76⟩ := X74.virtualBack hx (y := (⟨"com/example/eventail/eventail/DeliveryCount", "deliveryBegins", "()Z"⟩ : MethodName)) (z := (⟨"com/example/eventail/eventail/DeliveryCount", "deliveryBegins", "()Z"⟩ : MethodName)) hown (mvT hZ (W 9 rfl)) (mvT hZ (W 10 rfl)) (notFace_of_selects (args := #[]) (mvT hZ (W 12 rfl))) (mvT hZ (W 12 rfl)) (mvT hZ (W 11 rfl)) (by decide) (backOf (W := 0) (rm3 l Z a0 hw [] b66 (1 : Int64) (1 : Int32) (1 : Int64) T74.heap n0 Z0_c75 P74_0 P74_1 P74_2 g_b66 (Or.inr ⟨rfl, rfl⟩)) hZ (W 13 rfl) (W 2 rfl) (by decide) (by decide)) q76a q76c (g := (mkF m 118 #[.val (.int p1), .val (.int (0 : Int32)), .val (.int (1 : Int32)), .val (.int (1 : Int32)), .val (.ref b66), .val (.int (0 : Int32)), .val (.int (0 : Int32)), .unset] [(.ref b66)])) rfl (by rw [hml]; rfl) (Steps.refl _) (argsL := []) (rest := []) (lenOf pd_2 rfl) rfl (by show 2 * 0 + _ ≤ _; exact Nat.le_of_eq rfl) (hb hby at_118) (fun _ _ => ⟨rfl, rfl, (by decide : 1 + 0 ≤ _), (by decide : 16 + 0 ≤ _)⟩)
        dsimp only [Pt.U, Pt.locs, Pt.cells, Pt.slots] at X76 l76 y76 z76 st76 hQ76
        subst l76 y76 z76
        obtain ⟨rfl, N76q, K76, P76_0, P76_1, P76_2⟩ := hQ76
        have N76 := Fr.app N74 N76q
        refine own_goT st76 ?_
        show own_Run p e below _ T76 (mkF m 121 #[.val (.int p1), .val (.int (0 : Int32)), .val (.int (1 : Int32)), .val (.int (1 : Int32)), .val (.ref b66), .val (.int (0 : Int32)), .val (.int (0 : Int32)), .unset] [(.int (1 : Int32))])
        have Z0_c77 := Nat.le_trans Z0_c75 K76.1
        have K0_c77 := K0_c75.trans K76 (allS (Or.inr sz_b66) all0)
        have P74_0_c77 := P74_0.keep K76
        have F_begun_e78 : Fld Z T76.heap b66 "com/example/eventail/eventail/DeliveryCount" "begun" "J" (.long (2 : Int64)) := P76_2
        refine own_go (fun _ k => XS.istore X76.here hx rfl (hb hby at_121) rfl (l' := #[.val (.int p1), .val (.int (0 : Int32)), .val (.int (1 : Int32)), .val (.int (1 : Int32)), .val (.ref b66), .val (.int (0 : Int32)), .val (.int (0 : Int32)), .val (.int (1 : Int32))]) rfl k) ?_
        refine own_go (fun _ k => XS.iload X76.here hx rfl (hb hby at_123) rfl k) ?_
        refine own_go (fun _ k => XS.iloadN X76.here hx rfl (hb hby at_125) rfl k) ?_
        show own_Run p e below _ T76 (mkF m 126 #[.val (.int p1), .val (.int (0 : Int32)), .val (.int (1 : Int32)), .val (.int (1 : Int32)), .val (.ref b66), .val (.int (0 : Int32)), .val (.int (0 : Int32)), .val (.int (1 : Int32))] [(.int (1 : Int32)), (.int (1 : Int32))])
        refine own_go (fun _ k => XS.icmpYes X76.here hx rfl (pc0 := 126) (pc' := 131) rfl (hb hby at_126) rfl (teq (by decide : (1 : Int32) = (1 : Int32))).1 (by decide) (by decide) k) ?_
        show own_Run p e below _ T76 (mkF m 131 #[.val (.int p1), .val (.int (0 : Int32)), .val (.int (1 : Int32)), .val (.int (1 : Int32)), .val (.ref b66), .val (.int (0 : Int32)), .val (.int (0 : Int32)), .val (.int (1 : Int32))] [])
        refine own_go (fun _ k => XS.aload X76.here hx rfl (hb hby at_131) rfl rfl k) ?_
        show own_Run p e below _ T76 (mkF m 133 #[.val (.int p1), .val (.int (0 : Int32)), .val (.int (1 : Int32)), .val (.int (1 : Int32)), .val (.ref b66), .val (.int (0 : Int32)), .val (.int (0 : Int32)), .val (.int (1 : Int32))] [(.ref b66)])
        obtain ⟨cq79, kq79, q79a, q79b, q79c⟩ := isOf hZ rfl P76_0
        obtain ⟨_, _, ⟨T79, L79, k79, n79⟩, -, X79, ⟨Lc79, hQ79, l79, y79, z79⟩, st79⟩ := X76.virtualBack hx (y := (⟨"com/example/eventail/eventail/DeliveryCount", "begun", "()J"⟩ : MethodName)) (z := (⟨"com/example/eventail/eventail/DeliveryCount", "begun", "()J"⟩ : MethodName)) hown (mvT hZ (W 18 rfl)) (mvT hZ (W 19 rfl)) (notFace_of_selects (args := #[]) (mvT hZ (W 21 rfl))) (mvT hZ (W 21 rfl)) (mvT hZ (W 20 rfl)) (by decide) (backOf (W := 0) (rm4 l Z a0 hw [] b66 (2 : Int64) T76.heap n0 Z0_c77 F_begun_e78) hZ (W 22 rfl) (W 2 rfl) (by decide) (by decide)) q79a q79c (g := (mkF m 133 #[.val (.int p1), .val (.int (0 : Int32)), .val (.int (1 : Int32)), .val (.int (1 : Int32)), .val (.ref b66), .val (.int (0 : Int32)), .val (.int (0 : Int32)), .val (.int (1 : Int32))] [(.ref b66)])) rfl (by rw [hml]; rfl) (Steps.refl _) (argsL := []) (rest := []) (lenOf pd_3 rfl) rfl (by show 2 * 0 + _ ≤ _; exact Nat.le_of_eq rfl) (hb hby at_133) (fun _ _ => ⟨rfl, rfl, (by decide : 1 + 0 ≤ _), (by decide : 16 + 0 ≤ _)⟩)
        dsimp only [Pt.U, Pt.locs, Pt.cells, Pt.slots] at X79 l79 y79 z79 st79 hQ79
        subst l79 y79 z79
        obtain ⟨rfl, N79q, e79⟩ := hQ79
        have N79 := Fr.app N76 N79q
        refine own_goT st79 ?_
        show own_Run p e below _ T79 (mkF m 136 #[.val (.int p1), .val (.int (0 : Int32)), .val (.int (1 : Int32)), .val (.int (1 : Int32)), .val (.ref b66), .val (.int (0 : Int32)), .val (.int (0 : Int32)), .val (.int (1 : Int32))] [(.long (2 : Int64))])
        refine own_go (X79.ldc2Long hx hown (mvT hZ (W 33 rfl)) (g := (mkF m 136 #[.val (.int p1), .val (.int (0 : Int32)), .val (.int (1 : Int32)), .val (.int (1 : Int32)), .val (.ref b66), .val (.int (0 : Int32)), .val (.int (0 : Int32)), .val (.int (1 : Int32))] [(.long (2 : Int64))])) rfl (hb hby at_136)) ?_
        show own_Run p e below _ T79 (mkF m 139 #[.val (.int p1), .val (.int (0 : Int32)), .val (.int (1 : Int32)), .val (.int (1 : Int32)), .val (.ref b66), .val (.int (0 : Int32)), .val (.int (0 : Int32)), .val (.int (1 : Int32))] [(.long (2 : Int64)), (.long (2 : Int64))])
        refine own_go (fun _ k => XS.lcmp X79.here hx rfl (hb hby at_139) rfl k) ?_
        show own_Run p e below _ T79 (mkF m 140 #[.val (.int p1), .val (.int (0 : Int32)), .val (.int (1 : Int32)), .val (.int (1 : Int32)), .val (.ref b66), .val (.int (0 : Int32)), .val (.int (0 : Int32)), .val (.int (1 : Int32))] [(.int (lcmpW (2 : Int64) (2 : Int64)))])
        refine own_go (fun _ k => XS.ifYes X79.here hx rfl (pc0 := 140) (pc' := 145) rfl (hb hby at_140) rfl (own_lcTe (by decide : (2 : Int64) = (2 : Int64))).1 (by decide) (by decide) k) ?_
        show own_Run p e below _ T79 (mkF m 145 #[.val (.int p1), .val (.int (0 : Int32)), .val (.int (1 : Int32)), .val (.int (1 : Int32)), .val (.ref b66), .val (.int (0 : Int32)), .val (.int (0 : Int32)), .val (.int (1 : Int32))] [])
        refine own_go (fun _ k => XS.aload X79.here hx rfl (hb hby at_145) rfl rfl k) ?_
        show own_Run p e below _ T79 (mkF m 147 #[.val (.int p1), .val (.int (0 : Int32)), .val (.int (1 : Int32)), .val (.int (1 : Int32)), .val (.ref b66), .val (.int (0 : Int32)), .val (.int (0 : Int32)), .val (.int (1 : Int32))] [(.ref b66)])
        obtain ⟨cq80, kq80, q80a, q80b, q80c⟩ := isOf hZ e79 P76_0
        obtain ⟨_, _, ⟨T80, L80, k80, n80⟩, -, X80, ⟨Lc80, hQ80, l80, y80, z80⟩, st80⟩ := X79.virtualBack hx (y := (⟨"com/example/eventail/eventail/DeliveryCount", "isRoomWanted", "()Z"⟩ : MethodName)) (z := (⟨"com/example/eventail/eventail/DeliveryCount", "isRoomWanted", "()Z"⟩ : MethodName)) hown (mvT hZ (W 23 rfl)) (mvT hZ (W 24 rfl)) (notFace_of_selects (args := #[]) (mvT hZ (W 26 rfl))) (mvT hZ (W 26 rfl)) (mvT hZ (W 25 rfl)) (by decide) (backOf (W := 0) (rm5 l Z a0 hw [] b66 (1 : Int64) (1 : Int32) T76.heap n0 Z0_c77 P76_1 (Or.inr ⟨rfl, rfl⟩)) hZ (W 27 rfl) (W 2 rfl) (by decide) (by decide)) q80a q80c (g := (mkF m 147 #[.val (.int p1), .val (.int (0 : Int32)), .val (.int (1 : Int32)), .val (.int (1 : Int32)), .val (.ref b66), .val (.int (0 : Int32)), .val (.int (0 : Int32)), .val (.int (1 : Int32))] [(.ref b66)])) rfl (by rw [hml]; rfl) (Steps.refl _) (argsL := []) (rest := []) (lenOf pd_2 rfl) rfl (by show 2 * 0 + _ ≤ _; exact Nat.le_of_eq rfl) (hb hby at_147) (fun _ _ => ⟨rfl, e79, (by decide : 1 + 0 ≤ _), (by decide : 16 + 0 ≤ _)⟩)
        dsimp only [Pt.U, Pt.locs, Pt.cells, Pt.slots] at X80 l80 y80 z80 st80 hQ80
        subst l80 y80 z80
        obtain ⟨rfl, N80q, e80⟩ := hQ80
        have N80 := Fr.app N79 N80q
        refine own_goT st80 ?_
        show own_Run p e below _ T80 (mkF m 150 #[.val (.int p1), .val (.int (0 : Int32)), .val (.int (1 : Int32)), .val (.int (1 : Int32)), .val (.ref b66), .val (.int (0 : Int32)), .val (.int (0 : Int32)), .val (.int (1 : Int32))] [(.int (1 : Int32))])
        refine own_go (fun _ k => XS.iloadN X80.here hx rfl (hb hby at_150) rfl k) ?_
        show own_Run p e below _ T80 (mkF m 151 #[.val (.int p1), .val (.int (0 : Int32)), .val (.int (1 : Int32)), .val (.int (1 : Int32)), .val (.ref b66), .val (.int (0 : Int32)), .val (.int (0 : Int32)), .val (.int (1 : Int32))] [(.int (1 : Int32)), (.int (1 : Int32))])
        refine own_go (fun _ k => XS.icmpNo X80.here hx rfl (hb hby at_151) rfl (teq (by decide : (1 : Int32) = (1 : Int32))).2 k) ?_
        show own_Run p e below _ T80 (mkF m 154 #[.val (.int p1), .val (.int (0 : Int32)), .val (.int (1 : Int32)), .val (.int (1 : Int32)), .val (.ref b66), .val (.int (0 : Int32)), .val (.int (0 : Int32)), .val (.int (1 : Int32))] [])
        refine own_go (fun _ k => XS.iconst X80.here hx rfl (hb hby at_154) k) ?_
        refine own_go (fun _ k => XS.goto X80.here hx rfl (pc0 := 155) (pc' := 159) rfl (hb hby at_155) (by decide) (by decide) k) ?_
        show own_Run p e below _ T80 (mkF m 159 #[.val (.int p1), .val (.int (0 : Int32)), .val (.int (1 : Int32)), .val (.int (1 : Int32)), .val (.ref b66), .val (.int (0 : Int32)), .val (.int (0 : Int32)), .val (.int (1 : Int32))] [(.int (1 : Int32))])
        refine own_done (Q := fun v h L => Q0 Z p1 h0 n0 v h L) (v := (some (.int (1 : Int32)))) X80 (fun h => by rw [hret] at h; cases h) hlk (fun fs hr => retN X80 hx (t := .boolean) hret (by simp) (hb hby at_159) hr) ?_ (by decide) (by decide)
        show Q0 Z p1 h0 n0 _ T80.heap _
        rw [e80]
        exact ⟨rfl, N80⟩
  · refine own_go (fun _ k => XS.ifNo X0.here hx rfl (hb hby at_3) rfl ((if0 _ _).trans (feq hc3_17).1) k) ?_
    show own_Run p e below _ s₁ (mkF m 6 #[.val (.int p1), .unset, .unset, .unset, .unset, .unset, .unset, .unset] [])
    refine own_go (fun _ k => XS.iconst X0.here hx rfl (hb hby at_6) k) ?_
    refine own_go (fun _ k => XS.goto X0.here hx rfl (pc0 := 7) (pc' := 11) rfl (hb hby at_7) (by decide) (by decide) k) ?_
    refine own_go (fun _ k => XS.istoreN X0.here hx rfl (hb hby at_11) rfl (l' := #[.val (.int p1), .val (.int (1 : Int32)), .unset, .unset, .unset, .unset, .unset, .unset]) rfl k) ?_
    refine own_go (fun _ k => XS.iloadN X0.here hx rfl (hb hby at_12) rfl k) ?_
    show own_Run p e below _ s₁ (mkF m 13 #[.val (.int p1), .val (.int (1 : Int32)), .unset, .unset, .unset, .unset, .unset, .unset] [(.int p1)])
    refine own_go (fun _ k => XS.iconst X0.here hx rfl (hb hby at_13) k) ?_
    refine own_go (fun _ k => XS.iand X0.here hx rfl (hb hby at_14) rfl k) ?_
    show own_Run p e below _ s₁ (mkF m 15 #[.val (.int p1), .val (.int (1 : Int32)), .unset, .unset, .unset, .unset, .unset, .unset] [(.int (p1 &&& (2 : Int32)))])
    by_cases hc15_81 : (p1 &&& (2 : Int32)) = (0 : Int32)
    · refine own_go (fun _ k => XS.ifYes X0.here hx rfl (pc0 := 15) (pc' := 22) rfl (hb hby at_15) rfl ((if0 _ _).trans (teq hc15_81).1) (by decide) (by decide) k) ?_
      show own_Run p e below _ s₁ (mkF m 22 #[.val (.int p1), .val (.int (1 : Int32)), .unset, .unset, .unset, .unset, .unset, .unset] [])
      refine own_go (fun _ k => XS.iconst X0.here hx rfl (hb hby at_22) k) ?_
      refine own_go (fun _ k => XS.istoreN X0.here hx rfl (hb hby at_23) rfl (l' := #[.val (.int p1), .val (.int (1 : Int32)), .val (.int (0 : Int32)), .unset, .unset, .unset, .unset, .unset]) rfl k) ?_
      refine own_go (fun _ k => XS.iloadN X0.here hx rfl (hb hby at_24) rfl k) ?_
      refine own_go (fun _ k => XS.iconst X0.here hx rfl (hb hby at_25) k) ?_
      show own_Run p e below _ s₁ (mkF m 26 #[.val (.int p1), .val (.int (1 : Int32)), .val (.int (0 : Int32)), .unset, .unset, .unset, .unset, .unset] [(.int (4 : Int32)), (.int p1)])
      refine own_go (fun _ k => XS.iand X0.here hx rfl (hb hby at_26) rfl k) ?_
      show own_Run p e below _ s₁ (mkF m 27 #[.val (.int p1), .val (.int (1 : Int32)), .val (.int (0 : Int32)), .unset, .unset, .unset, .unset, .unset] [(.int (p1 &&& (4 : Int32)))])
      by_cases hc27_82 : (p1 &&& (4 : Int32)) = (0 : Int32)
      · refine own_go (fun _ k => XS.ifYes X0.here hx rfl (pc0 := 27) (pc' := 34) rfl (hb hby at_27) rfl ((if0 _ _).trans (teq hc27_82).1) (by decide) (by decide) k) ?_
        show own_Run p e below _ s₁ (mkF m 34 #[.val (.int p1), .val (.int (1 : Int32)), .val (.int (0 : Int32)), .unset, .unset, .unset, .unset, .unset] [])
        refine own_go (fun _ k => XS.iconst X0.here hx rfl (hb hby at_34) k) ?_
        refine own_go (fun _ k => XS.istoreN X0.here hx rfl (hb hby at_35) rfl (l' := #[.val (.int p1), .val (.int (1 : Int32)), .val (.int (0 : Int32)), .val (.int (0 : Int32)), .unset, .unset, .unset, .unset]) rfl k) ?_
        show own_Run p e below _ s₁ (mkF m 36 #[.val (.int p1), .val (.int (1 : Int32)), .val (.int (0 : Int32)), .val (.int (0 : Int32)), .unset, .unset, .unset, .unset] [])
        obtain ⟨T83, h83, X83, e83, E83, A83, D83, -, st83⟩ := newO X0 hx hZ hown (W 0 rfl) (W 1 rfl) (W 2 rfl) e0 (g := (mkF m 36 #[.val (.int p1), .val (.int (1 : Int32)), .val (.int (0 : Int32)), .val (.int (0 : Int32)), .unset, .unset, .unset, .unset] [])) rfl (hb hby at_36) (by decide) (by decide)
        refine own_go st83 ?_
        obtain ⟨b83, g83⟩ : ∃ z, z = h0.size := ⟨_, rfl⟩
        rw [← g83] at A83 D83
        rw [← g83]
        show own_Run p e below _ T83 (mkF m 39 #[.val (.int p1), .val (.int (1 : Int32)), .val (.int (0 : Int32)), .val (.int (0 : Int32)), .unset, .unset, .unset, .unset] [(.ref b83)])
        have g_b83 : n0 ≤ b83 := Nat.le_trans Z0 (Nat.le_of_eq g83.symm)
        have sz_b83 : h0.size ≤ b83 := Nat.le_trans K0.1 (Nat.le_of_eq g83.symm)
        have Z0_c84 := Nat.le_trans Z0 E83.1
        have K0_c84 := K0.ext E83
        have F_begun_b83 : Fld Z h83 b83 "com/example/eventail/eventail/DeliveryCount" "begun" "J" (.long (0 : Int64)) := D83 (Or.inl (W 15 rfl)) (ty := .long) (by decide)
        have F_roomWanted_b83 : Fld Z h83 b83 "com/example/eventail/eventail/DeliveryCount" "roomWanted" "J" (.long (0 : Int64)) := D83 (Or.inl (W 17 rfl)) (ty := .long) (by decide)
        refine own_go (fun _ k => XS.dup X83.here hx rfl (hb hby at_39) rfl rfl k) ?_
        show own_Run p e below _ T83 (mkF m 40 #[.val (.int p1), .val (.int (1 : Int32)), .val (.int (0 : Int32)), .val (.int (0 : Int32)), .unset, .unset, .unset, .unset] [(.ref b83), (.ref b83)])
        obtain ⟨_, _, ⟨T85, L85, k85, n85⟩, -, X85, ⟨Lc85, hQ85, l85, y85, z85⟩, st85⟩ := X83.specialBack hx (y := (⟨"com/example/eventail/eventail/DeliveryCount", "<init>", "()V"⟩ : MethodName)) rfl hown (mvT hZ (W 3 rfl)) (mvT hZ (W 4 rfl)) (mvT hZ (W 5 rfl)) (by decide) (backOf (W := 1) (rm1 l Z a0 hw [] b83 h83 n0 Z0_c84 ) hZ (W 5 rfl) (W 2 rfl) (by decide) (by decide)) (g := (mkF m 40 #[.val (.int p1), .val (.int (1 : Int32)), .val (.int (0 : Int32)), .val (.int (0 : Int32)), .unset, .unset, .unset, .unset] [(.ref b83), (.ref b83)])) rfl (by rw [hml]; rfl) (Steps.refl _) (a := b83) (argsL := []) (rest := [(.ref b83)]) (lenOf pd_1 rfl) rfl (by show 2 * 0 + _ ≤ _; exact Nat.le_of_eq rfl) (hb hby at_40) (fun _ _ => ⟨rfl, e83, (by decide : 1 + 0 ≤ _), (by decide : 16 + 0 ≤ _)⟩)
        dsimp only [Pt.U, Pt.locs, Pt.cells, Pt.slots] at X85 l85 y85 z85 st85 hQ85
        subst l85 y85 z85
        obtain ⟨rfl, N85q, e85⟩ := hQ85
        have N85 := Fr.app N0 N85q
        refine own_goT st85 ?_
        show own_Run p e below _ T85 (mkF m 43 #[.val (.int p1), .val (.int (1 : Int32)), .val (.int (0 : Int32)), .val (.int (0 : Int32)), .unset, .unset, .unset, .unset] [(.ref b83)])
        refine own_go (fun _ k => XS.astore X85.here hx rfl (hb hby at_43) rfl rfl (l' := #[.val (.int p1), .val (.int (1 : Int32)), .val (.int (0 : Int32)), .val (.int (0 : Int32)), .val (.ref b83), .unset, .unset, .unset]) rfl k) ?_
        refine own_go (fun _ k => XS.iloadN X85.here hx rfl (hb hby at_45) rfl k) ?_
        show own_Run p e below _ T85 (mkF m 46 #[.val (.int p1), .val (.int (1 : Int32)), .val (.int (0 : Int32)), .val (.int (0 : Int32)), .val (.ref b83), .unset, .unset, .unset] [(.int (1 : Int32))])
        refine own_go (fun _ k => XS.ifNo X85.here hx rfl (hb hby at_46) rfl ((if0 _ _).trans (feq (by decide : ¬ ((1 : Int32) = (0 : Int32)))).1) k) ?_
        show own_Run p e below _ T85 (mkF m 49 #[.val (.int p1), .val (.int (1 : Int32)), .val (.int (0 : Int32)), .val (.int (0 : Int32)), .val (.ref b83), .unset, .unset, .unset] [])
        refine own_go (fun _ k => XS.aload X85.here hx rfl (hb hby at_49) rfl rfl k) ?_
        refine own_go (fun _ k => XS.iloadN X85.here hx rfl (hb hby at_51) rfl k) ?_
        show own_Run p e below _ T85 (mkF m 52 #[.val (.int p1), .val (.int (1 : Int32)), .val (.int (0 : Int32)), .val (.int (0 : Int32)), .val (.ref b83), .unset, .unset, .unset] [(.int (0 : Int32)), (.ref b83)])
        obtain ⟨cq86, kq86, q86a, q86b, q86c⟩ := isOf hZ e85 A83
        obtain ⟨_, _, ⟨T86, L86, k86, n86⟩, -, X86, ⟨Lc86, hQ86, l86, y86, z86⟩, st86⟩ := X85.virtualBack hx (y := (⟨"com/example/eventail/eventail/DeliveryCount", "setRoomWanted", "(Z)V"⟩ : MethodName)) (z := (⟨"com/example/eventail/eventail/DeliveryCount", "setRoomWanted", "(Z)V"⟩ : MethodName)) hown (mvT hZ (W 28 rfl)) (mvT hZ (W 29 rfl)) (notFace_of_selects (args := #[]) (mvT hZ (W 31 rfl))) (mvT hZ (W 31 rfl)) (mvT hZ (W 30 rfl)) (by decide) (backOf (W := 0) (rm6 l Z a0 hw [] b83 (0 : Int32) (0 : Int64) (0 : Int64) (0 : Int64) h83 n0 Z0_c84 A83 F_roomWanted_b83 F_begun_b83 g_b83 (Or.inl ⟨rfl, rfl⟩)) hZ (W 32 rfl) (W 2 rfl) (by decide) (by decide)) q86a q86c (g := (mkF m 52 #[.val (.int p1), .val (.int (1 : Int32)), .val (.int (0 : Int32)), .val (.int (0 : Int32)), .val (.ref b83), .unset, .unset, .unset] [(.int (0 : Int32)), (.ref b83)])) rfl (by rw [hml]; rfl) (Steps.refl _) (argsL := [(.int (0 : Int32))]) (rest := []) (lenOf pd_4 rfl) rfl (by show 2 * 0 + _ ≤ _; exact Nat.le_of_eq rfl) (hb hby at_52) (fun _ _ => ⟨rfl, e85, (by decide : 1 + 0 ≤ _), (by decide : 16 + 0 ≤ _)⟩)
        dsimp only [Pt.U, Pt.locs, Pt.cells, Pt.slots] at X86 l86 y86 z86 st86 hQ86
        subst l86 y86 z86
        obtain ⟨rfl, N86q, K86, P86_0, P86_1, P86_2⟩ := hQ86
        have N86 := Fr.app N85 N86q
        refine own_goT st86 ?_
        show own_Run p e below _ T86 (mkF m 55 #[.val (.int p1), .val (.int (1 : Int32)), .val (.int (0 : Int32)), .val (.int (0 : Int32)), .val (.ref b83), .unset, .unset, .unset] [])
        have Z0_c87 := Nat.le_trans Z0_c84 K86.1
        have K0_c87 := K0_c84.trans K86 (allS (Or.inr sz_b83) all0)
        have A83_c87 := A83.keep K86
        refine own_go (fun _ k => XS.iloadN X86.here hx rfl (hb hby at_55) rfl k) ?_
        show own_Run p e below _ T86 (mkF m 56 #[.val (.int p1), .val (.int (1 : Int32)), .val (.int (0 : Int32)), .val (.int (0 : Int32)), .val (.ref b83), .unset, .unset, .unset] [(.int (1 : Int32))])
        refine own_go (fun _ k => XS.ifNo X86.here hx rfl (hb hby at_56) rfl ((if0 _ _).trans (feq (by decide : ¬ ((1 : Int32) = (0 : Int32)))).1) k) ?_
        show own_Run p e below _ T86 (mkF m 59 #[.val (.int p1), .val (.int (1 : Int32)), .val (.int (0 : Int32)), .val (.int (0 : Int32)), .val (.ref b83), .unset, .unset, .unset] [])
        refine own_go (fun _ k => XS.iloadN X86.here hx rfl (hb hby at_59) rfl k) ?_
        show own_Run p e below _ T86 (mkF m 60 #[.val (.int p1), .val (.int (1 : Int32)), .val (.int (0 : Int32)), .val (.int (0 : Int32)), .val (.ref b83), .unset, .unset, .unset] [(.int (0 : Int32))])
        refine own_go (fun _ k => XS.ifYes X86.here hx rfl (pc0 := 60) (pc' := 67) rfl (hb hby at_60) rfl ((if0 _ _).trans (teq (by decide : (0 : Int32) = (0 : Int32))).1) (by decide) (by decide) k) ?_
        show own_Run p e below _ T86 (mkF m 67 #[.val (.int p1), .val (.int (1 : Int32)), .val (.int (0 : Int32)), .val (.int (0 : Int32)), .val (.ref b83), .unset, .unset, .unset] [])
        refine own_go (fun _ k => XS.iconst X86.here hx rfl (hb hby at_67) k) ?_
        refine own_go (fun _ k => XS.istore X86.here hx rfl (hb hby at_68) rfl (l' := #[.val (.int p1), .val (.int (1 : Int32)), .val (.int (0 : Int32)), .val (.int (0 : Int32)), .val (.ref b83), .val (.int (0 : Int32)), .unset, .unset]) rfl k) ?_
        refine own_go (fun _ k => XS.aload X86.here hx rfl (hb hby at_70) rfl rfl k) ?_
        show own_Run p e below _ T86 (mkF m 72 #[.val (.int p1), .val (.int (1 : Int32)), .val (.int (0 : Int32)), .val (.int (0 : Int32)), .val (.ref b83), .val (.int (0 : Int32)), .unset, .unset] [(.ref b83)])
        obtain ⟨cq88, kq88, q88a, q88b, q88c⟩ := isOf hZ rfl P86_0
        obtain ⟨_, _, ⟨T88, L88, k88, n88⟩, -, X88, ⟨Lc88, hQ88, l88, y88, z88⟩, st88⟩ := X86.virtualBack hx (y := (⟨"com/example/eventail/eventail/DeliveryCount", "deliveryBegins", "()Z"⟩ : MethodName)) (z := (⟨"com/example/eventail/eventail/DeliveryCount", "deliveryBegins", "()Z"⟩ : MethodName)) hown (mvT hZ (W 9 rfl)) (mvT hZ (W 10 rfl)) (notFace_of_selects (args := #[]) (mvT hZ (W 12 rfl))) (mvT hZ (W 12 rfl)) (mvT hZ (W 11 rfl)) (by decide) (backOf (W := 0) (rm3 l Z a0 hw [] b83 (0 : Int64) (0 : Int32) (0 : Int64) T86.heap n0 Z0_c87 P86_0 P86_1 P86_2 g_b83 (Or.inl ⟨rfl, rfl⟩)) hZ (W 13 rfl) (W 2 rfl) (by decide) (by decide)) q88a q88c (g := (mkF m 72 #[.val (.int p1), .val (.int (1 : Int32)), .val (.int (0 : Int32)), .val (.int (0 : Int32)), .val (.ref b83), .val (.int (0 : Int32)), .unset, .unset] [(.ref b83)])) rfl (by rw [hml]; rfl) (Steps.refl _) (argsL := []) (rest := []) (lenOf pd_2 rfl) rfl (by show 2 * 0 + _ ≤ _; exact Nat.le_of_eq rfl) (hb hby at_72) (fun _ _ => ⟨rfl, rfl, (by decide : 1 + 0 ≤ _), (by decide : 16 + 0 ≤ _)⟩)
        dsimp only [Pt.U, Pt.locs, Pt.cells, Pt.slots] at X88 l88 y88 z88 st88 hQ88
        subst l88 y88 z88
        obtain ⟨rfl, N88q, K88, P88_0, P88_1, P88_2⟩ := hQ88
        have N88 := Fr.app N86 N88q
        refine own_goT st88 ?_
        show own_Run p e below _ T88 (mkF m 75 #[.val (.int p1), .val (.int (1 : Int32)), .val (.int (0 : Int32)), .val (.int (0 : Int32)), .val (.ref b83), .val (.int (0 : Int32)), .unset, .unset] [(.int (0 : Int32))])
        have Z0_c89 := Nat.le_trans Z0_c87 K88.1
        have K0_c89 := K0_c87.trans K88 (allS (Or.inr sz_b83) all0)
        have P86_0_c89 := P86_0.keep K88
        have F_begun_e90 : Fld Z T88.heap b83 "com/example/eventail/eventail/DeliveryCount" "begun" "J" (.long (1 : Int64)) := P88_2
        refine own_go (fun _ k => XS.istore X88.here hx rfl (hb hby at_75) rfl (l' := #[.val (.int p1), .val (.int (1 : Int32)), .val (.int (0 : Int32)), .val (.int (0 : Int32)), .val (.ref b83), .val (.int (0 : Int32)), .val (.int (0 : Int32)), .unset]) rfl k) ?_
        refine own_go (fun _ k => XS.iload X88.here hx rfl (hb hby at_77) rfl k) ?_
        refine own_go (fun _ k => XS.iload X88.here hx rfl (hb hby at_79) rfl k) ?_
        show own_Run p e below _ T88 (mkF m 81 #[.val (.int p1), .val (.int (1 : Int32)), .val (.int (0 : Int32)), .val (.int (0 : Int32)), .val (.ref b83), .val (.int (0 : Int32)), .val (.int (0 : Int32)), .unset] [(.int (0 : Int32)), (.int (0 : Int32))])
        refine own_go (fun _ k => XS.icmpYes X88.here hx rfl (pc0 := 81) (pc' := 86) rfl (hb hby at_81) rfl (teq (by decide : (0 : Int32) = (0 : Int32))).1 (by decide) (by decide) k) ?_
        show own_Run p e below _ T88 (mkF m 86 #[.val (.int p1), .val (.int (1 : Int32)), .val (.int (0 : Int32)), .val (.int (0 : Int32)), .val (.ref b83), .val (.int (0 : Int32)), .val (.int (0 : Int32)), .unset] [])
        refine own_go (fun _ k => XS.aload X88.here hx rfl (hb hby at_86) rfl rfl k) ?_
        show own_Run p e below _ T88 (mkF m 88 #[.val (.int p1), .val (.int (1 : Int32)), .val (.int (0 : Int32)), .val (.int (0 : Int32)), .val (.ref b83), .val (.int (0 : Int32)), .val (.int (0 : Int32)), .unset] [(.ref b83)])
        obtain ⟨cq91, kq91, q91a, q91b, q91c⟩ := isOf hZ rfl P88_0
        obtain ⟨_, _, ⟨T91, L91, k91, n91⟩, -, X91, ⟨Lc91, hQ91, l91, y91, z91⟩, st91⟩ := X88.virtualBack hx (y := (⟨"com/example/eventail/eventail/DeliveryCount", "begun", "()J"⟩ : MethodName)) (z := (⟨"com/example/eventail/eventail/DeliveryCount", "begun", "()J"⟩ : MethodName)) hown (mvT hZ (W 18 rfl)) (mvT hZ (W 19 rfl)) (notFace_of_selects (args := #[]) (mvT hZ (W 21 rfl))) (mvT hZ (W 21 rfl)) (mvT hZ (W 20 rfl)) (by decide) (backOf (W := 0) (rm4 l Z a0 hw [] b83 (1 : Int64) T88.heap n0 Z0_c89 F_begun_e90) hZ (W 22 rfl) (W 2 rfl) (by decide) (by decide)) q91a q91c (g := (mkF m 88 #[.val (.int p1), .val (.int (1 : Int32)), .val (.int (0 : Int32)), .val (.int (0 : Int32)), .val (.ref b83), .val (.int (0 : Int32)), .val (.int (0 : Int32)), .unset] [(.ref b83)])) rfl (by rw [hml]; rfl) (Steps.refl _) (argsL := []) (rest := []) (lenOf pd_3 rfl) rfl (by show 2 * 0 + _ ≤ _; exact Nat.le_of_eq rfl) (hb hby at_88) (fun _ _ => ⟨rfl, rfl, (by decide : 1 + 0 ≤ _), (by decide : 16 + 0 ≤ _)⟩)
        dsimp only [Pt.U, Pt.locs, Pt.cells, Pt.slots] at X91 l91 y91 z91 st91 hQ91
        subst l91 y91 z91
        obtain ⟨rfl, N91q, e91⟩ := hQ91
        have N91 := Fr.app N88 N91q
        refine own_goT st91 ?_
        show own_Run p e below _ T91 (mkF m 91 #[.val (.int p1), .val (.int (1 : Int32)), .val (.int (0 : Int32)), .val (.int (0 : Int32)), .val (.ref b83), .val (.int (0 : Int32)), .val (.int (0 : Int32)), .unset] [(.long (1 : Int64))])
        refine own_go (fun _ k => XS.lconst X91.here hx rfl (hb hby at_91) k) ?_
        refine own_go (fun _ k => XS.lcmp X91.here hx rfl (hb hby at_92) rfl k) ?_
        show own_Run p e below _ T91 (mkF m 93 #[.val (.int p1), .val (.int (1 : Int32)), .val (.int (0 : Int32)), .val (.int (0 : Int32)), .val (.ref b83), .val (.int (0 : Int32)), .val (.int (0 : Int32)), .unset] [(.int (lcmpW (1 : Int64) (1 : Int64)))])
        refine own_go (fun _ k => XS.ifYes X91.here hx rfl (pc0 := 93) (pc' := 98) rfl (hb hby at_93) rfl (own_lcTe (by decide : (1 : Int64) = (1 : Int64))).1 (by decide) (by decide) k) ?_
        show own_Run p e below _ T91 (mkF m 98 #[.val (.int p1), .val (.int (1 : Int32)), .val (.int (0 : Int32)), .val (.int (0 : Int32)), .val (.ref b83), .val (.int (0 : Int32)), .val (.int (0 : Int32)), .unset] [])
        refine own_go (fun _ k => XS.aload X91.here hx rfl (hb hby at_98) rfl rfl k) ?_
        show own_Run p e below _ T91 (mkF m 100 #[.val (.int p1), .val (.int (1 : Int32)), .val (.int (0 : Int32)), .val (.int (0 : Int32)), .val (.ref b83), .val (.int (0 : Int32)), .val (.int (0 : Int32)), .unset] [(.ref b83)])
        obtain ⟨cq92, kq92, q92a, q92b, q92c⟩ := isOf hZ e91 P88_0
        obtain ⟨_, _, ⟨T92, L92, k92, n92⟩, -, X92, ⟨Lc92, hQ92, l92, y92, z92⟩, st92⟩ := X91.virtualBack hx (y := (⟨"com/example/eventail/eventail/DeliveryCount", "isRoomWanted", "()Z"⟩ : MethodName)) (z := (⟨"com/example/eventail/eventail/DeliveryCount", "isRoomWanted", "()Z"⟩ : MethodName)) hown (mvT hZ (W 23 rfl)) (mvT hZ (W 24 rfl)) (notFace_of_selects (args := #[]) (mvT hZ (W 26 rfl))) (mvT hZ (W 26 rfl)) (mvT hZ (W 25 rfl)) (by decide) (backOf (W := 0) (rm5 l Z a0 hw [] b83 (0 : Int64) (0 : Int32) T88.heap n0 Z0_c89 P88_1 (Or.inl ⟨rfl, rfl⟩)) hZ (W 27 rfl) (W 2 rfl) (by decide) (by decide)) q92a q92c (g := (mkF m 100 #[.val (.int p1), .val (.int (1 : Int32)), .val (.int (0 : Int32)), .val (.int (0 : Int32)), .val (.ref b83), .val (.int (0 : Int32)), .val (.int (0 : Int32)), .unset] [(.ref b83)])) rfl (by rw [hml]; rfl) (Steps.refl _) (argsL := []) (rest := []) (lenOf pd_2 rfl) rfl (by show 2 * 0 + _ ≤ _; exact Nat.le_of_eq rfl) (hb hby at_100) (fun _ _ => ⟨rfl, e91, (by decide : 1 + 0 ≤ _), (by decide : 16 + 0 ≤ _)⟩)
        dsimp only [Pt.U, Pt.locs, Pt.cells, Pt.slots] at X92 l92 y92 z92 st92 hQ92
        subst l92 y92 z92
        obtain ⟨rfl, N92q, e92⟩ := hQ92
        have N92 := Fr.app N91 N92q
        refine own_goT st92 ?_
        show own_Run p e below _ T92 (mkF m 103 #[.val (.int p1), .val (.int (1 : Int32)), .val (.int (0 : Int32)), .val (.int (0 : Int32)), .val (.ref b83), .val (.int (0 : Int32)), .val (.int (0 : Int32)), .unset] [(.int (0 : Int32))])
        refine own_go (fun _ k => XS.iload X92.here hx rfl (hb hby at_103) rfl k) ?_
        show own_Run p e below _ T92 (mkF m 105 #[.val (.int p1), .val (.int (1 : Int32)), .val (.int (0 : Int32)), .val (.int (0 : Int32)), .val (.ref b83), .val (.int (0 : Int32)), .val (.int (0 : Int32)), .unset] [(.int (0 : Int32)), (.int (0 : Int32))])
        refine own_go (fun _ k => XS.icmpYes X92.here hx rfl (pc0 := 105) (pc' := 110) rfl (hb hby at_105) rfl (teq (by decide : (0 : Int32) = (0 : Int32))).1 (by decide) (by decide) k) ?_
        show own_Run p e below _ T92 (mkF m 110 #[.val (.int p1), .val (.int (1 : Int32)), .val (.int (0 : Int32)), .val (.int (0 : Int32)), .val (.ref b83), .val (.int (0 : Int32)), .val (.int (0 : Int32)), .unset] [])
        refine own_go (fun _ k => XS.aload X92.here hx rfl (hb hby at_110) rfl rfl k) ?_
        refine own_go (fun _ k => XS.iloadN X92.here hx rfl (hb hby at_112) rfl k) ?_
        show own_Run p e below _ T92 (mkF m 113 #[.val (.int p1), .val (.int (1 : Int32)), .val (.int (0 : Int32)), .val (.int (0 : Int32)), .val (.ref b83), .val (.int (0 : Int32)), .val (.int (0 : Int32)), .unset] [(.int (0 : Int32)), (.ref b83)])
        obtain ⟨cq93, kq93, q93a, q93b, q93c⟩ := isOf hZ e92 P88_0
        obtain ⟨_, _, ⟨T93, L93, k93, n93⟩, -, X93, ⟨Lc93, hQ93, l93, y93, z93⟩, st93⟩ := X92.virtualBack hx (y := (⟨"com/example/eventail/eventail/DeliveryCount", "setRoomWanted", "(Z)V"⟩ : MethodName)) (z := (⟨"com/example/eventail/eventail/DeliveryCount", "setRoomWanted", "(Z)V"⟩ : MethodName)) hown (mvT hZ (W 28 rfl)) (mvT hZ (W 29 rfl)) (notFace_of_selects (args := #[]) (mvT hZ (W 31 rfl))) (mvT hZ (W 31 rfl)) (mvT hZ (W 30 rfl)) (by decide) (backOf (W := 0) (rm6 l Z a0 hw [] b83 (0 : Int32) (0 : Int64) (0 : Int64) (1 : Int64) T88.heap n0 Z0_c89 P88_0 P88_1 F_begun_e90 g_b83 (Or.inl ⟨rfl, rfl⟩)) hZ (W 32 rfl) (W 2 rfl) (by decide) (by decide)) q93a q93c (g := (mkF m 113 #[.val (.int p1), .val (.int (1 : Int32)), .val (.int (0 : Int32)), .val (.int (0 : Int32)), .val (.ref b83), .val (.int (0 : Int32)), .val (.int (0 : Int32)), .unset] [(.int (0 : Int32)), (.ref b83)])) rfl (by rw [hml]; rfl) (Steps.refl _) (argsL := [(.int (0 : Int32))]) (rest := []) (lenOf pd_4 rfl) rfl (by show 2 * 0 + _ ≤ _; exact Nat.le_of_eq rfl) (hb hby at_113) (fun _ _ => ⟨rfl, e92, (by decide : 1 + 0 ≤ _), (by decide : 16 + 0 ≤ _)⟩)
        dsimp only [Pt.U, Pt.locs, Pt.cells, Pt.slots] at X93 l93 y93 z93 st93 hQ93
        subst l93 y93 z93
        obtain ⟨rfl, N93q, K93, P93_0, P93_1, P93_2⟩ := hQ93
        have N93 := Fr.app N92 N93q
        refine own_goT st93 ?_
        show own_Run p e below _ T93 (mkF m 116 #[.val (.int p1), .val (.int (1 : Int32)), .val (.int (0 : Int32)), .val (.int (0 : Int32)), .val (.ref b83), .val (.int (0 : Int32)), .val (.int (0 : Int32)), .unset] [])
        have Z0_c94 := Nat.le_trans Z0_c89 K93.1
        have K0_c94 := K0_c89.trans K93 (allS (Or.inr sz_b83) all0)
        have P88_0_c94 := P88_0.keep K93
        refine own_go (fun _ k => XS.aload X93.here hx rfl (hb hby at_116) rfl rfl k) ?_
        show own_Run p e below _ T93 (mkF m 118 #[.val (.int p1), .val (.int (1 : Int32)), .val (.int (0 : Int32)), .val (.int (0 : Int32)), .val (.ref b83), .val (.int (0 : Int32)), .val (.int (0 : Int32)), .unset] [(.ref b83)])
        obtain ⟨cq95, kq95, q95a, q95b, q95c⟩ := isOf hZ rfl P93_0
        obtain ⟨_, _, ⟨T95, L95, k95, n95⟩, -, X95, ⟨Lc95, hQ95, l95, y95, z95⟩, st95⟩ := X93.virtualBack hx (y := (⟨"com/example/eventail/eventail/DeliveryCount", "deliveryBegins", "()Z"⟩ : MethodName)) (z := (⟨"com/example/eventail/eventail/DeliveryCount", "deliveryBegins", "()Z"⟩ : MethodName)) hown (mvT hZ (W 9 rfl)) (mvT hZ (W 10 rfl)) (notFace_of_selects (args := #[]) (mvT hZ (W 12 rfl))) (mvT hZ (W 12 rfl)) (mvT hZ (W 11 rfl)) (by decide) (backOf (W := 0) (rm3 l Z a0 hw [] b83 (0 : Int64) (0 : Int32) (1 : Int64) T93.heap n0 Z0_c94 P93_0 P93_1 P93_2 g_b83 (Or.inl ⟨rfl, rfl⟩)) hZ (W 13 rfl) (W 2 rfl) (by decide) (by decide)) q95a q95c (g := (mkF m 118 #[.val (.int p1), .val (.int (1 : Int32)), .val (.int (0 : Int32)), .val (.int (0 : Int32)), .val (.ref b83), .val (.int (0 : Int32)), .val (.int (0 : Int32)), .unset] [(.ref b83)])) rfl (by rw [hml]; rfl) (Steps.refl _) (argsL := []) (rest := []) (lenOf pd_2 rfl) rfl (by show 2 * 0 + _ ≤ _; exact Nat.le_of_eq rfl) (hb hby at_118) (fun _ _ => ⟨rfl, rfl, (by decide : 1 + 0 ≤ _), (by decide : 16 + 0 ≤ _)⟩)
        dsimp only [Pt.U, Pt.locs, Pt.cells, Pt.slots] at X95 l95 y95 z95 st95 hQ95
        subst l95 y95 z95
        obtain ⟨rfl, N95q, K95, P95_0, P95_1, P95_2⟩ := hQ95
        have N95 := Fr.app N93 N95q
        refine own_goT st95 ?_
        show own_Run p e below _ T95 (mkF m 121 #[.val (.int p1), .val (.int (1 : Int32)), .val (.int (0 : Int32)), .val (.int (0 : Int32)), .val (.ref b83), .val (.int (0 : Int32)), .val (.int (0 : Int32)), .unset] [(.int (0 : Int32))])
        have Z0_c96 := Nat.le_trans Z0_c94 K95.1
        have K0_c96 := K0_c94.trans K95 (allS (Or.inr sz_b83) all0)
        have P93_0_c96 := P93_0.keep K95
        have F_begun_e97 : Fld Z T95.heap b83 "com/example/eventail/eventail/DeliveryCount" "begun" "J" (.long (2 : Int64)) := P95_2
        refine own_go (fun _ k => XS.istore X95.here hx rfl (hb hby at_121) rfl (l' := #[.val (.int p1), .val (.int (1 : Int32)), .val (.int (0 : Int32)), .val (.int (0 : Int32)), .val (.ref b83), .val (.int (0 : Int32)), .val (.int (0 : Int32)), .val (.int (0 : Int32))]) rfl k) ?_
        refine own_go (fun _ k => XS.iload X95.here hx rfl (hb hby at_123) rfl k) ?_
        refine own_go (fun _ k => XS.iloadN X95.here hx rfl (hb hby at_125) rfl k) ?_
        show own_Run p e below _ T95 (mkF m 126 #[.val (.int p1), .val (.int (1 : Int32)), .val (.int (0 : Int32)), .val (.int (0 : Int32)), .val (.ref b83), .val (.int (0 : Int32)), .val (.int (0 : Int32)), .val (.int (0 : Int32))] [(.int (0 : Int32)), (.int (0 : Int32))])
        refine own_go (fun _ k => XS.icmpYes X95.here hx rfl (pc0 := 126) (pc' := 131) rfl (hb hby at_126) rfl (teq (by decide : (0 : Int32) = (0 : Int32))).1 (by decide) (by decide) k) ?_
        show own_Run p e below _ T95 (mkF m 131 #[.val (.int p1), .val (.int (1 : Int32)), .val (.int (0 : Int32)), .val (.int (0 : Int32)), .val (.ref b83), .val (.int (0 : Int32)), .val (.int (0 : Int32)), .val (.int (0 : Int32))] [])
        refine own_go (fun _ k => XS.aload X95.here hx rfl (hb hby at_131) rfl rfl k) ?_
        show own_Run p e below _ T95 (mkF m 133 #[.val (.int p1), .val (.int (1 : Int32)), .val (.int (0 : Int32)), .val (.int (0 : Int32)), .val (.ref b83), .val (.int (0 : Int32)), .val (.int (0 : Int32)), .val (.int (0 : Int32))] [(.ref b83)])
        obtain ⟨cq98, kq98, q98a, q98b, q98c⟩ := isOf hZ rfl P95_0
        obtain ⟨_, _, ⟨T98, L98, k98, n98⟩, -, X98, ⟨Lc98, hQ98, l98, y98, z98⟩, st98⟩ := X95.virtualBack hx (y := (⟨"com/example/eventail/eventail/DeliveryCount", "begun", "()J"⟩ : MethodName)) (z := (⟨"com/example/eventail/eventail/DeliveryCount", "begun", "()J"⟩ : MethodName)) hown (mvT hZ (W 18 rfl)) (mvT hZ (W 19 rfl)) (notFace_of_selects (args := #[]) (mvT hZ (W 21 rfl))) (mvT hZ (W 21 rfl)) (mvT hZ (W 20 rfl)) (by decide) (backOf (W := 0) (rm4 l Z a0 hw [] b83 (2 : Int64) T95.heap n0 Z0_c96 F_begun_e97) hZ (W 22 rfl) (W 2 rfl) (by decide) (by decide)) q98a q98c (g := (mkF m 133 #[.val (.int p1), .val (.int (1 : Int32)), .val (.int (0 : Int32)), .val (.int (0 : Int32)), .val (.ref b83), .val (.int (0 : Int32)), .val (.int (0 : Int32)), .val (.int (0 : Int32))] [(.ref b83)])) rfl (by rw [hml]; rfl) (Steps.refl _) (argsL := []) (rest := []) (lenOf pd_3 rfl) rfl (by show 2 * 0 + _ ≤ _; exact Nat.le_of_eq rfl) (hb hby at_133) (fun _ _ => ⟨rfl, rfl, (by decide : 1 + 0 ≤ _), (by decide : 16 + 0 ≤ _)⟩)
        dsimp only [Pt.U, Pt.locs, Pt.cells, Pt.slots] at X98 l98 y98 z98 st98 hQ98
        subst l98 y98 z98
        obtain ⟨rfl, N98q, e98⟩ := hQ98
        have N98 := Fr.app N95 N98q
        refine own_goT st98 ?_
        show own_Run p e below _ T98 (mkF m 136 #[.val (.int p1), .val (.int (1 : Int32)), .val (.int (0 : Int32)), .val (.int (0 : Int32)), .val (.ref b83), .val (.int (0 : Int32)), .val (.int (0 : Int32)), .val (.int (0 : Int32))] [(.long (2 : Int64))])
        refine own_go (X98.ldc2Long hx hown (mvT hZ (W 33 rfl)) (g := (mkF m 136 #[.val (.int p1), .val (.int (1 : Int32)), .val (.int (0 : Int32)), .val (.int (0 : Int32)), .val (.ref b83), .val (.int (0 : Int32)), .val (.int (0 : Int32)), .val (.int (0 : Int32))] [(.long (2 : Int64))])) rfl (hb hby at_136)) ?_
        show own_Run p e below _ T98 (mkF m 139 #[.val (.int p1), .val (.int (1 : Int32)), .val (.int (0 : Int32)), .val (.int (0 : Int32)), .val (.ref b83), .val (.int (0 : Int32)), .val (.int (0 : Int32)), .val (.int (0 : Int32))] [(.long (2 : Int64)), (.long (2 : Int64))])
        refine own_go (fun _ k => XS.lcmp X98.here hx rfl (hb hby at_139) rfl k) ?_
        show own_Run p e below _ T98 (mkF m 140 #[.val (.int p1), .val (.int (1 : Int32)), .val (.int (0 : Int32)), .val (.int (0 : Int32)), .val (.ref b83), .val (.int (0 : Int32)), .val (.int (0 : Int32)), .val (.int (0 : Int32))] [(.int (lcmpW (2 : Int64) (2 : Int64)))])
        refine own_go (fun _ k => XS.ifYes X98.here hx rfl (pc0 := 140) (pc' := 145) rfl (hb hby at_140) rfl (own_lcTe (by decide : (2 : Int64) = (2 : Int64))).1 (by decide) (by decide) k) ?_
        show own_Run p e below _ T98 (mkF m 145 #[.val (.int p1), .val (.int (1 : Int32)), .val (.int (0 : Int32)), .val (.int (0 : Int32)), .val (.ref b83), .val (.int (0 : Int32)), .val (.int (0 : Int32)), .val (.int (0 : Int32))] [])
        refine own_go (fun _ k => XS.aload X98.here hx rfl (hb hby at_145) rfl rfl k) ?_
        show own_Run p e below _ T98 (mkF m 147 #[.val (.int p1), .val (.int (1 : Int32)), .val (.int (0 : Int32)), .val (.int (0 : Int32)), .val (.ref b83), .val (.int (0 : Int32)), .val (.int (0 : Int32)), .val (.int (0 : Int32))] [(.ref b83)])
        obtain ⟨cq99, kq99, q99a, q99b, q99c⟩ := isOf hZ e98 P95_0
        obtain ⟨_, _, ⟨T99, L99, k99, n99⟩, -, X99, ⟨Lc99, hQ99, l99, y99, z99⟩, st99⟩ := X98.virtualBack hx (y := (⟨"com/example/eventail/eventail/DeliveryCount", "isRoomWanted", "()Z"⟩ : MethodName)) (z := (⟨"com/example/eventail/eventail/DeliveryCount", "isRoomWanted", "()Z"⟩ : MethodName)) hown (mvT hZ (W 23 rfl)) (mvT hZ (W 24 rfl)) (notFace_of_selects (args := #[]) (mvT hZ (W 26 rfl))) (mvT hZ (W 26 rfl)) (mvT hZ (W 25 rfl)) (by decide) (backOf (W := 0) (rm5 l Z a0 hw [] b83 (0 : Int64) (0 : Int32) T95.heap n0 Z0_c96 P95_1 (Or.inl ⟨rfl, rfl⟩)) hZ (W 27 rfl) (W 2 rfl) (by decide) (by decide)) q99a q99c (g := (mkF m 147 #[.val (.int p1), .val (.int (1 : Int32)), .val (.int (0 : Int32)), .val (.int (0 : Int32)), .val (.ref b83), .val (.int (0 : Int32)), .val (.int (0 : Int32)), .val (.int (0 : Int32))] [(.ref b83)])) rfl (by rw [hml]; rfl) (Steps.refl _) (argsL := []) (rest := []) (lenOf pd_2 rfl) rfl (by show 2 * 0 + _ ≤ _; exact Nat.le_of_eq rfl) (hb hby at_147) (fun _ _ => ⟨rfl, e98, (by decide : 1 + 0 ≤ _), (by decide : 16 + 0 ≤ _)⟩)
        dsimp only [Pt.U, Pt.locs, Pt.cells, Pt.slots] at X99 l99 y99 z99 st99 hQ99
        subst l99 y99 z99
        obtain ⟨rfl, N99q, e99⟩ := hQ99
        have N99 := Fr.app N98 N99q
        refine own_goT st99 ?_
        show own_Run p e below _ T99 (mkF m 150 #[.val (.int p1), .val (.int (1 : Int32)), .val (.int (0 : Int32)), .val (.int (0 : Int32)), .val (.ref b83), .val (.int (0 : Int32)), .val (.int (0 : Int32)), .val (.int (0 : Int32))] [(.int (0 : Int32))])
        refine own_go (fun _ k => XS.iloadN X99.here hx rfl (hb hby at_150) rfl k) ?_
        show own_Run p e below _ T99 (mkF m 151 #[.val (.int p1), .val (.int (1 : Int32)), .val (.int (0 : Int32)), .val (.int (0 : Int32)), .val (.ref b83), .val (.int (0 : Int32)), .val (.int (0 : Int32)), .val (.int (0 : Int32))] [(.int (0 : Int32)), (.int (0 : Int32))])
        refine own_go (fun _ k => XS.icmpNo X99.here hx rfl (hb hby at_151) rfl (teq (by decide : (0 : Int32) = (0 : Int32))).2 k) ?_
        show own_Run p e below _ T99 (mkF m 154 #[.val (.int p1), .val (.int (1 : Int32)), .val (.int (0 : Int32)), .val (.int (0 : Int32)), .val (.ref b83), .val (.int (0 : Int32)), .val (.int (0 : Int32)), .val (.int (0 : Int32))] [])
        refine own_go (fun _ k => XS.iconst X99.here hx rfl (hb hby at_154) k) ?_
        refine own_go (fun _ k => XS.goto X99.here hx rfl (pc0 := 155) (pc' := 159) rfl (hb hby at_155) (by decide) (by decide) k) ?_
        show own_Run p e below _ T99 (mkF m 159 #[.val (.int p1), .val (.int (1 : Int32)), .val (.int (0 : Int32)), .val (.int (0 : Int32)), .val (.ref b83), .val (.int (0 : Int32)), .val (.int (0 : Int32)), .val (.int (0 : Int32))] [(.int (1 : Int32))])
        refine own_done (Q := fun v h L => Q0 Z p1 h0 n0 v h L) (v := (some (.int (1 : Int32)))) X99 (fun h => by rw [hret] at h; cases h) hlk (fun fs hr => retN X99 hx (t := .boolean) hret (by simp) (hb hby at_159) hr) ?_ (by decide) (by decide)
        show Q0 Z p1 h0 n0 _ T99.heap _
        rw [e99]
        exact ⟨rfl, N99⟩
      · refine own_go (fun _ k => XS.ifNo X0.here hx rfl (hb hby at_27) rfl ((if0 _ _).trans (feq hc27_82).1) k) ?_
        show own_Run p e below _ s₁ (mkF m 30 #[.val (.int p1), .val (.int (1 : Int32)), .val (.int (0 : Int32)), .unset, .unset, .unset, .unset, .unset] [])
        refine own_go (fun _ k => XS.iconst X0.here hx rfl (hb hby at_30) k) ?_
        refine own_go (fun _ k => XS.goto X0.here hx rfl (pc0 := 31) (pc' := 35) rfl (hb hby at_31) (by decide) (by decide) k) ?_
        refine own_go (fun _ k => XS.istoreN X0.here hx rfl (hb hby at_35) rfl (l' := #[.val (.int p1), .val (.int (1 : Int32)), .val (.int (0 : Int32)), .val (.int (1 : Int32)), .unset, .unset, .unset, .unset]) rfl k) ?_
        show own_Run p e below _ s₁ (mkF m 36 #[.val (.int p1), .val (.int (1 : Int32)), .val (.int (0 : Int32)), .val (.int (1 : Int32)), .unset, .unset, .unset, .unset] [])
        obtain ⟨T100, h100, X100, e100, E100, A100, D100, -, st100⟩ := newO X0 hx hZ hown (W 0 rfl) (W 1 rfl) (W 2 rfl) e0 (g := (mkF m 36 #[.val (.int p1), .val (.int (1 : Int32)), .val (.int (0 : Int32)), .val (.int (1 : Int32)), .unset, .unset, .unset, .unset] [])) rfl (hb hby at_36) (by decide) (by decide)
        refine own_go st100 ?_
        obtain ⟨b100, g100⟩ : ∃ z, z = h0.size := ⟨_, rfl⟩
        rw [← g100] at A100 D100
        rw [← g100]
        show own_Run p e below _ T100 (mkF m 39 #[.val (.int p1), .val (.int (1 : Int32)), .val (.int (0 : Int32)), .val (.int (1 : Int32)), .unset, .unset, .unset, .unset] [(.ref b100)])
        have g_b100 : n0 ≤ b100 := Nat.le_trans Z0 (Nat.le_of_eq g100.symm)
        have sz_b100 : h0.size ≤ b100 := Nat.le_trans K0.1 (Nat.le_of_eq g100.symm)
        have Z0_c101 := Nat.le_trans Z0 E100.1
        have K0_c101 := K0.ext E100
        have F_begun_b100 : Fld Z h100 b100 "com/example/eventail/eventail/DeliveryCount" "begun" "J" (.long (0 : Int64)) := D100 (Or.inl (W 15 rfl)) (ty := .long) (by decide)
        have F_roomWanted_b100 : Fld Z h100 b100 "com/example/eventail/eventail/DeliveryCount" "roomWanted" "J" (.long (0 : Int64)) := D100 (Or.inl (W 17 rfl)) (ty := .long) (by decide)
        refine own_go (fun _ k => XS.dup X100.here hx rfl (hb hby at_39) rfl rfl k) ?_
        show own_Run p e below _ T100 (mkF m 40 #[.val (.int p1), .val (.int (1 : Int32)), .val (.int (0 : Int32)), .val (.int (1 : Int32)), .unset, .unset, .unset, .unset] [(.ref b100), (.ref b100)])
        obtain ⟨_, _, ⟨T102, L102, k102, n102⟩, -, X102, ⟨Lc102, hQ102, l102, y102, z102⟩, st102⟩ := X100.specialBack hx (y := (⟨"com/example/eventail/eventail/DeliveryCount", "<init>", "()V"⟩ : MethodName)) rfl hown (mvT hZ (W 3 rfl)) (mvT hZ (W 4 rfl)) (mvT hZ (W 5 rfl)) (by decide) (backOf (W := 1) (rm1 l Z a0 hw [] b100 h100 n0 Z0_c101 ) hZ (W 5 rfl) (W 2 rfl) (by decide) (by decide)) (g := (mkF m 40 #[.val (.int p1), .val (.int (1 : Int32)), .val (.int (0 : Int32)), .val (.int (1 : Int32)), .unset, .unset, .unset, .unset] [(.ref b100), (.ref b100)])) rfl (by rw [hml]; rfl) (Steps.refl _) (a := b100) (argsL := []) (rest := [(.ref b100)]) (lenOf pd_1 rfl) rfl (by show 2 * 0 + _ ≤ _; exact Nat.le_of_eq rfl) (hb hby at_40) (fun _ _ => ⟨rfl, e100, (by decide : 1 + 0 ≤ _), (by decide : 16 + 0 ≤ _)⟩)
        dsimp only [Pt.U, Pt.locs, Pt.cells, Pt.slots] at X102 l102 y102 z102 st102 hQ102
        subst l102 y102 z102
        obtain ⟨rfl, N102q, e102⟩ := hQ102
        have N102 := Fr.app N0 N102q
        refine own_goT st102 ?_
        show own_Run p e below _ T102 (mkF m 43 #[.val (.int p1), .val (.int (1 : Int32)), .val (.int (0 : Int32)), .val (.int (1 : Int32)), .unset, .unset, .unset, .unset] [(.ref b100)])
        refine own_go (fun _ k => XS.astore X102.here hx rfl (hb hby at_43) rfl rfl (l' := #[.val (.int p1), .val (.int (1 : Int32)), .val (.int (0 : Int32)), .val (.int (1 : Int32)), .val (.ref b100), .unset, .unset, .unset]) rfl k) ?_
        refine own_go (fun _ k => XS.iloadN X102.here hx rfl (hb hby at_45) rfl k) ?_
        show own_Run p e below _ T102 (mkF m 46 #[.val (.int p1), .val (.int (1 : Int32)), .val (.int (0 : Int32)), .val (.int (1 : Int32)), .val (.ref b100), .unset, .unset, .unset] [(.int (1 : Int32))])
        refine own_go (fun _ k => XS.ifNo X102.here hx rfl (hb hby at_46) rfl ((if0 _ _).trans (feq (by decide : ¬ ((1 : Int32) = (0 : Int32)))).1) k) ?_
        show own_Run p e below _ T102 (mkF m 49 #[.val (.int p1), .val (.int (1 : Int32)), .val (.int (0 : Int32)), .val (.int (1 : Int32)), .val (.ref b100), .unset, .unset, .unset] [])
        refine own_go (fun _ k => XS.aload X102.here hx rfl (hb hby at_49) rfl rfl k) ?_
        refine own_go (fun _ k => XS.iloadN X102.here hx rfl (hb hby at_51) rfl k) ?_
        show own_Run p e below _ T102 (mkF m 52 #[.val (.int p1), .val (.int (1 : Int32)), .val (.int (0 : Int32)), .val (.int (1 : Int32)), .val (.ref b100), .unset, .unset, .unset] [(.int (0 : Int32)), (.ref b100)])
        obtain ⟨cq103, kq103, q103a, q103b, q103c⟩ := isOf hZ e102 A100
        obtain ⟨_, _, ⟨T103, L103, k103, n103⟩, -, X103, ⟨Lc103, hQ103, l103, y103, z103⟩, st103⟩ := X102.virtualBack hx (y := (⟨"com/example/eventail/eventail/DeliveryCount", "setRoomWanted", "(Z)V"⟩ : MethodName)) (z := (⟨"com/example/eventail/eventail/DeliveryCount", "setRoomWanted", "(Z)V"⟩ : MethodName)) hown (mvT hZ (W 28 rfl)) (mvT hZ (W 29 rfl)) (notFace_of_selects (args := #[]) (mvT hZ (W 31 rfl))) (mvT hZ (W 31 rfl)) (mvT hZ (W 30 rfl)) (by decide) (backOf (W := 0) (rm6 l Z a0 hw [] b100 (0 : Int32) (0 : Int64) (0 : Int64) (0 : Int64) h100 n0 Z0_c101 A100 F_roomWanted_b100 F_begun_b100 g_b100 (Or.inl ⟨rfl, rfl⟩)) hZ (W 32 rfl) (W 2 rfl) (by decide) (by decide)) q103a q103c (g := (mkF m 52 #[.val (.int p1), .val (.int (1 : Int32)), .val (.int (0 : Int32)), .val (.int (1 : Int32)), .val (.ref b100), .unset, .unset, .unset] [(.int (0 : Int32)), (.ref b100)])) rfl (by rw [hml]; rfl) (Steps.refl _) (argsL := [(.int (0 : Int32))]) (rest := []) (lenOf pd_4 rfl) rfl (by show 2 * 0 + _ ≤ _; exact Nat.le_of_eq rfl) (hb hby at_52) (fun _ _ => ⟨rfl, e102, (by decide : 1 + 0 ≤ _), (by decide : 16 + 0 ≤ _)⟩)
        dsimp only [Pt.U, Pt.locs, Pt.cells, Pt.slots] at X103 l103 y103 z103 st103 hQ103
        subst l103 y103 z103
        obtain ⟨rfl, N103q, K103, P103_0, P103_1, P103_2⟩ := hQ103
        have N103 := Fr.app N102 N103q
        refine own_goT st103 ?_
        show own_Run p e below _ T103 (mkF m 55 #[.val (.int p1), .val (.int (1 : Int32)), .val (.int (0 : Int32)), .val (.int (1 : Int32)), .val (.ref b100), .unset, .unset, .unset] [])
        have Z0_c104 := Nat.le_trans Z0_c101 K103.1
        have K0_c104 := K0_c101.trans K103 (allS (Or.inr sz_b100) all0)
        have A100_c104 := A100.keep K103
        refine own_go (fun _ k => XS.iloadN X103.here hx rfl (hb hby at_55) rfl k) ?_
        show own_Run p e below _ T103 (mkF m 56 #[.val (.int p1), .val (.int (1 : Int32)), .val (.int (0 : Int32)), .val (.int (1 : Int32)), .val (.ref b100), .unset, .unset, .unset] [(.int (1 : Int32))])
        refine own_go (fun _ k => XS.ifNo X103.here hx rfl (hb hby at_56) rfl ((if0 _ _).trans (feq (by decide : ¬ ((1 : Int32) = (0 : Int32)))).1) k) ?_
        show own_Run p e below _ T103 (mkF m 59 #[.val (.int p1), .val (.int (1 : Int32)), .val (.int (0 : Int32)), .val (.int (1 : Int32)), .val (.ref b100), .unset, .unset, .unset] [])
        refine own_go (fun _ k => XS.iloadN X103.here hx rfl (hb hby at_59) rfl k) ?_
        show own_Run p e below _ T103 (mkF m 60 #[.val (.int p1), .val (.int (1 : Int32)), .val (.int (0 : Int32)), .val (.int (1 : Int32)), .val (.ref b100), .unset, .unset, .unset] [(.int (0 : Int32))])
        refine own_go (fun _ k => XS.ifYes X103.here hx rfl (pc0 := 60) (pc' := 67) rfl (hb hby at_60) rfl ((if0 _ _).trans (teq (by decide : (0 : Int32) = (0 : Int32))).1) (by decide) (by decide) k) ?_
        show own_Run p e below _ T103 (mkF m 67 #[.val (.int p1), .val (.int (1 : Int32)), .val (.int (0 : Int32)), .val (.int (1 : Int32)), .val (.ref b100), .unset, .unset, .unset] [])
        refine own_go (fun _ k => XS.iconst X103.here hx rfl (hb hby at_67) k) ?_
        refine own_go (fun _ k => XS.istore X103.here hx rfl (hb hby at_68) rfl (l' := #[.val (.int p1), .val (.int (1 : Int32)), .val (.int (0 : Int32)), .val (.int (1 : Int32)), .val (.ref b100), .val (.int (0 : Int32)), .unset, .unset]) rfl k) ?_
        refine own_go (fun _ k => XS.aload X103.here hx rfl (hb hby at_70) rfl rfl k) ?_
        show own_Run p e below _ T103 (mkF m 72 #[.val (.int p1), .val (.int (1 : Int32)), .val (.int (0 : Int32)), .val (.int (1 : Int32)), .val (.ref b100), .val (.int (0 : Int32)), .unset, .unset] [(.ref b100)])
        obtain ⟨cq105, kq105, q105a, q105b, q105c⟩ := isOf hZ rfl P103_0
        obtain ⟨_, _, ⟨T105, L105, k105, n105⟩, -, X105, ⟨Lc105, hQ105, l105, y105, z105⟩, st105⟩ := X103.virtualBack hx (y := (⟨"com/example/eventail/eventail/DeliveryCount", "deliveryBegins", "()Z"⟩ : MethodName)) (z := (⟨"com/example/eventail/eventail/DeliveryCount", "deliveryBegins", "()Z"⟩ : MethodName)) hown (mvT hZ (W 9 rfl)) (mvT hZ (W 10 rfl)) (notFace_of_selects (args := #[]) (mvT hZ (W 12 rfl))) (mvT hZ (W 12 rfl)) (mvT hZ (W 11 rfl)) (by decide) (backOf (W := 0) (rm3 l Z a0 hw [] b100 (0 : Int64) (0 : Int32) (0 : Int64) T103.heap n0 Z0_c104 P103_0 P103_1 P103_2 g_b100 (Or.inl ⟨rfl, rfl⟩)) hZ (W 13 rfl) (W 2 rfl) (by decide) (by decide)) q105a q105c (g := (mkF m 72 #[.val (.int p1), .val (.int (1 : Int32)), .val (.int (0 : Int32)), .val (.int (1 : Int32)), .val (.ref b100), .val (.int (0 : Int32)), .unset, .unset] [(.ref b100)])) rfl (by rw [hml]; rfl) (Steps.refl _) (argsL := []) (rest := []) (lenOf pd_2 rfl) rfl (by show 2 * 0 + _ ≤ _; exact Nat.le_of_eq rfl) (hb hby at_72) (fun _ _ => ⟨rfl, rfl, (by decide : 1 + 0 ≤ _), (by decide : 16 + 0 ≤ _)⟩)
        dsimp only [Pt.U, Pt.locs, Pt.cells, Pt.slots] at X105 l105 y105 z105 st105 hQ105
        subst l105 y105 z105
        obtain ⟨rfl, N105q, K105, P105_0, P105_1, P105_2⟩ := hQ105
        have N105 := Fr.app N103 N105q
        refine own_goT st105 ?_
        show own_Run p e below _ T105 (mkF m 75 #[.val (.int p1), .val (.int (1 : Int32)), .val (.int (0 : Int32)), .val (.int (1 : Int32)), .val (.ref b100), .val (.int (0 : Int32)), .unset, .unset] [(.int (0 : Int32))])
        have Z0_c106 := Nat.le_trans Z0_c104 K105.1
        have K0_c106 := K0_c104.trans K105 (allS (Or.inr sz_b100) all0)
        have P103_0_c106 := P103_0.keep K105
        have F_begun_e107 : Fld Z T105.heap b100 "com/example/eventail/eventail/DeliveryCount" "begun" "J" (.long (1 : Int64)) := P105_2
        refine own_go (fun _ k => XS.istore X105.here hx rfl (hb hby at_75) rfl (l' := #[.val (.int p1), .val (.int (1 : Int32)), .val (.int (0 : Int32)), .val (.int (1 : Int32)), .val (.ref b100), .val (.int (0 : Int32)), .val (.int (0 : Int32)), .unset]) rfl k) ?_
        refine own_go (fun _ k => XS.iload X105.here hx rfl (hb hby at_77) rfl k) ?_
        refine own_go (fun _ k => XS.iload X105.here hx rfl (hb hby at_79) rfl k) ?_
        show own_Run p e below _ T105 (mkF m 81 #[.val (.int p1), .val (.int (1 : Int32)), .val (.int (0 : Int32)), .val (.int (1 : Int32)), .val (.ref b100), .val (.int (0 : Int32)), .val (.int (0 : Int32)), .unset] [(.int (0 : Int32)), (.int (0 : Int32))])
        refine own_go (fun _ k => XS.icmpYes X105.here hx rfl (pc0 := 81) (pc' := 86) rfl (hb hby at_81) rfl (teq (by decide : (0 : Int32) = (0 : Int32))).1 (by decide) (by decide) k) ?_
        show own_Run p e below _ T105 (mkF m 86 #[.val (.int p1), .val (.int (1 : Int32)), .val (.int (0 : Int32)), .val (.int (1 : Int32)), .val (.ref b100), .val (.int (0 : Int32)), .val (.int (0 : Int32)), .unset] [])
        refine own_go (fun _ k => XS.aload X105.here hx rfl (hb hby at_86) rfl rfl k) ?_
        show own_Run p e below _ T105 (mkF m 88 #[.val (.int p1), .val (.int (1 : Int32)), .val (.int (0 : Int32)), .val (.int (1 : Int32)), .val (.ref b100), .val (.int (0 : Int32)), .val (.int (0 : Int32)), .unset] [(.ref b100)])
        obtain ⟨cq108, kq108, q108a, q108b, q108c⟩ := isOf hZ rfl P105_0
        obtain ⟨_, _, ⟨T108, L108, k108, n108⟩, -, X108, ⟨Lc108, hQ108, l108, y108, z108⟩, st108⟩ := X105.virtualBack hx (y := (⟨"com/example/eventail/eventail/DeliveryCount", "begun", "()J"⟩ : MethodName)) (z := (⟨"com/example/eventail/eventail/DeliveryCount", "begun", "()J"⟩ : MethodName)) hown (mvT hZ (W 18 rfl)) (mvT hZ (W 19 rfl)) (notFace_of_selects (args := #[]) (mvT hZ (W 21 rfl))) (mvT hZ (W 21 rfl)) (mvT hZ (W 20 rfl)) (by decide) (backOf (W := 0) (rm4 l Z a0 hw [] b100 (1 : Int64) T105.heap n0 Z0_c106 F_begun_e107) hZ (W 22 rfl) (W 2 rfl) (by decide) (by decide)) q108a q108c (g := (mkF m 88 #[.val (.int p1), .val (.int (1 : Int32)), .val (.int (0 : Int32)), .val (.int (1 : Int32)), .val (.ref b100), .val (.int (0 : Int32)), .val (.int (0 : Int32)), .unset] [(.ref b100)])) rfl (by rw [hml]; rfl) (Steps.refl _) (argsL := []) (rest := []) (lenOf pd_3 rfl) rfl (by show 2 * 0 + _ ≤ _; exact Nat.le_of_eq rfl) (hb hby at_88) (fun _ _ => ⟨rfl, rfl, (by decide : 1 + 0 ≤ _), (by decide : 16 + 0 ≤ _)⟩)
        dsimp only [Pt.U, Pt.locs, Pt.cells, Pt.slots] at X108 l108 y108 z108 st108 hQ108
        subst l108 y108 z108
        obtain ⟨rfl, N108q, e108⟩ := hQ108
        have N108 := Fr.app N105 N108q
        refine own_goT st108 ?_
        show own_Run p e below _ T108 (mkF m 91 #[.val (.int p1), .val (.int (1 : Int32)), .val (.int (0 : Int32)), .val (.int (1 : Int32)), .val (.ref b100), .val (.int (0 : Int32)), .val (.int (0 : Int32)), .unset] [(.long (1 : Int64))])
        refine own_go (fun _ k => XS.lconst X108.here hx rfl (hb hby at_91) k) ?_
        refine own_go (fun _ k => XS.lcmp X108.here hx rfl (hb hby at_92) rfl k) ?_
        show own_Run p e below _ T108 (mkF m 93 #[.val (.int p1), .val (.int (1 : Int32)), .val (.int (0 : Int32)), .val (.int (1 : Int32)), .val (.ref b100), .val (.int (0 : Int32)), .val (.int (0 : Int32)), .unset] [(.int (lcmpW (1 : Int64) (1 : Int64)))])
        refine own_go (fun _ k => XS.ifYes X108.here hx rfl (pc0 := 93) (pc' := 98) rfl (hb hby at_93) rfl (own_lcTe (by decide : (1 : Int64) = (1 : Int64))).1 (by decide) (by decide) k) ?_
        show own_Run p e below _ T108 (mkF m 98 #[.val (.int p1), .val (.int (1 : Int32)), .val (.int (0 : Int32)), .val (.int (1 : Int32)), .val (.ref b100), .val (.int (0 : Int32)), .val (.int (0 : Int32)), .unset] [])
        refine own_go (fun _ k => XS.aload X108.here hx rfl (hb hby at_98) rfl rfl k) ?_
        show own_Run p e below _ T108 (mkF m 100 #[.val (.int p1), .val (.int (1 : Int32)), .val (.int (0 : Int32)), .val (.int (1 : Int32)), .val (.ref b100), .val (.int (0 : Int32)), .val (.int (0 : Int32)), .unset] [(.ref b100)])
        obtain ⟨cq109, kq109, q109a, q109b, q109c⟩ := isOf hZ e108 P105_0
        obtain ⟨_, _, ⟨T109, L109, k109, n109⟩, -, X109, ⟨Lc109, hQ109, l109, y109, z109⟩, st109⟩ := X108.virtualBack hx (y := (⟨"com/example/eventail/eventail/DeliveryCount", "isRoomWanted", "()Z"⟩ : MethodName)) (z := (⟨"com/example/eventail/eventail/DeliveryCount", "isRoomWanted", "()Z"⟩ : MethodName)) hown (mvT hZ (W 23 rfl)) (mvT hZ (W 24 rfl)) (notFace_of_selects (args := #[]) (mvT hZ (W 26 rfl))) (mvT hZ (W 26 rfl)) (mvT hZ (W 25 rfl)) (by decide) (backOf (W := 0) (rm5 l Z a0 hw [] b100 (0 : Int64) (0 : Int32) T105.heap n0 Z0_c106 P105_1 (Or.inl ⟨rfl, rfl⟩)) hZ (W 27 rfl) (W 2 rfl) (by decide) (by decide)) q109a q109c (g := (mkF m 100 #[.val (.int p1), .val (.int (1 : Int32)), .val (.int (0 : Int32)), .val (.int (1 : Int32)), .val (.ref b100), .val (.int (0 : Int32)), .val (.int (0 : Int32)), .unset] [(.ref b100)])) rfl (by rw [hml]; rfl) (Steps.refl _) (argsL := []) (rest := []) (lenOf pd_2 rfl) rfl (by show 2 * 0 + _ ≤ _; exact Nat.le_of_eq rfl) (hb hby at_100) (fun _ _ => ⟨rfl, e108, (by decide : 1 + 0 ≤ _), (by decide : 16 + 0 ≤ _)⟩)
        dsimp only [Pt.U, Pt.locs, Pt.cells, Pt.slots] at X109 l109 y109 z109 st109 hQ109
        subst l109 y109 z109
        obtain ⟨rfl, N109q, e109⟩ := hQ109
        have N109 := Fr.app N108 N109q
        refine own_goT st109 ?_
        show own_Run p e below _ T109 (mkF m 103 #[.val (.int p1), .val (.int (1 : Int32)), .val (.int (0 : Int32)), .val (.int (1 : Int32)), .val (.ref b100), .val (.int (0 : Int32)), .val (.int (0 : Int32)), .unset] [(.int (0 : Int32))])
        refine own_go (fun _ k => XS.iload X109.here hx rfl (hb hby at_103) rfl k) ?_
        show own_Run p e below _ T109 (mkF m 105 #[.val (.int p1), .val (.int (1 : Int32)), .val (.int (0 : Int32)), .val (.int (1 : Int32)), .val (.ref b100), .val (.int (0 : Int32)), .val (.int (0 : Int32)), .unset] [(.int (0 : Int32)), (.int (0 : Int32))])
        refine own_go (fun _ k => XS.icmpYes X109.here hx rfl (pc0 := 105) (pc' := 110) rfl (hb hby at_105) rfl (teq (by decide : (0 : Int32) = (0 : Int32))).1 (by decide) (by decide) k) ?_
        show own_Run p e below _ T109 (mkF m 110 #[.val (.int p1), .val (.int (1 : Int32)), .val (.int (0 : Int32)), .val (.int (1 : Int32)), .val (.ref b100), .val (.int (0 : Int32)), .val (.int (0 : Int32)), .unset] [])
        refine own_go (fun _ k => XS.aload X109.here hx rfl (hb hby at_110) rfl rfl k) ?_
        refine own_go (fun _ k => XS.iloadN X109.here hx rfl (hb hby at_112) rfl k) ?_
        show own_Run p e below _ T109 (mkF m 113 #[.val (.int p1), .val (.int (1 : Int32)), .val (.int (0 : Int32)), .val (.int (1 : Int32)), .val (.ref b100), .val (.int (0 : Int32)), .val (.int (0 : Int32)), .unset] [(.int (1 : Int32)), (.ref b100)])
        obtain ⟨cq110, kq110, q110a, q110b, q110c⟩ := isOf hZ e109 P105_0
        obtain ⟨_, _, ⟨T110, L110, k110, n110⟩, -, X110, ⟨Lc110, hQ110, l110, y110, z110⟩, st110⟩ := X109.virtualBack hx (y := (⟨"com/example/eventail/eventail/DeliveryCount", "setRoomWanted", "(Z)V"⟩ : MethodName)) (z := (⟨"com/example/eventail/eventail/DeliveryCount", "setRoomWanted", "(Z)V"⟩ : MethodName)) hown (mvT hZ (W 28 rfl)) (mvT hZ (W 29 rfl)) (notFace_of_selects (args := #[]) (mvT hZ (W 31 rfl))) (mvT hZ (W 31 rfl)) (mvT hZ (W 30 rfl)) (by decide) (backOf (W := 0) (rm6 l Z a0 hw [] b100 (1 : Int32) (0 : Int64) (1 : Int64) (1 : Int64) T105.heap n0 Z0_c106 P105_0 P105_1 F_begun_e107 g_b100 (Or.inr ⟨rfl, rfl⟩)) hZ (W 32 rfl) (W 2 rfl) (by decide) (by decide)) q110a q110c (g := (mkF m 113 #[.val (.int p1), .val (.int (1 : Int32)), .val (.int (0 : Int32)), .val (.int (1 : Int32)), .val (.ref b100), .val (.int (0 : Int32)), .val (.int (0 : Int32)), .unset] [(.int (1 : Int32)), (.ref b100)])) rfl (by rw [hml]; rfl) (Steps.refl _) (argsL := [(.int (1 : Int32))]) (rest := []) (lenOf pd_4 rfl) rfl (by show 2 * 0 + _ ≤ _; exact Nat.le_of_eq rfl) (hb hby at_113) (fun _ _ => ⟨rfl, e109, (by decide : 1 + 0 ≤ _), (by decide : 16 + 0 ≤ _)⟩)
        dsimp only [Pt.U, Pt.locs, Pt.cells, Pt.slots] at X110 l110 y110 z110 st110 hQ110
        subst l110 y110 z110
        obtain ⟨rfl, N110q, K110, P110_0, P110_1, P110_2⟩ := hQ110
        have N110 := Fr.app N109 N110q
        refine own_goT st110 ?_
        show own_Run p e below _ T110 (mkF m 116 #[.val (.int p1), .val (.int (1 : Int32)), .val (.int (0 : Int32)), .val (.int (1 : Int32)), .val (.ref b100), .val (.int (0 : Int32)), .val (.int (0 : Int32)), .unset] [])
        have Z0_c111 := Nat.le_trans Z0_c106 K110.1
        have K0_c111 := K0_c106.trans K110 (allS (Or.inr sz_b100) all0)
        have P105_0_c111 := P105_0.keep K110
        refine own_go (fun _ k => XS.aload X110.here hx rfl (hb hby at_116) rfl rfl k) ?_
        show own_Run p e below _ T110 (mkF m 118 #[.val (.int p1), .val (.int (1 : Int32)), .val (.int (0 : Int32)), .val (.int (1 : Int32)), .val (.ref b100), .val (.int (0 : Int32)), .val (.int (0 : Int32)), .unset] [(.ref b100)])
        obtain ⟨cq112, kq112, q112a, q112b, q112c⟩ := isOf hZ rfl P110_0
        obtain ⟨_, _, ⟨T112, L112, k112, n112⟩, -, X112, ⟨Lc112, hQ112, l112, y112, z112⟩, st112⟩ := X110.virtualBack hx (y := (⟨"com/example/eventail/eventail/DeliveryCount", "deliveryBegins", "()Z"⟩ : MethodName)) (z := (⟨"com/example/eventail/eventail/DeliveryCount", "deliveryBegins", "()Z"⟩ : MethodName)) hown (mvT hZ (W 9 rfl)) (mvT hZ (W 10 rfl)) (notFace_of_selects (args := #[]) (mvT hZ (W 12 rfl))) (mvT hZ (W 12 rfl)) (mvT hZ (W 11 rfl)) (by decide) (backOf (W := 0) (rm3 l Z a0 hw [] b100 (1 : Int64) (1 : Int32) (1 : Int64) T110.heap n0 Z0_c111 P110_0 P110_1 P110_2 g_b100 (Or.inr ⟨rfl, rfl⟩)) hZ (W 13 rfl) (W 2 rfl) (by decide) (by decide)) q112a q112c (g := (mkF m 118 #[.val (.int p1), .val (.int (1 : Int32)), .val (.int (0 : Int32)), .val (.int (1 : Int32)), .val (.ref b100), .val (.int (0 : Int32)), .val (.int (0 : Int32)), .unset] [(.ref b100)])) rfl (by rw [hml]; rfl) (Steps.refl _) (argsL := []) (rest := []) (lenOf pd_2 rfl) rfl (by show 2 * 0 + _ ≤ _; exact Nat.le_of_eq rfl) (hb hby at_118) (fun _ _ => ⟨rfl, rfl, (by decide : 1 + 0 ≤ _), (by decide : 16 + 0 ≤ _)⟩)
        dsimp only [Pt.U, Pt.locs, Pt.cells, Pt.slots] at X112 l112 y112 z112 st112 hQ112
        subst l112 y112 z112
        obtain ⟨rfl, N112q, K112, P112_0, P112_1, P112_2⟩ := hQ112
        have N112 := Fr.app N110 N112q
        refine own_goT st112 ?_
        show own_Run p e below _ T112 (mkF m 121 #[.val (.int p1), .val (.int (1 : Int32)), .val (.int (0 : Int32)), .val (.int (1 : Int32)), .val (.ref b100), .val (.int (0 : Int32)), .val (.int (0 : Int32)), .unset] [(.int (1 : Int32))])
        have Z0_c113 := Nat.le_trans Z0_c111 K112.1
        have K0_c113 := K0_c111.trans K112 (allS (Or.inr sz_b100) all0)
        have P110_0_c113 := P110_0.keep K112
        have F_begun_e114 : Fld Z T112.heap b100 "com/example/eventail/eventail/DeliveryCount" "begun" "J" (.long (2 : Int64)) := P112_2
        refine own_go (fun _ k => XS.istore X112.here hx rfl (hb hby at_121) rfl (l' := #[.val (.int p1), .val (.int (1 : Int32)), .val (.int (0 : Int32)), .val (.int (1 : Int32)), .val (.ref b100), .val (.int (0 : Int32)), .val (.int (0 : Int32)), .val (.int (1 : Int32))]) rfl k) ?_
        refine own_go (fun _ k => XS.iload X112.here hx rfl (hb hby at_123) rfl k) ?_
        refine own_go (fun _ k => XS.iloadN X112.here hx rfl (hb hby at_125) rfl k) ?_
        show own_Run p e below _ T112 (mkF m 126 #[.val (.int p1), .val (.int (1 : Int32)), .val (.int (0 : Int32)), .val (.int (1 : Int32)), .val (.ref b100), .val (.int (0 : Int32)), .val (.int (0 : Int32)), .val (.int (1 : Int32))] [(.int (1 : Int32)), (.int (1 : Int32))])
        refine own_go (fun _ k => XS.icmpYes X112.here hx rfl (pc0 := 126) (pc' := 131) rfl (hb hby at_126) rfl (teq (by decide : (1 : Int32) = (1 : Int32))).1 (by decide) (by decide) k) ?_
        show own_Run p e below _ T112 (mkF m 131 #[.val (.int p1), .val (.int (1 : Int32)), .val (.int (0 : Int32)), .val (.int (1 : Int32)), .val (.ref b100), .val (.int (0 : Int32)), .val (.int (0 : Int32)), .val (.int (1 : Int32))] [])
        refine own_go (fun _ k => XS.aload X112.here hx rfl (hb hby at_131) rfl rfl k) ?_
        show own_Run p e below _ T112 (mkF m 133 #[.val (.int p1), .val (.int (1 : Int32)), .val (.int (0 : Int32)), .val (.int (1 : Int32)), .val (.ref b100), .val (.int (0 : Int32)), .val (.int (0 : Int32)), .val (.int (1 : Int32))] [(.ref b100)])
        obtain ⟨cq115, kq115, q115a, q115b, q115c⟩ := isOf hZ rfl P112_0
        obtain ⟨_, _, ⟨T115, L115, k115, n115⟩, -, X115, ⟨Lc115, hQ115, l115, y115, z115⟩, st115⟩ := X112.virtualBack hx (y := (⟨"com/example/eventail/eventail/DeliveryCount", "begun", "()J"⟩ : MethodName)) (z := (⟨"com/example/eventail/eventail/DeliveryCount", "begun", "()J"⟩ : MethodName)) hown (mvT hZ (W 18 rfl)) (mvT hZ (W 19 rfl)) (notFace_of_selects (args := #[]) (mvT hZ (W 21 rfl))) (mvT hZ (W 21 rfl)) (mvT hZ (W 20 rfl)) (by decide) (backOf (W := 0) (rm4 l Z a0 hw [] b100 (2 : Int64) T112.heap n0 Z0_c113 F_begun_e114) hZ (W 22 rfl) (W 2 rfl) (by decide) (by decide)) q115a q115c (g := (mkF m 133 #[.val (.int p1), .val (.int (1 : Int32)), .val (.int (0 : Int32)), .val (.int (1 : Int32)), .val (.ref b100), .val (.int (0 : Int32)), .val (.int (0 : Int32)), .val (.int (1 : Int32))] [(.ref b100)])) rfl (by rw [hml]; rfl) (Steps.refl _) (argsL := []) (rest := []) (lenOf pd_3 rfl) rfl (by show 2 * 0 + _ ≤ _; exact Nat.le_of_eq rfl) (hb hby at_133) (fun _ _ => ⟨rfl, rfl, (by decide : 1 + 0 ≤ _), (by decide : 16 + 0 ≤ _)⟩)
        dsimp only [Pt.U, Pt.locs, Pt.cells, Pt.slots] at X115 l115 y115 z115 st115 hQ115
        subst l115 y115 z115
        obtain ⟨rfl, N115q, e115⟩ := hQ115
        have N115 := Fr.app N112 N115q
        refine own_goT st115 ?_
        show own_Run p e below _ T115 (mkF m 136 #[.val (.int p1), .val (.int (1 : Int32)), .val (.int (0 : Int32)), .val (.int (1 : Int32)), .val (.ref b100), .val (.int (0 : Int32)), .val (.int (0 : Int32)), .val (.int (1 : Int32))] [(.long (2 : Int64))])
        refine own_go (X115.ldc2Long hx hown (mvT hZ (W 33 rfl)) (g := (mkF m 136 #[.val (.int p1), .val (.int (1 : Int32)), .val (.int (0 : Int32)), .val (.int (1 : Int32)), .val (.ref b100), .val (.int (0 : Int32)), .val (.int (0 : Int32)), .val (.int (1 : Int32))] [(.long (2 : Int64))])) rfl (hb hby at_136)) ?_
        show own_Run p e below _ T115 (mkF m 139 #[.val (.int p1), .val (.int (1 : Int32)), .val (.int (0 : Int32)), .val (.int (1 : Int32)), .val (.ref b100), .val (.int (0 : Int32)), .val (.int (0 : Int32)), .val (.int (1 : Int32))] [(.long (2 : Int64)), (.long (2 : Int64))])
        refine own_go (fun _ k => XS.lcmp X115.here hx rfl (hb hby at_139) rfl k) ?_
        show own_Run p e below _ T115 (mkF m 140 #[.val (.int p1), .val (.int (1 : Int32)), .val (.int (0 : Int32)), .val (.int (1 : Int32)), .val (.ref b100), .val (.int (0 : Int32)), .val (.int (0 : Int32)), .val (.int (1 : Int32))] [(.int (lcmpW (2 : Int64) (2 : Int64)))])
        refine own_go (fun _ k => XS.ifYes X115.here hx rfl (pc0 := 140) (pc' := 145) rfl (hb hby at_140) rfl (own_lcTe (by decide : (2 : Int64) = (2 : Int64))).1 (by decide) (by decide) k) ?_
        show own_Run p e below _ T115 (mkF m 145 #[.val (.int p1), .val (.int (1 : Int32)), .val (.int (0 : Int32)), .val (.int (1 : Int32)), .val (.ref b100), .val (.int (0 : Int32)), .val (.int (0 : Int32)), .val (.int (1 : Int32))] [])
        refine own_go (fun _ k => XS.aload X115.here hx rfl (hb hby at_145) rfl rfl k) ?_
        show own_Run p e below _ T115 (mkF m 147 #[.val (.int p1), .val (.int (1 : Int32)), .val (.int (0 : Int32)), .val (.int (1 : Int32)), .val (.ref b100), .val (.int (0 : Int32)), .val (.int (0 : Int32)), .val (.int (1 : Int32))] [(.ref b100)])
        obtain ⟨cq116, kq116, q116a, q116b, q116c⟩ := isOf hZ e115 P112_0
        obtain ⟨_, _, ⟨T116, L116, k116, n116⟩, -, X116, ⟨Lc116, hQ116, l116, y116, z116⟩, st116⟩ := X115.virtualBack hx (y := (⟨"com/example/eventail/eventail/DeliveryCount", "isRoomWanted", "()Z"⟩ : MethodName)) (z := (⟨"com/example/eventail/eventail/DeliveryCount", "isRoomWanted", "()Z"⟩ : MethodName)) hown (mvT hZ (W 23 rfl)) (mvT hZ (W 24 rfl)) (notFace_of_selects (args := #[]) (mvT hZ (W 26 rfl))) (mvT hZ (W 26 rfl)) (mvT hZ (W 25 rfl)) (by decide) (backOf (W := 0) (rm5 l Z a0 hw [] b100 (1 : Int64) (1 : Int32) T112.heap n0 Z0_c113 P112_1 (Or.inr ⟨rfl, rfl⟩)) hZ (W 27 rfl) (W 2 rfl) (by decide) (by decide)) q116a q116c (g := (mkF m 147 #[.val (.int p1), .val (.int (1 : Int32)), .val (.int (0 : Int32)), .val (.int (1 : Int32)), .val (.ref b100), .val (.int (0 : Int32)), .val (.int (0 : Int32)), .val (.int (1 : Int32))] [(.ref b100)])) rfl (by rw [hml]; rfl) (Steps.refl _) (argsL := []) (rest := []) (lenOf pd_2 rfl) rfl (by show 2 * 0 + _ ≤ _; exact Nat.le_of_eq rfl) (hb hby at_147) (fun _ _ => ⟨rfl, e115, (by decide : 1 + 0 ≤ _), (by decide : 16 + 0 ≤ _)⟩)
        dsimp only [Pt.U, Pt.locs, Pt.cells, Pt.slots] at X116 l116 y116 z116 st116 hQ116
        subst l116 y116 z116
        obtain ⟨rfl, N116q, e116⟩ := hQ116
        have N116 := Fr.app N115 N116q
        refine own_goT st116 ?_
        show own_Run p e below _ T116 (mkF m 150 #[.val (.int p1), .val (.int (1 : Int32)), .val (.int (0 : Int32)), .val (.int (1 : Int32)), .val (.ref b100), .val (.int (0 : Int32)), .val (.int (0 : Int32)), .val (.int (1 : Int32))] [(.int (1 : Int32))])
        refine own_go (fun _ k => XS.iloadN X116.here hx rfl (hb hby at_150) rfl k) ?_
        show own_Run p e below _ T116 (mkF m 151 #[.val (.int p1), .val (.int (1 : Int32)), .val (.int (0 : Int32)), .val (.int (1 : Int32)), .val (.ref b100), .val (.int (0 : Int32)), .val (.int (0 : Int32)), .val (.int (1 : Int32))] [(.int (1 : Int32)), (.int (1 : Int32))])
        refine own_go (fun _ k => XS.icmpNo X116.here hx rfl (hb hby at_151) rfl (teq (by decide : (1 : Int32) = (1 : Int32))).2 k) ?_
        show own_Run p e below _ T116 (mkF m 154 #[.val (.int p1), .val (.int (1 : Int32)), .val (.int (0 : Int32)), .val (.int (1 : Int32)), .val (.ref b100), .val (.int (0 : Int32)), .val (.int (0 : Int32)), .val (.int (1 : Int32))] [])
        refine own_go (fun _ k => XS.iconst X116.here hx rfl (hb hby at_154) k) ?_
        refine own_go (fun _ k => XS.goto X116.here hx rfl (pc0 := 155) (pc' := 159) rfl (hb hby at_155) (by decide) (by decide) k) ?_
        show own_Run p e below _ T116 (mkF m 159 #[.val (.int p1), .val (.int (1 : Int32)), .val (.int (0 : Int32)), .val (.int (1 : Int32)), .val (.ref b100), .val (.int (0 : Int32)), .val (.int (0 : Int32)), .val (.int (1 : Int32))] [(.int (1 : Int32))])
        refine own_done (Q := fun v h L => Q0 Z p1 h0 n0 v h L) (v := (some (.int (1 : Int32)))) X116 (fun h => by rw [hret] at h; cases h) hlk (fun fs hr => retN X116 hx (t := .boolean) hret (by simp) (hb hby at_159) hr) ?_ (by decide) (by decide)
        show Q0 Z p1 h0 n0 _ T116.heap _
        rw [e116]
        exact ⟨rfl, N116⟩
    · refine own_go (fun _ k => XS.ifNo X0.here hx rfl (hb hby at_15) rfl ((if0 _ _).trans (feq hc15_81).1) k) ?_
      show own_Run p e below _ s₁ (mkF m 18 #[.val (.int p1), .val (.int (1 : Int32)), .unset, .unset, .unset, .unset, .unset, .unset] [])
      refine own_go (fun _ k => XS.iconst X0.here hx rfl (hb hby at_18) k) ?_
      refine own_go (fun _ k => XS.goto X0.here hx rfl (pc0 := 19) (pc' := 23) rfl (hb hby at_19) (by decide) (by decide) k) ?_
      refine own_go (fun _ k => XS.istoreN X0.here hx rfl (hb hby at_23) rfl (l' := #[.val (.int p1), .val (.int (1 : Int32)), .val (.int (1 : Int32)), .unset, .unset, .unset, .unset, .unset]) rfl k) ?_
      refine own_go (fun _ k => XS.iloadN X0.here hx rfl (hb hby at_24) rfl k) ?_
      show own_Run p e below _ s₁ (mkF m 25 #[.val (.int p1), .val (.int (1 : Int32)), .val (.int (1 : Int32)), .unset, .unset, .unset, .unset, .unset] [(.int p1)])
      refine own_go (fun _ k => XS.iconst X0.here hx rfl (hb hby at_25) k) ?_
      refine own_go (fun _ k => XS.iand X0.here hx rfl (hb hby at_26) rfl k) ?_
      show own_Run p e below _ s₁ (mkF m 27 #[.val (.int p1), .val (.int (1 : Int32)), .val (.int (1 : Int32)), .unset, .unset, .unset, .unset, .unset] [(.int (p1 &&& (4 : Int32)))])
      by_cases hc27_117 : (p1 &&& (4 : Int32)) = (0 : Int32)
      · refine own_go (fun _ k => XS.ifYes X0.here hx rfl (pc0 := 27) (pc' := 34) rfl (hb hby at_27) rfl ((if0 _ _).trans (teq hc27_117).1) (by decide) (by decide) k) ?_
        show own_Run p e below _ s₁ (mkF m 34 #[.val (.int p1), .val (.int (1 : Int32)), .val (.int (1 : Int32)), .unset, .unset, .unset, .unset, .unset] [])
        refine own_go (fun _ k => XS.iconst X0.here hx rfl (hb hby at_34) k) ?_
        refine own_go (fun _ k => XS.istoreN X0.here hx rfl (hb hby at_35) rfl (l' := #[.val (.int p1), .val (.int (1 : Int32)), .val (.int (1 : Int32)), .val (.int (0 : Int32)), .unset, .unset, .unset, .unset]) rfl k) ?_
        show own_Run p e below _ s₁ (mkF m 36 #[.val (.int p1), .val (.int (1 : Int32)), .val (.int (1 : Int32)), .val (.int (0 : Int32)), .unset, .unset, .unset, .unset] [])
        obtain ⟨T118, h118, X118, e118, E118, A118, D118, -, st118⟩ := newO X0 hx hZ hown (W 0 rfl) (W 1 rfl) (W 2 rfl) e0 (g := (mkF m 36 #[.val (.int p1), .val (.int (1 : Int32)), .val (.int (1 : Int32)), .val (.int (0 : Int32)), .unset, .unset, .unset, .unset] [])) rfl (hb hby at_36) (by decide) (by decide)
        refine own_go st118 ?_
        obtain ⟨b118, g118⟩ : ∃ z, z = h0.size := ⟨_, rfl⟩
        rw [← g118] at A118 D118
        rw [← g118]
        show own_Run p e below _ T118 (mkF m 39 #[.val (.int p1), .val (.int (1 : Int32)), .val (.int (1 : Int32)), .val (.int (0 : Int32)), .unset, .unset, .unset, .unset] [(.ref b118)])
        have g_b118 : n0 ≤ b118 := Nat.le_trans Z0 (Nat.le_of_eq g118.symm)
        have sz_b118 : h0.size ≤ b118 := Nat.le_trans K0.1 (Nat.le_of_eq g118.symm)
        have Z0_c119 := Nat.le_trans Z0 E118.1
        have K0_c119 := K0.ext E118
        have F_begun_b118 : Fld Z h118 b118 "com/example/eventail/eventail/DeliveryCount" "begun" "J" (.long (0 : Int64)) := D118 (Or.inl (W 15 rfl)) (ty := .long) (by decide)
        have F_roomWanted_b118 : Fld Z h118 b118 "com/example/eventail/eventail/DeliveryCount" "roomWanted" "J" (.long (0 : Int64)) := D118 (Or.inl (W 17 rfl)) (ty := .long) (by decide)
        refine own_go (fun _ k => XS.dup X118.here hx rfl (hb hby at_39) rfl rfl k) ?_
        show own_Run p e below _ T118 (mkF m 40 #[.val (.int p1), .val (.int (1 : Int32)), .val (.int (1 : Int32)), .val (.int (0 : Int32)), .unset, .unset, .unset, .unset] [(.ref b118), (.ref b118)])
        obtain ⟨_, _, ⟨T120, L120, k120, n120⟩, -, X120, ⟨Lc120, hQ120, l120, y120, z120⟩, st120⟩ := X118.specialBack hx (y := (⟨"com/example/eventail/eventail/DeliveryCount", "<init>", "()V"⟩ : MethodName)) rfl hown (mvT hZ (W 3 rfl)) (mvT hZ (W 4 rfl)) (mvT hZ (W 5 rfl)) (by decide) (backOf (W := 1) (rm1 l Z a0 hw [] b118 h118 n0 Z0_c119 ) hZ (W 5 rfl) (W 2 rfl) (by decide) (by decide)) (g := (mkF m 40 #[.val (.int p1), .val (.int (1 : Int32)), .val (.int (1 : Int32)), .val (.int (0 : Int32)), .unset, .unset, .unset, .unset] [(.ref b118), (.ref b118)])) rfl (by rw [hml]; rfl) (Steps.refl _) (a := b118) (argsL := []) (rest := [(.ref b118)]) (lenOf pd_1 rfl) rfl (by show 2 * 0 + _ ≤ _; exact Nat.le_of_eq rfl) (hb hby at_40) (fun _ _ => ⟨rfl, e118, (by decide : 1 + 0 ≤ _), (by decide : 16 + 0 ≤ _)⟩)
        dsimp only [Pt.U, Pt.locs, Pt.cells, Pt.slots] at X120 l120 y120 z120 st120 hQ120
        subst l120 y120 z120
        obtain ⟨rfl, N120q, e120⟩ := hQ120
        have N120 := Fr.app N0 N120q
        refine own_goT st120 ?_
        show own_Run p e below _ T120 (mkF m 43 #[.val (.int p1), .val (.int (1 : Int32)), .val (.int (1 : Int32)), .val (.int (0 : Int32)), .unset, .unset, .unset, .unset] [(.ref b118)])
        refine own_go (fun _ k => XS.astore X120.here hx rfl (hb hby at_43) rfl rfl (l' := #[.val (.int p1), .val (.int (1 : Int32)), .val (.int (1 : Int32)), .val (.int (0 : Int32)), .val (.ref b118), .unset, .unset, .unset]) rfl k) ?_
        refine own_go (fun _ k => XS.iloadN X120.here hx rfl (hb hby at_45) rfl k) ?_
        show own_Run p e below _ T120 (mkF m 46 #[.val (.int p1), .val (.int (1 : Int32)), .val (.int (1 : Int32)), .val (.int (0 : Int32)), .val (.ref b118), .unset, .unset, .unset] [(.int (1 : Int32))])
        refine own_go (fun _ k => XS.ifNo X120.here hx rfl (hb hby at_46) rfl ((if0 _ _).trans (feq (by decide : ¬ ((1 : Int32) = (0 : Int32)))).1) k) ?_
        show own_Run p e below _ T120 (mkF m 49 #[.val (.int p1), .val (.int (1 : Int32)), .val (.int (1 : Int32)), .val (.int (0 : Int32)), .val (.ref b118), .unset, .unset, .unset] [])
        refine own_go (fun _ k => XS.aload X120.here hx rfl (hb hby at_49) rfl rfl k) ?_
        refine own_go (fun _ k => XS.iloadN X120.here hx rfl (hb hby at_51) rfl k) ?_
        show own_Run p e below _ T120 (mkF m 52 #[.val (.int p1), .val (.int (1 : Int32)), .val (.int (1 : Int32)), .val (.int (0 : Int32)), .val (.ref b118), .unset, .unset, .unset] [(.int (1 : Int32)), (.ref b118)])
        obtain ⟨cq121, kq121, q121a, q121b, q121c⟩ := isOf hZ e120 A118
        obtain ⟨_, _, ⟨T121, L121, k121, n121⟩, -, X121, ⟨Lc121, hQ121, l121, y121, z121⟩, st121⟩ := X120.virtualBack hx (y := (⟨"com/example/eventail/eventail/DeliveryCount", "setRoomWanted", "(Z)V"⟩ : MethodName)) (z := (⟨"com/example/eventail/eventail/DeliveryCount", "setRoomWanted", "(Z)V"⟩ : MethodName)) hown (mvT hZ (W 28 rfl)) (mvT hZ (W 29 rfl)) (notFace_of_selects (args := #[]) (mvT hZ (W 31 rfl))) (mvT hZ (W 31 rfl)) (mvT hZ (W 30 rfl)) (by decide) (backOf (W := 0) (rm6 l Z a0 hw [] b118 (1 : Int32) (0 : Int64) (1 : Int64) (0 : Int64) h118 n0 Z0_c119 A118 F_roomWanted_b118 F_begun_b118 g_b118 (Or.inr ⟨rfl, rfl⟩)) hZ (W 32 rfl) (W 2 rfl) (by decide) (by decide)) q121a q121c (g := (mkF m 52 #[.val (.int p1), .val (.int (1 : Int32)), .val (.int (1 : Int32)), .val (.int (0 : Int32)), .val (.ref b118), .unset, .unset, .unset] [(.int (1 : Int32)), (.ref b118)])) rfl (by rw [hml]; rfl) (Steps.refl _) (argsL := [(.int (1 : Int32))]) (rest := []) (lenOf pd_4 rfl) rfl (by show 2 * 0 + _ ≤ _; exact Nat.le_of_eq rfl) (hb hby at_52) (fun _ _ => ⟨rfl, e120, (by decide : 1 + 0 ≤ _), (by decide : 16 + 0 ≤ _)⟩)
        dsimp only [Pt.U, Pt.locs, Pt.cells, Pt.slots] at X121 l121 y121 z121 st121 hQ121
        subst l121 y121 z121
        obtain ⟨rfl, N121q, K121, P121_0, P121_1, P121_2⟩ := hQ121
        have N121 := Fr.app N120 N121q
        refine own_goT st121 ?_
        show own_Run p e below _ T121 (mkF m 55 #[.val (.int p1), .val (.int (1 : Int32)), .val (.int (1 : Int32)), .val (.int (0 : Int32)), .val (.ref b118), .unset, .unset, .unset] [])
        have Z0_c122 := Nat.le_trans Z0_c119 K121.1
        have K0_c122 := K0_c119.trans K121 (allS (Or.inr sz_b118) all0)
        have A118_c122 := A118.keep K121
        refine own_go (fun _ k => XS.iloadN X121.here hx rfl (hb hby at_55) rfl k) ?_
        show own_Run p e below _ T121 (mkF m 56 #[.val (.int p1), .val (.int (1 : Int32)), .val (.int (1 : Int32)), .val (.int (0 : Int32)), .val (.ref b118), .unset, .unset, .unset] [(.int (1 : Int32))])
        refine own_go (fun _ k => XS.ifNo X121.here hx rfl (hb hby at_56) rfl ((if0 _ _).trans (feq (by decide : ¬ ((1 : Int32) = (0 : Int32)))).1) k) ?_
        show own_Run p e below _ T121 (mkF m 59 #[.val (.int p1), .val (.int (1 : Int32)), .val (.int (1 : Int32)), .val (.int (0 : Int32)), .val (.ref b118), .unset, .unset, .unset] [])
        refine own_go (fun _ k => XS.iloadN X121.here hx rfl (hb hby at_59) rfl k) ?_
        show own_Run p e below _ T121 (mkF m 60 #[.val (.int p1), .val (.int (1 : Int32)), .val (.int (1 : Int32)), .val (.int (0 : Int32)), .val (.ref b118), .unset, .unset, .unset] [(.int (1 : Int32))])
        refine own_go (fun _ k => XS.ifNo X121.here hx rfl (hb hby at_60) rfl ((if0 _ _).trans (feq (by decide : ¬ ((1 : Int32) = (0 : Int32)))).1) k) ?_
        show own_Run p e below _ T121 (mkF m 63 #[.val (.int p1), .val (.int (1 : Int32)), .val (.int (1 : Int32)), .val (.int (0 : Int32)), .val (.ref b118), .unset, .unset, .unset] [])
        refine own_go (fun _ k => XS.iconst X121.here hx rfl (hb hby at_63) k) ?_
        refine own_go (fun _ k => XS.goto X121.here hx rfl (pc0 := 64) (pc' := 68) rfl (hb hby at_64) (by decide) (by decide) k) ?_
        refine own_go (fun _ k => XS.istore X121.here hx rfl (hb hby at_68) rfl (l' := #[.val (.int p1), .val (.int (1 : Int32)), .val (.int (1 : Int32)), .val (.int (0 : Int32)), .val (.ref b118), .val (.int (1 : Int32)), .unset, .unset]) rfl k) ?_
        refine own_go (fun _ k => XS.aload X121.here hx rfl (hb hby at_70) rfl rfl k) ?_
        show own_Run p e below _ T121 (mkF m 72 #[.val (.int p1), .val (.int (1 : Int32)), .val (.int (1 : Int32)), .val (.int (0 : Int32)), .val (.ref b118), .val (.int (1 : Int32)), .unset, .unset] [(.ref b118)])
        obtain ⟨cq123, kq123, q123a, q123b, q123c⟩ := isOf hZ rfl P121_0
        obtain ⟨_, _, ⟨T123, L123, k123, n123⟩, -, X123, ⟨Lc123, hQ123, l123, y123, z123⟩, st123⟩ := X121.virtualBack hx (y := (⟨"com/example/eventail/eventail/DeliveryCount", "deliveryBegins", "()Z"⟩ : MethodName)) (z := (⟨"com/example/eventail/eventail/DeliveryCount", "deliveryBegins", "()Z"⟩ : MethodName)) hown (mvT hZ (W 9 rfl)) (mvT hZ (W 10 rfl)) (notFace_of_selects (args := #[]) (mvT hZ (W 12 rfl))) (mvT hZ (W 12 rfl)) (mvT hZ (W 11 rfl)) (by decide) (backOf (W := 0) (rm3 l Z a0 hw [] b118 (1 : Int64) (1 : Int32) (0 : Int64) T121.heap n0 Z0_c122 P121_0 P121_1 P121_2 g_b118 (Or.inr ⟨rfl, rfl⟩)) hZ (W 13 rfl) (W 2 rfl) (by decide) (by decide)) q123a q123c (g := (mkF m 72 #[.val (.int p1), .val (.int (1 : Int32)), .val (.int (1 : Int32)), .val (.int (0 : Int32)), .val (.ref b118), .val (.int (1 : Int32)), .unset, .unset] [(.ref b118)])) rfl (by rw [hml]; rfl) (Steps.refl _) (argsL := []) (rest := []) (lenOf pd_2 rfl) rfl (by show 2 * 0 + _ ≤ _; exact Nat.le_of_eq rfl) (hb hby at_72) (fun _ _ => ⟨rfl, rfl, (by decide : 1 + 0 ≤ _), (by decide : 16 + 0 ≤ _)⟩)
        dsimp only [Pt.U, Pt.locs, Pt.cells, Pt.slots] at X123 l123 y123 z123 st123 hQ123
        subst l123 y123 z123
        obtain ⟨rfl, N123q, K123, P123_0, P123_1, P123_2⟩ := hQ123
        have N123 := Fr.app N121 N123q
        refine own_goT st123 ?_
        show own_Run p e below _ T123 (mkF m 75 #[.val (.int p1), .val (.int (1 : Int32)), .val (.int (1 : Int32)), .val (.int (0 : Int32)), .val (.ref b118), .val (.int (1 : Int32)), .unset, .unset] [(.int (1 : Int32))])
        have Z0_c124 := Nat.le_trans Z0_c122 K123.1
        have K0_c124 := K0_c122.trans K123 (allS (Or.inr sz_b118) all0)
        have P121_0_c124 := P121_0.keep K123
        have F_begun_e125 : Fld Z T123.heap b118 "com/example/eventail/eventail/DeliveryCount" "begun" "J" (.long (1 : Int64)) := P123_2
        refine own_go (fun _ k => XS.istore X123.here hx rfl (hb hby at_75) rfl (l' := #[.val (.int p1), .val (.int (1 : Int32)), .val (.int (1 : Int32)), .val (.int (0 : Int32)), .val (.ref b118), .val (.int (1 : Int32)), .val (.int (1 : Int32)), .unset]) rfl k) ?_
        refine own_go (fun _ k => XS.iload X123.here hx rfl (hb hby at_77) rfl k) ?_
        refine own_go (fun _ k => XS.iload X123.here hx rfl (hb hby at_79) rfl k) ?_
        show own_Run p e below _ T123 (mkF m 81 #[.val (.int p1), .val (.int (1 : Int32)), .val (.int (1 : Int32)), .val (.int (0 : Int32)), .val (.ref b118), .val (.int (1 : Int32)), .val (.int (1 : Int32)), .unset] [(.int (1 : Int32)), (.int (1 : Int32))])
        refine own_go (fun _ k => XS.icmpYes X123.here hx rfl (pc0 := 81) (pc' := 86) rfl (hb hby at_81) rfl (teq (by decide : (1 : Int32) = (1 : Int32))).1 (by decide) (by decide) k) ?_
        show own_Run p e below _ T123 (mkF m 86 #[.val (.int p1), .val (.int (1 : Int32)), .val (.int (1 : Int32)), .val (.int (0 : Int32)), .val (.ref b118), .val (.int (1 : Int32)), .val (.int (1 : Int32)), .unset] [])
        refine own_go (fun _ k => XS.aload X123.here hx rfl (hb hby at_86) rfl rfl k) ?_
        show own_Run p e below _ T123 (mkF m 88 #[.val (.int p1), .val (.int (1 : Int32)), .val (.int (1 : Int32)), .val (.int (0 : Int32)), .val (.ref b118), .val (.int (1 : Int32)), .val (.int (1 : Int32)), .unset] [(.ref b118)])
        obtain ⟨cq126, kq126, q126a, q126b, q126c⟩ := isOf hZ rfl P123_0
        obtain ⟨_, _, ⟨T126, L126, k126, n126⟩, -, X126, ⟨Lc126, hQ126, l126, y126, z126⟩, st126⟩ := X123.virtualBack hx (y := (⟨"com/example/eventail/eventail/DeliveryCount", "begun", "()J"⟩ : MethodName)) (z := (⟨"com/example/eventail/eventail/DeliveryCount", "begun", "()J"⟩ : MethodName)) hown (mvT hZ (W 18 rfl)) (mvT hZ (W 19 rfl)) (notFace_of_selects (args := #[]) (mvT hZ (W 21 rfl))) (mvT hZ (W 21 rfl)) (mvT hZ (W 20 rfl)) (by decide) (backOf (W := 0) (rm4 l Z a0 hw [] b118 (1 : Int64) T123.heap n0 Z0_c124 F_begun_e125) hZ (W 22 rfl) (W 2 rfl) (by decide) (by decide)) q126a q126c (g := (mkF m 88 #[.val (.int p1), .val (.int (1 : Int32)), .val (.int (1 : Int32)), .val (.int (0 : Int32)), .val (.ref b118), .val (.int (1 : Int32)), .val (.int (1 : Int32)), .unset] [(.ref b118)])) rfl (by rw [hml]; rfl) (Steps.refl _) (argsL := []) (rest := []) (lenOf pd_3 rfl) rfl (by show 2 * 0 + _ ≤ _; exact Nat.le_of_eq rfl) (hb hby at_88) (fun _ _ => ⟨rfl, rfl, (by decide : 1 + 0 ≤ _), (by decide : 16 + 0 ≤ _)⟩)
        dsimp only [Pt.U, Pt.locs, Pt.cells, Pt.slots] at X126 l126 y126 z126 st126 hQ126
        subst l126 y126 z126
        obtain ⟨rfl, N126q, e126⟩ := hQ126
        have N126 := Fr.app N123 N126q
        refine own_goT st126 ?_
        show own_Run p e below _ T126 (mkF m 91 #[.val (.int p1), .val (.int (1 : Int32)), .val (.int (1 : Int32)), .val (.int (0 : Int32)), .val (.ref b118), .val (.int (1 : Int32)), .val (.int (1 : Int32)), .unset] [(.long (1 : Int64))])
        refine own_go (fun _ k => XS.lconst X126.here hx rfl (hb hby at_91) k) ?_
        refine own_go (fun _ k => XS.lcmp X126.here hx rfl (hb hby at_92) rfl k) ?_
        show own_Run p e below _ T126 (mkF m 93 #[.val (.int p1), .val (.int (1 : Int32)), .val (.int (1 : Int32)), .val (.int (0 : Int32)), .val (.ref b118), .val (.int (1 : Int32)), .val (.int (1 : Int32)), .unset] [(.int (lcmpW (1 : Int64) (1 : Int64)))])
        refine own_go (fun _ k => XS.ifYes X126.here hx rfl (pc0 := 93) (pc' := 98) rfl (hb hby at_93) rfl (own_lcTe (by decide : (1 : Int64) = (1 : Int64))).1 (by decide) (by decide) k) ?_
        show own_Run p e below _ T126 (mkF m 98 #[.val (.int p1), .val (.int (1 : Int32)), .val (.int (1 : Int32)), .val (.int (0 : Int32)), .val (.ref b118), .val (.int (1 : Int32)), .val (.int (1 : Int32)), .unset] [])
        refine own_go (fun _ k => XS.aload X126.here hx rfl (hb hby at_98) rfl rfl k) ?_
        show own_Run p e below _ T126 (mkF m 100 #[.val (.int p1), .val (.int (1 : Int32)), .val (.int (1 : Int32)), .val (.int (0 : Int32)), .val (.ref b118), .val (.int (1 : Int32)), .val (.int (1 : Int32)), .unset] [(.ref b118)])
        obtain ⟨cq127, kq127, q127a, q127b, q127c⟩ := isOf hZ e126 P123_0
        obtain ⟨_, _, ⟨T127, L127, k127, n127⟩, -, X127, ⟨Lc127, hQ127, l127, y127, z127⟩, st127⟩ := X126.virtualBack hx (y := (⟨"com/example/eventail/eventail/DeliveryCount", "isRoomWanted", "()Z"⟩ : MethodName)) (z := (⟨"com/example/eventail/eventail/DeliveryCount", "isRoomWanted", "()Z"⟩ : MethodName)) hown (mvT hZ (W 23 rfl)) (mvT hZ (W 24 rfl)) (notFace_of_selects (args := #[]) (mvT hZ (W 26 rfl))) (mvT hZ (W 26 rfl)) (mvT hZ (W 25 rfl)) (by decide) (backOf (W := 0) (rm5 l Z a0 hw [] b118 (1 : Int64) (1 : Int32) T123.heap n0 Z0_c124 P123_1 (Or.inr ⟨rfl, rfl⟩)) hZ (W 27 rfl) (W 2 rfl) (by decide) (by decide)) q127a q127c (g := (mkF m 100 #[.val (.int p1), .val (.int (1 : Int32)), .val (.int (1 : Int32)), .val (.int (0 : Int32)), .val (.ref b118), .val (.int (1 : Int32)), .val (.int (1 : Int32)), .unset] [(.ref b118)])) rfl (by rw [hml]; rfl) (Steps.refl _) (argsL := []) (rest := []) (lenOf pd_2 rfl) rfl (by show 2 * 0 + _ ≤ _; exact Nat.le_of_eq rfl) (hb hby at_100) (fun _ _ => ⟨rfl, e126, (by decide : 1 + 0 ≤ _), (by decide : 16 + 0 ≤ _)⟩)
        dsimp only [Pt.U, Pt.locs, Pt.cells, Pt.slots] at X127 l127 y127 z127 st127 hQ127
        subst l127 y127 z127
        obtain ⟨rfl, N127q, e127⟩ := hQ127
        have N127 := Fr.app N126 N127q
        refine own_goT st127 ?_
        show own_Run p e below _ T127 (mkF m 103 #[.val (.int p1), .val (.int (1 : Int32)), .val (.int (1 : Int32)), .val (.int (0 : Int32)), .val (.ref b118), .val (.int (1 : Int32)), .val (.int (1 : Int32)), .unset] [(.int (1 : Int32))])
        refine own_go (fun _ k => XS.iload X127.here hx rfl (hb hby at_103) rfl k) ?_
        show own_Run p e below _ T127 (mkF m 105 #[.val (.int p1), .val (.int (1 : Int32)), .val (.int (1 : Int32)), .val (.int (0 : Int32)), .val (.ref b118), .val (.int (1 : Int32)), .val (.int (1 : Int32)), .unset] [(.int (1 : Int32)), (.int (1 : Int32))])
        refine own_go (fun _ k => XS.icmpYes X127.here hx rfl (pc0 := 105) (pc' := 110) rfl (hb hby at_105) rfl (teq (by decide : (1 : Int32) = (1 : Int32))).1 (by decide) (by decide) k) ?_
        show own_Run p e below _ T127 (mkF m 110 #[.val (.int p1), .val (.int (1 : Int32)), .val (.int (1 : Int32)), .val (.int (0 : Int32)), .val (.ref b118), .val (.int (1 : Int32)), .val (.int (1 : Int32)), .unset] [])
        refine own_go (fun _ k => XS.aload X127.here hx rfl (hb hby at_110) rfl rfl k) ?_
        refine own_go (fun _ k => XS.iloadN X127.here hx rfl (hb hby at_112) rfl k) ?_
        show own_Run p e below _ T127 (mkF m 113 #[.val (.int p1), .val (.int (1 : Int32)), .val (.int (1 : Int32)), .val (.int (0 : Int32)), .val (.ref b118), .val (.int (1 : Int32)), .val (.int (1 : Int32)), .unset] [(.int (0 : Int32)), (.ref b118)])
        obtain ⟨cq128, kq128, q128a, q128b, q128c⟩ := isOf hZ e127 P123_0
        obtain ⟨_, _, ⟨T128, L128, k128, n128⟩, -, X128, ⟨Lc128, hQ128, l128, y128, z128⟩, st128⟩ := X127.virtualBack hx (y := (⟨"com/example/eventail/eventail/DeliveryCount", "setRoomWanted", "(Z)V"⟩ : MethodName)) (z := (⟨"com/example/eventail/eventail/DeliveryCount", "setRoomWanted", "(Z)V"⟩ : MethodName)) hown (mvT hZ (W 28 rfl)) (mvT hZ (W 29 rfl)) (notFace_of_selects (args := #[]) (mvT hZ (W 31 rfl))) (mvT hZ (W 31 rfl)) (mvT hZ (W 30 rfl)) (by decide) (backOf (W := 0) (rm6 l Z a0 hw [] b118 (0 : Int32) (1 : Int64) (0 : Int64) (1 : Int64) T123.heap n0 Z0_c124 P123_0 P123_1 F_begun_e125 g_b118 (Or.inl ⟨rfl, rfl⟩)) hZ (W 32 rfl) (W 2 rfl) (by decide) (by decide)) q128a q128c (g := (mkF m 113 #[.val (.int p1), .val (.int (1 : Int32)), .val (.int (1 : Int32)), .val (.int (0 : Int32)), .val (.ref b118), .val (.int (1 : Int32)), .val (.int (1 : Int32)), .unset] [(.int (0 : Int32)), (.ref b118)])) rfl (by rw [hml]; rfl) (Steps.refl _) (argsL := [(.int (0 : Int32))]) (rest := []) (lenOf pd_4 rfl) rfl (by show 2 * 0 + _ ≤ _; exact Nat.le_of_eq rfl) (hb hby at_113) (fun _ _ => ⟨rfl, e127, (by decide : 1 + 0 ≤ _), (by decide : 16 + 0 ≤ _)⟩)
        dsimp only [Pt.U, Pt.locs, Pt.cells, Pt.slots] at X128 l128 y128 z128 st128 hQ128
        subst l128 y128 z128
        obtain ⟨rfl, N128q, K128, P128_0, P128_1, P128_2⟩ := hQ128
        have N128 := Fr.app N127 N128q
        refine own_goT st128 ?_
        show own_Run p e below _ T128 (mkF m 116 #[.val (.int p1), .val (.int (1 : Int32)), .val (.int (1 : Int32)), .val (.int (0 : Int32)), .val (.ref b118), .val (.int (1 : Int32)), .val (.int (1 : Int32)), .unset] [])
        have Z0_c129 := Nat.le_trans Z0_c124 K128.1
        have K0_c129 := K0_c124.trans K128 (allS (Or.inr sz_b118) all0)
        have P123_0_c129 := P123_0.keep K128
        refine own_go (fun _ k => XS.aload X128.here hx rfl (hb hby at_116) rfl rfl k) ?_
        show own_Run p e below _ T128 (mkF m 118 #[.val (.int p1), .val (.int (1 : Int32)), .val (.int (1 : Int32)), .val (.int (0 : Int32)), .val (.ref b118), .val (.int (1 : Int32)), .val (.int (1 : Int32)), .unset] [(.ref b118)])
        obtain ⟨cq130, kq130, q130a, q130b, q130c⟩ := isOf hZ rfl P128_0
        obtain ⟨_, _, ⟨T130, L130, k130, n130⟩, -, X130, ⟨Lc130, hQ130, l130, y130, z130⟩, st130⟩ := X128.virtualBack hx (y := (⟨"com/example/eventail/eventail/DeliveryCount", "deliveryBegins", "()Z"⟩ : MethodName)) (z := (⟨"com/example/eventail/eventail/DeliveryCount", "deliveryBegins", "()Z"⟩ : MethodName)) hown (mvT hZ (W 9 rfl)) (mvT hZ (W 10 rfl)) (notFace_of_selects (args := #[]) (mvT hZ (W 12 rfl))) (mvT hZ (W 12 rfl)) (mvT hZ (W 11 rfl)) (by decide) (backOf (W := 0) (rm3 l Z a0 hw [] b118 (0 : Int64) (0 : Int32) (1 : Int64) T128.heap n0 Z0_c129 P128_0 P128_1 P128_2 g_b118 (Or.inl ⟨rfl, rfl⟩)) hZ (W 13 rfl) (W 2 rfl) (by decide) (by decide)) q130a q130c (g := (mkF m 118 #[.val (.int p1), .val (.int (1 : Int32)), .val (.int (1 : Int32)), .val (.int (0 : Int32)), .val (.ref b118), .val (.int (1 : Int32)), .val (.int (1 : Int32)), .unset] [(.ref b118)])) rfl (by rw [hml]; rfl) (Steps.refl _) (argsL := []) (rest := []) (lenOf pd_2 rfl) rfl (by show 2 * 0 + _ ≤ _; exact Nat.le_of_eq rfl) (hb hby at_118) (fun _ _ => ⟨rfl, rfl, (by decide : 1 + 0 ≤ _), (by decide : 16 + 0 ≤ _)⟩)
        dsimp only [Pt.U, Pt.locs, Pt.cells, Pt.slots] at X130 l130 y130 z130 st130 hQ130
        subst l130 y130 z130
        obtain ⟨rfl, N130q, K130, P130_0, P130_1, P130_2⟩ := hQ130
        have N130 := Fr.app N128 N130q
        refine own_goT st130 ?_
        show own_Run p e below _ T130 (mkF m 121 #[.val (.int p1), .val (.int (1 : Int32)), .val (.int (1 : Int32)), .val (.int (0 : Int32)), .val (.ref b118), .val (.int (1 : Int32)), .val (.int (1 : Int32)), .unset] [(.int (0 : Int32))])
        have Z0_c131 := Nat.le_trans Z0_c129 K130.1
        have K0_c131 := K0_c129.trans K130 (allS (Or.inr sz_b118) all0)
        have P128_0_c131 := P128_0.keep K130
        have F_begun_e132 : Fld Z T130.heap b118 "com/example/eventail/eventail/DeliveryCount" "begun" "J" (.long (2 : Int64)) := P130_2
        refine own_go (fun _ k => XS.istore X130.here hx rfl (hb hby at_121) rfl (l' := #[.val (.int p1), .val (.int (1 : Int32)), .val (.int (1 : Int32)), .val (.int (0 : Int32)), .val (.ref b118), .val (.int (1 : Int32)), .val (.int (1 : Int32)), .val (.int (0 : Int32))]) rfl k) ?_
        refine own_go (fun _ k => XS.iload X130.here hx rfl (hb hby at_123) rfl k) ?_
        refine own_go (fun _ k => XS.iloadN X130.here hx rfl (hb hby at_125) rfl k) ?_
        show own_Run p e below _ T130 (mkF m 126 #[.val (.int p1), .val (.int (1 : Int32)), .val (.int (1 : Int32)), .val (.int (0 : Int32)), .val (.ref b118), .val (.int (1 : Int32)), .val (.int (1 : Int32)), .val (.int (0 : Int32))] [(.int (0 : Int32)), (.int (0 : Int32))])
        refine own_go (fun _ k => XS.icmpYes X130.here hx rfl (pc0 := 126) (pc' := 131) rfl (hb hby at_126) rfl (teq (by decide : (0 : Int32) = (0 : Int32))).1 (by decide) (by decide) k) ?_
        show own_Run p e below _ T130 (mkF m 131 #[.val (.int p1), .val (.int (1 : Int32)), .val (.int (1 : Int32)), .val (.int (0 : Int32)), .val (.ref b118), .val (.int (1 : Int32)), .val (.int (1 : Int32)), .val (.int (0 : Int32))] [])
        refine own_go (fun _ k => XS.aload X130.here hx rfl (hb hby at_131) rfl rfl k) ?_
        show own_Run p e below _ T130 (mkF m 133 #[.val (.int p1), .val (.int (1 : Int32)), .val (.int (1 : Int32)), .val (.int (0 : Int32)), .val (.ref b118), .val (.int (1 : Int32)), .val (.int (1 : Int32)), .val (.int (0 : Int32))] [(.ref b118)])
        obtain ⟨cq133, kq133, q133a, q133b, q133c⟩ := isOf hZ rfl P130_0
        obtain ⟨_, _, ⟨T133, L133, k133, n133⟩, -, X133, ⟨Lc133, hQ133, l133, y133, z133⟩, st133⟩ := X130.virtualBack hx (y := (⟨"com/example/eventail/eventail/DeliveryCount", "begun", "()J"⟩ : MethodName)) (z := (⟨"com/example/eventail/eventail/DeliveryCount", "begun", "()J"⟩ : MethodName)) hown (mvT hZ (W 18 rfl)) (mvT hZ (W 19 rfl)) (notFace_of_selects (args := #[]) (mvT hZ (W 21 rfl))) (mvT hZ (W 21 rfl)) (mvT hZ (W 20 rfl)) (by decide) (backOf (W := 0) (rm4 l Z a0 hw [] b118 (2 : Int64) T130.heap n0 Z0_c131 F_begun_e132) hZ (W 22 rfl) (W 2 rfl) (by decide) (by decide)) q133a q133c (g := (mkF m 133 #[.val (.int p1), .val (.int (1 : Int32)), .val (.int (1 : Int32)), .val (.int (0 : Int32)), .val (.ref b118), .val (.int (1 : Int32)), .val (.int (1 : Int32)), .val (.int (0 : Int32))] [(.ref b118)])) rfl (by rw [hml]; rfl) (Steps.refl _) (argsL := []) (rest := []) (lenOf pd_3 rfl) rfl (by show 2 * 0 + _ ≤ _; exact Nat.le_of_eq rfl) (hb hby at_133) (fun _ _ => ⟨rfl, rfl, (by decide : 1 + 0 ≤ _), (by decide : 16 + 0 ≤ _)⟩)
        dsimp only [Pt.U, Pt.locs, Pt.cells, Pt.slots] at X133 l133 y133 z133 st133 hQ133
        subst l133 y133 z133
        obtain ⟨rfl, N133q, e133⟩ := hQ133
        have N133 := Fr.app N130 N133q
        refine own_goT st133 ?_
        show own_Run p e below _ T133 (mkF m 136 #[.val (.int p1), .val (.int (1 : Int32)), .val (.int (1 : Int32)), .val (.int (0 : Int32)), .val (.ref b118), .val (.int (1 : Int32)), .val (.int (1 : Int32)), .val (.int (0 : Int32))] [(.long (2 : Int64))])
        refine own_go (X133.ldc2Long hx hown (mvT hZ (W 33 rfl)) (g := (mkF m 136 #[.val (.int p1), .val (.int (1 : Int32)), .val (.int (1 : Int32)), .val (.int (0 : Int32)), .val (.ref b118), .val (.int (1 : Int32)), .val (.int (1 : Int32)), .val (.int (0 : Int32))] [(.long (2 : Int64))])) rfl (hb hby at_136)) ?_
        show own_Run p e below _ T133 (mkF m 139 #[.val (.int p1), .val (.int (1 : Int32)), .val (.int (1 : Int32)), .val (.int (0 : Int32)), .val (.ref b118), .val (.int (1 : Int32)), .val (.int (1 : Int32)), .val (.int (0 : Int32))] [(.long (2 : Int64)), (.long (2 : Int64))])
        refine own_go (fun _ k => XS.lcmp X133.here hx rfl (hb hby at_139) rfl k) ?_
        show own_Run p e below _ T133 (mkF m 140 #[.val (.int p1), .val (.int (1 : Int32)), .val (.int (1 : Int32)), .val (.int (0 : Int32)), .val (.ref b118), .val (.int (1 : Int32)), .val (.int (1 : Int32)), .val (.int (0 : Int32))] [(.int (lcmpW (2 : Int64) (2 : Int64)))])
        refine own_go (fun _ k => XS.ifYes X133.here hx rfl (pc0 := 140) (pc' := 145) rfl (hb hby at_140) rfl (own_lcTe (by decide : (2 : Int64) = (2 : Int64))).1 (by decide) (by decide) k) ?_
        show own_Run p e below _ T133 (mkF m 145 #[.val (.int p1), .val (.int (1 : Int32)), .val (.int (1 : Int32)), .val (.int (0 : Int32)), .val (.ref b118), .val (.int (1 : Int32)), .val (.int (1 : Int32)), .val (.int (0 : Int32))] [])
        refine own_go (fun _ k => XS.aload X133.here hx rfl (hb hby at_145) rfl rfl k) ?_
        show own_Run p e below _ T133 (mkF m 147 #[.val (.int p1), .val (.int (1 : Int32)), .val (.int (1 : Int32)), .val (.int (0 : Int32)), .val (.ref b118), .val (.int (1 : Int32)), .val (.int (1 : Int32)), .val (.int (0 : Int32))] [(.ref b118)])
        obtain ⟨cq134, kq134, q134a, q134b, q134c⟩ := isOf hZ e133 P130_0
        obtain ⟨_, _, ⟨T134, L134, k134, n134⟩, -, X134, ⟨Lc134, hQ134, l134, y134, z134⟩, st134⟩ := X133.virtualBack hx (y := (⟨"com/example/eventail/eventail/DeliveryCount", "isRoomWanted", "()Z"⟩ : MethodName)) (z := (⟨"com/example/eventail/eventail/DeliveryCount", "isRoomWanted", "()Z"⟩ : MethodName)) hown (mvT hZ (W 23 rfl)) (mvT hZ (W 24 rfl)) (notFace_of_selects (args := #[]) (mvT hZ (W 26 rfl))) (mvT hZ (W 26 rfl)) (mvT hZ (W 25 rfl)) (by decide) (backOf (W := 0) (rm5 l Z a0 hw [] b118 (0 : Int64) (0 : Int32) T130.heap n0 Z0_c131 P130_1 (Or.inl ⟨rfl, rfl⟩)) hZ (W 27 rfl) (W 2 rfl) (by decide) (by decide)) q134a q134c (g := (mkF m 147 #[.val (.int p1), .val (.int (1 : Int32)), .val (.int (1 : Int32)), .val (.int (0 : Int32)), .val (.ref b118), .val (.int (1 : Int32)), .val (.int (1 : Int32)), .val (.int (0 : Int32))] [(.ref b118)])) rfl (by rw [hml]; rfl) (Steps.refl _) (argsL := []) (rest := []) (lenOf pd_2 rfl) rfl (by show 2 * 0 + _ ≤ _; exact Nat.le_of_eq rfl) (hb hby at_147) (fun _ _ => ⟨rfl, e133, (by decide : 1 + 0 ≤ _), (by decide : 16 + 0 ≤ _)⟩)
        dsimp only [Pt.U, Pt.locs, Pt.cells, Pt.slots] at X134 l134 y134 z134 st134 hQ134
        subst l134 y134 z134
        obtain ⟨rfl, N134q, e134⟩ := hQ134
        have N134 := Fr.app N133 N134q
        refine own_goT st134 ?_
        show own_Run p e below _ T134 (mkF m 150 #[.val (.int p1), .val (.int (1 : Int32)), .val (.int (1 : Int32)), .val (.int (0 : Int32)), .val (.ref b118), .val (.int (1 : Int32)), .val (.int (1 : Int32)), .val (.int (0 : Int32))] [(.int (0 : Int32))])
        refine own_go (fun _ k => XS.iloadN X134.here hx rfl (hb hby at_150) rfl k) ?_
        show own_Run p e below _ T134 (mkF m 151 #[.val (.int p1), .val (.int (1 : Int32)), .val (.int (1 : Int32)), .val (.int (0 : Int32)), .val (.ref b118), .val (.int (1 : Int32)), .val (.int (1 : Int32)), .val (.int (0 : Int32))] [(.int (0 : Int32)), (.int (0 : Int32))])
        refine own_go (fun _ k => XS.icmpNo X134.here hx rfl (hb hby at_151) rfl (teq (by decide : (0 : Int32) = (0 : Int32))).2 k) ?_
        show own_Run p e below _ T134 (mkF m 154 #[.val (.int p1), .val (.int (1 : Int32)), .val (.int (1 : Int32)), .val (.int (0 : Int32)), .val (.ref b118), .val (.int (1 : Int32)), .val (.int (1 : Int32)), .val (.int (0 : Int32))] [])
        refine own_go (fun _ k => XS.iconst X134.here hx rfl (hb hby at_154) k) ?_
        refine own_go (fun _ k => XS.goto X134.here hx rfl (pc0 := 155) (pc' := 159) rfl (hb hby at_155) (by decide) (by decide) k) ?_
        show own_Run p e below _ T134 (mkF m 159 #[.val (.int p1), .val (.int (1 : Int32)), .val (.int (1 : Int32)), .val (.int (0 : Int32)), .val (.ref b118), .val (.int (1 : Int32)), .val (.int (1 : Int32)), .val (.int (0 : Int32))] [(.int (1 : Int32))])
        refine own_done (Q := fun v h L => Q0 Z p1 h0 n0 v h L) (v := (some (.int (1 : Int32)))) X134 (fun h => by rw [hret] at h; cases h) hlk (fun fs hr => retN X134 hx (t := .boolean) hret (by simp) (hb hby at_159) hr) ?_ (by decide) (by decide)
        show Q0 Z p1 h0 n0 _ T134.heap _
        rw [e134]
        exact ⟨rfl, N134⟩
      · refine own_go (fun _ k => XS.ifNo X0.here hx rfl (hb hby at_27) rfl ((if0 _ _).trans (feq hc27_117).1) k) ?_
        show own_Run p e below _ s₁ (mkF m 30 #[.val (.int p1), .val (.int (1 : Int32)), .val (.int (1 : Int32)), .unset, .unset, .unset, .unset, .unset] [])
        refine own_go (fun _ k => XS.iconst X0.here hx rfl (hb hby at_30) k) ?_
        refine own_go (fun _ k => XS.goto X0.here hx rfl (pc0 := 31) (pc' := 35) rfl (hb hby at_31) (by decide) (by decide) k) ?_
        refine own_go (fun _ k => XS.istoreN X0.here hx rfl (hb hby at_35) rfl (l' := #[.val (.int p1), .val (.int (1 : Int32)), .val (.int (1 : Int32)), .val (.int (1 : Int32)), .unset, .unset, .unset, .unset]) rfl k) ?_
        show own_Run p e below _ s₁ (mkF m 36 #[.val (.int p1), .val (.int (1 : Int32)), .val (.int (1 : Int32)), .val (.int (1 : Int32)), .unset, .unset, .unset, .unset] [])
        obtain ⟨T135, h135, X135, e135, E135, A135, D135, -, st135⟩ := newO X0 hx hZ hown (W 0 rfl) (W 1 rfl) (W 2 rfl) e0 (g := (mkF m 36 #[.val (.int p1), .val (.int (1 : Int32)), .val (.int (1 : Int32)), .val (.int (1 : Int32)), .unset, .unset, .unset, .unset] [])) rfl (hb hby at_36) (by decide) (by decide)
        refine own_go st135 ?_
        obtain ⟨b135, g135⟩ : ∃ z, z = h0.size := ⟨_, rfl⟩
        rw [← g135] at A135 D135
        rw [← g135]
        show own_Run p e below _ T135 (mkF m 39 #[.val (.int p1), .val (.int (1 : Int32)), .val (.int (1 : Int32)), .val (.int (1 : Int32)), .unset, .unset, .unset, .unset] [(.ref b135)])
        have g_b135 : n0 ≤ b135 := Nat.le_trans Z0 (Nat.le_of_eq g135.symm)
        have sz_b135 : h0.size ≤ b135 := Nat.le_trans K0.1 (Nat.le_of_eq g135.symm)
        have Z0_c136 := Nat.le_trans Z0 E135.1
        have K0_c136 := K0.ext E135
        have F_begun_b135 : Fld Z h135 b135 "com/example/eventail/eventail/DeliveryCount" "begun" "J" (.long (0 : Int64)) := D135 (Or.inl (W 15 rfl)) (ty := .long) (by decide)
        have F_roomWanted_b135 : Fld Z h135 b135 "com/example/eventail/eventail/DeliveryCount" "roomWanted" "J" (.long (0 : Int64)) := D135 (Or.inl (W 17 rfl)) (ty := .long) (by decide)
        refine own_go (fun _ k => XS.dup X135.here hx rfl (hb hby at_39) rfl rfl k) ?_
        show own_Run p e below _ T135 (mkF m 40 #[.val (.int p1), .val (.int (1 : Int32)), .val (.int (1 : Int32)), .val (.int (1 : Int32)), .unset, .unset, .unset, .unset] [(.ref b135), (.ref b135)])
        obtain ⟨_, _, ⟨T137, L137, k137, n137⟩, -, X137, ⟨Lc137, hQ137, l137, y137, z137⟩, st137⟩ := X135.specialBack hx (y := (⟨"com/example/eventail/eventail/DeliveryCount", "<init>", "()V"⟩ : MethodName)) rfl hown (mvT hZ (W 3 rfl)) (mvT hZ (W 4 rfl)) (mvT hZ (W 5 rfl)) (by decide) (backOf (W := 1) (rm1 l Z a0 hw [] b135 h135 n0 Z0_c136 ) hZ (W 5 rfl) (W 2 rfl) (by decide) (by decide)) (g := (mkF m 40 #[.val (.int p1), .val (.int (1 : Int32)), .val (.int (1 : Int32)), .val (.int (1 : Int32)), .unset, .unset, .unset, .unset] [(.ref b135), (.ref b135)])) rfl (by rw [hml]; rfl) (Steps.refl _) (a := b135) (argsL := []) (rest := [(.ref b135)]) (lenOf pd_1 rfl) rfl (by show 2 * 0 + _ ≤ _; exact Nat.le_of_eq rfl) (hb hby at_40) (fun _ _ => ⟨rfl, e135, (by decide : 1 + 0 ≤ _), (by decide : 16 + 0 ≤ _)⟩)
        dsimp only [Pt.U, Pt.locs, Pt.cells, Pt.slots] at X137 l137 y137 z137 st137 hQ137
        subst l137 y137 z137
        obtain ⟨rfl, N137q, e137⟩ := hQ137
        have N137 := Fr.app N0 N137q
        refine own_goT st137 ?_
        show own_Run p e below _ T137 (mkF m 43 #[.val (.int p1), .val (.int (1 : Int32)), .val (.int (1 : Int32)), .val (.int (1 : Int32)), .unset, .unset, .unset, .unset] [(.ref b135)])
        refine own_go (fun _ k => XS.astore X137.here hx rfl (hb hby at_43) rfl rfl (l' := #[.val (.int p1), .val (.int (1 : Int32)), .val (.int (1 : Int32)), .val (.int (1 : Int32)), .val (.ref b135), .unset, .unset, .unset]) rfl k) ?_
        refine own_go (fun _ k => XS.iloadN X137.here hx rfl (hb hby at_45) rfl k) ?_
        show own_Run p e below _ T137 (mkF m 46 #[.val (.int p1), .val (.int (1 : Int32)), .val (.int (1 : Int32)), .val (.int (1 : Int32)), .val (.ref b135), .unset, .unset, .unset] [(.int (1 : Int32))])
        refine own_go (fun _ k => XS.ifNo X137.here hx rfl (hb hby at_46) rfl ((if0 _ _).trans (feq (by decide : ¬ ((1 : Int32) = (0 : Int32)))).1) k) ?_
        show own_Run p e below _ T137 (mkF m 49 #[.val (.int p1), .val (.int (1 : Int32)), .val (.int (1 : Int32)), .val (.int (1 : Int32)), .val (.ref b135), .unset, .unset, .unset] [])
        refine own_go (fun _ k => XS.aload X137.here hx rfl (hb hby at_49) rfl rfl k) ?_
        refine own_go (fun _ k => XS.iloadN X137.here hx rfl (hb hby at_51) rfl k) ?_
        show own_Run p e below _ T137 (mkF m 52 #[.val (.int p1), .val (.int (1 : Int32)), .val (.int (1 : Int32)), .val (.int (1 : Int32)), .val (.ref b135), .unset, .unset, .unset] [(.int (1 : Int32)), (.ref b135)])
        obtain ⟨cq138, kq138, q138a, q138b, q138c⟩ := isOf hZ e137 A135
        obtain ⟨_, _, ⟨T138, L138, k138, n138⟩, -, X138, ⟨Lc138, hQ138, l138, y138, z138⟩, st138⟩ := X137.virtualBack hx (y := (⟨"com/example/eventail/eventail/DeliveryCount", "setRoomWanted", "(Z)V"⟩ : MethodName)) (z := (⟨"com/example/eventail/eventail/DeliveryCount", "setRoomWanted", "(Z)V"⟩ : MethodName)) hown (mvT hZ (W 28 rfl)) (mvT hZ (W 29 rfl)) (notFace_of_selects (args := #[]) (mvT hZ (W 31 rfl))) (mvT hZ (W 31 rfl)) (mvT hZ (W 30 rfl)) (by decide) (backOf (W := 0) (rm6 l Z a0 hw [] b135 (1 : Int32) (0 : Int64) (1 : Int64) (0 : Int64) h135 n0 Z0_c136 A135 F_roomWanted_b135 F_begun_b135 g_b135 (Or.inr ⟨rfl, rfl⟩)) hZ (W 32 rfl) (W 2 rfl) (by decide) (by decide)) q138a q138c (g := (mkF m 52 #[.val (.int p1), .val (.int (1 : Int32)), .val (.int (1 : Int32)), .val (.int (1 : Int32)), .val (.ref b135), .unset, .unset, .unset] [(.int (1 : Int32)), (.ref b135)])) rfl (by rw [hml]; rfl) (Steps.refl _) (argsL := [(.int (1 : Int32))]) (rest := []) (lenOf pd_4 rfl) rfl (by show 2 * 0 + _ ≤ _; exact Nat.le_of_eq rfl) (hb hby at_52) (fun _ _ => ⟨rfl, e137, (by decide : 1 + 0 ≤ _), (by decide : 16 + 0 ≤ _)⟩)
        dsimp only [Pt.U, Pt.locs, Pt.cells, Pt.slots] at X138 l138 y138 z138 st138 hQ138
        subst l138 y138 z138
        obtain ⟨rfl, N138q, K138, P138_0, P138_1, P138_2⟩ := hQ138
        have N138 := Fr.app N137 N138q
        refine own_goT st138 ?_
        show own_Run p e below _ T138 (mkF m 55 #[.val (.int p1), .val (.int (1 : Int32)), .val (.int (1 : Int32)), .val (.int (1 : Int32)), .val (.ref b135), .unset, .unset, .unset] [])
        have Z0_c139 := Nat.le_trans Z0_c136 K138.1
        have K0_c139 := K0_c136.trans K138 (allS (Or.inr sz_b135) all0)
        have A135_c139 := A135.keep K138
        refine own_go (fun _ k => XS.iloadN X138.here hx rfl (hb hby at_55) rfl k) ?_
        show own_Run p e below _ T138 (mkF m 56 #[.val (.int p1), .val (.int (1 : Int32)), .val (.int (1 : Int32)), .val (.int (1 : Int32)), .val (.ref b135), .unset, .unset, .unset] [(.int (1 : Int32))])
        refine own_go (fun _ k => XS.ifNo X138.here hx rfl (hb hby at_56) rfl ((if0 _ _).trans (feq (by decide : ¬ ((1 : Int32) = (0 : Int32)))).1) k) ?_
        show own_Run p e below _ T138 (mkF m 59 #[.val (.int p1), .val (.int (1 : Int32)), .val (.int (1 : Int32)), .val (.int (1 : Int32)), .val (.ref b135), .unset, .unset, .unset] [])
        refine own_go (fun _ k => XS.iloadN X138.here hx rfl (hb hby at_59) rfl k) ?_
        show own_Run p e below _ T138 (mkF m 60 #[.val (.int p1), .val (.int (1 : Int32)), .val (.int (1 : Int32)), .val (.int (1 : Int32)), .val (.ref b135), .unset, .unset, .unset] [(.int (1 : Int32))])
        refine own_go (fun _ k => XS.ifNo X138.here hx rfl (hb hby at_60) rfl ((if0 _ _).trans (feq (by decide : ¬ ((1 : Int32) = (0 : Int32)))).1) k) ?_
        show own_Run p e below _ T138 (mkF m 63 #[.val (.int p1), .val (.int (1 : Int32)), .val (.int (1 : Int32)), .val (.int (1 : Int32)), .val (.ref b135), .unset, .unset, .unset] [])
        refine own_go (fun _ k => XS.iconst X138.here hx rfl (hb hby at_63) k) ?_
        refine own_go (fun _ k => XS.goto X138.here hx rfl (pc0 := 64) (pc' := 68) rfl (hb hby at_64) (by decide) (by decide) k) ?_
        refine own_go (fun _ k => XS.istore X138.here hx rfl (hb hby at_68) rfl (l' := #[.val (.int p1), .val (.int (1 : Int32)), .val (.int (1 : Int32)), .val (.int (1 : Int32)), .val (.ref b135), .val (.int (1 : Int32)), .unset, .unset]) rfl k) ?_
        refine own_go (fun _ k => XS.aload X138.here hx rfl (hb hby at_70) rfl rfl k) ?_
        show own_Run p e below _ T138 (mkF m 72 #[.val (.int p1), .val (.int (1 : Int32)), .val (.int (1 : Int32)), .val (.int (1 : Int32)), .val (.ref b135), .val (.int (1 : Int32)), .unset, .unset] [(.ref b135)])
        obtain ⟨cq140, kq140, q140a, q140b, q140c⟩ := isOf hZ rfl P138_0
        obtain ⟨_, _, ⟨T140, L140, k140, n140⟩, -, X140, ⟨Lc140, hQ140, l140, y140, z140⟩, st140⟩ := X138.virtualBack hx (y := (⟨"com/example/eventail/eventail/DeliveryCount", "deliveryBegins", "()Z"⟩ : MethodName)) (z := (⟨"com/example/eventail/eventail/DeliveryCount", "deliveryBegins", "()Z"⟩ : MethodName)) hown (mvT hZ (W 9 rfl)) (mvT hZ (W 10 rfl)) (notFace_of_selects (args := #[]) (mvT hZ (W 12 rfl))) (mvT hZ (W 12 rfl)) (mvT hZ (W 11 rfl)) (by decide) (backOf (W := 0) (rm3 l Z a0 hw [] b135 (1 : Int64) (1 : Int32) (0 : Int64) T138.heap n0 Z0_c139 P138_0 P138_1 P138_2 g_b135 (Or.inr ⟨rfl, rfl⟩)) hZ (W 13 rfl) (W 2 rfl) (by decide) (by decide)) q140a q140c (g := (mkF m 72 #[.val (.int p1), .val (.int (1 : Int32)), .val (.int (1 : Int32)), .val (.int (1 : Int32)), .val (.ref b135), .val (.int (1 : Int32)), .unset, .unset] [(.ref b135)])) rfl (by rw [hml]; rfl) (Steps.refl _) (argsL := []) (rest := []) (lenOf pd_2 rfl) rfl (by show 2 * 0 + _ ≤ _; exact Nat.le_of_eq rfl) (hb hby at_72) (fun _ _ => ⟨rfl, rfl, (by decide : 1 + 0 ≤ _), (by decide : 16 + 0 ≤ _)⟩)
        dsimp only [Pt.U, Pt.locs, Pt.cells, Pt.slots] at X140 l140 y140 z140 st140 hQ140
        subst l140 y140 z140
        obtain ⟨rfl, N140q, K140, P140_0, P140_1, P140_2⟩ := hQ140
        have N140 := Fr.app N138 N140q
        refine own_goT st140 ?_
        show own_Run p e below _ T140 (mkF m 75 #[.val (.int p1), .val (.int (1 : Int32)), .val (.int (1 : Int32)), .val (.int (1 : Int32)), .val (.ref b135), .val (.int (1 : Int32)), .unset, .unset] [(.int (1 : Int32))])
        have Z0_c141 := Nat.le_trans Z0_c139 K140.1
        have K0_c141 := K0_c139.trans K140 (allS (Or.inr sz_b135) all0)
        have P138_0_c141 := P138_0.keep K140
        have F_begun_e142 : Fld Z T140.heap b135 "com/example/eventail/eventail/DeliveryCount" "begun" "J" (.long (1 : Int64)) := P140_2
        refine own_go (fun _ k => XS.istore X140.here hx rfl (hb hby at_75) rfl (l' := #[.val (.int p1), .val (.int (1 : Int32)), .val (.int (1 : Int32)), .val (.int (1 : Int32)), .val (.ref b135), .val (.int (1 : Int32)), .val (.int (1 : Int32)), .unset]) rfl k) ?_
        refine own_go (fun _ k => XS.iload X140.here hx rfl (hb hby at_77) rfl k) ?_
        refine own_go (fun _ k => XS.iload X140.here hx rfl (hb hby at_79) rfl k) ?_
        show own_Run p e below _ T140 (mkF m 81 #[.val (.int p1), .val (.int (1 : Int32)), .val (.int (1 : Int32)), .val (.int (1 : Int32)), .val (.ref b135), .val (.int (1 : Int32)), .val (.int (1 : Int32)), .unset] [(.int (1 : Int32)), (.int (1 : Int32))])
        refine own_go (fun _ k => XS.icmpYes X140.here hx rfl (pc0 := 81) (pc' := 86) rfl (hb hby at_81) rfl (teq (by decide : (1 : Int32) = (1 : Int32))).1 (by decide) (by decide) k) ?_
        show own_Run p e below _ T140 (mkF m 86 #[.val (.int p1), .val (.int (1 : Int32)), .val (.int (1 : Int32)), .val (.int (1 : Int32)), .val (.ref b135), .val (.int (1 : Int32)), .val (.int (1 : Int32)), .unset] [])
        refine own_go (fun _ k => XS.aload X140.here hx rfl (hb hby at_86) rfl rfl k) ?_
        show own_Run p e below _ T140 (mkF m 88 #[.val (.int p1), .val (.int (1 : Int32)), .val (.int (1 : Int32)), .val (.int (1 : Int32)), .val (.ref b135), .val (.int (1 : Int32)), .val (.int (1 : Int32)), .unset] [(.ref b135)])
        obtain ⟨cq143, kq143, q143a, q143b, q143c⟩ := isOf hZ rfl P140_0
        obtain ⟨_, _, ⟨T143, L143, k143, n143⟩, -, X143, ⟨Lc143, hQ143, l143, y143, z143⟩, st143⟩ := X140.virtualBack hx (y := (⟨"com/example/eventail/eventail/DeliveryCount", "begun", "()J"⟩ : MethodName)) (z := (⟨"com/example/eventail/eventail/DeliveryCount", "begun", "()J"⟩ : MethodName)) hown (mvT hZ (W 18 rfl)) (mvT hZ (W 19 rfl)) (notFace_of_selects (args := #[]) (mvT hZ (W 21 rfl))) (mvT hZ (W 21 rfl)) (mvT hZ (W 20 rfl)) (by decide) (backOf (W := 0) (rm4 l Z a0 hw [] b135 (1 : Int64) T140.heap n0 Z0_c141 F_begun_e142) hZ (W 22 rfl) (W 2 rfl) (by decide) (by decide)) q143a q143c (g := (mkF m 88 #[.val (.int p1), .val (.int (1 : Int32)), .val (.int (1 : Int32)), .val (.int (1 : Int32)), .val (.ref b135), .val (.int (1 : Int32)), .val (.int (1 : Int32)), .unset] [(.ref b135)])) rfl (by rw [hml]; rfl) (Steps.refl _) (argsL := []) (rest := []) (lenOf pd_3 rfl) rfl (by show 2 * 0 + _ ≤ _; exact Nat.le_of_eq rfl) (hb hby at_88) (fun _ _ => ⟨rfl, rfl, (by decide : 1 + 0 ≤ _), (by decide : 16 + 0 ≤ _)⟩)
        dsimp only [Pt.U, Pt.locs, Pt.cells, Pt.slots] at X143 l143 y143 z143 st143 hQ143
        subst l143 y143 z143
        obtain ⟨rfl, N143q, e143⟩ := hQ143
        have N143 := Fr.app N140 N143q
        refine own_goT st143 ?_
        show own_Run p e below _ T143 (mkF m 91 #[.val (.int p1), .val (.int (1 : Int32)), .val (.int (1 : Int32)), .val (.int (1 : Int32)), .val (.ref b135), .val (.int (1 : Int32)), .val (.int (1 : Int32)), .unset] [(.long (1 : Int64))])
        refine own_go (fun _ k => XS.lconst X143.here hx rfl (hb hby at_91) k) ?_
        refine own_go (fun _ k => XS.lcmp X143.here hx rfl (hb hby at_92) rfl k) ?_
        show own_Run p e below _ T143 (mkF m 93 #[.val (.int p1), .val (.int (1 : Int32)), .val (.int (1 : Int32)), .val (.int (1 : Int32)), .val (.ref b135), .val (.int (1 : Int32)), .val (.int (1 : Int32)), .unset] [(.int (lcmpW (1 : Int64) (1 : Int64)))])
        refine own_go (fun _ k => XS.ifYes X143.here hx rfl (pc0 := 93) (pc' := 98) rfl (hb hby at_93) rfl (own_lcTe (by decide : (1 : Int64) = (1 : Int64))).1 (by decide) (by decide) k) ?_
        show own_Run p e below _ T143 (mkF m 98 #[.val (.int p1), .val (.int (1 : Int32)), .val (.int (1 : Int32)), .val (.int (1 : Int32)), .val (.ref b135), .val (.int (1 : Int32)), .val (.int (1 : Int32)), .unset] [])
        refine own_go (fun _ k => XS.aload X143.here hx rfl (hb hby at_98) rfl rfl k) ?_
        show own_Run p e below _ T143 (mkF m 100 #[.val (.int p1), .val (.int (1 : Int32)), .val (.int (1 : Int32)), .val (.int (1 : Int32)), .val (.ref b135), .val (.int (1 : Int32)), .val (.int (1 : Int32)), .unset] [(.ref b135)])
        obtain ⟨cq144, kq144, q144a, q144b, q144c⟩ := isOf hZ e143 P140_0
        obtain ⟨_, _, ⟨T144, L144, k144, n144⟩, -, X144, ⟨Lc144, hQ144, l144, y144, z144⟩, st144⟩ := X143.virtualBack hx (y := (⟨"com/example/eventail/eventail/DeliveryCount", "isRoomWanted", "()Z"⟩ : MethodName)) (z := (⟨"com/example/eventail/eventail/DeliveryCount", "isRoomWanted", "()Z"⟩ : MethodName)) hown (mvT hZ (W 23 rfl)) (mvT hZ (W 24 rfl)) (notFace_of_selects (args := #[]) (mvT hZ (W 26 rfl))) (mvT hZ (W 26 rfl)) (mvT hZ (W 25 rfl)) (by decide) (backOf (W := 0) (rm5 l Z a0 hw [] b135 (1 : Int64) (1 : Int32) T140.heap n0 Z0_c141 P140_1 (Or.inr ⟨rfl, rfl⟩)) hZ (W 27 rfl) (W 2 rfl) (by decide) (by decide)) q144a q144c (g := (mkF m 100 #[.val (.int p1), .val (.int (1 : Int32)), .val (.int (1 : Int32)), .val (.int (1 : Int32)), .val (.ref b135), .val (.int (1 : Int32)), .val (.int (1 : Int32)), .unset] [(.ref b135)])) rfl (by rw [hml]; rfl) (Steps.refl _) (argsL := []) (rest := []) (lenOf pd_2 rfl) rfl (by show 2 * 0 + _ ≤ _; exact Nat.le_of_eq rfl) (hb hby at_100) (fun _ _ => ⟨rfl, e143, (by decide : 1 + 0 ≤ _), (by decide : 16 + 0 ≤ _)⟩)
        dsimp only [Pt.U, Pt.locs, Pt.cells, Pt.slots] at X144 l144 y144 z144 st144 hQ144
        subst l144 y144 z144
        obtain ⟨rfl, N144q, e144⟩ := hQ144
        have N144 := Fr.app N143 N144q
        refine own_goT st144 ?_
        show own_Run p e below _ T144 (mkF m 103 #[.val (.int p1), .val (.int (1 : Int32)), .val (.int (1 : Int32)), .val (.int (1 : Int32)), .val (.ref b135), .val (.int (1 : Int32)), .val (.int (1 : Int32)), .unset] [(.int (1 : Int32))])
        refine own_go (fun _ k => XS.iload X144.here hx rfl (hb hby at_103) rfl k) ?_
        show own_Run p e below _ T144 (mkF m 105 #[.val (.int p1), .val (.int (1 : Int32)), .val (.int (1 : Int32)), .val (.int (1 : Int32)), .val (.ref b135), .val (.int (1 : Int32)), .val (.int (1 : Int32)), .unset] [(.int (1 : Int32)), (.int (1 : Int32))])
        refine own_go (fun _ k => XS.icmpYes X144.here hx rfl (pc0 := 105) (pc' := 110) rfl (hb hby at_105) rfl (teq (by decide : (1 : Int32) = (1 : Int32))).1 (by decide) (by decide) k) ?_
        show own_Run p e below _ T144 (mkF m 110 #[.val (.int p1), .val (.int (1 : Int32)), .val (.int (1 : Int32)), .val (.int (1 : Int32)), .val (.ref b135), .val (.int (1 : Int32)), .val (.int (1 : Int32)), .unset] [])
        refine own_go (fun _ k => XS.aload X144.here hx rfl (hb hby at_110) rfl rfl k) ?_
        refine own_go (fun _ k => XS.iloadN X144.here hx rfl (hb hby at_112) rfl k) ?_
        show own_Run p e below _ T144 (mkF m 113 #[.val (.int p1), .val (.int (1 : Int32)), .val (.int (1 : Int32)), .val (.int (1 : Int32)), .val (.ref b135), .val (.int (1 : Int32)), .val (.int (1 : Int32)), .unset] [(.int (1 : Int32)), (.ref b135)])
        obtain ⟨cq145, kq145, q145a, q145b, q145c⟩ := isOf hZ e144 P140_0
        obtain ⟨_, _, ⟨T145, L145, k145, n145⟩, -, X145, ⟨Lc145, hQ145, l145, y145, z145⟩, st145⟩ := X144.virtualBack hx (y := (⟨"com/example/eventail/eventail/DeliveryCount", "setRoomWanted", "(Z)V"⟩ : MethodName)) (z := (⟨"com/example/eventail/eventail/DeliveryCount", "setRoomWanted", "(Z)V"⟩ : MethodName)) hown (mvT hZ (W 28 rfl)) (mvT hZ (W 29 rfl)) (notFace_of_selects (args := #[]) (mvT hZ (W 31 rfl))) (mvT hZ (W 31 rfl)) (mvT hZ (W 30 rfl)) (by decide) (backOf (W := 0) (rm6 l Z a0 hw [] b135 (1 : Int32) (1 : Int64) (1 : Int64) (1 : Int64) T140.heap n0 Z0_c141 P140_0 P140_1 F_begun_e142 g_b135 (Or.inr ⟨rfl, rfl⟩)) hZ (W 32 rfl) (W 2 rfl) (by decide) (by decide)) q145a q145c (g := (mkF m 113 #[.val (.int p1), .val (.int (1 : Int32)), .val (.int (1 : Int32)), .val (.int (1 : Int32)), .val (.ref b135), .val (.int (1 : Int32)), .val (.int (1 : Int32)), .unset] [(.int (1 : Int32)), (.ref b135)])) rfl (by rw [hml]; rfl) (Steps.refl _) (argsL := [(.int (1 : Int32))]) (rest := []) (lenOf pd_4 rfl) rfl (by show 2 * 0 + _ ≤ _; exact Nat.le_of_eq rfl) (hb hby at_113) (fun _ _ => ⟨rfl, e144, (by decide : 1 + 0 ≤ _), (by decide : 16 + 0 ≤ _)⟩)
        dsimp only [Pt.U, Pt.locs, Pt.cells, Pt.slots] at X145 l145 y145 z145 st145 hQ145
        subst l145 y145 z145
        obtain ⟨rfl, N145q, K145, P145_0, P145_1, P145_2⟩ := hQ145
        have N145 := Fr.app N144 N145q
        refine own_goT st145 ?_
        show own_Run p e below _ T145 (mkF m 116 #[.val (.int p1), .val (.int (1 : Int32)), .val (.int (1 : Int32)), .val (.int (1 : Int32)), .val (.ref b135), .val (.int (1 : Int32)), .val (.int (1 : Int32)), .unset] [])
        have Z0_c146 := Nat.le_trans Z0_c141 K145.1
        have K0_c146 := K0_c141.trans K145 (allS (Or.inr sz_b135) all0)
        have P140_0_c146 := P140_0.keep K145
        refine own_go (fun _ k => XS.aload X145.here hx rfl (hb hby at_116) rfl rfl k) ?_
        show own_Run p e below _ T145 (mkF m 118 #[.val (.int p1), .val (.int (1 : Int32)), .val (.int (1 : Int32)), .val (.int (1 : Int32)), .val (.ref b135), .val (.int (1 : Int32)), .val (.int (1 : Int32)), .unset] [(.ref b135)])
        obtain ⟨cq147, kq147, q147a, q147b, q147c⟩ := isOf hZ rfl P145_0
        obtain ⟨_, _, ⟨T147, L147, k147, n147⟩, -, X147, ⟨Lc147, hQ147, l147, y147, z147⟩, st147⟩ := X145.virtualBack hx (y := (⟨"com/example/eventail/eventail/DeliveryCount", "deliveryBegins", "()Z"⟩ : MethodName)) (z := (⟨"com/example/eventail/eventail/DeliveryCount", "deliveryBegins", "()Z"⟩ : MethodName)) hown (mvT hZ (W 9 rfl)) (mvT hZ (W 10 rfl)) (notFace_of_selects (args := #[]) (mvT hZ (W 12 rfl))) (mvT hZ (W 12 rfl)) (mvT hZ (W 11 rfl)) (by decide) (backOf (W := 0) (rm3 l Z a0 hw [] b135 (1 : Int64) (1 : Int32) (1 : Int64) T145.heap n0 Z0_c146 P145_0 P145_1 P145_2 g_b135 (Or.inr ⟨rfl, rfl⟩)) hZ (W 13 rfl) (W 2 rfl) (by decide) (by decide)) q147a q147c (g := (mkF m 118 #[.val (.int p1), .val (.int (1 : Int32)), .val (.int (1 : Int32)), .val (.int (1 : Int32)), .val (.ref b135), .val (.int (1 : Int32)), .val (.int (1 : Int32)), .unset] [(.ref b135)])) rfl (by rw [hml]; rfl) (Steps.refl _) (argsL := []) (rest := []) (lenOf pd_2 rfl) rfl (by show 2 * 0 + _ ≤ _; exact Nat.le_of_eq rfl) (hb hby at_118) (fun _ _ => ⟨rfl, rfl, (by decide : 1 + 0 ≤ _), (by decide : 16 + 0 ≤ _)⟩)
        dsimp only [Pt.U, Pt.locs, Pt.cells, Pt.slots] at X147 l147 y147 z147 st147 hQ147
        subst l147 y147 z147
        obtain ⟨rfl, N147q, K147, P147_0, P147_1, P147_2⟩ := hQ147
        have N147 := Fr.app N145 N147q
        refine own_goT st147 ?_
        show own_Run p e below _ T147 (mkF m 121 #[.val (.int p1), .val (.int (1 : Int32)), .val (.int (1 : Int32)), .val (.int (1 : Int32)), .val (.ref b135), .val (.int (1 : Int32)), .val (.int (1 : Int32)), .unset] [(.int (1 : Int32))])
        have Z0_c148 := Nat.le_trans Z0_c146 K147.1
        have K0_c148 := K0_c146.trans K147 (allS (Or.inr sz_b135) all0)
        have P145_0_c148 := P145_0.keep K147
        have F_begun_e149 : Fld Z T147.heap b135 "com/example/eventail/eventail/DeliveryCount" "begun" "J" (.long (2 : Int64)) := P147_2
        refine own_go (fun _ k => XS.istore X147.here hx rfl (hb hby at_121) rfl (l' := #[.val (.int p1), .val (.int (1 : Int32)), .val (.int (1 : Int32)), .val (.int (1 : Int32)), .val (.ref b135), .val (.int (1 : Int32)), .val (.int (1 : Int32)), .val (.int (1 : Int32))]) rfl k) ?_
        refine own_go (fun _ k => XS.iload X147.here hx rfl (hb hby at_123) rfl k) ?_
        refine own_go (fun _ k => XS.iloadN X147.here hx rfl (hb hby at_125) rfl k) ?_
        show own_Run p e below _ T147 (mkF m 126 #[.val (.int p1), .val (.int (1 : Int32)), .val (.int (1 : Int32)), .val (.int (1 : Int32)), .val (.ref b135), .val (.int (1 : Int32)), .val (.int (1 : Int32)), .val (.int (1 : Int32))] [(.int (1 : Int32)), (.int (1 : Int32))])
        refine own_go (fun _ k => XS.icmpYes X147.here hx rfl (pc0 := 126) (pc' := 131) rfl (hb hby at_126) rfl (teq (by decide : (1 : Int32) = (1 : Int32))).1 (by decide) (by decide) k) ?_
        show own_Run p e below _ T147 (mkF m 131 #[.val (.int p1), .val (.int (1 : Int32)), .val (.int (1 : Int32)), .val (.int (1 : Int32)), .val (.ref b135), .val (.int (1 : Int32)), .val (.int (1 : Int32)), .val (.int (1 : Int32))] [])
        refine own_go (fun _ k => XS.aload X147.here hx rfl (hb hby at_131) rfl rfl k) ?_
        show own_Run p e below _ T147 (mkF m 133 #[.val (.int p1), .val (.int (1 : Int32)), .val (.int (1 : Int32)), .val (.int (1 : Int32)), .val (.ref b135), .val (.int (1 : Int32)), .val (.int (1 : Int32)), .val (.int (1 : Int32))] [(.ref b135)])
        obtain ⟨cq150, kq150, q150a, q150b, q150c⟩ := isOf hZ rfl P147_0
        obtain ⟨_, _, ⟨T150, L150, k150, n150⟩, -, X150, ⟨Lc150, hQ150, l150, y150, z150⟩, st150⟩ := X147.virtualBack hx (y := (⟨"com/example/eventail/eventail/DeliveryCount", "begun", "()J"⟩ : MethodName)) (z := (⟨"com/example/eventail/eventail/DeliveryCount", "begun", "()J"⟩ : MethodName)) hown (mvT hZ (W 18 rfl)) (mvT hZ (W 19 rfl)) (notFace_of_selects (args := #[]) (mvT hZ (W 21 rfl))) (mvT hZ (W 21 rfl)) (mvT hZ (W 20 rfl)) (by decide) (backOf (W := 0) (rm4 l Z a0 hw [] b135 (2 : Int64) T147.heap n0 Z0_c148 F_begun_e149) hZ (W 22 rfl) (W 2 rfl) (by decide) (by decide)) q150a q150c (g := (mkF m 133 #[.val (.int p1), .val (.int (1 : Int32)), .val (.int (1 : Int32)), .val (.int (1 : Int32)), .val (.ref b135), .val (.int (1 : Int32)), .val (.int (1 : Int32)), .val (.int (1 : Int32))] [(.ref b135)])) rfl (by rw [hml]; rfl) (Steps.refl _) (argsL := []) (rest := []) (lenOf pd_3 rfl) rfl (by show 2 * 0 + _ ≤ _; exact Nat.le_of_eq rfl) (hb hby at_133) (fun _ _ => ⟨rfl, rfl, (by decide : 1 + 0 ≤ _), (by decide : 16 + 0 ≤ _)⟩)
        dsimp only [Pt.U, Pt.locs, Pt.cells, Pt.slots] at X150 l150 y150 z150 st150 hQ150
        subst l150 y150 z150
        obtain ⟨rfl, N150q, e150⟩ := hQ150
        have N150 := Fr.app N147 N150q
        refine own_goT st150 ?_
        show own_Run p e below _ T150 (mkF m 136 #[.val (.int p1), .val (.int (1 : Int32)), .val (.int (1 : Int32)), .val (.int (1 : Int32)), .val (.ref b135), .val (.int (1 : Int32)), .val (.int (1 : Int32)), .val (.int (1 : Int32))] [(.long (2 : Int64))])
        refine own_go (X150.ldc2Long hx hown (mvT hZ (W 33 rfl)) (g := (mkF m 136 #[.val (.int p1), .val (.int (1 : Int32)), .val (.int (1 : Int32)), .val (.int (1 : Int32)), .val (.ref b135), .val (.int (1 : Int32)), .val (.int (1 : Int32)), .val (.int (1 : Int32))] [(.long (2 : Int64))])) rfl (hb hby at_136)) ?_
        show own_Run p e below _ T150 (mkF m 139 #[.val (.int p1), .val (.int (1 : Int32)), .val (.int (1 : Int32)), .val (.int (1 : Int32)), .val (.ref b135), .val (.int (1 : Int32)), .val (.int (1 : Int32)), .val (.int (1 : Int32))] [(.long (2 : Int64)), (.long (2 : Int64))])
        refine own_go (fun _ k => XS.lcmp X150.here hx rfl (hb hby at_139) rfl k) ?_
        show own_Run p e below _ T150 (mkF m 140 #[.val (.int p1), .val (.int (1 : Int32)), .val (.int (1 : Int32)), .val (.int (1 : Int32)), .val (.ref b135), .val (.int (1 : Int32)), .val (.int (1 : Int32)), .val (.int (1 : Int32))] [(.int (lcmpW (2 : Int64) (2 : Int64)))])
        refine own_go (fun _ k => XS.ifYes X150.here hx rfl (pc0 := 140) (pc' := 145) rfl (hb hby at_140) rfl (own_lcTe (by decide : (2 : Int64) = (2 : Int64))).1 (by decide) (by decide) k) ?_
        show own_Run p e below _ T150 (mkF m 145 #[.val (.int p1), .val (.int (1 : Int32)), .val (.int (1 : Int32)), .val (.int (1 : Int32)), .val (.ref b135), .val (.int (1 : Int32)), .val (.int (1 : Int32)), .val (.int (1 : Int32))] [])
        refine own_go (fun _ k => XS.aload X150.here hx rfl (hb hby at_145) rfl rfl k) ?_
        show own_Run p e below _ T150 (mkF m 147 #[.val (.int p1), .val (.int (1 : Int32)), .val (.int (1 : Int32)), .val (.int (1 : Int32)), .val (.ref b135), .val (.int (1 : Int32)), .val (.int (1 : Int32)), .val (.int (1 : Int32))] [(.ref b135)])
        obtain ⟨cq151, kq151, q151a, q151b, q151c⟩ := isOf hZ e150 P147_0
        obtain ⟨_, _, ⟨T151, L151, k151, n151⟩, -, X151, ⟨Lc151, hQ151, l151, y151, z151⟩, st151⟩ := X150.virtualBack hx (y := (⟨"com/example/eventail/eventail/DeliveryCount", "isRoomWanted", "()Z"⟩ : MethodName)) (z := (⟨"com/example/eventail/eventail/DeliveryCount", "isRoomWanted", "()Z"⟩ : MethodName)) hown (mvT hZ (W 23 rfl)) (mvT hZ (W 24 rfl)) (notFace_of_selects (args := #[]) (mvT hZ (W 26 rfl))) (mvT hZ (W 26 rfl)) (mvT hZ (W 25 rfl)) (by decide) (backOf (W := 0) (rm5 l Z a0 hw [] b135 (1 : Int64) (1 : Int32) T147.heap n0 Z0_c148 P147_1 (Or.inr ⟨rfl, rfl⟩)) hZ (W 27 rfl) (W 2 rfl) (by decide) (by decide)) q151a q151c (g := (mkF m 147 #[.val (.int p1), .val (.int (1 : Int32)), .val (.int (1 : Int32)), .val (.int (1 : Int32)), .val (.ref b135), .val (.int (1 : Int32)), .val (.int (1 : Int32)), .val (.int (1 : Int32))] [(.ref b135)])) rfl (by rw [hml]; rfl) (Steps.refl _) (argsL := []) (rest := []) (lenOf pd_2 rfl) rfl (by show 2 * 0 + _ ≤ _; exact Nat.le_of_eq rfl) (hb hby at_147) (fun _ _ => ⟨rfl, e150, (by decide : 1 + 0 ≤ _), (by decide : 16 + 0 ≤ _)⟩)
        dsimp only [Pt.U, Pt.locs, Pt.cells, Pt.slots] at X151 l151 y151 z151 st151 hQ151
        subst l151 y151 z151
        obtain ⟨rfl, N151q, e151⟩ := hQ151
        have N151 := Fr.app N150 N151q
        refine own_goT st151 ?_
        show own_Run p e below _ T151 (mkF m 150 #[.val (.int p1), .val (.int (1 : Int32)), .val (.int (1 : Int32)), .val (.int (1 : Int32)), .val (.ref b135), .val (.int (1 : Int32)), .val (.int (1 : Int32)), .val (.int (1 : Int32))] [(.int (1 : Int32))])
        refine own_go (fun _ k => XS.iloadN X151.here hx rfl (hb hby at_150) rfl k) ?_
        show own_Run p e below _ T151 (mkF m 151 #[.val (.int p1), .val (.int (1 : Int32)), .val (.int (1 : Int32)), .val (.int (1 : Int32)), .val (.ref b135), .val (.int (1 : Int32)), .val (.int (1 : Int32)), .val (.int (1 : Int32))] [(.int (1 : Int32)), (.int (1 : Int32))])
        refine own_go (fun _ k => XS.icmpNo X151.here hx rfl (hb hby at_151) rfl (teq (by decide : (1 : Int32) = (1 : Int32))).2 k) ?_
        show own_Run p e below _ T151 (mkF m 154 #[.val (.int p1), .val (.int (1 : Int32)), .val (.int (1 : Int32)), .val (.int (1 : Int32)), .val (.ref b135), .val (.int (1 : Int32)), .val (.int (1 : Int32)), .val (.int (1 : Int32))] [])
        refine own_go (fun _ k => XS.iconst X151.here hx rfl (hb hby at_154) k) ?_
        refine own_go (fun _ k => XS.goto X151.here hx rfl (pc0 := 155) (pc' := 159) rfl (hb hby at_155) (by decide) (by decide) k) ?_
        show own_Run p e below _ T151 (mkF m 159 #[.val (.int p1), .val (.int (1 : Int32)), .val (.int (1 : Int32)), .val (.int (1 : Int32)), .val (.ref b135), .val (.int (1 : Int32)), .val (.int (1 : Int32)), .val (.int (1 : Int32))] [(.int (1 : Int32))])
        refine own_done (Q := fun v h L => Q0 Z p1 h0 n0 v h L) (v := (some (.int (1 : Int32)))) X151 (fun h => by rw [hret] at h; cases h) hlk (fun fs hr => retN X151 hx (t := .boolean) hret (by simp) (hb hby at_159) hr) ?_ (by decide) (by decide)
        show Q0 Z p1 h0 n0 _ T151.heap _
        rw [e151]
        exact ⟨rfl, N151⟩
set_option maxRecDepth 65536 in
set_option maxHeartbeats 40000000 in
theorem comes_1 {Post : Tables → Env → Array Value → State → Outcome → State → Prop} (hpost : ∀ tb e args s v u, (limb_1_1.after args s (.returned v) u = true ∧ limb_1_2.after args s (.returned v) u = true ∧ True) → FrameEnd s (.returned v) u (Jvm.fieldLocs frame_1_writes args s ++ Jvm.arrayLocs frame_1_arrays args s ++ Jvm.staticLocs frame_1_statics s) 16 128 → Post tb e args s (.returned v) u) :
    ArmFor flags0 classFile x code maxLocals ret World_1 tables_1 room_1 Calls_1 rest_1 Pre_1 Post := by
  intro l hfl _ _ p e ha hc hk s m args below hf hA hF happ hP
  obtain ⟨hcalls, hrest, hpre⟩ := hP
  obtain ⟨-, -, -, hnamed, -, -, -, hat⟩ := (Spec.applies_iff hf).mp happ
  obtain ⟨hg, hn⟩ := and_e (Cond.before_iff.mp (show (Jvm.Cond.and given_1 narrow_1).before args s = true from hpre))
  obtain ⟨hcount, hr0⟩ := and_e hg
  have ha0 := hr0
  obtain ⟨w0, rfl⟩ : ∃ w0 : Value, args = #[w0] := by
    have hs : args.size = 1 := by simpa [Cond.value, given_1] using hcount
    obtain ⟨L⟩ := args
    match L, hs with
    | [w0], _ => exact ⟨w0, rfl⟩
  have hw := fun d (hd : d ∈ tables_1) => atoms_spec (ws := Jvm.Cond.code x code maxLocals ret :: tables_1) hat d (List.mem_cons_of_mem _ hd)
  have W := fun (k : Nat) {d : Jvm.Cond} (h : tables_1[k]? = some d) => hw d (List.mem_of_getElem? h)
  have hfit : Fit s := fun {y c} hc i hi => by
    obtain ⟨ha, rfl⟩ := Array.getElem?_eq_some_iff.mp hc
    have q := List.all_eq_true.mp ((Array.all_eq_true_iff_forall_mem.mp hF) _ (Array.getElem_mem ha)) i (List.mem_range.mpr hi)
    simpa [Array.getElem?_eq_getElem hi] using q
  obtain ⟨i0, ei0⟩ := is_v ha0
  obtain rfl : w0 = (.int i0) := Option.some.inj ei0
  obtain ⟨n, o, h1, h2, h3, _, L, rfl, ⟨rfl, N⟩, hq⟩ := rm0 l s _ hw tables_1 i0 s.heap s.heap.size (Nat.le_refl _) p e ha hc hk s m _ below hf ((Spec.applies_iff_loose hf).mp happ).1 ⟨rfl, State.Warmed39.refl s, rfl⟩ trivial
  refine ⟨n, _, h1, h2, h3, hpost _ _ _ _ _ _ ⟨Cond.after_iff.mpr rfl, Cond.after_iff.mpr (eq_i res_at (Term.int_eval (1)) rfl), trivial⟩ ⟨hq.1, hq.2.1, (hq.2.2.sift fun y hy => Or.inr (N y hy)).mono (by decide) (by decide)⟩⟩
theorem main_1_1 : Claimed_1_1 := comes_1 fun _ _ _ _ _ _ h hF => ⟨h.1, hF⟩
theorem main_1_2 : Claimed_1_2 := comes_1 fun _ _ _ _ _ _ h hF => ⟨h.2.1, hF⟩
end Jvm.Pilot.@@N@@
namespace Jvm.Pilot.@@N@@
open Jvm Jvm.ClassFile Sem Op Lib Jvm.Free Jvm.Stand Jvm.Pilot.@@N@@.Jvm.D
/-! MADE BY PROGRAM (witnessworld.py) out of the Statement's table words and the real class files: 9 classes; the members and pool entries that the words name. The judged class is class 1, her method 1. -/
namespace start1
open Jvm.ClassFile
def u (s : String) : CpInfo := .utf8 (stringToUtf16 s)
/-- a pool by its gaps: so many unusable entries, then the entry; so many at the end -/
def gap : Nat → List CpInfo → List CpInfo
  | 0, r => r
  | n + 1, r => .unusable :: gap n r
def poolList (es : List (Nat × CpInfo)) (last : Nat) : List CpInfo := es.foldr (fun e r => gap e.1 (e.2 :: r)) (gap last [])
def pool (es : List (Nat × CpInfo)) (last : Nat) : Array CpInfo := ⟨poolList es last⟩
def fileOf (pool : Array CpInfo) (this : Nat) (attrs : Array Attribute := #[]) (ms : Array MethodInfo := #[]) (fl : Nat := 33) (sup : Nat := 0) (ifs : Array Nat := #[]) (fds : Array FieldInfo := #[]) : ClassFile where
  minorVersion := 0
  majorVersion := 65
  constantPool := pool
  accessFlags := fl
  thisClass := this
  superClass := sup
  interfaces := ifs
  fields := fds
  methods := ms
  attributes := attrs
def plain (name : String) (sup : Option ClassId) : Class where
  name := name
  kind := .ordinary
  loader := none
  accessFlags := 33
  super := sup
  interfaces := #[]
  cf := none
  fields := #[]
  methods := #[]
  instanceTypes := #[]
  staticTypes := #[]
  resolved := #[]
  callSites := []
  init := .initialized
  statics := none
  mirror := none

def pool0 : Array CpInfo := pool [(5, u "<init>"), (0, u "()V"), (1, .class_ 10), (1, u "java/lang/Object")] 113

def k0c0 : Code := { maxStack := 0, maxLocals := 1, code := object_method_1_code, exceptionTable := #[], attributes := #[] }
def k0m0 : Method := { name := "<init>", desc := "()V", sig := { parameters := [], returnType := none }, accessFlags := 1, code := some k0c0 }
/-- java/lang/Object -/
def k0 : Class := { plain "java/lang/Object" none with
  accessFlags := 33
  interfaces := #[]
  cf := some (fileOf pool0 8 #[] #[{ accessFlags := 1, nameIndex := 5, descriptorIndex := 6, attributes := #[] }] 33 0 #[] #[])
  fields := #[]
  methods := #[k0m0]
  instanceTypes := #[]
  staticTypes := #[]
  resolved := Array.replicate 124 none
  statics := none }

def pool1 : Array CpInfo := pool [(2, .class_ 4), (0, .nameAndType 5 6), (0, u "java/lang/Object"), (0, u "<init>"), (0, u "()V"), (0, .class_ 8), (0, u "com/example/eventail/eventail/DeliveryCount"), (0, .methodref 7 3), (0, .methodref 7 11), (0, .nameAndType 12 13), (0, u "setRoomWanted"), (0, u "(Z)V"), (0, .methodref 7 15), (0, .nameAndType 16 17), (0, u "deliveryBegins"), (0, u "()Z"), (0, .methodref 7 19), (0, .nameAndType 20 21), (0, u "begun"), (0, u "()J"), (0, .methodref 7 23), (0, .nameAndType 24 17), (0, u "isRoomWanted"), (0, .long 2), (1, .class_ 28), (0, u "com/example/eventail/eventail/DeliveryCountDeliveryBeginsPinLaw"), (2, u "law"), (0, u "(I)Z")] 3

def k1m0 : Method := { name := "<init>", desc := "()V", sig := { parameters := [], returnType := none }, accessFlags := 1, code := none }
def k1c1 : Code := { maxStack := 4, maxLocals := 8, code := code, exceptionTable := #[], attributes := #[] }
def k1m1 : Method := { name := "law", desc := "(I)Z", sig := { parameters := [.int], returnType := some .boolean }, accessFlags := 9, code := some k1c1 }
/-- com/example/eventail/eventail/DeliveryCountDeliveryBeginsPinLaw -/
def k1 : Class := { plain "com/example/eventail/eventail/DeliveryCountDeliveryBeginsPinLaw" (some 0) with
  accessFlags := 49
  interfaces := #[]
  cf := some (fileOf pool1 27 #[] #[{ accessFlags := 1, nameIndex := 5, descriptorIndex := 6, attributes := #[] }, { accessFlags := 9, nameIndex := 31, descriptorIndex := 32, attributes := #[] }] 49 2 #[] #[])
  fields := #[]
  methods := #[k1m0, k1m1]
  instanceTypes := #[]
  staticTypes := #[]
  resolved := Array.replicate 36 none
  statics := none }

def pool2 : Array CpInfo := pool [(1, .methodref 2 3), (0, .class_ 4), (0, .nameAndType 5 6), (0, u "java/lang/Object"), (0, u "<init>"), (0, u "()V"), (0, .fieldref 8 9), (0, .class_ 10), (0, .nameAndType 11 12), (0, u "com/example/eventail/eventail/DeliveryCount"), (0, u "begun"), (0, u "J"), (0, .fieldref 8 14), (0, .nameAndType 15 12), (0, u "roomWanted"), (0, u "padBefore1"), (0, u "padBefore2"), (0, u "padBefore3"), (0, u "padBefore4"), (0, u "padBefore5"), (0, u "padBefore6"), (0, u "padBefore7"), (0, u "padAfter1"), (0, u "padAfter2"), (0, u "padAfter3"), (0, u "padAfter4"), (0, u "padAfter5"), (0, u "padAfter6"), (0, u "padAfter7"), (2, u "deliveryBegins"), (0, u "()Z"), (1, u "()J"), (0, u "isRoomWanted"), (0, u "setRoomWanted"), (0, u "(Z)V")] 2

def k2c0 : Code := { maxStack := 1, maxLocals := 1, code := prog_4_method_1_code, exceptionTable := #[], attributes := #[] }
def k2m0 : Method := { name := "<init>", desc := "()V", sig := { parameters := [], returnType := none }, accessFlags := 0, code := some k2c0 }
def k2c1 : Code := { maxStack := 5, maxLocals := 1, code := prog_4_method_2_code, exceptionTable := #[], attributes := #[] }
def k2m1 : Method := { name := "deliveryBegins", desc := "()Z", sig := { parameters := [], returnType := some .boolean }, accessFlags := 0, code := some k2c1 }
def k2c2 : Code := { maxStack := 2, maxLocals := 1, code := prog_4_method_3_code, exceptionTable := #[], attributes := #[] }
def k2m2 : Method := { name := "begun", desc := "()J", sig := { parameters := [], returnType := some .long }, accessFlags := 0, code := some k2c2 }
def k2c3 : Code := { maxStack := 4, maxLocals := 1, code := prog_4_method_4_code, exceptionTable := #[], attributes := #[] }
def k2m3 : Method := { name := "isRoomWanted", desc := "()Z", sig := { parameters := [], returnType := some .boolean }, accessFlags := 0, code := some k2c3 }
def k2c4 : Code := { maxStack := 3, maxLocals := 2, code := prog_4_method_5_code, exceptionTable := #[], attributes := #[] }
def k2m4 : Method := { name := "setRoomWanted", desc := "(Z)V", sig := { parameters := [.boolean], returnType := none }, accessFlags := 0, code := some k2c4 }
/-- com/example/eventail/eventail/DeliveryCount -/
def k2 : Class := { plain "com/example/eventail/eventail/DeliveryCount" (some 0) with
  accessFlags := 32
  interfaces := #[]
  cf := some (fileOf pool2 8 #[] #[{ accessFlags := 0, nameIndex := 5, descriptorIndex := 6, attributes := #[] }, { accessFlags := 0, nameIndex := 32, descriptorIndex := 33, attributes := #[] }, { accessFlags := 0, nameIndex := 11, descriptorIndex := 35, attributes := #[] }, { accessFlags := 0, nameIndex := 36, descriptorIndex := 33, attributes := #[] }, { accessFlags := 0, nameIndex := 37, descriptorIndex := 38, attributes := #[] }] 32 2 #[] #[{ accessFlags := 2, nameIndex := 16, descriptorIndex := 12, attributes := #[] }, { accessFlags := 2, nameIndex := 17, descriptorIndex := 12, attributes := #[] }, { accessFlags := 2, nameIndex := 18, descriptorIndex := 12, attributes := #[] }, { accessFlags := 2, nameIndex := 19, descriptorIndex := 12, attributes := #[] }, { accessFlags := 2, nameIndex := 20, descriptorIndex := 12, attributes := #[] }, { accessFlags := 2, nameIndex := 21, descriptorIndex := 12, attributes := #[] }, { accessFlags := 2, nameIndex := 22, descriptorIndex := 12, attributes := #[] }, { accessFlags := 66, nameIndex := 11, descriptorIndex := 12, attributes := #[] }, { accessFlags := 66, nameIndex := 15, descriptorIndex := 12, attributes := #[] }, { accessFlags := 2, nameIndex := 23, descriptorIndex := 12, attributes := #[] }, { accessFlags := 2, nameIndex := 24, descriptorIndex := 12, attributes := #[] }, { accessFlags := 2, nameIndex := 25, descriptorIndex := 12, attributes := #[] }, { accessFlags := 2, nameIndex := 26, descriptorIndex := 12, attributes := #[] }, { accessFlags := 2, nameIndex := 27, descriptorIndex := 12, attributes := #[] }, { accessFlags := 2, nameIndex := 28, descriptorIndex := 12, attributes := #[] }, { accessFlags := 2, nameIndex := 29, descriptorIndex := 12, attributes := #[] }])
  fields := #[{ name := "padBefore1", type := .long, accessFlags := 2, slot := 0, constantValue := 0 }, { name := "padBefore2", type := .long, accessFlags := 2, slot := 1, constantValue := 0 }, { name := "padBefore3", type := .long, accessFlags := 2, slot := 2, constantValue := 0 }, { name := "padBefore4", type := .long, accessFlags := 2, slot := 3, constantValue := 0 }, { name := "padBefore5", type := .long, accessFlags := 2, slot := 4, constantValue := 0 }, { name := "padBefore6", type := .long, accessFlags := 2, slot := 5, constantValue := 0 }, { name := "padBefore7", type := .long, accessFlags := 2, slot := 6, constantValue := 0 }, { name := "begun", type := .long, accessFlags := 66, slot := 7, constantValue := 0 }, { name := "roomWanted", type := .long, accessFlags := 66, slot := 8, constantValue := 0 }, { name := "padAfter1", type := .long, accessFlags := 2, slot := 9, constantValue := 0 }, { name := "padAfter2", type := .long, accessFlags := 2, slot := 10, constantValue := 0 }, { name := "padAfter3", type := .long, accessFlags := 2, slot := 11, constantValue := 0 }, { name := "padAfter4", type := .long, accessFlags := 2, slot := 12, constantValue := 0 }, { name := "padAfter5", type := .long, accessFlags := 2, slot := 13, constantValue := 0 }, { name := "padAfter6", type := .long, accessFlags := 2, slot := 14, constantValue := 0 }, { name := "padAfter7", type := .long, accessFlags := 2, slot := 15, constantValue := 0 }]
  methods := #[k2m0, k2m1, k2m2, k2m3, k2m4]
  instanceTypes := #[.long, .long, .long, .long, .long, .long, .long, .long, .long, .long, .long, .long, .long, .long, .long, .long]
  staticTypes := #[]
  resolved := Array.replicate 41 none
  statics := none }

def pool3 : Array CpInfo := pool [(1, u "java/lang/Cloneable"), (0, .class_ 1), (0, u "java/lang/Object"), (0, .class_ 3)] 3

/-- java/lang/Cloneable -/
def k3 : Class := { plain "java/lang/Cloneable" (some 0) with
  accessFlags := 1537
  interfaces := #[]
  cf := some (fileOf pool3 2 #[] #[] 1537 4 #[] #[])
  fields := #[]
  methods := #[]
  instanceTypes := #[]
  staticTypes := #[]
  resolved := Array.replicate 8 none
  statics := none }

def pool4 : Array CpInfo := pool [(1, u "java/io/Serializable"), (0, .class_ 1), (0, u "java/lang/Object"), (0, .class_ 3)] 3

/-- java/io/Serializable -/
def k4 : Class := { plain "java/io/Serializable" (some 0) with
  accessFlags := 1537
  interfaces := #[]
  cf := some (fileOf pool4 2 #[] #[] 1537 4 #[] #[])
  fields := #[]
  methods := #[]
  instanceTypes := #[]
  staticTypes := #[]
  resolved := Array.replicate 8 none
  statics := none }

/-- the primitive byte -/
def k5 : Class := { plain "byte" none with kind := .primitive 'B', accessFlags := 0x411 }
/-- [B -/
def k6 : Class := { plain "[B" (some 0) with kind := .array 5 .byte, interfaces := #[3, 4], accessFlags := 1041 }

/-- the primitive int -/
def k7 : Class := { plain "int" none with kind := .primitive 'I', accessFlags := 0x411 }
/-- [I -/
def k8 : Class := { plain "[I" (some 0) with kind := .array 7 .int, interfaces := #[3, 4], accessFlags := 1041 }

def heap : Heap := #[]
def classes : Array Class := #[k0, k1, k2, k3, k4, k5, k6, k7, k8]
def interned : List (Array UInt16 × Addr) := []
def slotsUsed : Nat := 0
def theMethod : MethodId := ⟨1, 1⟩
def args0 : Array Value := #[.int 5]
def aboutOver (below : List Frame) : State where
  vm := { classes := classes, interned := interned.toArray }
  heap := heap
  slotsUsed := slotsUsed
  threads := #[{ frames := .invoking theMethod args0 :: below }]
def below0 : List Frame := [.native { method := ⟨0, 0⟩, args := #[] }]
def about1 : State := aboutOver below0
def p0 : Program := .bare "" "" ""
def e0 : Env := launch0.env 0 0 0
theorem w_frames : about1.frames = Frame.invoking theMethod args0 :: below0 := rfl
set_option maxRecDepth 65536 in
theorem w_args : argsFit about1.vm theMethod args0 = true := by decide +kernel
set_option maxRecDepth 65536 in
theorem w_heap : heapFits about1 = true := by decide +kernel
set_option maxRecDepth 65536 in
theorem w_runnable : about1.curStatus? = some .runnable := by decide +kernel
set_option maxRecDepth 65536 in
theorem w_alone : about1.alone = true := by decide +kernel
set_option maxRecDepth 65536 in
theorem w_named : about1.methodNamed? x = some theMethod := by decide +kernel
set_option maxRecDepth 65536 in
theorem w_hears : about1.hears theMethod below0 = true := by decide +kernel
set_option maxRecDepth 65536 in
theorem w_ripe : about1.ripe theMethod args0 below0 = true := by decide +kernel
theorem w_running : about1.status = .running := rfl
set_option maxRecDepth 65536 in
theorem w_room : about1.hasRoom e0.platform room_1 = true :=
  launch0.hasRoom_least _ room_1 (by decide +kernel) (by decide +kernel) (by decide +kernel) (by decide +kernel) (by decide +kernel) (by decide +kernel)
theorem allAtoms_all (ts : List Jvm.Cond) (a : Array Jvm.Value) (st : Jvm.State) : (allAtoms ts).before a st = ts.all (fun c => c.before a st) := by
  induction ts with
  | nil => rfl
  | cons c t ih =>
    show (Jvm.Cond.and c (allAtoms t)).before a st = _
    rw [Jvm.Cond.before_and, ih, List.all_cons]
def words1 : List Jvm.Cond := Jvm.Cond.code x code maxLocals ret :: tables_1
/-- a 'code' word, met by the world's own term for the bytes: nothing is compared byte by byte -/
theorem code_word {y : MethodName} {bytes : ByteArray} {mx : Nat} {rt : Option FieldType} {a : Array Value} {s : State} {m : MethodId} {meth : Method} {c : Code} (h1 : s.methodNamed? y = some m) (h2 : s.vm.method? m = some meth) (h3 : meth.code = some c) (h4 : c.code = bytes)
    (h5 : (c.maxLocals == mx && c.exceptionTable.isEmpty && decide (c.maxStack ≤ mostOperands) && decide (meth.sig.returnType = rt) && !meth.locks && decide (parseMethodDescriptor y.desc = some meth.sig)) = true) : (Jvm.Cond.code y bytes mx rt).before a s = true := by
  simp only [Bool.and_eq_true, beq_iff_eq, Bool.not_eq_true', decide_eq_true_eq] at h5
  obtain ⟨⟨⟨⟨⟨g1, g2⟩, g3⟩, g4⟩, g5⟩, g6⟩ := h5
  simp [Cond.before, Cond.holds, Cond.value, h1, h2, h3, h4, g1, g2, g3, g4, g5, g6]
def isCode : Jvm.Cond → Bool
  | .code _ _ _ _ => true
  | _ => false
theorem all_split {L : List Jvm.Cond} {P : Jvm.Cond → Bool} (h1 : L.all (fun c => isCode c || P c) = true) (h2 : ∀ c ∈ L.filter isCode, P c = true) : L.all P = true := by
  refine List.all_eq_true.mpr fun c hc => ?_
  have h := List.all_eq_true.mp h1 c hc
  rcases Bool.eq_false_or_eq_true (isCode c) with hi | hi
  · exact h2 c (List.mem_filter.mpr ⟨hc, hi⟩)
  · simpa [hi] using h
set_option maxRecDepth 65536 in
theorem w_c0 : (Jvm.Cond.code x code maxLocals ret).before args0 about1 = true := code_word (m := ⟨1, 1⟩) (meth := k1m1) (c := k1c1) (by decide +kernel) rfl rfl rfl (by decide +kernel)
set_option maxRecDepth 65536 in
theorem w_c1 : (Jvm.Cond.code ({ cls := "com/example/eventail/eventail/DeliveryCount", name := "<init>", desc := "()V" } : Jvm.MethodName) prog_4_method_1_code (1 : Nat) (Option.none : Option Jvm.ClassFile.FieldType)).before args0 about1 = true := code_word (m := ⟨2, 0⟩) (meth := k2m0) (c := k2c0) (by decide +kernel) rfl rfl rfl (by decide +kernel)
set_option maxRecDepth 65536 in
theorem w_c2 : (Jvm.Cond.code ({ cls := "java/lang/Object", name := "<init>", desc := "()V" } : Jvm.MethodName) object_method_1_code (1 : Nat) (Option.none : Option Jvm.ClassFile.FieldType)).before args0 about1 = true := code_word (m := ⟨0, 0⟩) (meth := k0m0) (c := k0c0) (by decide +kernel) rfl rfl rfl (by decide +kernel)
set_option maxRecDepth 65536 in
theorem w_c3 : (Jvm.Cond.code ({ cls := "com/example/eventail/eventail/DeliveryCount", name := "deliveryBegins", desc := "()Z" } : Jvm.MethodName) prog_4_method_2_code (1 : Nat) (Option.some Jvm.ClassFile.FieldType.boolean)).before args0 about1 = true := code_word (m := ⟨2, 1⟩) (meth := k2m1) (c := k2c1) (by decide +kernel) rfl rfl rfl (by decide +kernel)
set_option maxRecDepth 65536 in
theorem w_c4 : (Jvm.Cond.code ({ cls := "com/example/eventail/eventail/DeliveryCount", name := "begun", desc := "()J" } : Jvm.MethodName) prog_4_method_3_code (1 : Nat) (Option.some Jvm.ClassFile.FieldType.long)).before args0 about1 = true := code_word (m := ⟨2, 2⟩) (meth := k2m2) (c := k2c2) (by decide +kernel) rfl rfl rfl (by decide +kernel)
set_option maxRecDepth 65536 in
theorem w_c5 : (Jvm.Cond.code ({ cls := "com/example/eventail/eventail/DeliveryCount", name := "isRoomWanted", desc := "()Z" } : Jvm.MethodName) prog_4_method_4_code (1 : Nat) (Option.some Jvm.ClassFile.FieldType.boolean)).before args0 about1 = true := code_word (m := ⟨2, 3⟩) (meth := k2m3) (c := k2c3) (by decide +kernel) rfl rfl rfl (by decide +kernel)
set_option maxRecDepth 65536 in
theorem w_c6 : (Jvm.Cond.code ({ cls := "com/example/eventail/eventail/DeliveryCount", name := "setRoomWanted", desc := "(Z)V" } : Jvm.MethodName) prog_4_method_5_code (2 : Nat) (Option.none : Option Jvm.ClassFile.FieldType)).before args0 about1 = true := code_word (m := ⟨2, 4⟩) (meth := k2m4) (c := k2c4) (by decide +kernel) rfl rfl rfl (by decide +kernel)
def codes1 : List Jvm.Cond := [Jvm.Cond.code x code maxLocals ret, Jvm.Cond.code ({ cls := "com/example/eventail/eventail/DeliveryCount", name := "<init>", desc := "()V" } : Jvm.MethodName) prog_4_method_1_code (1 : Nat) (Option.none : Option Jvm.ClassFile.FieldType), Jvm.Cond.code ({ cls := "java/lang/Object", name := "<init>", desc := "()V" } : Jvm.MethodName) object_method_1_code (1 : Nat) (Option.none : Option Jvm.ClassFile.FieldType), Jvm.Cond.code ({ cls := "com/example/eventail/eventail/DeliveryCount", name := "deliveryBegins", desc := "()Z" } : Jvm.MethodName) prog_4_method_2_code (1 : Nat) (Option.some Jvm.ClassFile.FieldType.boolean), Jvm.Cond.code ({ cls := "com/example/eventail/eventail/DeliveryCount", name := "begun", desc := "()J" } : Jvm.MethodName) prog_4_method_3_code (1 : Nat) (Option.some Jvm.ClassFile.FieldType.long), Jvm.Cond.code ({ cls := "com/example/eventail/eventail/DeliveryCount", name := "isRoomWanted", desc := "()Z" } : Jvm.MethodName) prog_4_method_4_code (1 : Nat) (Option.some Jvm.ClassFile.FieldType.boolean), Jvm.Cond.code ({ cls := "com/example/eventail/eventail/DeliveryCount", name := "setRoomWanted", desc := "(Z)V" } : Jvm.MethodName) prog_4_method_5_code (2 : Nat) (Option.none : Option Jvm.ClassFile.FieldType)]
set_option maxRecDepth 65536 in
theorem codes_eq : words1.filter isCode = codes1 := rfl
theorem w_codes : ∀ c ∈ words1.filter isCode, c.before args0 about1 = true := by
  rw [codes_eq]
  intro c hc
  simp only [codes1, List.mem_cons, List.not_mem_nil, or_false] at hc
  rcases hc with rfl | rfl | rfl | rfl | rfl | rfl | rfl
  · exact w_c0
  · exact w_c1
  · exact w_c2
  · exact w_c3
  · exact w_c4
  · exact w_c5
  · exact w_c6
set_option maxRecDepth 65536 in
theorem w_t1 : (words1.take 24).all (fun c => isCode c || c.before args0 about1) = true := by decide +kernel
set_option maxRecDepth 65536 in
theorem w_t2 : (words1.drop 24).all (fun c => isCode c || c.before args0 about1) = true := by decide +kernel
theorem w_tables : (allAtoms (Jvm.Cond.code x code maxLocals ret :: tables_1)).before args0 about1 = true := by
  rw [allAtoms_all]
  show words1.all (fun c => c.before args0 about1) = true
  refine all_split ?_ w_codes
  rw [← List.take_append_drop 24 words1, List.all_append, w_t1, w_t2]
  rfl
set_option maxRecDepth 65536 in
theorem w_case : (Jvm.Cond.and given_1 narrow_1).before args0 about1 = true := by decide +kernel
theorem w_applies : (headSpec (Jvm.Cond.code x code maxLocals ret :: tables_1) room_1).applies x e0.platform about1 = true :=
  (Spec.applies_iff w_frames).mpr ⟨w_running, w_runnable, w_alone, w_named, w_hears, w_ripe, w_room, w_tables⟩
theorem atStart : AtStart classFile x code maxLocals ret World_1 tables_1 room_1 Calls_1 rest_1 Pre_1 launch0 p0 e0 about1 theMethod args0 below0 :=
  ⟨lists_1, trivial, launch0.admits_env _ _ _, launch0.least_env, fairChoices_fair.cas, fairChoices_fair.clock, w_frames, w_args, w_heap, w_applies, trivial, trivial, w_case⟩
end start1
theorem witness_1 : WitnessClaimed_1 := ⟨start1.p0, start1.e0, start1.about1, start1.theMethod, start1.args0, start1.below0, start1.atStart⟩
end Jvm.Pilot.@@N@@
