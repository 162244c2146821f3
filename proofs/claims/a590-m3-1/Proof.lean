import JvmDerived
import JvmDerived.Pilot.@@N@@Statement
import JvmDerived.Pilot.@@N@@Code
set_option linter.unusedVariables false
set_option linter.unusedSimpArgs false
namespace Jvm.Pilot.@@N@@
open Jvm Jvm.ClassFile Sem Op Lib Jvm.Free Jvm.Stand Jvm.LawKit Jvm.RoadKit Bundle Jvm.Pilot.@@N@@.Jvm.D
section OwnRun
variable {p : Program} {l : Launch} {e : Env} {R : Room} {s : State} {m : MethodId} {args : Array Value} {below : List Frame} {meth : Method} {c : Code} {T T' : State} {locs : List Loc} {cells slots : Nat}
/-- from here the run ends, as G says -/
def own_Run (p : Program) (e : Env) (below : List Frame) (G : Outcome → State → Prop) (T : State) (g : JFrame) : Prop :=
  ∃ s₂ o, Steps p.tables e below (T.setTop g) s₂ ∧ s₂.status = .running ∧ Ended s₂ below o ∧ G o s₂
theorem own_go {G : Outcome → State → Prop} {g g' : JFrame} (h : ∀ t, Steps p.tables e below (T'.setTop g') t → Steps p.tables e below (T.setTop g) t) (k : own_Run p e below G T' g') : own_Run p e below G T g := by
  obtain ⟨s₂, o, h1, h2, h3, h4⟩ := k
  exact ⟨s₂, o, h _ h1, h2, h3, h4⟩
theorem own_goT {G : Outcome → State → Prop} {g g' : JFrame} (h : Steps p.tables e below (T.setTop g) (T'.setTop g')) (k : own_Run p e below G T' g') : own_Run p e below G T g :=
  own_go (fun _ q => h.trans q) k
theorem own_start {G : Outcome → State → Prop} {f f' : JFrame} (h : f = f') (k : own_Run p e below G T f') : ∃ s₂ o, Steps p.tables e below (T.setTop f) s₂ ∧ s₂.status = .running ∧ Ended s₂ below o ∧ G o s₂ := by
  subst h
  exact k
theorem own_done {Q : Option Value → Heap → List Loc → Prop} {C N : Nat} {g : JFrame} (X : Stand p l e R s m args below meth c T locs cells slots) {v : Option Value} (hv : meth.sig.returnType = none → v = none) (hlocks : meth.locks = false)
    (hstep : ∀ fs, (∀ (f : JFrame) (acts : List Action), f.method = m → f.locked = none → f.entered = [] → (doReturn e (T.setTop f) acts v).1 = T.setFrames fs) → Steps p.tables e below (T.setTop g) (T.setFrames fs))
    (hQ : Q v T.heap locs) (hc : cells ≤ C) (hs : slots ≤ N) :
    own_Run p e below (fun o U' => ∃ v L, o = .returned v ∧ Q v U'.heap L ∧ FrameEnd s o U' L C N) T g := by
  obtain ⟨fs, hr, hrun, hended, hW, hsame⟩ := X.leave hv hlocks
  exact ⟨_, _, hstep fs hr, hrun, hended, _, _, rfl, hQ, ⟨_, rfl⟩, hW, hsame.mono hc hs⟩
theorem own_mono {cells' slots' : Nat} (X : Stand p l e R s m args below meth c T locs cells slots) (hc : cells ≤ cells') (hs : slots ≤ slots') : Stand p l e R s m args below meth c T locs cells' slots' :=
  ⟨X.admits, X.cas, X.clock, X.frames, X.room, X.hears, X.method, X.code, X.here, X.tail, X.warmed, X.limits, X.bytes, X.same.mono hc hs⟩
theorem own_retI (X : Stand p l e R s m args below meth c T locs cells slots) (hx : p.tables.exec = Jvm.exec) {pc : Nat} {Ls : Array Slot} {z : Int32} {rest : List Value} (hret : meth.sig.returnType = some .int) (hd : decode c.code pc = .ok (.ireturn, 1)) {fs : List Frame}
    (hl : ∀ (f : JFrame) (acts : List Action), f.method = m → f.locked = none → f.entered = [] → (doReturn e (T.setTop f) acts (some (.int z))).1 = T.setFrames fs) : Steps p.tables e below (T.setTop (mkF m pc Ls (.int z :: rest))) (T.setFrames fs) :=
  retOut X hx hret rfl (Or.inl ⟨rfl, Or.inl rfl, z, rfl⟩) hd hl
theorem own_retL (X : Stand p l e R s m args below meth c T locs cells slots) (hx : p.tables.exec = Jvm.exec) {pc : Nat} {Ls : Array Slot} {z : Int64} {rest : List Value} (hret : meth.sig.returnType = some .long) (hd : decode c.code pc = .ok (.lreturn, 1)) {fs : List Frame}
    (hl : ∀ (f : JFrame) (acts : List Action), f.method = m → f.locked = none → f.entered = [] → (doReturn e (T.setTop f) acts (some (.long z))).1 = T.setFrames fs) : Steps p.tables e below (T.setTop (mkF m pc Ls (.long z :: rest))) (T.setFrames fs) :=
  retOut X hx hret rfl (Or.inr (Or.inl ⟨rfl, rfl, z, rfl⟩)) hd hl
theorem own_retA {t : FieldType} (X : Stand p l e R s m args below meth c T locs cells slots) (hx : p.tables.exec = Jvm.exec) {pc : Nat} {Ls : Array Slot} {w : Value} {rest : List Value} (hret : meth.sig.returnType = some t) (ht : t.isReference = true) (hn : narrow t w = w) (hw : w.isRef = true) (hd : decode c.code pc = .ok (.areturn, 1)) {fs : List Frame}
    (hl : ∀ (f : JFrame) (acts : List Action), f.method = m → f.locked = none → f.entered = [] → (doReturn e (T.setTop f) acts (some w)).1 = T.setFrames fs) : Steps p.tables e below (T.setTop (mkF m pc Ls (w :: rest))) (T.setFrames fs) :=
  retOut X hx hret hn (Or.inr (Or.inr (Or.inr (Or.inr ⟨rfl, ht, hw⟩)))) hd hl
theorem own_ns {Z : State} {h : Heap} {a : Addr} {C : String} (E : Exa Z h a C) : ∃ c : Cell, h[a]? = some c ∧ c.vm.isStatics = false := by
  obtain ⟨c, k, h1, -, -, h4, -⟩ := E
  exact ⟨c, h1, h4⟩
theorem own_nsV {Z : State} {h : Heap} {a : Addr} {k : ClassId} {ty : FieldType} {n : Int32} {vs : List Value} {d : Value} (V : Arv Z h a k ty n vs d) : ∃ c : Cell, h[a]? = some c ∧ c.vm.isStatics = false := by
  obtain ⟨c, A, -⟩ := V
  exact ⟨c, A.1, A.plain⟩
theorem own_staKeep {Z : State} {h h' : Heap} {ws : List Addr} {C n d : String} {w : Value} (F : Sta Z h C n d w) (K : Keep h h' ws) (q : ∀ x ∈ ws, ∃ c : Cell, h[x]? = some c ∧ c.vm.isStatics = false) : Sta Z h' C n d w := by
  obtain ⟨cf, i, k, f, st, cell, h1, h2, h3, h4, h5, h6, h7⟩ := F
  refine ⟨cf, i, k, f, st, cell, h1, h2, h3, h4, K.2.1 st cell h5 (fun hm => ?_), h6, h7⟩
  obtain ⟨c, e1, e2⟩ := q st hm
  cases h5.symm.trans e1
  rw [h6] at e2; cases e2
theorem own_eqL {args : Array Value} {first s : State} {o : Option Outcome} {idx : List Nat} {t : Term} {n : Int64} (h : (Jvm.Cond.eq t (Term.long n)).value args first o s idx = some true) : t.eval args first o idx s = some (.long n) := by
  cases ht : t.eval args first o idx s with
  | none => simp [Cond.value, ht] at h
  | some x => cases x <;> simp [Cond.value, ht, Term.eval] at h ⊢ <;> exact h
theorem own_eqI {args : Array Value} {first s : State} {o : Option Outcome} {idx : List Nat} {t : Term} {n : Int32} (h : (Jvm.Cond.eq t (Term.int n)).value args first o s idx = some true) : t.eval args first o idx s = some (.int n) := by
  cases ht : t.eval args first o idx s with
  | none => simp [Cond.value, ht] at h
  | some x => cases x <;> simp [Cond.value, ht, Term.eval] at h ⊢ <;> exact h
theorem own_eqR {args : Array Value} {first s : State} {o : Option Outcome} {idx : List Nat} {t u : Term} {x : Addr} (h : (Jvm.Cond.eq t u).value args first o s idx = some true) (hu : u.eval args first o idx s = some (.ref x)) : t.eval args first o idx s = some (.ref x) := by
  cases ht : t.eval args first o idx s with
  | none => simp [Cond.value, ht] at h
  | some y => cases y <;> simp [Cond.value, ht, hu] at h ⊢ <;> exact h
theorem own_nf {s : State} {args : Array Value} {C : String} {y y' : MethodName} (hsel : (Jvm.Cond.selects C y y).before args s = true) (hc : y'.cls = y.cls) : NotFace s y' := fun r0 h0 => by
  obtain ⟨c2, r2, m2, q1, q2, q3, q4, kP, hkP, hkPi⟩ := Cond.selects_spec hsel
  have a := findClass_of_methodNamed q3
  have b := findClass_of_methodNamed h0
  rw [hc] at b
  have e := Option.some.inj (a.symm.trans b)
  exact ⟨kP, by rw [← e]; exact hkP, hkPi⟩
theorem own_selP {s : State} {args args' : Array Value} {C : String} {y y' : MethodName} (hsel : (Jvm.Cond.selects C y' y').before args s = true) (hc : y.cls = y'.cls) (hpriv : s.PrivateAt y) (hinst : (Jvm.Cond.instanceMethod y).before args' s = true) (hy : y.cls ≠ "java/lang/invoke/MethodHandle" ∧ y.cls ≠ "java/lang/invoke/VarHandle") : (Jvm.Cond.selects y.cls y y).before args' s = true := by
  obtain ⟨mk, methM, hnamed, -, -, -⟩ := Cond.instanceMethod_spec hinst
  obtain ⟨k, hk, hni⟩ := own_nf hsel hc mk hnamed
  exact selects_self_of_private (findClass_of_methodNamed hnamed) hk hni hpriv hinst hy
end OwnRun
theorem own_lcLt {x y : Int64} (h : x < y) : lcmpW x y = -1 := by
  have h1 : ¬ (x > y) := by simp only [GT.gt, Int64.lt_iff_toInt_lt] at h ⊢; omega
  have h2 : ¬ (x = y) := by rintro rfl; exact Int64.lt_irrefl h
  simp [lcmpW, h1, h2]
theorem own_lcGt {x y : Int64} (h : y < x) : lcmpW x y = 1 := by
  have h1 : x > y := h
  simp [lcmpW, h1]
theorem own_lcEq {x y : Int64} (h : x = y) : lcmpW x y = 0 := by
  subst h
  have h1 : ¬ (x > x) := Int64.lt_irrefl
  simp [lcmpW, h1]
theorem own_lcNlt {x y : Int64} (h : ¬ x < y) : lcmpW x y = 0 ∨ lcmpW x y = 1 := by
  by_cases q : x = y
  · exact Or.inl (own_lcEq q)
  · refine Or.inr (own_lcGt ?_)
    simp only [Int64.lt_iff_toInt_lt, ← Int64.toInt_inj] at h q ⊢; omega
theorem own_lcNgt {x y : Int64} (h : ¬ y < x) : lcmpW x y = 0 ∨ lcmpW x y = -1 := by
  by_cases q : x = y
  · exact Or.inl (own_lcEq q)
  · refine Or.inr (own_lcLt ?_)
    simp only [Int64.lt_iff_toInt_lt, ← Int64.toInt_inj] at h q ⊢; omega
theorem own_lcNe {x y : Int64} (h : ¬ x = y) : lcmpW x y = 1 ∨ lcmpW x y = -1 := by
  by_cases q : x < y
  · exact Or.inr (own_lcLt q)
  · refine Or.inl (own_lcGt ?_)
    simp only [Int64.lt_iff_toInt_lt, ← Int64.toInt_inj] at h q ⊢; omega
theorem own_lcT {x y : Int64} (h : x < y) : ifCond.holds .lt (lcmpW x y) = true ∧ ifCond.holds .ge (lcmpW x y) = false ∧ ifCond.holds .gt (lcmpW y x) = true ∧ ifCond.holds .le (lcmpW y x) = false := by
  rw [own_lcLt h, own_lcGt h]; decide
theorem own_lcF {x y : Int64} (h : ¬ x < y) : ifCond.holds .lt (lcmpW x y) = false ∧ ifCond.holds .ge (lcmpW x y) = true ∧ ifCond.holds .gt (lcmpW y x) = false ∧ ifCond.holds .le (lcmpW y x) = true := by
  rcases own_lcNlt h with q | q <;> rcases own_lcNgt (x := y) (y := x) h with r | r <;> rw [q, r] <;> decide
theorem own_lcTe {x y : Int64} (h : x = y) : ifCond.holds .eq (lcmpW x y) = true ∧ ifCond.holds .ne (lcmpW x y) = false := by
  rw [own_lcEq h]; decide
theorem own_lcFe {x y : Int64} (h : ¬ x = y) : ifCond.holds .eq (lcmpW x y) = false ∧ ifCond.holds .ne (lcmpW x y) = true := by
  rcases own_lcNe h with q | q <;> rw [q] <;> decide
theorem d1_0 : decode prog_4_method_1_code 0 = .ok (.aload_n 0, 1) := by decide +kernel
theorem d1_1 : decode prog_4_method_1_code 1 = .ok (.invokespecial 1, 3) := by decide +kernel
theorem d1_4 : decode prog_4_method_1_code 4 = .ok (.return_, 1) := by decide +kernel
theorem pn_1 : plainName "com/example/eventail/eventail/DeliveryCount" = true := by first | (simp [plainName, overriddenIn]; done) | decide +kernel
theorem ef_1 (m : MethodId) (x0 : Addr) : entryFrame m #[(.ref x0)] 1 = mkF m 0 #[.val (.ref x0)] [] := by first | (simp [entryFrame, mkF, argsToLocals, Value.category]; done) | rfl
def Q1 (Z : State) (a1 : Addr) (h0 : Heap) (n0 : Nat) (v : Option Value) (h : Heap) (L : List Loc) : Prop := v = none ∧ Fr n0 L ∧ h = h0
set_option maxRecDepth 65536 in
set_option maxHeartbeats 40000000 in
theorem rm1 (l : Launch) (Z : State) (a0 : Array Value) (hw : ∀ d ∈ tables_1, d.before a0 Z = true) (ws : List Jvm.Cond) (a1 : Addr) (h0 : Heap) (n0 : Nat) (Z0 : n0 ≤ h0.size) :
    MetFree l (⟨"com/example/eventail/eventail/DeliveryCount", "<init>", "()V"⟩ : MethodName) (head1 (Jvm.Cond.code (⟨"com/example/eventail/eventail/DeliveryCount", "<init>", "()V"⟩ : MethodName) prog_4_method_1_code 1 none :: ws) ({ frames := 1, cells := 0, slots := 0, locals := 12 } : Room)) (fun a U => a = #[(.ref a1)] ∧ Z.Warmed39 U.vm ∧ U.heap = h0) (fun _ _ _ _ _ => True) (fun _ U o U' => ∃ v L, o = .returned v ∧ Q1 Z a1 h0 n0 v U'.heap L ∧ FrameEnd U o U' L ({ frames := 1, cells := 0, slots := 0, locals := 12 } : Room).cells ({ frames := 1, cells := 0, slots := 0, locals := 12 } : Room).slots) := by
  refine MetFree.of_bodySF (plainFor_of_name pn_1) hisR ?_
  intro p e s m args below meth c s₁ Bd hml0 hP hK
  obtain ⟨rfl, hZ, hh⟩ := hP
  have hx := Bd.exec
  have hby := Bd.bytes
  have hml : c.maxLocals = 1 := hml0
  have hown : s.vm.findClass "com/example/eventail/eventail/DeliveryCount" = some m.cls := findClass_of_methodNamed Bd.named
  have hnm := (name_of_methodNamed Bd.named Bd.method).1
  have hret := Bd.returns
  have hlk : meth.locks = false := BodyLoose.notSynchronized Bd
  have X0 : Stand p l e ({ frames := 1, cells := 0, slots := 0, locals := 12 } : Room) s m #[(.ref a1)] below meth c s₁ [] 0 0 := Stand.of_body Bd
  have e0 : s₁.heap = h0 := by rw [← hh, Bd.state]; rfl
  have N0 := Fr.nil n0
  have W := fun (k : Nat) {d : Jvm.Cond} (h : tables_1[k]? = some d) => hw d (List.mem_of_getElem? h)
  have K0 : Keep h0 h0 [] := Keep.refl _ _
  refine own_start (ef_1 m a1) ?_
  show own_Run p e below _ s₁ (mkF m 0 #[.val (.ref a1)] [])
  refine own_go (fun _ k => XS.aloadN X0.here hx rfl (hb hby d1_0) rfl rfl k) ?_
  show own_Run p e below _ s₁ (mkF m 1 #[.val (.ref a1)] [(.ref a1)])
  obtain ⟨T1, X1, e1, st1⟩ := initO X0 hx hZ hown (W 6 rfl) (W 7 rfl) (W 8 rfl) e0 (g := (mkF m 1 #[.val (.ref a1)] [(.ref a1)])) rfl (by rw [hml]; rfl) rfl (hb hby d1_1) (by decide) (W := 0) (by show 2 * 0 + _ ≤ _; exact Nat.le_of_eq rfl) (by decide)
  refine own_go st1 ?_
  show own_Run p e below _ T1 (mkF m 4 #[.val (.ref a1)] [])
  refine own_done (Q := fun v h L => Q1 Z a1 h0 n0 v h L) (v := none) X1 (fun _ => rfl) hlk (fun fs hr => X1.returnOut hx hret (hb hby d1_4) hr) ?_ (by decide) (by decide)
  show Q1 Z a1 h0 n0 _ T1.heap _
  rw [e1]
  exact ⟨rfl, N0, rfl⟩
theorem d3_0 : decode prog_4_method_4_code 0 = .ok (.aload_n 0, 1) := by decide +kernel
theorem d3_1 : decode prog_4_method_4_code 1 = .ok (.getfield 13, 3) := by decide +kernel
theorem d3_4 : decode prog_4_method_4_code 4 = .ok (.lconst 0, 1) := by decide +kernel
theorem d3_5 : decode prog_4_method_4_code 5 = .ok (.lcmp, 1) := by decide +kernel
theorem d3_6 : decode prog_4_method_4_code 6 = .ok (.ifCond .eq 7, 3) := by decide +kernel
theorem d3_9 : decode prog_4_method_4_code 9 = .ok (.iconst 1, 1) := by decide +kernel
theorem d3_10 : decode prog_4_method_4_code 10 = .ok (.goto 4, 3) := by decide +kernel
theorem d3_13 : decode prog_4_method_4_code 13 = .ok (.iconst 0, 1) := by decide +kernel
theorem d3_14 : decode prog_4_method_4_code 14 = .ok (.ireturn, 1) := by decide +kernel
theorem pn_3 : plainName "com/example/eventail/eventail/DeliveryCount" = true := by first | (simp [plainName, overriddenIn]; done) | decide +kernel
theorem ef_3 (m : MethodId) (x0 : Addr) : entryFrame m #[(.ref x0)] 1 = mkF m 0 #[.val (.ref x0)] [] := by first | (simp [entryFrame, mkF, argsToLocals, Value.category]; done) | rfl
def Q3 (Z : State) (a1 : Addr) (w1 : Int64) (r1 : Int32) (h0 : Heap) (n0 : Nat) (v : Option Value) (h : Heap) (L : List Loc) : Prop := v = some (.int r1) ∧ Fr n0 L ∧ h = h0
set_option maxRecDepth 65536 in
set_option maxHeartbeats 40000000 in
theorem rm3 (l : Launch) (Z : State) (a0 : Array Value) (hw : ∀ d ∈ tables_1, d.before a0 Z = true) (ws : List Jvm.Cond) (a1 : Addr) (w1 : Int64) (r1 : Int32) (h0 : Heap) (n0 : Nat) (Z0 : n0 ≤ h0.size) (F_roomWanted_a1 : Fld Z h0 a1 "com/example/eventail/eventail/DeliveryCount" "roomWanted" "J" (.long w1)) (hp : w1 = (0 : Int64) ∧ r1 = (0 : Int32) ∨ w1 = (1 : Int64) ∧ r1 = (1 : Int32)) :
    MetFree l (⟨"com/example/eventail/eventail/DeliveryCount", "isRoomWanted", "()Z"⟩ : MethodName) (head1 (Jvm.Cond.code (⟨"com/example/eventail/eventail/DeliveryCount", "isRoomWanted", "()Z"⟩ : MethodName) prog_4_method_4_code 1 (some .boolean) :: ws) ({ frames := 0, cells := 0, slots := 0, locals := 0 } : Room)) (fun a U => a = #[(.ref a1)] ∧ Z.Warmed39 U.vm ∧ U.heap = h0) (fun _ _ _ _ _ => True) (fun _ U o U' => ∃ v L, o = .returned v ∧ Q3 Z a1 w1 r1 h0 n0 v U'.heap L ∧ FrameEnd U o U' L ({ frames := 0, cells := 0, slots := 0, locals := 0 } : Room).cells ({ frames := 0, cells := 0, slots := 0, locals := 0 } : Room).slots) := by
  refine MetFree.of_bodySF (plainFor_of_name pn_3) hisR ?_
  intro p e s m args below meth c s₁ Bd hml0 hP hK
  obtain ⟨rfl, hZ, hh⟩ := hP
  have hx := Bd.exec
  have hby := Bd.bytes
  have hml : c.maxLocals = 1 := hml0
  have hown : s.vm.findClass "com/example/eventail/eventail/DeliveryCount" = some m.cls := findClass_of_methodNamed Bd.named
  have hnm := (name_of_methodNamed Bd.named Bd.method).1
  have hret := Bd.returns
  have hlk : meth.locks = false := BodyLoose.notSynchronized Bd
  have X0 : Stand p l e ({ frames := 0, cells := 0, slots := 0, locals := 0 } : Room) s m #[(.ref a1)] below meth c s₁ [] 0 0 := Stand.of_body Bd
  have e0 : s₁.heap = h0 := by rw [← hh, Bd.state]; rfl
  have N0 := Fr.nil n0
  have W := fun (k : Nat) {d : Jvm.Cond} (h : tables_1[k]? = some d) => hw d (List.mem_of_getElem? h)
  have K0 : Keep h0 h0 [] := Keep.refl _ _
  refine own_start (ef_3 m a1) ?_
  show own_Run p e below _ s₁ (mkF m 0 #[.val (.ref a1)] [])
  rcases hp with ⟨rfl, rfl⟩ | ⟨rfl, rfl⟩
  · show own_Run p e below _ s₁ (mkF m 0 #[.val (.ref a1)] [])
    refine own_go (fun _ k => XS.aloadN X0.here hx rfl (hb hby d3_0) rfl rfl k) ?_
    show own_Run p e below _ s₁ (mkF m 1 #[.val (.ref a1)] [(.ref a1)])
    obtain ⟨T2, X2, e2, st2⟩ := getF X0 hx hZ hown (host := "") (Or.inl (W 14 rfl)) Via.refl e0 F_roomWanted_a1 (g := (mkF m 1 #[.val (.ref a1)] [(.ref a1)])) rfl rfl (hb hby d3_1)
    refine own_go st2 ?_
    show own_Run p e below _ T2 (mkF m 4 #[.val (.ref a1)] [(.long (0 : Int64))])
    refine own_go (fun _ k => XS.lconst X2.here hx rfl (hb hby d3_4) k) ?_
    refine own_go (fun _ k => XS.lcmp X2.here hx rfl (hb hby d3_5) rfl k) ?_
    show own_Run p e below _ T2 (mkF m 6 #[.val (.ref a1)] [(.int (lcmpW (0 : Int64) (0 : Int64)))])
    refine own_go (fun _ k => XS.ifYes X2.here hx rfl (pc0 := 6) (pc' := 13) rfl (hb hby d3_6) rfl (own_lcTe (by decide : (0 : Int64) = (0 : Int64))).1 (by decide) (by decide) k) ?_
    show own_Run p e below _ T2 (mkF m 13 #[.val (.ref a1)] [])
    refine own_go (fun _ k => XS.iconst X2.here hx rfl (hb hby d3_13) k) ?_
    show own_Run p e below _ T2 (mkF m 14 #[.val (.ref a1)] [(.int (0 : Int32))])
    refine own_done (Q := fun v h L => Q3 Z a1 (0 : Int64) (0 : Int32) h0 n0 v h L) (v := (some (.int (0 : Int32)))) X2 (fun h => by rw [hret] at h; cases h) hlk (fun fs hr => retN X2 hx (t := .boolean) hret (by simp) (hb hby d3_14) hr) ?_ (by decide) (by decide)
    show Q3 Z a1 (0 : Int64) (0 : Int32) h0 n0 _ T2.heap _
    rw [e2]
    exact ⟨rfl, N0, rfl⟩
  · show own_Run p e below _ s₁ (mkF m 0 #[.val (.ref a1)] [])
    refine own_go (fun _ k => XS.aloadN X0.here hx rfl (hb hby d3_0) rfl rfl k) ?_
    show own_Run p e below _ s₁ (mkF m 1 #[.val (.ref a1)] [(.ref a1)])
    obtain ⟨T3, X3, e3, st3⟩ := getF X0 hx hZ hown (host := "") (Or.inl (W 14 rfl)) Via.refl e0 F_roomWanted_a1 (g := (mkF m 1 #[.val (.ref a1)] [(.ref a1)])) rfl rfl (hb hby d3_1)
    refine own_go st3 ?_
    show own_Run p e below _ T3 (mkF m 4 #[.val (.ref a1)] [(.long (1 : Int64))])
    refine own_go (fun _ k => XS.lconst X3.here hx rfl (hb hby d3_4) k) ?_
    refine own_go (fun _ k => XS.lcmp X3.here hx rfl (hb hby d3_5) rfl k) ?_
    show own_Run p e below _ T3 (mkF m 6 #[.val (.ref a1)] [(.int (lcmpW (1 : Int64) (0 : Int64)))])
    refine own_go (fun _ k => XS.ifNo X3.here hx rfl (hb hby d3_6) rfl (own_lcFe (by decide : ¬ ((1 : Int64) = (0 : Int64)))).1 k) ?_
    show own_Run p e below _ T3 (mkF m 9 #[.val (.ref a1)] [])
    refine own_go (fun _ k => XS.iconst X3.here hx rfl (hb hby d3_9) k) ?_
    refine own_go (fun _ k => XS.goto X3.here hx rfl (pc0 := 10) (pc' := 14) rfl (hb hby d3_10) (by decide) (by decide) k) ?_
    show own_Run p e below _ T3 (mkF m 14 #[.val (.ref a1)] [(.int (1 : Int32))])
    refine own_done (Q := fun v h L => Q3 Z a1 (1 : Int64) (1 : Int32) h0 n0 v h L) (v := (some (.int (1 : Int32)))) X3 (fun h => by rw [hret] at h; cases h) hlk (fun fs hr => retN X3 hx (t := .boolean) hret (by simp) (hb hby d3_14) hr) ?_ (by decide) (by decide)
    show Q3 Z a1 (1 : Int64) (1 : Int32) h0 n0 _ T3.heap _
    rw [e3]
    exact ⟨rfl, N0, rfl⟩
theorem d4_0 : decode prog_4_method_5_code 0 = .ok (.aload_n 0, 1) := by decide +kernel
theorem d4_1 : decode prog_4_method_5_code 1 = .ok (.iload_n 1, 1) := by decide +kernel
theorem d4_2 : decode prog_4_method_5_code 2 = .ok (.ifCond .eq 7, 3) := by decide +kernel
theorem d4_5 : decode prog_4_method_5_code 5 = .ok (.lconst 1, 1) := by decide +kernel
theorem d4_6 : decode prog_4_method_5_code 6 = .ok (.goto 4, 3) := by decide +kernel
theorem d4_9 : decode prog_4_method_5_code 9 = .ok (.lconst 0, 1) := by decide +kernel
theorem d4_10 : decode prog_4_method_5_code 10 = .ok (.putfield 13, 3) := by decide +kernel
theorem d4_13 : decode prog_4_method_5_code 13 = .ok (.return_, 1) := by decide +kernel
theorem pn_4 : plainName "com/example/eventail/eventail/DeliveryCount" = true := by first | (simp [plainName, overriddenIn]; done) | decide +kernel
theorem ef_4 (m : MethodId) (x0 : Addr) (x1 : Int32) : entryFrame m #[(.ref x0), (.int x1)] 2 = mkF m 0 #[.val (.ref x0), .val (.int x1)] [] := by first | (simp [entryFrame, mkF, argsToLocals, Value.category]; done) | rfl
def Q4 (Z : State) (a1 : Addr) (p2 : Int32) (u : Int64) (u2 : Int64) (w4 : Int64) (h0 : Heap) (n0 : Nat) (v : Option Value) (h : Heap) (L : List Loc) : Prop := v = none ∧ Fr n0 L ∧ Keep h0 h [a1] ∧ Exa Z h a1 "com/example/eventail/eventail/DeliveryCount" ∧ Fld Z h a1 "com/example/eventail/eventail/DeliveryCount" "roomWanted" "J" (.long u2) ∧ Fld Z h a1 "com/example/eventail/eventail/DeliveryCount" "begun" "J" (.long w4)
set_option maxRecDepth 65536 in
set_option maxHeartbeats 40000000 in
theorem rm4 (l : Launch) (Z : State) (a0 : Array Value) (hw : ∀ d ∈ tables_1, d.before a0 Z = true) (ws : List Jvm.Cond) (a1 : Addr) (p2 : Int32) (u : Int64) (u2 : Int64) (w4 : Int64) (h0 : Heap) (n0 : Nat) (Z0 : n0 ≤ h0.size) (E_a1 : Exa Z h0 a1 "com/example/eventail/eventail/DeliveryCount") (F_roomWanted_a1 : Fld Z h0 a1 "com/example/eventail/eventail/DeliveryCount" "roomWanted" "J" (.long u)) (F_begun_a1 : Fld Z h0 a1 "com/example/eventail/eventail/DeliveryCount" "begun" "J" (.long w4)) (g_a1 : n0 ≤ a1) (hp : p2 = (0 : Int32) ∧ u2 = (0 : Int64) ∨ p2 = (1 : Int32) ∧ u2 = (1 : Int64)) :
    MetFree l (⟨"com/example/eventail/eventail/DeliveryCount", "setRoomWanted", "(Z)V"⟩ : MethodName) (head1 (Jvm.Cond.code (⟨"com/example/eventail/eventail/DeliveryCount", "setRoomWanted", "(Z)V"⟩ : MethodName) prog_4_method_5_code 2 none :: ws) ({ frames := 0, cells := 0, slots := 0, locals := 0 } : Room)) (fun a U => a = #[(.ref a1), (.int p2)] ∧ Z.Warmed39 U.vm ∧ U.heap = h0) (fun _ _ _ _ _ => True) (fun _ U o U' => ∃ v L, o = .returned v ∧ Q4 Z a1 p2 u u2 w4 h0 n0 v U'.heap L ∧ FrameEnd U o U' L ({ frames := 0, cells := 0, slots := 0, locals := 0 } : Room).cells ({ frames := 0, cells := 0, slots := 0, locals := 0 } : Room).slots) := by
  refine MetFree.of_bodySF (plainFor_of_name pn_4) hisR ?_
  intro p e s m args below meth c s₁ Bd hml0 hP hK
  obtain ⟨rfl, hZ, hh⟩ := hP
  have hx := Bd.exec
  have hby := Bd.bytes
  have hml : c.maxLocals = 2 := hml0
  have hown : s.vm.findClass "com/example/eventail/eventail/DeliveryCount" = some m.cls := findClass_of_methodNamed Bd.named
  have hnm := (name_of_methodNamed Bd.named Bd.method).1
  have hret := Bd.returns
  have hlk : meth.locks = false := BodyLoose.notSynchronized Bd
  have X0 : Stand p l e ({ frames := 0, cells := 0, slots := 0, locals := 0 } : Room) s m #[(.ref a1), (.int p2)] below meth c s₁ [] 0 0 := Stand.of_body Bd
  have e0 : s₁.heap = h0 := by rw [← hh, Bd.state]; rfl
  have N0 := Fr.nil n0
  have W := fun (k : Nat) {d : Jvm.Cond} (h : tables_1[k]? = some d) => hw d (List.mem_of_getElem? h)
  have K0 : Keep h0 h0 [a1] := Keep.refl _ _
  refine own_start (ef_4 m a1 p2) ?_
  show own_Run p e below _ s₁ (mkF m 0 #[.val (.ref a1), .val (.int p2)] [])
  rcases hp with ⟨rfl, rfl⟩ | ⟨rfl, rfl⟩
  · show own_Run p e below _ s₁ (mkF m 0 #[.val (.ref a1), .val (.int (0 : Int32))] [])
    refine own_go (fun _ k => XS.aloadN X0.here hx rfl (hb hby d4_0) rfl rfl k) ?_
    refine own_go (fun _ k => XS.iloadN X0.here hx rfl (hb hby d4_1) rfl k) ?_
    show own_Run p e below _ s₁ (mkF m 2 #[.val (.ref a1), .val (.int (0 : Int32))] [(.int (0 : Int32)), (.ref a1)])
    refine own_go (fun _ k => XS.ifYes X0.here hx rfl (pc0 := 2) (pc' := 9) rfl (hb hby d4_2) rfl ((if0 _ _).trans (teq (by decide : (0 : Int32) = (0 : Int32))).1) (by decide) (by decide) k) ?_
    show own_Run p e below _ s₁ (mkF m 9 #[.val (.ref a1), .val (.int (0 : Int32))] [(.ref a1)])
    refine own_go (fun _ k => XS.lconst X0.here hx rfl (hb hby d4_9) k) ?_
    show own_Run p e below _ s₁ (mkF m 10 #[.val (.ref a1), .val (.int (0 : Int32))] [(.long (0 : Int64)), (.ref a1)])
    obtain ⟨T4, h4, X4, e4, W4, st4⟩ := putF X0 hx hZ hown (host := "") (Or.inl (W 14 rfl)) Via.refl e0 F_roomWanted_a1 E_a1 (Or.inl (W 15 rfl)) (W 1 rfl) (ty := .long) (by decide) rfl rfl (g := (mkF m 10 #[.val (.ref a1), .val (.int (0 : Int32))] [(.long (0 : Int64)), (.ref a1)])) rfl rfl (hb hby d4_10)
    refine own_go st4 ?_
    show own_Run p e below _ T4 (mkF m 13 #[.val (.ref a1), .val (.int (0 : Int32))] [])
    have Z0_c5 := Nat.le_trans Z0 (Keep.of_wr W4).1
    have K0_c5 := K0.wr W4 (Or.inl (List.mem_of_getElem? (i := 0) rfl))
    have E_a1_c5 := E_a1.wr W4
    have F_begun_a1_c5 := F_begun_a1.other W4 (Or.inr (slot_ne (Or.inl (W 27 rfl)) (Or.inl (W 15 rfl)) (by decide) (t := .long) (t' := .long) (by decide) (by decide)))
    have F_roomWanted_a1_c4 : Fld Z h4 a1 "com/example/eventail/eventail/DeliveryCount" "roomWanted" "J" (.long (0 : Int64)) := F_roomWanted_a1.same W4
    have N4 := Fr.snoc X4 N0 g_a1
    refine own_done (Q := fun v h L => Q4 Z a1 (0 : Int32) u (0 : Int64) w4 h0 n0 v h L) (v := none) X4 (fun _ => rfl) hlk (fun fs hr => X4.returnOut hx hret (hb hby d4_13) hr) ?_ (by decide) (by decide)
    show Q4 Z a1 (0 : Int32) u (0 : Int64) w4 h0 n0 _ T4.heap _
    rw [e4]
    exact ⟨rfl, N4, K0_c5, E_a1_c5, F_roomWanted_a1_c4, F_begun_a1_c5⟩
  · show own_Run p e below _ s₁ (mkF m 0 #[.val (.ref a1), .val (.int (1 : Int32))] [])
    refine own_go (fun _ k => XS.aloadN X0.here hx rfl (hb hby d4_0) rfl rfl k) ?_
    refine own_go (fun _ k => XS.iloadN X0.here hx rfl (hb hby d4_1) rfl k) ?_
    show own_Run p e below _ s₁ (mkF m 2 #[.val (.ref a1), .val (.int (1 : Int32))] [(.int (1 : Int32)), (.ref a1)])
    refine own_go (fun _ k => XS.ifNo X0.here hx rfl (hb hby d4_2) rfl ((if0 _ _).trans (feq (by decide : ¬ ((1 : Int32) = (0 : Int32)))).1) k) ?_
    show own_Run p e below _ s₁ (mkF m 5 #[.val (.ref a1), .val (.int (1 : Int32))] [(.ref a1)])
    refine own_go (fun _ k => XS.lconst X0.here hx rfl (hb hby d4_5) k) ?_
    refine own_go (fun _ k => XS.goto X0.here hx rfl (pc0 := 6) (pc' := 10) rfl (hb hby d4_6) (by decide) (by decide) k) ?_
    show own_Run p e below _ s₁ (mkF m 10 #[.val (.ref a1), .val (.int (1 : Int32))] [(.long (1 : Int64)), (.ref a1)])
    obtain ⟨T6, h6, X6, e6, W6, st6⟩ := putF X0 hx hZ hown (host := "") (Or.inl (W 14 rfl)) Via.refl e0 F_roomWanted_a1 E_a1 (Or.inl (W 15 rfl)) (W 1 rfl) (ty := .long) (by decide) rfl rfl (g := (mkF m 10 #[.val (.ref a1), .val (.int (1 : Int32))] [(.long (1 : Int64)), (.ref a1)])) rfl rfl (hb hby d4_10)
    refine own_go st6 ?_
    show own_Run p e below _ T6 (mkF m 13 #[.val (.ref a1), .val (.int (1 : Int32))] [])
    have Z0_c7 := Nat.le_trans Z0 (Keep.of_wr W6).1
    have K0_c7 := K0.wr W6 (Or.inl (List.mem_of_getElem? (i := 0) rfl))
    have E_a1_c7 := E_a1.wr W6
    have F_begun_a1_c7 := F_begun_a1.other W6 (Or.inr (slot_ne (Or.inl (W 27 rfl)) (Or.inl (W 15 rfl)) (by decide) (t := .long) (t' := .long) (by decide) (by decide)))
    have F_roomWanted_a1_c6 : Fld Z h6 a1 "com/example/eventail/eventail/DeliveryCount" "roomWanted" "J" (.long (1 : Int64)) := F_roomWanted_a1.same W6
    have N6 := Fr.snoc X6 N0 g_a1
    refine own_done (Q := fun v h L => Q4 Z a1 (1 : Int32) u (1 : Int64) w4 h0 n0 v h L) (v := none) X6 (fun _ => rfl) hlk (fun fs hr => X6.returnOut hx hret (hb hby d4_13) hr) ?_ (by decide) (by decide)
    show Q4 Z a1 (1 : Int32) u (1 : Int64) w4 h0 n0 _ T6.heap _
    rw [e6]
    exact ⟨rfl, N6, K0_c7, E_a1_c7, F_roomWanted_a1_c6, F_begun_a1_c7⟩
theorem d5_0 : decode prog_4_method_2_code 0 = .ok (.aload_n 0, 1) := by decide +kernel
theorem d5_1 : decode prog_4_method_2_code 1 = .ok (.dup, 1) := by decide +kernel
theorem d5_2 : decode prog_4_method_2_code 2 = .ok (.getfield 7, 3) := by decide +kernel
theorem d5_5 : decode prog_4_method_2_code 5 = .ok (.lconst 1, 1) := by decide +kernel
theorem d5_6 : decode prog_4_method_2_code 6 = .ok (.ladd, 1) := by decide +kernel
theorem d5_7 : decode prog_4_method_2_code 7 = .ok (.putfield 7, 3) := by decide +kernel
theorem d5_10 : decode prog_4_method_2_code 10 = .ok (.aload_n 0, 1) := by decide +kernel
theorem d5_11 : decode prog_4_method_2_code 11 = .ok (.getfield 13, 3) := by decide +kernel
theorem d5_14 : decode prog_4_method_2_code 14 = .ok (.lconst 0, 1) := by decide +kernel
theorem d5_15 : decode prog_4_method_2_code 15 = .ok (.lcmp, 1) := by decide +kernel
theorem d5_16 : decode prog_4_method_2_code 16 = .ok (.ifCond .eq 7, 3) := by decide +kernel
theorem d5_19 : decode prog_4_method_2_code 19 = .ok (.iconst 1, 1) := by decide +kernel
theorem d5_20 : decode prog_4_method_2_code 20 = .ok (.goto 4, 3) := by decide +kernel
theorem d5_23 : decode prog_4_method_2_code 23 = .ok (.iconst 0, 1) := by decide +kernel
theorem d5_24 : decode prog_4_method_2_code 24 = .ok (.ireturn, 1) := by decide +kernel
theorem pn_5 : plainName "com/example/eventail/eventail/DeliveryCount" = true := by first | (simp [plainName, overriddenIn]; done) | decide +kernel
theorem ef_5 (m : MethodId) (x0 : Addr) : entryFrame m #[(.ref x0)] 1 = mkF m 0 #[.val (.ref x0)] [] := by first | (simp [entryFrame, mkF, argsToLocals, Value.category]; done) | rfl
def Q5 (Z : State) (a1 : Addr) (w1 : Int64) (r1 : Int32) (w4 : Int64) (h0 : Heap) (n0 : Nat) (v : Option Value) (h : Heap) (L : List Loc) : Prop := v = some (.int r1) ∧ Fr n0 L ∧ Keep h0 h [a1] ∧ Exa Z h a1 "com/example/eventail/eventail/DeliveryCount" ∧ Fld Z h a1 "com/example/eventail/eventail/DeliveryCount" "roomWanted" "J" (.long w1) ∧ Fld Z h a1 "com/example/eventail/eventail/DeliveryCount" "begun" "J" (.long (w4 + (1 : Int64)))
set_option maxRecDepth 65536 in
set_option maxHeartbeats 40000000 in
theorem rm5 (l : Launch) (Z : State) (a0 : Array Value) (hw : ∀ d ∈ tables_1, d.before a0 Z = true) (ws : List Jvm.Cond) (a1 : Addr) (w1 : Int64) (r1 : Int32) (w4 : Int64) (h0 : Heap) (n0 : Nat) (Z0 : n0 ≤ h0.size) (E_a1 : Exa Z h0 a1 "com/example/eventail/eventail/DeliveryCount") (F_roomWanted_a1 : Fld Z h0 a1 "com/example/eventail/eventail/DeliveryCount" "roomWanted" "J" (.long w1)) (F_begun_a1 : Fld Z h0 a1 "com/example/eventail/eventail/DeliveryCount" "begun" "J" (.long w4)) (g_a1 : n0 ≤ a1) (hp : w1 = (0 : Int64) ∧ r1 = (0 : Int32) ∨ w1 = (1 : Int64) ∧ r1 = (1 : Int32)) :
    MetFree l (⟨"com/example/eventail/eventail/DeliveryCount", "deliveryBegins", "()Z"⟩ : MethodName) (head1 (Jvm.Cond.code (⟨"com/example/eventail/eventail/DeliveryCount", "deliveryBegins", "()Z"⟩ : MethodName) prog_4_method_2_code 1 (some .boolean) :: ws) ({ frames := 0, cells := 0, slots := 0, locals := 0 } : Room)) (fun a U => a = #[(.ref a1)] ∧ Z.Warmed39 U.vm ∧ U.heap = h0) (fun _ _ _ _ _ => True) (fun _ U o U' => ∃ v L, o = .returned v ∧ Q5 Z a1 w1 r1 w4 h0 n0 v U'.heap L ∧ FrameEnd U o U' L ({ frames := 0, cells := 0, slots := 0, locals := 0 } : Room).cells ({ frames := 0, cells := 0, slots := 0, locals := 0 } : Room).slots) := by
  refine MetFree.of_bodySF (plainFor_of_name pn_5) hisR ?_
  intro p e s m args below meth c s₁ Bd hml0 hP hK
  obtain ⟨rfl, hZ, hh⟩ := hP
  have hx := Bd.exec
  have hby := Bd.bytes
  have hml : c.maxLocals = 1 := hml0
  have hown : s.vm.findClass "com/example/eventail/eventail/DeliveryCount" = some m.cls := findClass_of_methodNamed Bd.named
  have hnm := (name_of_methodNamed Bd.named Bd.method).1
  have hret := Bd.returns
  have hlk : meth.locks = false := BodyLoose.notSynchronized Bd
  have X0 : Stand p l e ({ frames := 0, cells := 0, slots := 0, locals := 0 } : Room) s m #[(.ref a1)] below meth c s₁ [] 0 0 := Stand.of_body Bd
  have e0 : s₁.heap = h0 := by rw [← hh, Bd.state]; rfl
  have N0 := Fr.nil n0
  have W := fun (k : Nat) {d : Jvm.Cond} (h : tables_1[k]? = some d) => hw d (List.mem_of_getElem? h)
  have K0 : Keep h0 h0 [a1] := Keep.refl _ _
  refine own_start (ef_5 m a1) ?_
  show own_Run p e below _ s₁ (mkF m 0 #[.val (.ref a1)] [])
  rcases hp with ⟨rfl, rfl⟩ | ⟨rfl, rfl⟩
  · show own_Run p e below _ s₁ (mkF m 0 #[.val (.ref a1)] [])
    refine own_go (fun _ k => XS.aloadN X0.here hx rfl (hb hby d5_0) rfl rfl k) ?_
    refine own_go (fun _ k => XS.dup X0.here hx rfl (hb hby d5_1) rfl rfl k) ?_
    show own_Run p e below _ s₁ (mkF m 2 #[.val (.ref a1)] [(.ref a1), (.ref a1)])
    obtain ⟨T8, X8, e8, st8⟩ := getF X0 hx hZ hown (host := "") (Or.inl (W 26 rfl)) Via.refl e0 F_begun_a1 (g := (mkF m 2 #[.val (.ref a1)] [(.ref a1), (.ref a1)])) rfl rfl (hb hby d5_2)
    refine own_go st8 ?_
    show own_Run p e below _ T8 (mkF m 5 #[.val (.ref a1)] [(.long w4), (.ref a1)])
    refine own_go (fun _ k => XS.lconst X8.here hx rfl (hb hby d5_5) k) ?_
    refine own_go (fun _ k => XS.ladd X8.here hx rfl (hb hby d5_6) rfl k) ?_
    show own_Run p e below _ T8 (mkF m 7 #[.val (.ref a1)] [(.long (w4 + (1 : Int64))), (.ref a1)])
    obtain ⟨T9, h9, X9, e9, W9, st9⟩ := putF X8 hx hZ hown (host := "") (Or.inl (W 26 rfl)) Via.refl e8 F_begun_a1 E_a1 (Or.inl (W 27 rfl)) (W 1 rfl) (ty := .long) (by decide) rfl rfl (g := (mkF m 7 #[.val (.ref a1)] [(.long (w4 + (1 : Int64))), (.ref a1)])) rfl rfl (hb hby d5_7)
    refine own_go st9 ?_
    show own_Run p e below _ T9 (mkF m 10 #[.val (.ref a1)] [])
    have Z0_c10 := Nat.le_trans Z0 (Keep.of_wr W9).1
    have K0_c10 := K0.wr W9 (Or.inl (List.mem_of_getElem? (i := 0) rfl))
    have E_a1_c10 := E_a1.wr W9
    have F_roomWanted_a1_c10 := F_roomWanted_a1.other W9 (Or.inr (slot_ne (Or.inl (W 15 rfl)) (Or.inl (W 27 rfl)) (by decide) (t := .long) (t' := .long) (by decide) (by decide)))
    have F_begun_a1_c9 : Fld Z h9 a1 "com/example/eventail/eventail/DeliveryCount" "begun" "J" (.long (w4 + (1 : Int64))) := F_begun_a1.same W9
    have N9 := Fr.snoc X9 N0 g_a1
    refine own_go (fun _ k => XS.aloadN X9.here hx rfl (hb hby d5_10) rfl rfl k) ?_
    show own_Run p e below _ T9 (mkF m 11 #[.val (.ref a1)] [(.ref a1)])
    obtain ⟨T11, X11, e11, st11⟩ := getF X9 hx hZ hown (host := "") (Or.inl (W 14 rfl)) Via.refl e9 F_roomWanted_a1_c10 (g := (mkF m 11 #[.val (.ref a1)] [(.ref a1)])) rfl rfl (hb hby d5_11)
    refine own_go st11 ?_
    show own_Run p e below _ T11 (mkF m 14 #[.val (.ref a1)] [(.long (0 : Int64))])
    refine own_go (fun _ k => XS.lconst X11.here hx rfl (hb hby d5_14) k) ?_
    refine own_go (fun _ k => XS.lcmp X11.here hx rfl (hb hby d5_15) rfl k) ?_
    show own_Run p e below _ T11 (mkF m 16 #[.val (.ref a1)] [(.int (lcmpW (0 : Int64) (0 : Int64)))])
    refine own_go (fun _ k => XS.ifYes X11.here hx rfl (pc0 := 16) (pc' := 23) rfl (hb hby d5_16) rfl (own_lcTe (by decide : (0 : Int64) = (0 : Int64))).1 (by decide) (by decide) k) ?_
    show own_Run p e below _ T11 (mkF m 23 #[.val (.ref a1)] [])
    refine own_go (fun _ k => XS.iconst X11.here hx rfl (hb hby d5_23) k) ?_
    show own_Run p e below _ T11 (mkF m 24 #[.val (.ref a1)] [(.int (0 : Int32))])
    refine own_done (Q := fun v h L => Q5 Z a1 (0 : Int64) (0 : Int32) w4 h0 n0 v h L) (v := (some (.int (0 : Int32)))) X11 (fun h => by rw [hret] at h; cases h) hlk (fun fs hr => retN X11 hx (t := .boolean) hret (by simp) (hb hby d5_24) hr) ?_ (by decide) (by decide)
    show Q5 Z a1 (0 : Int64) (0 : Int32) w4 h0 n0 _ T11.heap _
    rw [e11]
    exact ⟨rfl, N9, K0_c10, E_a1_c10, F_roomWanted_a1_c10, F_begun_a1_c9⟩
  · show own_Run p e below _ s₁ (mkF m 0 #[.val (.ref a1)] [])
    refine own_go (fun _ k => XS.aloadN X0.here hx rfl (hb hby d5_0) rfl rfl k) ?_
    refine own_go (fun _ k => XS.dup X0.here hx rfl (hb hby d5_1) rfl rfl k) ?_
    show own_Run p e below _ s₁ (mkF m 2 #[.val (.ref a1)] [(.ref a1), (.ref a1)])
    obtain ⟨T12, X12, e12, st12⟩ := getF X0 hx hZ hown (host := "") (Or.inl (W 26 rfl)) Via.refl e0 F_begun_a1 (g := (mkF m 2 #[.val (.ref a1)] [(.ref a1), (.ref a1)])) rfl rfl (hb hby d5_2)
    refine own_go st12 ?_
    show own_Run p e below _ T12 (mkF m 5 #[.val (.ref a1)] [(.long w4), (.ref a1)])
    refine own_go (fun _ k => XS.lconst X12.here hx rfl (hb hby d5_5) k) ?_
    refine own_go (fun _ k => XS.ladd X12.here hx rfl (hb hby d5_6) rfl k) ?_
    show own_Run p e below _ T12 (mkF m 7 #[.val (.ref a1)] [(.long (w4 + (1 : Int64))), (.ref a1)])
    obtain ⟨T13, h13, X13, e13, W13, st13⟩ := putF X12 hx hZ hown (host := "") (Or.inl (W 26 rfl)) Via.refl e12 F_begun_a1 E_a1 (Or.inl (W 27 rfl)) (W 1 rfl) (ty := .long) (by decide) rfl rfl (g := (mkF m 7 #[.val (.ref a1)] [(.long (w4 + (1 : Int64))), (.ref a1)])) rfl rfl (hb hby d5_7)
    refine own_go st13 ?_
    show own_Run p e below _ T13 (mkF m 10 #[.val (.ref a1)] [])
    have Z0_c14 := Nat.le_trans Z0 (Keep.of_wr W13).1
    have K0_c14 := K0.wr W13 (Or.inl (List.mem_of_getElem? (i := 0) rfl))
    have E_a1_c14 := E_a1.wr W13
    have F_roomWanted_a1_c14 := F_roomWanted_a1.other W13 (Or.inr (slot_ne (Or.inl (W 15 rfl)) (Or.inl (W 27 rfl)) (by decide) (t := .long) (t' := .long) (by decide) (by decide)))
    have F_begun_a1_c13 : Fld Z h13 a1 "com/example/eventail/eventail/DeliveryCount" "begun" "J" (.long (w4 + (1 : Int64))) := F_begun_a1.same W13
    have N13 := Fr.snoc X13 N0 g_a1
    refine own_go (fun _ k => XS.aloadN X13.here hx rfl (hb hby d5_10) rfl rfl k) ?_
    show own_Run p e below _ T13 (mkF m 11 #[.val (.ref a1)] [(.ref a1)])
    obtain ⟨T15, X15, e15, st15⟩ := getF X13 hx hZ hown (host := "") (Or.inl (W 14 rfl)) Via.refl e13 F_roomWanted_a1_c14 (g := (mkF m 11 #[.val (.ref a1)] [(.ref a1)])) rfl rfl (hb hby d5_11)
    refine own_go st15 ?_
    show own_Run p e below _ T15 (mkF m 14 #[.val (.ref a1)] [(.long (1 : Int64))])
    refine own_go (fun _ k => XS.lconst X15.here hx rfl (hb hby d5_14) k) ?_
    refine own_go (fun _ k => XS.lcmp X15.here hx rfl (hb hby d5_15) rfl k) ?_
    show own_Run p e below _ T15 (mkF m 16 #[.val (.ref a1)] [(.int (lcmpW (1 : Int64) (0 : Int64)))])
    refine own_go (fun _ k => XS.ifNo X15.here hx rfl (hb hby d5_16) rfl (own_lcFe (by decide : ¬ ((1 : Int64) = (0 : Int64)))).1 k) ?_
    show own_Run p e below _ T15 (mkF m 19 #[.val (.ref a1)] [])
    refine own_go (fun _ k => XS.iconst X15.here hx rfl (hb hby d5_19) k) ?_
    refine own_go (fun _ k => XS.goto X15.here hx rfl (pc0 := 20) (pc' := 24) rfl (hb hby d5_20) (by decide) (by decide) k) ?_
    show own_Run p e below _ T15 (mkF m 24 #[.val (.ref a1)] [(.int (1 : Int32))])
    refine own_done (Q := fun v h L => Q5 Z a1 (1 : Int64) (1 : Int32) w4 h0 n0 v h L) (v := (some (.int (1 : Int32)))) X15 (fun h => by rw [hret] at h; cases h) hlk (fun fs hr => retN X15 hx (t := .boolean) hret (by simp) (hb hby d5_24) hr) ?_ (by decide) (by decide)
    show Q5 Z a1 (1 : Int64) (1 : Int32) w4 h0 n0 _ T15.heap _
    rw [e15]
    exact ⟨rfl, N13, K0_c14, E_a1_c14, F_roomWanted_a1_c14, F_begun_a1_c13⟩
theorem d6_0 : decode prog_4_method_3_code 0 = .ok (.aload_n 0, 1) := by decide +kernel
theorem d6_1 : decode prog_4_method_3_code 1 = .ok (.getfield 7, 3) := by decide +kernel
theorem d6_4 : decode prog_4_method_3_code 4 = .ok (.lreturn, 1) := by decide +kernel
theorem pn_6 : plainName "com/example/eventail/eventail/DeliveryCount" = true := by first | (simp [plainName, overriddenIn]; done) | decide +kernel
theorem ef_6 (m : MethodId) (x0 : Addr) : entryFrame m #[(.ref x0)] 1 = mkF m 0 #[.val (.ref x0)] [] := by first | (simp [entryFrame, mkF, argsToLocals, Value.category]; done) | rfl
def Q6 (Z : State) (a1 : Addr) (w4 : Int64) (h0 : Heap) (n0 : Nat) (v : Option Value) (h : Heap) (L : List Loc) : Prop := v = some (.long w4) ∧ Fr n0 L ∧ h = h0
set_option maxRecDepth 65536 in
set_option maxHeartbeats 40000000 in
theorem rm6 (l : Launch) (Z : State) (a0 : Array Value) (hw : ∀ d ∈ tables_1, d.before a0 Z = true) (ws : List Jvm.Cond) (a1 : Addr) (w4 : Int64) (h0 : Heap) (n0 : Nat) (Z0 : n0 ≤ h0.size) (F_begun_a1 : Fld Z h0 a1 "com/example/eventail/eventail/DeliveryCount" "begun" "J" (.long w4)) :
    MetFree l (⟨"com/example/eventail/eventail/DeliveryCount", "begun", "()J"⟩ : MethodName) (head1 (Jvm.Cond.code (⟨"com/example/eventail/eventail/DeliveryCount", "begun", "()J"⟩ : MethodName) prog_4_method_3_code 1 (some .long) :: ws) ({ frames := 0, cells := 0, slots := 0, locals := 0 } : Room)) (fun a U => a = #[(.ref a1)] ∧ Z.Warmed39 U.vm ∧ U.heap = h0) (fun _ _ _ _ _ => True) (fun _ U o U' => ∃ v L, o = .returned v ∧ Q6 Z a1 w4 h0 n0 v U'.heap L ∧ FrameEnd U o U' L ({ frames := 0, cells := 0, slots := 0, locals := 0 } : Room).cells ({ frames := 0, cells := 0, slots := 0, locals := 0 } : Room).slots) := by
  refine MetFree.of_bodySF (plainFor_of_name pn_6) hisR ?_
  intro p e s m args below meth c s₁ Bd hml0 hP hK
  obtain ⟨rfl, hZ, hh⟩ := hP
  have hx := Bd.exec
  have hby := Bd.bytes
  have hml : c.maxLocals = 1 := hml0
  have hown : s.vm.findClass "com/example/eventail/eventail/DeliveryCount" = some m.cls := findClass_of_methodNamed Bd.named
  have hnm := (name_of_methodNamed Bd.named Bd.method).1
  have hret := Bd.returns
  have hlk : meth.locks = false := BodyLoose.notSynchronized Bd
  have X0 : Stand p l e ({ frames := 0, cells := 0, slots := 0, locals := 0 } : Room) s m #[(.ref a1)] below meth c s₁ [] 0 0 := Stand.of_body Bd
  have e0 : s₁.heap = h0 := by rw [← hh, Bd.state]; rfl
  have N0 := Fr.nil n0
  have W := fun (k : Nat) {d : Jvm.Cond} (h : tables_1[k]? = some d) => hw d (List.mem_of_getElem? h)
  have K0 : Keep h0 h0 [] := Keep.refl _ _
  refine own_start (ef_6 m a1) ?_
  show own_Run p e below _ s₁ (mkF m 0 #[.val (.ref a1)] [])
  refine own_go (fun _ k => XS.aloadN X0.here hx rfl (hb hby d6_0) rfl rfl k) ?_
  show own_Run p e below _ s₁ (mkF m 1 #[.val (.ref a1)] [(.ref a1)])
  obtain ⟨T16, X16, e16, st16⟩ := getF X0 hx hZ hown (host := "") (Or.inl (W 26 rfl)) Via.refl e0 F_begun_a1 (g := (mkF m 1 #[.val (.ref a1)] [(.ref a1)])) rfl rfl (hb hby d6_1)
  refine own_go st16 ?_
  show own_Run p e below _ T16 (mkF m 4 #[.val (.ref a1)] [(.long w4)])
  refine own_done (Q := fun v h L => Q6 Z a1 w4 h0 n0 v h L) (v := (some (.long w4))) X16 (fun h => by rw [hret] at h; cases h) hlk (fun fs hr => own_retL X16 hx hret (hb hby d6_4) hr) ?_ (by decide) (by decide)
  show Q6 Z a1 w4 h0 n0 _ T16.heap _
  rw [e16]
  exact ⟨rfl, N0, rfl⟩
theorem pn_0 : plainName "com/example/eventail/eventail/DeliveryCountIsRoomWantedPinLaw" = true := by first | (simp [plainName, overriddenIn]; done) | decide +kernel
theorem ef_0 (m : MethodId) (x0 : Int32) (x1 : Int32) : entryFrame m #[(.int x0), (.int x1)] maxLocals = mkF m 0 #[.val (.int x0), .val (.int x1), .unset, .unset, .unset, .unset, .unset, .unset, .unset, .unset, .unset] [] := by first | (simp [entryFrame, mkF, argsToLocals, Value.category, maxLocals]; done) | rfl
theorem pd_1 : parseMethodDescriptor "()V" = some ⟨[], none⟩ := by decide +kernel
theorem pd_2 : parseMethodDescriptor "()Z" = some ⟨[], some .boolean⟩ := by decide +kernel
theorem pd_3 : parseMethodDescriptor "(Z)V" = some ⟨[.boolean], none⟩ := by decide +kernel
theorem pd_4 : parseMethodDescriptor "()J" = some ⟨[], some .long⟩ := by decide +kernel
def Q0 (Z : State) (p1 : Int32) (p2 : Int32) (h0 : Heap) (n0 : Nat) (v : Option Value) (h : Heap) (L : List Loc) : Prop := v = some (.int (1 : Int32)) ∧ Fr n0 L
set_option maxRecDepth 65536 in
set_option maxHeartbeats 40000000 in
theorem rm0 (l : Launch) (Z : State) (a0 : Array Value) (hw : ∀ d ∈ tables_1, d.before a0 Z = true) (ws : List Jvm.Cond) (p1 : Int32) (p2 : Int32) (h0 : Heap) (n0 : Nat) (Z0 : n0 ≤ h0.size) :
    MetFree l x (head1 (Jvm.Cond.code x code maxLocals ret :: ws) room_1) (fun a U => a = #[(.int p1), (.int p2)] ∧ Z.Warmed39 U.vm ∧ U.heap = h0) (fun _ _ _ _ _ => True) (fun _ U o U' => ∃ v L, o = .returned v ∧ Q0 Z p1 p2 h0 n0 v U'.heap L ∧ FrameEnd U o U' L room_1.cells room_1.slots) := by
  refine MetFree.of_bodySF (plainFor_of_name pn_0) hisR ?_
  intro p e s m args below meth c s₁ Bd hml0 hP hK
  obtain ⟨rfl, hZ, hh⟩ := hP
  have hx := Bd.exec
  have hby := Bd.bytes
  have hml : c.maxLocals = 11 := hml0
  have hown : s.vm.findClass "com/example/eventail/eventail/DeliveryCountIsRoomWantedPinLaw" = some m.cls := findClass_of_methodNamed Bd.named
  have hnm := (name_of_methodNamed Bd.named Bd.method).1
  have hret := Bd.returns
  have hlk : meth.locks = false := BodyLoose.notSynchronized Bd
  have X0 : Stand p l e room_1 s m #[(.int p1), (.int p2)] below meth c s₁ [] 0 0 := Stand.of_body Bd
  have e0 : s₁.heap = h0 := by rw [← hh, Bd.state]; rfl
  have N0 := Fr.nil n0
  have W := fun (k : Nat) {d : Jvm.Cond} (h : tables_1[k]? = some d) => hw d (List.mem_of_getElem? h)
  have K0 : Keep h0 h0 [] := Keep.refl _ _
  refine own_start (ef_0 m p1 p2) ?_
  show own_Run p e below _ s₁ (mkF m 0 #[.val (.int p1), .val (.int p2), .unset, .unset, .unset, .unset, .unset, .unset, .unset, .unset, .unset] [])
  refine own_go (fun _ k => XS.iloadN X0.here hx rfl (hb hby at_0) rfl k) ?_
  refine own_go (fun _ k => XS.iconst X0.here hx rfl (hb hby at_1) k) ?_
  refine own_go (fun _ k => XS.iand X0.here hx rfl (hb hby at_2) rfl k) ?_
  show own_Run p e below _ s₁ (mkF m 3 #[.val (.int p1), .val (.int p2), .unset, .unset, .unset, .unset, .unset, .unset, .unset, .unset, .unset] [(.int (p1 &&& (1 : Int32)))])
  by_cases hc3_17 : (p1 &&& (1 : Int32)) = (0 : Int32)
  · refine own_go (fun _ k => XS.ifYes X0.here hx rfl (pc0 := 3) (pc' := 10) rfl (hb hby at_3) rfl ((if0 _ _).trans (teq hc3_17).1) (by decide) (by decide) k) ?_
    show own_Run p e below _ s₁ (mkF m 10 #[.val (.int p1), .val (.int p2), .unset, .unset, .unset, .unset, .unset, .unset, .unset, .unset, .unset] [])
    refine own_go (fun _ k => XS.iconst X0.here hx rfl (hb hby at_10) k) ?_
    refine own_go (fun _ k => XS.istoreN X0.here hx rfl (hb hby at_11) rfl (l' := #[.val (.int p1), .val (.int p2), .val (.int (0 : Int32)), .unset, .unset, .unset, .unset, .unset, .unset, .unset, .unset]) rfl k) ?_
    refine own_go (fun _ k => XS.iloadN X0.here hx rfl (hb hby at_12) rfl k) ?_
    refine own_go (fun _ k => XS.iconst X0.here hx rfl (hb hby at_13) k) ?_
    show own_Run p e below _ s₁ (mkF m 14 #[.val (.int p1), .val (.int p2), .val (.int (0 : Int32)), .unset, .unset, .unset, .unset, .unset, .unset, .unset, .unset] [(.int (1 : Int32)), (.int p2)])
    refine own_go (fun _ k => XS.iand X0.here hx rfl (hb hby at_14) rfl k) ?_
    show own_Run p e below _ s₁ (mkF m 15 #[.val (.int p1), .val (.int p2), .val (.int (0 : Int32)), .unset, .unset, .unset, .unset, .unset, .unset, .unset, .unset] [(.int (p2 &&& (1 : Int32)))])
    by_cases hc15_18 : (p2 &&& (1 : Int32)) = (0 : Int32)
    · refine own_go (fun _ k => XS.ifYes X0.here hx rfl (pc0 := 15) (pc' := 22) rfl (hb hby at_15) rfl ((if0 _ _).trans (teq hc15_18).1) (by decide) (by decide) k) ?_
      show own_Run p e below _ s₁ (mkF m 22 #[.val (.int p1), .val (.int p2), .val (.int (0 : Int32)), .unset, .unset, .unset, .unset, .unset, .unset, .unset, .unset] [])
      refine own_go (fun _ k => XS.iconst X0.here hx rfl (hb hby at_22) k) ?_
      refine own_go (fun _ k => XS.istoreN X0.here hx rfl (hb hby at_23) rfl (l' := #[.val (.int p1), .val (.int p2), .val (.int (0 : Int32)), .val (.int (0 : Int32)), .unset, .unset, .unset, .unset, .unset, .unset, .unset]) rfl k) ?_
      show own_Run p e below _ s₁ (mkF m 24 #[.val (.int p1), .val (.int p2), .val (.int (0 : Int32)), .val (.int (0 : Int32)), .unset, .unset, .unset, .unset, .unset, .unset, .unset] [])
      obtain ⟨T19, h19, X19, e19, E19, A19, D19, -, st19⟩ := newO X0 hx hZ hown (W 0 rfl) (W 1 rfl) (W 2 rfl) e0 (g := (mkF m 24 #[.val (.int p1), .val (.int p2), .val (.int (0 : Int32)), .val (.int (0 : Int32)), .unset, .unset, .unset, .unset, .unset, .unset, .unset] [])) rfl (hb hby at_24) (by decide) (by decide)
      refine own_go st19 ?_
      obtain ⟨b19, g19⟩ : ∃ z, z = h0.size := ⟨_, rfl⟩
      rw [← g19] at A19 D19
      rw [← g19]
      show own_Run p e below _ T19 (mkF m 27 #[.val (.int p1), .val (.int p2), .val (.int (0 : Int32)), .val (.int (0 : Int32)), .unset, .unset, .unset, .unset, .unset, .unset, .unset] [(.ref b19)])
      have g_b19 : n0 ≤ b19 := Nat.le_trans Z0 (Nat.le_of_eq g19.symm)
      have sz_b19 : h0.size ≤ b19 := Nat.le_trans K0.1 (Nat.le_of_eq g19.symm)
      have Z0_c20 := Nat.le_trans Z0 E19.1
      have K0_c20 := K0.ext E19
      have F_roomWanted_b19 : Fld Z h19 b19 "com/example/eventail/eventail/DeliveryCount" "roomWanted" "J" (.long (0 : Int64)) := D19 (Or.inl (W 15 rfl)) (ty := .long) (by decide)
      have F_begun_b19 : Fld Z h19 b19 "com/example/eventail/eventail/DeliveryCount" "begun" "J" (.long (0 : Int64)) := D19 (Or.inl (W 27 rfl)) (ty := .long) (by decide)
      refine own_go (fun _ k => XS.dup X19.here hx rfl (hb hby at_27) rfl rfl k) ?_
      show own_Run p e below _ T19 (mkF m 28 #[.val (.int p1), .val (.int p2), .val (.int (0 : Int32)), .val (.int (0 : Int32)), .unset, .unset, .unset, .unset, .unset, .unset, .unset] [(.ref b19), (.ref b19)])
      obtain ⟨_, _, ⟨T21, L21, k21, n21⟩, -, X21, ⟨Lc21, hQ21, l21, y21, z21⟩, st21⟩ := X19.specialBack hx (y := (⟨"com/example/eventail/eventail/DeliveryCount", "<init>", "()V"⟩ : MethodName)) rfl hown (mvT hZ (W 3 rfl)) (mvT hZ (W 4 rfl)) (mvT hZ (W 5 rfl)) (by decide) (backOf (W := 1) (rm1 l Z a0 hw [] b19 h19 n0 Z0_c20 ) hZ (W 5 rfl) (W 2 rfl) (by decide) (by decide)) (g := (mkF m 28 #[.val (.int p1), .val (.int p2), .val (.int (0 : Int32)), .val (.int (0 : Int32)), .unset, .unset, .unset, .unset, .unset, .unset, .unset] [(.ref b19), (.ref b19)])) rfl (by rw [hml]; rfl) (Steps.refl _) (a := b19) (argsL := []) (rest := [(.ref b19)]) (lenOf pd_1 rfl) rfl (by show 2 * 0 + _ ≤ _; exact Nat.le_of_eq rfl) (hb hby at_28) (fun _ _ => ⟨rfl, e19, (by decide : 1 + 0 ≤ _), (by decide : 16 + 0 ≤ _)⟩)
      dsimp only [Pt.U, Pt.locs, Pt.cells, Pt.slots] at X21 l21 y21 z21 st21 hQ21
      subst l21 y21 z21
      obtain ⟨rfl, N21q, e21⟩ := hQ21
      have N21 := Fr.app N0 N21q
      refine own_goT st21 ?_
      show own_Run p e below _ T21 (mkF m 31 #[.val (.int p1), .val (.int p2), .val (.int (0 : Int32)), .val (.int (0 : Int32)), .unset, .unset, .unset, .unset, .unset, .unset, .unset] [(.ref b19)])
      refine own_go (fun _ k => XS.astore X21.here hx rfl (hb hby at_31) rfl rfl (l' := #[.val (.int p1), .val (.int p2), .val (.int (0 : Int32)), .val (.int (0 : Int32)), .val (.ref b19), .unset, .unset, .unset, .unset, .unset, .unset]) rfl k) ?_
      refine own_go (fun _ k => XS.aload X21.here hx rfl (hb hby at_33) rfl rfl k) ?_
      show own_Run p e below _ T21 (mkF m 35 #[.val (.int p1), .val (.int p2), .val (.int (0 : Int32)), .val (.int (0 : Int32)), .val (.ref b19), .unset, .unset, .unset, .unset, .unset, .unset] [(.ref b19)])
      obtain ⟨cq22, kq22, q22a, q22b, q22c⟩ := isOf hZ e21 A19
      obtain ⟨_, _, ⟨T22, L22, k22, n22⟩, -, X22, ⟨Lc22, hQ22, l22, y22, z22⟩, st22⟩ := X21.virtualBack hx (y := (⟨"com/example/eventail/eventail/DeliveryCount", "isRoomWanted", "()Z"⟩ : MethodName)) (z := (⟨"com/example/eventail/eventail/DeliveryCount", "isRoomWanted", "()Z"⟩ : MethodName)) hown (mvT hZ (W 9 rfl)) (mvT hZ (W 10 rfl)) (notFace_of_selects (args := #[]) (mvT hZ (W 12 rfl))) (mvT hZ (W 12 rfl)) (mvT hZ (W 11 rfl)) (by decide) (backOf (W := 0) (rm3 l Z a0 hw [] b19 (0 : Int64) (0 : Int32) h19 n0 Z0_c20 F_roomWanted_b19 (Or.inl ⟨rfl, rfl⟩)) hZ (W 13 rfl) (W 2 rfl) (by decide) (by decide)) q22a q22c (g := (mkF m 35 #[.val (.int p1), .val (.int p2), .val (.int (0 : Int32)), .val (.int (0 : Int32)), .val (.ref b19), .unset, .unset, .unset, .unset, .unset, .unset] [(.ref b19)])) rfl (by rw [hml]; rfl) (Steps.refl _) (argsL := []) (rest := []) (lenOf pd_2 rfl) rfl (by show 2 * 0 + _ ≤ _; exact Nat.le_of_eq rfl) (hb hby at_35) (fun _ _ => ⟨rfl, e21, (by decide : 1 + 0 ≤ _), (by decide : 16 + 0 ≤ _)⟩)
      dsimp only [Pt.U, Pt.locs, Pt.cells, Pt.slots] at X22 l22 y22 z22 st22 hQ22
      subst l22 y22 z22
      obtain ⟨rfl, N22q, e22⟩ := hQ22
      have N22 := Fr.app N21 N22q
      refine own_goT st22 ?_
      show own_Run p e below _ T22 (mkF m 38 #[.val (.int p1), .val (.int p2), .val (.int (0 : Int32)), .val (.int (0 : Int32)), .val (.ref b19), .unset, .unset, .unset, .unset, .unset, .unset] [(.int (0 : Int32))])
      refine own_go (fun _ k => XS.ifNo X22.here hx rfl (hb hby at_38) rfl ((if0 _ _).trans (teq (by decide : (0 : Int32) = (0 : Int32))).2) k) ?_
      show own_Run p e below _ T22 (mkF m 41 #[.val (.int p1), .val (.int p2), .val (.int (0 : Int32)), .val (.int (0 : Int32)), .val (.ref b19), .unset, .unset, .unset, .unset, .unset, .unset] [])
      refine own_go (fun _ k => XS.iconst X22.here hx rfl (hb hby at_41) k) ?_
      refine own_go (fun _ k => XS.goto X22.here hx rfl (pc0 := 42) (pc' := 46) rfl (hb hby at_42) (by decide) (by decide) k) ?_
      refine own_go (fun _ k => XS.istore X22.here hx rfl (hb hby at_46) rfl (l' := #[.val (.int p1), .val (.int p2), .val (.int (0 : Int32)), .val (.int (0 : Int32)), .val (.ref b19), .val (.int (1 : Int32)), .unset, .unset, .unset, .unset, .unset]) rfl k) ?_
      refine own_go (fun _ k => XS.aload X22.here hx rfl (hb hby at_48) rfl rfl k) ?_
      show own_Run p e below _ T22 (mkF m 50 #[.val (.int p1), .val (.int p2), .val (.int (0 : Int32)), .val (.int (0 : Int32)), .val (.ref b19), .val (.int (1 : Int32)), .unset, .unset, .unset, .unset, .unset] [(.ref b19)])
      refine own_go (fun _ k => XS.iloadN X22.here hx rfl (hb hby at_50) rfl k) ?_
      show own_Run p e below _ T22 (mkF m 51 #[.val (.int p1), .val (.int p2), .val (.int (0 : Int32)), .val (.int (0 : Int32)), .val (.ref b19), .val (.int (1 : Int32)), .unset, .unset, .unset, .unset, .unset] [(.int (0 : Int32)), (.ref b19)])
      obtain ⟨cq23, kq23, q23a, q23b, q23c⟩ := isOf hZ e22 A19
      obtain ⟨_, _, ⟨T23, L23, k23, n23⟩, -, X23, ⟨Lc23, hQ23, l23, y23, z23⟩, st23⟩ := X22.virtualBack hx (y := (⟨"com/example/eventail/eventail/DeliveryCount", "setRoomWanted", "(Z)V"⟩ : MethodName)) (z := (⟨"com/example/eventail/eventail/DeliveryCount", "setRoomWanted", "(Z)V"⟩ : MethodName)) hown (mvT hZ (W 16 rfl)) (mvT hZ (W 17 rfl)) (notFace_of_selects (args := #[]) (mvT hZ (W 19 rfl))) (mvT hZ (W 19 rfl)) (mvT hZ (W 18 rfl)) (by decide) (backOf (W := 0) (rm4 l Z a0 hw [] b19 (0 : Int32) (0 : Int64) (0 : Int64) (0 : Int64) h19 n0 Z0_c20 A19 F_roomWanted_b19 F_begun_b19 g_b19 (Or.inl ⟨rfl, rfl⟩)) hZ (W 20 rfl) (W 2 rfl) (by decide) (by decide)) q23a q23c (g := (mkF m 51 #[.val (.int p1), .val (.int p2), .val (.int (0 : Int32)), .val (.int (0 : Int32)), .val (.ref b19), .val (.int (1 : Int32)), .unset, .unset, .unset, .unset, .unset] [(.int (0 : Int32)), (.ref b19)])) rfl (by rw [hml]; rfl) (Steps.refl _) (argsL := [(.int (0 : Int32))]) (rest := []) (lenOf pd_3 rfl) rfl (by show 2 * 0 + _ ≤ _; exact Nat.le_of_eq rfl) (hb hby at_51) (fun _ _ => ⟨rfl, e22, (by decide : 1 + 0 ≤ _), (by decide : 16 + 0 ≤ _)⟩)
      dsimp only [Pt.U, Pt.locs, Pt.cells, Pt.slots] at X23 l23 y23 z23 st23 hQ23
      subst l23 y23 z23
      obtain ⟨rfl, N23q, K23, P23_0, P23_1, P23_2⟩ := hQ23
      have N23 := Fr.app N22 N23q
      refine own_goT st23 ?_
      show own_Run p e below _ T23 (mkF m 54 #[.val (.int p1), .val (.int p2), .val (.int (0 : Int32)), .val (.int (0 : Int32)), .val (.ref b19), .val (.int (1 : Int32)), .unset, .unset, .unset, .unset, .unset] [])
      have Z0_c24 := Nat.le_trans Z0_c20 K23.1
      have K0_c24 := K0_c20.trans K23 (allS (Or.inr sz_b19) all0)
      have A19_c24 := A19.keep K23
      refine own_go (fun _ k => XS.aload X23.here hx rfl (hb hby at_54) rfl rfl k) ?_
      show own_Run p e below _ T23 (mkF m 56 #[.val (.int p1), .val (.int p2), .val (.int (0 : Int32)), .val (.int (0 : Int32)), .val (.ref b19), .val (.int (1 : Int32)), .unset, .unset, .unset, .unset, .unset] [(.ref b19)])
      obtain ⟨cq25, kq25, q25a, q25b, q25c⟩ := isOf hZ rfl P23_0
      obtain ⟨_, _, ⟨T25, L25, k25, n25⟩, -, X25, ⟨Lc25, hQ25, l25, y25, z25⟩, st25⟩ := X23.virtualBack hx (y := (⟨"com/example/eventail/eventail/DeliveryCount", "isRoomWanted", "()Z"⟩ : MethodName)) (z := (⟨"com/example/eventail/eventail/DeliveryCount", "isRoomWanted", "()Z"⟩ : MethodName)) hown (mvT hZ (W 9 rfl)) (mvT hZ (W 10 rfl)) (notFace_of_selects (args := #[]) (mvT hZ (W 12 rfl))) (mvT hZ (W 12 rfl)) (mvT hZ (W 11 rfl)) (by decide) (backOf (W := 0) (rm3 l Z a0 hw [] b19 (0 : Int64) (0 : Int32) T23.heap n0 Z0_c24 P23_1 (Or.inl ⟨rfl, rfl⟩)) hZ (W 13 rfl) (W 2 rfl) (by decide) (by decide)) q25a q25c (g := (mkF m 56 #[.val (.int p1), .val (.int p2), .val (.int (0 : Int32)), .val (.int (0 : Int32)), .val (.ref b19), .val (.int (1 : Int32)), .unset, .unset, .unset, .unset, .unset] [(.ref b19)])) rfl (by rw [hml]; rfl) (Steps.refl _) (argsL := []) (rest := []) (lenOf pd_2 rfl) rfl (by show 2 * 0 + _ ≤ _; exact Nat.le_of_eq rfl) (hb hby at_56) (fun _ _ => ⟨rfl, rfl, (by decide : 1 + 0 ≤ _), (by decide : 16 + 0 ≤ _)⟩)
      dsimp only [Pt.U, Pt.locs, Pt.cells, Pt.slots] at X25 l25 y25 z25 st25 hQ25
      subst l25 y25 z25
      obtain ⟨rfl, N25q, e25⟩ := hQ25
      have N25 := Fr.app N23 N25q
      refine own_goT st25 ?_
      show own_Run p e below _ T25 (mkF m 59 #[.val (.int p1), .val (.int p2), .val (.int (0 : Int32)), .val (.int (0 : Int32)), .val (.ref b19), .val (.int (1 : Int32)), .unset, .unset, .unset, .unset, .unset] [(.int (0 : Int32))])
      refine own_go (fun _ k => XS.istore X25.here hx rfl (hb hby at_59) rfl (l' := #[.val (.int p1), .val (.int p2), .val (.int (0 : Int32)), .val (.int (0 : Int32)), .val (.ref b19), .val (.int (1 : Int32)), .val (.int (0 : Int32)), .unset, .unset, .unset, .unset]) rfl k) ?_
      refine own_go (fun _ k => XS.aload X25.here hx rfl (hb hby at_61) rfl rfl k) ?_
      show own_Run p e below _ T25 (mkF m 63 #[.val (.int p1), .val (.int p2), .val (.int (0 : Int32)), .val (.int (0 : Int32)), .val (.ref b19), .val (.int (1 : Int32)), .val (.int (0 : Int32)), .unset, .unset, .unset, .unset] [(.ref b19)])
      obtain ⟨cq26, kq26, q26a, q26b, q26c⟩ := isOf hZ e25 P23_0
      obtain ⟨_, _, ⟨T26, L26, k26, n26⟩, -, X26, ⟨Lc26, hQ26, l26, y26, z26⟩, st26⟩ := X25.virtualBack hx (y := (⟨"com/example/eventail/eventail/DeliveryCount", "isRoomWanted", "()Z"⟩ : MethodName)) (z := (⟨"com/example/eventail/eventail/DeliveryCount", "isRoomWanted", "()Z"⟩ : MethodName)) hown (mvT hZ (W 9 rfl)) (mvT hZ (W 10 rfl)) (notFace_of_selects (args := #[]) (mvT hZ (W 12 rfl))) (mvT hZ (W 12 rfl)) (mvT hZ (W 11 rfl)) (by decide) (backOf (W := 0) (rm3 l Z a0 hw [] b19 (0 : Int64) (0 : Int32) T23.heap n0 Z0_c24 P23_1 (Or.inl ⟨rfl, rfl⟩)) hZ (W 13 rfl) (W 2 rfl) (by decide) (by decide)) q26a q26c (g := (mkF m 63 #[.val (.int p1), .val (.int p2), .val (.int (0 : Int32)), .val (.int (0 : Int32)), .val (.ref b19), .val (.int (1 : Int32)), .val (.int (0 : Int32)), .unset, .unset, .unset, .unset] [(.ref b19)])) rfl (by rw [hml]; rfl) (Steps.refl _) (argsL := []) (rest := []) (lenOf pd_2 rfl) rfl (by show 2 * 0 + _ ≤ _; exact Nat.le_of_eq rfl) (hb hby at_63) (fun _ _ => ⟨rfl, e25, (by decide : 1 + 0 ≤ _), (by decide : 16 + 0 ≤ _)⟩)
      dsimp only [Pt.U, Pt.locs, Pt.cells, Pt.slots] at X26 l26 y26 z26 st26 hQ26
      subst l26 y26 z26
      obtain ⟨rfl, N26q, e26⟩ := hQ26
      have N26 := Fr.app N25 N26q
      refine own_goT st26 ?_
      show own_Run p e below _ T26 (mkF m 66 #[.val (.int p1), .val (.int p2), .val (.int (0 : Int32)), .val (.int (0 : Int32)), .val (.ref b19), .val (.int (1 : Int32)), .val (.int (0 : Int32)), .unset, .unset, .unset, .unset] [(.int (0 : Int32))])
      refine own_go (fun _ k => XS.istore X26.here hx rfl (hb hby at_66) rfl (l' := #[.val (.int p1), .val (.int p2), .val (.int (0 : Int32)), .val (.int (0 : Int32)), .val (.ref b19), .val (.int (1 : Int32)), .val (.int (0 : Int32)), .val (.int (0 : Int32)), .unset, .unset, .unset]) rfl k) ?_
      refine own_go (fun _ k => XS.iload X26.here hx rfl (hb hby at_68) rfl k) ?_
      show own_Run p e below _ T26 (mkF m 70 #[.val (.int p1), .val (.int p2), .val (.int (0 : Int32)), .val (.int (0 : Int32)), .val (.ref b19), .val (.int (1 : Int32)), .val (.int (0 : Int32)), .val (.int (0 : Int32)), .unset, .unset, .unset] [(.int (1 : Int32))])
      refine own_go (fun _ k => XS.ifNo X26.here hx rfl (hb hby at_70) rfl ((if0 _ _).trans (feq (by decide : ¬ ((1 : Int32) = (0 : Int32)))).1) k) ?_
      show own_Run p e below _ T26 (mkF m 73 #[.val (.int p1), .val (.int p2), .val (.int (0 : Int32)), .val (.int (0 : Int32)), .val (.ref b19), .val (.int (1 : Int32)), .val (.int (0 : Int32)), .val (.int (0 : Int32)), .unset, .unset, .unset] [])
      refine own_go (fun _ k => XS.iload X26.here hx rfl (hb hby at_73) rfl k) ?_
      refine own_go (fun _ k => XS.iloadN X26.here hx rfl (hb hby at_75) rfl k) ?_
      show own_Run p e below _ T26 (mkF m 76 #[.val (.int p1), .val (.int p2), .val (.int (0 : Int32)), .val (.int (0 : Int32)), .val (.ref b19), .val (.int (1 : Int32)), .val (.int (0 : Int32)), .val (.int (0 : Int32)), .unset, .unset, .unset] [(.int (0 : Int32)), (.int (0 : Int32))])
      refine own_go (fun _ k => XS.icmpNo X26.here hx rfl (hb hby at_76) rfl (teq (by decide : (0 : Int32) = (0 : Int32))).2 k) ?_
      show own_Run p e below _ T26 (mkF m 79 #[.val (.int p1), .val (.int p2), .val (.int (0 : Int32)), .val (.int (0 : Int32)), .val (.ref b19), .val (.int (1 : Int32)), .val (.int (0 : Int32)), .val (.int (0 : Int32)), .unset, .unset, .unset] [])
      refine own_go (fun _ k => XS.iload X26.here hx rfl (hb hby at_79) rfl k) ?_
      refine own_go (fun _ k => XS.iloadN X26.here hx rfl (hb hby at_81) rfl k) ?_
      show own_Run p e below _ T26 (mkF m 82 #[.val (.int p1), .val (.int p2), .val (.int (0 : Int32)), .val (.int (0 : Int32)), .val (.ref b19), .val (.int (1 : Int32)), .val (.int (0 : Int32)), .val (.int (0 : Int32)), .unset, .unset, .unset] [(.int (0 : Int32)), (.int (0 : Int32))])
      refine own_go (fun _ k => XS.icmpNo X26.here hx rfl (hb hby at_82) rfl (teq (by decide : (0 : Int32) = (0 : Int32))).2 k) ?_
      show own_Run p e below _ T26 (mkF m 85 #[.val (.int p1), .val (.int p2), .val (.int (0 : Int32)), .val (.int (0 : Int32)), .val (.ref b19), .val (.int (1 : Int32)), .val (.int (0 : Int32)), .val (.int (0 : Int32)), .unset, .unset, .unset] [])
      refine own_go (fun _ k => XS.iconst X26.here hx rfl (hb hby at_85) k) ?_
      refine own_go (fun _ k => XS.goto X26.here hx rfl (pc0 := 86) (pc' := 90) rfl (hb hby at_86) (by decide) (by decide) k) ?_
      refine own_go (fun _ k => XS.istore X26.here hx rfl (hb hby at_90) rfl (l' := #[.val (.int p1), .val (.int p2), .val (.int (0 : Int32)), .val (.int (0 : Int32)), .val (.ref b19), .val (.int (1 : Int32)), .val (.int (0 : Int32)), .val (.int (0 : Int32)), .unset, .unset, .unset]) rfl k) ?_
      refine own_go (fun _ k => XS.aload X26.here hx rfl (hb hby at_92) rfl rfl k) ?_
      show own_Run p e below _ T26 (mkF m 94 #[.val (.int p1), .val (.int p2), .val (.int (0 : Int32)), .val (.int (0 : Int32)), .val (.ref b19), .val (.int (1 : Int32)), .val (.int (0 : Int32)), .val (.int (0 : Int32)), .unset, .unset, .unset] [(.ref b19)])
      refine own_go (fun _ k => XS.iloadN X26.here hx rfl (hb hby at_94) rfl k) ?_
      show own_Run p e below _ T26 (mkF m 95 #[.val (.int p1), .val (.int p2), .val (.int (0 : Int32)), .val (.int (0 : Int32)), .val (.ref b19), .val (.int (1 : Int32)), .val (.int (0 : Int32)), .val (.int (0 : Int32)), .unset, .unset, .unset] [(.int (0 : Int32)), (.ref b19)])
      obtain ⟨cq27, kq27, q27a, q27b, q27c⟩ := isOf hZ e26 P23_0
      obtain ⟨_, _, ⟨T27, L27, k27, n27⟩, -, X27, ⟨Lc27, hQ27, l27, y27, z27⟩, st27⟩ := X26.virtualBack hx (y := (⟨"com/example/eventail/eventail/DeliveryCount", "setRoomWanted", "(Z)V"⟩ : MethodName)) (z := (⟨"com/example/eventail/eventail/DeliveryCount", "setRoomWanted", "(Z)V"⟩ : MethodName)) hown (mvT hZ (W 16 rfl)) (mvT hZ (W 17 rfl)) (notFace_of_selects (args := #[]) (mvT hZ (W 19 rfl))) (mvT hZ (W 19 rfl)) (mvT hZ (W 18 rfl)) (by decide) (backOf (W := 0) (rm4 l Z a0 hw [] b19 (0 : Int32) (0 : Int64) (0 : Int64) (0 : Int64) T23.heap n0 Z0_c24 P23_0 P23_1 P23_2 g_b19 (Or.inl ⟨rfl, rfl⟩)) hZ (W 20 rfl) (W 2 rfl) (by decide) (by decide)) q27a q27c (g := (mkF m 95 #[.val (.int p1), .val (.int p2), .val (.int (0 : Int32)), .val (.int (0 : Int32)), .val (.ref b19), .val (.int (1 : Int32)), .val (.int (0 : Int32)), .val (.int (0 : Int32)), .unset, .unset, .unset] [(.int (0 : Int32)), (.ref b19)])) rfl (by rw [hml]; rfl) (Steps.refl _) (argsL := [(.int (0 : Int32))]) (rest := []) (lenOf pd_3 rfl) rfl (by show 2 * 0 + _ ≤ _; exact Nat.le_of_eq rfl) (hb hby at_95) (fun _ _ => ⟨rfl, e26, (by decide : 1 + 0 ≤ _), (by decide : 16 + 0 ≤ _)⟩)
      dsimp only [Pt.U, Pt.locs, Pt.cells, Pt.slots] at X27 l27 y27 z27 st27 hQ27
      subst l27 y27 z27
      obtain ⟨rfl, N27q, K27, P27_0, P27_1, P27_2⟩ := hQ27
      have N27 := Fr.app N26 N27q
      refine own_goT st27 ?_
      show own_Run p e below _ T27 (mkF m 98 #[.val (.int p1), .val (.int p2), .val (.int (0 : Int32)), .val (.int (0 : Int32)), .val (.ref b19), .val (.int (1 : Int32)), .val (.int (0 : Int32)), .val (.int (0 : Int32)), .unset, .unset, .unset] [])
      have Z0_c28 := Nat.le_trans Z0_c24 K27.1
      have K0_c28 := K0_c24.trans K27 (allS (Or.inr sz_b19) all0)
      have P23_0_c28 := P23_0.keep K27
      refine own_go (fun _ k => XS.aload X27.here hx rfl (hb hby at_98) rfl rfl k) ?_
      show own_Run p e below _ T27 (mkF m 100 #[.val (.int p1), .val (.int p2), .val (.int (0 : Int32)), .val (.int (0 : Int32)), .val (.ref b19), .val (.int (1 : Int32)), .val (.int (0 : Int32)), .val (.int (0 : Int32)), .unset, .unset, .unset] [(.ref b19)])
      obtain ⟨cq29, kq29, q29a, q29b, q29c⟩ := isOf hZ rfl P27_0
      obtain ⟨_, _, ⟨T29, L29, k29, n29⟩, -, X29, ⟨Lc29, hQ29, l29, y29, z29⟩, st29⟩ := X27.virtualBack hx (y := (⟨"com/example/eventail/eventail/DeliveryCount", "isRoomWanted", "()Z"⟩ : MethodName)) (z := (⟨"com/example/eventail/eventail/DeliveryCount", "isRoomWanted", "()Z"⟩ : MethodName)) hown (mvT hZ (W 9 rfl)) (mvT hZ (W 10 rfl)) (notFace_of_selects (args := #[]) (mvT hZ (W 12 rfl))) (mvT hZ (W 12 rfl)) (mvT hZ (W 11 rfl)) (by decide) (backOf (W := 0) (rm3 l Z a0 hw [] b19 (0 : Int64) (0 : Int32) T27.heap n0 Z0_c28 P27_1 (Or.inl ⟨rfl, rfl⟩)) hZ (W 13 rfl) (W 2 rfl) (by decide) (by decide)) q29a q29c (g := (mkF m 100 #[.val (.int p1), .val (.int p2), .val (.int (0 : Int32)), .val (.int (0 : Int32)), .val (.ref b19), .val (.int (1 : Int32)), .val (.int (0 : Int32)), .val (.int (0 : Int32)), .unset, .unset, .unset] [(.ref b19)])) rfl (by rw [hml]; rfl) (Steps.refl _) (argsL := []) (rest := []) (lenOf pd_2 rfl) rfl (by show 2 * 0 + _ ≤ _; exact Nat.le_of_eq rfl) (hb hby at_100) (fun _ _ => ⟨rfl, rfl, (by decide : 1 + 0 ≤ _), (by decide : 16 + 0 ≤ _)⟩)
      dsimp only [Pt.U, Pt.locs, Pt.cells, Pt.slots] at X29 l29 y29 z29 st29 hQ29
      subst l29 y29 z29
      obtain ⟨rfl, N29q, e29⟩ := hQ29
      have N29 := Fr.app N27 N29q
      refine own_goT st29 ?_
      show own_Run p e below _ T29 (mkF m 103 #[.val (.int p1), .val (.int p2), .val (.int (0 : Int32)), .val (.int (0 : Int32)), .val (.ref b19), .val (.int (1 : Int32)), .val (.int (0 : Int32)), .val (.int (0 : Int32)), .unset, .unset, .unset] [(.int (0 : Int32))])
      refine own_go (fun _ k => XS.istore X29.here hx rfl (hb hby at_103) rfl (l' := #[.val (.int p1), .val (.int p2), .val (.int (0 : Int32)), .val (.int (0 : Int32)), .val (.ref b19), .val (.int (1 : Int32)), .val (.int (0 : Int32)), .val (.int (0 : Int32)), .val (.int (0 : Int32)), .unset, .unset]) rfl k) ?_
      refine own_go (fun _ k => XS.aload X29.here hx rfl (hb hby at_105) rfl rfl k) ?_
      show own_Run p e below _ T29 (mkF m 107 #[.val (.int p1), .val (.int p2), .val (.int (0 : Int32)), .val (.int (0 : Int32)), .val (.ref b19), .val (.int (1 : Int32)), .val (.int (0 : Int32)), .val (.int (0 : Int32)), .val (.int (0 : Int32)), .unset, .unset] [(.ref b19)])
      obtain ⟨cq30, kq30, q30a, q30b, q30c⟩ := isOf hZ e29 P27_0
      obtain ⟨_, _, ⟨T30, L30, k30, n30⟩, -, X30, ⟨Lc30, hQ30, l30, y30, z30⟩, st30⟩ := X29.virtualBack hx (y := (⟨"com/example/eventail/eventail/DeliveryCount", "deliveryBegins", "()Z"⟩ : MethodName)) (z := (⟨"com/example/eventail/eventail/DeliveryCount", "deliveryBegins", "()Z"⟩ : MethodName)) hown (mvT hZ (W 21 rfl)) (mvT hZ (W 22 rfl)) (notFace_of_selects (args := #[]) (mvT hZ (W 24 rfl))) (mvT hZ (W 24 rfl)) (mvT hZ (W 23 rfl)) (by decide) (backOf (W := 0) (rm5 l Z a0 hw [] b19 (0 : Int64) (0 : Int32) (0 : Int64) T27.heap n0 Z0_c28 P27_0 P27_1 P27_2 g_b19 (Or.inl ⟨rfl, rfl⟩)) hZ (W 25 rfl) (W 2 rfl) (by decide) (by decide)) q30a q30c (g := (mkF m 107 #[.val (.int p1), .val (.int p2), .val (.int (0 : Int32)), .val (.int (0 : Int32)), .val (.ref b19), .val (.int (1 : Int32)), .val (.int (0 : Int32)), .val (.int (0 : Int32)), .val (.int (0 : Int32)), .unset, .unset] [(.ref b19)])) rfl (by rw [hml]; rfl) (Steps.refl _) (argsL := []) (rest := []) (lenOf pd_2 rfl) rfl (by show 2 * 0 + _ ≤ _; exact Nat.le_of_eq rfl) (hb hby at_107) (fun _ _ => ⟨rfl, e29, (by decide : 1 + 0 ≤ _), (by decide : 16 + 0 ≤ _)⟩)
      dsimp only [Pt.U, Pt.locs, Pt.cells, Pt.slots] at X30 l30 y30 z30 st30 hQ30
      subst l30 y30 z30
      obtain ⟨rfl, N30q, K30, P30_0, P30_1, P30_2⟩ := hQ30
      have N30 := Fr.app N29 N30q
      refine own_goT st30 ?_
      show own_Run p e below _ T30 (mkF m 110 #[.val (.int p1), .val (.int p2), .val (.int (0 : Int32)), .val (.int (0 : Int32)), .val (.ref b19), .val (.int (1 : Int32)), .val (.int (0 : Int32)), .val (.int (0 : Int32)), .val (.int (0 : Int32)), .unset, .unset] [(.int (0 : Int32))])
      have Z0_c31 := Nat.le_trans Z0_c28 K30.1
      have K0_c31 := K0_c28.trans K30 (allS (Or.inr sz_b19) all0)
      have P27_0_c31 := P27_0.keep K30
      have F_begun_e32 : Fld Z T30.heap b19 "com/example/eventail/eventail/DeliveryCount" "begun" "J" (.long (1 : Int64)) := P30_2
      refine own_go (fun _ k => XS.istore X30.here hx rfl (hb hby at_110) rfl (l' := #[.val (.int p1), .val (.int p2), .val (.int (0 : Int32)), .val (.int (0 : Int32)), .val (.ref b19), .val (.int (1 : Int32)), .val (.int (0 : Int32)), .val (.int (0 : Int32)), .val (.int (0 : Int32)), .val (.int (0 : Int32)), .unset]) rfl k) ?_
      refine own_go (fun _ k => XS.aload X30.here hx rfl (hb hby at_112) rfl rfl k) ?_
      show own_Run p e below _ T30 (mkF m 114 #[.val (.int p1), .val (.int p2), .val (.int (0 : Int32)), .val (.int (0 : Int32)), .val (.ref b19), .val (.int (1 : Int32)), .val (.int (0 : Int32)), .val (.int (0 : Int32)), .val (.int (0 : Int32)), .val (.int (0 : Int32)), .unset] [(.ref b19)])
      obtain ⟨cq33, kq33, q33a, q33b, q33c⟩ := isOf hZ rfl P30_0
      obtain ⟨_, _, ⟨T33, L33, k33, n33⟩, -, X33, ⟨Lc33, hQ33, l33, y33, z33⟩, st33⟩ := X30.virtualBack hx (y := (⟨"com/example/eventail/eventail/DeliveryCount", "isRoomWanted", "()Z"⟩ : MethodName)) (z := (⟨"com/example/eventail/eventail/DeliveryCount", "isRoomWanted", "()Z"⟩ : MethodName)) hown (mvT hZ (W 9 rfl)) (mvT hZ (W 10 rfl)) (notFace_of_selects (args := #[]) (mvT hZ (W 12 rfl))) (mvT hZ (W 12 rfl)) (mvT hZ (W 11 rfl)) (by decide) (backOf (W := 0) (rm3 l Z a0 hw [] b19 (0 : Int64) (0 : Int32) T30.heap n0 Z0_c31 P30_1 (Or.inl ⟨rfl, rfl⟩)) hZ (W 13 rfl) (W 2 rfl) (by decide) (by decide)) q33a q33c (g := (mkF m 114 #[.val (.int p1), .val (.int p2), .val (.int (0 : Int32)), .val (.int (0 : Int32)), .val (.ref b19), .val (.int (1 : Int32)), .val (.int (0 : Int32)), .val (.int (0 : Int32)), .val (.int (0 : Int32)), .val (.int (0 : Int32)), .unset] [(.ref b19)])) rfl (by rw [hml]; rfl) (Steps.refl _) (argsL := []) (rest := []) (lenOf pd_2 rfl) rfl (by show 2 * 0 + _ ≤ _; exact Nat.le_of_eq rfl) (hb hby at_114) (fun _ _ => ⟨rfl, rfl, (by decide : 1 + 0 ≤ _), (by decide : 16 + 0 ≤ _)⟩)
      dsimp only [Pt.U, Pt.locs, Pt.cells, Pt.slots] at X33 l33 y33 z33 st33 hQ33
      subst l33 y33 z33
      obtain ⟨rfl, N33q, e33⟩ := hQ33
      have N33 := Fr.app N30 N33q
      refine own_goT st33 ?_
      show own_Run p e below _ T33 (mkF m 117 #[.val (.int p1), .val (.int p2), .val (.int (0 : Int32)), .val (.int (0 : Int32)), .val (.ref b19), .val (.int (1 : Int32)), .val (.int (0 : Int32)), .val (.int (0 : Int32)), .val (.int (0 : Int32)), .val (.int (0 : Int32)), .unset] [(.int (0 : Int32))])
      refine own_go (fun _ k => XS.istore X33.here hx rfl (hb hby at_117) rfl (l' := #[.val (.int p1), .val (.int p2), .val (.int (0 : Int32)), .val (.int (0 : Int32)), .val (.ref b19), .val (.int (1 : Int32)), .val (.int (0 : Int32)), .val (.int (0 : Int32)), .val (.int (0 : Int32)), .val (.int (0 : Int32)), .val (.int (0 : Int32))]) rfl k) ?_
      refine own_go (fun _ k => XS.iload X33.here hx rfl (hb hby at_119) rfl k) ?_
      show own_Run p e below _ T33 (mkF m 121 #[.val (.int p1), .val (.int p2), .val (.int (0 : Int32)), .val (.int (0 : Int32)), .val (.ref b19), .val (.int (1 : Int32)), .val (.int (0 : Int32)), .val (.int (0 : Int32)), .val (.int (0 : Int32)), .val (.int (0 : Int32)), .val (.int (0 : Int32))] [(.int (1 : Int32))])
      refine own_go (fun _ k => XS.ifNo X33.here hx rfl (hb hby at_121) rfl ((if0 _ _).trans (feq (by decide : ¬ ((1 : Int32) = (0 : Int32)))).1) k) ?_
      show own_Run p e below _ T33 (mkF m 124 #[.val (.int p1), .val (.int p2), .val (.int (0 : Int32)), .val (.int (0 : Int32)), .val (.ref b19), .val (.int (1 : Int32)), .val (.int (0 : Int32)), .val (.int (0 : Int32)), .val (.int (0 : Int32)), .val (.int (0 : Int32)), .val (.int (0 : Int32))] [])
      refine own_go (fun _ k => XS.iload X33.here hx rfl (hb hby at_124) rfl k) ?_
      refine own_go (fun _ k => XS.iloadN X33.here hx rfl (hb hby at_126) rfl k) ?_
      show own_Run p e below _ T33 (mkF m 127 #[.val (.int p1), .val (.int p2), .val (.int (0 : Int32)), .val (.int (0 : Int32)), .val (.ref b19), .val (.int (1 : Int32)), .val (.int (0 : Int32)), .val (.int (0 : Int32)), .val (.int (0 : Int32)), .val (.int (0 : Int32)), .val (.int (0 : Int32))] [(.int (0 : Int32)), (.int (0 : Int32))])
      refine own_go (fun _ k => XS.icmpNo X33.here hx rfl (hb hby at_127) rfl (teq (by decide : (0 : Int32) = (0 : Int32))).2 k) ?_
      show own_Run p e below _ T33 (mkF m 130 #[.val (.int p1), .val (.int p2), .val (.int (0 : Int32)), .val (.int (0 : Int32)), .val (.ref b19), .val (.int (1 : Int32)), .val (.int (0 : Int32)), .val (.int (0 : Int32)), .val (.int (0 : Int32)), .val (.int (0 : Int32)), .val (.int (0 : Int32))] [])
      refine own_go (fun _ k => XS.iload X33.here hx rfl (hb hby at_130) rfl k) ?_
      refine own_go (fun _ k => XS.iloadN X33.here hx rfl (hb hby at_132) rfl k) ?_
      show own_Run p e below _ T33 (mkF m 133 #[.val (.int p1), .val (.int p2), .val (.int (0 : Int32)), .val (.int (0 : Int32)), .val (.ref b19), .val (.int (1 : Int32)), .val (.int (0 : Int32)), .val (.int (0 : Int32)), .val (.int (0 : Int32)), .val (.int (0 : Int32)), .val (.int (0 : Int32))] [(.int (0 : Int32)), (.int (0 : Int32))])
      refine own_go (fun _ k => XS.icmpNo X33.here hx rfl (hb hby at_133) rfl (teq (by decide : (0 : Int32) = (0 : Int32))).2 k) ?_
      show own_Run p e below _ T33 (mkF m 136 #[.val (.int p1), .val (.int p2), .val (.int (0 : Int32)), .val (.int (0 : Int32)), .val (.ref b19), .val (.int (1 : Int32)), .val (.int (0 : Int32)), .val (.int (0 : Int32)), .val (.int (0 : Int32)), .val (.int (0 : Int32)), .val (.int (0 : Int32))] [])
      refine own_go (fun _ k => XS.iload X33.here hx rfl (hb hby at_136) rfl k) ?_
      refine own_go (fun _ k => XS.iloadN X33.here hx rfl (hb hby at_138) rfl k) ?_
      show own_Run p e below _ T33 (mkF m 139 #[.val (.int p1), .val (.int p2), .val (.int (0 : Int32)), .val (.int (0 : Int32)), .val (.ref b19), .val (.int (1 : Int32)), .val (.int (0 : Int32)), .val (.int (0 : Int32)), .val (.int (0 : Int32)), .val (.int (0 : Int32)), .val (.int (0 : Int32))] [(.int (0 : Int32)), (.int (0 : Int32))])
      refine own_go (fun _ k => XS.icmpNo X33.here hx rfl (hb hby at_139) rfl (teq (by decide : (0 : Int32) = (0 : Int32))).2 k) ?_
      show own_Run p e below _ T33 (mkF m 142 #[.val (.int p1), .val (.int p2), .val (.int (0 : Int32)), .val (.int (0 : Int32)), .val (.ref b19), .val (.int (1 : Int32)), .val (.int (0 : Int32)), .val (.int (0 : Int32)), .val (.int (0 : Int32)), .val (.int (0 : Int32)), .val (.int (0 : Int32))] [])
      refine own_go (fun _ k => XS.aload X33.here hx rfl (hb hby at_142) rfl rfl k) ?_
      show own_Run p e below _ T33 (mkF m 144 #[.val (.int p1), .val (.int p2), .val (.int (0 : Int32)), .val (.int (0 : Int32)), .val (.ref b19), .val (.int (1 : Int32)), .val (.int (0 : Int32)), .val (.int (0 : Int32)), .val (.int (0 : Int32)), .val (.int (0 : Int32)), .val (.int (0 : Int32))] [(.ref b19)])
      obtain ⟨cq34, kq34, q34a, q34b, q34c⟩ := isOf hZ e33 P30_0
      obtain ⟨_, _, ⟨T34, L34, k34, n34⟩, -, X34, ⟨Lc34, hQ34, l34, y34, z34⟩, st34⟩ := X33.virtualBack hx (y := (⟨"com/example/eventail/eventail/DeliveryCount", "begun", "()J"⟩ : MethodName)) (z := (⟨"com/example/eventail/eventail/DeliveryCount", "begun", "()J"⟩ : MethodName)) hown (mvT hZ (W 28 rfl)) (mvT hZ (W 29 rfl)) (notFace_of_selects (args := #[]) (mvT hZ (W 31 rfl))) (mvT hZ (W 31 rfl)) (mvT hZ (W 30 rfl)) (by decide) (backOf (W := 0) (rm6 l Z a0 hw [] b19 (1 : Int64) T30.heap n0 Z0_c31 F_begun_e32) hZ (W 32 rfl) (W 2 rfl) (by decide) (by decide)) q34a q34c (g := (mkF m 144 #[.val (.int p1), .val (.int p2), .val (.int (0 : Int32)), .val (.int (0 : Int32)), .val (.ref b19), .val (.int (1 : Int32)), .val (.int (0 : Int32)), .val (.int (0 : Int32)), .val (.int (0 : Int32)), .val (.int (0 : Int32)), .val (.int (0 : Int32))] [(.ref b19)])) rfl (by rw [hml]; rfl) (Steps.refl _) (argsL := []) (rest := []) (lenOf pd_4 rfl) rfl (by show 2 * 0 + _ ≤ _; exact Nat.le_of_eq rfl) (hb hby at_144) (fun _ _ => ⟨rfl, e33, (by decide : 1 + 0 ≤ _), (by decide : 16 + 0 ≤ _)⟩)
      dsimp only [Pt.U, Pt.locs, Pt.cells, Pt.slots] at X34 l34 y34 z34 st34 hQ34
      subst l34 y34 z34
      obtain ⟨rfl, N34q, e34⟩ := hQ34
      have N34 := Fr.app N33 N34q
      refine own_goT st34 ?_
      show own_Run p e below _ T34 (mkF m 147 #[.val (.int p1), .val (.int p2), .val (.int (0 : Int32)), .val (.int (0 : Int32)), .val (.ref b19), .val (.int (1 : Int32)), .val (.int (0 : Int32)), .val (.int (0 : Int32)), .val (.int (0 : Int32)), .val (.int (0 : Int32)), .val (.int (0 : Int32))] [(.long (1 : Int64))])
      refine own_go (fun _ k => XS.lconst X34.here hx rfl (hb hby at_147) k) ?_
      refine own_go (fun _ k => XS.lcmp X34.here hx rfl (hb hby at_148) rfl k) ?_
      show own_Run p e below _ T34 (mkF m 149 #[.val (.int p1), .val (.int p2), .val (.int (0 : Int32)), .val (.int (0 : Int32)), .val (.ref b19), .val (.int (1 : Int32)), .val (.int (0 : Int32)), .val (.int (0 : Int32)), .val (.int (0 : Int32)), .val (.int (0 : Int32)), .val (.int (0 : Int32))] [(.int (lcmpW (1 : Int64) (1 : Int64)))])
      refine own_go (fun _ k => XS.ifNo X34.here hx rfl (hb hby at_149) rfl (own_lcTe (by decide : (1 : Int64) = (1 : Int64))).2 k) ?_
      show own_Run p e below _ T34 (mkF m 152 #[.val (.int p1), .val (.int p2), .val (.int (0 : Int32)), .val (.int (0 : Int32)), .val (.ref b19), .val (.int (1 : Int32)), .val (.int (0 : Int32)), .val (.int (0 : Int32)), .val (.int (0 : Int32)), .val (.int (0 : Int32)), .val (.int (0 : Int32))] [])
      refine own_go (fun _ k => XS.iconst X34.here hx rfl (hb hby at_152) k) ?_
      refine own_go (fun _ k => XS.goto X34.here hx rfl (pc0 := 153) (pc' := 157) rfl (hb hby at_153) (by decide) (by decide) k) ?_
      refine own_go (fun _ k => XS.istore X34.here hx rfl (hb hby at_157) rfl (l' := #[.val (.int p1), .val (.int p2), .val (.int (0 : Int32)), .val (.int (0 : Int32)), .val (.ref b19), .val (.int (1 : Int32)), .val (.int (0 : Int32)), .val (.int (0 : Int32)), .val (.int (0 : Int32)), .val (.int (0 : Int32)), .val (.int (0 : Int32))]) rfl k) ?_
      refine own_go (fun _ k => XS.iload X34.here hx rfl (hb hby at_159) rfl k) ?_
      show own_Run p e below _ T34 (mkF m 161 #[.val (.int p1), .val (.int p2), .val (.int (0 : Int32)), .val (.int (0 : Int32)), .val (.ref b19), .val (.int (1 : Int32)), .val (.int (0 : Int32)), .val (.int (0 : Int32)), .val (.int (0 : Int32)), .val (.int (0 : Int32)), .val (.int (0 : Int32))] [(.int (1 : Int32))])
      refine own_done (Q := fun v h L => Q0 Z p1 p2 h0 n0 v h L) (v := (some (.int (1 : Int32)))) X34 (fun h => by rw [hret] at h; cases h) hlk (fun fs hr => retN X34 hx (t := .boolean) hret (by simp) (hb hby at_161) hr) ?_ (by decide) (by decide)
      show Q0 Z p1 p2 h0 n0 _ T34.heap _
      rw [e34]
      exact ⟨rfl, N34⟩
    · refine own_go (fun _ k => XS.ifNo X0.here hx rfl (hb hby at_15) rfl ((if0 _ _).trans (feq hc15_18).1) k) ?_
      show own_Run p e below _ s₁ (mkF m 18 #[.val (.int p1), .val (.int p2), .val (.int (0 : Int32)), .unset, .unset, .unset, .unset, .unset, .unset, .unset, .unset] [])
      refine own_go (fun _ k => XS.iconst X0.here hx rfl (hb hby at_18) k) ?_
      refine own_go (fun _ k => XS.goto X0.here hx rfl (pc0 := 19) (pc' := 23) rfl (hb hby at_19) (by decide) (by decide) k) ?_
      refine own_go (fun _ k => XS.istoreN X0.here hx rfl (hb hby at_23) rfl (l' := #[.val (.int p1), .val (.int p2), .val (.int (0 : Int32)), .val (.int (1 : Int32)), .unset, .unset, .unset, .unset, .unset, .unset, .unset]) rfl k) ?_
      show own_Run p e below _ s₁ (mkF m 24 #[.val (.int p1), .val (.int p2), .val (.int (0 : Int32)), .val (.int (1 : Int32)), .unset, .unset, .unset, .unset, .unset, .unset, .unset] [])
      obtain ⟨T35, h35, X35, e35, E35, A35, D35, -, st35⟩ := newO X0 hx hZ hown (W 0 rfl) (W 1 rfl) (W 2 rfl) e0 (g := (mkF m 24 #[.val (.int p1), .val (.int p2), .val (.int (0 : Int32)), .val (.int (1 : Int32)), .unset, .unset, .unset, .unset, .unset, .unset, .unset] [])) rfl (hb hby at_24) (by decide) (by decide)
      refine own_go st35 ?_
      obtain ⟨b35, g35⟩ : ∃ z, z = h0.size := ⟨_, rfl⟩
      rw [← g35] at A35 D35
      rw [← g35]
      show own_Run p e below _ T35 (mkF m 27 #[.val (.int p1), .val (.int p2), .val (.int (0 : Int32)), .val (.int (1 : Int32)), .unset, .unset, .unset, .unset, .unset, .unset, .unset] [(.ref b35)])
      have g_b35 : n0 ≤ b35 := Nat.le_trans Z0 (Nat.le_of_eq g35.symm)
      have sz_b35 : h0.size ≤ b35 := Nat.le_trans K0.1 (Nat.le_of_eq g35.symm)
      have Z0_c36 := Nat.le_trans Z0 E35.1
      have K0_c36 := K0.ext E35
      have F_roomWanted_b35 : Fld Z h35 b35 "com/example/eventail/eventail/DeliveryCount" "roomWanted" "J" (.long (0 : Int64)) := D35 (Or.inl (W 15 rfl)) (ty := .long) (by decide)
      have F_begun_b35 : Fld Z h35 b35 "com/example/eventail/eventail/DeliveryCount" "begun" "J" (.long (0 : Int64)) := D35 (Or.inl (W 27 rfl)) (ty := .long) (by decide)
      refine own_go (fun _ k => XS.dup X35.here hx rfl (hb hby at_27) rfl rfl k) ?_
      show own_Run p e below _ T35 (mkF m 28 #[.val (.int p1), .val (.int p2), .val (.int (0 : Int32)), .val (.int (1 : Int32)), .unset, .unset, .unset, .unset, .unset, .unset, .unset] [(.ref b35), (.ref b35)])
      obtain ⟨_, _, ⟨T37, L37, k37, n37⟩, -, X37, ⟨Lc37, hQ37, l37, y37, z37⟩, st37⟩ := X35.specialBack hx (y := (⟨"com/example/eventail/eventail/DeliveryCount", "<init>", "()V"⟩ : MethodName)) rfl hown (mvT hZ (W 3 rfl)) (mvT hZ (W 4 rfl)) (mvT hZ (W 5 rfl)) (by decide) (backOf (W := 1) (rm1 l Z a0 hw [] b35 h35 n0 Z0_c36 ) hZ (W 5 rfl) (W 2 rfl) (by decide) (by decide)) (g := (mkF m 28 #[.val (.int p1), .val (.int p2), .val (.int (0 : Int32)), .val (.int (1 : Int32)), .unset, .unset, .unset, .unset, .unset, .unset, .unset] [(.ref b35), (.ref b35)])) rfl (by rw [hml]; rfl) (Steps.refl _) (a := b35) (argsL := []) (rest := [(.ref b35)]) (lenOf pd_1 rfl) rfl (by show 2 * 0 + _ ≤ _; exact Nat.le_of_eq rfl) (hb hby at_28) (fun _ _ => ⟨rfl, e35, (by decide : 1 + 0 ≤ _), (by decide : 16 + 0 ≤ _)⟩)
      dsimp only [Pt.U, Pt.locs, Pt.cells, Pt.slots] at X37 l37 y37 z37 st37 hQ37
      subst l37 y37 z37
      obtain ⟨rfl, N37q, e37⟩ := hQ37
      have N37 := Fr.app N0 N37q
      refine own_goT st37 ?_
      show own_Run p e below _ T37 (mkF m 31 #[.val (.int p1), .val (.int p2), .val (.int (0 : Int32)), .val (.int (1 : Int32)), .unset, .unset, .unset, .unset, .unset, .unset, .unset] [(.ref b35)])
      refine own_go (fun _ k => XS.astore X37.here hx rfl (hb hby at_31) rfl rfl (l' := #[.val (.int p1), .val (.int p2), .val (.int (0 : Int32)), .val (.int (1 : Int32)), .val (.ref b35), .unset, .unset, .unset, .unset, .unset, .unset]) rfl k) ?_
      refine own_go (fun _ k => XS.aload X37.here hx rfl (hb hby at_33) rfl rfl k) ?_
      show own_Run p e below _ T37 (mkF m 35 #[.val (.int p1), .val (.int p2), .val (.int (0 : Int32)), .val (.int (1 : Int32)), .val (.ref b35), .unset, .unset, .unset, .unset, .unset, .unset] [(.ref b35)])
      obtain ⟨cq38, kq38, q38a, q38b, q38c⟩ := isOf hZ e37 A35
      obtain ⟨_, _, ⟨T38, L38, k38, n38⟩, -, X38, ⟨Lc38, hQ38, l38, y38, z38⟩, st38⟩ := X37.virtualBack hx (y := (⟨"com/example/eventail/eventail/DeliveryCount", "isRoomWanted", "()Z"⟩ : MethodName)) (z := (⟨"com/example/eventail/eventail/DeliveryCount", "isRoomWanted", "()Z"⟩ : MethodName)) hown (mvT hZ (W 9 rfl)) (mvT hZ (W 10 rfl)) (notFace_of_selects (args := #[]) (mvT hZ (W 12 rfl))) (mvT hZ (W 12 rfl)) (mvT hZ (W 11 rfl)) (by decide) (backOf (W := 0) (rm3 l Z a0 hw [] b35 (0 : Int64) (0 : Int32) h35 n0 Z0_c36 F_roomWanted_b35 (Or.inl ⟨rfl, rfl⟩)) hZ (W 13 rfl) (W 2 rfl) (by decide) (by decide)) q38a q38c (g := (mkF m 35 #[.val (.int p1), .val (.int p2), .val (.int (0 : Int32)), .val (.int (1 : Int32)), .val (.ref b35), .unset, .unset, .unset, .unset, .unset, .unset] [(.ref b35)])) rfl (by rw [hml]; rfl) (Steps.refl _) (argsL := []) (rest := []) (lenOf pd_2 rfl) rfl (by show 2 * 0 + _ ≤ _; exact Nat.le_of_eq rfl) (hb hby at_35) (fun _ _ => ⟨rfl, e37, (by decide : 1 + 0 ≤ _), (by decide : 16 + 0 ≤ _)⟩)
      dsimp only [Pt.U, Pt.locs, Pt.cells, Pt.slots] at X38 l38 y38 z38 st38 hQ38
      subst l38 y38 z38
      obtain ⟨rfl, N38q, e38⟩ := hQ38
      have N38 := Fr.app N37 N38q
      refine own_goT st38 ?_
      show own_Run p e below _ T38 (mkF m 38 #[.val (.int p1), .val (.int p2), .val (.int (0 : Int32)), .val (.int (1 : Int32)), .val (.ref b35), .unset, .unset, .unset, .unset, .unset, .unset] [(.int (0 : Int32))])
      refine own_go (fun _ k => XS.ifNo X38.here hx rfl (hb hby at_38) rfl ((if0 _ _).trans (teq (by decide : (0 : Int32) = (0 : Int32))).2) k) ?_
      show own_Run p e below _ T38 (mkF m 41 #[.val (.int p1), .val (.int p2), .val (.int (0 : Int32)), .val (.int (1 : Int32)), .val (.ref b35), .unset, .unset, .unset, .unset, .unset, .unset] [])
      refine own_go (fun _ k => XS.iconst X38.here hx rfl (hb hby at_41) k) ?_
      refine own_go (fun _ k => XS.goto X38.here hx rfl (pc0 := 42) (pc' := 46) rfl (hb hby at_42) (by decide) (by decide) k) ?_
      refine own_go (fun _ k => XS.istore X38.here hx rfl (hb hby at_46) rfl (l' := #[.val (.int p1), .val (.int p2), .val (.int (0 : Int32)), .val (.int (1 : Int32)), .val (.ref b35), .val (.int (1 : Int32)), .unset, .unset, .unset, .unset, .unset]) rfl k) ?_
      refine own_go (fun _ k => XS.aload X38.here hx rfl (hb hby at_48) rfl rfl k) ?_
      show own_Run p e below _ T38 (mkF m 50 #[.val (.int p1), .val (.int p2), .val (.int (0 : Int32)), .val (.int (1 : Int32)), .val (.ref b35), .val (.int (1 : Int32)), .unset, .unset, .unset, .unset, .unset] [(.ref b35)])
      refine own_go (fun _ k => XS.iloadN X38.here hx rfl (hb hby at_50) rfl k) ?_
      show own_Run p e below _ T38 (mkF m 51 #[.val (.int p1), .val (.int p2), .val (.int (0 : Int32)), .val (.int (1 : Int32)), .val (.ref b35), .val (.int (1 : Int32)), .unset, .unset, .unset, .unset, .unset] [(.int (0 : Int32)), (.ref b35)])
      obtain ⟨cq39, kq39, q39a, q39b, q39c⟩ := isOf hZ e38 A35
      obtain ⟨_, _, ⟨T39, L39, k39, n39⟩, -, X39, ⟨Lc39, hQ39, l39, y39, z39⟩, st39⟩ := X38.virtualBack hx (y := (⟨"com/example/eventail/eventail/DeliveryCount", "setRoomWanted", "(Z)V"⟩ : MethodName)) (z := (⟨"com/example/eventail/eventail/DeliveryCount", "setRoomWanted", "(Z)V"⟩ : MethodName)) hown (mvT hZ (W 16 rfl)) (mvT hZ (W 17 rfl)) (notFace_of_selects (args := #[]) (mvT hZ (W 19 rfl))) (mvT hZ (W 19 rfl)) (mvT hZ (W 18 rfl)) (by decide) (backOf (W := 0) (rm4 l Z a0 hw [] b35 (0 : Int32) (0 : Int64) (0 : Int64) (0 : Int64) h35 n0 Z0_c36 A35 F_roomWanted_b35 F_begun_b35 g_b35 (Or.inl ⟨rfl, rfl⟩)) hZ (W 20 rfl) (W 2 rfl) (by decide) (by decide)) q39a q39c (g := (mkF m 51 #[.val (.int p1), .val (.int p2), .val (.int (0 : Int32)), .val (.int (1 : Int32)), .val (.ref b35), .val (.int (1 : Int32)), .unset, .unset, .unset, .unset, .unset] [(.int (0 : Int32)), (.ref b35)])) rfl (by rw [hml]; rfl) (Steps.refl _) (argsL := [(.int (0 : Int32))]) (rest := []) (lenOf pd_3 rfl) rfl (by show 2 * 0 + _ ≤ _; exact Nat.le_of_eq rfl) (hb hby at_51) (fun _ _ => ⟨rfl, e38, (by decide : 1 + 0 ≤ _), (by decide : 16 + 0 ≤ _)⟩)
      dsimp only [Pt.U, Pt.locs, Pt.cells, Pt.slots] at X39 l39 y39 z39 st39 hQ39
      subst l39 y39 z39
      obtain ⟨rfl, N39q, K39, P39_0, P39_1, P39_2⟩ := hQ39
      have N39 := Fr.app N38 N39q
      refine own_goT st39 ?_
      show own_Run p e below _ T39 (mkF m 54 #[.val (.int p1), .val (.int p2), .val (.int (0 : Int32)), .val (.int (1 : Int32)), .val (.ref b35), .val (.int (1 : Int32)), .unset, .unset, .unset, .unset, .unset] [])
      have Z0_c40 := Nat.le_trans Z0_c36 K39.1
      have K0_c40 := K0_c36.trans K39 (allS (Or.inr sz_b35) all0)
      have A35_c40 := A35.keep K39
      refine own_go (fun _ k => XS.aload X39.here hx rfl (hb hby at_54) rfl rfl k) ?_
      show own_Run p e below _ T39 (mkF m 56 #[.val (.int p1), .val (.int p2), .val (.int (0 : Int32)), .val (.int (1 : Int32)), .val (.ref b35), .val (.int (1 : Int32)), .unset, .unset, .unset, .unset, .unset] [(.ref b35)])
      obtain ⟨cq41, kq41, q41a, q41b, q41c⟩ := isOf hZ rfl P39_0
      obtain ⟨_, _, ⟨T41, L41, k41, n41⟩, -, X41, ⟨Lc41, hQ41, l41, y41, z41⟩, st41⟩ := X39.virtualBack hx (y := (⟨"com/example/eventail/eventail/DeliveryCount", "isRoomWanted", "()Z"⟩ : MethodName)) (z := (⟨"com/example/eventail/eventail/DeliveryCount", "isRoomWanted", "()Z"⟩ : MethodName)) hown (mvT hZ (W 9 rfl)) (mvT hZ (W 10 rfl)) (notFace_of_selects (args := #[]) (mvT hZ (W 12 rfl))) (mvT hZ (W 12 rfl)) (mvT hZ (W 11 rfl)) (by decide) (backOf (W := 0) (rm3 l Z a0 hw [] b35 (0 : Int64) (0 : Int32) T39.heap n0 Z0_c40 P39_1 (Or.inl ⟨rfl, rfl⟩)) hZ (W 13 rfl) (W 2 rfl) (by decide) (by decide)) q41a q41c (g := (mkF m 56 #[.val (.int p1), .val (.int p2), .val (.int (0 : Int32)), .val (.int (1 : Int32)), .val (.ref b35), .val (.int (1 : Int32)), .unset, .unset, .unset, .unset, .unset] [(.ref b35)])) rfl (by rw [hml]; rfl) (Steps.refl _) (argsL := []) (rest := []) (lenOf pd_2 rfl) rfl (by show 2 * 0 + _ ≤ _; exact Nat.le_of_eq rfl) (hb hby at_56) (fun _ _ => ⟨rfl, rfl, (by decide : 1 + 0 ≤ _), (by decide : 16 + 0 ≤ _)⟩)
      dsimp only [Pt.U, Pt.locs, Pt.cells, Pt.slots] at X41 l41 y41 z41 st41 hQ41
      subst l41 y41 z41
      obtain ⟨rfl, N41q, e41⟩ := hQ41
      have N41 := Fr.app N39 N41q
      refine own_goT st41 ?_
      show own_Run p e below _ T41 (mkF m 59 #[.val (.int p1), .val (.int p2), .val (.int (0 : Int32)), .val (.int (1 : Int32)), .val (.ref b35), .val (.int (1 : Int32)), .unset, .unset, .unset, .unset, .unset] [(.int (0 : Int32))])
      refine own_go (fun _ k => XS.istore X41.here hx rfl (hb hby at_59) rfl (l' := #[.val (.int p1), .val (.int p2), .val (.int (0 : Int32)), .val (.int (1 : Int32)), .val (.ref b35), .val (.int (1 : Int32)), .val (.int (0 : Int32)), .unset, .unset, .unset, .unset]) rfl k) ?_
      refine own_go (fun _ k => XS.aload X41.here hx rfl (hb hby at_61) rfl rfl k) ?_
      show own_Run p e below _ T41 (mkF m 63 #[.val (.int p1), .val (.int p2), .val (.int (0 : Int32)), .val (.int (1 : Int32)), .val (.ref b35), .val (.int (1 : Int32)), .val (.int (0 : Int32)), .unset, .unset, .unset, .unset] [(.ref b35)])
      obtain ⟨cq42, kq42, q42a, q42b, q42c⟩ := isOf hZ e41 P39_0
      obtain ⟨_, _, ⟨T42, L42, k42, n42⟩, -, X42, ⟨Lc42, hQ42, l42, y42, z42⟩, st42⟩ := X41.virtualBack hx (y := (⟨"com/example/eventail/eventail/DeliveryCount", "isRoomWanted", "()Z"⟩ : MethodName)) (z := (⟨"com/example/eventail/eventail/DeliveryCount", "isRoomWanted", "()Z"⟩ : MethodName)) hown (mvT hZ (W 9 rfl)) (mvT hZ (W 10 rfl)) (notFace_of_selects (args := #[]) (mvT hZ (W 12 rfl))) (mvT hZ (W 12 rfl)) (mvT hZ (W 11 rfl)) (by decide) (backOf (W := 0) (rm3 l Z a0 hw [] b35 (0 : Int64) (0 : Int32) T39.heap n0 Z0_c40 P39_1 (Or.inl ⟨rfl, rfl⟩)) hZ (W 13 rfl) (W 2 rfl) (by decide) (by decide)) q42a q42c (g := (mkF m 63 #[.val (.int p1), .val (.int p2), .val (.int (0 : Int32)), .val (.int (1 : Int32)), .val (.ref b35), .val (.int (1 : Int32)), .val (.int (0 : Int32)), .unset, .unset, .unset, .unset] [(.ref b35)])) rfl (by rw [hml]; rfl) (Steps.refl _) (argsL := []) (rest := []) (lenOf pd_2 rfl) rfl (by show 2 * 0 + _ ≤ _; exact Nat.le_of_eq rfl) (hb hby at_63) (fun _ _ => ⟨rfl, e41, (by decide : 1 + 0 ≤ _), (by decide : 16 + 0 ≤ _)⟩)
      dsimp only [Pt.U, Pt.locs, Pt.cells, Pt.slots] at X42 l42 y42 z42 st42 hQ42
      subst l42 y42 z42
      obtain ⟨rfl, N42q, e42⟩ := hQ42
      have N42 := Fr.app N41 N42q
      refine own_goT st42 ?_
      show own_Run p e below _ T42 (mkF m 66 #[.val (.int p1), .val (.int p2), .val (.int (0 : Int32)), .val (.int (1 : Int32)), .val (.ref b35), .val (.int (1 : Int32)), .val (.int (0 : Int32)), .unset, .unset, .unset, .unset] [(.int (0 : Int32))])
      refine own_go (fun _ k => XS.istore X42.here hx rfl (hb hby at_66) rfl (l' := #[.val (.int p1), .val (.int p2), .val (.int (0 : Int32)), .val (.int (1 : Int32)), .val (.ref b35), .val (.int (1 : Int32)), .val (.int (0 : Int32)), .val (.int (0 : Int32)), .unset, .unset, .unset]) rfl k) ?_
      refine own_go (fun _ k => XS.iload X42.here hx rfl (hb hby at_68) rfl k) ?_
      show own_Run p e below _ T42 (mkF m 70 #[.val (.int p1), .val (.int p2), .val (.int (0 : Int32)), .val (.int (1 : Int32)), .val (.ref b35), .val (.int (1 : Int32)), .val (.int (0 : Int32)), .val (.int (0 : Int32)), .unset, .unset, .unset] [(.int (1 : Int32))])
      refine own_go (fun _ k => XS.ifNo X42.here hx rfl (hb hby at_70) rfl ((if0 _ _).trans (feq (by decide : ¬ ((1 : Int32) = (0 : Int32)))).1) k) ?_
      show own_Run p e below _ T42 (mkF m 73 #[.val (.int p1), .val (.int p2), .val (.int (0 : Int32)), .val (.int (1 : Int32)), .val (.ref b35), .val (.int (1 : Int32)), .val (.int (0 : Int32)), .val (.int (0 : Int32)), .unset, .unset, .unset] [])
      refine own_go (fun _ k => XS.iload X42.here hx rfl (hb hby at_73) rfl k) ?_
      refine own_go (fun _ k => XS.iloadN X42.here hx rfl (hb hby at_75) rfl k) ?_
      show own_Run p e below _ T42 (mkF m 76 #[.val (.int p1), .val (.int p2), .val (.int (0 : Int32)), .val (.int (1 : Int32)), .val (.ref b35), .val (.int (1 : Int32)), .val (.int (0 : Int32)), .val (.int (0 : Int32)), .unset, .unset, .unset] [(.int (0 : Int32)), (.int (0 : Int32))])
      refine own_go (fun _ k => XS.icmpNo X42.here hx rfl (hb hby at_76) rfl (teq (by decide : (0 : Int32) = (0 : Int32))).2 k) ?_
      show own_Run p e below _ T42 (mkF m 79 #[.val (.int p1), .val (.int p2), .val (.int (0 : Int32)), .val (.int (1 : Int32)), .val (.ref b35), .val (.int (1 : Int32)), .val (.int (0 : Int32)), .val (.int (0 : Int32)), .unset, .unset, .unset] [])
      refine own_go (fun _ k => XS.iload X42.here hx rfl (hb hby at_79) rfl k) ?_
      refine own_go (fun _ k => XS.iloadN X42.here hx rfl (hb hby at_81) rfl k) ?_
      show own_Run p e below _ T42 (mkF m 82 #[.val (.int p1), .val (.int p2), .val (.int (0 : Int32)), .val (.int (1 : Int32)), .val (.ref b35), .val (.int (1 : Int32)), .val (.int (0 : Int32)), .val (.int (0 : Int32)), .unset, .unset, .unset] [(.int (0 : Int32)), (.int (0 : Int32))])
      refine own_go (fun _ k => XS.icmpNo X42.here hx rfl (hb hby at_82) rfl (teq (by decide : (0 : Int32) = (0 : Int32))).2 k) ?_
      show own_Run p e below _ T42 (mkF m 85 #[.val (.int p1), .val (.int p2), .val (.int (0 : Int32)), .val (.int (1 : Int32)), .val (.ref b35), .val (.int (1 : Int32)), .val (.int (0 : Int32)), .val (.int (0 : Int32)), .unset, .unset, .unset] [])
      refine own_go (fun _ k => XS.iconst X42.here hx rfl (hb hby at_85) k) ?_
      refine own_go (fun _ k => XS.goto X42.here hx rfl (pc0 := 86) (pc' := 90) rfl (hb hby at_86) (by decide) (by decide) k) ?_
      refine own_go (fun _ k => XS.istore X42.here hx rfl (hb hby at_90) rfl (l' := #[.val (.int p1), .val (.int p2), .val (.int (0 : Int32)), .val (.int (1 : Int32)), .val (.ref b35), .val (.int (1 : Int32)), .val (.int (0 : Int32)), .val (.int (0 : Int32)), .unset, .unset, .unset]) rfl k) ?_
      refine own_go (fun _ k => XS.aload X42.here hx rfl (hb hby at_92) rfl rfl k) ?_
      show own_Run p e below _ T42 (mkF m 94 #[.val (.int p1), .val (.int p2), .val (.int (0 : Int32)), .val (.int (1 : Int32)), .val (.ref b35), .val (.int (1 : Int32)), .val (.int (0 : Int32)), .val (.int (0 : Int32)), .unset, .unset, .unset] [(.ref b35)])
      refine own_go (fun _ k => XS.iloadN X42.here hx rfl (hb hby at_94) rfl k) ?_
      show own_Run p e below _ T42 (mkF m 95 #[.val (.int p1), .val (.int p2), .val (.int (0 : Int32)), .val (.int (1 : Int32)), .val (.ref b35), .val (.int (1 : Int32)), .val (.int (0 : Int32)), .val (.int (0 : Int32)), .unset, .unset, .unset] [(.int (1 : Int32)), (.ref b35)])
      obtain ⟨cq43, kq43, q43a, q43b, q43c⟩ := isOf hZ e42 P39_0
      obtain ⟨_, _, ⟨T43, L43, k43, n43⟩, -, X43, ⟨Lc43, hQ43, l43, y43, z43⟩, st43⟩ := X42.virtualBack hx (y := (⟨"com/example/eventail/eventail/DeliveryCount", "setRoomWanted", "(Z)V"⟩ : MethodName)) (z := (⟨"com/example/eventail/eventail/DeliveryCount", "setRoomWanted", "(Z)V"⟩ : MethodName)) hown (mvT hZ (W 16 rfl)) (mvT hZ (W 17 rfl)) (notFace_of_selects (args := #[]) (mvT hZ (W 19 rfl))) (mvT hZ (W 19 rfl)) (mvT hZ (W 18 rfl)) (by decide) (backOf (W := 0) (rm4 l Z a0 hw [] b35 (1 : Int32) (0 : Int64) (1 : Int64) (0 : Int64) T39.heap n0 Z0_c40 P39_0 P39_1 P39_2 g_b35 (Or.inr ⟨rfl, rfl⟩)) hZ (W 20 rfl) (W 2 rfl) (by decide) (by decide)) q43a q43c (g := (mkF m 95 #[.val (.int p1), .val (.int p2), .val (.int (0 : Int32)), .val (.int (1 : Int32)), .val (.ref b35), .val (.int (1 : Int32)), .val (.int (0 : Int32)), .val (.int (0 : Int32)), .unset, .unset, .unset] [(.int (1 : Int32)), (.ref b35)])) rfl (by rw [hml]; rfl) (Steps.refl _) (argsL := [(.int (1 : Int32))]) (rest := []) (lenOf pd_3 rfl) rfl (by show 2 * 0 + _ ≤ _; exact Nat.le_of_eq rfl) (hb hby at_95) (fun _ _ => ⟨rfl, e42, (by decide : 1 + 0 ≤ _), (by decide : 16 + 0 ≤ _)⟩)
      dsimp only [Pt.U, Pt.locs, Pt.cells, Pt.slots] at X43 l43 y43 z43 st43 hQ43
      subst l43 y43 z43
      obtain ⟨rfl, N43q, K43, P43_0, P43_1, P43_2⟩ := hQ43
      have N43 := Fr.app N42 N43q
      refine own_goT st43 ?_
      show own_Run p e below _ T43 (mkF m 98 #[.val (.int p1), .val (.int p2), .val (.int (0 : Int32)), .val (.int (1 : Int32)), .val (.ref b35), .val (.int (1 : Int32)), .val (.int (0 : Int32)), .val (.int (0 : Int32)), .unset, .unset, .unset] [])
      have Z0_c44 := Nat.le_trans Z0_c40 K43.1
      have K0_c44 := K0_c40.trans K43 (allS (Or.inr sz_b35) all0)
      have P39_0_c44 := P39_0.keep K43
      refine own_go (fun _ k => XS.aload X43.here hx rfl (hb hby at_98) rfl rfl k) ?_
      show own_Run p e below _ T43 (mkF m 100 #[.val (.int p1), .val (.int p2), .val (.int (0 : Int32)), .val (.int (1 : Int32)), .val (.ref b35), .val (.int (1 : Int32)), .val (.int (0 : Int32)), .val (.int (0 : Int32)), .unset, .unset, .unset] [(.ref b35)])
      obtain ⟨cq45, kq45, q45a, q45b, q45c⟩ := isOf hZ rfl P43_0
      obtain ⟨_, _, ⟨T45, L45, k45, n45⟩, -, X45, ⟨Lc45, hQ45, l45, y45, z45⟩, st45⟩ := X43.virtualBack hx (y := (⟨"com/example/eventail/eventail/DeliveryCount", "isRoomWanted", "()Z"⟩ : MethodName)) (z := (⟨"com/example/eventail/eventail/DeliveryCount", "isRoomWanted", "()Z"⟩ : MethodName)) hown (mvT hZ (W 9 rfl)) (mvT hZ (W 10 rfl)) (notFace_of_selects (args := #[]) (mvT hZ (W 12 rfl))) (mvT hZ (W 12 rfl)) (mvT hZ (W 11 rfl)) (by decide) (backOf (W := 0) (rm3 l Z a0 hw [] b35 (1 : Int64) (1 : Int32) T43.heap n0 Z0_c44 P43_1 (Or.inr ⟨rfl, rfl⟩)) hZ (W 13 rfl) (W 2 rfl) (by decide) (by decide)) q45a q45c (g := (mkF m 100 #[.val (.int p1), .val (.int p2), .val (.int (0 : Int32)), .val (.int (1 : Int32)), .val (.ref b35), .val (.int (1 : Int32)), .val (.int (0 : Int32)), .val (.int (0 : Int32)), .unset, .unset, .unset] [(.ref b35)])) rfl (by rw [hml]; rfl) (Steps.refl _) (argsL := []) (rest := []) (lenOf pd_2 rfl) rfl (by show 2 * 0 + _ ≤ _; exact Nat.le_of_eq rfl) (hb hby at_100) (fun _ _ => ⟨rfl, rfl, (by decide : 1 + 0 ≤ _), (by decide : 16 + 0 ≤ _)⟩)
      dsimp only [Pt.U, Pt.locs, Pt.cells, Pt.slots] at X45 l45 y45 z45 st45 hQ45
      subst l45 y45 z45
      obtain ⟨rfl, N45q, e45⟩ := hQ45
      have N45 := Fr.app N43 N45q
      refine own_goT st45 ?_
      show own_Run p e below _ T45 (mkF m 103 #[.val (.int p1), .val (.int p2), .val (.int (0 : Int32)), .val (.int (1 : Int32)), .val (.ref b35), .val (.int (1 : Int32)), .val (.int (0 : Int32)), .val (.int (0 : Int32)), .unset, .unset, .unset] [(.int (1 : Int32))])
      refine own_go (fun _ k => XS.istore X45.here hx rfl (hb hby at_103) rfl (l' := #[.val (.int p1), .val (.int p2), .val (.int (0 : Int32)), .val (.int (1 : Int32)), .val (.ref b35), .val (.int (1 : Int32)), .val (.int (0 : Int32)), .val (.int (0 : Int32)), .val (.int (1 : Int32)), .unset, .unset]) rfl k) ?_
      refine own_go (fun _ k => XS.aload X45.here hx rfl (hb hby at_105) rfl rfl k) ?_
      show own_Run p e below _ T45 (mkF m 107 #[.val (.int p1), .val (.int p2), .val (.int (0 : Int32)), .val (.int (1 : Int32)), .val (.ref b35), .val (.int (1 : Int32)), .val (.int (0 : Int32)), .val (.int (0 : Int32)), .val (.int (1 : Int32)), .unset, .unset] [(.ref b35)])
      obtain ⟨cq46, kq46, q46a, q46b, q46c⟩ := isOf hZ e45 P43_0
      obtain ⟨_, _, ⟨T46, L46, k46, n46⟩, -, X46, ⟨Lc46, hQ46, l46, y46, z46⟩, st46⟩ := X45.virtualBack hx (y := (⟨"com/example/eventail/eventail/DeliveryCount", "deliveryBegins", "()Z"⟩ : MethodName)) (z := (⟨"com/example/eventail/eventail/DeliveryCount", "deliveryBegins", "()Z"⟩ : MethodName)) hown (mvT hZ (W 21 rfl)) (mvT hZ (W 22 rfl)) (notFace_of_selects (args := #[]) (mvT hZ (W 24 rfl))) (mvT hZ (W 24 rfl)) (mvT hZ (W 23 rfl)) (by decide) (backOf (W := 0) (rm5 l Z a0 hw [] b35 (1 : Int64) (1 : Int32) (0 : Int64) T43.heap n0 Z0_c44 P43_0 P43_1 P43_2 g_b35 (Or.inr ⟨rfl, rfl⟩)) hZ (W 25 rfl) (W 2 rfl) (by decide) (by decide)) q46a q46c (g := (mkF m 107 #[.val (.int p1), .val (.int p2), .val (.int (0 : Int32)), .val (.int (1 : Int32)), .val (.ref b35), .val (.int (1 : Int32)), .val (.int (0 : Int32)), .val (.int (0 : Int32)), .val (.int (1 : Int32)), .unset, .unset] [(.ref b35)])) rfl (by rw [hml]; rfl) (Steps.refl _) (argsL := []) (rest := []) (lenOf pd_2 rfl) rfl (by show 2 * 0 + _ ≤ _; exact Nat.le_of_eq rfl) (hb hby at_107) (fun _ _ => ⟨rfl, e45, (by decide : 1 + 0 ≤ _), (by decide : 16 + 0 ≤ _)⟩)
      dsimp only [Pt.U, Pt.locs, Pt.cells, Pt.slots] at X46 l46 y46 z46 st46 hQ46
      subst l46 y46 z46
      obtain ⟨rfl, N46q, K46, P46_0, P46_1, P46_2⟩ := hQ46
      have N46 := Fr.app N45 N46q
      refine own_goT st46 ?_
      show own_Run p e below _ T46 (mkF m 110 #[.val (.int p1), .val (.int p2), .val (.int (0 : Int32)), .val (.int (1 : Int32)), .val (.ref b35), .val (.int (1 : Int32)), .val (.int (0 : Int32)), .val (.int (0 : Int32)), .val (.int (1 : Int32)), .unset, .unset] [(.int (1 : Int32))])
      have Z0_c47 := Nat.le_trans Z0_c44 K46.1
      have K0_c47 := K0_c44.trans K46 (allS (Or.inr sz_b35) all0)
      have P43_0_c47 := P43_0.keep K46
      have F_begun_e48 : Fld Z T46.heap b35 "com/example/eventail/eventail/DeliveryCount" "begun" "J" (.long (1 : Int64)) := P46_2
      refine own_go (fun _ k => XS.istore X46.here hx rfl (hb hby at_110) rfl (l' := #[.val (.int p1), .val (.int p2), .val (.int (0 : Int32)), .val (.int (1 : Int32)), .val (.ref b35), .val (.int (1 : Int32)), .val (.int (0 : Int32)), .val (.int (0 : Int32)), .val (.int (1 : Int32)), .val (.int (1 : Int32)), .unset]) rfl k) ?_
      refine own_go (fun _ k => XS.aload X46.here hx rfl (hb hby at_112) rfl rfl k) ?_
      show own_Run p e below _ T46 (mkF m 114 #[.val (.int p1), .val (.int p2), .val (.int (0 : Int32)), .val (.int (1 : Int32)), .val (.ref b35), .val (.int (1 : Int32)), .val (.int (0 : Int32)), .val (.int (0 : Int32)), .val (.int (1 : Int32)), .val (.int (1 : Int32)), .unset] [(.ref b35)])
      obtain ⟨cq49, kq49, q49a, q49b, q49c⟩ := isOf hZ rfl P46_0
      obtain ⟨_, _, ⟨T49, L49, k49, n49⟩, -, X49, ⟨Lc49, hQ49, l49, y49, z49⟩, st49⟩ := X46.virtualBack hx (y := (⟨"com/example/eventail/eventail/DeliveryCount", "isRoomWanted", "()Z"⟩ : MethodName)) (z := (⟨"com/example/eventail/eventail/DeliveryCount", "isRoomWanted", "()Z"⟩ : MethodName)) hown (mvT hZ (W 9 rfl)) (mvT hZ (W 10 rfl)) (notFace_of_selects (args := #[]) (mvT hZ (W 12 rfl))) (mvT hZ (W 12 rfl)) (mvT hZ (W 11 rfl)) (by decide) (backOf (W := 0) (rm3 l Z a0 hw [] b35 (1 : Int64) (1 : Int32) T46.heap n0 Z0_c47 P46_1 (Or.inr ⟨rfl, rfl⟩)) hZ (W 13 rfl) (W 2 rfl) (by decide) (by decide)) q49a q49c (g := (mkF m 114 #[.val (.int p1), .val (.int p2), .val (.int (0 : Int32)), .val (.int (1 : Int32)), .val (.ref b35), .val (.int (1 : Int32)), .val (.int (0 : Int32)), .val (.int (0 : Int32)), .val (.int (1 : Int32)), .val (.int (1 : Int32)), .unset] [(.ref b35)])) rfl (by rw [hml]; rfl) (Steps.refl _) (argsL := []) (rest := []) (lenOf pd_2 rfl) rfl (by show 2 * 0 + _ ≤ _; exact Nat.le_of_eq rfl) (hb hby at_114) (fun _ _ => ⟨rfl, rfl, (by decide : 1 + 0 ≤ _), (by decide : 16 + 0 ≤ _)⟩)
      dsimp only [Pt.U, Pt.locs, Pt.cells, Pt.slots] at X49 l49 y49 z49 st49 hQ49
      subst l49 y49 z49
      obtain ⟨rfl, N49q, e49⟩ := hQ49
      have N49 := Fr.app N46 N49q
      refine own_goT st49 ?_
      show own_Run p e below _ T49 (mkF m 117 #[.val (.int p1), .val (.int p2), .val (.int (0 : Int32)), .val (.int (1 : Int32)), .val (.ref b35), .val (.int (1 : Int32)), .val (.int (0 : Int32)), .val (.int (0 : Int32)), .val (.int (1 : Int32)), .val (.int (1 : Int32)), .unset] [(.int (1 : Int32))])
      refine own_go (fun _ k => XS.istore X49.here hx rfl (hb hby at_117) rfl (l' := #[.val (.int p1), .val (.int p2), .val (.int (0 : Int32)), .val (.int (1 : Int32)), .val (.ref b35), .val (.int (1 : Int32)), .val (.int (0 : Int32)), .val (.int (0 : Int32)), .val (.int (1 : Int32)), .val (.int (1 : Int32)), .val (.int (1 : Int32))]) rfl k) ?_
      refine own_go (fun _ k => XS.iload X49.here hx rfl (hb hby at_119) rfl k) ?_
      show own_Run p e below _ T49 (mkF m 121 #[.val (.int p1), .val (.int p2), .val (.int (0 : Int32)), .val (.int (1 : Int32)), .val (.ref b35), .val (.int (1 : Int32)), .val (.int (0 : Int32)), .val (.int (0 : Int32)), .val (.int (1 : Int32)), .val (.int (1 : Int32)), .val (.int (1 : Int32))] [(.int (1 : Int32))])
      refine own_go (fun _ k => XS.ifNo X49.here hx rfl (hb hby at_121) rfl ((if0 _ _).trans (feq (by decide : ¬ ((1 : Int32) = (0 : Int32)))).1) k) ?_
      show own_Run p e below _ T49 (mkF m 124 #[.val (.int p1), .val (.int p2), .val (.int (0 : Int32)), .val (.int (1 : Int32)), .val (.ref b35), .val (.int (1 : Int32)), .val (.int (0 : Int32)), .val (.int (0 : Int32)), .val (.int (1 : Int32)), .val (.int (1 : Int32)), .val (.int (1 : Int32))] [])
      refine own_go (fun _ k => XS.iload X49.here hx rfl (hb hby at_124) rfl k) ?_
      refine own_go (fun _ k => XS.iloadN X49.here hx rfl (hb hby at_126) rfl k) ?_
      show own_Run p e below _ T49 (mkF m 127 #[.val (.int p1), .val (.int p2), .val (.int (0 : Int32)), .val (.int (1 : Int32)), .val (.ref b35), .val (.int (1 : Int32)), .val (.int (0 : Int32)), .val (.int (0 : Int32)), .val (.int (1 : Int32)), .val (.int (1 : Int32)), .val (.int (1 : Int32))] [(.int (1 : Int32)), (.int (1 : Int32))])
      refine own_go (fun _ k => XS.icmpNo X49.here hx rfl (hb hby at_127) rfl (teq (by decide : (1 : Int32) = (1 : Int32))).2 k) ?_
      show own_Run p e below _ T49 (mkF m 130 #[.val (.int p1), .val (.int p2), .val (.int (0 : Int32)), .val (.int (1 : Int32)), .val (.ref b35), .val (.int (1 : Int32)), .val (.int (0 : Int32)), .val (.int (0 : Int32)), .val (.int (1 : Int32)), .val (.int (1 : Int32)), .val (.int (1 : Int32))] [])
      refine own_go (fun _ k => XS.iload X49.here hx rfl (hb hby at_130) rfl k) ?_
      refine own_go (fun _ k => XS.iloadN X49.here hx rfl (hb hby at_132) rfl k) ?_
      show own_Run p e below _ T49 (mkF m 133 #[.val (.int p1), .val (.int p2), .val (.int (0 : Int32)), .val (.int (1 : Int32)), .val (.ref b35), .val (.int (1 : Int32)), .val (.int (0 : Int32)), .val (.int (0 : Int32)), .val (.int (1 : Int32)), .val (.int (1 : Int32)), .val (.int (1 : Int32))] [(.int (1 : Int32)), (.int (1 : Int32))])
      refine own_go (fun _ k => XS.icmpNo X49.here hx rfl (hb hby at_133) rfl (teq (by decide : (1 : Int32) = (1 : Int32))).2 k) ?_
      show own_Run p e below _ T49 (mkF m 136 #[.val (.int p1), .val (.int p2), .val (.int (0 : Int32)), .val (.int (1 : Int32)), .val (.ref b35), .val (.int (1 : Int32)), .val (.int (0 : Int32)), .val (.int (0 : Int32)), .val (.int (1 : Int32)), .val (.int (1 : Int32)), .val (.int (1 : Int32))] [])
      refine own_go (fun _ k => XS.iload X49.here hx rfl (hb hby at_136) rfl k) ?_
      refine own_go (fun _ k => XS.iloadN X49.here hx rfl (hb hby at_138) rfl k) ?_
      show own_Run p e below _ T49 (mkF m 139 #[.val (.int p1), .val (.int p2), .val (.int (0 : Int32)), .val (.int (1 : Int32)), .val (.ref b35), .val (.int (1 : Int32)), .val (.int (0 : Int32)), .val (.int (0 : Int32)), .val (.int (1 : Int32)), .val (.int (1 : Int32)), .val (.int (1 : Int32))] [(.int (1 : Int32)), (.int (1 : Int32))])
      refine own_go (fun _ k => XS.icmpNo X49.here hx rfl (hb hby at_139) rfl (teq (by decide : (1 : Int32) = (1 : Int32))).2 k) ?_
      show own_Run p e below _ T49 (mkF m 142 #[.val (.int p1), .val (.int p2), .val (.int (0 : Int32)), .val (.int (1 : Int32)), .val (.ref b35), .val (.int (1 : Int32)), .val (.int (0 : Int32)), .val (.int (0 : Int32)), .val (.int (1 : Int32)), .val (.int (1 : Int32)), .val (.int (1 : Int32))] [])
      refine own_go (fun _ k => XS.aload X49.here hx rfl (hb hby at_142) rfl rfl k) ?_
      show own_Run p e below _ T49 (mkF m 144 #[.val (.int p1), .val (.int p2), .val (.int (0 : Int32)), .val (.int (1 : Int32)), .val (.ref b35), .val (.int (1 : Int32)), .val (.int (0 : Int32)), .val (.int (0 : Int32)), .val (.int (1 : Int32)), .val (.int (1 : Int32)), .val (.int (1 : Int32))] [(.ref b35)])
      obtain ⟨cq50, kq50, q50a, q50b, q50c⟩ := isOf hZ e49 P46_0
      obtain ⟨_, _, ⟨T50, L50, k50, n50⟩, -, X50, ⟨Lc50, hQ50, l50, y50, z50⟩, st50⟩ := X49.virtualBack hx (y := (⟨"com/example/eventail/eventail/DeliveryCount", "begun", "()J"⟩ : MethodName)) (z := (⟨"com/example/eventail/eventail/DeliveryCount", "begun", "()J"⟩ : MethodName)) hown (mvT hZ (W 28 rfl)) (mvT hZ (W 29 rfl)) (notFace_of_selects (args := #[]) (mvT hZ (W 31 rfl))) (mvT hZ (W 31 rfl)) (mvT hZ (W 30 rfl)) (by decide) (backOf (W := 0) (rm6 l Z a0 hw [] b35 (1 : Int64) T46.heap n0 Z0_c47 F_begun_e48) hZ (W 32 rfl) (W 2 rfl) (by decide) (by decide)) q50a q50c (g := (mkF m 144 #[.val (.int p1), .val (.int p2), .val (.int (0 : Int32)), .val (.int (1 : Int32)), .val (.ref b35), .val (.int (1 : Int32)), .val (.int (0 : Int32)), .val (.int (0 : Int32)), .val (.int (1 : Int32)), .val (.int (1 : Int32)), .val (.int (1 : Int32))] [(.ref b35)])) rfl (by rw [hml]; rfl) (Steps.refl _) (argsL := []) (rest := []) (lenOf pd_4 rfl) rfl (by show 2 * 0 + _ ≤ _; exact Nat.le_of_eq rfl) (hb hby at_144) (fun _ _ => ⟨rfl, e49, (by decide : 1 + 0 ≤ _), (by decide : 16 + 0 ≤ _)⟩)
      dsimp only [Pt.U, Pt.locs, Pt.cells, Pt.slots] at X50 l50 y50 z50 st50 hQ50
      subst l50 y50 z50
      obtain ⟨rfl, N50q, e50⟩ := hQ50
      have N50 := Fr.app N49 N50q
      refine own_goT st50 ?_
      show own_Run p e below _ T50 (mkF m 147 #[.val (.int p1), .val (.int p2), .val (.int (0 : Int32)), .val (.int (1 : Int32)), .val (.ref b35), .val (.int (1 : Int32)), .val (.int (0 : Int32)), .val (.int (0 : Int32)), .val (.int (1 : Int32)), .val (.int (1 : Int32)), .val (.int (1 : Int32))] [(.long (1 : Int64))])
      refine own_go (fun _ k => XS.lconst X50.here hx rfl (hb hby at_147) k) ?_
      refine own_go (fun _ k => XS.lcmp X50.here hx rfl (hb hby at_148) rfl k) ?_
      show own_Run p e below _ T50 (mkF m 149 #[.val (.int p1), .val (.int p2), .val (.int (0 : Int32)), .val (.int (1 : Int32)), .val (.ref b35), .val (.int (1 : Int32)), .val (.int (0 : Int32)), .val (.int (0 : Int32)), .val (.int (1 : Int32)), .val (.int (1 : Int32)), .val (.int (1 : Int32))] [(.int (lcmpW (1 : Int64) (1 : Int64)))])
      refine own_go (fun _ k => XS.ifNo X50.here hx rfl (hb hby at_149) rfl (own_lcTe (by decide : (1 : Int64) = (1 : Int64))).2 k) ?_
      show own_Run p e below _ T50 (mkF m 152 #[.val (.int p1), .val (.int p2), .val (.int (0 : Int32)), .val (.int (1 : Int32)), .val (.ref b35), .val (.int (1 : Int32)), .val (.int (0 : Int32)), .val (.int (0 : Int32)), .val (.int (1 : Int32)), .val (.int (1 : Int32)), .val (.int (1 : Int32))] [])
      refine own_go (fun _ k => XS.iconst X50.here hx rfl (hb hby at_152) k) ?_
      refine own_go (fun _ k => XS.goto X50.here hx rfl (pc0 := 153) (pc' := 157) rfl (hb hby at_153) (by decide) (by decide) k) ?_
      refine own_go (fun _ k => XS.istore X50.here hx rfl (hb hby at_157) rfl (l' := #[.val (.int p1), .val (.int p2), .val (.int (0 : Int32)), .val (.int (1 : Int32)), .val (.ref b35), .val (.int (1 : Int32)), .val (.int (0 : Int32)), .val (.int (0 : Int32)), .val (.int (1 : Int32)), .val (.int (1 : Int32)), .val (.int (1 : Int32))]) rfl k) ?_
      refine own_go (fun _ k => XS.iload X50.here hx rfl (hb hby at_159) rfl k) ?_
      show own_Run p e below _ T50 (mkF m 161 #[.val (.int p1), .val (.int p2), .val (.int (0 : Int32)), .val (.int (1 : Int32)), .val (.ref b35), .val (.int (1 : Int32)), .val (.int (0 : Int32)), .val (.int (0 : Int32)), .val (.int (1 : Int32)), .val (.int (1 : Int32)), .val (.int (1 : Int32))] [(.int (1 : Int32))])
      refine own_done (Q := fun v h L => Q0 Z p1 p2 h0 n0 v h L) (v := (some (.int (1 : Int32)))) X50 (fun h => by rw [hret] at h; cases h) hlk (fun fs hr => retN X50 hx (t := .boolean) hret (by simp) (hb hby at_161) hr) ?_ (by decide) (by decide)
      show Q0 Z p1 p2 h0 n0 _ T50.heap _
      rw [e50]
      exact ⟨rfl, N50⟩
  · refine own_go (fun _ k => XS.ifNo X0.here hx rfl (hb hby at_3) rfl ((if0 _ _).trans (feq hc3_17).1) k) ?_
    show own_Run p e below _ s₁ (mkF m 6 #[.val (.int p1), .val (.int p2), .unset, .unset, .unset, .unset, .unset, .unset, .unset, .unset, .unset] [])
    refine own_go (fun _ k => XS.iconst X0.here hx rfl (hb hby at_6) k) ?_
    refine own_go (fun _ k => XS.goto X0.here hx rfl (pc0 := 7) (pc' := 11) rfl (hb hby at_7) (by decide) (by decide) k) ?_
    refine own_go (fun _ k => XS.istoreN X0.here hx rfl (hb hby at_11) rfl (l' := #[.val (.int p1), .val (.int p2), .val (.int (1 : Int32)), .unset, .unset, .unset, .unset, .unset, .unset, .unset, .unset]) rfl k) ?_
    refine own_go (fun _ k => XS.iloadN X0.here hx rfl (hb hby at_12) rfl k) ?_
    show own_Run p e below _ s₁ (mkF m 13 #[.val (.int p1), .val (.int p2), .val (.int (1 : Int32)), .unset, .unset, .unset, .unset, .unset, .unset, .unset, .unset] [(.int p2)])
    refine own_go (fun _ k => XS.iconst X0.here hx rfl (hb hby at_13) k) ?_
    refine own_go (fun _ k => XS.iand X0.here hx rfl (hb hby at_14) rfl k) ?_
    show own_Run p e below _ s₁ (mkF m 15 #[.val (.int p1), .val (.int p2), .val (.int (1 : Int32)), .unset, .unset, .unset, .unset, .unset, .unset, .unset, .unset] [(.int (p2 &&& (1 : Int32)))])
    by_cases hc15_51 : (p2 &&& (1 : Int32)) = (0 : Int32)
    · refine own_go (fun _ k => XS.ifYes X0.here hx rfl (pc0 := 15) (pc' := 22) rfl (hb hby at_15) rfl ((if0 _ _).trans (teq hc15_51).1) (by decide) (by decide) k) ?_
      show own_Run p e below _ s₁ (mkF m 22 #[.val (.int p1), .val (.int p2), .val (.int (1 : Int32)), .unset, .unset, .unset, .unset, .unset, .unset, .unset, .unset] [])
      refine own_go (fun _ k => XS.iconst X0.here hx rfl (hb hby at_22) k) ?_
      refine own_go (fun _ k => XS.istoreN X0.here hx rfl (hb hby at_23) rfl (l' := #[.val (.int p1), .val (.int p2), .val (.int (1 : Int32)), .val (.int (0 : Int32)), .unset, .unset, .unset, .unset, .unset, .unset, .unset]) rfl k) ?_
      show own_Run p e below _ s₁ (mkF m 24 #[.val (.int p1), .val (.int p2), .val (.int (1 : Int32)), .val (.int (0 : Int32)), .unset, .unset, .unset, .unset, .unset, .unset, .unset] [])
      obtain ⟨T52, h52, X52, e52, E52, A52, D52, -, st52⟩ := newO X0 hx hZ hown (W 0 rfl) (W 1 rfl) (W 2 rfl) e0 (g := (mkF m 24 #[.val (.int p1), .val (.int p2), .val (.int (1 : Int32)), .val (.int (0 : Int32)), .unset, .unset, .unset, .unset, .unset, .unset, .unset] [])) rfl (hb hby at_24) (by decide) (by decide)
      refine own_go st52 ?_
      obtain ⟨b52, g52⟩ : ∃ z, z = h0.size := ⟨_, rfl⟩
      rw [← g52] at A52 D52
      rw [← g52]
      show own_Run p e below _ T52 (mkF m 27 #[.val (.int p1), .val (.int p2), .val (.int (1 : Int32)), .val (.int (0 : Int32)), .unset, .unset, .unset, .unset, .unset, .unset, .unset] [(.ref b52)])
      have g_b52 : n0 ≤ b52 := Nat.le_trans Z0 (Nat.le_of_eq g52.symm)
      have sz_b52 : h0.size ≤ b52 := Nat.le_trans K0.1 (Nat.le_of_eq g52.symm)
      have Z0_c53 := Nat.le_trans Z0 E52.1
      have K0_c53 := K0.ext E52
      have F_roomWanted_b52 : Fld Z h52 b52 "com/example/eventail/eventail/DeliveryCount" "roomWanted" "J" (.long (0 : Int64)) := D52 (Or.inl (W 15 rfl)) (ty := .long) (by decide)
      have F_begun_b52 : Fld Z h52 b52 "com/example/eventail/eventail/DeliveryCount" "begun" "J" (.long (0 : Int64)) := D52 (Or.inl (W 27 rfl)) (ty := .long) (by decide)
      refine own_go (fun _ k => XS.dup X52.here hx rfl (hb hby at_27) rfl rfl k) ?_
      show own_Run p e below _ T52 (mkF m 28 #[.val (.int p1), .val (.int p2), .val (.int (1 : Int32)), .val (.int (0 : Int32)), .unset, .unset, .unset, .unset, .unset, .unset, .unset] [(.ref b52), (.ref b52)])
      obtain ⟨_, _, ⟨T54, L54, k54, n54⟩, -, X54, ⟨Lc54, hQ54, l54, y54, z54⟩, st54⟩ := X52.specialBack hx (y := (⟨"com/example/eventail/eventail/DeliveryCount", "<init>", "()V"⟩ : MethodName)) rfl hown (mvT hZ (W 3 rfl)) (mvT hZ (W 4 rfl)) (mvT hZ (W 5 rfl)) (by decide) (backOf (W := 1) (rm1 l Z a0 hw [] b52 h52 n0 Z0_c53 ) hZ (W 5 rfl) (W 2 rfl) (by decide) (by decide)) (g := (mkF m 28 #[.val (.int p1), .val (.int p2), .val (.int (1 : Int32)), .val (.int (0 : Int32)), .unset, .unset, .unset, .unset, .unset, .unset, .unset] [(.ref b52), (.ref b52)])) rfl (by rw [hml]; rfl) (Steps.refl _) (a := b52) (argsL := []) (rest := [(.ref b52)]) (lenOf pd_1 rfl) rfl (by show 2 * 0 + _ ≤ _; exact Nat.le_of_eq rfl) (hb hby at_28) (fun _ _ => ⟨rfl, e52, (by decide : 1 + 0 ≤ _), (by decide : 16 + 0 ≤ _)⟩)
      dsimp only [Pt.U, Pt.locs, Pt.cells, Pt.slots] at X54 l54 y54 z54 st54 hQ54
      subst l54 y54 z54
      obtain ⟨rfl, N54q, e54⟩ := hQ54
      have N54 := Fr.app N0 N54q
      refine own_goT st54 ?_
      show own_Run p e below _ T54 (mkF m 31 #[.val (.int p1), .val (.int p2), .val (.int (1 : Int32)), .val (.int (0 : Int32)), .unset, .unset, .unset, .unset, .unset, .unset, .unset] [(.ref b52)])
      refine own_go (fun _ k => XS.astore X54.here hx rfl (hb hby at_31) rfl rfl (l' := #[.val (.int p1), .val (.int p2), .val (.int (1 : Int32)), .val (.int (0 : Int32)), .val (.ref b52), .unset, .unset, .unset, .unset, .unset, .unset]) rfl k) ?_
      refine own_go (fun _ k => XS.aload X54.here hx rfl (hb hby at_33) rfl rfl k) ?_
      show own_Run p e below _ T54 (mkF m 35 #[.val (.int p1), .val (.int p2), .val (.int (1 : Int32)), .val (.int (0 : Int32)), .val (.ref b52), .unset, .unset, .unset, .unset, .unset, .unset] [(.ref b52)])
      obtain ⟨cq55, kq55, q55a, q55b, q55c⟩ := isOf hZ e54 A52
      obtain ⟨_, _, ⟨T55, L55, k55, n55⟩, -, X55, ⟨Lc55, hQ55, l55, y55, z55⟩, st55⟩ := X54.virtualBack hx (y := (⟨"com/example/eventail/eventail/DeliveryCount", "isRoomWanted", "()Z"⟩ : MethodName)) (z := (⟨"com/example/eventail/eventail/DeliveryCount", "isRoomWanted", "()Z"⟩ : MethodName)) hown (mvT hZ (W 9 rfl)) (mvT hZ (W 10 rfl)) (notFace_of_selects (args := #[]) (mvT hZ (W 12 rfl))) (mvT hZ (W 12 rfl)) (mvT hZ (W 11 rfl)) (by decide) (backOf (W := 0) (rm3 l Z a0 hw [] b52 (0 : Int64) (0 : Int32) h52 n0 Z0_c53 F_roomWanted_b52 (Or.inl ⟨rfl, rfl⟩)) hZ (W 13 rfl) (W 2 rfl) (by decide) (by decide)) q55a q55c (g := (mkF m 35 #[.val (.int p1), .val (.int p2), .val (.int (1 : Int32)), .val (.int (0 : Int32)), .val (.ref b52), .unset, .unset, .unset, .unset, .unset, .unset] [(.ref b52)])) rfl (by rw [hml]; rfl) (Steps.refl _) (argsL := []) (rest := []) (lenOf pd_2 rfl) rfl (by show 2 * 0 + _ ≤ _; exact Nat.le_of_eq rfl) (hb hby at_35) (fun _ _ => ⟨rfl, e54, (by decide : 1 + 0 ≤ _), (by decide : 16 + 0 ≤ _)⟩)
      dsimp only [Pt.U, Pt.locs, Pt.cells, Pt.slots] at X55 l55 y55 z55 st55 hQ55
      subst l55 y55 z55
      obtain ⟨rfl, N55q, e55⟩ := hQ55
      have N55 := Fr.app N54 N55q
      refine own_goT st55 ?_
      show own_Run p e below _ T55 (mkF m 38 #[.val (.int p1), .val (.int p2), .val (.int (1 : Int32)), .val (.int (0 : Int32)), .val (.ref b52), .unset, .unset, .unset, .unset, .unset, .unset] [(.int (0 : Int32))])
      refine own_go (fun _ k => XS.ifNo X55.here hx rfl (hb hby at_38) rfl ((if0 _ _).trans (teq (by decide : (0 : Int32) = (0 : Int32))).2) k) ?_
      show own_Run p e below _ T55 (mkF m 41 #[.val (.int p1), .val (.int p2), .val (.int (1 : Int32)), .val (.int (0 : Int32)), .val (.ref b52), .unset, .unset, .unset, .unset, .unset, .unset] [])
      refine own_go (fun _ k => XS.iconst X55.here hx rfl (hb hby at_41) k) ?_
      refine own_go (fun _ k => XS.goto X55.here hx rfl (pc0 := 42) (pc' := 46) rfl (hb hby at_42) (by decide) (by decide) k) ?_
      refine own_go (fun _ k => XS.istore X55.here hx rfl (hb hby at_46) rfl (l' := #[.val (.int p1), .val (.int p2), .val (.int (1 : Int32)), .val (.int (0 : Int32)), .val (.ref b52), .val (.int (1 : Int32)), .unset, .unset, .unset, .unset, .unset]) rfl k) ?_
      refine own_go (fun _ k => XS.aload X55.here hx rfl (hb hby at_48) rfl rfl k) ?_
      show own_Run p e below _ T55 (mkF m 50 #[.val (.int p1), .val (.int p2), .val (.int (1 : Int32)), .val (.int (0 : Int32)), .val (.ref b52), .val (.int (1 : Int32)), .unset, .unset, .unset, .unset, .unset] [(.ref b52)])
      refine own_go (fun _ k => XS.iloadN X55.here hx rfl (hb hby at_50) rfl k) ?_
      show own_Run p e below _ T55 (mkF m 51 #[.val (.int p1), .val (.int p2), .val (.int (1 : Int32)), .val (.int (0 : Int32)), .val (.ref b52), .val (.int (1 : Int32)), .unset, .unset, .unset, .unset, .unset] [(.int (1 : Int32)), (.ref b52)])
      obtain ⟨cq56, kq56, q56a, q56b, q56c⟩ := isOf hZ e55 A52
      obtain ⟨_, _, ⟨T56, L56, k56, n56⟩, -, X56, ⟨Lc56, hQ56, l56, y56, z56⟩, st56⟩ := X55.virtualBack hx (y := (⟨"com/example/eventail/eventail/DeliveryCount", "setRoomWanted", "(Z)V"⟩ : MethodName)) (z := (⟨"com/example/eventail/eventail/DeliveryCount", "setRoomWanted", "(Z)V"⟩ : MethodName)) hown (mvT hZ (W 16 rfl)) (mvT hZ (W 17 rfl)) (notFace_of_selects (args := #[]) (mvT hZ (W 19 rfl))) (mvT hZ (W 19 rfl)) (mvT hZ (W 18 rfl)) (by decide) (backOf (W := 0) (rm4 l Z a0 hw [] b52 (1 : Int32) (0 : Int64) (1 : Int64) (0 : Int64) h52 n0 Z0_c53 A52 F_roomWanted_b52 F_begun_b52 g_b52 (Or.inr ⟨rfl, rfl⟩)) hZ (W 20 rfl) (W 2 rfl) (by decide) (by decide)) q56a q56c (g := (mkF m 51 #[.val (.int p1), .val (.int p2), .val (.int (1 : Int32)), .val (.int (0 : Int32)), .val (.ref b52), .val (.int (1 : Int32)), .unset, .unset, .unset, .unset, .unset] [(.int (1 : Int32)), (.ref b52)])) rfl (by rw [hml]; rfl) (Steps.refl _) (argsL := [(.int (1 : Int32))]) (rest := []) (lenOf pd_3 rfl) rfl (by show 2 * 0 + _ ≤ _; exact Nat.le_of_eq rfl) (hb hby at_51) (fun _ _ => ⟨rfl, e55, (by decide : 1 + 0 ≤ _), (by decide : 16 + 0 ≤ _)⟩)
      dsimp only [Pt.U, Pt.locs, Pt.cells, Pt.slots] at X56 l56 y56 z56 st56 hQ56
      subst l56 y56 z56
      obtain ⟨rfl, N56q, K56, P56_0, P56_1, P56_2⟩ := hQ56
      have N56 := Fr.app N55 N56q
      refine own_goT st56 ?_
      show own_Run p e below _ T56 (mkF m 54 #[.val (.int p1), .val (.int p2), .val (.int (1 : Int32)), .val (.int (0 : Int32)), .val (.ref b52), .val (.int (1 : Int32)), .unset, .unset, .unset, .unset, .unset] [])
      have Z0_c57 := Nat.le_trans Z0_c53 K56.1
      have K0_c57 := K0_c53.trans K56 (allS (Or.inr sz_b52) all0)
      have A52_c57 := A52.keep K56
      refine own_go (fun _ k => XS.aload X56.here hx rfl (hb hby at_54) rfl rfl k) ?_
      show own_Run p e below _ T56 (mkF m 56 #[.val (.int p1), .val (.int p2), .val (.int (1 : Int32)), .val (.int (0 : Int32)), .val (.ref b52), .val (.int (1 : Int32)), .unset, .unset, .unset, .unset, .unset] [(.ref b52)])
      obtain ⟨cq58, kq58, q58a, q58b, q58c⟩ := isOf hZ rfl P56_0
      obtain ⟨_, _, ⟨T58, L58, k58, n58⟩, -, X58, ⟨Lc58, hQ58, l58, y58, z58⟩, st58⟩ := X56.virtualBack hx (y := (⟨"com/example/eventail/eventail/DeliveryCount", "isRoomWanted", "()Z"⟩ : MethodName)) (z := (⟨"com/example/eventail/eventail/DeliveryCount", "isRoomWanted", "()Z"⟩ : MethodName)) hown (mvT hZ (W 9 rfl)) (mvT hZ (W 10 rfl)) (notFace_of_selects (args := #[]) (mvT hZ (W 12 rfl))) (mvT hZ (W 12 rfl)) (mvT hZ (W 11 rfl)) (by decide) (backOf (W := 0) (rm3 l Z a0 hw [] b52 (1 : Int64) (1 : Int32) T56.heap n0 Z0_c57 P56_1 (Or.inr ⟨rfl, rfl⟩)) hZ (W 13 rfl) (W 2 rfl) (by decide) (by decide)) q58a q58c (g := (mkF m 56 #[.val (.int p1), .val (.int p2), .val (.int (1 : Int32)), .val (.int (0 : Int32)), .val (.ref b52), .val (.int (1 : Int32)), .unset, .unset, .unset, .unset, .unset] [(.ref b52)])) rfl (by rw [hml]; rfl) (Steps.refl _) (argsL := []) (rest := []) (lenOf pd_2 rfl) rfl (by show 2 * 0 + _ ≤ _; exact Nat.le_of_eq rfl) (hb hby at_56) (fun _ _ => ⟨rfl, rfl, (by decide : 1 + 0 ≤ _), (by decide : 16 + 0 ≤ _)⟩)
      dsimp only [Pt.U, Pt.locs, Pt.cells, Pt.slots] at X58 l58 y58 z58 st58 hQ58
      subst l58 y58 z58
      obtain ⟨rfl, N58q, e58⟩ := hQ58
      have N58 := Fr.app N56 N58q
      refine own_goT st58 ?_
      show own_Run p e below _ T58 (mkF m 59 #[.val (.int p1), .val (.int p2), .val (.int (1 : Int32)), .val (.int (0 : Int32)), .val (.ref b52), .val (.int (1 : Int32)), .unset, .unset, .unset, .unset, .unset] [(.int (1 : Int32))])
      refine own_go (fun _ k => XS.istore X58.here hx rfl (hb hby at_59) rfl (l' := #[.val (.int p1), .val (.int p2), .val (.int (1 : Int32)), .val (.int (0 : Int32)), .val (.ref b52), .val (.int (1 : Int32)), .val (.int (1 : Int32)), .unset, .unset, .unset, .unset]) rfl k) ?_
      refine own_go (fun _ k => XS.aload X58.here hx rfl (hb hby at_61) rfl rfl k) ?_
      show own_Run p e below _ T58 (mkF m 63 #[.val (.int p1), .val (.int p2), .val (.int (1 : Int32)), .val (.int (0 : Int32)), .val (.ref b52), .val (.int (1 : Int32)), .val (.int (1 : Int32)), .unset, .unset, .unset, .unset] [(.ref b52)])
      obtain ⟨cq59, kq59, q59a, q59b, q59c⟩ := isOf hZ e58 P56_0
      obtain ⟨_, _, ⟨T59, L59, k59, n59⟩, -, X59, ⟨Lc59, hQ59, l59, y59, z59⟩, st59⟩ := X58.virtualBack hx (y := (⟨"com/example/eventail/eventail/DeliveryCount", "isRoomWanted", "()Z"⟩ : MethodName)) (z := (⟨"com/example/eventail/eventail/DeliveryCount", "isRoomWanted", "()Z"⟩ : MethodName)) hown (mvT hZ (W 9 rfl)) (mvT hZ (W 10 rfl)) (notFace_of_selects (args := #[]) (mvT hZ (W 12 rfl))) (mvT hZ (W 12 rfl)) (mvT hZ (W 11 rfl)) (by decide) (backOf (W := 0) (rm3 l Z a0 hw [] b52 (1 : Int64) (1 : Int32) T56.heap n0 Z0_c57 P56_1 (Or.inr ⟨rfl, rfl⟩)) hZ (W 13 rfl) (W 2 rfl) (by decide) (by decide)) q59a q59c (g := (mkF m 63 #[.val (.int p1), .val (.int p2), .val (.int (1 : Int32)), .val (.int (0 : Int32)), .val (.ref b52), .val (.int (1 : Int32)), .val (.int (1 : Int32)), .unset, .unset, .unset, .unset] [(.ref b52)])) rfl (by rw [hml]; rfl) (Steps.refl _) (argsL := []) (rest := []) (lenOf pd_2 rfl) rfl (by show 2 * 0 + _ ≤ _; exact Nat.le_of_eq rfl) (hb hby at_63) (fun _ _ => ⟨rfl, e58, (by decide : 1 + 0 ≤ _), (by decide : 16 + 0 ≤ _)⟩)
      dsimp only [Pt.U, Pt.locs, Pt.cells, Pt.slots] at X59 l59 y59 z59 st59 hQ59
      subst l59 y59 z59
      obtain ⟨rfl, N59q, e59⟩ := hQ59
      have N59 := Fr.app N58 N59q
      refine own_goT st59 ?_
      show own_Run p e below _ T59 (mkF m 66 #[.val (.int p1), .val (.int p2), .val (.int (1 : Int32)), .val (.int (0 : Int32)), .val (.ref b52), .val (.int (1 : Int32)), .val (.int (1 : Int32)), .unset, .unset, .unset, .unset] [(.int (1 : Int32))])
      refine own_go (fun _ k => XS.istore X59.here hx rfl (hb hby at_66) rfl (l' := #[.val (.int p1), .val (.int p2), .val (.int (1 : Int32)), .val (.int (0 : Int32)), .val (.ref b52), .val (.int (1 : Int32)), .val (.int (1 : Int32)), .val (.int (1 : Int32)), .unset, .unset, .unset]) rfl k) ?_
      refine own_go (fun _ k => XS.iload X59.here hx rfl (hb hby at_68) rfl k) ?_
      show own_Run p e below _ T59 (mkF m 70 #[.val (.int p1), .val (.int p2), .val (.int (1 : Int32)), .val (.int (0 : Int32)), .val (.ref b52), .val (.int (1 : Int32)), .val (.int (1 : Int32)), .val (.int (1 : Int32)), .unset, .unset, .unset] [(.int (1 : Int32))])
      refine own_go (fun _ k => XS.ifNo X59.here hx rfl (hb hby at_70) rfl ((if0 _ _).trans (feq (by decide : ¬ ((1 : Int32) = (0 : Int32)))).1) k) ?_
      show own_Run p e below _ T59 (mkF m 73 #[.val (.int p1), .val (.int p2), .val (.int (1 : Int32)), .val (.int (0 : Int32)), .val (.ref b52), .val (.int (1 : Int32)), .val (.int (1 : Int32)), .val (.int (1 : Int32)), .unset, .unset, .unset] [])
      refine own_go (fun _ k => XS.iload X59.here hx rfl (hb hby at_73) rfl k) ?_
      refine own_go (fun _ k => XS.iloadN X59.here hx rfl (hb hby at_75) rfl k) ?_
      show own_Run p e below _ T59 (mkF m 76 #[.val (.int p1), .val (.int p2), .val (.int (1 : Int32)), .val (.int (0 : Int32)), .val (.ref b52), .val (.int (1 : Int32)), .val (.int (1 : Int32)), .val (.int (1 : Int32)), .unset, .unset, .unset] [(.int (1 : Int32)), (.int (1 : Int32))])
      refine own_go (fun _ k => XS.icmpNo X59.here hx rfl (hb hby at_76) rfl (teq (by decide : (1 : Int32) = (1 : Int32))).2 k) ?_
      show own_Run p e below _ T59 (mkF m 79 #[.val (.int p1), .val (.int p2), .val (.int (1 : Int32)), .val (.int (0 : Int32)), .val (.ref b52), .val (.int (1 : Int32)), .val (.int (1 : Int32)), .val (.int (1 : Int32)), .unset, .unset, .unset] [])
      refine own_go (fun _ k => XS.iload X59.here hx rfl (hb hby at_79) rfl k) ?_
      refine own_go (fun _ k => XS.iloadN X59.here hx rfl (hb hby at_81) rfl k) ?_
      show own_Run p e below _ T59 (mkF m 82 #[.val (.int p1), .val (.int p2), .val (.int (1 : Int32)), .val (.int (0 : Int32)), .val (.ref b52), .val (.int (1 : Int32)), .val (.int (1 : Int32)), .val (.int (1 : Int32)), .unset, .unset, .unset] [(.int (1 : Int32)), (.int (1 : Int32))])
      refine own_go (fun _ k => XS.icmpNo X59.here hx rfl (hb hby at_82) rfl (teq (by decide : (1 : Int32) = (1 : Int32))).2 k) ?_
      show own_Run p e below _ T59 (mkF m 85 #[.val (.int p1), .val (.int p2), .val (.int (1 : Int32)), .val (.int (0 : Int32)), .val (.ref b52), .val (.int (1 : Int32)), .val (.int (1 : Int32)), .val (.int (1 : Int32)), .unset, .unset, .unset] [])
      refine own_go (fun _ k => XS.iconst X59.here hx rfl (hb hby at_85) k) ?_
      refine own_go (fun _ k => XS.goto X59.here hx rfl (pc0 := 86) (pc' := 90) rfl (hb hby at_86) (by decide) (by decide) k) ?_
      refine own_go (fun _ k => XS.istore X59.here hx rfl (hb hby at_90) rfl (l' := #[.val (.int p1), .val (.int p2), .val (.int (1 : Int32)), .val (.int (0 : Int32)), .val (.ref b52), .val (.int (1 : Int32)), .val (.int (1 : Int32)), .val (.int (1 : Int32)), .unset, .unset, .unset]) rfl k) ?_
      refine own_go (fun _ k => XS.aload X59.here hx rfl (hb hby at_92) rfl rfl k) ?_
      show own_Run p e below _ T59 (mkF m 94 #[.val (.int p1), .val (.int p2), .val (.int (1 : Int32)), .val (.int (0 : Int32)), .val (.ref b52), .val (.int (1 : Int32)), .val (.int (1 : Int32)), .val (.int (1 : Int32)), .unset, .unset, .unset] [(.ref b52)])
      refine own_go (fun _ k => XS.iloadN X59.here hx rfl (hb hby at_94) rfl k) ?_
      show own_Run p e below _ T59 (mkF m 95 #[.val (.int p1), .val (.int p2), .val (.int (1 : Int32)), .val (.int (0 : Int32)), .val (.ref b52), .val (.int (1 : Int32)), .val (.int (1 : Int32)), .val (.int (1 : Int32)), .unset, .unset, .unset] [(.int (0 : Int32)), (.ref b52)])
      obtain ⟨cq60, kq60, q60a, q60b, q60c⟩ := isOf hZ e59 P56_0
      obtain ⟨_, _, ⟨T60, L60, k60, n60⟩, -, X60, ⟨Lc60, hQ60, l60, y60, z60⟩, st60⟩ := X59.virtualBack hx (y := (⟨"com/example/eventail/eventail/DeliveryCount", "setRoomWanted", "(Z)V"⟩ : MethodName)) (z := (⟨"com/example/eventail/eventail/DeliveryCount", "setRoomWanted", "(Z)V"⟩ : MethodName)) hown (mvT hZ (W 16 rfl)) (mvT hZ (W 17 rfl)) (notFace_of_selects (args := #[]) (mvT hZ (W 19 rfl))) (mvT hZ (W 19 rfl)) (mvT hZ (W 18 rfl)) (by decide) (backOf (W := 0) (rm4 l Z a0 hw [] b52 (0 : Int32) (1 : Int64) (0 : Int64) (0 : Int64) T56.heap n0 Z0_c57 P56_0 P56_1 P56_2 g_b52 (Or.inl ⟨rfl, rfl⟩)) hZ (W 20 rfl) (W 2 rfl) (by decide) (by decide)) q60a q60c (g := (mkF m 95 #[.val (.int p1), .val (.int p2), .val (.int (1 : Int32)), .val (.int (0 : Int32)), .val (.ref b52), .val (.int (1 : Int32)), .val (.int (1 : Int32)), .val (.int (1 : Int32)), .unset, .unset, .unset] [(.int (0 : Int32)), (.ref b52)])) rfl (by rw [hml]; rfl) (Steps.refl _) (argsL := [(.int (0 : Int32))]) (rest := []) (lenOf pd_3 rfl) rfl (by show 2 * 0 + _ ≤ _; exact Nat.le_of_eq rfl) (hb hby at_95) (fun _ _ => ⟨rfl, e59, (by decide : 1 + 0 ≤ _), (by decide : 16 + 0 ≤ _)⟩)
      dsimp only [Pt.U, Pt.locs, Pt.cells, Pt.slots] at X60 l60 y60 z60 st60 hQ60
      subst l60 y60 z60
      obtain ⟨rfl, N60q, K60, P60_0, P60_1, P60_2⟩ := hQ60
      have N60 := Fr.app N59 N60q
      refine own_goT st60 ?_
      show own_Run p e below _ T60 (mkF m 98 #[.val (.int p1), .val (.int p2), .val (.int (1 : Int32)), .val (.int (0 : Int32)), .val (.ref b52), .val (.int (1 : Int32)), .val (.int (1 : Int32)), .val (.int (1 : Int32)), .unset, .unset, .unset] [])
      have Z0_c61 := Nat.le_trans Z0_c57 K60.1
      have K0_c61 := K0_c57.trans K60 (allS (Or.inr sz_b52) all0)
      have P56_0_c61 := P56_0.keep K60
      refine own_go (fun _ k => XS.aload X60.here hx rfl (hb hby at_98) rfl rfl k) ?_
      show own_Run p e below _ T60 (mkF m 100 #[.val (.int p1), .val (.int p2), .val (.int (1 : Int32)), .val (.int (0 : Int32)), .val (.ref b52), .val (.int (1 : Int32)), .val (.int (1 : Int32)), .val (.int (1 : Int32)), .unset, .unset, .unset] [(.ref b52)])
      obtain ⟨cq62, kq62, q62a, q62b, q62c⟩ := isOf hZ rfl P60_0
      obtain ⟨_, _, ⟨T62, L62, k62, n62⟩, -, X62, ⟨Lc62, hQ62, l62, y62, z62⟩, st62⟩ := X60.virtualBack hx (y := (⟨"com/example/eventail/eventail/DeliveryCount", "isRoomWanted", "()Z"⟩ : MethodName)) (z := (⟨"com/example/eventail/eventail/DeliveryCount", "isRoomWanted", "()Z"⟩ : MethodName)) hown (mvT hZ (W 9 rfl)) (mvT hZ (W 10 rfl)) (notFace_of_selects (args := #[]) (mvT hZ (W 12 rfl))) (mvT hZ (W 12 rfl)) (mvT hZ (W 11 rfl)) (by decide) (backOf (W := 0) (rm3 l Z a0 hw [] b52 (0 : Int64) (0 : Int32) T60.heap n0 Z0_c61 P60_1 (Or.inl ⟨rfl, rfl⟩)) hZ (W 13 rfl) (W 2 rfl) (by decide) (by decide)) q62a q62c (g := (mkF m 100 #[.val (.int p1), .val (.int p2), .val (.int (1 : Int32)), .val (.int (0 : Int32)), .val (.ref b52), .val (.int (1 : Int32)), .val (.int (1 : Int32)), .val (.int (1 : Int32)), .unset, .unset, .unset] [(.ref b52)])) rfl (by rw [hml]; rfl) (Steps.refl _) (argsL := []) (rest := []) (lenOf pd_2 rfl) rfl (by show 2 * 0 + _ ≤ _; exact Nat.le_of_eq rfl) (hb hby at_100) (fun _ _ => ⟨rfl, rfl, (by decide : 1 + 0 ≤ _), (by decide : 16 + 0 ≤ _)⟩)
      dsimp only [Pt.U, Pt.locs, Pt.cells, Pt.slots] at X62 l62 y62 z62 st62 hQ62
      subst l62 y62 z62
      obtain ⟨rfl, N62q, e62⟩ := hQ62
      have N62 := Fr.app N60 N62q
      refine own_goT st62 ?_
      show own_Run p e below _ T62 (mkF m 103 #[.val (.int p1), .val (.int p2), .val (.int (1 : Int32)), .val (.int (0 : Int32)), .val (.ref b52), .val (.int (1 : Int32)), .val (.int (1 : Int32)), .val (.int (1 : Int32)), .unset, .unset, .unset] [(.int (0 : Int32))])
      refine own_go (fun _ k => XS.istore X62.here hx rfl (hb hby at_103) rfl (l' := #[.val (.int p1), .val (.int p2), .val (.int (1 : Int32)), .val (.int (0 : Int32)), .val (.ref b52), .val (.int (1 : Int32)), .val (.int (1 : Int32)), .val (.int (1 : Int32)), .val (.int (0 : Int32)), .unset, .unset]) rfl k) ?_
      refine own_go (fun _ k => XS.aload X62.here hx rfl (hb hby at_105) rfl rfl k) ?_
      show own_Run p e below _ T62 (mkF m 107 #[.val (.int p1), .val (.int p2), .val (.int (1 : Int32)), .val (.int (0 : Int32)), .val (.ref b52), .val (.int (1 : Int32)), .val (.int (1 : Int32)), .val (.int (1 : Int32)), .val (.int (0 : Int32)), .unset, .unset] [(.ref b52)])
      obtain ⟨cq63, kq63, q63a, q63b, q63c⟩ := isOf hZ e62 P60_0
      obtain ⟨_, _, ⟨T63, L63, k63, n63⟩, -, X63, ⟨Lc63, hQ63, l63, y63, z63⟩, st63⟩ := X62.virtualBack hx (y := (⟨"com/example/eventail/eventail/DeliveryCount", "deliveryBegins", "()Z"⟩ : MethodName)) (z := (⟨"com/example/eventail/eventail/DeliveryCount", "deliveryBegins", "()Z"⟩ : MethodName)) hown (mvT hZ (W 21 rfl)) (mvT hZ (W 22 rfl)) (notFace_of_selects (args := #[]) (mvT hZ (W 24 rfl))) (mvT hZ (W 24 rfl)) (mvT hZ (W 23 rfl)) (by decide) (backOf (W := 0) (rm5 l Z a0 hw [] b52 (0 : Int64) (0 : Int32) (0 : Int64) T60.heap n0 Z0_c61 P60_0 P60_1 P60_2 g_b52 (Or.inl ⟨rfl, rfl⟩)) hZ (W 25 rfl) (W 2 rfl) (by decide) (by decide)) q63a q63c (g := (mkF m 107 #[.val (.int p1), .val (.int p2), .val (.int (1 : Int32)), .val (.int (0 : Int32)), .val (.ref b52), .val (.int (1 : Int32)), .val (.int (1 : Int32)), .val (.int (1 : Int32)), .val (.int (0 : Int32)), .unset, .unset] [(.ref b52)])) rfl (by rw [hml]; rfl) (Steps.refl _) (argsL := []) (rest := []) (lenOf pd_2 rfl) rfl (by show 2 * 0 + _ ≤ _; exact Nat.le_of_eq rfl) (hb hby at_107) (fun _ _ => ⟨rfl, e62, (by decide : 1 + 0 ≤ _), (by decide : 16 + 0 ≤ _)⟩)
      dsimp only [Pt.U, Pt.locs, Pt.cells, Pt.slots] at X63 l63 y63 z63 st63 hQ63
      subst l63 y63 z63
      obtain ⟨rfl, N63q, K63, P63_0, P63_1, P63_2⟩ := hQ63
      have N63 := Fr.app N62 N63q
      refine own_goT st63 ?_
      show own_Run p e below _ T63 (mkF m 110 #[.val (.int p1), .val (.int p2), .val (.int (1 : Int32)), .val (.int (0 : Int32)), .val (.ref b52), .val (.int (1 : Int32)), .val (.int (1 : Int32)), .val (.int (1 : Int32)), .val (.int (0 : Int32)), .unset, .unset] [(.int (0 : Int32))])
      have Z0_c64 := Nat.le_trans Z0_c61 K63.1
      have K0_c64 := K0_c61.trans K63 (allS (Or.inr sz_b52) all0)
      have P60_0_c64 := P60_0.keep K63
      have F_begun_e65 : Fld Z T63.heap b52 "com/example/eventail/eventail/DeliveryCount" "begun" "J" (.long (1 : Int64)) := P63_2
      refine own_go (fun _ k => XS.istore X63.here hx rfl (hb hby at_110) rfl (l' := #[.val (.int p1), .val (.int p2), .val (.int (1 : Int32)), .val (.int (0 : Int32)), .val (.ref b52), .val (.int (1 : Int32)), .val (.int (1 : Int32)), .val (.int (1 : Int32)), .val (.int (0 : Int32)), .val (.int (0 : Int32)), .unset]) rfl k) ?_
      refine own_go (fun _ k => XS.aload X63.here hx rfl (hb hby at_112) rfl rfl k) ?_
      show own_Run p e below _ T63 (mkF m 114 #[.val (.int p1), .val (.int p2), .val (.int (1 : Int32)), .val (.int (0 : Int32)), .val (.ref b52), .val (.int (1 : Int32)), .val (.int (1 : Int32)), .val (.int (1 : Int32)), .val (.int (0 : Int32)), .val (.int (0 : Int32)), .unset] [(.ref b52)])
      obtain ⟨cq66, kq66, q66a, q66b, q66c⟩ := isOf hZ rfl P63_0
      obtain ⟨_, _, ⟨T66, L66, k66, n66⟩, -, X66, ⟨Lc66, hQ66, l66, y66, z66⟩, st66⟩ := X63.virtualBack hx (y := (⟨"com/example/eventail/eventail/DeliveryCount", "isRoomWanted", "()Z"⟩ : MethodName)) (z := (⟨"com/example/eventail/eventail/DeliveryCount", "isRoomWanted", "()Z"⟩ : MethodName)) hown (mvT hZ (W 9 rfl)) (mvT hZ (W 10 rfl)) (notFace_of_selects (args := #[]) (mvT hZ (W 12 rfl))) (mvT hZ (W 12 rfl)) (mvT hZ (W 11 rfl)) (by decide) (backOf (W := 0) (rm3 l Z a0 hw [] b52 (0 : Int64) (0 : Int32) T63.heap n0 Z0_c64 P63_1 (Or.inl ⟨rfl, rfl⟩)) hZ (W 13 rfl) (W 2 rfl) (by decide) (by decide)) q66a q66c (g := (mkF m 114 #[.val (.int p1), .val (.int p2), .val (.int (1 : Int32)), .val (.int (0 : Int32)), .val (.ref b52), .val (.int (1 : Int32)), .val (.int (1 : Int32)), .val (.int (1 : Int32)), .val (.int (0 : Int32)), .val (.int (0 : Int32)), .unset] [(.ref b52)])) rfl (by rw [hml]; rfl) (Steps.refl _) (argsL := []) (rest := []) (lenOf pd_2 rfl) rfl (by show 2 * 0 + _ ≤ _; exact Nat.le_of_eq rfl) (hb hby at_114) (fun _ _ => ⟨rfl, rfl, (by decide : 1 + 0 ≤ _), (by decide : 16 + 0 ≤ _)⟩)
      dsimp only [Pt.U, Pt.locs, Pt.cells, Pt.slots] at X66 l66 y66 z66 st66 hQ66
      subst l66 y66 z66
      obtain ⟨rfl, N66q, e66⟩ := hQ66
      have N66 := Fr.app N63 N66q
      refine own_goT st66 ?_
      show own_Run p e below _ T66 (mkF m 117 #[.val (.int p1), .val (.int p2), .val (.int (1 : Int32)), .val (.int (0 : Int32)), .val (.ref b52), .val (.int (1 : Int32)), .val (.int (1 : Int32)), .val (.int (1 : Int32)), .val (.int (0 : Int32)), .val (.int (0 : Int32)), .unset] [(.int (0 : Int32))])
      refine own_go (fun _ k => XS.istore X66.here hx rfl (hb hby at_117) rfl (l' := #[.val (.int p1), .val (.int p2), .val (.int (1 : Int32)), .val (.int (0 : Int32)), .val (.ref b52), .val (.int (1 : Int32)), .val (.int (1 : Int32)), .val (.int (1 : Int32)), .val (.int (0 : Int32)), .val (.int (0 : Int32)), .val (.int (0 : Int32))]) rfl k) ?_
      refine own_go (fun _ k => XS.iload X66.here hx rfl (hb hby at_119) rfl k) ?_
      show own_Run p e below _ T66 (mkF m 121 #[.val (.int p1), .val (.int p2), .val (.int (1 : Int32)), .val (.int (0 : Int32)), .val (.ref b52), .val (.int (1 : Int32)), .val (.int (1 : Int32)), .val (.int (1 : Int32)), .val (.int (0 : Int32)), .val (.int (0 : Int32)), .val (.int (0 : Int32))] [(.int (1 : Int32))])
      refine own_go (fun _ k => XS.ifNo X66.here hx rfl (hb hby at_121) rfl ((if0 _ _).trans (feq (by decide : ¬ ((1 : Int32) = (0 : Int32)))).1) k) ?_
      show own_Run p e below _ T66 (mkF m 124 #[.val (.int p1), .val (.int p2), .val (.int (1 : Int32)), .val (.int (0 : Int32)), .val (.ref b52), .val (.int (1 : Int32)), .val (.int (1 : Int32)), .val (.int (1 : Int32)), .val (.int (0 : Int32)), .val (.int (0 : Int32)), .val (.int (0 : Int32))] [])
      refine own_go (fun _ k => XS.iload X66.here hx rfl (hb hby at_124) rfl k) ?_
      refine own_go (fun _ k => XS.iloadN X66.here hx rfl (hb hby at_126) rfl k) ?_
      show own_Run p e below _ T66 (mkF m 127 #[.val (.int p1), .val (.int p2), .val (.int (1 : Int32)), .val (.int (0 : Int32)), .val (.ref b52), .val (.int (1 : Int32)), .val (.int (1 : Int32)), .val (.int (1 : Int32)), .val (.int (0 : Int32)), .val (.int (0 : Int32)), .val (.int (0 : Int32))] [(.int (0 : Int32)), (.int (0 : Int32))])
      refine own_go (fun _ k => XS.icmpNo X66.here hx rfl (hb hby at_127) rfl (teq (by decide : (0 : Int32) = (0 : Int32))).2 k) ?_
      show own_Run p e below _ T66 (mkF m 130 #[.val (.int p1), .val (.int p2), .val (.int (1 : Int32)), .val (.int (0 : Int32)), .val (.ref b52), .val (.int (1 : Int32)), .val (.int (1 : Int32)), .val (.int (1 : Int32)), .val (.int (0 : Int32)), .val (.int (0 : Int32)), .val (.int (0 : Int32))] [])
      refine own_go (fun _ k => XS.iload X66.here hx rfl (hb hby at_130) rfl k) ?_
      refine own_go (fun _ k => XS.iloadN X66.here hx rfl (hb hby at_132) rfl k) ?_
      show own_Run p e below _ T66 (mkF m 133 #[.val (.int p1), .val (.int p2), .val (.int (1 : Int32)), .val (.int (0 : Int32)), .val (.ref b52), .val (.int (1 : Int32)), .val (.int (1 : Int32)), .val (.int (1 : Int32)), .val (.int (0 : Int32)), .val (.int (0 : Int32)), .val (.int (0 : Int32))] [(.int (0 : Int32)), (.int (0 : Int32))])
      refine own_go (fun _ k => XS.icmpNo X66.here hx rfl (hb hby at_133) rfl (teq (by decide : (0 : Int32) = (0 : Int32))).2 k) ?_
      show own_Run p e below _ T66 (mkF m 136 #[.val (.int p1), .val (.int p2), .val (.int (1 : Int32)), .val (.int (0 : Int32)), .val (.ref b52), .val (.int (1 : Int32)), .val (.int (1 : Int32)), .val (.int (1 : Int32)), .val (.int (0 : Int32)), .val (.int (0 : Int32)), .val (.int (0 : Int32))] [])
      refine own_go (fun _ k => XS.iload X66.here hx rfl (hb hby at_136) rfl k) ?_
      refine own_go (fun _ k => XS.iloadN X66.here hx rfl (hb hby at_138) rfl k) ?_
      show own_Run p e below _ T66 (mkF m 139 #[.val (.int p1), .val (.int p2), .val (.int (1 : Int32)), .val (.int (0 : Int32)), .val (.ref b52), .val (.int (1 : Int32)), .val (.int (1 : Int32)), .val (.int (1 : Int32)), .val (.int (0 : Int32)), .val (.int (0 : Int32)), .val (.int (0 : Int32))] [(.int (0 : Int32)), (.int (0 : Int32))])
      refine own_go (fun _ k => XS.icmpNo X66.here hx rfl (hb hby at_139) rfl (teq (by decide : (0 : Int32) = (0 : Int32))).2 k) ?_
      show own_Run p e below _ T66 (mkF m 142 #[.val (.int p1), .val (.int p2), .val (.int (1 : Int32)), .val (.int (0 : Int32)), .val (.ref b52), .val (.int (1 : Int32)), .val (.int (1 : Int32)), .val (.int (1 : Int32)), .val (.int (0 : Int32)), .val (.int (0 : Int32)), .val (.int (0 : Int32))] [])
      refine own_go (fun _ k => XS.aload X66.here hx rfl (hb hby at_142) rfl rfl k) ?_
      show own_Run p e below _ T66 (mkF m 144 #[.val (.int p1), .val (.int p2), .val (.int (1 : Int32)), .val (.int (0 : Int32)), .val (.ref b52), .val (.int (1 : Int32)), .val (.int (1 : Int32)), .val (.int (1 : Int32)), .val (.int (0 : Int32)), .val (.int (0 : Int32)), .val (.int (0 : Int32))] [(.ref b52)])
      obtain ⟨cq67, kq67, q67a, q67b, q67c⟩ := isOf hZ e66 P63_0
      obtain ⟨_, _, ⟨T67, L67, k67, n67⟩, -, X67, ⟨Lc67, hQ67, l67, y67, z67⟩, st67⟩ := X66.virtualBack hx (y := (⟨"com/example/eventail/eventail/DeliveryCount", "begun", "()J"⟩ : MethodName)) (z := (⟨"com/example/eventail/eventail/DeliveryCount", "begun", "()J"⟩ : MethodName)) hown (mvT hZ (W 28 rfl)) (mvT hZ (W 29 rfl)) (notFace_of_selects (args := #[]) (mvT hZ (W 31 rfl))) (mvT hZ (W 31 rfl)) (mvT hZ (W 30 rfl)) (by decide) (backOf (W := 0) (rm6 l Z a0 hw [] b52 (1 : Int64) T63.heap n0 Z0_c64 F_begun_e65) hZ (W 32 rfl) (W 2 rfl) (by decide) (by decide)) q67a q67c (g := (mkF m 144 #[.val (.int p1), .val (.int p2), .val (.int (1 : Int32)), .val (.int (0 : Int32)), .val (.ref b52), .val (.int (1 : Int32)), .val (.int (1 : Int32)), .val (.int (1 : Int32)), .val (.int (0 : Int32)), .val (.int (0 : Int32)), .val (.int (0 : Int32))] [(.ref b52)])) rfl (by rw [hml]; rfl) (Steps.refl _) (argsL := []) (rest := []) (lenOf pd_4 rfl) rfl (by show 2 * 0 + _ ≤ _; exact Nat.le_of_eq rfl) (hb hby at_144) (fun _ _ => ⟨rfl, e66, (by decide : 1 + 0 ≤ _), (by decide : 16 + 0 ≤ _)⟩)
      dsimp only [Pt.U, Pt.locs, Pt.cells, Pt.slots] at X67 l67 y67 z67 st67 hQ67
      subst l67 y67 z67
      obtain ⟨rfl, N67q, e67⟩ := hQ67
      have N67 := Fr.app N66 N67q
      refine own_goT st67 ?_
      show own_Run p e below _ T67 (mkF m 147 #[.val (.int p1), .val (.int p2), .val (.int (1 : Int32)), .val (.int (0 : Int32)), .val (.ref b52), .val (.int (1 : Int32)), .val (.int (1 : Int32)), .val (.int (1 : Int32)), .val (.int (0 : Int32)), .val (.int (0 : Int32)), .val (.int (0 : Int32))] [(.long (1 : Int64))])
      refine own_go (fun _ k => XS.lconst X67.here hx rfl (hb hby at_147) k) ?_
      refine own_go (fun _ k => XS.lcmp X67.here hx rfl (hb hby at_148) rfl k) ?_
      show own_Run p e below _ T67 (mkF m 149 #[.val (.int p1), .val (.int p2), .val (.int (1 : Int32)), .val (.int (0 : Int32)), .val (.ref b52), .val (.int (1 : Int32)), .val (.int (1 : Int32)), .val (.int (1 : Int32)), .val (.int (0 : Int32)), .val (.int (0 : Int32)), .val (.int (0 : Int32))] [(.int (lcmpW (1 : Int64) (1 : Int64)))])
      refine own_go (fun _ k => XS.ifNo X67.here hx rfl (hb hby at_149) rfl (own_lcTe (by decide : (1 : Int64) = (1 : Int64))).2 k) ?_
      show own_Run p e below _ T67 (mkF m 152 #[.val (.int p1), .val (.int p2), .val (.int (1 : Int32)), .val (.int (0 : Int32)), .val (.ref b52), .val (.int (1 : Int32)), .val (.int (1 : Int32)), .val (.int (1 : Int32)), .val (.int (0 : Int32)), .val (.int (0 : Int32)), .val (.int (0 : Int32))] [])
      refine own_go (fun _ k => XS.iconst X67.here hx rfl (hb hby at_152) k) ?_
      refine own_go (fun _ k => XS.goto X67.here hx rfl (pc0 := 153) (pc' := 157) rfl (hb hby at_153) (by decide) (by decide) k) ?_
      refine own_go (fun _ k => XS.istore X67.here hx rfl (hb hby at_157) rfl (l' := #[.val (.int p1), .val (.int p2), .val (.int (1 : Int32)), .val (.int (0 : Int32)), .val (.ref b52), .val (.int (1 : Int32)), .val (.int (1 : Int32)), .val (.int (1 : Int32)), .val (.int (0 : Int32)), .val (.int (0 : Int32)), .val (.int (0 : Int32))]) rfl k) ?_
      refine own_go (fun _ k => XS.iload X67.here hx rfl (hb hby at_159) rfl k) ?_
      show own_Run p e below _ T67 (mkF m 161 #[.val (.int p1), .val (.int p2), .val (.int (1 : Int32)), .val (.int (0 : Int32)), .val (.ref b52), .val (.int (1 : Int32)), .val (.int (1 : Int32)), .val (.int (1 : Int32)), .val (.int (0 : Int32)), .val (.int (0 : Int32)), .val (.int (0 : Int32))] [(.int (1 : Int32))])
      refine own_done (Q := fun v h L => Q0 Z p1 p2 h0 n0 v h L) (v := (some (.int (1 : Int32)))) X67 (fun h => by rw [hret] at h; cases h) hlk (fun fs hr => retN X67 hx (t := .boolean) hret (by simp) (hb hby at_161) hr) ?_ (by decide) (by decide)
      show Q0 Z p1 p2 h0 n0 _ T67.heap _
      rw [e67]
      exact ⟨rfl, N67⟩
    · refine own_go (fun _ k => XS.ifNo X0.here hx rfl (hb hby at_15) rfl ((if0 _ _).trans (feq hc15_51).1) k) ?_
      show own_Run p e below _ s₁ (mkF m 18 #[.val (.int p1), .val (.int p2), .val (.int (1 : Int32)), .unset, .unset, .unset, .unset, .unset, .unset, .unset, .unset] [])
      refine own_go (fun _ k => XS.iconst X0.here hx rfl (hb hby at_18) k) ?_
      refine own_go (fun _ k => XS.goto X0.here hx rfl (pc0 := 19) (pc' := 23) rfl (hb hby at_19) (by decide) (by decide) k) ?_
      refine own_go (fun _ k => XS.istoreN X0.here hx rfl (hb hby at_23) rfl (l' := #[.val (.int p1), .val (.int p2), .val (.int (1 : Int32)), .val (.int (1 : Int32)), .unset, .unset, .unset, .unset, .unset, .unset, .unset]) rfl k) ?_
      show own_Run p e below _ s₁ (mkF m 24 #[.val (.int p1), .val (.int p2), .val (.int (1 : Int32)), .val (.int (1 : Int32)), .unset, .unset, .unset, .unset, .unset, .unset, .unset] [])
      obtain ⟨T68, h68, X68, e68, E68, A68, D68, -, st68⟩ := newO X0 hx hZ hown (W 0 rfl) (W 1 rfl) (W 2 rfl) e0 (g := (mkF m 24 #[.val (.int p1), .val (.int p2), .val (.int (1 : Int32)), .val (.int (1 : Int32)), .unset, .unset, .unset, .unset, .unset, .unset, .unset] [])) rfl (hb hby at_24) (by decide) (by decide)
      refine own_go st68 ?_
      obtain ⟨b68, g68⟩ : ∃ z, z = h0.size := ⟨_, rfl⟩
      rw [← g68] at A68 D68
      rw [← g68]
      show own_Run p e below _ T68 (mkF m 27 #[.val (.int p1), .val (.int p2), .val (.int (1 : Int32)), .val (.int (1 : Int32)), .unset, .unset, .unset, .unset, .unset, .unset, .unset] [(.ref b68)])
      have g_b68 : n0 ≤ b68 := Nat.le_trans Z0 (Nat.le_of_eq g68.symm)
      have sz_b68 : h0.size ≤ b68 := Nat.le_trans K0.1 (Nat.le_of_eq g68.symm)
      have Z0_c69 := Nat.le_trans Z0 E68.1
      have K0_c69 := K0.ext E68
      have F_roomWanted_b68 : Fld Z h68 b68 "com/example/eventail/eventail/DeliveryCount" "roomWanted" "J" (.long (0 : Int64)) := D68 (Or.inl (W 15 rfl)) (ty := .long) (by decide)
      have F_begun_b68 : Fld Z h68 b68 "com/example/eventail/eventail/DeliveryCount" "begun" "J" (.long (0 : Int64)) := D68 (Or.inl (W 27 rfl)) (ty := .long) (by decide)
      refine own_go (fun _ k => XS.dup X68.here hx rfl (hb hby at_27) rfl rfl k) ?_
      show own_Run p e below _ T68 (mkF m 28 #[.val (.int p1), .val (.int p2), .val (.int (1 : Int32)), .val (.int (1 : Int32)), .unset, .unset, .unset, .unset, .unset, .unset, .unset] [(.ref b68), (.ref b68)])
      obtain ⟨_, _, ⟨T70, L70, k70, n70⟩, -, X70, ⟨Lc70, hQ70, l70, y70, z70⟩, st70⟩ := X68.specialBack hx (y := (⟨"com/example/eventail/eventail/DeliveryCount", "<init>", "()V"⟩ : MethodName)) rfl hown (mvT hZ (W 3 rfl)) (mvT hZ (W 4 rfl)) (mvT hZ (W 5 rfl)) (by decide) (backOf (W := 1) (rm1 l Z a0 hw [] b68 h68 n0 Z0_c69 ) hZ (W 5 rfl) (W 2 rfl) (by decide) (by decide)) (g := (mkF m 28 #[.val (.int p1), .val (.int p2), .val (.int (1 : Int32)), .val (.int (1 : Int32)), .unset, .unset, .unset, .unset, .unset, .unset, .unset] [(.ref b68), (.ref b68)])) rfl (by rw [hml]; rfl) (Steps.refl _) (a := b68) (argsL := []) (rest := [(.ref b68)]) (lenOf pd_1 rfl) rfl (by show 2 * 0 + _ ≤ _; exact Nat.le_of_eq rfl) (hb hby at_28) (fun _ _ => ⟨rfl, e68, (by decide : 1 + 0 ≤ _), (by decide : 16 + 0 ≤ _)⟩)
      dsimp only [Pt.U, Pt.locs, Pt.cells, Pt.slots] at X70 l70 y70 z70 st70 hQ70
      subst l70 y70 z70
      obtain ⟨rfl, N70q, e70⟩ := hQ70
      have N70 := Fr.app N0 N70q
      refine own_goT st70 ?_
      show own_Run p e below _ T70 (mkF m 31 #[.val (.int p1), .val (.int p2), .val (.int (1 : Int32)), .val (.int (1 : Int32)), .unset, .unset, .unset, .unset, .unset, .unset, .unset] [(.ref b68)])
      refine own_go (fun _ k => XS.astore X70.here hx rfl (hb hby at_31) rfl rfl (l' := #[.val (.int p1), .val (.int p2), .val (.int (1 : Int32)), .val (.int (1 : Int32)), .val (.ref b68), .unset, .unset, .unset, .unset, .unset, .unset]) rfl k) ?_
      refine own_go (fun _ k => XS.aload X70.here hx rfl (hb hby at_33) rfl rfl k) ?_
      show own_Run p e below _ T70 (mkF m 35 #[.val (.int p1), .val (.int p2), .val (.int (1 : Int32)), .val (.int (1 : Int32)), .val (.ref b68), .unset, .unset, .unset, .unset, .unset, .unset] [(.ref b68)])
      obtain ⟨cq71, kq71, q71a, q71b, q71c⟩ := isOf hZ e70 A68
      obtain ⟨_, _, ⟨T71, L71, k71, n71⟩, -, X71, ⟨Lc71, hQ71, l71, y71, z71⟩, st71⟩ := X70.virtualBack hx (y := (⟨"com/example/eventail/eventail/DeliveryCount", "isRoomWanted", "()Z"⟩ : MethodName)) (z := (⟨"com/example/eventail/eventail/DeliveryCount", "isRoomWanted", "()Z"⟩ : MethodName)) hown (mvT hZ (W 9 rfl)) (mvT hZ (W 10 rfl)) (notFace_of_selects (args := #[]) (mvT hZ (W 12 rfl))) (mvT hZ (W 12 rfl)) (mvT hZ (W 11 rfl)) (by decide) (backOf (W := 0) (rm3 l Z a0 hw [] b68 (0 : Int64) (0 : Int32) h68 n0 Z0_c69 F_roomWanted_b68 (Or.inl ⟨rfl, rfl⟩)) hZ (W 13 rfl) (W 2 rfl) (by decide) (by decide)) q71a q71c (g := (mkF m 35 #[.val (.int p1), .val (.int p2), .val (.int (1 : Int32)), .val (.int (1 : Int32)), .val (.ref b68), .unset, .unset, .unset, .unset, .unset, .unset] [(.ref b68)])) rfl (by rw [hml]; rfl) (Steps.refl _) (argsL := []) (rest := []) (lenOf pd_2 rfl) rfl (by show 2 * 0 + _ ≤ _; exact Nat.le_of_eq rfl) (hb hby at_35) (fun _ _ => ⟨rfl, e70, (by decide : 1 + 0 ≤ _), (by decide : 16 + 0 ≤ _)⟩)
      dsimp only [Pt.U, Pt.locs, Pt.cells, Pt.slots] at X71 l71 y71 z71 st71 hQ71
      subst l71 y71 z71
      obtain ⟨rfl, N71q, e71⟩ := hQ71
      have N71 := Fr.app N70 N71q
      refine own_goT st71 ?_
      show own_Run p e below _ T71 (mkF m 38 #[.val (.int p1), .val (.int p2), .val (.int (1 : Int32)), .val (.int (1 : Int32)), .val (.ref b68), .unset, .unset, .unset, .unset, .unset, .unset] [(.int (0 : Int32))])
      refine own_go (fun _ k => XS.ifNo X71.here hx rfl (hb hby at_38) rfl ((if0 _ _).trans (teq (by decide : (0 : Int32) = (0 : Int32))).2) k) ?_
      show own_Run p e below _ T71 (mkF m 41 #[.val (.int p1), .val (.int p2), .val (.int (1 : Int32)), .val (.int (1 : Int32)), .val (.ref b68), .unset, .unset, .unset, .unset, .unset, .unset] [])
      refine own_go (fun _ k => XS.iconst X71.here hx rfl (hb hby at_41) k) ?_
      refine own_go (fun _ k => XS.goto X71.here hx rfl (pc0 := 42) (pc' := 46) rfl (hb hby at_42) (by decide) (by decide) k) ?_
      refine own_go (fun _ k => XS.istore X71.here hx rfl (hb hby at_46) rfl (l' := #[.val (.int p1), .val (.int p2), .val (.int (1 : Int32)), .val (.int (1 : Int32)), .val (.ref b68), .val (.int (1 : Int32)), .unset, .unset, .unset, .unset, .unset]) rfl k) ?_
      refine own_go (fun _ k => XS.aload X71.here hx rfl (hb hby at_48) rfl rfl k) ?_
      show own_Run p e below _ T71 (mkF m 50 #[.val (.int p1), .val (.int p2), .val (.int (1 : Int32)), .val (.int (1 : Int32)), .val (.ref b68), .val (.int (1 : Int32)), .unset, .unset, .unset, .unset, .unset] [(.ref b68)])
      refine own_go (fun _ k => XS.iloadN X71.here hx rfl (hb hby at_50) rfl k) ?_
      show own_Run p e below _ T71 (mkF m 51 #[.val (.int p1), .val (.int p2), .val (.int (1 : Int32)), .val (.int (1 : Int32)), .val (.ref b68), .val (.int (1 : Int32)), .unset, .unset, .unset, .unset, .unset] [(.int (1 : Int32)), (.ref b68)])
      obtain ⟨cq72, kq72, q72a, q72b, q72c⟩ := isOf hZ e71 A68
      obtain ⟨_, _, ⟨T72, L72, k72, n72⟩, -, X72, ⟨Lc72, hQ72, l72, y72, z72⟩, st72⟩ := X71.virtualBack hx (y := (⟨"com/example/eventail/eventail/DeliveryCount", "setRoomWanted", "(Z)V"⟩ : MethodName)) (z := (⟨"com/example/eventail/eventail/DeliveryCount", "setRoomWanted", "(Z)V"⟩ : MethodName)) hown (mvT hZ (W 16 rfl)) (mvT hZ (W 17 rfl)) (notFace_of_selects (args := #[]) (mvT hZ (W 19 rfl))) (mvT hZ (W 19 rfl)) (mvT hZ (W 18 rfl)) (by decide) (backOf (W := 0) (rm4 l Z a0 hw [] b68 (1 : Int32) (0 : Int64) (1 : Int64) (0 : Int64) h68 n0 Z0_c69 A68 F_roomWanted_b68 F_begun_b68 g_b68 (Or.inr ⟨rfl, rfl⟩)) hZ (W 20 rfl) (W 2 rfl) (by decide) (by decide)) q72a q72c (g := (mkF m 51 #[.val (.int p1), .val (.int p2), .val (.int (1 : Int32)), .val (.int (1 : Int32)), .val (.ref b68), .val (.int (1 : Int32)), .unset, .unset, .unset, .unset, .unset] [(.int (1 : Int32)), (.ref b68)])) rfl (by rw [hml]; rfl) (Steps.refl _) (argsL := [(.int (1 : Int32))]) (rest := []) (lenOf pd_3 rfl) rfl (by show 2 * 0 + _ ≤ _; exact Nat.le_of_eq rfl) (hb hby at_51) (fun _ _ => ⟨rfl, e71, (by decide : 1 + 0 ≤ _), (by decide : 16 + 0 ≤ _)⟩)
      dsimp only [Pt.U, Pt.locs, Pt.cells, Pt.slots] at X72 l72 y72 z72 st72 hQ72
      subst l72 y72 z72
      obtain ⟨rfl, N72q, K72, P72_0, P72_1, P72_2⟩ := hQ72
      have N72 := Fr.app N71 N72q
      refine own_goT st72 ?_
      show own_Run p e below _ T72 (mkF m 54 #[.val (.int p1), .val (.int p2), .val (.int (1 : Int32)), .val (.int (1 : Int32)), .val (.ref b68), .val (.int (1 : Int32)), .unset, .unset, .unset, .unset, .unset] [])
      have Z0_c73 := Nat.le_trans Z0_c69 K72.1
      have K0_c73 := K0_c69.trans K72 (allS (Or.inr sz_b68) all0)
      have A68_c73 := A68.keep K72
      refine own_go (fun _ k => XS.aload X72.here hx rfl (hb hby at_54) rfl rfl k) ?_
      show own_Run p e below _ T72 (mkF m 56 #[.val (.int p1), .val (.int p2), .val (.int (1 : Int32)), .val (.int (1 : Int32)), .val (.ref b68), .val (.int (1 : Int32)), .unset, .unset, .unset, .unset, .unset] [(.ref b68)])
      obtain ⟨cq74, kq74, q74a, q74b, q74c⟩ := isOf hZ rfl P72_0
      obtain ⟨_, _, ⟨T74, L74, k74, n74⟩, -, X74, ⟨Lc74, hQ74, l74, y74, z74⟩, st74⟩ := X72.virtualBack hx (y := (⟨"com/example/eventail/eventail/DeliveryCount", "isRoomWanted", "()Z"⟩ : MethodName)) (z := (⟨"com/example/eventail/eventail/DeliveryCount", "isRoomWanted", "()Z"⟩ : MethodName)) hown (mvT hZ (W 9 rfl)) (mvT hZ (W 10 rfl)) (notFace_of_selects (args := #[]) (mvT hZ (W 12 rfl))) (mvT hZ (W 12 rfl)) (mvT hZ (W 11 rfl)) (by decide) (backOf (W := 0) (rm3 l Z a0 hw [] b68 (1 : Int64) (1 : Int32) T72.heap n0 Z0_c73 P72_1 (Or.inr ⟨rfl, rfl⟩)) hZ (W 13 rfl) (W 2 rfl) (by decide) (by decide)) q74a q74c (g := (mkF m 56 #[.val (.int p1), .val (.int p2), .val (.int (1 : Int32)), .val (.int (1 : Int32)), .val (.ref b68), .val (.int (1 : Int32)), .unset, .unset, .unset, .unset, .unset] [(.ref b68)])) rfl (by rw [hml]; rfl) (Steps.refl _) (argsL := []) (rest := []) (lenOf pd_2 rfl) rfl (by show 2 * 0 + _ ≤ _; exact Nat.le_of_eq rfl) (hb hby at_56) (fun _ _ => ⟨rfl, rfl, (by decide : 1 + 0 ≤ _), (by decide : 16 + 0 ≤ _)⟩)
      dsimp only [Pt.U, Pt.locs, Pt.cells, Pt.slots] at X74 l74 y74 z74 st74 hQ74
      subst l74 y74 z74
      obtain ⟨rfl, N74q, e74⟩ := hQ74
      have N74 := Fr.app N72 N74q
      refine own_goT st74 ?_
      show own_Run p e below _ T74 (mkF m 59 #[.val (.int p1), .val (.int p2), .val (.int (1 : Int32)), .val (.int (1 : Int32)), .val (.ref b68), .val (.int (1 : Int32)), .unset, .unset, .unset, .unset, .unset] [(.int (1 : Int32))])
      refine own_go (fun _ k => XS.istore X74.here hx rfl (hb hby at_59) rfl (l' := #[.val (.int p1), .val (.int p2), .val (.int (1 : Int32)), .val (.int (1 : Int32)), .val (.ref b68), .val (.int (1 : Int32)), .val (.int (1 : Int32)), .unset, .unset, .unset, .unset]) rfl k) ?_
      refine own_go (fun _ k => XS.aload X74.here hx rfl (hb hby at_61) rfl rfl k) ?_
      show own_Run p e below _ T74 (mkF m 63 #[.val (.int p1), .val (.int p2), .val (.int (1 : Int32)), .val (.int (1 : Int32)), .val (.ref b68), .val (.int (1 : Int32)), .val (.int (1 : Int32)), .unset, .unset, .unset, .unset] [(.ref b68)])
      obtain ⟨cq75, kq75, q75a, q75b, q75c⟩ := isOf hZ e74 P72_0
      obtain ⟨_, _, ⟨T75, L75, k75, n75⟩, -, X75, ⟨Lc75, hQ75, l75, y75, z75⟩, st75⟩ := X74.virtualBack hx (y := (⟨"com/example/eventail/eventail/DeliveryCount", "isRoomWanted", "()Z"⟩ : MethodName)) (z := (⟨"com/example/eventail/eventail/DeliveryCount", "isRoomWanted", "()Z"⟩ : MethodName)) hown (mvT hZ (W 9 rfl)) (mvT hZ (W 10 rfl)) (notFace_of_selects (args := #[]) (mvT hZ (W 12 rfl))) (mvT hZ (W 12 rfl)) (mvT hZ (W 11 rfl)) (by decide) (backOf (W := 0) (rm3 l Z a0 hw [] b68 (1 : Int64) (1 : Int32) T72.heap n0 Z0_c73 P72_1 (Or.inr ⟨rfl, rfl⟩)) hZ (W 13 rfl) (W 2 rfl) (by decide) (by decide)) q75a q75c (g := (mkF m 63 #[.val (.int p1), .val (.int p2), .val (.int (1 : Int32)), .val (.int (1 : Int32)), .val (.ref b68), .val (.int (1 : Int32)), .val (.int (1 : Int32)), .unset, .unset, .unset, .unset] [(.ref b68)])) rfl (by rw [hml]; rfl) (Steps.refl _) (argsL := []) (rest := []) (lenOf pd_2 rfl) rfl (by show 2 * 0 + _ ≤ _; exact Nat.le_of_eq rfl) (hb hby at_63) (fun _ _ => ⟨rfl, e74, (by decide : 1 + 0 ≤ _), (by decide : 16 + 0 ≤ _)⟩)
      dsimp only [Pt.U, Pt.locs, Pt.cells, Pt.slots] at X75 l75 y75 z75 st75 hQ75
      subst l75 y75 z75
      obtain ⟨rfl, N75q, e75⟩ := hQ75
      have N75 := Fr.app N74 N75q
      refine own_goT st75 ?_
      show own_Run p e below _ T75 (mkF m 66 #[.val (.int p1), .val (.int p2), .val (.int (1 : Int32)), .val (.int (1 : Int32)), .val (.ref b68), .val (.int (1 : Int32)), .val (.int (1 : Int32)), .unset, .unset, .unset, .unset] [(.int (1 : Int32))])
      refine own_go (fun _ k => XS.istore X75.here hx rfl (hb hby at_66) rfl (l' := #[.val (.int p1), .val (.int p2), .val (.int (1 : Int32)), .val (.int (1 : Int32)), .val (.ref b68), .val (.int (1 : Int32)), .val (.int (1 : Int32)), .val (.int (1 : Int32)), .unset, .unset, .unset]) rfl k) ?_
      refine own_go (fun _ k => XS.iload X75.here hx rfl (hb hby at_68) rfl k) ?_
      show own_Run p e below _ T75 (mkF m 70 #[.val (.int p1), .val (.int p2), .val (.int (1 : Int32)), .val (.int (1 : Int32)), .val (.ref b68), .val (.int (1 : Int32)), .val (.int (1 : Int32)), .val (.int (1 : Int32)), .unset, .unset, .unset] [(.int (1 : Int32))])
      refine own_go (fun _ k => XS.ifNo X75.here hx rfl (hb hby at_70) rfl ((if0 _ _).trans (feq (by decide : ¬ ((1 : Int32) = (0 : Int32)))).1) k) ?_
      show own_Run p e below _ T75 (mkF m 73 #[.val (.int p1), .val (.int p2), .val (.int (1 : Int32)), .val (.int (1 : Int32)), .val (.ref b68), .val (.int (1 : Int32)), .val (.int (1 : Int32)), .val (.int (1 : Int32)), .unset, .unset, .unset] [])
      refine own_go (fun _ k => XS.iload X75.here hx rfl (hb hby at_73) rfl k) ?_
      refine own_go (fun _ k => XS.iloadN X75.here hx rfl (hb hby at_75) rfl k) ?_
      show own_Run p e below _ T75 (mkF m 76 #[.val (.int p1), .val (.int p2), .val (.int (1 : Int32)), .val (.int (1 : Int32)), .val (.ref b68), .val (.int (1 : Int32)), .val (.int (1 : Int32)), .val (.int (1 : Int32)), .unset, .unset, .unset] [(.int (1 : Int32)), (.int (1 : Int32))])
      refine own_go (fun _ k => XS.icmpNo X75.here hx rfl (hb hby at_76) rfl (teq (by decide : (1 : Int32) = (1 : Int32))).2 k) ?_
      show own_Run p e below _ T75 (mkF m 79 #[.val (.int p1), .val (.int p2), .val (.int (1 : Int32)), .val (.int (1 : Int32)), .val (.ref b68), .val (.int (1 : Int32)), .val (.int (1 : Int32)), .val (.int (1 : Int32)), .unset, .unset, .unset] [])
      refine own_go (fun _ k => XS.iload X75.here hx rfl (hb hby at_79) rfl k) ?_
      refine own_go (fun _ k => XS.iloadN X75.here hx rfl (hb hby at_81) rfl k) ?_
      show own_Run p e below _ T75 (mkF m 82 #[.val (.int p1), .val (.int p2), .val (.int (1 : Int32)), .val (.int (1 : Int32)), .val (.ref b68), .val (.int (1 : Int32)), .val (.int (1 : Int32)), .val (.int (1 : Int32)), .unset, .unset, .unset] [(.int (1 : Int32)), (.int (1 : Int32))])
      refine own_go (fun _ k => XS.icmpNo X75.here hx rfl (hb hby at_82) rfl (teq (by decide : (1 : Int32) = (1 : Int32))).2 k) ?_
      show own_Run p e below _ T75 (mkF m 85 #[.val (.int p1), .val (.int p2), .val (.int (1 : Int32)), .val (.int (1 : Int32)), .val (.ref b68), .val (.int (1 : Int32)), .val (.int (1 : Int32)), .val (.int (1 : Int32)), .unset, .unset, .unset] [])
      refine own_go (fun _ k => XS.iconst X75.here hx rfl (hb hby at_85) k) ?_
      refine own_go (fun _ k => XS.goto X75.here hx rfl (pc0 := 86) (pc' := 90) rfl (hb hby at_86) (by decide) (by decide) k) ?_
      refine own_go (fun _ k => XS.istore X75.here hx rfl (hb hby at_90) rfl (l' := #[.val (.int p1), .val (.int p2), .val (.int (1 : Int32)), .val (.int (1 : Int32)), .val (.ref b68), .val (.int (1 : Int32)), .val (.int (1 : Int32)), .val (.int (1 : Int32)), .unset, .unset, .unset]) rfl k) ?_
      refine own_go (fun _ k => XS.aload X75.here hx rfl (hb hby at_92) rfl rfl k) ?_
      show own_Run p e below _ T75 (mkF m 94 #[.val (.int p1), .val (.int p2), .val (.int (1 : Int32)), .val (.int (1 : Int32)), .val (.ref b68), .val (.int (1 : Int32)), .val (.int (1 : Int32)), .val (.int (1 : Int32)), .unset, .unset, .unset] [(.ref b68)])
      refine own_go (fun _ k => XS.iloadN X75.here hx rfl (hb hby at_94) rfl k) ?_
      show own_Run p e below _ T75 (mkF m 95 #[.val (.int p1), .val (.int p2), .val (.int (1 : Int32)), .val (.int (1 : Int32)), .val (.ref b68), .val (.int (1 : Int32)), .val (.int (1 : Int32)), .val (.int (1 : Int32)), .unset, .unset, .unset] [(.int (1 : Int32)), (.ref b68)])
      obtain ⟨cq76, kq76, q76a, q76b, q76c⟩ := isOf hZ e75 P72_0
      obtain ⟨_, _, ⟨T76, L76, k76, n76⟩, -, X76, ⟨Lc76, hQ76, l76, y76, z76⟩, st76⟩ := X75.virtualBack hx (y := (⟨"com/example/eventail/eventail/DeliveryCount", "setRoomWanted", "(Z)V"⟩ : MethodName)) (z := (⟨"com/example/eventail/eventail/DeliveryCount", "setRoomWanted", "(Z)V"⟩ : MethodName)) hown (mvT hZ (W 16 rfl)) (mvT hZ (W 17 rfl)) (notFace_of_selects (args := #[]) (mvT hZ (W 19 rfl))) (mvT hZ (W 19 rfl)) (mvT hZ (W 18 rfl)) (by decide) (backOf (W := 0) (rm4 l Z a0 hw [] b68 (1 : Int32) (1 : Int64) (1 : Int64) (0 : Int64) T72.heap n0 Z0_c73 P72_0 P72_1 P72_2 g_b68 (Or.inr ⟨rfl, rfl⟩)) hZ (W 20 rfl) (W 2 rfl) (by decide) (by decide)) q76a q76c (g := (mkF m 95 #[.val (.int p1), .val (.int p2), .val (.int (1 : Int32)), .val (.int (1 : Int32)), .val (.ref b68), .val (.int (1 : Int32)), .val (.int (1 : Int32)), .val (.int (1 : Int32)), .unset, .unset, .unset] [(.int (1 : Int32)), (.ref b68)])) rfl (by rw [hml]; rfl) (Steps.refl _) (argsL := [(.int (1 : Int32))]) (rest := []) (lenOf pd_3 rfl) rfl (by show 2 * 0 + _ ≤ _; exact Nat.le_of_eq rfl) (hb hby at_95) (fun _ _ => ⟨rfl, e75, (by decide : 1 + 0 ≤ _), (by decide : 16 + 0 ≤ _)⟩)
      dsimp only [Pt.U, Pt.locs, Pt.cells, Pt.slots] at X76 l76 y76 z76 st76 hQ76
      subst l76 y76 z76
      obtain ⟨rfl, N76q, K76, P76_0, P76_1, P76_2⟩ := hQ76
      have N76 := Fr.app N75 N76q
      refine own_goT st76 ?_
      show own_Run p e below _ T76 (mkF m 98 #[.val (.int p1), .val (.int p2), .val (.int (1 : Int32)), .val (.int (1 : Int32)), .val (.ref b68), .val (.int (1 : Int32)), .val (.int (1 : Int32)), .val (.int (1 : Int32)), .unset, .unset, .unset] [])
      have Z0_c77 := Nat.le_trans Z0_c73 K76.1
      have K0_c77 := K0_c73.trans K76 (allS (Or.inr sz_b68) all0)
      have P72_0_c77 := P72_0.keep K76
      refine own_go (fun _ k => XS.aload X76.here hx rfl (hb hby at_98) rfl rfl k) ?_
      show own_Run p e below _ T76 (mkF m 100 #[.val (.int p1), .val (.int p2), .val (.int (1 : Int32)), .val (.int (1 : Int32)), .val (.ref b68), .val (.int (1 : Int32)), .val (.int (1 : Int32)), .val (.int (1 : Int32)), .unset, .unset, .unset] [(.ref b68)])
      obtain ⟨cq78, kq78, q78a, q78b, q78c⟩ := isOf hZ rfl P76_0
      obtain ⟨_, _, ⟨T78, L78, k78, n78⟩, -, X78, ⟨Lc78, hQ78, l78, y78, z78⟩, st78⟩ := X76.virtualBack hx (y := (⟨"com/example/eventail/eventail/DeliveryCount", "isRoomWanted", "()Z"⟩ : MethodName)) (z := (⟨"com/example/eventail/eventail/DeliveryCount", "isRoomWanted", "()Z"⟩ : MethodName)) hown (mvT hZ (W 9 rfl)) (mvT hZ (W 10 rfl)) (notFace_of_selects (args := #[]) (mvT hZ (W 12 rfl))) (mvT hZ (W 12 rfl)) (mvT hZ (W 11 rfl)) (by decide) (backOf (W := 0) (rm3 l Z a0 hw [] b68 (1 : Int64) (1 : Int32) T76.heap n0 Z0_c77 P76_1 (Or.inr ⟨rfl, rfl⟩)) hZ (W 13 rfl) (W 2 rfl) (by decide) (by decide)) q78a q78c (g := (mkF m 100 #[.val (.int p1), .val (.int p2), .val (.int (1 : Int32)), .val (.int (1 : Int32)), .val (.ref b68), .val (.int (1 : Int32)), .val (.int (1 : Int32)), .val (.int (1 : Int32)), .unset, .unset, .unset] [(.ref b68)])) rfl (by rw [hml]; rfl) (Steps.refl _) (argsL := []) (rest := []) (lenOf pd_2 rfl) rfl (by show 2 * 0 + _ ≤ _; exact Nat.le_of_eq rfl) (hb hby at_100) (fun _ _ => ⟨rfl, rfl, (by decide : 1 + 0 ≤ _), (by decide : 16 + 0 ≤ _)⟩)
      dsimp only [Pt.U, Pt.locs, Pt.cells, Pt.slots] at X78 l78 y78 z78 st78 hQ78
      subst l78 y78 z78
      obtain ⟨rfl, N78q, e78⟩ := hQ78
      have N78 := Fr.app N76 N78q
      refine own_goT st78 ?_
      show own_Run p e below _ T78 (mkF m 103 #[.val (.int p1), .val (.int p2), .val (.int (1 : Int32)), .val (.int (1 : Int32)), .val (.ref b68), .val (.int (1 : Int32)), .val (.int (1 : Int32)), .val (.int (1 : Int32)), .unset, .unset, .unset] [(.int (1 : Int32))])
      refine own_go (fun _ k => XS.istore X78.here hx rfl (hb hby at_103) rfl (l' := #[.val (.int p1), .val (.int p2), .val (.int (1 : Int32)), .val (.int (1 : Int32)), .val (.ref b68), .val (.int (1 : Int32)), .val (.int (1 : Int32)), .val (.int (1 : Int32)), .val (.int (1 : Int32)), .unset, .unset]) rfl k) ?_
      refine own_go (fun _ k => XS.aload X78.here hx rfl (hb hby at_105) rfl rfl k) ?_
      show own_Run p e below _ T78 (mkF m 107 #[.val (.int p1), .val (.int p2), .val (.int (1 : Int32)), .val (.int (1 : Int32)), .val (.ref b68), .val (.int (1 : Int32)), .val (.int (1 : Int32)), .val (.int (1 : Int32)), .val (.int (1 : Int32)), .unset, .unset] [(.ref b68)])
      obtain ⟨cq79, kq79, q79a, q79b, q79c⟩ := isOf hZ e78 P76_0
      obtain ⟨_, _, ⟨T79, L79, k79, n79⟩, -, X79, ⟨Lc79, hQ79, l79, y79, z79⟩, st79⟩ := X78.virtualBack hx (y := (⟨"com/example/eventail/eventail/DeliveryCount", "deliveryBegins", "()Z"⟩ : MethodName)) (z := (⟨"com/example/eventail/eventail/DeliveryCount", "deliveryBegins", "()Z"⟩ : MethodName)) hown (mvT hZ (W 21 rfl)) (mvT hZ (W 22 rfl)) (notFace_of_selects (args := #[]) (mvT hZ (W 24 rfl))) (mvT hZ (W 24 rfl)) (mvT hZ (W 23 rfl)) (by decide) (backOf (W := 0) (rm5 l Z a0 hw [] b68 (1 : Int64) (1 : Int32) (0 : Int64) T76.heap n0 Z0_c77 P76_0 P76_1 P76_2 g_b68 (Or.inr ⟨rfl, rfl⟩)) hZ (W 25 rfl) (W 2 rfl) (by decide) (by decide)) q79a q79c (g := (mkF m 107 #[.val (.int p1), .val (.int p2), .val (.int (1 : Int32)), .val (.int (1 : Int32)), .val (.ref b68), .val (.int (1 : Int32)), .val (.int (1 : Int32)), .val (.int (1 : Int32)), .val (.int (1 : Int32)), .unset, .unset] [(.ref b68)])) rfl (by rw [hml]; rfl) (Steps.refl _) (argsL := []) (rest := []) (lenOf pd_2 rfl) rfl (by show 2 * 0 + _ ≤ _; exact Nat.le_of_eq rfl) (hb hby at_107) (fun _ _ => ⟨rfl, e78, (by decide : 1 + 0 ≤ _), (by decide : 16 + 0 ≤ _)⟩)
      dsimp only [Pt.U, Pt.locs, Pt.cells, Pt.slots] at X79 l79 y79 z79 st79 hQ79
      subst l79 y79 z79
      obtain ⟨rfl, N79q, K79, P79_0, P79_1, P79_2⟩ := hQ79
      have N79 := Fr.app N78 N79q
      refine own_goT st79 ?_
      show own_Run p e below _ T79 (mkF m 110 #[.val (.int p1), .val (.int p2), .val (.int (1 : Int32)), .val (.int (1 : Int32)), .val (.ref b68), .val (.int (1 : Int32)), .val (.int (1 : Int32)), .val (.int (1 : Int32)), .val (.int (1 : Int32)), .unset, .unset] [(.int (1 : Int32))])
      have Z0_c80 := Nat.le_trans Z0_c77 K79.1
      have K0_c80 := K0_c77.trans K79 (allS (Or.inr sz_b68) all0)
      have P76_0_c80 := P76_0.keep K79
      have F_begun_e81 : Fld Z T79.heap b68 "com/example/eventail/eventail/DeliveryCount" "begun" "J" (.long (1 : Int64)) := P79_2
      refine own_go (fun _ k => XS.istore X79.here hx rfl (hb hby at_110) rfl (l' := #[.val (.int p1), .val (.int p2), .val (.int (1 : Int32)), .val (.int (1 : Int32)), .val (.ref b68), .val (.int (1 : Int32)), .val (.int (1 : Int32)), .val (.int (1 : Int32)), .val (.int (1 : Int32)), .val (.int (1 : Int32)), .unset]) rfl k) ?_
      refine own_go (fun _ k => XS.aload X79.here hx rfl (hb hby at_112) rfl rfl k) ?_
      show own_Run p e below _ T79 (mkF m 114 #[.val (.int p1), .val (.int p2), .val (.int (1 : Int32)), .val (.int (1 : Int32)), .val (.ref b68), .val (.int (1 : Int32)), .val (.int (1 : Int32)), .val (.int (1 : Int32)), .val (.int (1 : Int32)), .val (.int (1 : Int32)), .unset] [(.ref b68)])
      obtain ⟨cq82, kq82, q82a, q82b, q82c⟩ := isOf hZ rfl P79_0
      obtain ⟨_, _, ⟨T82, L82, k82, n82⟩, -, X82, ⟨Lc82, hQ82, l82, y82, z82⟩, st82⟩ := X79.virtualBack hx (y := (⟨"com/example/eventail/eventail/DeliveryCount", "isRoomWanted", "()Z"⟩ : MethodName)) (z := (⟨"com/example/eventail/eventail/DeliveryCount", "isRoomWanted", "()Z"⟩ : MethodName)) hown (mvT hZ (W 9 rfl)) (mvT hZ (W 10 rfl)) (notFace_of_selects (args := #[]) (mvT hZ (W 12 rfl))) (mvT hZ (W 12 rfl)) (mvT hZ (W 11 rfl)) (by decide) (backOf (W := 0) (rm3 l Z a0 hw [] b68 (1 : Int64) (1 : Int32) T79.heap n0 Z0_c80 P79_1 (Or.inr ⟨rfl, rfl⟩)) hZ (W 13 rfl) (W 2 rfl) (by decide) (by decide)) q82a q82c (g := (mkF m 114 #[.val (.int p1), .val (.int p2), .val (.int (1 : Int32)), .val (.int (1 : Int32)), .val (.ref b68), .val (.int (1 : Int32)), .val (.int (1 : Int32)), .val (.int (1 : Int32)), .val (.int (1 : Int32)), .val (.int (1 : Int32)), .unset] [(.ref b68)])) rfl (by rw [hml]; rfl) (Steps.refl _) (argsL := []) (rest := []) (lenOf pd_2 rfl) rfl (by show 2 * 0 + _ ≤ _; exact Nat.le_of_eq rfl) (hb hby at_114) (fun _ _ => ⟨rfl, rfl, (by decide : 1 + 0 ≤ _), (by decide : 16 + 0 ≤ _)⟩)
      dsimp only [Pt.U, Pt.locs, Pt.cells, Pt.slots] at X82 l82 y82 z82 st82 hQ82
      subst l82 y82 z82
      obtain ⟨rfl, N82q, e82⟩ := hQ82
      have N82 := Fr.app N79 N82q
      refine own_goT st82 ?_
      show own_Run p e below _ T82 (mkF m 117 #[.val (.int p1), .val (.int p2), .val (.int (1 : Int32)), .val (.int (1 : Int32)), .val (.ref b68), .val (.int (1 : Int32)), .val (.int (1 : Int32)), .val (.int (1 : Int32)), .val (.int (1 : Int32)), .val (.int (1 : Int32)), .unset] [(.int (1 : Int32))])
      refine own_go (fun _ k => XS.istore X82.here hx rfl (hb hby at_117) rfl (l' := #[.val (.int p1), .val (.int p2), .val (.int (1 : Int32)), .val (.int (1 : Int32)), .val (.ref b68), .val (.int (1 : Int32)), .val (.int (1 : Int32)), .val (.int (1 : Int32)), .val (.int (1 : Int32)), .val (.int (1 : Int32)), .val (.int (1 : Int32))]) rfl k) ?_
      refine own_go (fun _ k => XS.iload X82.here hx rfl (hb hby at_119) rfl k) ?_
      show own_Run p e below _ T82 (mkF m 121 #[.val (.int p1), .val (.int p2), .val (.int (1 : Int32)), .val (.int (1 : Int32)), .val (.ref b68), .val (.int (1 : Int32)), .val (.int (1 : Int32)), .val (.int (1 : Int32)), .val (.int (1 : Int32)), .val (.int (1 : Int32)), .val (.int (1 : Int32))] [(.int (1 : Int32))])
      refine own_go (fun _ k => XS.ifNo X82.here hx rfl (hb hby at_121) rfl ((if0 _ _).trans (feq (by decide : ¬ ((1 : Int32) = (0 : Int32)))).1) k) ?_
      show own_Run p e below _ T82 (mkF m 124 #[.val (.int p1), .val (.int p2), .val (.int (1 : Int32)), .val (.int (1 : Int32)), .val (.ref b68), .val (.int (1 : Int32)), .val (.int (1 : Int32)), .val (.int (1 : Int32)), .val (.int (1 : Int32)), .val (.int (1 : Int32)), .val (.int (1 : Int32))] [])
      refine own_go (fun _ k => XS.iload X82.here hx rfl (hb hby at_124) rfl k) ?_
      refine own_go (fun _ k => XS.iloadN X82.here hx rfl (hb hby at_126) rfl k) ?_
      show own_Run p e below _ T82 (mkF m 127 #[.val (.int p1), .val (.int p2), .val (.int (1 : Int32)), .val (.int (1 : Int32)), .val (.ref b68), .val (.int (1 : Int32)), .val (.int (1 : Int32)), .val (.int (1 : Int32)), .val (.int (1 : Int32)), .val (.int (1 : Int32)), .val (.int (1 : Int32))] [(.int (1 : Int32)), (.int (1 : Int32))])
      refine own_go (fun _ k => XS.icmpNo X82.here hx rfl (hb hby at_127) rfl (teq (by decide : (1 : Int32) = (1 : Int32))).2 k) ?_
      show own_Run p e below _ T82 (mkF m 130 #[.val (.int p1), .val (.int p2), .val (.int (1 : Int32)), .val (.int (1 : Int32)), .val (.ref b68), .val (.int (1 : Int32)), .val (.int (1 : Int32)), .val (.int (1 : Int32)), .val (.int (1 : Int32)), .val (.int (1 : Int32)), .val (.int (1 : Int32))] [])
      refine own_go (fun _ k => XS.iload X82.here hx rfl (hb hby at_130) rfl k) ?_
      refine own_go (fun _ k => XS.iloadN X82.here hx rfl (hb hby at_132) rfl k) ?_
      show own_Run p e below _ T82 (mkF m 133 #[.val (.int p1), .val (.int p2), .val (.int (1 : Int32)), .val (.int (1 : Int32)), .val (.ref b68), .val (.int (1 : Int32)), .val (.int (1 : Int32)), .val (.int (1 : Int32)), .val (.int (1 : Int32)), .val (.int (1 : Int32)), .val (.int (1 : Int32))] [(.int (1 : Int32)), (.int (1 : Int32))])
      refine own_go (fun _ k => XS.icmpNo X82.here hx rfl (hb hby at_133) rfl (teq (by decide : (1 : Int32) = (1 : Int32))).2 k) ?_
      show own_Run p e below _ T82 (mkF m 136 #[.val (.int p1), .val (.int p2), .val (.int (1 : Int32)), .val (.int (1 : Int32)), .val (.ref b68), .val (.int (1 : Int32)), .val (.int (1 : Int32)), .val (.int (1 : Int32)), .val (.int (1 : Int32)), .val (.int (1 : Int32)), .val (.int (1 : Int32))] [])
      refine own_go (fun _ k => XS.iload X82.here hx rfl (hb hby at_136) rfl k) ?_
      refine own_go (fun _ k => XS.iloadN X82.here hx rfl (hb hby at_138) rfl k) ?_
      show own_Run p e below _ T82 (mkF m 139 #[.val (.int p1), .val (.int p2), .val (.int (1 : Int32)), .val (.int (1 : Int32)), .val (.ref b68), .val (.int (1 : Int32)), .val (.int (1 : Int32)), .val (.int (1 : Int32)), .val (.int (1 : Int32)), .val (.int (1 : Int32)), .val (.int (1 : Int32))] [(.int (1 : Int32)), (.int (1 : Int32))])
      refine own_go (fun _ k => XS.icmpNo X82.here hx rfl (hb hby at_139) rfl (teq (by decide : (1 : Int32) = (1 : Int32))).2 k) ?_
      show own_Run p e below _ T82 (mkF m 142 #[.val (.int p1), .val (.int p2), .val (.int (1 : Int32)), .val (.int (1 : Int32)), .val (.ref b68), .val (.int (1 : Int32)), .val (.int (1 : Int32)), .val (.int (1 : Int32)), .val (.int (1 : Int32)), .val (.int (1 : Int32)), .val (.int (1 : Int32))] [])
      refine own_go (fun _ k => XS.aload X82.here hx rfl (hb hby at_142) rfl rfl k) ?_
      show own_Run p e below _ T82 (mkF m 144 #[.val (.int p1), .val (.int p2), .val (.int (1 : Int32)), .val (.int (1 : Int32)), .val (.ref b68), .val (.int (1 : Int32)), .val (.int (1 : Int32)), .val (.int (1 : Int32)), .val (.int (1 : Int32)), .val (.int (1 : Int32)), .val (.int (1 : Int32))] [(.ref b68)])
      obtain ⟨cq83, kq83, q83a, q83b, q83c⟩ := isOf hZ e82 P79_0
      obtain ⟨_, _, ⟨T83, L83, k83, n83⟩, -, X83, ⟨Lc83, hQ83, l83, y83, z83⟩, st83⟩ := X82.virtualBack hx (y := (⟨"com/example/eventail/eventail/DeliveryCount", "begun", "()J"⟩ : MethodName)) (z := (⟨"com/example/eventail/eventail/DeliveryCount", "begun", "()J"⟩ : MethodName)) hown (mvT hZ (W 28 rfl)) (mvT hZ (W 29 rfl)) (notFace_of_selects (args := #[]) (mvT hZ (W 31 rfl))) (mvT hZ (W 31 rfl)) (mvT hZ (W 30 rfl)) (by decide) (backOf (W := 0) (rm6 l Z a0 hw [] b68 (1 : Int64) T79.heap n0 Z0_c80 F_begun_e81) hZ (W 32 rfl) (W 2 rfl) (by decide) (by decide)) q83a q83c (g := (mkF m 144 #[.val (.int p1), .val (.int p2), .val (.int (1 : Int32)), .val (.int (1 : Int32)), .val (.ref b68), .val (.int (1 : Int32)), .val (.int (1 : Int32)), .val (.int (1 : Int32)), .val (.int (1 : Int32)), .val (.int (1 : Int32)), .val (.int (1 : Int32))] [(.ref b68)])) rfl (by rw [hml]; rfl) (Steps.refl _) (argsL := []) (rest := []) (lenOf pd_4 rfl) rfl (by show 2 * 0 + _ ≤ _; exact Nat.le_of_eq rfl) (hb hby at_144) (fun _ _ => ⟨rfl, e82, (by decide : 1 + 0 ≤ _), (by decide : 16 + 0 ≤ _)⟩)
      dsimp only [Pt.U, Pt.locs, Pt.cells, Pt.slots] at X83 l83 y83 z83 st83 hQ83
      subst l83 y83 z83
      obtain ⟨rfl, N83q, e83⟩ := hQ83
      have N83 := Fr.app N82 N83q
      refine own_goT st83 ?_
      show own_Run p e below _ T83 (mkF m 147 #[.val (.int p1), .val (.int p2), .val (.int (1 : Int32)), .val (.int (1 : Int32)), .val (.ref b68), .val (.int (1 : Int32)), .val (.int (1 : Int32)), .val (.int (1 : Int32)), .val (.int (1 : Int32)), .val (.int (1 : Int32)), .val (.int (1 : Int32))] [(.long (1 : Int64))])
      refine own_go (fun _ k => XS.lconst X83.here hx rfl (hb hby at_147) k) ?_
      refine own_go (fun _ k => XS.lcmp X83.here hx rfl (hb hby at_148) rfl k) ?_
      show own_Run p e below _ T83 (mkF m 149 #[.val (.int p1), .val (.int p2), .val (.int (1 : Int32)), .val (.int (1 : Int32)), .val (.ref b68), .val (.int (1 : Int32)), .val (.int (1 : Int32)), .val (.int (1 : Int32)), .val (.int (1 : Int32)), .val (.int (1 : Int32)), .val (.int (1 : Int32))] [(.int (lcmpW (1 : Int64) (1 : Int64)))])
      refine own_go (fun _ k => XS.ifNo X83.here hx rfl (hb hby at_149) rfl (own_lcTe (by decide : (1 : Int64) = (1 : Int64))).2 k) ?_
      show own_Run p e below _ T83 (mkF m 152 #[.val (.int p1), .val (.int p2), .val (.int (1 : Int32)), .val (.int (1 : Int32)), .val (.ref b68), .val (.int (1 : Int32)), .val (.int (1 : Int32)), .val (.int (1 : Int32)), .val (.int (1 : Int32)), .val (.int (1 : Int32)), .val (.int (1 : Int32))] [])
      refine own_go (fun _ k => XS.iconst X83.here hx rfl (hb hby at_152) k) ?_
      refine own_go (fun _ k => XS.goto X83.here hx rfl (pc0 := 153) (pc' := 157) rfl (hb hby at_153) (by decide) (by decide) k) ?_
      refine own_go (fun _ k => XS.istore X83.here hx rfl (hb hby at_157) rfl (l' := #[.val (.int p1), .val (.int p2), .val (.int (1 : Int32)), .val (.int (1 : Int32)), .val (.ref b68), .val (.int (1 : Int32)), .val (.int (1 : Int32)), .val (.int (1 : Int32)), .val (.int (1 : Int32)), .val (.int (1 : Int32)), .val (.int (1 : Int32))]) rfl k) ?_
      refine own_go (fun _ k => XS.iload X83.here hx rfl (hb hby at_159) rfl k) ?_
      show own_Run p e below _ T83 (mkF m 161 #[.val (.int p1), .val (.int p2), .val (.int (1 : Int32)), .val (.int (1 : Int32)), .val (.ref b68), .val (.int (1 : Int32)), .val (.int (1 : Int32)), .val (.int (1 : Int32)), .val (.int (1 : Int32)), .val (.int (1 : Int32)), .val (.int (1 : Int32))] [(.int (1 : Int32))])
      refine own_done (Q := fun v h L => Q0 Z p1 p2 h0 n0 v h L) (v := (some (.int (1 : Int32)))) X83 (fun h => by rw [hret] at h; cases h) hlk (fun fs hr => retN X83 hx (t := .boolean) hret (by simp) (hb hby at_161) hr) ?_ (by decide) (by decide)
      show Q0 Z p1 p2 h0 n0 _ T83.heap _
      rw [e83]
      exact ⟨rfl, N83⟩
set_option maxRecDepth 65536 in
set_option maxHeartbeats 40000000 in
theorem comes_1 {Post : Tables → Env → Array Value → State → Outcome → State → Prop} (hpost : ∀ tb e args s v u, (limb_1_1.after args s (.returned v) u = true ∧ limb_1_2.after args s (.returned v) u = true ∧ True) → FrameEnd s (.returned v) u (Jvm.fieldLocs frame_1_writes args s ++ Jvm.arrayLocs frame_1_arrays args s ++ Jvm.staticLocs frame_1_statics s) 16 128 → Post tb e args s (.returned v) u) :
    ArmFor flags0 classFile x code maxLocals ret World_1 tables_1 room_1 Calls_1 rest_1 Pre_1 Post := by
  intro l hfl _ _ p e ha hc hk s m args below hf hA hF happ hP
  obtain ⟨hcalls, hrest, hpre⟩ := hP
  obtain ⟨-, -, -, hnamed, -, -, -, hat⟩ := (Spec.applies_iff hf).mp happ
  obtain ⟨hg, hn⟩ := and_e (Cond.before_iff.mp (show (Jvm.Cond.and given_1 narrow_1).before args s = true from hpre))
  obtain ⟨hcount, hr0⟩ := and_e hg
  obtain ⟨ha0, hr1⟩ := and_e hr0
  have ha1 := hr1
  obtain ⟨w0, w1, rfl⟩ : ∃ w0 w1 : Value, args = #[w0, w1] := by
    have hs : args.size = 2 := by simpa [Cond.value, given_1] using hcount
    obtain ⟨L⟩ := args
    match L, hs with
    | [w0, w1], _ => exact ⟨w0, w1, rfl⟩
  have hw := fun d (hd : d ∈ tables_1) => atoms_spec (ws := Jvm.Cond.code x code maxLocals ret :: tables_1) hat d (List.mem_cons_of_mem _ hd)
  have W := fun (k : Nat) {d : Jvm.Cond} (h : tables_1[k]? = some d) => hw d (List.mem_of_getElem? h)
  have hfit : Fit s := fun {y c} hc i hi => by
    obtain ⟨ha, rfl⟩ := Array.getElem?_eq_some_iff.mp hc
    have q := List.all_eq_true.mp ((Array.all_eq_true_iff_forall_mem.mp hF) _ (Array.getElem_mem ha)) i (List.mem_range.mpr hi)
    simpa [Array.getElem?_eq_getElem hi] using q
  obtain ⟨i0, ei0⟩ := is_v ha0
  obtain rfl : w0 = (.int i0) := Option.some.inj ei0
  obtain ⟨i1, ei1⟩ := is_v ha1
  obtain rfl : w1 = (.int i1) := Option.some.inj ei1
  obtain ⟨n, o, h1, h2, h3, _, L, rfl, ⟨rfl, N⟩, hq⟩ := rm0 l s _ hw tables_1 i0 i1 s.heap s.heap.size (Nat.le_refl _) p e ha hc hk s m _ below hf ((Spec.applies_iff_loose hf).mp happ).1 ⟨rfl, State.Warmed39.refl s, rfl⟩ trivial
  refine ⟨n, _, h1, h2, h3, hpost _ _ _ _ _ _ ⟨Cond.after_iff.mpr rfl, Cond.after_iff.mpr (eq_i res_at (Term.int_eval (1)) rfl), trivial⟩ ⟨hq.1, hq.2.1, (hq.2.2.sift fun y hy => Or.inr (N y hy)).mono (by decide) (by decide)⟩⟩
theorem main_1_1 : Claimed_1_1 := comes_1 fun _ _ _ _ _ _ h hF => ⟨h.1, hF⟩
theorem main_1_2 : Claimed_1_2 := comes_1 fun _ _ _ _ _ _ h hF => ⟨h.2.1, hF⟩
end Jvm.Pilot.@@N@@
namespace Jvm.Pilot.@@N@@
open Jvm Jvm.ClassFile Sem Op Lib Jvm.Free Jvm.Stand Jvm.Pilot.@@N@@.Jvm.D
/-! MADE BY PROGRAM (witnessworld.py) out of the Statement's table words and the real class files: 9 classes; the members and pool entries that the words name. The judged class is class 1, her method 1. -/
namespace start1
open Jvm.ClassFile
def u (s : String) : CpInfo := .utf8 (stringToUtf16 s)
/-- a pool by its gaps: so many unusable entries, then the entry; so many at the end -/
def gap : Nat → List CpInfo → List CpInfo
  | 0, r => r
  | n + 1, r => .unusable :: gap n r
def poolList (es : List (Nat × CpInfo)) (last : Nat) : List CpInfo := es.foldr (fun e r => gap e.1 (e.2 :: r)) (gap last [])
def pool (es : List (Nat × CpInfo)) (last : Nat) : Array CpInfo := ⟨poolList es last⟩
def fileOf (pool : Array CpInfo) (this : Nat) (attrs : Array Attribute := #[]) (ms : Array MethodInfo := #[]) (fl : Nat := 33) (sup : Nat := 0) (ifs : Array Nat := #[]) (fds : Array FieldInfo := #[]) : ClassFile where
  minorVersion := 0
  majorVersion := 65
  constantPool := pool
  accessFlags := fl
  thisClass := this
  superClass := sup
  interfaces := ifs
  fields := fds
  methods := ms
  attributes := attrs
def plain (name : String) (sup : Option ClassId) : Class where
  name := name
  kind := .ordinary
  loader := none
  accessFlags := 33
  super := sup
  interfaces := #[]
  cf := none
  fields := #[]
  methods := #[]
  instanceTypes := #[]
  staticTypes := #[]
  resolved := #[]
  callSites := []
  init := .initialized
  statics := none
  mirror := none

def pool0 : Array CpInfo := pool [(5, u "<init>"), (0, u "()V"), (1, .class_ 10), (1, u "java/lang/Object")] 113

def k0c0 : Code := { maxStack := 0, maxLocals := 1, code := object_method_1_code, exceptionTable := #[], attributes := #[] }
def k0m0 : Method := { name := "<init>", desc := "()V", sig := { parameters := [], returnType := none }, accessFlags := 1, code := some k0c0 }
/-- java/lang/Object -/
def k0 : Class := { plain "java/lang/Object" none with
  accessFlags := 33
  interfaces := #[]
  cf := some (fileOf pool0 8 #[] #[{ accessFlags := 1, nameIndex := 5, descriptorIndex := 6, attributes := #[] }] 33 0 #[] #[])
  fields := #[]
  methods := #[k0m0]
  instanceTypes := #[]
  staticTypes := #[]
  resolved := Array.replicate 124 none
  statics := none }

def pool1 : Array CpInfo := pool [(2, .class_ 4), (0, .nameAndType 5 6), (0, u "java/lang/Object"), (0, u "<init>"), (0, u "()V"), (0, .class_ 8), (0, u "com/example/eventail/eventail/DeliveryCount"), (0, .methodref 7 3), (0, .methodref 7 11), (0, .nameAndType 12 13), (0, u "isRoomWanted"), (0, u "()Z"), (0, .methodref 7 15), (0, .nameAndType 16 17), (0, u "setRoomWanted"), (0, u "(Z)V"), (0, .methodref 7 19), (0, .nameAndType 20 13), (0, u "deliveryBegins"), (0, .methodref 7 22), (0, .nameAndType 23 24), (0, u "begun"), (0, u "()J"), (0, .class_ 26), (0, u "com/example/eventail/eventail/DeliveryCountIsRoomWantedPinLaw"), (2, u "law"), (0, u "(II)Z")] 3

def k1m0 : Method := { name := "<init>", desc := "()V", sig := { parameters := [], returnType := none }, accessFlags := 1, code := none }
def k1c1 : Code := { maxStack := 4, maxLocals := 11, code := code, exceptionTable := #[], attributes := #[] }
def k1m1 : Method := { name := "law", desc := "(II)Z", sig := { parameters := [.int, .int], returnType := some .boolean }, accessFlags := 9, code := some k1c1 }
/-- com/example/eventail/eventail/DeliveryCountIsRoomWantedPinLaw -/
def k1 : Class := { plain "com/example/eventail/eventail/DeliveryCountIsRoomWantedPinLaw" (some 0) with
  accessFlags := 49
  interfaces := #[]
  cf := some (fileOf pool1 25 #[] #[{ accessFlags := 1, nameIndex := 5, descriptorIndex := 6, attributes := #[] }, { accessFlags := 9, nameIndex := 29, descriptorIndex := 30, attributes := #[] }] 49 2 #[] #[])
  fields := #[]
  methods := #[k1m0, k1m1]
  instanceTypes := #[]
  staticTypes := #[]
  resolved := Array.replicate 34 none
  statics := none }

def pool2 : Array CpInfo := pool [(1, .methodref 2 3), (0, .class_ 4), (0, .nameAndType 5 6), (0, u "java/lang/Object"), (0, u "<init>"), (0, u "()V"), (0, .fieldref 8 9), (0, .class_ 10), (0, .nameAndType 11 12), (0, u "com/example/eventail/eventail/DeliveryCount"), (0, u "begun"), (0, u "J"), (0, .fieldref 8 14), (0, .nameAndType 15 12), (0, u "roomWanted"), (0, u "padBefore1"), (0, u "padBefore2"), (0, u "padBefore3"), (0, u "padBefore4"), (0, u "padBefore5"), (0, u "padBefore6"), (0, u "padBefore7"), (0, u "padAfter1"), (0, u "padAfter2"), (0, u "padAfter3"), (0, u "padAfter4"), (0, u "padAfter5"), (0, u "padAfter6"), (0, u "padAfter7"), (2, u "deliveryBegins"), (0, u "()Z"), (1, u "()J"), (0, u "isRoomWanted"), (0, u "setRoomWanted"), (0, u "(Z)V")] 2

def k2c0 : Code := { maxStack := 1, maxLocals := 1, code := prog_4_method_1_code, exceptionTable := #[], attributes := #[] }
def k2m0 : Method := { name := "<init>", desc := "()V", sig := { parameters := [], returnType := none }, accessFlags := 0, code := some k2c0 }
def k2c1 : Code := { maxStack := 5, maxLocals := 1, code := prog_4_method_2_code, exceptionTable := #[], attributes := #[] }
def k2m1 : Method := { name := "deliveryBegins", desc := "()Z", sig := { parameters := [], returnType := some .boolean }, accessFlags := 0, code := some k2c1 }
def k2c2 : Code := { maxStack := 2, maxLocals := 1, code := prog_4_method_3_code, exceptionTable := #[], attributes := #[] }
def k2m2 : Method := { name := "begun", desc := "()J", sig := { parameters := [], returnType := some .long }, accessFlags := 0, code := some k2c2 }
def k2c3 : Code := { maxStack := 4, maxLocals := 1, code := prog_4_method_4_code, exceptionTable := #[], attributes := #[] }
def k2m3 : Method := { name := "isRoomWanted", desc := "()Z", sig := { parameters := [], returnType := some .boolean }, accessFlags := 0, code := some k2c3 }
def k2c4 : Code := { maxStack := 3, maxLocals := 2, code := prog_4_method_5_code, exceptionTable := #[], attributes := #[] }
def k2m4 : Method := { name := "setRoomWanted", desc := "(Z)V", sig := { parameters := [.boolean], returnType := none }, accessFlags := 0, code := some k2c4 }
/-- com/example/eventail/eventail/DeliveryCount -/
def k2 : Class := { plain "com/example/eventail/eventail/DeliveryCount" (some 0) with
  accessFlags := 32
  interfaces := #[]
  cf := some (fileOf pool2 8 #[] #[{ accessFlags := 0, nameIndex := 5, descriptorIndex := 6, attributes := #[] }, { accessFlags := 0, nameIndex := 32, descriptorIndex := 33, attributes := #[] }, { accessFlags := 0, nameIndex := 11, descriptorIndex := 35, attributes := #[] }, { accessFlags := 0, nameIndex := 36, descriptorIndex := 33, attributes := #[] }, { accessFlags := 0, nameIndex := 37, descriptorIndex := 38, attributes := #[] }] 32 2 #[] #[{ accessFlags := 2, nameIndex := 16, descriptorIndex := 12, attributes := #[] }, { accessFlags := 2, nameIndex := 17, descriptorIndex := 12, attributes := #[] }, { accessFlags := 2, nameIndex := 18, descriptorIndex := 12, attributes := #[] }, { accessFlags := 2, nameIndex := 19, descriptorIndex := 12, attributes := #[] }, { accessFlags := 2, nameIndex := 20, descriptorIndex := 12, attributes := #[] }, { accessFlags := 2, nameIndex := 21, descriptorIndex := 12, attributes := #[] }, { accessFlags := 2, nameIndex := 22, descriptorIndex := 12, attributes := #[] }, { accessFlags := 66, nameIndex := 11, descriptorIndex := 12, attributes := #[] }, { accessFlags := 66, nameIndex := 15, descriptorIndex := 12, attributes := #[] }, { accessFlags := 2, nameIndex := 23, descriptorIndex := 12, attributes := #[] }, { accessFlags := 2, nameIndex := 24, descriptorIndex := 12, attributes := #[] }, { accessFlags := 2, nameIndex := 25, descriptorIndex := 12, attributes := #[] }, { accessFlags := 2, nameIndex := 26, descriptorIndex := 12, attributes := #[] }, { accessFlags := 2, nameIndex := 27, descriptorIndex := 12, attributes := #[] }, { accessFlags := 2, nameIndex := 28, descriptorIndex := 12, attributes := #[] }, { accessFlags := 2, nameIndex := 29, descriptorIndex := 12, attributes := #[] }])
  fields := #[{ name := "padBefore1", type := .long, accessFlags := 2, slot := 0, constantValue := 0 }, { name := "padBefore2", type := .long, accessFlags := 2, slot := 1, constantValue := 0 }, { name := "padBefore3", type := .long, accessFlags := 2, slot := 2, constantValue := 0 }, { name := "padBefore4", type := .long, accessFlags := 2, slot := 3, constantValue := 0 }, { name := "padBefore5", type := .long, accessFlags := 2, slot := 4, constantValue := 0 }, { name := "padBefore6", type := .long, accessFlags := 2, slot := 5, constantValue := 0 }, { name := "padBefore7", type := .long, accessFlags := 2, slot := 6, constantValue := 0 }, { name := "begun", type := .long, accessFlags := 66, slot := 7, constantValue := 0 }, { name := "roomWanted", type := .long, accessFlags := 66, slot := 8, constantValue := 0 }, { name := "padAfter1", type := .long, accessFlags := 2, slot := 9, constantValue := 0 }, { name := "padAfter2", type := .long, accessFlags := 2, slot := 10, constantValue := 0 }, { name := "padAfter3", type := .long, accessFlags := 2, slot := 11, constantValue := 0 }, { name := "padAfter4", type := .long, accessFlags := 2, slot := 12, constantValue := 0 }, { name := "padAfter5", type := .long, accessFlags := 2, slot := 13, constantValue := 0 }, { name := "padAfter6", type := .long, accessFlags := 2, slot := 14, constantValue := 0 }, { name := "padAfter7", type := .long, accessFlags := 2, slot := 15, constantValue := 0 }]
  methods := #[k2m0, k2m1, k2m2, k2m3, k2m4]
  instanceTypes := #[.long, .long, .long, .long, .long, .long, .long, .long, .long, .long, .long, .long, .long, .long, .long, .long]
  staticTypes := #[]
  resolved := Array.replicate 41 none
  statics := none }

def pool3 : Array CpInfo := pool [(1, u "java/lang/Cloneable"), (0, .class_ 1), (0, u "java/lang/Object"), (0, .class_ 3)] 3

/-- java/lang/Cloneable -/
def k3 : Class := { plain "java/lang/Cloneable" (some 0) with
  accessFlags := 1537
  interfaces := #[]
  cf := some (fileOf pool3 2 #[] #[] 1537 4 #[] #[])
  fields := #[]
  methods := #[]
  instanceTypes := #[]
  staticTypes := #[]
  resolved := Array.replicate 8 none
  statics := none }

def pool4 : Array CpInfo := pool [(1, u "java/io/Serializable"), (0, .class_ 1), (0, u "java/lang/Object"), (0, .class_ 3)] 3

/-- java/io/Serializable -/
def k4 : Class := { plain "java/io/Serializable" (some 0) with
  accessFlags := 1537
  interfaces := #[]
  cf := some (fileOf pool4 2 #[] #[] 1537 4 #[] #[])
  fields := #[]
  methods := #[]
  instanceTypes := #[]
  staticTypes := #[]
  resolved := Array.replicate 8 none
  statics := none }

/-- the primitive byte -/
def k5 : Class := { plain "byte" none with kind := .primitive 'B', accessFlags := 0x411 }
/-- [B -/
def k6 : Class := { plain "[B" (some 0) with kind := .array 5 .byte, interfaces := #[3, 4], accessFlags := 1041 }

/-- the primitive int -/
def k7 : Class := { plain "int" none with kind := .primitive 'I', accessFlags := 0x411 }
/-- [I -/
def k8 : Class := { plain "[I" (some 0) with kind := .array 7 .int, interfaces := #[3, 4], accessFlags := 1041 }

def heap : Heap := #[]
def classes : Array Class := #[k0, k1, k2, k3, k4, k5, k6, k7, k8]
def interned : List (Array UInt16 × Addr) := []
def slotsUsed : Nat := 0
def theMethod : MethodId := ⟨1, 1⟩
def args0 : Array Value := #[.int 5, .int 6]
def aboutOver (below : List Frame) : State where
  vm := { classes := classes, interned := interned.toArray }
  heap := heap
  slotsUsed := slotsUsed
  threads := #[{ frames := .invoking theMethod args0 :: below }]
def below0 : List Frame := [.native { method := ⟨0, 0⟩, args := #[] }]
def about1 : State := aboutOver below0
def p0 : Program := .bare "" "" ""
def e0 : Env := launch0.env 0 0 0
theorem w_frames : about1.frames = Frame.invoking theMethod args0 :: below0 := rfl
set_option maxRecDepth 65536 in
theorem w_args : argsFit about1.vm theMethod args0 = true := by decide +kernel
set_option maxRecDepth 65536 in
theorem w_heap : heapFits about1 = true := by decide +kernel
set_option maxRecDepth 65536 in
theorem w_runnable : about1.curStatus? = some .runnable := by decide +kernel
set_option maxRecDepth 65536 in
theorem w_alone : about1.alone = true := by decide +kernel
set_option maxRecDepth 65536 in
theorem w_named : about1.methodNamed? x = some theMethod := by decide +kernel
set_option maxRecDepth 65536 in
theorem w_hears : about1.hears theMethod below0 = true := by decide +kernel
set_option maxRecDepth 65536 in
theorem w_ripe : about1.ripe theMethod args0 below0 = true := by decide +kernel
theorem w_running : about1.status = .running := rfl
set_option maxRecDepth 65536 in
theorem w_room : about1.hasRoom e0.platform room_1 = true :=
  launch0.hasRoom_least _ room_1 (by decide +kernel) (by decide +kernel) (by decide +kernel) (by decide +kernel) (by decide +kernel) (by decide +kernel)
theorem allAtoms_all (ts : List Jvm.Cond) (a : Array Jvm.Value) (st : Jvm.State) : (allAtoms ts).before a st = ts.all (fun c => c.before a st) := by
  induction ts with
  | nil => rfl
  | cons c t ih =>
    show (Jvm.Cond.and c (allAtoms t)).before a st = _
    rw [Jvm.Cond.before_and, ih, List.all_cons]
def words1 : List Jvm.Cond := Jvm.Cond.code x code maxLocals ret :: tables_1
/-- a 'code' word, met by the world's own term for the bytes: nothing is compared byte by byte -/
theorem code_word {y : MethodName} {bytes : ByteArray} {mx : Nat} {rt : Option FieldType} {a : Array Value} {s : State} {m : MethodId} {meth : Method} {c : Code} (h1 : s.methodNamed? y = some m) (h2 : s.vm.method? m = some meth) (h3 : meth.code = some c) (h4 : c.code = bytes)
    (h5 : (c.maxLocals == mx && c.exceptionTable.isEmpty && decide (c.maxStack ≤ mostOperands) && decide (meth.sig.returnType = rt) && !meth.locks && decide (parseMethodDescriptor y.desc = some meth.sig)) = true) : (Jvm.Cond.code y bytes mx rt).before a s = true := by
  simp only [Bool.and_eq_true, beq_iff_eq, Bool.not_eq_true', decide_eq_true_eq] at h5
  obtain ⟨⟨⟨⟨⟨g1, g2⟩, g3⟩, g4⟩, g5⟩, g6⟩ := h5
  simp [Cond.before, Cond.holds, Cond.value, h1, h2, h3, h4, g1, g2, g3, g4, g5, g6]
def isCode : Jvm.Cond → Bool
  | .code _ _ _ _ => true
  | _ => false
theorem all_split {L : List Jvm.Cond} {P : Jvm.Cond → Bool} (h1 : L.all (fun c => isCode c || P c) = true) (h2 : ∀ c ∈ L.filter isCode, P c = true) : L.all P = true := by
  refine List.all_eq_true.mpr fun c hc => ?_
  have h := List.all_eq_true.mp h1 c hc
  rcases Bool.eq_false_or_eq_true (isCode c) with hi | hi
  · exact h2 c (List.mem_filter.mpr ⟨hc, hi⟩)
  · simpa [hi] using h
set_option maxRecDepth 65536 in
theorem w_c0 : (Jvm.Cond.code x code maxLocals ret).before args0 about1 = true := code_word (m := ⟨1, 1⟩) (meth := k1m1) (c := k1c1) (by decide +kernel) rfl rfl rfl (by decide +kernel)
set_option maxRecDepth 65536 in
theorem w_c1 : (Jvm.Cond.code ({ cls := "com/example/eventail/eventail/DeliveryCount", name := "<init>", desc := "()V" } : Jvm.MethodName) prog_4_method_1_code (1 : Nat) (Option.none : Option Jvm.ClassFile.FieldType)).before args0 about1 = true := code_word (m := ⟨2, 0⟩) (meth := k2m0) (c := k2c0) (by decide +kernel) rfl rfl rfl (by decide +kernel)
set_option maxRecDepth 65536 in
theorem w_c2 : (Jvm.Cond.code ({ cls := "java/lang/Object", name := "<init>", desc := "()V" } : Jvm.MethodName) object_method_1_code (1 : Nat) (Option.none : Option Jvm.ClassFile.FieldType)).before args0 about1 = true := code_word (m := ⟨0, 0⟩) (meth := k0m0) (c := k0c0) (by decide +kernel) rfl rfl rfl (by decide +kernel)
set_option maxRecDepth 65536 in
theorem w_c3 : (Jvm.Cond.code ({ cls := "com/example/eventail/eventail/DeliveryCount", name := "isRoomWanted", desc := "()Z" } : Jvm.MethodName) prog_4_method_4_code (1 : Nat) (Option.some Jvm.ClassFile.FieldType.boolean)).before args0 about1 = true := code_word (m := ⟨2, 3⟩) (meth := k2m3) (c := k2c3) (by decide +kernel) rfl rfl rfl (by decide +kernel)
set_option maxRecDepth 65536 in
theorem w_c4 : (Jvm.Cond.code ({ cls := "com/example/eventail/eventail/DeliveryCount", name := "setRoomWanted", desc := "(Z)V" } : Jvm.MethodName) prog_4_method_5_code (2 : Nat) (Option.none : Option Jvm.ClassFile.FieldType)).before args0 about1 = true := code_word (m := ⟨2, 4⟩) (meth := k2m4) (c := k2c4) (by decide +kernel) rfl rfl rfl (by decide +kernel)
set_option maxRecDepth 65536 in
theorem w_c5 : (Jvm.Cond.code ({ cls := "com/example/eventail/eventail/DeliveryCount", name := "deliveryBegins", desc := "()Z" } : Jvm.MethodName) prog_4_method_2_code (1 : Nat) (Option.some Jvm.ClassFile.FieldType.boolean)).before args0 about1 = true := code_word (m := ⟨2, 1⟩) (meth := k2m1) (c := k2c1) (by decide +kernel) rfl rfl rfl (by decide +kernel)
set_option maxRecDepth 65536 in
theorem w_c6 : (Jvm.Cond.code ({ cls := "com/example/eventail/eventail/DeliveryCount", name := "begun", desc := "()J" } : Jvm.MethodName) prog_4_method_3_code (1 : Nat) (Option.some Jvm.ClassFile.FieldType.long)).before args0 about1 = true := code_word (m := ⟨2, 2⟩) (meth := k2m2) (c := k2c2) (by decide +kernel) rfl rfl rfl (by decide +kernel)
def codes1 : List Jvm.Cond := [Jvm.Cond.code x code maxLocals ret, Jvm.Cond.code ({ cls := "com/example/eventail/eventail/DeliveryCount", name := "<init>", desc := "()V" } : Jvm.MethodName) prog_4_method_1_code (1 : Nat) (Option.none : Option Jvm.ClassFile.FieldType), Jvm.Cond.code ({ cls := "java/lang/Object", name := "<init>", desc := "()V" } : Jvm.MethodName) object_method_1_code (1 : Nat) (Option.none : Option Jvm.ClassFile.FieldType), Jvm.Cond.code ({ cls := "com/example/eventail/eventail/DeliveryCount", name := "isRoomWanted", desc := "()Z" } : Jvm.MethodName) prog_4_method_4_code (1 : Nat) (Option.some Jvm.ClassFile.FieldType.boolean), Jvm.Cond.code ({ cls := "com/example/eventail/eventail/DeliveryCount", name := "setRoomWanted", desc := "(Z)V" } : Jvm.MethodName) prog_4_method_5_code (2 : Nat) (Option.none : Option Jvm.ClassFile.FieldType), Jvm.Cond.code ({ cls := "com/example/eventail/eventail/DeliveryCount", name := "deliveryBegins", desc := "()Z" } : Jvm.MethodName) prog_4_method_2_code (1 : Nat) (Option.some Jvm.ClassFile.FieldType.boolean), Jvm.Cond.code ({ cls := "com/example/eventail/eventail/DeliveryCount", name := "begun", desc := "()J" } : Jvm.MethodName) prog_4_method_3_code (1 : Nat) (Option.some Jvm.ClassFile.FieldType.long)]
set_option maxRecDepth 65536 in
theorem codes_eq : words1.filter isCode = codes1 := rfl
theorem w_codes : ∀ c ∈ words1.filter isCode, c.before args0 about1 = true := by
  rw [codes_eq]
  intro c hc
  simp only [codes1, List.mem_cons, List.not_mem_nil, or_false] at hc
  rcases hc with rfl | rfl | rfl | rfl | rfl | rfl | rfl
  · exact w_c0
  · exact w_c1
  · exact w_c2
  · exact w_c3
  · exact w_c4
  · exact w_c5
  · exact w_c6
set_option maxRecDepth 65536 in
theorem w_t1 : (words1.take 24).all (fun c => isCode c || c.before args0 about1) = true := by decide +kernel
set_option maxRecDepth 65536 in
theorem w_t2 : (words1.drop 24).all (fun c => isCode c || c.before args0 about1) = true := by decide +kernel
theorem w_tables : (allAtoms (Jvm.Cond.code x code maxLocals ret :: tables_1)).before args0 about1 = true := by
  rw [allAtoms_all]
  show words1.all (fun c => c.before args0 about1) = true
  refine all_split ?_ w_codes
  rw [← List.take_append_drop 24 words1, List.all_append, w_t1, w_t2]
  rfl
set_option maxRecDepth 65536 in
theorem w_case : (Jvm.Cond.and given_1 narrow_1).before args0 about1 = true := by decide +kernel
theorem w_applies : (headSpec (Jvm.Cond.code x code maxLocals ret :: tables_1) room_1).applies x e0.platform about1 = true :=
  (Spec.applies_iff w_frames).mpr ⟨w_running, w_runnable, w_alone, w_named, w_hears, w_ripe, w_room, w_tables⟩
theorem atStart : AtStart classFile x code maxLocals ret World_1 tables_1 room_1 Calls_1 rest_1 Pre_1 launch0 p0 e0 about1 theMethod args0 below0 :=
  ⟨lists_1, trivial, launch0.admits_env _ _ _, launch0.least_env, fairChoices_fair.cas, fairChoices_fair.clock, w_frames, w_args, w_heap, w_applies, trivial, trivial, w_case⟩
end start1
theorem witness_1 : WitnessClaimed_1 := ⟨start1.p0, start1.e0, start1.about1, start1.theMethod, start1.args0, start1.below0, start1.atStart⟩
end Jvm.Pilot.@@N@@
