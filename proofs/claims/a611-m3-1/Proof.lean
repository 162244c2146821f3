import JvmDerived
import JvmDerived.Pilot.@@N@@Statement
import JvmDerived.Pilot.@@N@@Code
set_option linter.unusedVariables false
set_option linter.unusedSimpArgs false
namespace Jvm.Pilot.@@N@@
open Jvm Jvm.ClassFile Sem Op Lib Jvm.Free Jvm.Stand Jvm.LawKit Jvm.RoadKit Bundle Jvm.Pilot.@@N@@.Jvm.D
section OwnRun
variable {p : Program} {l : Launch} {e : Env} {R : Room} {s : State} {m : MethodId} {args : Array Value} {below : List Frame} {meth : Method} {c : Code} {T T' : State} {locs : List Loc} {cells slots : Nat}
/-- from here the run ends, as G says -/
def own_Run (p : Program) (e : Env) (below : List Frame) (G : Outcome → State → Prop) (T : State) (g : JFrame) : Prop :=
  ∃ s₂ o, Steps p.tables e below (T.setTop g) s₂ ∧ s₂.status = .running ∧ Ended s₂ below o ∧ G o s₂
theorem own_go {G : Outcome → State → Prop} {g g' : JFrame} (h : ∀ t, Steps p.tables e below (T'.setTop g') t → Steps p.tables e below (T.setTop g) t) (k : own_Run p e below G T' g') : own_Run p e below G T g := by
  obtain ⟨s₂, o, h1, h2, h3, h4⟩ := k
  exact ⟨s₂, o, h _ h1, h2, h3, h4⟩
theorem own_goT {G : Outcome → State → Prop} {g g' : JFrame} (h : Steps p.tables e below (T.setTop g) (T'.setTop g')) (k : own_Run p e below G T' g') : own_Run p e below G T g :=
  own_go (fun _ q => h.trans q) k
theorem own_start {G : Outcome → State → Prop} {f f' : JFrame} (h : f = f') (k : own_Run p e below G T f') : ∃ s₂ o, Steps p.tables e below (T.setTop f) s₂ ∧ s₂.status = .running ∧ Ended s₂ below o ∧ G o s₂ := by
  subst h
  exact k
theorem own_done {Q : Option Value → Heap → List Loc → Prop} {C N : Nat} {g : JFrame} (X : Stand p l e R s m args below meth c T locs cells slots) {v : Option Value} (hv : meth.sig.returnType = none → v = none) (hlocks : meth.locks = false)
    (hstep : ∀ fs, (∀ (f : JFrame) (acts : List Action), f.method = m → f.locked = none → f.entered = [] → (doReturn e (T.setTop f) acts v).1 = T.setFrames fs) → Steps p.tables e below (T.setTop g) (T.setFrames fs))
    (hQ : Q v T.heap locs) (hc : cells ≤ C) (hs : slots ≤ N) :
    own_Run p e below (fun o U' => ∃ v L, o = .returned v ∧ Q v U'.heap L ∧ FrameEnd s o U' L C N) T g := by
  obtain ⟨fs, hr, hrun, hended, hW, hsame⟩ := X.leave hv hlocks
  exact ⟨_, _, hstep fs hr, hrun, hended, _, _, rfl, hQ, ⟨_, rfl⟩, hW, hsame.mono hc hs⟩
theorem own_mono {cells' slots' : Nat} (X : Stand p l e R s m args below meth c T locs cells slots) (hc : cells ≤ cells') (hs : slots ≤ slots') : Stand p l e R s m args below meth c T locs cells' slots' :=
  ⟨X.admits, X.cas, X.clock, X.frames, X.room, X.hears, X.method, X.code, X.here, X.tail, X.warmed, X.limits, X.bytes, X.same.mono hc hs⟩
theorem own_retI (X : Stand p l e R s m args below meth c T locs cells slots) (hx : p.tables.exec = Jvm.exec) {pc : Nat} {Ls : Array Slot} {z : Int32} {rest : List Value} (hret : meth.sig.returnType = some .int) (hd : decode c.code pc = .ok (.ireturn, 1)) {fs : List Frame}
    (hl : ∀ (f : JFrame) (acts : List Action), f.method = m → f.locked = none → f.entered = [] → (doReturn e (T.setTop f) acts (some (.int z))).1 = T.setFrames fs) : Steps p.tables e below (T.setTop (mkF m pc Ls (.int z :: rest))) (T.setFrames fs) :=
  retOut X hx hret rfl (Or.inl ⟨rfl, Or.inl rfl, z, rfl⟩) hd hl
theorem own_retL (X : Stand p l e R s m args below meth c T locs cells slots) (hx : p.tables.exec = Jvm.exec) {pc : Nat} {Ls : Array Slot} {z : Int64} {rest : List Value} (hret : meth.sig.returnType = some .long) (hd : decode c.code pc = .ok (.lreturn, 1)) {fs : List Frame}
    (hl : ∀ (f : JFrame) (acts : List Action), f.method = m → f.locked = none → f.entered = [] → (doReturn e (T.setTop f) acts (some (.long z))).1 = T.setFrames fs) : Steps p.tables e below (T.setTop (mkF m pc Ls (.long z :: rest))) (T.setFrames fs) :=
  retOut X hx hret rfl (Or.inr (Or.inl ⟨rfl, rfl, z, rfl⟩)) hd hl
theorem own_retA {t : FieldType} (X : Stand p l e R s m args below meth c T locs cells slots) (hx : p.tables.exec = Jvm.exec) {pc : Nat} {Ls : Array Slot} {w : Value} {rest : List Value} (hret : meth.sig.returnType = some t) (ht : t.isReference = true) (hn : narrow t w = w) (hw : w.isRef = true) (hd : decode c.code pc = .ok (.areturn, 1)) {fs : List Frame}
    (hl : ∀ (f : JFrame) (acts : List Action), f.method = m → f.locked = none → f.entered = [] → (doReturn e (T.setTop f) acts (some w)).1 = T.setFrames fs) : Steps p.tables e below (T.setTop (mkF m pc Ls (w :: rest))) (T.setFrames fs) :=
  retOut X hx hret hn (Or.inr (Or.inr (Or.inr (Or.inr ⟨rfl, ht, hw⟩)))) hd hl
theorem own_ns {Z : State} {h : Heap} {a : Addr} {C : String} (E : Exa Z h a C) : ∃ c : Cell, h[a]? = some c ∧ c.vm.isStatics = false := by
  obtain ⟨c, k, h1, -, -, h4, -⟩ := E
  exact ⟨c, h1, h4⟩
theorem own_nsV {Z : State} {h : Heap} {a : Addr} {k : ClassId} {ty : FieldType} {n : Int32} {vs : List Value} {d : Value} (V : Arv Z h a k ty n vs d) : ∃ c : Cell, h[a]? = some c ∧ c.vm.isStatics = false := by
  obtain ⟨c, A, -⟩ := V
  exact ⟨c, A.1, A.plain⟩
theorem own_staKeep {Z : State} {h h' : Heap} {ws : List Addr} {C n d : String} {w : Value} (F : Sta Z h C n d w) (K : Keep h h' ws) (q : ∀ x ∈ ws, ∃ c : Cell, h[x]? = some c ∧ c.vm.isStatics = false) : Sta Z h' C n d w := by
  obtain ⟨cf, i, k, f, st, cell, h1, h2, h3, h4, h5, h6, h7⟩ := F
  refine ⟨cf, i, k, f, st, cell, h1, h2, h3, h4, K.2.1 st cell h5 (fun hm => ?_), h6, h7⟩
  obtain ⟨c, e1, e2⟩ := q st hm
  cases h5.symm.trans e1
  rw [h6] at e2; cases e2
theorem own_eqL {args : Array Value} {first s : State} {o : Option Outcome} {idx : List Nat} {t : Term} {n : Int64} (h : (Jvm.Cond.eq t (Term.long n)).value args first o s idx = some true) : t.eval args first o idx s = some (.long n) := by
  cases ht : t.eval args first o idx s with
  | none => simp [Cond.value, ht] at h
  | some x => cases x <;> simp [Cond.value, ht, Term.eval] at h ⊢ <;> exact h
theorem own_eqI {args : Array Value} {first s : State} {o : Option Outcome} {idx : List Nat} {t : Term} {n : Int32} (h : (Jvm.Cond.eq t (Term.int n)).value args first o s idx = some true) : t.eval args first o idx s = some (.int n) := by
  cases ht : t.eval args first o idx s with
  | none => simp [Cond.value, ht] at h
  | some x => cases x <;> simp [Cond.value, ht, Term.eval] at h ⊢ <;> exact h
theorem own_eqR {args : Array Value} {first s : State} {o : Option Outcome} {idx : List Nat} {t u : Term} {x : Addr} (h : (Jvm.Cond.eq t u).value args first o s idx = some true) (hu : u.eval args first o idx s = some (.ref x)) : t.eval args first o idx s = some (.ref x) := by
  cases ht : t.eval args first o idx s with
  | none => simp [Cond.value, ht] at h
  | some y => cases y <;> simp [Cond.value, ht, hu] at h ⊢ <;> exact h
theorem own_nf {s : State} {args : Array Value} {C : String} {y y' : MethodName} (hsel : (Jvm.Cond.selects C y y).before args s = true) (hc : y'.cls = y.cls) : NotFace s y' := fun r0 h0 => by
  obtain ⟨c2, r2, m2, q1, q2, q3, q4, kP, hkP, hkPi⟩ := Cond.selects_spec hsel
  have a := findClass_of_methodNamed q3
  have b := findClass_of_methodNamed h0
  rw [hc] at b
  have e := Option.some.inj (a.symm.trans b)
  exact ⟨kP, by rw [← e]; exact hkP, hkPi⟩
theorem own_selP {s : State} {args args' : Array Value} {C : String} {y y' : MethodName} (hsel : (Jvm.Cond.selects C y' y').before args s = true) (hc : y.cls = y'.cls) (hpriv : s.PrivateAt y) (hinst : (Jvm.Cond.instanceMethod y).before args' s = true) (hy : y.cls ≠ "java/lang/invoke/MethodHandle" ∧ y.cls ≠ "java/lang/invoke/VarHandle") : (Jvm.Cond.selects y.cls y y).before args' s = true := by
  obtain ⟨mk, methM, hnamed, -, -, -⟩ := Cond.instanceMethod_spec hinst
  obtain ⟨k, hk, hni⟩ := own_nf hsel hc mk hnamed
  exact selects_self_of_private (findClass_of_methodNamed hnamed) hk hni hpriv hinst hy
end OwnRun
theorem own_lcLt {x y : Int64} (h : x < y) : lcmpW x y = -1 := by
  have h1 : ¬ (x > y) := by simp only [GT.gt, Int64.lt_iff_toInt_lt] at h ⊢; omega
  have h2 : ¬ (x = y) := by rintro rfl; exact Int64.lt_irrefl h
  simp [lcmpW, h1, h2]
theorem own_lcGt {x y : Int64} (h : y < x) : lcmpW x y = 1 := by
  have h1 : x > y := h
  simp [lcmpW, h1]
theorem own_lcEq {x y : Int64} (h : x = y) : lcmpW x y = 0 := by
  subst h
  have h1 : ¬ (x > x) := Int64.lt_irrefl
  simp [lcmpW, h1]
theorem own_lcNlt {x y : Int64} (h : ¬ x < y) : lcmpW x y = 0 ∨ lcmpW x y = 1 := by
  by_cases q : x = y
  · exact Or.inl (own_lcEq q)
  · refine Or.inr (own_lcGt ?_)
    simp only [Int64.lt_iff_toInt_lt, ← Int64.toInt_inj] at h q ⊢; omega
theorem own_lcNgt {x y : Int64} (h : ¬ y < x) : lcmpW x y = 0 ∨ lcmpW x y = -1 := by
  by_cases q : x = y
  · exact Or.inl (own_lcEq q)
  · refine Or.inr (own_lcLt ?_)
    simp only [Int64.lt_iff_toInt_lt, ← Int64.toInt_inj] at h q ⊢; omega
theorem own_lcNe {x y : Int64} (h : ¬ x = y) : lcmpW x y = 1 ∨ lcmpW x y = -1 := by
  by_cases q : x < y
  · exact Or.inr (own_lcLt q)
  · refine Or.inl (own_lcGt ?_)
    simp only [Int64.lt_iff_toInt_lt, ← Int64.toInt_inj] at h q ⊢; omega
theorem own_lcT {x y : Int64} (h : x < y) : ifCond.holds .lt (lcmpW x y) = true ∧ ifCond.holds .ge (lcmpW x y) = false ∧ ifCond.holds .gt (lcmpW y x) = true ∧ ifCond.holds .le (lcmpW y x) = false := by
  rw [own_lcLt h, own_lcGt h]; decide
theorem own_lcF {x y : Int64} (h : ¬ x < y) : ifCond.holds .lt (lcmpW x y) = false ∧ ifCond.holds .ge (lcmpW x y) = true ∧ ifCond.holds .gt (lcmpW y x) = false ∧ ifCond.holds .le (lcmpW y x) = true := by
  rcases own_lcNlt h with q | q <;> rcases own_lcNgt (x := y) (y := x) h with r | r <;> rw [q, r] <;> decide
theorem own_lcTe {x y : Int64} (h : x = y) : ifCond.holds .eq (lcmpW x y) = true ∧ ifCond.holds .ne (lcmpW x y) = false := by
  rw [own_lcEq h]; decide
theorem own_lcFe {x y : Int64} (h : ¬ x = y) : ifCond.holds .eq (lcmpW x y) = false ∧ ifCond.holds .ne (lcmpW x y) = true := by
  rcases own_lcNe h with q | q <;> rw [q] <;> decide
theorem d1_0 : decode prog_59_method_11_code 0 = .ok (.iload_n 0, 1) := by decide +kernel
theorem d1_1 : decode prog_59_method_11_code 1 = .ok (.ifCond .eq 9, 3) := by decide +kernel
theorem d1_4 : decode prog_59_method_11_code 4 = .ok (.getstatic 92, 3) := by decide +kernel
theorem d1_7 : decode prog_59_method_11_code 7 = .ok (.goto 6, 3) := by decide +kernel
theorem d1_10 : decode prog_59_method_11_code 10 = .ok (.getstatic 96, 3) := by decide +kernel
theorem d1_13 : decode prog_59_method_11_code 13 = .ok (.areturn, 1) := by decide +kernel
theorem pn_1 : plainName "com/example/error_to_hazard/errortohazard/model/Expression" = true := by first | (simp [plainName, overriddenIn]; done) | decide +kernel
theorem ef_1 (m : MethodId) (x0 : Int32) : entryFrame m #[(.int x0)] 1 = mkF m 0 #[.val (.int x0)] [] := by first | (simp [entryFrame, mkF, argsToLocals, Value.category]; done) | rfl
def Q1 (Z : State) (p1 : Int32) (oF : Addr) (oR : Addr) (r : Addr) (h0 : Heap) (n0 : Nat) (v : Option Value) (h : Heap) (L : List Loc) : Prop := v = some (.ref r) ∧ Fr n0 L ∧ h = h0
set_option maxRecDepth 65536 in
set_option maxHeartbeats 40000000 in
theorem rm1 (l : Launch) (Z : State) (a0 : Array Value) (hw : ∀ d ∈ tables_1, d.before a0 Z = true) (ws : List Jvm.Cond) (p1 : Int32) (oF : Addr) (oR : Addr) (r : Addr) (h0 : Heap) (n0 : Nat) (Z0 : n0 ≤ h0.size) (S_FALSE : Sta Z h0 "com/example/error_to_hazard/errortohazard/model/Expression" "FALSE" "Lcom/example/error_to_hazard/errortohazard/model/Expression;" (.ref oF)) (S_TRUE : Sta Z h0 "com/example/error_to_hazard/errortohazard/model/Expression" "TRUE" "Lcom/example/error_to_hazard/errortohazard/model/Expression;" (.ref oR)) (hp : p1 = (0 : Int32) ∧ oF = r ∨ p1 = (1 : Int32) ∧ oR = r) :
    MetFree l (⟨"com/example/error_to_hazard/errortohazard/model/Expression", "constant", "(Z)Lcom/example/error_to_hazard/errortohazard/model/Expression;"⟩ : MethodName) (head1 (Jvm.Cond.code (⟨"com/example/error_to_hazard/errortohazard/model/Expression", "constant", "(Z)Lcom/example/error_to_hazard/errortohazard/model/Expression;"⟩ : MethodName) prog_59_method_11_code 1 (some (.object "com/example/error_to_hazard/errortohazard/model/Expression")) :: ws) ({ frames := 0, cells := 0, slots := 0, locals := 0 } : Room)) (fun a U => a = #[(.int p1)] ∧ Z.Warmed39 U.vm ∧ U.heap = h0) (fun _ _ _ _ _ => True) (fun _ U o U' => ∃ v L, o = .returned v ∧ Q1 Z p1 oF oR r h0 n0 v U'.heap L ∧ FrameEnd U o U' L ({ frames := 0, cells := 0, slots := 0, locals := 0 } : Room).cells ({ frames := 0, cells := 0, slots := 0, locals := 0 } : Room).slots) := by
  refine MetFree.of_bodySF (plainFor_of_name pn_1) hisR ?_
  intro p e s m args below meth c s₁ Bd hml0 hP hK
  obtain ⟨rfl, hZ, hh⟩ := hP
  have hx := Bd.exec
  have hby := Bd.bytes
  have hml : c.maxLocals = 1 := hml0
  have hown : s.vm.findClass "com/example/error_to_hazard/errortohazard/model/Expression" = some m.cls := findClass_of_methodNamed Bd.named
  have hnm := (name_of_methodNamed Bd.named Bd.method).1
  have hret := Bd.returns
  have hlk : meth.locks = false := BodyLoose.notSynchronized Bd
  have X0 : Stand p l e ({ frames := 0, cells := 0, slots := 0, locals := 0 } : Room) s m #[(.int p1)] below meth c s₁ [] 0 0 := Stand.of_body Bd
  have e0 : s₁.heap = h0 := by rw [← hh, Bd.state]; rfl
  have N0 := Fr.nil n0
  have W := fun (k : Nat) {d : Jvm.Cond} (h : tables_1[k]? = some d) => hw d (List.mem_of_getElem? h)
  have K0 : Keep h0 h0 [] := Keep.refl _ _
  refine own_start (ef_1 m p1) ?_
  show own_Run p e below _ s₁ (mkF m 0 #[.val (.int p1)] [])
  rcases hp with ⟨rfl, rfl⟩ | ⟨rfl, rfl⟩
  · show own_Run p e below _ s₁ (mkF m 0 #[.val (.int (0 : Int32))] [])
    refine own_go (fun _ k => XS.iloadN X0.here hx rfl (hb hby d1_0) rfl k) ?_
    show own_Run p e below _ s₁ (mkF m 1 #[.val (.int (0 : Int32))] [(.int (0 : Int32))])
    refine own_go (fun _ k => XS.ifYes X0.here hx rfl (pc0 := 1) (pc' := 10) rfl (hb hby d1_1) rfl ((if0 _ _).trans (teq (by decide : (0 : Int32) = (0 : Int32))).1) (by decide) (by decide) k) ?_
    show own_Run p e below _ s₁ (mkF m 10 #[.val (.int (0 : Int32))] [])
    obtain ⟨T1, X1, e1, st1⟩ := getS2 X0 hx hZ hown (host := "") (Or.inl (W 4 rfl)) Via.refl e0 S_FALSE (g := (mkF m 10 #[.val (.int (0 : Int32))] [])) rfl (hb hby d1_10)
    refine own_go st1 ?_
    show own_Run p e below _ T1 (mkF m 13 #[.val (.int (0 : Int32))] [(.ref oF)])
    refine own_done (Q := fun v h L => Q1 Z (0 : Int32) oF oR oF h0 n0 v h L) (v := (some (.ref oF))) X1 (fun h => by rw [hret] at h; cases h) hlk (fun fs hr => own_retA X1 hx hret rfl rfl rfl (hb hby d1_13) hr) ?_ (by decide) (by decide)
    show Q1 Z (0 : Int32) oF oR oF h0 n0 _ T1.heap _
    rw [e1]
    exact ⟨rfl, N0, rfl⟩
  · show own_Run p e below _ s₁ (mkF m 0 #[.val (.int (1 : Int32))] [])
    refine own_go (fun _ k => XS.iloadN X0.here hx rfl (hb hby d1_0) rfl k) ?_
    show own_Run p e below _ s₁ (mkF m 1 #[.val (.int (1 : Int32))] [(.int (1 : Int32))])
    refine own_go (fun _ k => XS.ifNo X0.here hx rfl (hb hby d1_1) rfl ((if0 _ _).trans (feq (by decide : ¬ ((1 : Int32) = (0 : Int32)))).1) k) ?_
    show own_Run p e below _ s₁ (mkF m 4 #[.val (.int (1 : Int32))] [])
    obtain ⟨T2, X2, e2, st2⟩ := getS2 X0 hx hZ hown (host := "") (Or.inl (W 45 rfl)) Via.refl e0 S_TRUE (g := (mkF m 4 #[.val (.int (1 : Int32))] [])) rfl (hb hby d1_4)
    refine own_go st2 ?_
    show own_Run p e below _ T2 (mkF m 7 #[.val (.int (1 : Int32))] [(.ref oR)])
    refine own_go (fun _ k => XS.goto X2.here hx rfl (pc0 := 7) (pc' := 13) rfl (hb hby d1_7) (by decide) (by decide) k) ?_
    show own_Run p e below _ T2 (mkF m 13 #[.val (.int (1 : Int32))] [(.ref oR)])
    refine own_done (Q := fun v h L => Q1 Z (1 : Int32) oF oR oR h0 n0 v h L) (v := (some (.ref oR))) X2 (fun h => by rw [hret] at h; cases h) hlk (fun fs hr => own_retA X2 hx hret rfl rfl rfl (hb hby d1_13) hr) ?_ (by decide) (by decide)
    show Q1 Z (1 : Int32) oF oR oR h0 n0 _ T2.heap _
    rw [e2]
    exact ⟨rfl, N0, rfl⟩
theorem d2_0 : decode prog_59_method_4_code 0 = .ok (.aload_n 0, 1) := by decide +kernel
theorem d2_1 : decode prog_59_method_4_code 1 = .ok (.getfield 7, 3) := by decide +kernel
theorem d2_4 : decode prog_59_method_4_code 4 = .ok (.areturn, 1) := by decide +kernel
theorem pn_2 : plainName "com/example/error_to_hazard/errortohazard/model/Expression" = true := by first | (simp [plainName, overriddenIn]; done) | decide +kernel
theorem ef_2 (m : MethodId) (x0 : Addr) : entryFrame m #[(.ref x0)] 1 = mkF m 0 #[.val (.ref x0)] [] := by first | (simp [entryFrame, mkF, argsToLocals, Value.category]; done) | rfl
def Q2 (Z : State) (a1 : Addr) (w1 : Addr) (h0 : Heap) (n0 : Nat) (v : Option Value) (h : Heap) (L : List Loc) : Prop := v = some (.ref w1) ∧ Fr n0 L ∧ h = h0
set_option maxRecDepth 65536 in
set_option maxHeartbeats 40000000 in
theorem rm2 (l : Launch) (Z : State) (a0 : Array Value) (hw : ∀ d ∈ tables_1, d.before a0 Z = true) (ws : List Jvm.Cond) (a1 : Addr) (w1 : Addr) (h0 : Heap) (n0 : Nat) (Z0 : n0 ≤ h0.size) (F_type_a1 : Fld Z h0 a1 "com/example/error_to_hazard/errortohazard/model/Expression" "type" "Lcom/example/error_to_hazard/errortohazard/model/Type;" (.ref w1)) :
    MetFree l (⟨"com/example/error_to_hazard/errortohazard/model/Expression", "type", "()Lcom/example/error_to_hazard/errortohazard/model/Type;"⟩ : MethodName) (head1 (Jvm.Cond.code (⟨"com/example/error_to_hazard/errortohazard/model/Expression", "type", "()Lcom/example/error_to_hazard/errortohazard/model/Type;"⟩ : MethodName) prog_59_method_4_code 1 (some (.object "com/example/error_to_hazard/errortohazard/model/Type")) :: ws) ({ frames := 0, cells := 0, slots := 0, locals := 0 } : Room)) (fun a U => a = #[(.ref a1)] ∧ Z.Warmed39 U.vm ∧ U.heap = h0) (fun _ _ _ _ _ => True) (fun _ U o U' => ∃ v L, o = .returned v ∧ Q2 Z a1 w1 h0 n0 v U'.heap L ∧ FrameEnd U o U' L ({ frames := 0, cells := 0, slots := 0, locals := 0 } : Room).cells ({ frames := 0, cells := 0, slots := 0, locals := 0 } : Room).slots) := by
  refine MetFree.of_bodySF (plainFor_of_name pn_2) hisR ?_
  intro p e s m args below meth c s₁ Bd hml0 hP hK
  obtain ⟨rfl, hZ, hh⟩ := hP
  have hx := Bd.exec
  have hby := Bd.bytes
  have hml : c.maxLocals = 1 := hml0
  have hown : s.vm.findClass "com/example/error_to_hazard/errortohazard/model/Expression" = some m.cls := findClass_of_methodNamed Bd.named
  have hnm := (name_of_methodNamed Bd.named Bd.method).1
  have hret := Bd.returns
  have hlk : meth.locks = false := BodyLoose.notSynchronized Bd
  have X0 : Stand p l e ({ frames := 0, cells := 0, slots := 0, locals := 0 } : Room) s m #[(.ref a1)] below meth c s₁ [] 0 0 := Stand.of_body Bd
  have e0 : s₁.heap = h0 := by rw [← hh, Bd.state]; rfl
  have N0 := Fr.nil n0
  have W := fun (k : Nat) {d : Jvm.Cond} (h : tables_1[k]? = some d) => hw d (List.mem_of_getElem? h)
  have K0 : Keep h0 h0 [] := Keep.refl _ _
  refine own_start (ef_2 m a1) ?_
  show own_Run p e below _ s₁ (mkF m 0 #[.val (.ref a1)] [])
  refine own_go (fun _ k => XS.aloadN X0.here hx rfl (hb hby d2_0) rfl rfl k) ?_
  show own_Run p e below _ s₁ (mkF m 1 #[.val (.ref a1)] [(.ref a1)])
  obtain ⟨T3, X3, e3, st3⟩ := getF X0 hx hZ hown (host := "") (Or.inl (W 11 rfl)) Via.refl e0 F_type_a1 (g := (mkF m 1 #[.val (.ref a1)] [(.ref a1)])) rfl rfl (hb hby d2_1)
  refine own_go st3 ?_
  show own_Run p e below _ T3 (mkF m 4 #[.val (.ref a1)] [(.ref w1)])
  refine own_done (Q := fun v h L => Q2 Z a1 w1 h0 n0 v h L) (v := (some (.ref w1))) X3 (fun h => by rw [hret] at h; cases h) hlk (fun fs hr => own_retA X3 hx hret rfl rfl rfl (hb hby d2_4) hr) ?_ (by decide) (by decide)
  show Q2 Z a1 w1 h0 n0 _ T3.heap _
  rw [e3]
  exact ⟨rfl, N0, rfl⟩
theorem d3_0 : decode prog_79_method_5_code 0 = .ok (.aload_n 0, 1) := by decide +kernel
theorem d3_1 : decode prog_79_method_5_code 1 = .ok (.getfield 7, 3) := by decide +kernel
theorem d3_4 : decode prog_79_method_5_code 4 = .ok (.areturn, 1) := by decide +kernel
theorem pn_3 : plainName "com/example/error_to_hazard/errortohazard/model/Type" = true := by first | (simp [plainName, overriddenIn]; done) | decide +kernel
theorem ef_3 (m : MethodId) (x0 : Addr) : entryFrame m #[(.ref x0)] 1 = mkF m 0 #[.val (.ref x0)] [] := by first | (simp [entryFrame, mkF, argsToLocals, Value.category]; done) | rfl
def Q3 (Z : State) (a1 : Addr) (w1 : Addr) (h0 : Heap) (n0 : Nat) (v : Option Value) (h : Heap) (L : List Loc) : Prop := v = some (.ref w1) ∧ Fr n0 L ∧ h = h0
set_option maxRecDepth 65536 in
set_option maxHeartbeats 40000000 in
theorem rm3 (l : Launch) (Z : State) (a0 : Array Value) (hw : ∀ d ∈ tables_1, d.before a0 Z = true) (ws : List Jvm.Cond) (a1 : Addr) (w1 : Addr) (h0 : Heap) (n0 : Nat) (Z0 : n0 ≤ h0.size) (F_kind_a1 : Fld Z h0 a1 "com/example/error_to_hazard/errortohazard/model/Type" "kind" "Lcom/example/error_to_hazard/errortohazard/model/Type$Kind;" (.ref w1)) :
    MetFree l (⟨"com/example/error_to_hazard/errortohazard/model/Type", "kind", "()Lcom/example/error_to_hazard/errortohazard/model/Type$Kind;"⟩ : MethodName) (head1 (Jvm.Cond.code (⟨"com/example/error_to_hazard/errortohazard/model/Type", "kind", "()Lcom/example/error_to_hazard/errortohazard/model/Type$Kind;"⟩ : MethodName) prog_79_method_5_code 1 (some (.object "com/example/error_to_hazard/errortohazard/model/Type$Kind")) :: ws) ({ frames := 0, cells := 0, slots := 0, locals := 0 } : Room)) (fun a U => a = #[(.ref a1)] ∧ Z.Warmed39 U.vm ∧ U.heap = h0) (fun _ _ _ _ _ => True) (fun _ U o U' => ∃ v L, o = .returned v ∧ Q3 Z a1 w1 h0 n0 v U'.heap L ∧ FrameEnd U o U' L ({ frames := 0, cells := 0, slots := 0, locals := 0 } : Room).cells ({ frames := 0, cells := 0, slots := 0, locals := 0 } : Room).slots) := by
  refine MetFree.of_bodySF (plainFor_of_name pn_3) hisR ?_
  intro p e s m args below meth c s₁ Bd hml0 hP hK
  obtain ⟨rfl, hZ, hh⟩ := hP
  have hx := Bd.exec
  have hby := Bd.bytes
  have hml : c.maxLocals = 1 := hml0
  have hown : s.vm.findClass "com/example/error_to_hazard/errortohazard/model/Type" = some m.cls := findClass_of_methodNamed Bd.named
  have hnm := (name_of_methodNamed Bd.named Bd.method).1
  have hret := Bd.returns
  have hlk : meth.locks = false := BodyLoose.notSynchronized Bd
  have X0 : Stand p l e ({ frames := 0, cells := 0, slots := 0, locals := 0 } : Room) s m #[(.ref a1)] below meth c s₁ [] 0 0 := Stand.of_body Bd
  have e0 : s₁.heap = h0 := by rw [← hh, Bd.state]; rfl
  have N0 := Fr.nil n0
  have W := fun (k : Nat) {d : Jvm.Cond} (h : tables_1[k]? = some d) => hw d (List.mem_of_getElem? h)
  have K0 : Keep h0 h0 [] := Keep.refl _ _
  refine own_start (ef_3 m a1) ?_
  show own_Run p e below _ s₁ (mkF m 0 #[.val (.ref a1)] [])
  refine own_go (fun _ k => XS.aloadN X0.here hx rfl (hb hby d3_0) rfl rfl k) ?_
  show own_Run p e below _ s₁ (mkF m 1 #[.val (.ref a1)] [(.ref a1)])
  obtain ⟨T4, X4, e4, st4⟩ := getF X0 hx hZ hown (host := "") (Or.inl (W 19 rfl)) Via.refl e0 F_kind_a1 (g := (mkF m 1 #[.val (.ref a1)] [(.ref a1)])) rfl rfl (hb hby d3_1)
  refine own_go st4 ?_
  show own_Run p e below _ T4 (mkF m 4 #[.val (.ref a1)] [(.ref w1)])
  refine own_done (Q := fun v h L => Q3 Z a1 w1 h0 n0 v h L) (v := (some (.ref w1))) X4 (fun h => by rw [hret] at h; cases h) hlk (fun fs hr => own_retA X4 hx hret rfl rfl rfl (hb hby d3_4) hr) ?_ (by decide) (by decide)
  show Q3 Z a1 w1 h0 n0 _ T4.heap _
  rw [e4]
  exact ⟨rfl, N0, rfl⟩
theorem d4_0 : decode prog_59_method_5_code 0 = .ok (.aload_n 0, 1) := by decide +kernel
theorem d4_1 : decode prog_59_method_5_code 1 = .ok (.getfield 13, 3) := by decide +kernel
theorem d4_4 : decode prog_59_method_5_code 4 = .ok (.ireturn, 1) := by decide +kernel
theorem pn_4 : plainName "com/example/error_to_hazard/errortohazard/model/Expression" = true := by first | (simp [plainName, overriddenIn]; done) | decide +kernel
theorem ef_4 (m : MethodId) (x0 : Addr) : entryFrame m #[(.ref x0)] 1 = mkF m 0 #[.val (.ref x0)] [] := by first | (simp [entryFrame, mkF, argsToLocals, Value.category]; done) | rfl
def Q4 (Z : State) (a1 : Addr) (w1 : Int32) (h0 : Heap) (n0 : Nat) (v : Option Value) (h : Heap) (L : List Loc) : Prop := v = some (.int w1) ∧ Fr n0 L ∧ h = h0
set_option maxRecDepth 65536 in
set_option maxHeartbeats 40000000 in
theorem rm4 (l : Launch) (Z : State) (a0 : Array Value) (hw : ∀ d ∈ tables_1, d.before a0 Z = true) (ws : List Jvm.Cond) (a1 : Addr) (w1 : Int32) (h0 : Heap) (n0 : Nat) (Z0 : n0 ≤ h0.size) (F_depth_a1 : Fld Z h0 a1 "com/example/error_to_hazard/errortohazard/model/Expression" "depth" "I" (.int w1)) :
    MetFree l (⟨"com/example/error_to_hazard/errortohazard/model/Expression", "depth", "()I"⟩ : MethodName) (head1 (Jvm.Cond.code (⟨"com/example/error_to_hazard/errortohazard/model/Expression", "depth", "()I"⟩ : MethodName) prog_59_method_5_code 1 (some .int) :: ws) ({ frames := 0, cells := 0, slots := 0, locals := 0 } : Room)) (fun a U => a = #[(.ref a1)] ∧ Z.Warmed39 U.vm ∧ U.heap = h0) (fun _ _ _ _ _ => True) (fun _ U o U' => ∃ v L, o = .returned v ∧ Q4 Z a1 w1 h0 n0 v U'.heap L ∧ FrameEnd U o U' L ({ frames := 0, cells := 0, slots := 0, locals := 0 } : Room).cells ({ frames := 0, cells := 0, slots := 0, locals := 0 } : Room).slots) := by
  refine MetFree.of_bodySF (plainFor_of_name pn_4) hisR ?_
  intro p e s m args below meth c s₁ Bd hml0 hP hK
  obtain ⟨rfl, hZ, hh⟩ := hP
  have hx := Bd.exec
  have hby := Bd.bytes
  have hml : c.maxLocals = 1 := hml0
  have hown : s.vm.findClass "com/example/error_to_hazard/errortohazard/model/Expression" = some m.cls := findClass_of_methodNamed Bd.named
  have hnm := (name_of_methodNamed Bd.named Bd.method).1
  have hret := Bd.returns
  have hlk : meth.locks = false := BodyLoose.notSynchronized Bd
  have X0 : Stand p l e ({ frames := 0, cells := 0, slots := 0, locals := 0 } : Room) s m #[(.ref a1)] below meth c s₁ [] 0 0 := Stand.of_body Bd
  have e0 : s₁.heap = h0 := by rw [← hh, Bd.state]; rfl
  have N0 := Fr.nil n0
  have W := fun (k : Nat) {d : Jvm.Cond} (h : tables_1[k]? = some d) => hw d (List.mem_of_getElem? h)
  have K0 : Keep h0 h0 [] := Keep.refl _ _
  refine own_start (ef_4 m a1) ?_
  show own_Run p e below _ s₁ (mkF m 0 #[.val (.ref a1)] [])
  refine own_go (fun _ k => XS.aloadN X0.here hx rfl (hb hby d4_0) rfl rfl k) ?_
  show own_Run p e below _ s₁ (mkF m 1 #[.val (.ref a1)] [(.ref a1)])
  obtain ⟨T5, X5, e5, st5⟩ := getF X0 hx hZ hown (host := "") (Or.inl (W 29 rfl)) Via.refl e0 F_depth_a1 (g := (mkF m 1 #[.val (.ref a1)] [(.ref a1)])) rfl rfl (hb hby d4_1)
  refine own_go st5 ?_
  show own_Run p e below _ T5 (mkF m 4 #[.val (.ref a1)] [(.int w1)])
  refine own_done (Q := fun v h L => Q4 Z a1 w1 h0 n0 v h L) (v := (some (.int w1))) X5 (fun h => by rw [hret] at h; cases h) hlk (fun fs hr => own_retI X5 hx hret (hb hby d4_4) hr) ?_ (by decide) (by decide)
  show Q4 Z a1 w1 h0 n0 _ T5.heap _
  rw [e5]
  exact ⟨rfl, N0, rfl⟩
theorem d5_0 : decode prog_62_method_2_code 0 = .ok (.aload_n 0, 1) := by decide +kernel
theorem d5_1 : decode prog_62_method_2_code 1 = .ok (.getfield 7, 3) := by decide +kernel
theorem d5_4 : decode prog_62_method_2_code 4 = .ok (.lreturn, 1) := by decide +kernel
theorem pn_5 : plainName "com/example/error_to_hazard/errortohazard/model/Expression$Constant" = true := by first | (simp [plainName, overriddenIn]; done) | decide +kernel
theorem ef_5n (m : MethodId) (x0 : Addr) : entryFrame m #[(.ref x0), .null] 2 = mkF m 0 #[.val (.ref x0), .val .null] [] := by first | (simp [entryFrame, mkF, argsToLocals, Value.category]; done) | rfl
def Q5 (Z : State) (a1 : Addr) (w1 : Int64) (h0 : Heap) (n0 : Nat) (v : Option Value) (h : Heap) (L : List Loc) : Prop := v = some (.long w1) ∧ Fr n0 L ∧ h = h0
set_option maxRecDepth 65536 in
set_option maxHeartbeats 40000000 in
theorem rm5 (l : Launch) (Z : State) (a0 : Array Value) (hw : ∀ d ∈ tables_1, d.before a0 Z = true) (ws : List Jvm.Cond) (a1 : Addr) (w1 : Int64) (h0 : Heap) (n0 : Nat) (Z0 : n0 ≤ h0.size) (F_value_a1 : Fld Z h0 a1 "com/example/error_to_hazard/errortohazard/model/Expression$Constant" "value" "J" (.long w1)) :
    MetFree l (⟨"com/example/error_to_hazard/errortohazard/model/Expression$Constant", "evaluate", "(Lcom/example/error_to_hazard/errortohazard/model/State;)J"⟩ : MethodName) (head1 (Jvm.Cond.code (⟨"com/example/error_to_hazard/errortohazard/model/Expression$Constant", "evaluate", "(Lcom/example/error_to_hazard/errortohazard/model/State;)J"⟩ : MethodName) prog_62_method_2_code 2 (some .long) :: ws) ({ frames := 0, cells := 0, slots := 0, locals := 0 } : Room)) (fun a U => a = #[(.ref a1), .null] ∧ Z.Warmed39 U.vm ∧ U.heap = h0) (fun _ _ _ _ _ => True) (fun _ U o U' => ∃ v L, o = .returned v ∧ Q5 Z a1 w1 h0 n0 v U'.heap L ∧ FrameEnd U o U' L ({ frames := 0, cells := 0, slots := 0, locals := 0 } : Room).cells ({ frames := 0, cells := 0, slots := 0, locals := 0 } : Room).slots) := by
  refine MetFree.of_bodySF (plainFor_of_name pn_5) hisR ?_
  intro p e s m args below meth c s₁ Bd hml0 hP hK
  obtain ⟨rfl, hZ, hh⟩ := hP
  have hx := Bd.exec
  have hby := Bd.bytes
  have hml : c.maxLocals = 2 := hml0
  have hown : s.vm.findClass "com/example/error_to_hazard/errortohazard/model/Expression$Constant" = some m.cls := findClass_of_methodNamed Bd.named
  have hnm := (name_of_methodNamed Bd.named Bd.method).1
  have hret := Bd.returns
  have hlk : meth.locks = false := BodyLoose.notSynchronized Bd
  have X0 : Stand p l e ({ frames := 0, cells := 0, slots := 0, locals := 0 } : Room) s m #[(.ref a1), .null] below meth c s₁ [] 0 0 := Stand.of_body Bd
  have e0 : s₁.heap = h0 := by rw [← hh, Bd.state]; rfl
  have N0 := Fr.nil n0
  have W := fun (k : Nat) {d : Jvm.Cond} (h : tables_1[k]? = some d) => hw d (List.mem_of_getElem? h)
  have K0 : Keep h0 h0 [] := Keep.refl _ _
  refine own_start (ef_5n m a1) ?_
  show own_Run p e below _ s₁ (mkF m 0 #[.val (.ref a1), .val .null] [])
  refine own_go (fun _ k => XS.aloadN X0.here hx rfl (hb hby d5_0) rfl rfl k) ?_
  show own_Run p e below _ s₁ (mkF m 1 #[.val (.ref a1), .val .null] [(.ref a1)])
  obtain ⟨T6, X6, e6, st6⟩ := getF X0 hx hZ hown (host := "") (Or.inl (W 37 rfl)) Via.refl e0 F_value_a1 (g := (mkF m 1 #[.val (.ref a1), .val .null] [(.ref a1)])) rfl rfl (hb hby d5_1)
  refine own_go st6 ?_
  show own_Run p e below _ T6 (mkF m 4 #[.val (.ref a1), .val .null] [(.long w1)])
  refine own_done (Q := fun v h L => Q5 Z a1 w1 h0 n0 v h L) (v := (some (.long w1))) X6 (fun h => by rw [hret] at h; cases h) hlk (fun fs hr => own_retL X6 hx hret (hb hby d5_4) hr) ?_ (by decide) (by decide)
  show Q5 Z a1 w1 h0 n0 _ T6.heap _
  rw [e6]
  exact ⟨rfl, N0, rfl⟩
theorem d6_0 : decode prog_59_method_3_code 0 = .ok (.aload_n 0, 1) := by decide +kernel
theorem d6_1 : decode prog_59_method_3_code 1 = .ok (.aload_n 1, 1) := by decide +kernel
theorem d6_2 : decode prog_59_method_3_code 2 = .ok (.invokevirtual 17, 3) := by decide +kernel
theorem d6_5 : decode prog_59_method_3_code 5 = .ok (.lconst 0, 1) := by decide +kernel
theorem d6_6 : decode prog_59_method_3_code 6 = .ok (.lcmp, 1) := by decide +kernel
theorem d6_7 : decode prog_59_method_3_code 7 = .ok (.ifCond .eq 7, 3) := by decide +kernel
theorem d6_10 : decode prog_59_method_3_code 10 = .ok (.iconst 1, 1) := by decide +kernel
theorem d6_11 : decode prog_59_method_3_code 11 = .ok (.goto 4, 3) := by decide +kernel
theorem d6_14 : decode prog_59_method_3_code 14 = .ok (.iconst 0, 1) := by decide +kernel
theorem d6_15 : decode prog_59_method_3_code 15 = .ok (.ireturn, 1) := by decide +kernel
theorem pn_6 : plainName "com/example/error_to_hazard/errortohazard/model/Expression" = true := by first | (simp [plainName, overriddenIn]; done) | decide +kernel
theorem ef_6n (m : MethodId) (x0 : Addr) : entryFrame m #[(.ref x0), .null] 2 = mkF m 0 #[.val (.ref x0), .val .null] [] := by first | (simp [entryFrame, mkF, argsToLocals, Value.category]; done) | rfl
theorem pd_1 : parseMethodDescriptor "(Lcom/example/error_to_hazard/errortohazard/model/State;)J" = some ⟨[(.object "com/example/error_to_hazard/errortohazard/model/State")], some .long⟩ := by decide +kernel
def Q6 (Z : State) (a1 : Addr) (w1 : Int64) (r : Int32) (h0 : Heap) (n0 : Nat) (v : Option Value) (h : Heap) (L : List Loc) : Prop := v = some (.int r) ∧ Fr n0 L ∧ h = h0
set_option maxRecDepth 65536 in
set_option maxHeartbeats 40000000 in
theorem rm6 (l : Launch) (Z : State) (a0 : Array Value) (hw : ∀ d ∈ tables_1, d.before a0 Z = true) (ws : List Jvm.Cond) (a1 : Addr) (w1 : Int64) (r : Int32) (h0 : Heap) (n0 : Nat) (Z0 : n0 ≤ h0.size) (E_a1 : Exa Z h0 a1 "com/example/error_to_hazard/errortohazard/model/Expression$Constant") (F_value_a1 : Fld Z h0 a1 "com/example/error_to_hazard/errortohazard/model/Expression$Constant" "value" "J" (.long w1)) (hp : w1 = (0 : Int64) ∧ r = (0 : Int32) ∨ w1 = (1 : Int64) ∧ r = (1 : Int32)) :
    MetFree l (⟨"com/example/error_to_hazard/errortohazard/model/Expression", "holds", "(Lcom/example/error_to_hazard/errortohazard/model/State;)Z"⟩ : MethodName) (head1 (Jvm.Cond.code (⟨"com/example/error_to_hazard/errortohazard/model/Expression", "holds", "(Lcom/example/error_to_hazard/errortohazard/model/State;)Z"⟩ : MethodName) prog_59_method_3_code 2 (some .boolean) :: ws) ({ frames := 1, cells := 0, slots := 0, locals := 13 } : Room)) (fun a U => a = #[(.ref a1), .null] ∧ Z.Warmed39 U.vm ∧ U.heap = h0) (fun _ _ _ _ _ => True) (fun _ U o U' => ∃ v L, o = .returned v ∧ Q6 Z a1 w1 r h0 n0 v U'.heap L ∧ FrameEnd U o U' L ({ frames := 1, cells := 0, slots := 0, locals := 13 } : Room).cells ({ frames := 1, cells := 0, slots := 0, locals := 13 } : Room).slots) := by
  refine MetFree.of_bodySF (plainFor_of_name pn_6) hisR ?_
  intro p e s m args below meth c s₁ Bd hml0 hP hK
  obtain ⟨rfl, hZ, hh⟩ := hP
  have hx := Bd.exec
  have hby := Bd.bytes
  have hml : c.maxLocals = 2 := hml0
  have hown : s.vm.findClass "com/example/error_to_hazard/errortohazard/model/Expression" = some m.cls := findClass_of_methodNamed Bd.named
  have hnm := (name_of_methodNamed Bd.named Bd.method).1
  have hret := Bd.returns
  have hlk : meth.locks = false := BodyLoose.notSynchronized Bd
  have X0 : Stand p l e ({ frames := 1, cells := 0, slots := 0, locals := 13 } : Room) s m #[(.ref a1), .null] below meth c s₁ [] 0 0 := Stand.of_body Bd
  have e0 : s₁.heap = h0 := by rw [← hh, Bd.state]; rfl
  have N0 := Fr.nil n0
  have W := fun (k : Nat) {d : Jvm.Cond} (h : tables_1[k]? = some d) => hw d (List.mem_of_getElem? h)
  have K0 : Keep h0 h0 [] := Keep.refl _ _
  refine own_start (ef_6n m a1) ?_
  show own_Run p e below _ s₁ (mkF m 0 #[.val (.ref a1), .val .null] [])
  rcases hp with ⟨rfl, rfl⟩ | ⟨rfl, rfl⟩
  · show own_Run p e below _ s₁ (mkF m 0 #[.val (.ref a1), .val .null] [])
    refine own_go (fun _ k => XS.aloadN X0.here hx rfl (hb hby d6_0) rfl rfl k) ?_
    refine own_go (fun _ k => XS.aloadN X0.here hx rfl (hb hby d6_1) rfl rfl k) ?_
    show own_Run p e below _ s₁ (mkF m 2 #[.val (.ref a1), .val .null] [.null, (.ref a1)])
    obtain ⟨cq7, kq7, q7a, q7b, q7c⟩ := isOf hZ e0 E_a1
    obtain ⟨_, _, ⟨T7, L7, k7, n7⟩, -, X7, ⟨Lc7, hQ7, l7, y7, z7⟩, st7⟩ := X0.virtualBack hx (y := (⟨"com/example/error_to_hazard/errortohazard/model/Expression", "evaluate", "(Lcom/example/error_to_hazard/errortohazard/model/State;)J"⟩ : MethodName)) (z := (⟨"com/example/error_to_hazard/errortohazard/model/Expression$Constant", "evaluate", "(Lcom/example/error_to_hazard/errortohazard/model/State;)J"⟩ : MethodName)) hown (mvT hZ (W 44 rfl)) (mvT hZ (W 32 rfl)) (own_nf (args := #[]) (mvT hZ (W 27 rfl)) rfl) (mvT hZ (W 33 rfl)) (mvT hZ (W 34 rfl)) (by decide) (backOf (W := 0) (rm5 l Z a0 hw [] a1 (0 : Int64) h0 n0 Z0 F_value_a1) hZ (W 36 rfl) (W 35 rfl) (by decide) (by decide)) q7a q7c (g := (mkF m 2 #[.val (.ref a1), .val .null] [.null, (.ref a1)])) rfl (by rw [hml]; rfl) (Steps.refl _) (argsL := [.null]) (rest := []) (lenOf pd_1 rfl) rfl (by show 2 * 0 + _ ≤ _; exact Nat.le_of_eq rfl) (hb hby d6_2) (fun _ _ => ⟨rfl, e0, (by decide : 0 + 0 ≤ _), (by decide : 0 + 0 ≤ _)⟩)
    dsimp only [Pt.U, Pt.locs, Pt.cells, Pt.slots] at X7 l7 y7 z7 st7 hQ7
    subst l7 y7 z7
    obtain ⟨rfl, N7q, e7⟩ := hQ7
    have N7 := Fr.app N0 N7q
    refine own_goT st7 ?_
    show own_Run p e below _ T7 (mkF m 5 #[.val (.ref a1), .val .null] [(.long (0 : Int64))])
    refine own_go (fun _ k => XS.lconst X7.here hx rfl (hb hby d6_5) k) ?_
    refine own_go (fun _ k => XS.lcmp X7.here hx rfl (hb hby d6_6) rfl k) ?_
    show own_Run p e below _ T7 (mkF m 7 #[.val (.ref a1), .val .null] [(.int (lcmpW (0 : Int64) (0 : Int64)))])
    refine own_go (fun _ k => XS.ifYes X7.here hx rfl (pc0 := 7) (pc' := 14) rfl (hb hby d6_7) rfl (own_lcTe (by decide : (0 : Int64) = (0 : Int64))).1 (by decide) (by decide) k) ?_
    show own_Run p e below _ T7 (mkF m 14 #[.val (.ref a1), .val .null] [])
    refine own_go (fun _ k => XS.iconst X7.here hx rfl (hb hby d6_14) k) ?_
    show own_Run p e below _ T7 (mkF m 15 #[.val (.ref a1), .val .null] [(.int (0 : Int32))])
    refine own_done (Q := fun v h L => Q6 Z a1 (0 : Int64) (0 : Int32) h0 n0 v h L) (v := (some (.int (0 : Int32)))) X7 (fun h => by rw [hret] at h; cases h) hlk (fun fs hr => retN X7 hx (t := .boolean) hret (by simp) (hb hby d6_15) hr) ?_ (by decide) (by decide)
    show Q6 Z a1 (0 : Int64) (0 : Int32) h0 n0 _ T7.heap _
    rw [e7]
    exact ⟨rfl, N7, rfl⟩
  · show own_Run p e below _ s₁ (mkF m 0 #[.val (.ref a1), .val .null] [])
    refine own_go (fun _ k => XS.aloadN X0.here hx rfl (hb hby d6_0) rfl rfl k) ?_
    refine own_go (fun _ k => XS.aloadN X0.here hx rfl (hb hby d6_1) rfl rfl k) ?_
    show own_Run p e below _ s₁ (mkF m 2 #[.val (.ref a1), .val .null] [.null, (.ref a1)])
    obtain ⟨cq8, kq8, q8a, q8b, q8c⟩ := isOf hZ e0 E_a1
    obtain ⟨_, _, ⟨T8, L8, k8, n8⟩, -, X8, ⟨Lc8, hQ8, l8, y8, z8⟩, st8⟩ := X0.virtualBack hx (y := (⟨"com/example/error_to_hazard/errortohazard/model/Expression", "evaluate", "(Lcom/example/error_to_hazard/errortohazard/model/State;)J"⟩ : MethodName)) (z := (⟨"com/example/error_to_hazard/errortohazard/model/Expression$Constant", "evaluate", "(Lcom/example/error_to_hazard/errortohazard/model/State;)J"⟩ : MethodName)) hown (mvT hZ (W 44 rfl)) (mvT hZ (W 32 rfl)) (own_nf (args := #[]) (mvT hZ (W 27 rfl)) rfl) (mvT hZ (W 33 rfl)) (mvT hZ (W 34 rfl)) (by decide) (backOf (W := 0) (rm5 l Z a0 hw [] a1 (1 : Int64) h0 n0 Z0 F_value_a1) hZ (W 36 rfl) (W 35 rfl) (by decide) (by decide)) q8a q8c (g := (mkF m 2 #[.val (.ref a1), .val .null] [.null, (.ref a1)])) rfl (by rw [hml]; rfl) (Steps.refl _) (argsL := [.null]) (rest := []) (lenOf pd_1 rfl) rfl (by show 2 * 0 + _ ≤ _; exact Nat.le_of_eq rfl) (hb hby d6_2) (fun _ _ => ⟨rfl, e0, (by decide : 0 + 0 ≤ _), (by decide : 0 + 0 ≤ _)⟩)
    dsimp only [Pt.U, Pt.locs, Pt.cells, Pt.slots] at X8 l8 y8 z8 st8 hQ8
    subst l8 y8 z8
    obtain ⟨rfl, N8q, e8⟩ := hQ8
    have N8 := Fr.app N0 N8q
    refine own_goT st8 ?_
    show own_Run p e below _ T8 (mkF m 5 #[.val (.ref a1), .val .null] [(.long (1 : Int64))])
    refine own_go (fun _ k => XS.lconst X8.here hx rfl (hb hby d6_5) k) ?_
    refine own_go (fun _ k => XS.lcmp X8.here hx rfl (hb hby d6_6) rfl k) ?_
    show own_Run p e below _ T8 (mkF m 7 #[.val (.ref a1), .val .null] [(.int (lcmpW (1 : Int64) (0 : Int64)))])
    refine own_go (fun _ k => XS.ifNo X8.here hx rfl (hb hby d6_7) rfl (own_lcFe (by decide : ¬ ((1 : Int64) = (0 : Int64)))).1 k) ?_
    show own_Run p e below _ T8 (mkF m 10 #[.val (.ref a1), .val .null] [])
    refine own_go (fun _ k => XS.iconst X8.here hx rfl (hb hby d6_10) k) ?_
    refine own_go (fun _ k => XS.goto X8.here hx rfl (pc0 := 11) (pc' := 15) rfl (hb hby d6_11) (by decide) (by decide) k) ?_
    show own_Run p e below _ T8 (mkF m 15 #[.val (.ref a1), .val .null] [(.int (1 : Int32))])
    refine own_done (Q := fun v h L => Q6 Z a1 (1 : Int64) (1 : Int32) h0 n0 v h L) (v := (some (.int (1 : Int32)))) X8 (fun h => by rw [hret] at h; cases h) hlk (fun fs hr => retN X8 hx (t := .boolean) hret (by simp) (hb hby d6_15) hr) ?_ (by decide) (by decide)
    show Q6 Z a1 (1 : Int64) (1 : Int32) h0 n0 _ T8.heap _
    rw [e8]
    exact ⟨rfl, N8, rfl⟩
theorem pn_0 : plainName "com/example/error_to_hazard/errortohazard/model/ExpressionConstantPinLaw" = true := by first | (simp [plainName, overriddenIn]; done) | decide +kernel
theorem ef_0 (m : MethodId) (x0 : Int32) : entryFrame m #[(.int x0)] maxLocals = mkF m 0 #[.val (.int x0), .unset, .unset, .unset, .unset, .unset, .unset, .unset, .unset] [] := by first | (simp [entryFrame, mkF, argsToLocals, Value.category, maxLocals]; done) | rfl
theorem pd_2 : parseMethodDescriptor "(Z)Lcom/example/error_to_hazard/errortohazard/model/Expression;" = some ⟨[.boolean], some (.object "com/example/error_to_hazard/errortohazard/model/Expression")⟩ := by decide +kernel
theorem pd_3 : parseMethodDescriptor "()Lcom/example/error_to_hazard/errortohazard/model/Type;" = some ⟨[], some (.object "com/example/error_to_hazard/errortohazard/model/Type")⟩ := by decide +kernel
theorem pd_4 : parseMethodDescriptor "()Lcom/example/error_to_hazard/errortohazard/model/Type$Kind;" = some ⟨[], some (.object "com/example/error_to_hazard/errortohazard/model/Type$Kind")⟩ := by decide +kernel
theorem pd_5 : parseMethodDescriptor "()I" = some ⟨[], some .int⟩ := by decide +kernel
theorem pd_6 : parseMethodDescriptor "(Lcom/example/error_to_hazard/errortohazard/model/State;)Z" = some ⟨[(.object "com/example/error_to_hazard/errortohazard/model/State")], some .boolean⟩ := by decide +kernel
def Q0 (Z : State) (p1 : Int32) (oF : Addr) (oT : Addr) (oB : Addr) (oR : Addr) (h0 : Heap) (n0 : Nat) (v : Option Value) (h : Heap) (L : List Loc) : Prop := v = some (.int (1 : Int32)) ∧ Fr n0 L
set_option maxRecDepth 65536 in
set_option maxHeartbeats 40000000 in
theorem rm0 (l : Launch) (Z : State) (a0 : Array Value) (hw : ∀ d ∈ tables_1, d.before a0 Z = true) (ws : List Jvm.Cond) (p1 : Int32) (oF : Addr) (oT : Addr) (oB : Addr) (oR : Addr) (h0 : Heap) (n0 : Nat) (Z0 : n0 ≤ h0.size) (S_FALSE : Sta Z h0 "com/example/error_to_hazard/errortohazard/model/Expression" "FALSE" "Lcom/example/error_to_hazard/errortohazard/model/Expression;" (.ref oF)) (E_oF : Exa Z h0 oF "com/example/error_to_hazard/errortohazard/model/Expression$Constant") (F_type_oF : Fld Z h0 oF "com/example/error_to_hazard/errortohazard/model/Expression" "type" "Lcom/example/error_to_hazard/errortohazard/model/Type;" (.ref oT)) (E_oT : Exa Z h0 oT "com/example/error_to_hazard/errortohazard/model/Type") (S_BOOL : Sta Z h0 "com/example/error_to_hazard/errortohazard/model/Type$Kind" "BOOL" "Lcom/example/error_to_hazard/errortohazard/model/Type$Kind;" (.ref oB)) (E_oB : Exa Z h0 oB "com/example/error_to_hazard/errortohazard/model/Type$Kind") (F_kind_oT : Fld Z h0 oT "com/example/error_to_hazard/errortohazard/model/Type" "kind" "Lcom/example/error_to_hazard/errortohazard/model/Type$Kind;" (.ref oB)) (F_depth_oF : Fld Z h0 oF "com/example/error_to_hazard/errortohazard/model/Expression" "depth" "I" (.int (1 : Int32))) (F_value_oF : Fld Z h0 oF "com/example/error_to_hazard/errortohazard/model/Expression$Constant" "value" "J" (.long (0 : Int64))) (S_TRUE : Sta Z h0 "com/example/error_to_hazard/errortohazard/model/Expression" "TRUE" "Lcom/example/error_to_hazard/errortohazard/model/Expression;" (.ref oR)) (E_oR : Exa Z h0 oR "com/example/error_to_hazard/errortohazard/model/Expression$Constant") (F_type_oR : Fld Z h0 oR "com/example/error_to_hazard/errortohazard/model/Expression" "type" "Lcom/example/error_to_hazard/errortohazard/model/Type;" (.ref oT)) (F_depth_oR : Fld Z h0 oR "com/example/error_to_hazard/errortohazard/model/Expression" "depth" "I" (.int (1 : Int32))) (F_value_oR : Fld Z h0 oR "com/example/error_to_hazard/errortohazard/model/Expression$Constant" "value" "J" (.long (1 : Int64))) :
    MetFree l x (head1 (Jvm.Cond.code x code maxLocals ret :: ws) room_1) (fun a U => a = #[(.int p1)] ∧ Z.Warmed39 U.vm ∧ U.heap = h0) (fun _ _ _ _ _ => True) (fun _ U o U' => ∃ v L, o = .returned v ∧ Q0 Z p1 oF oT oB oR h0 n0 v U'.heap L ∧ FrameEnd U o U' L room_1.cells room_1.slots) := by
  refine MetFree.of_bodySF (plainFor_of_name pn_0) hisR ?_
  intro p e s m args below meth c s₁ Bd hml0 hP hK
  obtain ⟨rfl, hZ, hh⟩ := hP
  have hx := Bd.exec
  have hby := Bd.bytes
  have hml : c.maxLocals = 9 := hml0
  have hown : s.vm.findClass "com/example/error_to_hazard/errortohazard/model/ExpressionConstantPinLaw" = some m.cls := findClass_of_methodNamed Bd.named
  have hnm := (name_of_methodNamed Bd.named Bd.method).1
  have hret := Bd.returns
  have hlk : meth.locks = false := BodyLoose.notSynchronized Bd
  have X0 : Stand p l e room_1 s m #[(.int p1)] below meth c s₁ [] 0 0 := Stand.of_body Bd
  have e0 : s₁.heap = h0 := by rw [← hh, Bd.state]; rfl
  have N0 := Fr.nil n0
  have W := fun (k : Nat) {d : Jvm.Cond} (h : tables_1[k]? = some d) => hw d (List.mem_of_getElem? h)
  have K0 : Keep h0 h0 [] := Keep.refl _ _
  refine own_start (ef_0 m p1) ?_
  show own_Run p e below _ s₁ (mkF m 0 #[.val (.int p1), .unset, .unset, .unset, .unset, .unset, .unset, .unset, .unset] [])
  refine own_go (fun _ k => XS.iloadN X0.here hx rfl (hb hby at_0) rfl k) ?_
  refine own_go (fun _ k => XS.iconst X0.here hx rfl (hb hby at_1) k) ?_
  refine own_go (fun _ k => XS.iand X0.here hx rfl (hb hby at_2) rfl k) ?_
  show own_Run p e below _ s₁ (mkF m 3 #[.val (.int p1), .unset, .unset, .unset, .unset, .unset, .unset, .unset, .unset] [(.int (p1 &&& (1 : Int32)))])
  by_cases hc3_9 : (p1 &&& (1 : Int32)) = (0 : Int32)
  · refine own_go (fun _ k => XS.ifYes X0.here hx rfl (pc0 := 3) (pc' := 10) rfl (hb hby at_3) rfl ((if0 _ _).trans (teq hc3_9).1) (by decide) (by decide) k) ?_
    show own_Run p e below _ s₁ (mkF m 10 #[.val (.int p1), .unset, .unset, .unset, .unset, .unset, .unset, .unset, .unset] [])
    refine own_go (fun _ k => XS.iconst X0.here hx rfl (hb hby at_10) k) ?_
    refine own_go (fun _ k => XS.istoreN X0.here hx rfl (hb hby at_11) rfl (l' := #[.val (.int p1), .val (.int (0 : Int32)), .unset, .unset, .unset, .unset, .unset, .unset, .unset]) rfl k) ?_
    refine own_go (fun _ k => XS.iloadN X0.here hx rfl (hb hby at_12) rfl k) ?_
    show own_Run p e below _ s₁ (mkF m 13 #[.val (.int p1), .val (.int (0 : Int32)), .unset, .unset, .unset, .unset, .unset, .unset, .unset] [(.int (0 : Int32))])
    obtain ⟨_, _, ⟨T10, L10, k10, n10⟩, -, X10, ⟨Lc10, hQ10, l10, y10, z10⟩, st10⟩ := Jvm.LawKit.callS X0 hx (y := (⟨"com/example/error_to_hazard/errortohazard/model/Expression", "constant", "(Z)Lcom/example/error_to_hazard/errortohazard/model/Expression;"⟩ : MethodName)) hown (mvT hZ (W 0 rfl)) (mvT hZ (W 1 rfl)) (mvT hZ (W 2 rfl)) (mvT hZ (W 3 rfl)) (by decide) (backOf (W := 0) (rm1 l Z a0 hw [] (0 : Int32) oF oR oF h0 n0 Z0 S_FALSE S_TRUE (Or.inl ⟨rfl, rfl⟩)) hZ (W 3 rfl) (W 2 rfl) (by decide) (by decide)) (g := (mkF m 13 #[.val (.int p1), .val (.int (0 : Int32)), .unset, .unset, .unset, .unset, .unset, .unset, .unset] [(.int (0 : Int32))])) rfl (by rw [hml]; rfl) (argsL := [(.int (0 : Int32))]) (rest := []) (lenOf pd_2 rfl) rfl (by show 2 * 0 + _ ≤ _; exact Nat.le_of_eq rfl) (hb hby at_13) (fun _ _ => ⟨rfl, e0, (by decide : 0 + 0 ≤ _), (by decide : 0 + 0 ≤ _)⟩)
    dsimp only [Pt.U, Pt.locs, Pt.cells, Pt.slots] at X10 l10 y10 z10 st10 hQ10
    subst l10 y10 z10
    obtain ⟨rfl, N10q, e10⟩ := hQ10
    have N10 := Fr.app N0 N10q
    refine own_go st10 ?_
    show own_Run p e below _ T10 (mkF m 16 #[.val (.int p1), .val (.int (0 : Int32)), .unset, .unset, .unset, .unset, .unset, .unset, .unset] [(.ref oF)])
    refine own_go (fun _ k => XS.astoreN X10.here hx rfl (hb hby at_16) rfl rfl (l' := #[.val (.int p1), .val (.int (0 : Int32)), .val (.ref oF), .unset, .unset, .unset, .unset, .unset, .unset]) rfl k) ?_
    refine own_go (fun _ k => XS.iloadN X10.here hx rfl (hb hby at_17) rfl k) ?_
    show own_Run p e below _ T10 (mkF m 18 #[.val (.int p1), .val (.int (0 : Int32)), .val (.ref oF), .unset, .unset, .unset, .unset, .unset, .unset] [(.int (0 : Int32))])
    refine own_go (fun _ k => XS.ifYes X10.here hx rfl (pc0 := 18) (pc' := 25) rfl (hb hby at_18) rfl ((if0 _ _).trans (teq (by decide : (0 : Int32) = (0 : Int32))).1) (by decide) (by decide) k) ?_
    show own_Run p e below _ T10 (mkF m 25 #[.val (.int p1), .val (.int (0 : Int32)), .val (.ref oF), .unset, .unset, .unset, .unset, .unset, .unset] [])
    refine own_go (fun _ k => XS.lconst X10.here hx rfl (hb hby at_25) k) ?_
    refine own_go (fun _ k => XS.lstoreN X10.here hx rfl (hb hby at_26) rfl (l' := #[.val (.int p1), .val (.int (0 : Int32)), .val (.ref oF), .val (.long (0 : Int64)), .second, .unset, .unset, .unset, .unset]) rfl k) ?_
    refine own_go (fun _ k => XS.aloadN X10.here hx rfl (hb hby at_27) rfl rfl k) ?_
    show own_Run p e below _ T10 (mkF m 28 #[.val (.int p1), .val (.int (0 : Int32)), .val (.ref oF), .val (.long (0 : Int64)), .second, .unset, .unset, .unset, .unset] [(.ref oF)])
    obtain ⟨cq11, kq11, q11a, q11b, q11c⟩ := isOf hZ e10 E_oF
    obtain ⟨_, _, ⟨T11, L11, k11, n11⟩, -, X11, ⟨Lc11, hQ11, l11, y11, z11⟩, st11⟩ := X10.virtualBack hx (y := (⟨"com/example/error_to_hazard/errortohazard/model/Expression", "type", "()Lcom/example/error_to_hazard/errortohazard/model/Type;"⟩ : MethodName)) (z := (⟨"com/example/error_to_hazard/errortohazard/model/Expression", "type", "()Lcom/example/error_to_hazard/errortohazard/model/Type;"⟩ : MethodName)) hown (mvT hZ (W 6 rfl)) (mvT hZ (W 7 rfl)) (notFace_of_selects (args := #[]) (mvT hZ (W 9 rfl))) (mvT hZ (W 9 rfl)) (mvT hZ (W 8 rfl)) (by decide) (backOf (W := 0) (rm2 l Z a0 hw [] oF oT h0 n0 Z0 F_type_oF) hZ (W 10 rfl) (W 2 rfl) (by decide) (by decide)) q11a q11c (g := (mkF m 28 #[.val (.int p1), .val (.int (0 : Int32)), .val (.ref oF), .val (.long (0 : Int64)), .second, .unset, .unset, .unset, .unset] [(.ref oF)])) rfl (by rw [hml]; rfl) (Steps.refl _) (argsL := []) (rest := []) (lenOf pd_3 rfl) rfl (by show 2 * 0 + _ ≤ _; exact Nat.le_of_eq rfl) (hb hby at_28) (fun _ _ => ⟨rfl, e10, (by decide : 0 + 0 ≤ _), (by decide : 0 + 0 ≤ _)⟩)
    dsimp only [Pt.U, Pt.locs, Pt.cells, Pt.slots] at X11 l11 y11 z11 st11 hQ11
    subst l11 y11 z11
    obtain ⟨rfl, N11q, e11⟩ := hQ11
    have N11 := Fr.app N10 N11q
    refine own_goT st11 ?_
    show own_Run p e below _ T11 (mkF m 31 #[.val (.int p1), .val (.int (0 : Int32)), .val (.ref oF), .val (.long (0 : Int64)), .second, .unset, .unset, .unset, .unset] [(.ref oT)])
    obtain ⟨cq12, kq12, q12a, q12b, q12c⟩ := isOf hZ e11 E_oT
    obtain ⟨_, _, ⟨T12, L12, k12, n12⟩, -, X12, ⟨Lc12, hQ12, l12, y12, z12⟩, st12⟩ := X11.virtualBack hx (y := (⟨"com/example/error_to_hazard/errortohazard/model/Type", "kind", "()Lcom/example/error_to_hazard/errortohazard/model/Type$Kind;"⟩ : MethodName)) (z := (⟨"com/example/error_to_hazard/errortohazard/model/Type", "kind", "()Lcom/example/error_to_hazard/errortohazard/model/Type$Kind;"⟩ : MethodName)) hown (mvT hZ (W 13 rfl)) (mvT hZ (W 14 rfl)) (notFace_of_selects (args := #[]) (mvT hZ (W 16 rfl))) (mvT hZ (W 16 rfl)) (mvT hZ (W 15 rfl)) (by decide) (backOf (W := 0) (rm3 l Z a0 hw [] oT oB h0 n0 Z0 F_kind_oT) hZ (W 18 rfl) (W 17 rfl) (by decide) (by decide)) q12a q12c (g := (mkF m 31 #[.val (.int p1), .val (.int (0 : Int32)), .val (.ref oF), .val (.long (0 : Int64)), .second, .unset, .unset, .unset, .unset] [(.ref oT)])) rfl (by rw [hml]; rfl) (Steps.refl _) (argsL := []) (rest := []) (lenOf pd_4 rfl) rfl (by show 2 * 0 + _ ≤ _; exact Nat.le_of_eq rfl) (hb hby at_31) (fun _ _ => ⟨rfl, e11, (by decide : 0 + 0 ≤ _), (by decide : 0 + 0 ≤ _)⟩)
    dsimp only [Pt.U, Pt.locs, Pt.cells, Pt.slots] at X12 l12 y12 z12 st12 hQ12
    subst l12 y12 z12
    obtain ⟨rfl, N12q, e12⟩ := hQ12
    have N12 := Fr.app N11 N12q
    refine own_goT st12 ?_
    show own_Run p e below _ T12 (mkF m 34 #[.val (.int p1), .val (.int (0 : Int32)), .val (.ref oF), .val (.long (0 : Int64)), .second, .unset, .unset, .unset, .unset] [(.ref oB)])
    obtain ⟨T13, X13, e13, st13⟩ := getS2 X12 hx hZ hown (host := "") (Or.inl (W 23 rfl)) Via.refl e12 S_BOOL (g := (mkF m 34 #[.val (.int p1), .val (.int (0 : Int32)), .val (.ref oF), .val (.long (0 : Int64)), .second, .unset, .unset, .unset, .unset] [(.ref oB)])) rfl (hb hby at_34)
    refine own_go st13 ?_
    show own_Run p e below _ T13 (mkF m 37 #[.val (.int p1), .val (.int (0 : Int32)), .val (.ref oF), .val (.long (0 : Int64)), .second, .unset, .unset, .unset, .unset] [(.ref oB), (.ref oB)])
    refine own_go (fun _ k => Jvm.RoadKit.acmp (g := (mkF m 37 #[.val (.int p1), .val (.int (0 : Int32)), .val (.ref oF), .val (.long (0 : Int64)), .second, .unset, .unset, .unset, .unset] [(.ref oB), (.ref oB)])) X13 hx rfl rfl rfl (pc0 := 37) (pc' := 40) (same := true) rfl (hb hby at_37) rfl (decide_eq_true rfl) (by decide) (by decide) k) ?_
    show own_Run p e below _ T13 (mkF m 40 #[.val (.int p1), .val (.int (0 : Int32)), .val (.ref oF), .val (.long (0 : Int64)), .second, .unset, .unset, .unset, .unset] [])
    refine own_go (fun _ k => XS.iconst X13.here hx rfl (hb hby at_40) k) ?_
    refine own_go (fun _ k => XS.goto X13.here hx rfl (pc0 := 41) (pc' := 45) rfl (hb hby at_41) (by decide) (by decide) k) ?_
    refine own_go (fun _ k => XS.istore X13.here hx rfl (hb hby at_45) rfl (l' := #[.val (.int p1), .val (.int (0 : Int32)), .val (.ref oF), .val (.long (0 : Int64)), .second, .val (.int (1 : Int32)), .unset, .unset, .unset]) rfl k) ?_
    refine own_go (fun _ k => XS.aloadN X13.here hx rfl (hb hby at_47) rfl rfl k) ?_
    show own_Run p e below _ T13 (mkF m 48 #[.val (.int p1), .val (.int (0 : Int32)), .val (.ref oF), .val (.long (0 : Int64)), .second, .val (.int (1 : Int32)), .unset, .unset, .unset] [(.ref oF)])
    obtain ⟨cq14, kq14, q14a, q14b, q14c⟩ := isOf hZ e13 E_oF
    obtain ⟨_, _, ⟨T14, L14, k14, n14⟩, -, X14, ⟨Lc14, hQ14, l14, y14, z14⟩, st14⟩ := X13.virtualBack hx (y := (⟨"com/example/error_to_hazard/errortohazard/model/Expression", "depth", "()I"⟩ : MethodName)) (z := (⟨"com/example/error_to_hazard/errortohazard/model/Expression", "depth", "()I"⟩ : MethodName)) hown (mvT hZ (W 24 rfl)) (mvT hZ (W 25 rfl)) (notFace_of_selects (args := #[]) (mvT hZ (W 27 rfl))) (mvT hZ (W 27 rfl)) (mvT hZ (W 26 rfl)) (by decide) (backOf (W := 0) (rm4 l Z a0 hw [] oF (1 : Int32) h0 n0 Z0 F_depth_oF) hZ (W 28 rfl) (W 2 rfl) (by decide) (by decide)) q14a q14c (g := (mkF m 48 #[.val (.int p1), .val (.int (0 : Int32)), .val (.ref oF), .val (.long (0 : Int64)), .second, .val (.int (1 : Int32)), .unset, .unset, .unset] [(.ref oF)])) rfl (by rw [hml]; rfl) (Steps.refl _) (argsL := []) (rest := []) (lenOf pd_5 rfl) rfl (by show 2 * 0 + _ ≤ _; exact Nat.le_of_eq rfl) (hb hby at_48) (fun _ _ => ⟨rfl, e13, (by decide : 0 + 0 ≤ _), (by decide : 0 + 0 ≤ _)⟩)
    dsimp only [Pt.U, Pt.locs, Pt.cells, Pt.slots] at X14 l14 y14 z14 st14 hQ14
    subst l14 y14 z14
    obtain ⟨rfl, N14q, e14⟩ := hQ14
    have N14 := Fr.app N12 N14q
    refine own_goT st14 ?_
    show own_Run p e below _ T14 (mkF m 51 #[.val (.int p1), .val (.int (0 : Int32)), .val (.ref oF), .val (.long (0 : Int64)), .second, .val (.int (1 : Int32)), .unset, .unset, .unset] [(.int (1 : Int32))])
    refine own_go (fun _ k => XS.iconst X14.here hx rfl (hb hby at_51) k) ?_
    show own_Run p e below _ T14 (mkF m 52 #[.val (.int p1), .val (.int (0 : Int32)), .val (.ref oF), .val (.long (0 : Int64)), .second, .val (.int (1 : Int32)), .unset, .unset, .unset] [(.int (1 : Int32)), (.int (1 : Int32))])
    refine own_go (fun _ k => XS.icmpNo X14.here hx rfl (hb hby at_52) rfl (teq (by decide : (1 : Int32) = (1 : Int32))).2 k) ?_
    show own_Run p e below _ T14 (mkF m 55 #[.val (.int p1), .val (.int (0 : Int32)), .val (.ref oF), .val (.long (0 : Int64)), .second, .val (.int (1 : Int32)), .unset, .unset, .unset] [])
    refine own_go (fun _ k => XS.iconst X14.here hx rfl (hb hby at_55) k) ?_
    refine own_go (fun _ k => XS.goto X14.here hx rfl (pc0 := 56) (pc' := 60) rfl (hb hby at_56) (by decide) (by decide) k) ?_
    refine own_go (fun _ k => XS.istore X14.here hx rfl (hb hby at_60) rfl (l' := #[.val (.int p1), .val (.int (0 : Int32)), .val (.ref oF), .val (.long (0 : Int64)), .second, .val (.int (1 : Int32)), .val (.int (1 : Int32)), .unset, .unset]) rfl k) ?_
    refine own_go (fun _ k => XS.aloadN X14.here hx rfl (hb hby at_62) rfl rfl k) ?_
    show own_Run p e below _ T14 (mkF m 63 #[.val (.int p1), .val (.int (0 : Int32)), .val (.ref oF), .val (.long (0 : Int64)), .second, .val (.int (1 : Int32)), .val (.int (1 : Int32)), .unset, .unset] [(.ref oF)])
    refine own_go (fun _ k => XS.aconstNull X14.here hx rfl (hb hby at_63) k) ?_
    show own_Run p e below _ T14 (mkF m 64 #[.val (.int p1), .val (.int (0 : Int32)), .val (.ref oF), .val (.long (0 : Int64)), .second, .val (.int (1 : Int32)), .val (.int (1 : Int32)), .unset, .unset] [.null, (.ref oF)])
    obtain ⟨cq15, kq15, q15a, q15b, q15c⟩ := isOf hZ e14 E_oF
    obtain ⟨_, _, ⟨T15, L15, k15, n15⟩, -, X15, ⟨Lc15, hQ15, l15, y15, z15⟩, st15⟩ := X14.virtualBack hx (y := (⟨"com/example/error_to_hazard/errortohazard/model/Expression", "evaluate", "(Lcom/example/error_to_hazard/errortohazard/model/State;)J"⟩ : MethodName)) (z := (⟨"com/example/error_to_hazard/errortohazard/model/Expression$Constant", "evaluate", "(Lcom/example/error_to_hazard/errortohazard/model/State;)J"⟩ : MethodName)) hown (mvT hZ (W 31 rfl)) (mvT hZ (W 32 rfl)) (own_nf (args := #[]) (mvT hZ (W 27 rfl)) rfl) (mvT hZ (W 33 rfl)) (mvT hZ (W 34 rfl)) (by decide) (backOf (W := 0) (rm5 l Z a0 hw [] oF (0 : Int64) h0 n0 Z0 F_value_oF) hZ (W 36 rfl) (W 35 rfl) (by decide) (by decide)) q15a q15c (g := (mkF m 64 #[.val (.int p1), .val (.int (0 : Int32)), .val (.ref oF), .val (.long (0 : Int64)), .second, .val (.int (1 : Int32)), .val (.int (1 : Int32)), .unset, .unset] [.null, (.ref oF)])) rfl (by rw [hml]; rfl) (Steps.refl _) (argsL := [.null]) (rest := []) (lenOf pd_1 rfl) rfl (by show 2 * 0 + _ ≤ _; exact Nat.le_of_eq rfl) (hb hby at_64) (fun _ _ => ⟨rfl, e14, (by decide : 0 + 0 ≤ _), (by decide : 0 + 0 ≤ _)⟩)
    dsimp only [Pt.U, Pt.locs, Pt.cells, Pt.slots] at X15 l15 y15 z15 st15 hQ15
    subst l15 y15 z15
    obtain ⟨rfl, N15q, e15⟩ := hQ15
    have N15 := Fr.app N14 N15q
    refine own_goT st15 ?_
    show own_Run p e below _ T15 (mkF m 67 #[.val (.int p1), .val (.int (0 : Int32)), .val (.ref oF), .val (.long (0 : Int64)), .second, .val (.int (1 : Int32)), .val (.int (1 : Int32)), .unset, .unset] [(.long (0 : Int64))])
    refine own_go (fun _ k => XS.lloadN X15.here hx rfl (hb hby at_67) rfl k) ?_
    refine own_go (fun _ k => XS.lcmp X15.here hx rfl (hb hby at_68) rfl k) ?_
    show own_Run p e below _ T15 (mkF m 69 #[.val (.int p1), .val (.int (0 : Int32)), .val (.ref oF), .val (.long (0 : Int64)), .second, .val (.int (1 : Int32)), .val (.int (1 : Int32)), .unset, .unset] [(.int (lcmpW (0 : Int64) (0 : Int64)))])
    refine own_go (fun _ k => XS.ifNo X15.here hx rfl (hb hby at_69) rfl (own_lcTe (by decide : (0 : Int64) = (0 : Int64))).2 k) ?_
    show own_Run p e below _ T15 (mkF m 72 #[.val (.int p1), .val (.int (0 : Int32)), .val (.ref oF), .val (.long (0 : Int64)), .second, .val (.int (1 : Int32)), .val (.int (1 : Int32)), .unset, .unset] [])
    refine own_go (fun _ k => XS.iconst X15.here hx rfl (hb hby at_72) k) ?_
    refine own_go (fun _ k => XS.goto X15.here hx rfl (pc0 := 73) (pc' := 77) rfl (hb hby at_73) (by decide) (by decide) k) ?_
    refine own_go (fun _ k => XS.istore X15.here hx rfl (hb hby at_77) rfl (l' := #[.val (.int p1), .val (.int (0 : Int32)), .val (.ref oF), .val (.long (0 : Int64)), .second, .val (.int (1 : Int32)), .val (.int (1 : Int32)), .val (.int (1 : Int32)), .unset]) rfl k) ?_
    refine own_go (fun _ k => XS.aloadN X15.here hx rfl (hb hby at_79) rfl rfl k) ?_
    show own_Run p e below _ T15 (mkF m 80 #[.val (.int p1), .val (.int (0 : Int32)), .val (.ref oF), .val (.long (0 : Int64)), .second, .val (.int (1 : Int32)), .val (.int (1 : Int32)), .val (.int (1 : Int32)), .unset] [(.ref oF)])
    refine own_go (fun _ k => XS.aconstNull X15.here hx rfl (hb hby at_80) k) ?_
    show own_Run p e below _ T15 (mkF m 81 #[.val (.int p1), .val (.int (0 : Int32)), .val (.ref oF), .val (.long (0 : Int64)), .second, .val (.int (1 : Int32)), .val (.int (1 : Int32)), .val (.int (1 : Int32)), .unset] [.null, (.ref oF)])
    obtain ⟨cq16, kq16, q16a, q16b, q16c⟩ := isOf hZ e15 E_oF
    obtain ⟨_, _, ⟨T16, L16, k16, n16⟩, -, X16, ⟨Lc16, hQ16, l16, y16, z16⟩, st16⟩ := X15.virtualBack hx (y := (⟨"com/example/error_to_hazard/errortohazard/model/Expression", "holds", "(Lcom/example/error_to_hazard/errortohazard/model/State;)Z"⟩ : MethodName)) (z := (⟨"com/example/error_to_hazard/errortohazard/model/Expression", "holds", "(Lcom/example/error_to_hazard/errortohazard/model/State;)Z"⟩ : MethodName)) hown (mvT hZ (W 39 rfl)) (mvT hZ (W 40 rfl)) (notFace_of_selects (args := #[]) (mvT hZ (W 42 rfl))) (mvT hZ (W 42 rfl)) (mvT hZ (W 41 rfl)) (by decide) (backOf (W := 0) (rm6 l Z a0 hw [] oF (0 : Int64) (0 : Int32) h0 n0 Z0 E_oF F_value_oF (Or.inl ⟨rfl, rfl⟩)) hZ (W 43 rfl) (W 2 rfl) (by decide) (by decide)) q16a q16c (g := (mkF m 81 #[.val (.int p1), .val (.int (0 : Int32)), .val (.ref oF), .val (.long (0 : Int64)), .second, .val (.int (1 : Int32)), .val (.int (1 : Int32)), .val (.int (1 : Int32)), .unset] [.null, (.ref oF)])) rfl (by rw [hml]; rfl) (Steps.refl _) (argsL := [.null]) (rest := []) (lenOf pd_6 rfl) rfl (by show 2 * 0 + _ ≤ _; exact Nat.le_of_eq rfl) (hb hby at_81) (fun _ _ => ⟨rfl, e15, (by decide : 0 + 0 ≤ _), (by decide : 0 + 0 ≤ _)⟩)
    dsimp only [Pt.U, Pt.locs, Pt.cells, Pt.slots] at X16 l16 y16 z16 st16 hQ16
    subst l16 y16 z16
    obtain ⟨rfl, N16q, e16⟩ := hQ16
    have N16 := Fr.app N15 N16q
    refine own_goT st16 ?_
    show own_Run p e below _ T16 (mkF m 84 #[.val (.int p1), .val (.int (0 : Int32)), .val (.ref oF), .val (.long (0 : Int64)), .second, .val (.int (1 : Int32)), .val (.int (1 : Int32)), .val (.int (1 : Int32)), .unset] [(.int (0 : Int32))])
    refine own_go (fun _ k => XS.iloadN X16.here hx rfl (hb hby at_84) rfl k) ?_
    show own_Run p e below _ T16 (mkF m 85 #[.val (.int p1), .val (.int (0 : Int32)), .val (.ref oF), .val (.long (0 : Int64)), .second, .val (.int (1 : Int32)), .val (.int (1 : Int32)), .val (.int (1 : Int32)), .unset] [(.int (0 : Int32)), (.int (0 : Int32))])
    refine own_go (fun _ k => XS.icmpNo X16.here hx rfl (hb hby at_85) rfl (teq (by decide : (0 : Int32) = (0 : Int32))).2 k) ?_
    show own_Run p e below _ T16 (mkF m 88 #[.val (.int p1), .val (.int (0 : Int32)), .val (.ref oF), .val (.long (0 : Int64)), .second, .val (.int (1 : Int32)), .val (.int (1 : Int32)), .val (.int (1 : Int32)), .unset] [])
    refine own_go (fun _ k => XS.iconst X16.here hx rfl (hb hby at_88) k) ?_
    refine own_go (fun _ k => XS.goto X16.here hx rfl (pc0 := 89) (pc' := 93) rfl (hb hby at_89) (by decide) (by decide) k) ?_
    refine own_go (fun _ k => XS.istore X16.here hx rfl (hb hby at_93) rfl (l' := #[.val (.int p1), .val (.int (0 : Int32)), .val (.ref oF), .val (.long (0 : Int64)), .second, .val (.int (1 : Int32)), .val (.int (1 : Int32)), .val (.int (1 : Int32)), .val (.int (1 : Int32))]) rfl k) ?_
    refine own_go (fun _ k => XS.iload X16.here hx rfl (hb hby at_95) rfl k) ?_
    show own_Run p e below _ T16 (mkF m 97 #[.val (.int p1), .val (.int (0 : Int32)), .val (.ref oF), .val (.long (0 : Int64)), .second, .val (.int (1 : Int32)), .val (.int (1 : Int32)), .val (.int (1 : Int32)), .val (.int (1 : Int32))] [(.int (1 : Int32))])
    refine own_go (fun _ k => XS.ifNo X16.here hx rfl (hb hby at_97) rfl ((if0 _ _).trans (feq (by decide : ¬ ((1 : Int32) = (0 : Int32)))).1) k) ?_
    show own_Run p e below _ T16 (mkF m 100 #[.val (.int p1), .val (.int (0 : Int32)), .val (.ref oF), .val (.long (0 : Int64)), .second, .val (.int (1 : Int32)), .val (.int (1 : Int32)), .val (.int (1 : Int32)), .val (.int (1 : Int32))] [])
    refine own_go (fun _ k => XS.iload X16.here hx rfl (hb hby at_100) rfl k) ?_
    show own_Run p e below _ T16 (mkF m 102 #[.val (.int p1), .val (.int (0 : Int32)), .val (.ref oF), .val (.long (0 : Int64)), .second, .val (.int (1 : Int32)), .val (.int (1 : Int32)), .val (.int (1 : Int32)), .val (.int (1 : Int32))] [(.int (1 : Int32))])
    refine own_go (fun _ k => XS.ifNo X16.here hx rfl (hb hby at_102) rfl ((if0 _ _).trans (feq (by decide : ¬ ((1 : Int32) = (0 : Int32)))).1) k) ?_
    show own_Run p e below _ T16 (mkF m 105 #[.val (.int p1), .val (.int (0 : Int32)), .val (.ref oF), .val (.long (0 : Int64)), .second, .val (.int (1 : Int32)), .val (.int (1 : Int32)), .val (.int (1 : Int32)), .val (.int (1 : Int32))] [])
    refine own_go (fun _ k => XS.iload X16.here hx rfl (hb hby at_105) rfl k) ?_
    show own_Run p e below _ T16 (mkF m 107 #[.val (.int p1), .val (.int (0 : Int32)), .val (.ref oF), .val (.long (0 : Int64)), .second, .val (.int (1 : Int32)), .val (.int (1 : Int32)), .val (.int (1 : Int32)), .val (.int (1 : Int32))] [(.int (1 : Int32))])
    refine own_go (fun _ k => XS.ifNo X16.here hx rfl (hb hby at_107) rfl ((if0 _ _).trans (feq (by decide : ¬ ((1 : Int32) = (0 : Int32)))).1) k) ?_
    show own_Run p e below _ T16 (mkF m 110 #[.val (.int p1), .val (.int (0 : Int32)), .val (.ref oF), .val (.long (0 : Int64)), .second, .val (.int (1 : Int32)), .val (.int (1 : Int32)), .val (.int (1 : Int32)), .val (.int (1 : Int32))] [])
    refine own_go (fun _ k => XS.iload X16.here hx rfl (hb hby at_110) rfl k) ?_
    show own_Run p e below _ T16 (mkF m 112 #[.val (.int p1), .val (.int (0 : Int32)), .val (.ref oF), .val (.long (0 : Int64)), .second, .val (.int (1 : Int32)), .val (.int (1 : Int32)), .val (.int (1 : Int32)), .val (.int (1 : Int32))] [(.int (1 : Int32))])
    refine own_go (fun _ k => XS.ifNo X16.here hx rfl (hb hby at_112) rfl ((if0 _ _).trans (feq (by decide : ¬ ((1 : Int32) = (0 : Int32)))).1) k) ?_
    show own_Run p e below _ T16 (mkF m 115 #[.val (.int p1), .val (.int (0 : Int32)), .val (.ref oF), .val (.long (0 : Int64)), .second, .val (.int (1 : Int32)), .val (.int (1 : Int32)), .val (.int (1 : Int32)), .val (.int (1 : Int32))] [])
    refine own_go (fun _ k => XS.iconst X16.here hx rfl (hb hby at_115) k) ?_
    refine own_go (fun _ k => XS.goto X16.here hx rfl (pc0 := 116) (pc' := 120) rfl (hb hby at_116) (by decide) (by decide) k) ?_
    show own_Run p e below _ T16 (mkF m 120 #[.val (.int p1), .val (.int (0 : Int32)), .val (.ref oF), .val (.long (0 : Int64)), .second, .val (.int (1 : Int32)), .val (.int (1 : Int32)), .val (.int (1 : Int32)), .val (.int (1 : Int32))] [(.int (1 : Int32))])
    refine own_done (Q := fun v h L => Q0 Z p1 oF oT oB oR h0 n0 v h L) (v := (some (.int (1 : Int32)))) X16 (fun h => by rw [hret] at h; cases h) hlk (fun fs hr => retN X16 hx (t := .boolean) hret (by simp) (hb hby at_120) hr) ?_ (by decide) (by decide)
    show Q0 Z p1 oF oT oB oR h0 n0 _ T16.heap _
    rw [e16]
    exact ⟨rfl, N16⟩
  · refine own_go (fun _ k => XS.ifNo X0.here hx rfl (hb hby at_3) rfl ((if0 _ _).trans (feq hc3_9).1) k) ?_
    show own_Run p e below _ s₁ (mkF m 6 #[.val (.int p1), .unset, .unset, .unset, .unset, .unset, .unset, .unset, .unset] [])
    refine own_go (fun _ k => XS.iconst X0.here hx rfl (hb hby at_6) k) ?_
    refine own_go (fun _ k => XS.goto X0.here hx rfl (pc0 := 7) (pc' := 11) rfl (hb hby at_7) (by decide) (by decide) k) ?_
    refine own_go (fun _ k => XS.istoreN X0.here hx rfl (hb hby at_11) rfl (l' := #[.val (.int p1), .val (.int (1 : Int32)), .unset, .unset, .unset, .unset, .unset, .unset, .unset]) rfl k) ?_
    refine own_go (fun _ k => XS.iloadN X0.here hx rfl (hb hby at_12) rfl k) ?_
    show own_Run p e below _ s₁ (mkF m 13 #[.val (.int p1), .val (.int (1 : Int32)), .unset, .unset, .unset, .unset, .unset, .unset, .unset] [(.int (1 : Int32))])
    obtain ⟨_, _, ⟨T17, L17, k17, n17⟩, -, X17, ⟨Lc17, hQ17, l17, y17, z17⟩, st17⟩ := Jvm.LawKit.callS X0 hx (y := (⟨"com/example/error_to_hazard/errortohazard/model/Expression", "constant", "(Z)Lcom/example/error_to_hazard/errortohazard/model/Expression;"⟩ : MethodName)) hown (mvT hZ (W 0 rfl)) (mvT hZ (W 1 rfl)) (mvT hZ (W 2 rfl)) (mvT hZ (W 3 rfl)) (by decide) (backOf (W := 0) (rm1 l Z a0 hw [] (1 : Int32) oF oR oR h0 n0 Z0 S_FALSE S_TRUE (Or.inr ⟨rfl, rfl⟩)) hZ (W 3 rfl) (W 2 rfl) (by decide) (by decide)) (g := (mkF m 13 #[.val (.int p1), .val (.int (1 : Int32)), .unset, .unset, .unset, .unset, .unset, .unset, .unset] [(.int (1 : Int32))])) rfl (by rw [hml]; rfl) (argsL := [(.int (1 : Int32))]) (rest := []) (lenOf pd_2 rfl) rfl (by show 2 * 0 + _ ≤ _; exact Nat.le_of_eq rfl) (hb hby at_13) (fun _ _ => ⟨rfl, e0, (by decide : 0 + 0 ≤ _), (by decide : 0 + 0 ≤ _)⟩)
    dsimp only [Pt.U, Pt.locs, Pt.cells, Pt.slots] at X17 l17 y17 z17 st17 hQ17
    subst l17 y17 z17
    obtain ⟨rfl, N17q, e17⟩ := hQ17
    have N17 := Fr.app N0 N17q
    refine own_go st17 ?_
    show own_Run p e below _ T17 (mkF m 16 #[.val (.int p1), .val (.int (1 : Int32)), .unset, .unset, .unset, .unset, .unset, .unset, .unset] [(.ref oR)])
    refine own_go (fun _ k => XS.astoreN X17.here hx rfl (hb hby at_16) rfl rfl (l' := #[.val (.int p1), .val (.int (1 : Int32)), .val (.ref oR), .unset, .unset, .unset, .unset, .unset, .unset]) rfl k) ?_
    refine own_go (fun _ k => XS.iloadN X17.here hx rfl (hb hby at_17) rfl k) ?_
    show own_Run p e below _ T17 (mkF m 18 #[.val (.int p1), .val (.int (1 : Int32)), .val (.ref oR), .unset, .unset, .unset, .unset, .unset, .unset] [(.int (1 : Int32))])
    refine own_go (fun _ k => XS.ifNo X17.here hx rfl (hb hby at_18) rfl ((if0 _ _).trans (feq (by decide : ¬ ((1 : Int32) = (0 : Int32)))).1) k) ?_
    show own_Run p e below _ T17 (mkF m 21 #[.val (.int p1), .val (.int (1 : Int32)), .val (.ref oR), .unset, .unset, .unset, .unset, .unset, .unset] [])
    refine own_go (fun _ k => XS.lconst X17.here hx rfl (hb hby at_21) k) ?_
    refine own_go (fun _ k => XS.goto X17.here hx rfl (pc0 := 22) (pc' := 26) rfl (hb hby at_22) (by decide) (by decide) k) ?_
    refine own_go (fun _ k => XS.lstoreN X17.here hx rfl (hb hby at_26) rfl (l' := #[.val (.int p1), .val (.int (1 : Int32)), .val (.ref oR), .val (.long (1 : Int64)), .second, .unset, .unset, .unset, .unset]) rfl k) ?_
    refine own_go (fun _ k => XS.aloadN X17.here hx rfl (hb hby at_27) rfl rfl k) ?_
    show own_Run p e below _ T17 (mkF m 28 #[.val (.int p1), .val (.int (1 : Int32)), .val (.ref oR), .val (.long (1 : Int64)), .second, .unset, .unset, .unset, .unset] [(.ref oR)])
    obtain ⟨cq18, kq18, q18a, q18b, q18c⟩ := isOf hZ e17 E_oR
    obtain ⟨_, _, ⟨T18, L18, k18, n18⟩, -, X18, ⟨Lc18, hQ18, l18, y18, z18⟩, st18⟩ := X17.virtualBack hx (y := (⟨"com/example/error_to_hazard/errortohazard/model/Expression", "type", "()Lcom/example/error_to_hazard/errortohazard/model/Type;"⟩ : MethodName)) (z := (⟨"com/example/error_to_hazard/errortohazard/model/Expression", "type", "()Lcom/example/error_to_hazard/errortohazard/model/Type;"⟩ : MethodName)) hown (mvT hZ (W 6 rfl)) (mvT hZ (W 7 rfl)) (notFace_of_selects (args := #[]) (mvT hZ (W 9 rfl))) (mvT hZ (W 9 rfl)) (mvT hZ (W 8 rfl)) (by decide) (backOf (W := 0) (rm2 l Z a0 hw [] oR oT h0 n0 Z0 F_type_oR) hZ (W 10 rfl) (W 2 rfl) (by decide) (by decide)) q18a q18c (g := (mkF m 28 #[.val (.int p1), .val (.int (1 : Int32)), .val (.ref oR), .val (.long (1 : Int64)), .second, .unset, .unset, .unset, .unset] [(.ref oR)])) rfl (by rw [hml]; rfl) (Steps.refl _) (argsL := []) (rest := []) (lenOf pd_3 rfl) rfl (by show 2 * 0 + _ ≤ _; exact Nat.le_of_eq rfl) (hb hby at_28) (fun _ _ => ⟨rfl, e17, (by decide : 0 + 0 ≤ _), (by decide : 0 + 0 ≤ _)⟩)
    dsimp only [Pt.U, Pt.locs, Pt.cells, Pt.slots] at X18 l18 y18 z18 st18 hQ18
    subst l18 y18 z18
    obtain ⟨rfl, N18q, e18⟩ := hQ18
    have N18 := Fr.app N17 N18q
    refine own_goT st18 ?_
    show own_Run p e below _ T18 (mkF m 31 #[.val (.int p1), .val (.int (1 : Int32)), .val (.ref oR), .val (.long (1 : Int64)), .second, .unset, .unset, .unset, .unset] [(.ref oT)])
    obtain ⟨cq19, kq19, q19a, q19b, q19c⟩ := isOf hZ e18 E_oT
    obtain ⟨_, _, ⟨T19, L19, k19, n19⟩, -, X19, ⟨Lc19, hQ19, l19, y19, z19⟩, st19⟩ := X18.virtualBack hx (y := (⟨"com/example/error_to_hazard/errortohazard/model/Type", "kind", "()Lcom/example/error_to_hazard/errortohazard/model/Type$Kind;"⟩ : MethodName)) (z := (⟨"com/example/error_to_hazard/errortohazard/model/Type", "kind", "()Lcom/example/error_to_hazard/errortohazard/model/Type$Kind;"⟩ : MethodName)) hown (mvT hZ (W 13 rfl)) (mvT hZ (W 14 rfl)) (notFace_of_selects (args := #[]) (mvT hZ (W 16 rfl))) (mvT hZ (W 16 rfl)) (mvT hZ (W 15 rfl)) (by decide) (backOf (W := 0) (rm3 l Z a0 hw [] oT oB h0 n0 Z0 F_kind_oT) hZ (W 18 rfl) (W 17 rfl) (by decide) (by decide)) q19a q19c (g := (mkF m 31 #[.val (.int p1), .val (.int (1 : Int32)), .val (.ref oR), .val (.long (1 : Int64)), .second, .unset, .unset, .unset, .unset] [(.ref oT)])) rfl (by rw [hml]; rfl) (Steps.refl _) (argsL := []) (rest := []) (lenOf pd_4 rfl) rfl (by show 2 * 0 + _ ≤ _; exact Nat.le_of_eq rfl) (hb hby at_31) (fun _ _ => ⟨rfl, e18, (by decide : 0 + 0 ≤ _), (by decide : 0 + 0 ≤ _)⟩)
    dsimp only [Pt.U, Pt.locs, Pt.cells, Pt.slots] at X19 l19 y19 z19 st19 hQ19
    subst l19 y19 z19
    obtain ⟨rfl, N19q, e19⟩ := hQ19
    have N19 := Fr.app N18 N19q
    refine own_goT st19 ?_
    show own_Run p e below _ T19 (mkF m 34 #[.val (.int p1), .val (.int (1 : Int32)), .val (.ref oR), .val (.long (1 : Int64)), .second, .unset, .unset, .unset, .unset] [(.ref oB)])
    obtain ⟨T20, X20, e20, st20⟩ := getS2 X19 hx hZ hown (host := "") (Or.inl (W 23 rfl)) Via.refl e19 S_BOOL (g := (mkF m 34 #[.val (.int p1), .val (.int (1 : Int32)), .val (.ref oR), .val (.long (1 : Int64)), .second, .unset, .unset, .unset, .unset] [(.ref oB)])) rfl (hb hby at_34)
    refine own_go st20 ?_
    show own_Run p e below _ T20 (mkF m 37 #[.val (.int p1), .val (.int (1 : Int32)), .val (.ref oR), .val (.long (1 : Int64)), .second, .unset, .unset, .unset, .unset] [(.ref oB), (.ref oB)])
    refine own_go (fun _ k => Jvm.RoadKit.acmp (g := (mkF m 37 #[.val (.int p1), .val (.int (1 : Int32)), .val (.ref oR), .val (.long (1 : Int64)), .second, .unset, .unset, .unset, .unset] [(.ref oB), (.ref oB)])) X20 hx rfl rfl rfl (pc0 := 37) (pc' := 40) (same := true) rfl (hb hby at_37) rfl (decide_eq_true rfl) (by decide) (by decide) k) ?_
    show own_Run p e below _ T20 (mkF m 40 #[.val (.int p1), .val (.int (1 : Int32)), .val (.ref oR), .val (.long (1 : Int64)), .second, .unset, .unset, .unset, .unset] [])
    refine own_go (fun _ k => XS.iconst X20.here hx rfl (hb hby at_40) k) ?_
    refine own_go (fun _ k => XS.goto X20.here hx rfl (pc0 := 41) (pc' := 45) rfl (hb hby at_41) (by decide) (by decide) k) ?_
    refine own_go (fun _ k => XS.istore X20.here hx rfl (hb hby at_45) rfl (l' := #[.val (.int p1), .val (.int (1 : Int32)), .val (.ref oR), .val (.long (1 : Int64)), .second, .val (.int (1 : Int32)), .unset, .unset, .unset]) rfl k) ?_
    refine own_go (fun _ k => XS.aloadN X20.here hx rfl (hb hby at_47) rfl rfl k) ?_
    show own_Run p e below _ T20 (mkF m 48 #[.val (.int p1), .val (.int (1 : Int32)), .val (.ref oR), .val (.long (1 : Int64)), .second, .val (.int (1 : Int32)), .unset, .unset, .unset] [(.ref oR)])
    obtain ⟨cq21, kq21, q21a, q21b, q21c⟩ := isOf hZ e20 E_oR
    obtain ⟨_, _, ⟨T21, L21, k21, n21⟩, -, X21, ⟨Lc21, hQ21, l21, y21, z21⟩, st21⟩ := X20.virtualBack hx (y := (⟨"com/example/error_to_hazard/errortohazard/model/Expression", "depth", "()I"⟩ : MethodName)) (z := (⟨"com/example/error_to_hazard/errortohazard/model/Expression", "depth", "()I"⟩ : MethodName)) hown (mvT hZ (W 24 rfl)) (mvT hZ (W 25 rfl)) (notFace_of_selects (args := #[]) (mvT hZ (W 27 rfl))) (mvT hZ (W 27 rfl)) (mvT hZ (W 26 rfl)) (by decide) (backOf (W := 0) (rm4 l Z a0 hw [] oR (1 : Int32) h0 n0 Z0 F_depth_oR) hZ (W 28 rfl) (W 2 rfl) (by decide) (by decide)) q21a q21c (g := (mkF m 48 #[.val (.int p1), .val (.int (1 : Int32)), .val (.ref oR), .val (.long (1 : Int64)), .second, .val (.int (1 : Int32)), .unset, .unset, .unset] [(.ref oR)])) rfl (by rw [hml]; rfl) (Steps.refl _) (argsL := []) (rest := []) (lenOf pd_5 rfl) rfl (by show 2 * 0 + _ ≤ _; exact Nat.le_of_eq rfl) (hb hby at_48) (fun _ _ => ⟨rfl, e20, (by decide : 0 + 0 ≤ _), (by decide : 0 + 0 ≤ _)⟩)
    dsimp only [Pt.U, Pt.locs, Pt.cells, Pt.slots] at X21 l21 y21 z21 st21 hQ21
    subst l21 y21 z21
    obtain ⟨rfl, N21q, e21⟩ := hQ21
    have N21 := Fr.app N19 N21q
    refine own_goT st21 ?_
    show own_Run p e below _ T21 (mkF m 51 #[.val (.int p1), .val (.int (1 : Int32)), .val (.ref oR), .val (.long (1 : Int64)), .second, .val (.int (1 : Int32)), .unset, .unset, .unset] [(.int (1 : Int32))])
    refine own_go (fun _ k => XS.iconst X21.here hx rfl (hb hby at_51) k) ?_
    show own_Run p e below _ T21 (mkF m 52 #[.val (.int p1), .val (.int (1 : Int32)), .val (.ref oR), .val (.long (1 : Int64)), .second, .val (.int (1 : Int32)), .unset, .unset, .unset] [(.int (1 : Int32)), (.int (1 : Int32))])
    refine own_go (fun _ k => XS.icmpNo X21.here hx rfl (hb hby at_52) rfl (teq (by decide : (1 : Int32) = (1 : Int32))).2 k) ?_
    show own_Run p e below _ T21 (mkF m 55 #[.val (.int p1), .val (.int (1 : Int32)), .val (.ref oR), .val (.long (1 : Int64)), .second, .val (.int (1 : Int32)), .unset, .unset, .unset] [])
    refine own_go (fun _ k => XS.iconst X21.here hx rfl (hb hby at_55) k) ?_
    refine own_go (fun _ k => XS.goto X21.here hx rfl (pc0 := 56) (pc' := 60) rfl (hb hby at_56) (by decide) (by decide) k) ?_
    refine own_go (fun _ k => XS.istore X21.here hx rfl (hb hby at_60) rfl (l' := #[.val (.int p1), .val (.int (1 : Int32)), .val (.ref oR), .val (.long (1 : Int64)), .second, .val (.int (1 : Int32)), .val (.int (1 : Int32)), .unset, .unset]) rfl k) ?_
    refine own_go (fun _ k => XS.aloadN X21.here hx rfl (hb hby at_62) rfl rfl k) ?_
    show own_Run p e below _ T21 (mkF m 63 #[.val (.int p1), .val (.int (1 : Int32)), .val (.ref oR), .val (.long (1 : Int64)), .second, .val (.int (1 : Int32)), .val (.int (1 : Int32)), .unset, .unset] [(.ref oR)])
    refine own_go (fun _ k => XS.aconstNull X21.here hx rfl (hb hby at_63) k) ?_
    show own_Run p e below _ T21 (mkF m 64 #[.val (.int p1), .val (.int (1 : Int32)), .val (.ref oR), .val (.long (1 : Int64)), .second, .val (.int (1 : Int32)), .val (.int (1 : Int32)), .unset, .unset] [.null, (.ref oR)])
    obtain ⟨cq22, kq22, q22a, q22b, q22c⟩ := isOf hZ e21 E_oR
    obtain ⟨_, _, ⟨T22, L22, k22, n22⟩, -, X22, ⟨Lc22, hQ22, l22, y22, z22⟩, st22⟩ := X21.virtualBack hx (y := (⟨"com/example/error_to_hazard/errortohazard/model/Expression", "evaluate", "(Lcom/example/error_to_hazard/errortohazard/model/State;)J"⟩ : MethodName)) (z := (⟨"com/example/error_to_hazard/errortohazard/model/Expression$Constant", "evaluate", "(Lcom/example/error_to_hazard/errortohazard/model/State;)J"⟩ : MethodName)) hown (mvT hZ (W 31 rfl)) (mvT hZ (W 32 rfl)) (own_nf (args := #[]) (mvT hZ (W 27 rfl)) rfl) (mvT hZ (W 33 rfl)) (mvT hZ (W 34 rfl)) (by decide) (backOf (W := 0) (rm5 l Z a0 hw [] oR (1 : Int64) h0 n0 Z0 F_value_oR) hZ (W 36 rfl) (W 35 rfl) (by decide) (by decide)) q22a q22c (g := (mkF m 64 #[.val (.int p1), .val (.int (1 : Int32)), .val (.ref oR), .val (.long (1 : Int64)), .second, .val (.int (1 : Int32)), .val (.int (1 : Int32)), .unset, .unset] [.null, (.ref oR)])) rfl (by rw [hml]; rfl) (Steps.refl _) (argsL := [.null]) (rest := []) (lenOf pd_1 rfl) rfl (by show 2 * 0 + _ ≤ _; exact Nat.le_of_eq rfl) (hb hby at_64) (fun _ _ => ⟨rfl, e21, (by decide : 0 + 0 ≤ _), (by decide : 0 + 0 ≤ _)⟩)
    dsimp only [Pt.U, Pt.locs, Pt.cells, Pt.slots] at X22 l22 y22 z22 st22 hQ22
    subst l22 y22 z22
    obtain ⟨rfl, N22q, e22⟩ := hQ22
    have N22 := Fr.app N21 N22q
    refine own_goT st22 ?_
    show own_Run p e below _ T22 (mkF m 67 #[.val (.int p1), .val (.int (1 : Int32)), .val (.ref oR), .val (.long (1 : Int64)), .second, .val (.int (1 : Int32)), .val (.int (1 : Int32)), .unset, .unset] [(.long (1 : Int64))])
    refine own_go (fun _ k => XS.lloadN X22.here hx rfl (hb hby at_67) rfl k) ?_
    refine own_go (fun _ k => XS.lcmp X22.here hx rfl (hb hby at_68) rfl k) ?_
    show own_Run p e below _ T22 (mkF m 69 #[.val (.int p1), .val (.int (1 : Int32)), .val (.ref oR), .val (.long (1 : Int64)), .second, .val (.int (1 : Int32)), .val (.int (1 : Int32)), .unset, .unset] [(.int (lcmpW (1 : Int64) (1 : Int64)))])
    refine own_go (fun _ k => XS.ifNo X22.here hx rfl (hb hby at_69) rfl (own_lcTe (by decide : (1 : Int64) = (1 : Int64))).2 k) ?_
    show own_Run p e below _ T22 (mkF m 72 #[.val (.int p1), .val (.int (1 : Int32)), .val (.ref oR), .val (.long (1 : Int64)), .second, .val (.int (1 : Int32)), .val (.int (1 : Int32)), .unset, .unset] [])
    refine own_go (fun _ k => XS.iconst X22.here hx rfl (hb hby at_72) k) ?_
    refine own_go (fun _ k => XS.goto X22.here hx rfl (pc0 := 73) (pc' := 77) rfl (hb hby at_73) (by decide) (by decide) k) ?_
    refine own_go (fun _ k => XS.istore X22.here hx rfl (hb hby at_77) rfl (l' := #[.val (.int p1), .val (.int (1 : Int32)), .val (.ref oR), .val (.long (1 : Int64)), .second, .val (.int (1 : Int32)), .val (.int (1 : Int32)), .val (.int (1 : Int32)), .unset]) rfl k) ?_
    refine own_go (fun _ k => XS.aloadN X22.here hx rfl (hb hby at_79) rfl rfl k) ?_
    show own_Run p e below _ T22 (mkF m 80 #[.val (.int p1), .val (.int (1 : Int32)), .val (.ref oR), .val (.long (1 : Int64)), .second, .val (.int (1 : Int32)), .val (.int (1 : Int32)), .val (.int (1 : Int32)), .unset] [(.ref oR)])
    refine own_go (fun _ k => XS.aconstNull X22.here hx rfl (hb hby at_80) k) ?_
    show own_Run p e below _ T22 (mkF m 81 #[.val (.int p1), .val (.int (1 : Int32)), .val (.ref oR), .val (.long (1 : Int64)), .second, .val (.int (1 : Int32)), .val (.int (1 : Int32)), .val (.int (1 : Int32)), .unset] [.null, (.ref oR)])
    obtain ⟨cq23, kq23, q23a, q23b, q23c⟩ := isOf hZ e22 E_oR
    obtain ⟨_, _, ⟨T23, L23, k23, n23⟩, -, X23, ⟨Lc23, hQ23, l23, y23, z23⟩, st23⟩ := X22.virtualBack hx (y := (⟨"com/example/error_to_hazard/errortohazard/model/Expression", "holds", "(Lcom/example/error_to_hazard/errortohazard/model/State;)Z"⟩ : MethodName)) (z := (⟨"com/example/error_to_hazard/errortohazard/model/Expression", "holds", "(Lcom/example/error_to_hazard/errortohazard/model/State;)Z"⟩ : MethodName)) hown (mvT hZ (W 39 rfl)) (mvT hZ (W 40 rfl)) (notFace_of_selects (args := #[]) (mvT hZ (W 42 rfl))) (mvT hZ (W 42 rfl)) (mvT hZ (W 41 rfl)) (by decide) (backOf (W := 0) (rm6 l Z a0 hw [] oR (1 : Int64) (1 : Int32) h0 n0 Z0 E_oR F_value_oR (Or.inr ⟨rfl, rfl⟩)) hZ (W 43 rfl) (W 2 rfl) (by decide) (by decide)) q23a q23c (g := (mkF m 81 #[.val (.int p1), .val (.int (1 : Int32)), .val (.ref oR), .val (.long (1 : Int64)), .second, .val (.int (1 : Int32)), .val (.int (1 : Int32)), .val (.int (1 : Int32)), .unset] [.null, (.ref oR)])) rfl (by rw [hml]; rfl) (Steps.refl _) (argsL := [.null]) (rest := []) (lenOf pd_6 rfl) rfl (by show 2 * 0 + _ ≤ _; exact Nat.le_of_eq rfl) (hb hby at_81) (fun _ _ => ⟨rfl, e22, (by decide : 0 + 0 ≤ _), (by decide : 0 + 0 ≤ _)⟩)
    dsimp only [Pt.U, Pt.locs, Pt.cells, Pt.slots] at X23 l23 y23 z23 st23 hQ23
    subst l23 y23 z23
    obtain ⟨rfl, N23q, e23⟩ := hQ23
    have N23 := Fr.app N22 N23q
    refine own_goT st23 ?_
    show own_Run p e below _ T23 (mkF m 84 #[.val (.int p1), .val (.int (1 : Int32)), .val (.ref oR), .val (.long (1 : Int64)), .second, .val (.int (1 : Int32)), .val (.int (1 : Int32)), .val (.int (1 : Int32)), .unset] [(.int (1 : Int32))])
    refine own_go (fun _ k => XS.iloadN X23.here hx rfl (hb hby at_84) rfl k) ?_
    show own_Run p e below _ T23 (mkF m 85 #[.val (.int p1), .val (.int (1 : Int32)), .val (.ref oR), .val (.long (1 : Int64)), .second, .val (.int (1 : Int32)), .val (.int (1 : Int32)), .val (.int (1 : Int32)), .unset] [(.int (1 : Int32)), (.int (1 : Int32))])
    refine own_go (fun _ k => XS.icmpNo X23.here hx rfl (hb hby at_85) rfl (teq (by decide : (1 : Int32) = (1 : Int32))).2 k) ?_
    show own_Run p e below _ T23 (mkF m 88 #[.val (.int p1), .val (.int (1 : Int32)), .val (.ref oR), .val (.long (1 : Int64)), .second, .val (.int (1 : Int32)), .val (.int (1 : Int32)), .val (.int (1 : Int32)), .unset] [])
    refine own_go (fun _ k => XS.iconst X23.here hx rfl (hb hby at_88) k) ?_
    refine own_go (fun _ k => XS.goto X23.here hx rfl (pc0 := 89) (pc' := 93) rfl (hb hby at_89) (by decide) (by decide) k) ?_
    refine own_go (fun _ k => XS.istore X23.here hx rfl (hb hby at_93) rfl (l' := #[.val (.int p1), .val (.int (1 : Int32)), .val (.ref oR), .val (.long (1 : Int64)), .second, .val (.int (1 : Int32)), .val (.int (1 : Int32)), .val (.int (1 : Int32)), .val (.int (1 : Int32))]) rfl k) ?_
    refine own_go (fun _ k => XS.iload X23.here hx rfl (hb hby at_95) rfl k) ?_
    show own_Run p e below _ T23 (mkF m 97 #[.val (.int p1), .val (.int (1 : Int32)), .val (.ref oR), .val (.long (1 : Int64)), .second, .val (.int (1 : Int32)), .val (.int (1 : Int32)), .val (.int (1 : Int32)), .val (.int (1 : Int32))] [(.int (1 : Int32))])
    refine own_go (fun _ k => XS.ifNo X23.here hx rfl (hb hby at_97) rfl ((if0 _ _).trans (feq (by decide : ¬ ((1 : Int32) = (0 : Int32)))).1) k) ?_
    show own_Run p e below _ T23 (mkF m 100 #[.val (.int p1), .val (.int (1 : Int32)), .val (.ref oR), .val (.long (1 : Int64)), .second, .val (.int (1 : Int32)), .val (.int (1 : Int32)), .val (.int (1 : Int32)), .val (.int (1 : Int32))] [])
    refine own_go (fun _ k => XS.iload X23.here hx rfl (hb hby at_100) rfl k) ?_
    show own_Run p e below _ T23 (mkF m 102 #[.val (.int p1), .val (.int (1 : Int32)), .val (.ref oR), .val (.long (1 : Int64)), .second, .val (.int (1 : Int32)), .val (.int (1 : Int32)), .val (.int (1 : Int32)), .val (.int (1 : Int32))] [(.int (1 : Int32))])
    refine own_go (fun _ k => XS.ifNo X23.here hx rfl (hb hby at_102) rfl ((if0 _ _).trans (feq (by decide : ¬ ((1 : Int32) = (0 : Int32)))).1) k) ?_
    show own_Run p e below _ T23 (mkF m 105 #[.val (.int p1), .val (.int (1 : Int32)), .val (.ref oR), .val (.long (1 : Int64)), .second, .val (.int (1 : Int32)), .val (.int (1 : Int32)), .val (.int (1 : Int32)), .val (.int (1 : Int32))] [])
    refine own_go (fun _ k => XS.iload X23.here hx rfl (hb hby at_105) rfl k) ?_
    show own_Run p e below _ T23 (mkF m 107 #[.val (.int p1), .val (.int (1 : Int32)), .val (.ref oR), .val (.long (1 : Int64)), .second, .val (.int (1 : Int32)), .val (.int (1 : Int32)), .val (.int (1 : Int32)), .val (.int (1 : Int32))] [(.int (1 : Int32))])
    refine own_go (fun _ k => XS.ifNo X23.here hx rfl (hb hby at_107) rfl ((if0 _ _).trans (feq (by decide : ¬ ((1 : Int32) = (0 : Int32)))).1) k) ?_
    show own_Run p e below _ T23 (mkF m 110 #[.val (.int p1), .val (.int (1 : Int32)), .val (.ref oR), .val (.long (1 : Int64)), .second, .val (.int (1 : Int32)), .val (.int (1 : Int32)), .val (.int (1 : Int32)), .val (.int (1 : Int32))] [])
    refine own_go (fun _ k => XS.iload X23.here hx rfl (hb hby at_110) rfl k) ?_
    show own_Run p e below _ T23 (mkF m 112 #[.val (.int p1), .val (.int (1 : Int32)), .val (.ref oR), .val (.long (1 : Int64)), .second, .val (.int (1 : Int32)), .val (.int (1 : Int32)), .val (.int (1 : Int32)), .val (.int (1 : Int32))] [(.int (1 : Int32))])
    refine own_go (fun _ k => XS.ifNo X23.here hx rfl (hb hby at_112) rfl ((if0 _ _).trans (feq (by decide : ¬ ((1 : Int32) = (0 : Int32)))).1) k) ?_
    show own_Run p e below _ T23 (mkF m 115 #[.val (.int p1), .val (.int (1 : Int32)), .val (.ref oR), .val (.long (1 : Int64)), .second, .val (.int (1 : Int32)), .val (.int (1 : Int32)), .val (.int (1 : Int32)), .val (.int (1 : Int32))] [])
    refine own_go (fun _ k => XS.iconst X23.here hx rfl (hb hby at_115) k) ?_
    refine own_go (fun _ k => XS.goto X23.here hx rfl (pc0 := 116) (pc' := 120) rfl (hb hby at_116) (by decide) (by decide) k) ?_
    show own_Run p e below _ T23 (mkF m 120 #[.val (.int p1), .val (.int (1 : Int32)), .val (.ref oR), .val (.long (1 : Int64)), .second, .val (.int (1 : Int32)), .val (.int (1 : Int32)), .val (.int (1 : Int32)), .val (.int (1 : Int32))] [(.int (1 : Int32))])
    refine own_done (Q := fun v h L => Q0 Z p1 oF oT oB oR h0 n0 v h L) (v := (some (.int (1 : Int32)))) X23 (fun h => by rw [hret] at h; cases h) hlk (fun fs hr => retN X23 hx (t := .boolean) hret (by simp) (hb hby at_120) hr) ?_ (by decide) (by decide)
    show Q0 Z p1 oF oT oB oR h0 n0 _ T23.heap _
    rw [e23]
    exact ⟨rfl, N23⟩
set_option maxRecDepth 65536 in
set_option maxHeartbeats 40000000 in
theorem comes_1 {Post : Tables → Env → Array Value → State → Outcome → State → Prop} (hpost : ∀ tb e args s v u, (limb_1_1.after args s (.returned v) u = true ∧ limb_1_2.after args s (.returned v) u = true ∧ True) → FrameEnd s (.returned v) u (Jvm.fieldLocs frame_1_writes args s ++ Jvm.arrayLocs frame_1_arrays args s ++ Jvm.staticLocs frame_1_statics s) 0 0 → Post tb e args s (.returned v) u) :
    ArmFor flags0 classFile x code maxLocals ret World_1 tables_1 room_1 Calls_1 rest_1 Pre_1 Post := by
  intro l hfl _ _ p e ha hc hk s m args below hf hA hF happ hP
  obtain ⟨hcalls, hrest, hpre⟩ := hP
  obtain ⟨-, -, -, hnamed, -, -, -, hat⟩ := (Spec.applies_iff hf).mp happ
  obtain ⟨hg, hn⟩ := and_e (Cond.before_iff.mp (show (Jvm.Cond.and given_1 narrow_1).before args s = true from hpre))
  obtain ⟨hcount, hr0⟩ := and_e hg
  have ha0 := hr0
  obtain ⟨w0, rfl⟩ : ∃ w0 : Value, args = #[w0] := by
    have hs : args.size = 1 := by simpa [Cond.value, given_1] using hcount
    obtain ⟨L⟩ := args
    match L, hs with
    | [w0], _ => exact ⟨w0, rfl⟩
  have hw := fun d (hd : d ∈ tables_1) => atoms_spec (ws := Jvm.Cond.code x code maxLocals ret :: tables_1) hat d (List.mem_cons_of_mem _ hd)
  have W := fun (k : Nat) {d : Jvm.Cond} (h : tables_1[k]? = some d) => hw d (List.mem_of_getElem? h)
  have hfit : Fit s := fun {y c} hc i hi => by
    obtain ⟨ha, rfl⟩ := Array.getElem?_eq_some_iff.mp hc
    have q := List.all_eq_true.mp ((Array.all_eq_true_iff_forall_mem.mp hF) _ (Array.getElem_mem ha)) i (List.mem_range.mpr hi)
    simpa [Array.getElem?_eq_getElem hi] using q
  obtain ⟨i0, ei0⟩ := is_v ha0
  obtain rfl : w0 = (.int i0) := Option.some.inj ei0
  obtain ⟨hc0, hd0⟩ := and_e hn
  obtain ⟨hc1, hd1⟩ := and_e hd0
  obtain ⟨hc2, hd2⟩ := and_e hd1
  obtain ⟨hc3, hd3⟩ := and_e hd2
  obtain ⟨hc4, hd4⟩ := and_e hd3
  obtain ⟨hc5, hd5⟩ := and_e hd4
  obtain ⟨hc6, hd6⟩ := and_e hd5
  obtain ⟨hc7, hd7⟩ := and_e hd6
  obtain ⟨hc8, hd8⟩ := and_e hd7
  obtain ⟨oF, ev_oF⟩ := exa_v hc0
  have S_oF := Sta.start ev_oF (Or.inr ⟨(W 2 rfl), (W 5 rfl)⟩)
  have E_oF := Exa.start ev_oF hc0
  obtain ⟨oT, ev_oT⟩ := exa_v hc1
  have E_oT := Exa.start ev_oT hc1
  have F1 := Fld.start ((fld_at ev_oF).symm.trans ev_oT)
  obtain ⟨oB, ev_oB⟩ := exa_v hc2
  have S_oB := Sta.start ev_oB (Or.inr ⟨(W 21 rfl), (W 22 rfl)⟩)
  have E_oB := Exa.start ev_oB hc2
  have F2 := Fld.start ((fld_at ev_oT).symm.trans (own_eqR hc3 ev_oB))
  have F3 := Fld.start ((fld_at ev_oF).symm.trans (own_eqI hc4))
  have F4 := Fld.start ((fld_at ev_oF).symm.trans (own_eqL hc5))
  obtain ⟨oR, ev_oR⟩ := exa_v hc6
  have S_oR := Sta.start ev_oR (Or.inr ⟨(W 2 rfl), (W 46 rfl)⟩)
  have E_oR := Exa.start ev_oR hc6
  have F5 := Fld.start ((fld_at ev_oR).symm.trans (own_eqR hc7 ev_oT))
  have F6 := Fld.start ((fld_at ev_oR).symm.trans (own_eqI hc8))
  have F7 := Fld.start ((fld_at ev_oR).symm.trans (own_eqL hd8))
  obtain ⟨n, o, h1, h2, h3, _, L, rfl, ⟨rfl, N⟩, hq⟩ := rm0 l s _ hw tables_1 i0 oF oT oB oR s.heap s.heap.size (Nat.le_refl _) S_oF E_oF F1 E_oT S_oB E_oB F2 F3 F4 S_oR E_oR F5 F6 F7 p e ha hc hk s m _ below hf ((Spec.applies_iff_loose hf).mp happ).1 ⟨rfl, State.Warmed39.refl s, rfl⟩ trivial
  refine ⟨n, _, h1, h2, h3, hpost _ _ _ _ _ _ ⟨Cond.after_iff.mpr rfl, Cond.after_iff.mpr (eq_i res_at (Term.int_eval (1)) rfl), trivial⟩ ⟨hq.1, hq.2.1, (hq.2.2.sift fun y hy => Or.inr (N y hy)).mono (by decide) (by decide)⟩⟩
theorem main_1_1 : Claimed_1_1 := comes_1 fun _ _ _ _ _ _ h hF => ⟨h.1, hF⟩
theorem main_1_2 : Claimed_1_2 := comes_1 fun _ _ _ _ _ _ h hF => ⟨h.2.1, hF⟩
end Jvm.Pilot.@@N@@
namespace Jvm.Pilot.@@N@@
open Jvm Jvm.ClassFile Sem Op Lib Jvm.Free Jvm.Stand Jvm.Pilot.@@N@@.Jvm.D
/-! MADE BY PROGRAM (witnessworld.py) out of the Statement's table words and the real class files: 15 classes; the members and pool entries that the words name. The judged class is class 1, her method 1. -/
namespace start1
open Jvm.ClassFile
def u (s : String) : CpInfo := .utf8 (stringToUtf16 s)
/-- a pool by its gaps: so many unusable entries, then the entry; so many at the end -/
def gap : Nat → List CpInfo → List CpInfo
  | 0, r => r
  | n + 1, r => .unusable :: gap n r
def poolList (es : List (Nat × CpInfo)) (last : Nat) : List CpInfo := es.foldr (fun e r => gap e.1 (e.2 :: r)) (gap last [])
def pool (es : List (Nat × CpInfo)) (last : Nat) : Array CpInfo := ⟨poolList es last⟩
def fileOf (pool : Array CpInfo) (this : Nat) (attrs : Array Attribute := #[]) (ms : Array MethodInfo := #[]) (fl : Nat := 33) (sup : Nat := 0) (ifs : Array Nat := #[]) (fds : Array FieldInfo := #[]) : ClassFile where
  minorVersion := 0
  majorVersion := 65
  constantPool := pool
  accessFlags := fl
  thisClass := this
  superClass := sup
  interfaces := ifs
  fields := fds
  methods := ms
  attributes := attrs
def plain (name : String) (sup : Option ClassId) : Class where
  name := name
  kind := .ordinary
  loader := none
  accessFlags := 33
  super := sup
  interfaces := #[]
  cf := none
  fields := #[]
  methods := #[]
  instanceTypes := #[]
  staticTypes := #[]
  resolved := #[]
  callSites := []
  init := .initialized
  statics := none
  mirror := none

def pool0 : Array CpInfo := pool [(5, u "<init>"), (0, u "()V"), (1, .class_ 10), (1, u "java/lang/Object")] 113

def k0m0 : Method := { name := "<init>", desc := "()V", sig := { parameters := [], returnType := none }, accessFlags := 1, code := none }
/-- java/lang/Object -/
def k0 : Class := { plain "java/lang/Object" none with
  accessFlags := 33
  interfaces := #[]
  cf := some (fileOf pool0 8 #[] #[{ accessFlags := 1, nameIndex := 5, descriptorIndex := 6, attributes := #[] }] 33 0 #[] #[])
  fields := #[]
  methods := #[k0m0]
  instanceTypes := #[]
  staticTypes := #[]
  resolved := Array.replicate 124 none
  statics := none }

def pool1 : Array CpInfo := pool [(2, .class_ 4), (1, u "java/lang/Object"), (0, u "<init>"), (0, u "()V"), (0, .methodref 8 9), (0, .class_ 10), (0, .nameAndType 11 12), (0, u "com/example/error_to_hazard/errortohazard/model/Expression"), (0, u "constant"), (0, u "(Z)Lcom/example/error_to_hazard/errortohazard/model/Expression;"), (0, .methodref 8 14), (0, .nameAndType 15 16), (0, u "type"), (0, u "()Lcom/example/error_to_hazard/errortohazard/model/Type;"), (0, .methodref 18 19), (0, .class_ 20), (0, .nameAndType 21 22), (0, u "com/example/error_to_hazard/errortohazard/model/Type"), (0, u "kind"), (0, u "()Lcom/example/error_to_hazard/errortohazard/model/Type$Kind;"), (0, .fieldref 24 25), (0, .class_ 26), (0, .nameAndType 27 28), (0, u "com/example/error_to_hazard/errortohazard/model/Type$Kind"), (0, u "BOOL"), (0, u "Lcom/example/error_to_hazard/errortohazard/model/Type$Kind;"), (0, .methodref 8 30), (0, .nameAndType 31 32), (0, u "depth"), (0, u "()I"), (0, .methodref 8 34), (0, .nameAndType 35 36), (0, u "evaluate"), (0, u "(Lcom/example/error_to_hazard/errortohazard/model/State;)J"), (0, .methodref 8 38), (0, .nameAndType 39 40), (0, u "holds"), (0, u "(Lcom/example/error_to_hazard/errortohazard/model/State;)Z"), (0, .class_ 42), (0, u "com/example/error_to_hazard/errortohazard/model/ExpressionConstantPinLaw"), (2, u "law"), (0, u "(I)Z")] 5

def k1m0 : Method := { name := "<init>", desc := "()V", sig := { parameters := [], returnType := none }, accessFlags := 1, code := none }
def k1c1 : Code := { maxStack := 4, maxLocals := 9, code := code, exceptionTable := #[], attributes := #[] }
def k1m1 : Method := { name := "law", desc := "(I)Z", sig := { parameters := [.int], returnType := some .boolean }, accessFlags := 9, code := some k1c1 }
/-- com/example/error_to_hazard/errortohazard/model/ExpressionConstantPinLaw -/
def k1 : Class := { plain "com/example/error_to_hazard/errortohazard/model/ExpressionConstantPinLaw" (some 0) with
  accessFlags := 49
  interfaces := #[]
  cf := some (fileOf pool1 41 #[] #[{ accessFlags := 1, nameIndex := 5, descriptorIndex := 6, attributes := #[] }, { accessFlags := 9, nameIndex := 45, descriptorIndex := 46, attributes := #[] }] 49 2 #[] #[])
  fields := #[]
  methods := #[k1m0, k1m1]
  instanceTypes := #[]
  staticTypes := #[]
  resolved := Array.replicate 52 none
  statics := none }

def pool2 : Array CpInfo := pool [(2, .class_ 4), (1, u "java/lang/Object"), (2, .fieldref 8 9), (0, .class_ 10), (0, .nameAndType 11 12), (0, u "com/example/error_to_hazard/errortohazard/model/Expression"), (0, u "type"), (0, u "Lcom/example/error_to_hazard/errortohazard/model/Type;"), (0, .fieldref 8 14), (0, .nameAndType 15 16), (0, u "depth"), (0, u "I"), (0, .methodref 8 18), (0, .nameAndType 19 20), (0, u "evaluate"), (0, u "(Lcom/example/error_to_hazard/errortohazard/model/State;)J"), (23, .class_ 45), (0, u "com/example/error_to_hazard/errortohazard/model/Expression$VariableValue"), (10, .class_ 57), (0, u "com/example/error_to_hazard/errortohazard/model/Expression$FailureModeActive"), (4, .class_ 63), (0, u "com/example/error_to_hazard/errortohazard/model/Expression$Case"), (28, .fieldref 8 93), (0, .nameAndType 94 95), (0, u "TRUE"), (0, u "Lcom/example/error_to_hazard/errortohazard/model/Expression;"), (0, .fieldref 8 97), (0, .nameAndType 98 95), (0, u "FALSE"), (0, .class_ 100), (0, u "com/example/error_to_hazard/errortohazard/model/Expression$Constant"), (55, .class_ 157), (0, u "com/example/error_to_hazard/errortohazard/model/Expression$Not"), (6, .class_ 165), (0, u "com/example/error_to_hazard/errortohazard/model/Expression$Negation"), (7, u "()Lcom/example/error_to_hazard/errortohazard/model/Type;"), (3, .class_ 179), (1, u "com/example/error_to_hazard/errortohazard/model/Expression$Operator"), (20, .class_ 201), (0, u "com/example/error_to_hazard/errortohazard/model/Expression$Application"), (14, u "()I"), (27, u "holds"), (0, u "(Lcom/example/error_to_hazard/errortohazard/model/State;)Z"), (9, u "constant"), (0, u "(Z)Lcom/example/error_to_hazard/errortohazard/model/Expression;")] 46

def k2m0 : Method := { name := "evaluate", desc := "(Lcom/example/error_to_hazard/errortohazard/model/State;)J", sig := { parameters := [(.object "com/example/error_to_hazard/errortohazard/model/State")], returnType := some .long }, accessFlags := 1025, code := none }
def k2c1 : Code := { maxStack := 4, maxLocals := 2, code := prog_59_method_3_code, exceptionTable := #[], attributes := #[] }
def k2m1 : Method := { name := "holds", desc := "(Lcom/example/error_to_hazard/errortohazard/model/State;)Z", sig := { parameters := [(.object "com/example/error_to_hazard/errortohazard/model/State")], returnType := some .boolean }, accessFlags := 1, code := some k2c1 }
def k2c2 : Code := { maxStack := 1, maxLocals := 1, code := prog_59_method_4_code, exceptionTable := #[], attributes := #[] }
def k2m2 : Method := { name := "type", desc := "()Lcom/example/error_to_hazard/errortohazard/model/Type;", sig := { parameters := [], returnType := some (.object "com/example/error_to_hazard/errortohazard/model/Type") }, accessFlags := 1, code := some k2c2 }
def k2c3 : Code := { maxStack := 1, maxLocals := 1, code := prog_59_method_5_code, exceptionTable := #[], attributes := #[] }
def k2m3 : Method := { name := "depth", desc := "()I", sig := { parameters := [], returnType := some .int }, accessFlags := 1, code := some k2c3 }
def k2c4 : Code := { maxStack := 1, maxLocals := 1, code := prog_59_method_11_code, exceptionTable := #[], attributes := #[] }
def k2m4 : Method := { name := "constant", desc := "(Z)Lcom/example/error_to_hazard/errortohazard/model/Expression;", sig := { parameters := [.boolean], returnType := some (.object "com/example/error_to_hazard/errortohazard/model/Expression") }, accessFlags := 9, code := some k2c4 }
/-- com/example/error_to_hazard/errortohazard/model/Expression -/
def k2 : Class := { plain "com/example/error_to_hazard/errortohazard/model/Expression" (some 0) with
  accessFlags := 1057
  interfaces := #[]
  cf := some (fileOf pool2 8 #[.nestMembers #[62, 164, 200, 156, 56, 44, 99, 177]] #[{ accessFlags := 1025, nameIndex := 19, descriptorIndex := 20, attributes := #[] }, { accessFlags := 1, nameIndex := 244, descriptorIndex := 245, attributes := #[] }, { accessFlags := 1, nameIndex := 11, descriptorIndex := 173, attributes := #[] }, { accessFlags := 1, nameIndex := 15, descriptorIndex := 216, attributes := #[] }, { accessFlags := 9, nameIndex := 255, descriptorIndex := 256, attributes := #[] }] 1057 2 #[] #[{ accessFlags := 26, nameIndex := 94, descriptorIndex := 95, attributes := #[] }, { accessFlags := 26, nameIndex := 98, descriptorIndex := 95, attributes := #[] }, { accessFlags := 18, nameIndex := 11, descriptorIndex := 12, attributes := #[] }, { accessFlags := 18, nameIndex := 15, descriptorIndex := 16, attributes := #[] }])
  fields := #[{ name := "TRUE", type := (.object "com/example/error_to_hazard/errortohazard/model/Expression"), accessFlags := 26, slot := 0, constantValue := 0 }, { name := "FALSE", type := (.object "com/example/error_to_hazard/errortohazard/model/Expression"), accessFlags := 26, slot := 1, constantValue := 0 }, { name := "type", type := (.object "com/example/error_to_hazard/errortohazard/model/Type"), accessFlags := 18, slot := 0, constantValue := 0 }, { name := "depth", type := .int, accessFlags := 18, slot := 1, constantValue := 0 }]
  methods := #[k2m0, k2m1, k2m2, k2m3, k2m4]
  instanceTypes := #[(.object "com/example/error_to_hazard/errortohazard/model/Type"), .int]
  staticTypes := #[(.object "com/example/error_to_hazard/errortohazard/model/Expression"), (.object "com/example/error_to_hazard/errortohazard/model/Expression")]
  resolved := Array.replicate 303 none
  statics := some 0 }

def pool3 : Array CpInfo := pool [(2, .class_ 4), (1, u "com/example/error_to_hazard/errortohazard/model/Expression"), (2, .fieldref 8 9), (0, .class_ 10), (0, .nameAndType 11 12), (0, u "com/example/error_to_hazard/errortohazard/model/Expression$Constant"), (0, u "value"), (0, u "J"), (9, u "evaluate"), (0, u "(Lcom/example/error_to_hazard/errortohazard/model/State;)J")] 8

def k3c0 : Code := { maxStack := 2, maxLocals := 2, code := prog_62_method_2_code, exceptionTable := #[], attributes := #[] }
def k3m0 : Method := { name := "evaluate", desc := "(Lcom/example/error_to_hazard/errortohazard/model/State;)J", sig := { parameters := [(.object "com/example/error_to_hazard/errortohazard/model/State")], returnType := some .long }, accessFlags := 1, code := some k3c0 }
/-- com/example/error_to_hazard/errortohazard/model/Expression$Constant -/
def k3 : Class := { plain "com/example/error_to_hazard/errortohazard/model/Expression$Constant" (some 2) with
  accessFlags := 48
  interfaces := #[]
  cf := some (fileOf pool3 8 #[.nestHost 2] #[{ accessFlags := 1, nameIndex := 22, descriptorIndex := 23, attributes := #[] }] 48 2 #[] #[{ accessFlags := 18, nameIndex := 11, descriptorIndex := 12, attributes := #[] }])
  fields := #[{ name := "value", type := .long, accessFlags := 18, slot := 2, constantValue := 0 }]
  methods := #[k3m0]
  instanceTypes := #[(.object "com/example/error_to_hazard/errortohazard/model/Type"), .int, .long]
  staticTypes := #[]
  resolved := Array.replicate 32 none
  statics := none }

def pool4 : Array CpInfo := pool [(2, .class_ 4), (1, u "java/lang/Object"), (2, .fieldref 8 9), (0, .class_ 10), (0, .nameAndType 11 12), (0, u "com/example/error_to_hazard/errortohazard/model/Type"), (0, u "kind"), (0, u "Lcom/example/error_to_hazard/errortohazard/model/Type$Kind;"), (2, u "low"), (0, u "J"), (2, u "high"), (2, u "names"), (0, u "Ljava/util/List;"), (2, u "codes"), (0, u "[J"), (2, u "BOOL"), (0, u "Lcom/example/error_to_hazard/errortohazard/model/Type;"), (10, .class_ 44), (1, u "com/example/error_to_hazard/errortohazard/model/Type$Kind"), (199, u "()Lcom/example/error_to_hazard/errortohazard/model/Type$Kind;")] 46

def k4c0 : Code := { maxStack := 1, maxLocals := 1, code := prog_79_method_5_code, exceptionTable := #[], attributes := #[] }
def k4m0 : Method := { name := "kind", desc := "()Lcom/example/error_to_hazard/errortohazard/model/Type$Kind;", sig := { parameters := [], returnType := some (.object "com/example/error_to_hazard/errortohazard/model/Type$Kind") }, accessFlags := 1, code := some k4c0 }
/-- com/example/error_to_hazard/errortohazard/model/Type -/
def k4 : Class := { plain "com/example/error_to_hazard/errortohazard/model/Type" (some 0) with
  accessFlags := 49
  interfaces := #[]
  cf := some (fileOf pool4 8 #[.nestMembers #[42]] #[{ accessFlags := 1, nameIndex := 11, descriptorIndex := 244, attributes := #[] }] 49 2 #[] #[{ accessFlags := 26, nameIndex := 30, descriptorIndex := 31, attributes := #[] }, { accessFlags := 18, nameIndex := 11, descriptorIndex := 12, attributes := #[] }, { accessFlags := 18, nameIndex := 15, descriptorIndex := 16, attributes := #[] }, { accessFlags := 18, nameIndex := 19, descriptorIndex := 16, attributes := #[] }, { accessFlags := 18, nameIndex := 22, descriptorIndex := 23, attributes := #[] }, { accessFlags := 18, nameIndex := 26, descriptorIndex := 27, attributes := #[] }])
  fields := #[{ name := "BOOL", type := (.object "com/example/error_to_hazard/errortohazard/model/Type"), accessFlags := 26, slot := 0, constantValue := 0 }, { name := "kind", type := (.object "com/example/error_to_hazard/errortohazard/model/Type$Kind"), accessFlags := 18, slot := 0, constantValue := 0 }, { name := "low", type := .long, accessFlags := 18, slot := 1, constantValue := 0 }, { name := "high", type := .long, accessFlags := 18, slot := 2, constantValue := 0 }, { name := "names", type := (.object "java/util/List"), accessFlags := 18, slot := 3, constantValue := 0 }, { name := "codes", type := (.array .long), accessFlags := 18, slot := 4, constantValue := 0 }]
  methods := #[k4m0]
  instanceTypes := #[(.object "com/example/error_to_hazard/errortohazard/model/Type$Kind"), .long, .long, (.object "java/util/List"), (.array .long)]
  staticTypes := #[(.object "com/example/error_to_hazard/errortohazard/model/Type")]
  resolved := Array.replicate 291 none
  statics := none }

def pool5 : Array CpInfo := pool [(1, .class_ 2), (0, u "java/lang/constant/Constable"), (0, .class_ 4), (0, u "java/lang/Object")] 6

/-- java/lang/constant/Constable -/
def k5 : Class := { plain "java/lang/constant/Constable" (some 0) with
  accessFlags := 1537
  interfaces := #[]
  cf := some (fileOf pool5 1 #[] #[] 1537 3 #[] #[])
  fields := #[]
  methods := #[]
  instanceTypes := #[]
  staticTypes := #[]
  resolved := Array.replicate 11 none
  statics := none }

def pool6 : Array CpInfo := pool [(1, .class_ 2), (0, u "java/lang/Comparable"), (0, .class_ 4), (0, u "java/lang/Object")] 7

/-- java/lang/Comparable -/
def k6 : Class := { plain "java/lang/Comparable" (some 0) with
  accessFlags := 1537
  interfaces := #[]
  cf := some (fileOf pool6 1 #[] #[] 1537 3 #[] #[])
  fields := #[]
  methods := #[]
  instanceTypes := #[]
  staticTypes := #[]
  resolved := Array.replicate 12 none
  statics := none }

def pool7 : Array CpInfo := pool [(1, .class_ 2), (0, u "java/io/Serializable"), (0, .class_ 4), (0, u "java/lang/Object")] 2

/-- java/io/Serializable -/
def k7 : Class := { plain "java/io/Serializable" (some 0) with
  accessFlags := 1537
  interfaces := #[]
  cf := some (fileOf pool7 1 #[] #[] 1537 3 #[] #[])
  fields := #[]
  methods := #[]
  instanceTypes := #[]
  staticTypes := #[]
  resolved := Array.replicate 7 none
  statics := none }

def pool8 : Array CpInfo := pool [(2, .class_ 4), (1, u "java/lang/Enum"), (0, u "name"), (0, u "Ljava/lang/String;"), (2, u "ordinal"), (0, u "I"), (1, .class_ 14), (1, u "java/lang/Object"), (4, u "hash"), (86, .class_ 108), (1, u "java/lang/Enum$EnumDesc"), (2, .class_ 112), (0, u "java/lang/constant/Constable"), (0, .class_ 114), (0, u "java/lang/Comparable"), (0, .class_ 116), (0, u "java/io/Serializable")] 87

/-- java/lang/Enum -/
def k8 : Class := { plain "java/lang/Enum" (some 0) with
  accessFlags := 1057
  interfaces := #[5, 6, 7]
  cf := some (fileOf pool8 2 #[.nestMembers #[106]] #[] 1057 12 #[111, 113, 115] #[{ accessFlags := 18, nameIndex := 5, descriptorIndex := 6, attributes := #[] }, { accessFlags := 18, nameIndex := 9, descriptorIndex := 10, attributes := #[] }, { accessFlags := 2, nameIndex := 19, descriptorIndex := 10, attributes := #[] }])
  fields := #[{ name := "name", type := (.object "java/lang/String"), accessFlags := 18, slot := 0, constantValue := 0 }, { name := "ordinal", type := .int, accessFlags := 18, slot := 1, constantValue := 0 }, { name := "hash", type := .int, accessFlags := 2, slot := 2, constantValue := 0 }]
  methods := #[]
  instanceTypes := #[(.object "java/lang/String"), .int, .int]
  staticTypes := #[]
  resolved := Array.replicate 204 none
  statics := none }

def pool9 : Array CpInfo := pool [(1, .class_ 2), (0, u "com/example/error_to_hazard/errortohazard/model/Type$Kind"), (2, u "BOOL"), (0, u "Lcom/example/error_to_hazard/errortohazard/model/Type$Kind;"), (2, u "INTEGER"), (2, u "ENUMERATION"), (2, u "$VALUES"), (0, u "[Lcom/example/error_to_hazard/errortohazard/model/Type$Kind;"), (6, .class_ 25), (1, u "java/lang/Enum"), (8, u "description"), (0, u "Ljava/lang/String;"), (31, .class_ 68), (0, u "com/example/error_to_hazard/errortohazard/model/Type")] 2

/-- com/example/error_to_hazard/errortohazard/model/Type$Kind -/
def k9 : Class := { plain "com/example/error_to_hazard/errortohazard/model/Type$Kind" (some 8) with
  accessFlags := 16433
  interfaces := #[]
  cf := some (fileOf pool9 1 #[.nestHost 67] #[] 16433 23 #[] #[{ accessFlags := 16409, nameIndex := 5, descriptorIndex := 6, attributes := #[] }, { accessFlags := 16409, nameIndex := 9, descriptorIndex := 6, attributes := #[] }, { accessFlags := 16409, nameIndex := 12, descriptorIndex := 6, attributes := #[] }, { accessFlags := 18, nameIndex := 34, descriptorIndex := 35, attributes := #[] }, { accessFlags := 4122, nameIndex := 15, descriptorIndex := 16, attributes := #[] }])
  fields := #[{ name := "BOOL", type := (.object "com/example/error_to_hazard/errortohazard/model/Type$Kind"), accessFlags := 16409, slot := 0, constantValue := 0 }, { name := "INTEGER", type := (.object "com/example/error_to_hazard/errortohazard/model/Type$Kind"), accessFlags := 16409, slot := 1, constantValue := 0 }, { name := "ENUMERATION", type := (.object "com/example/error_to_hazard/errortohazard/model/Type$Kind"), accessFlags := 16409, slot := 2, constantValue := 0 }, { name := "description", type := (.object "java/lang/String"), accessFlags := 18, slot := 3, constantValue := 0 }, { name := "$VALUES", type := (.array (.object "com/example/error_to_hazard/errortohazard/model/Type$Kind")), accessFlags := 4122, slot := 3, constantValue := 0 }]
  methods := #[]
  instanceTypes := #[(.object "java/lang/String"), .int, .int, (.object "java/lang/String")]
  staticTypes := #[(.object "com/example/error_to_hazard/errortohazard/model/Type$Kind"), (.object "com/example/error_to_hazard/errortohazard/model/Type$Kind"), (.object "com/example/error_to_hazard/errortohazard/model/Type$Kind"), (.array (.object "com/example/error_to_hazard/errortohazard/model/Type$Kind"))]
  resolved := Array.replicate 71 none
  statics := some 1 }

def pool10 : Array CpInfo := pool [(1, u "java/lang/Cloneable"), (0, .class_ 1), (0, u "java/lang/Object"), (0, .class_ 3)] 3

/-- java/lang/Cloneable -/
def k10 : Class := { plain "java/lang/Cloneable" (some 0) with
  accessFlags := 1537
  interfaces := #[]
  cf := some (fileOf pool10 2 #[] #[] 1537 4 #[] #[])
  fields := #[]
  methods := #[]
  instanceTypes := #[]
  staticTypes := #[]
  resolved := Array.replicate 8 none
  statics := none }

/-- the primitive byte -/
def k11 : Class := { plain "byte" none with kind := .primitive 'B', accessFlags := 0x411 }
/-- [B -/
def k12 : Class := { plain "[B" (some 0) with kind := .array 11 .byte, interfaces := #[10, 7], accessFlags := 1041 }

/-- the primitive int -/
def k13 : Class := { plain "int" none with kind := .primitive 'I', accessFlags := 0x411 }
/-- [I -/
def k14 : Class := { plain "[I" (some 0) with kind := .array 13 .int, interfaces := #[10, 7], accessFlags := 1041 }

def heap : Heap := #[{ cls := 2, slots := #[.ref 5, .ref 4], vm := .statics 2 },
  { cls := 9, slots := #[.ref 2, .null, .null, .null], vm := .statics 9 },
  { cls := 9, slots := #[.null, .int 0, .int 0, .null], vm := .none },
  { cls := 4, slots := #[.ref 2, .long 0, .long 0, .null, .null], vm := .none },
  { cls := 3, slots := #[.ref 3, .int 1, .long 0], vm := .none },
  { cls := 3, slots := #[.ref 3, .int 1, .long 1], vm := .none }]
def classes : Array Class := #[k0, k1, k2, k3, k4, k5, k6, k7, k8, k9, k10, k11, k12, k13, k14]
def interned : List (Array UInt16 × Addr) := []
def slotsUsed : Nat := 21
def theMethod : MethodId := ⟨1, 1⟩
def args0 : Array Value := #[.int 1]
def aboutOver (below : List Frame) : State where
  vm := { classes := classes, interned := interned.toArray }
  heap := heap
  slotsUsed := slotsUsed
  threads := #[{ frames := .invoking theMethod args0 :: below }]
def below0 : List Frame := [.native { method := ⟨0, 0⟩, args := #[] }]
def about1 : State := aboutOver below0
def p0 : Program := .bare "" "" ""
def e0 : Env := launch0.env 0 0 0
theorem w_frames : about1.frames = Frame.invoking theMethod args0 :: below0 := rfl
set_option maxRecDepth 65536 in
theorem w_args : argsFit about1.vm theMethod args0 = true := by decide +kernel
set_option maxRecDepth 65536 in
theorem w_heap : heapFits about1 = true := by decide +kernel
set_option maxRecDepth 65536 in
theorem w_runnable : about1.curStatus? = some .runnable := by decide +kernel
set_option maxRecDepth 65536 in
theorem w_alone : about1.alone = true := by decide +kernel
set_option maxRecDepth 65536 in
theorem w_named : about1.methodNamed? x = some theMethod := by decide +kernel
set_option maxRecDepth 65536 in
theorem w_hears : about1.hears theMethod below0 = true := by decide +kernel
set_option maxRecDepth 65536 in
theorem w_ripe : about1.ripe theMethod args0 below0 = true := by decide +kernel
theorem w_running : about1.status = .running := rfl
set_option maxRecDepth 65536 in
theorem w_room : about1.hasRoom e0.platform room_1 = true :=
  launch0.hasRoom_least _ room_1 (by decide +kernel) (by decide +kernel) (by decide +kernel) (by decide +kernel) (by decide +kernel) (by decide +kernel)
theorem allAtoms_all (ts : List Jvm.Cond) (a : Array Jvm.Value) (st : Jvm.State) : (allAtoms ts).before a st = ts.all (fun c => c.before a st) := by
  induction ts with
  | nil => rfl
  | cons c t ih =>
    show (Jvm.Cond.and c (allAtoms t)).before a st = _
    rw [Jvm.Cond.before_and, ih, List.all_cons]
def words1 : List Jvm.Cond := Jvm.Cond.code x code maxLocals ret :: tables_1
/-- a 'code' word, met by the world's own term for the bytes: nothing is compared byte by byte -/
theorem code_word {y : MethodName} {bytes : ByteArray} {mx : Nat} {rt : Option FieldType} {a : Array Value} {s : State} {m : MethodId} {meth : Method} {c : Code} (h1 : s.methodNamed? y = some m) (h2 : s.vm.method? m = some meth) (h3 : meth.code = some c) (h4 : c.code = bytes)
    (h5 : (c.maxLocals == mx && c.exceptionTable.isEmpty && decide (c.maxStack ≤ mostOperands) && decide (meth.sig.returnType = rt) && !meth.locks && decide (parseMethodDescriptor y.desc = some meth.sig)) = true) : (Jvm.Cond.code y bytes mx rt).before a s = true := by
  simp only [Bool.and_eq_true, beq_iff_eq, Bool.not_eq_true', decide_eq_true_eq] at h5
  obtain ⟨⟨⟨⟨⟨g1, g2⟩, g3⟩, g4⟩, g5⟩, g6⟩ := h5
  simp [Cond.before, Cond.holds, Cond.value, h1, h2, h3, h4, g1, g2, g3, g4, g5, g6]
def isCode : Jvm.Cond → Bool
  | .code _ _ _ _ => true
  | _ => false
theorem all_split {L : List Jvm.Cond} {P : Jvm.Cond → Bool} (h1 : L.all (fun c => isCode c || P c) = true) (h2 : ∀ c ∈ L.filter isCode, P c = true) : L.all P = true := by
  refine List.all_eq_true.mpr fun c hc => ?_
  have h := List.all_eq_true.mp h1 c hc
  rcases Bool.eq_false_or_eq_true (isCode c) with hi | hi
  · exact h2 c (List.mem_filter.mpr ⟨hc, hi⟩)
  · simpa [hi] using h
set_option maxRecDepth 65536 in
theorem w_c0 : (Jvm.Cond.code x code maxLocals ret).before args0 about1 = true := code_word (m := ⟨1, 1⟩) (meth := k1m1) (c := k1c1) (by decide +kernel) rfl rfl rfl (by decide +kernel)
set_option maxRecDepth 65536 in
theorem w_c1 : (Jvm.Cond.code ({ cls := "com/example/error_to_hazard/errortohazard/model/Expression", name := "constant", desc := "(Z)Lcom/example/error_to_hazard/errortohazard/model/Expression;" } : Jvm.MethodName) prog_59_method_11_code (1 : Nat) (Option.some (Jvm.ClassFile.FieldType.object "com/example/error_to_hazard/errortohazard/model/Expression"))).before args0 about1 = true := code_word (m := ⟨2, 4⟩) (meth := k2m4) (c := k2c4) (by decide +kernel) rfl rfl rfl (by decide +kernel)
set_option maxRecDepth 65536 in
theorem w_c2 : (Jvm.Cond.code ({ cls := "com/example/error_to_hazard/errortohazard/model/Expression", name := "type", desc := "()Lcom/example/error_to_hazard/errortohazard/model/Type;" } : Jvm.MethodName) prog_59_method_4_code (1 : Nat) (Option.some (Jvm.ClassFile.FieldType.object "com/example/error_to_hazard/errortohazard/model/Type"))).before args0 about1 = true := code_word (m := ⟨2, 2⟩) (meth := k2m2) (c := k2c2) (by decide +kernel) rfl rfl rfl (by decide +kernel)
set_option maxRecDepth 65536 in
theorem w_c3 : (Jvm.Cond.code ({ cls := "com/example/error_to_hazard/errortohazard/model/Type", name := "kind", desc := "()Lcom/example/error_to_hazard/errortohazard/model/Type$Kind;" } : Jvm.MethodName) prog_79_method_5_code (1 : Nat) (Option.some (Jvm.ClassFile.FieldType.object "com/example/error_to_hazard/errortohazard/model/Type$Kind"))).before args0 about1 = true := code_word (m := ⟨4, 0⟩) (meth := k4m0) (c := k4c0) (by decide +kernel) rfl rfl rfl (by decide +kernel)
set_option maxRecDepth 65536 in
theorem w_c4 : (Jvm.Cond.code ({ cls := "com/example/error_to_hazard/errortohazard/model/Expression", name := "depth", desc := "()I" } : Jvm.MethodName) prog_59_method_5_code (1 : Nat) (Option.some Jvm.ClassFile.FieldType.int)).before args0 about1 = true := code_word (m := ⟨2, 3⟩) (meth := k2m3) (c := k2c3) (by decide +kernel) rfl rfl rfl (by decide +kernel)
set_option maxRecDepth 65536 in
theorem w_c5 : (Jvm.Cond.code ({ cls := "com/example/error_to_hazard/errortohazard/model/Expression$Constant", name := "evaluate", desc := "(Lcom/example/error_to_hazard/errortohazard/model/State;)J" } : Jvm.MethodName) prog_62_method_2_code (2 : Nat) (Option.some Jvm.ClassFile.FieldType.long)).before args0 about1 = true := code_word (m := ⟨3, 0⟩) (meth := k3m0) (c := k3c0) (by decide +kernel) rfl rfl rfl (by decide +kernel)
set_option maxRecDepth 65536 in
theorem w_c6 : (Jvm.Cond.code ({ cls := "com/example/error_to_hazard/errortohazard/model/Expression", name := "holds", desc := "(Lcom/example/error_to_hazard/errortohazard/model/State;)Z" } : Jvm.MethodName) prog_59_method_3_code (2 : Nat) (Option.some Jvm.ClassFile.FieldType.boolean)).before args0 about1 = true := code_word (m := ⟨2, 1⟩) (meth := k2m1) (c := k2c1) (by decide +kernel) rfl rfl rfl (by decide +kernel)
def codes1 : List Jvm.Cond := [Jvm.Cond.code x code maxLocals ret, Jvm.Cond.code ({ cls := "com/example/error_to_hazard/errortohazard/model/Expression", name := "constant", desc := "(Z)Lcom/example/error_to_hazard/errortohazard/model/Expression;" } : Jvm.MethodName) prog_59_method_11_code (1 : Nat) (Option.some (Jvm.ClassFile.FieldType.object "com/example/error_to_hazard/errortohazard/model/Expression")), Jvm.Cond.code ({ cls := "com/example/error_to_hazard/errortohazard/model/Expression", name := "type", desc := "()Lcom/example/error_to_hazard/errortohazard/model/Type;" } : Jvm.MethodName) prog_59_method_4_code (1 : Nat) (Option.some (Jvm.ClassFile.FieldType.object "com/example/error_to_hazard/errortohazard/model/Type")), Jvm.Cond.code ({ cls := "com/example/error_to_hazard/errortohazard/model/Type", name := "kind", desc := "()Lcom/example/error_to_hazard/errortohazard/model/Type$Kind;" } : Jvm.MethodName) prog_79_method_5_code (1 : Nat) (Option.some (Jvm.ClassFile.FieldType.object "com/example/error_to_hazard/errortohazard/model/Type$Kind")), Jvm.Cond.code ({ cls := "com/example/error_to_hazard/errortohazard/model/Expression", name := "depth", desc := "()I" } : Jvm.MethodName) prog_59_method_5_code (1 : Nat) (Option.some Jvm.ClassFile.FieldType.int), Jvm.Cond.code ({ cls := "com/example/error_to_hazard/errortohazard/model/Expression$Constant", name := "evaluate", desc := "(Lcom/example/error_to_hazard/errortohazard/model/State;)J" } : Jvm.MethodName) prog_62_method_2_code (2 : Nat) (Option.some Jvm.ClassFile.FieldType.long), Jvm.Cond.code ({ cls := "com/example/error_to_hazard/errortohazard/model/Expression", name := "holds", desc := "(Lcom/example/error_to_hazard/errortohazard/model/State;)Z" } : Jvm.MethodName) prog_59_method_3_code (2 : Nat) (Option.some Jvm.ClassFile.FieldType.boolean)]
set_option maxRecDepth 65536 in
theorem codes_eq : words1.filter isCode = codes1 := rfl
theorem w_codes : ∀ c ∈ words1.filter isCode, c.before args0 about1 = true := by
  rw [codes_eq]
  intro c hc
  simp only [codes1, List.mem_cons, List.not_mem_nil, or_false] at hc
  rcases hc with rfl | rfl | rfl | rfl | rfl | rfl | rfl
  · exact w_c0
  · exact w_c1
  · exact w_c2
  · exact w_c3
  · exact w_c4
  · exact w_c5
  · exact w_c6
set_option maxRecDepth 65536 in
theorem w_t1 : (words1.take 24).all (fun c => isCode c || c.before args0 about1) = true := by decide +kernel
set_option maxRecDepth 65536 in
theorem w_t2 : (words1.drop 24).all (fun c => isCode c || c.before args0 about1) = true := by decide +kernel
theorem w_tables : (allAtoms (Jvm.Cond.code x code maxLocals ret :: tables_1)).before args0 about1 = true := by
  rw [allAtoms_all]
  show words1.all (fun c => c.before args0 about1) = true
  refine all_split ?_ w_codes
  rw [← List.take_append_drop 24 words1, List.all_append, w_t1, w_t2]
  rfl
set_option maxRecDepth 65536 in
theorem w_case : (Jvm.Cond.and given_1 narrow_1).before args0 about1 = true := by decide +kernel
theorem w_applies : (headSpec (Jvm.Cond.code x code maxLocals ret :: tables_1) room_1).applies x e0.platform about1 = true :=
  (Spec.applies_iff w_frames).mpr ⟨w_running, w_runnable, w_alone, w_named, w_hears, w_ripe, w_room, w_tables⟩
theorem atStart : AtStart classFile x code maxLocals ret World_1 tables_1 room_1 Calls_1 rest_1 Pre_1 launch0 p0 e0 about1 theMethod args0 below0 :=
  ⟨lists_1, trivial, launch0.admits_env _ _ _, launch0.least_env, fairChoices_fair.cas, fairChoices_fair.clock, w_frames, w_args, w_heap, w_applies, trivial, trivial, w_case⟩
end start1
theorem witness_1 : WitnessClaimed_1 := ⟨start1.p0, start1.e0, start1.about1, start1.theMethod, start1.args0, start1.below0, start1.atStart⟩
end Jvm.Pilot.@@N@@
