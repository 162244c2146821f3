import JvmDerived
import JvmDerived.Pilot.@@N@@Statement
import JvmDerived.Pilot.@@N@@Code
set_option linter.unusedVariables false
set_option linter.unusedSimpArgs false
namespace Jvm.Pilot.@@N@@
open Jvm Jvm.ClassFile Sem Op Lib Jvm.Free Jvm.Stand Jvm.LawKit Jvm.RoadKit Bundle Jvm.Pilot.@@N@@.Jvm.D
section OwnRun
variable {p : Program} {l : Launch} {e : Env} {R : Room} {s : State} {m : MethodId} {args : Array Value} {below : List Frame} {meth : Method} {c : Code} {T T' : State} {locs : List Loc} {cells slots : Nat}
/-- from here the run ends, as G says -/
def own_Run (p : Program) (e : Env) (below : List Frame) (G : Outcome → State → Prop) (T : State) (g : JFrame) : Prop :=
  ∃ s₂ o, Steps p.tables e below (T.setTop g) s₂ ∧ s₂.status = .running ∧ Ended s₂ below o ∧ G o s₂
theorem own_go {G : Outcome → State → Prop} {g g' : JFrame} (h : ∀ t, Steps p.tables e below (T'.setTop g') t → Steps p.tables e below (T.setTop g) t) (k : own_Run p e below G T' g') : own_Run p e below G T g := by
  obtain ⟨s₂, o, h1, h2, h3, h4⟩ := k
  exact ⟨s₂, o, h _ h1, h2, h3, h4⟩
theorem own_goT {G : Outcome → State → Prop} {g g' : JFrame} (h : Steps p.tables e below (T.setTop g) (T'.setTop g')) (k : own_Run p e below G T' g') : own_Run p e below G T g :=
  own_go (fun _ q => h.trans q) k
theorem own_start {G : Outcome → State → Prop} {f f' : JFrame} (h : f = f') (k : own_Run p e below G T f') : ∃ s₂ o, Steps p.tables e below (T.setTop f) s₂ ∧ s₂.status = .running ∧ Ended s₂ below o ∧ G o s₂ := by
  subst h
  exact k
theorem own_done {Q : Option Value → Heap → List Loc → Prop} {C N : Nat} {g : JFrame} (X : Stand p l e R s m args below meth c T locs cells slots) {v : Option Value} (hv : meth.sig.returnType = none → v = none) (hlocks : meth.locks = false)
    (hstep : ∀ fs, (∀ (f : JFrame) (acts : List Action), f.method = m → f.locked = none → f.entered = [] → (doReturn e (T.setTop f) acts v).1 = T.setFrames fs) → Steps p.tables e below (T.setTop g) (T.setFrames fs))
    (hQ : Q v T.heap locs) (hc : cells ≤ C) (hs : slots ≤ N) :
    own_Run p e below (fun o U' => ∃ v L, o = .returned v ∧ Q v U'.heap L ∧ FrameEnd s o U' L C N) T g := by
  obtain ⟨fs, hr, hrun, hended, hW, hsame⟩ := X.leave hv hlocks
  exact ⟨_, _, hstep fs hr, hrun, hended, _, _, rfl, hQ, ⟨_, rfl⟩, hW, hsame.mono hc hs⟩
theorem own_mono {cells' slots' : Nat} (X : Stand p l e R s m args below meth c T locs cells slots) (hc : cells ≤ cells') (hs : slots ≤ slots') : Stand p l e R s m args below meth c T locs cells' slots' :=
  ⟨X.admits, X.cas, X.clock, X.frames, X.room, X.hears, X.method, X.code, X.here, X.tail, X.warmed, X.limits, X.bytes, X.same.mono hc hs⟩
theorem own_retI (X : Stand p l e R s m args below meth c T locs cells slots) (hx : p.tables.exec = Jvm.exec) {pc : Nat} {Ls : Array Slot} {z : Int32} {rest : List Value} (hret : meth.sig.returnType = some .int) (hd : decode c.code pc = .ok (.ireturn, 1)) {fs : List Frame}
    (hl : ∀ (f : JFrame) (acts : List Action), f.method = m → f.locked = none → f.entered = [] → (doReturn e (T.setTop f) acts (some (.int z))).1 = T.setFrames fs) : Steps p.tables e below (T.setTop (mkF m pc Ls (.int z :: rest))) (T.setFrames fs) :=
  retOut X hx hret rfl (Or.inl ⟨rfl, Or.inl rfl, z, rfl⟩) hd hl
theorem own_retL (X : Stand p l e R s m args below meth c T locs cells slots) (hx : p.tables.exec = Jvm.exec) {pc : Nat} {Ls : Array Slot} {z : Int64} {rest : List Value} (hret : meth.sig.returnType = some .long) (hd : decode c.code pc = .ok (.lreturn, 1)) {fs : List Frame}
    (hl : ∀ (f : JFrame) (acts : List Action), f.method = m → f.locked = none → f.entered = [] → (doReturn e (T.setTop f) acts (some (.long z))).1 = T.setFrames fs) : Steps p.tables e below (T.setTop (mkF m pc Ls (.long z :: rest))) (T.setFrames fs) :=
  retOut X hx hret rfl (Or.inr (Or.inl ⟨rfl, rfl, z, rfl⟩)) hd hl
theorem own_retA {t : FieldType} (X : Stand p l e R s m args below meth c T locs cells slots) (hx : p.tables.exec = Jvm.exec) {pc : Nat} {Ls : Array Slot} {w : Value} {rest : List Value} (hret : meth.sig.returnType = some t) (ht : t.isReference = true) (hn : narrow t w = w) (hw : w.isRef = true) (hd : decode c.code pc = .ok (.areturn, 1)) {fs : List Frame}
    (hl : ∀ (f : JFrame) (acts : List Action), f.method = m → f.locked = none → f.entered = [] → (doReturn e (T.setTop f) acts (some w)).1 = T.setFrames fs) : Steps p.tables e below (T.setTop (mkF m pc Ls (w :: rest))) (T.setFrames fs) :=
  retOut X hx hret hn (Or.inr (Or.inr (Or.inr (Or.inr ⟨rfl, ht, hw⟩)))) hd hl
theorem own_ns {Z : State} {h : Heap} {a : Addr} {C : String} (E : Exa Z h a C) : ∃ c : Cell, h[a]? = some c ∧ c.vm.isStatics = false := by
  obtain ⟨c, k, h1, -, -, h4, -⟩ := E
  exact ⟨c, h1, h4⟩
theorem own_nsV {Z : State} {h : Heap} {a : Addr} {k : ClassId} {ty : FieldType} {n : Int32} {vs : List Value} {d : Value} (V : Arv Z h a k ty n vs d) : ∃ c : Cell, h[a]? = some c ∧ c.vm.isStatics = false := by
  obtain ⟨c, A, -⟩ := V
  exact ⟨c, A.1, A.plain⟩
theorem own_staKeep {Z : State} {h h' : Heap} {ws : List Addr} {C n d : String} {w : Value} (F : Sta Z h C n d w) (K : Keep h h' ws) (q : ∀ x ∈ ws, ∃ c : Cell, h[x]? = some c ∧ c.vm.isStatics = false) : Sta Z h' C n d w := by
  obtain ⟨cf, i, k, f, st, cell, h1, h2, h3, h4, h5, h6, h7⟩ := F
  refine ⟨cf, i, k, f, st, cell, h1, h2, h3, h4, K.2.1 st cell h5 (fun hm => ?_), h6, h7⟩
  obtain ⟨c, e1, e2⟩ := q st hm
  cases h5.symm.trans e1
  rw [h6] at e2; cases e2
theorem own_eqL {args : Array Value} {first s : State} {o : Option Outcome} {idx : List Nat} {t : Term} {n : Int64} (h : (Jvm.Cond.eq t (Term.long n)).value args first o s idx = some true) : t.eval args first o idx s = some (.long n) := by
  cases ht : t.eval args first o idx s with
  | none => simp [Cond.value, ht] at h
  | some x => cases x <;> simp [Cond.value, ht, Term.eval] at h ⊢ <;> exact h
theorem own_eqI {args : Array Value} {first s : State} {o : Option Outcome} {idx : List Nat} {t : Term} {n : Int32} (h : (Jvm.Cond.eq t (Term.int n)).value args first o s idx = some true) : t.eval args first o idx s = some (.int n) := by
  cases ht : t.eval args first o idx s with
  | none => simp [Cond.value, ht] at h
  | some x => cases x <;> simp [Cond.value, ht, Term.eval] at h ⊢ <;> exact h
theorem own_eqR {args : Array Value} {first s : State} {o : Option Outcome} {idx : List Nat} {t u : Term} {x : Addr} (h : (Jvm.Cond.eq t u).value args first o s idx = some true) (hu : u.eval args first o idx s = some (.ref x)) : t.eval args first o idx s = some (.ref x) := by
  cases ht : t.eval args first o idx s with
  | none => simp [Cond.value, ht] at h
  | some y => cases y <;> simp [Cond.value, ht, hu] at h ⊢ <;> exact h
theorem own_nf {s : State} {args : Array Value} {C : String} {y y' : MethodName} (hsel : (Jvm.Cond.selects C y y).before args s = true) (hc : y'.cls = y.cls) : NotFace s y' := fun r0 h0 => by
  obtain ⟨c2, r2, m2, q1, q2, q3, q4, kP, hkP, hkPi⟩ := Cond.selects_spec hsel
  have a := findClass_of_methodNamed q3
  have b := findClass_of_methodNamed h0
  rw [hc] at b
  have e := Option.some.inj (a.symm.trans b)
  exact ⟨kP, by rw [← e]; exact hkP, hkPi⟩
theorem own_selP {s : State} {args args' : Array Value} {C : String} {y y' : MethodName} (hsel : (Jvm.Cond.selects C y' y').before args s = true) (hc : y.cls = y'.cls) (hpriv : s.PrivateAt y) (hinst : (Jvm.Cond.instanceMethod y).before args' s = true) (hy : y.cls ≠ "java/lang/invoke/MethodHandle" ∧ y.cls ≠ "java/lang/invoke/VarHandle") : (Jvm.Cond.selects y.cls y y).before args' s = true := by
  obtain ⟨mk, methM, hnamed, -, -, -⟩ := Cond.instanceMethod_spec hinst
  obtain ⟨k, hk, hni⟩ := own_nf hsel hc mk hnamed
  exact selects_self_of_private (findClass_of_methodNamed hnamed) hk hni hpriv hinst hy
end OwnRun
theorem own_lcLt {x y : Int64} (h : x < y) : lcmpW x y = -1 := by
  have h1 : ¬ (x > y) := by simp only [GT.gt, Int64.lt_iff_toInt_lt] at h ⊢; omega
  have h2 : ¬ (x = y) := by rintro rfl; exact Int64.lt_irrefl h
  simp [lcmpW, h1, h2]
theorem own_lcGt {x y : Int64} (h : y < x) : lcmpW x y = 1 := by
  have h1 : x > y := h
  simp [lcmpW, h1]
theorem own_lcEq {x y : Int64} (h : x = y) : lcmpW x y = 0 := by
  subst h
  have h1 : ¬ (x > x) := Int64.lt_irrefl
  simp [lcmpW, h1]
theorem own_lcNlt {x y : Int64} (h : ¬ x < y) : lcmpW x y = 0 ∨ lcmpW x y = 1 := by
  by_cases q : x = y
  · exact Or.inl (own_lcEq q)
  · refine Or.inr (own_lcGt ?_)
    simp only [Int64.lt_iff_toInt_lt, ← Int64.toInt_inj] at h q ⊢; omega
theorem own_lcNgt {x y : Int64} (h : ¬ y < x) : lcmpW x y = 0 ∨ lcmpW x y = -1 := by
  by_cases q : x = y
  · exact Or.inl (own_lcEq q)
  · refine Or.inr (own_lcLt ?_)
    simp only [Int64.lt_iff_toInt_lt, ← Int64.toInt_inj] at h q ⊢; omega
theorem own_lcNe {x y : Int64} (h : ¬ x = y) : lcmpW x y = 1 ∨ lcmpW x y = -1 := by
  by_cases q : x < y
  · exact Or.inr (own_lcLt q)
  · refine Or.inl (own_lcGt ?_)
    simp only [Int64.lt_iff_toInt_lt, ← Int64.toInt_inj] at h q ⊢; omega
theorem own_lcT {x y : Int64} (h : x < y) : ifCond.holds .lt (lcmpW x y) = true ∧ ifCond.holds .ge (lcmpW x y) = false ∧ ifCond.holds .gt (lcmpW y x) = true ∧ ifCond.holds .le (lcmpW y x) = false := by
  rw [own_lcLt h, own_lcGt h]; decide
theorem own_lcF {x y : Int64} (h : ¬ x < y) : ifCond.holds .lt (lcmpW x y) = false ∧ ifCond.holds .ge (lcmpW x y) = true ∧ ifCond.holds .gt (lcmpW y x) = false ∧ ifCond.holds .le (lcmpW y x) = true := by
  rcases own_lcNlt h with q | q <;> rcases own_lcNgt (x := y) (y := x) h with r | r <;> rw [q, r] <;> decide
theorem own_lcTe {x y : Int64} (h : x = y) : ifCond.holds .eq (lcmpW x y) = true ∧ ifCond.holds .ne (lcmpW x y) = false := by
  rw [own_lcEq h]; decide
theorem own_lcFe {x y : Int64} (h : ¬ x = y) : ifCond.holds .eq (lcmpW x y) = false ∧ ifCond.holds .ne (lcmpW x y) = true := by
  rcases own_lcNe h with q | q <;> rw [q] <;> decide
theorem own_bm64 (z : Int) (h1 : -9223372036854775808 ≤ z) (h2 : z < 9223372036854775808) : z.bmod (2 ^ 64) = z := by
  rw [Int.bmod_def]; split <;> omega
theorem own_subL (a b : Int64) (h1 : -9223372036854775808 ≤ a.toInt - b.toInt) (h2 : a.toInt - b.toInt < 9223372036854775808) : (a - b).toInt = a.toInt - b.toInt := by
  rw [Int64.toInt_sub, own_bm64 _ h1 h2]
theorem own_mulL (a b : Int64) (h1 : -9223372036854775808 ≤ a.toInt * b.toInt) (h2 : a.toInt * b.toInt < 9223372036854775808) : (a * b).toInt = a.toInt * b.toInt := by
  rw [Int64.toInt_mul, own_bm64 _ h1 h2]
theorem own_addL (a b : Int64) (h1 : -9223372036854775808 ≤ a.toInt + b.toInt) (h2 : a.toInt + b.toInt < 9223372036854775808) : (a + b).toInt = a.toInt + b.toInt := by
  rw [Int64.toInt_add, own_bm64 _ h1 h2]
theorem own_maskL (x : Int64) (M : Nat) (hM : M < 2 ^ 63) : 0 ≤ (x &&& Int64.ofNat M).toInt ∧ (x &&& Int64.ofNat M).toInt ≤ M := by
  have h1 : (x &&& Int64.ofNat M).toBitVec.toNat = x.toBitVec.toNat &&& M := by
    rw [Int64.toBitVec_and, BitVec.toNat_and]
    congr 1
    show (BitVec.ofNat 64 M).toNat = M
    rw [BitVec.toNat_ofNat]; omega
  have h2 : x.toBitVec.toNat &&& M ≤ M := Nat.and_le_right
  rw [Int64.toInt, BitVec.toInt_eq_toNat_of_lt (by rw [h1]; omega), h1]
  omega
theorem own_shrL (x : Int64) (k : Int32) (n : Nat) (h : ((k &&& 0x3f).toInt64.toBitVec.smod 64).toNat = n) : (x >>> (k &&& 0x3f).toInt64).toInt = x.toInt >>> n := by
  show (x.toBitVec.sshiftRight' ((k &&& 0x3f).toInt64.toBitVec.smod 64)).toInt = _
  rw [BitVec.sshiftRight', h, BitVec.toInt_sshiftRight]; rfl
def own_min (a b : Int64) : Int64 := if b < a then b else a
def own_max (a b : Int64) : Int64 := if a < b then b else a
theorem own_c1 (a b : Int64) : a + b - a = b := by rw [Int64.add_comm, Int64.add_sub_cancel]
theorem own_c2 (a e M : Int64) : a + e - (a + M) = e - M := by
  rw [Int64.sub_eq_add_neg, Int64.neg_add, Int64.add_comm a e, Int64.add_assoc, Int64.sub_eq_add_neg (-a), ← Int64.add_assoc a, Int64.add_right_neg, Int64.zero_add, ← Int64.sub_eq_add_neg]
theorem own_cmp (a e M d : Int64) (he : e = d >>> ((2 : Int32) &&& 0x3f).toInt64) (h0 : 0 ≤ M.toInt) (h1 : M.toInt ≤ 1000000000) : a + e - (a + M) < 0 ↔ e < M := by
  have q := own_shrL d 2 2 (by decide)
  rw [← he] at q
  have l1 := Int64.toInt_lt d
  have l2 := Int64.le_toInt d
  rw [Int.shiftRight_eq_div_pow] at q
  have e0 : (0 : Int64).toInt = 0 := rfl
  rw [own_c2, Int64.lt_iff_toInt_lt, Int64.lt_iff_toInt_lt, e0, own_subL _ _ (by omega) (by omega)]
  omega
theorem own_s (p x : Int64) (h : x = p &&& (1073741823 : Int64)) : 0 ≤ ((30 : Int64) * x).toInt ∧ ((30 : Int64) * x).toInt ≤ 32212254690 := by
  have q := own_maskL p 1073741823 (by decide)
  have q' : 0 ≤ x.toInt ∧ x.toInt ≤ 1073741823 := by rw [h]; exact q
  have e30 : (30 : Int64).toInt = 30 := rfl
  rw [own_mulL _ _ (by rw [e30]; omega) (by rw [e30]; omega), e30]; omega
theorem own_p1 (y : Int64) (h : (1000000000 : Int64) < y) : own_max (10000000 : Int64) (own_min y (1000000000 : Int64)) = 1000000000 := by
  rw [own_min, if_pos h, own_max, if_pos (by decide)]
theorem own_p2 (y : Int64) (h : ¬ (1000000000 : Int64) < y) (h2 : y < (10000000 : Int64)) : own_max (10000000 : Int64) (own_min y (1000000000 : Int64)) = 10000000 := by
  rw [own_min, if_neg h, own_max, if_neg (fun q => by simp only [Int64.lt_iff_toInt_lt] at h2 q; omega)]
theorem own_p3 (y : Int64) (h : ¬ (1000000000 : Int64) < y) (h2 : ¬ y < (10000000 : Int64)) : own_max (10000000 : Int64) (own_min y (1000000000 : Int64)) = y := by
  rw [own_min, if_neg h, own_max]
  split
  · rfl
  · rename_i q
    apply Int64.toInt_inj.mp
    simp only [Int64.lt_iff_toInt_lt] at h2 q; omega
theorem d1_0 : decode prog_17_method_1_code 0 = .ok (.aload_n 0, 1) := by decide +kernel
theorem d1_1 : decode prog_17_method_1_code 1 = .ok (.invokespecial 1, 3) := by decide +kernel
theorem d1_4 : decode prog_17_method_1_code 4 = .ok (.aload_n 0, 1) := by decide +kernel
theorem d1_5 : decode prog_17_method_1_code 5 = .ok (.getstatic 7, 3) := by decide +kernel
theorem d1_8 : decode prog_17_method_1_code 8 = .ok (.putfield 13, 3) := by decide +kernel
theorem d1_11 : decode prog_17_method_1_code 11 = .ok (.aload_n 0, 1) := by decide +kernel
theorem d1_12 : decode prog_17_method_1_code 12 = .ok (.lload_n 1, 1) := by decide +kernel
theorem d1_13 : decode prog_17_method_1_code 13 = .ok (.putfield 16, 3) := by decide +kernel
theorem d1_16 : decode prog_17_method_1_code 16 = .ok (.return_, 1) := by decide +kernel
theorem pn_1 : plainName "com/example/eventail/eventail/SpinPauses" = true := by first | (simp [plainName, overriddenIn]; done) | decide +kernel
theorem ef_1 (m : MethodId) (x0 : Addr) (x1 : Int64) : entryFrame m #[(.ref x0), (.long x1)] 3 = mkF m 0 #[.val (.ref x0), .val (.long x1), .second] [] := by first | (simp [entryFrame, mkF, argsToLocals, Value.category]; done) | rfl
def Q1 (Z : State) (a1 : Addr) (q2 : Int64) (u1 : Value) (u2 : Value) (w3 : Int64) (h0 : Heap) (n0 : Nat) (v : Option Value) (h : Heap) (L : List Loc) : Prop := v = none ∧ Fr n0 L ∧ Keep h0 h [a1] ∧ Exa Z h a1 "com/example/eventail/eventail/SpinPauses" ∧ Fld Z h a1 "com/example/eventail/eventail/SpinPauses" "pauseNanos" "J" (.long (10000000 : Int64)) ∧ Fld Z h a1 "com/example/eventail/eventail/SpinPauses" "spinAgainNanos" "J" (.long q2) ∧ Fld Z h a1 "com/example/eventail/eventail/SpinPauses" "takesSinceStall" "J" (.long w3)
set_option maxRecDepth 65536 in
set_option maxHeartbeats 40000000 in
theorem rm1 (l : Launch) (Z : State) (a0 : Array Value) (hw : ∀ d ∈ tables_1, d.before a0 Z = true) (ws : List Jvm.Cond) (a1 : Addr) (q2 : Int64) (u1 : Value) (u2 : Value) (w3 : Int64) (h0 : Heap) (n0 : Nat) (Z0 : n0 ≤ h0.size) (E_a1 : Exa Z h0 a1 "com/example/eventail/eventail/SpinPauses") (F_pauseNanos_a1 : Fld Z h0 a1 "com/example/eventail/eventail/SpinPauses" "pauseNanos" "J" u1) (F_spinAgainNanos_a1 : Fld Z h0 a1 "com/example/eventail/eventail/SpinPauses" "spinAgainNanos" "J" u2) (F_takesSinceStall_a1 : Fld Z h0 a1 "com/example/eventail/eventail/SpinPauses" "takesSinceStall" "J" (.long w3)) (g_a1 : n0 ≤ a1) (S_PAUSE_NANOS : Sta Z h0 "com/example/eventail/eventail/SpinPauses" "PAUSE_NANOS" "J" (.long (10000000 : Int64))) :
    MetFree l (⟨"com/example/eventail/eventail/SpinPauses", "<init>", "(J)V"⟩ : MethodName) (head1 (Jvm.Cond.code (⟨"com/example/eventail/eventail/SpinPauses", "<init>", "(J)V"⟩ : MethodName) prog_17_method_1_code 3 none :: ws) ({ frames := 1, cells := 0, slots := 0, locals := 12 } : Room)) (fun a U => a = #[(.ref a1), (.long q2)] ∧ Z.Warmed39 U.vm ∧ U.heap = h0) (fun _ _ _ _ _ => True) (fun _ U o U' => ∃ v L, o = .returned v ∧ Q1 Z a1 q2 u1 u2 w3 h0 n0 v U'.heap L ∧ FrameEnd U o U' L ({ frames := 1, cells := 0, slots := 0, locals := 12 } : Room).cells ({ frames := 1, cells := 0, slots := 0, locals := 12 } : Room).slots) := by
  refine MetFree.of_bodySF (plainFor_of_name pn_1) hisR ?_
  intro p e s m args below meth c s₁ Bd hml0 hP hK
  obtain ⟨rfl, hZ, hh⟩ := hP
  have hx := Bd.exec
  have hby := Bd.bytes
  have hml : c.maxLocals = 3 := hml0
  have hown : s.vm.findClass "com/example/eventail/eventail/SpinPauses" = some m.cls := findClass_of_methodNamed Bd.named
  have hnm := (name_of_methodNamed Bd.named Bd.method).1
  have hret := Bd.returns
  have hlk : meth.locks = false := BodyLoose.notSynchronized Bd
  have X0 : Stand p l e ({ frames := 1, cells := 0, slots := 0, locals := 12 } : Room) s m #[(.ref a1), (.long q2)] below meth c s₁ [] 0 0 := Stand.of_body Bd
  have e0 : s₁.heap = h0 := by rw [← hh, Bd.state]; rfl
  have N0 := Fr.nil n0
  have W := fun (k : Nat) {d : Jvm.Cond} (h : tables_1[k]? = some d) => hw d (List.mem_of_getElem? h)
  have K0 : Keep h0 h0 [a1] := Keep.refl _ _
  refine own_start (ef_1 m a1 q2) ?_
  show own_Run p e below _ s₁ (mkF m 0 #[.val (.ref a1), .val (.long q2), .second] [])
  refine own_go (fun _ k => XS.aloadN X0.here hx rfl (hb hby d1_0) rfl rfl k) ?_
  show own_Run p e below _ s₁ (mkF m 1 #[.val (.ref a1), .val (.long q2), .second] [(.ref a1)])
  obtain ⟨T1, X1, e1, st1⟩ := initO X0 hx hZ hown (W 6 rfl) (W 7 rfl) (W 8 rfl) e0 (g := (mkF m 1 #[.val (.ref a1), .val (.long q2), .second] [(.ref a1)])) rfl (by rw [hml]; rfl) rfl (hb hby d1_1) (by decide) (W := 0) (by show 2 * 0 + _ ≤ _; exact Nat.le_of_eq rfl) (by decide)
  refine own_go st1 ?_
  show own_Run p e below _ T1 (mkF m 4 #[.val (.ref a1), .val (.long q2), .second] [])
  refine own_go (fun _ k => XS.aloadN X1.here hx rfl (hb hby d1_4) rfl rfl k) ?_
  show own_Run p e below _ T1 (mkF m 5 #[.val (.ref a1), .val (.long q2), .second] [(.ref a1)])
  obtain ⟨T2, X2, e2, st2⟩ := getS2 X1 hx hZ hown (host := "") (Or.inl (W 9 rfl)) Via.refl e1 S_PAUSE_NANOS (g := (mkF m 5 #[.val (.ref a1), .val (.long q2), .second] [(.ref a1)])) rfl (hb hby d1_5)
  refine own_go st2 ?_
  show own_Run p e below _ T2 (mkF m 8 #[.val (.ref a1), .val (.long q2), .second] [(.long (10000000 : Int64)), (.ref a1)])
  obtain ⟨T3, h3, X3, e3, W3, st3⟩ := putF X2 hx hZ hown (host := "") (Or.inl (W 11 rfl)) Via.refl e2 F_pauseNanos_a1 E_a1 (Or.inl (W 12 rfl)) (W 1 rfl) (ty := .long) (by decide) rfl rfl (g := (mkF m 8 #[.val (.ref a1), .val (.long q2), .second] [(.long (10000000 : Int64)), (.ref a1)])) rfl rfl (hb hby d1_8)
  refine own_go st3 ?_
  show own_Run p e below _ T3 (mkF m 11 #[.val (.ref a1), .val (.long q2), .second] [])
  have Z0_c4 := Nat.le_trans Z0 (Keep.of_wr W3).1
  have K0_c4 := K0.wr W3 (Or.inl (List.mem_of_getElem? (i := 0) rfl))
  have E_a1_c4 := E_a1.wr W3
  have F_spinAgainNanos_a1_c4 := F_spinAgainNanos_a1.other W3 (Or.inr (slot_ne (Or.inl (W 14 rfl)) (Or.inl (W 12 rfl)) (by decide) (t := .long) (t' := .long) (by decide) (by decide)))
  have F_takesSinceStall_a1_c4 := F_takesSinceStall_a1.other W3 (Or.inr (slot_ne (Or.inl (W 30 rfl)) (Or.inl (W 12 rfl)) (by decide) (t := .long) (t' := .long) (by decide) (by decide)))
  have S_PAUSE_NANOS_c4 := S_PAUSE_NANOS.wr W3
  have F_pauseNanos_a1_c3 : Fld Z h3 a1 "com/example/eventail/eventail/SpinPauses" "pauseNanos" "J" (.long (10000000 : Int64)) := F_pauseNanos_a1.same W3
  have N3 := Fr.snoc X3 N0 g_a1
  refine own_go (fun _ k => XS.aloadN X3.here hx rfl (hb hby d1_11) rfl rfl k) ?_
  refine own_go (fun _ k => XS.lloadN X3.here hx rfl (hb hby d1_12) rfl k) ?_
  show own_Run p e below _ T3 (mkF m 13 #[.val (.ref a1), .val (.long q2), .second] [(.long q2), (.ref a1)])
  obtain ⟨T5, h5, X5, e5, W5, st5⟩ := putF X3 hx hZ hown (host := "") (Or.inl (W 13 rfl)) Via.refl e3 F_spinAgainNanos_a1_c4 E_a1_c4 (Or.inl (W 14 rfl)) (W 1 rfl) (ty := .long) (by decide) rfl rfl (g := (mkF m 13 #[.val (.ref a1), .val (.long q2), .second] [(.long q2), (.ref a1)])) rfl rfl (hb hby d1_13)
  refine own_go st5 ?_
  show own_Run p e below _ T5 (mkF m 16 #[.val (.ref a1), .val (.long q2), .second] [])
  have Z0_c6 := Nat.le_trans Z0_c4 (Keep.of_wr W5).1
  have K0_c6 := K0_c4.wr W5 (Or.inl (List.mem_of_getElem? (i := 0) rfl))
  have E_a1_c6 := E_a1_c4.wr W5
  have F_takesSinceStall_a1_c6 := F_takesSinceStall_a1_c4.other W5 (Or.inr (slot_ne (Or.inl (W 30 rfl)) (Or.inl (W 14 rfl)) (by decide) (t := .long) (t' := .long) (by decide) (by decide)))
  have S_PAUSE_NANOS_c6 := S_PAUSE_NANOS_c4.wr W5
  have F_pauseNanos_a1_c6 := F_pauseNanos_a1_c3.other W5 (Or.inr (slot_ne (Or.inl (W 12 rfl)) (Or.inl (W 14 rfl)) (by decide) (t := .long) (t' := .long) (by decide) (by decide)))
  have F_spinAgainNanos_a1_c5 : Fld Z h5 a1 "com/example/eventail/eventail/SpinPauses" "spinAgainNanos" "J" (.long q2) := F_spinAgainNanos_a1_c4.same W5
  have N5 := Fr.snoc X5 N3 g_a1
  refine own_done (Q := fun v h L => Q1 Z a1 q2 u1 u2 w3 h0 n0 v h L) (v := none) X5 (fun _ => rfl) hlk (fun fs hr => X5.returnOut hx hret (hb hby d1_16) hr) ?_ (by decide) (by decide)
  show Q1 Z a1 q2 u1 u2 w3 h0 n0 _ T5.heap _
  rw [e5]
  exact ⟨rfl, N5, K0_c6, E_a1_c6, F_pauseNanos_a1_c6, F_spinAgainNanos_a1_c5, F_takesSinceStall_a1_c6⟩
theorem d3_0 : decode prog_17_method_2_code 0 = .ok (.lload_n 1, 1) := by decide +kernel
theorem d3_1 : decode prog_17_method_2_code 1 = .ok (.aload_n 0, 1) := by decide +kernel
theorem d3_2 : decode prog_17_method_2_code 2 = .ok (.getfield 16, 3) := by decide +kernel
theorem d3_5 : decode prog_17_method_2_code 5 = .ok (.lsub, 1) := by decide +kernel
theorem d3_6 : decode prog_17_method_2_code 6 = .ok (.lconst 0, 1) := by decide +kernel
theorem d3_7 : decode prog_17_method_2_code 7 = .ok (.lcmp, 1) := by decide +kernel
theorem d3_8 : decode prog_17_method_2_code 8 = .ok (.ifCond .lt 7, 3) := by decide +kernel
theorem d3_11 : decode prog_17_method_2_code 11 = .ok (.iconst 1, 1) := by decide +kernel
theorem d3_12 : decode prog_17_method_2_code 12 = .ok (.goto 4, 3) := by decide +kernel
theorem d3_15 : decode prog_17_method_2_code 15 = .ok (.iconst 0, 1) := by decide +kernel
theorem d3_16 : decode prog_17_method_2_code 16 = .ok (.ireturn, 1) := by decide +kernel
theorem pn_3 : plainName "com/example/eventail/eventail/SpinPauses" = true := by first | (simp [plainName, overriddenIn]; done) | decide +kernel
theorem ef_3 (m : MethodId) (x0 : Addr) (x1 : Int64) : entryFrame m #[(.ref x0), (.long x1)] 3 = mkF m 0 #[.val (.ref x0), .val (.long x1), .second] [] := by first | (simp [entryFrame, mkF, argsToLocals, Value.category]; done) | rfl
def Q3 (Z : State) (a1 : Addr) (q2 : Int64) (w1 : Int64) (r : Int32) (h0 : Heap) (n0 : Nat) (v : Option Value) (h : Heap) (L : List Loc) : Prop := v = some (.int r) ∧ Fr n0 L ∧ h = h0
set_option maxRecDepth 65536 in
set_option maxHeartbeats 40000000 in
theorem rm3 (l : Launch) (Z : State) (a0 : Array Value) (hw : ∀ d ∈ tables_1, d.before a0 Z = true) (ws : List Jvm.Cond) (a1 : Addr) (q2 : Int64) (w1 : Int64) (r : Int32) (h0 : Heap) (n0 : Nat) (Z0 : n0 ≤ h0.size) (F_spinAgainNanos_a1 : Fld Z h0 a1 "com/example/eventail/eventail/SpinPauses" "spinAgainNanos" "J" (.long w1)) (hp : (q2 - w1 < (0 : Int64)) ∧ r = (0 : Int32) ∨ ¬ (q2 - w1 < (0 : Int64)) ∧ r = (1 : Int32)) :
    MetFree l (⟨"com/example/eventail/eventail/SpinPauses", "allowSpinAt", "(J)Z"⟩ : MethodName) (head1 (Jvm.Cond.code (⟨"com/example/eventail/eventail/SpinPauses", "allowSpinAt", "(J)Z"⟩ : MethodName) prog_17_method_2_code 3 (some .boolean) :: ws) ({ frames := 0, cells := 0, slots := 0, locals := 0 } : Room)) (fun a U => a = #[(.ref a1), (.long q2)] ∧ Z.Warmed39 U.vm ∧ U.heap = h0) (fun _ _ _ _ _ => True) (fun _ U o U' => ∃ v L, o = .returned v ∧ Q3 Z a1 q2 w1 r h0 n0 v U'.heap L ∧ FrameEnd U o U' L ({ frames := 0, cells := 0, slots := 0, locals := 0 } : Room).cells ({ frames := 0, cells := 0, slots := 0, locals := 0 } : Room).slots) := by
  refine MetFree.of_bodySF (plainFor_of_name pn_3) hisR ?_
  intro p e s m args below meth c s₁ Bd hml0 hP hK
  obtain ⟨rfl, hZ, hh⟩ := hP
  have hx := Bd.exec
  have hby := Bd.bytes
  have hml : c.maxLocals = 3 := hml0
  have hown : s.vm.findClass "com/example/eventail/eventail/SpinPauses" = some m.cls := findClass_of_methodNamed Bd.named
  have hnm := (name_of_methodNamed Bd.named Bd.method).1
  have hret := Bd.returns
  have hlk : meth.locks = false := BodyLoose.notSynchronized Bd
  have X0 : Stand p l e ({ frames := 0, cells := 0, slots := 0, locals := 0 } : Room) s m #[(.ref a1), (.long q2)] below meth c s₁ [] 0 0 := Stand.of_body Bd
  have e0 : s₁.heap = h0 := by rw [← hh, Bd.state]; rfl
  have N0 := Fr.nil n0
  have W := fun (k : Nat) {d : Jvm.Cond} (h : tables_1[k]? = some d) => hw d (List.mem_of_getElem? h)
  have K0 : Keep h0 h0 [] := Keep.refl _ _
  refine own_start (ef_3 m a1 q2) ?_
  show own_Run p e below _ s₁ (mkF m 0 #[.val (.ref a1), .val (.long q2), .second] [])
  refine own_go (fun _ k => XS.lloadN X0.here hx rfl (hb hby d3_0) rfl k) ?_
  refine own_go (fun _ k => XS.aloadN X0.here hx rfl (hb hby d3_1) rfl rfl k) ?_
  show own_Run p e below _ s₁ (mkF m 2 #[.val (.ref a1), .val (.long q2), .second] [(.ref a1), (.long q2)])
  obtain ⟨T7, X7, e7, st7⟩ := getF X0 hx hZ hown (host := "") (Or.inl (W 13 rfl)) Via.refl e0 F_spinAgainNanos_a1 (g := (mkF m 2 #[.val (.ref a1), .val (.long q2), .second] [(.ref a1), (.long q2)])) rfl rfl (hb hby d3_2)
  refine own_go st7 ?_
  show own_Run p e below _ T7 (mkF m 5 #[.val (.ref a1), .val (.long q2), .second] [(.long w1), (.long q2)])
  refine own_go (fun _ k => XS.lsub X7.here hx rfl (hb hby d3_5) rfl k) ?_
  refine own_go (fun _ k => XS.lconst X7.here hx rfl (hb hby d3_6) k) ?_
  refine own_go (fun _ k => XS.lcmp X7.here hx rfl (hb hby d3_7) rfl k) ?_
  show own_Run p e below _ T7 (mkF m 8 #[.val (.ref a1), .val (.long q2), .second] [(.int (lcmpW (q2 - w1) (0 : Int64)))])
  rcases hp with ⟨hc, rfl⟩ | ⟨hc, rfl⟩
  · refine own_go (fun _ k => XS.ifYes X7.here hx rfl (pc0 := 8) (pc' := 15) rfl (hb hby d3_8) rfl (own_lcT hc).1 (by decide) (by decide) k) ?_
    show own_Run p e below _ T7 (mkF m 15 #[.val (.ref a1), .val (.long q2), .second] [])
    refine own_go (fun _ k => XS.iconst X7.here hx rfl (hb hby d3_15) k) ?_
    show own_Run p e below _ T7 (mkF m 16 #[.val (.ref a1), .val (.long q2), .second] [(.int (0 : Int32))])
    refine own_done (Q := fun v h L => Q3 Z a1 q2 w1 (0 : Int32) h0 n0 v h L) (v := (some (.int (0 : Int32)))) X7 (fun h => by rw [hret] at h; cases h) hlk (fun fs hr => retN X7 hx (t := .boolean) hret (by simp) (hb hby d3_16) hr) ?_ (by decide) (by decide)
    show Q3 Z a1 q2 w1 (0 : Int32) h0 n0 _ T7.heap _
    rw [e7]
    exact ⟨rfl, N0, rfl⟩
  · refine own_go (fun _ k => XS.ifNo X7.here hx rfl (hb hby d3_8) rfl (own_lcF hc).1 k) ?_
    show own_Run p e below _ T7 (mkF m 11 #[.val (.ref a1), .val (.long q2), .second] [])
    refine own_go (fun _ k => XS.iconst X7.here hx rfl (hb hby d3_11) k) ?_
    refine own_go (fun _ k => XS.goto X7.here hx rfl (pc0 := 12) (pc' := 16) rfl (hb hby d3_12) (by decide) (by decide) k) ?_
    show own_Run p e below _ T7 (mkF m 16 #[.val (.ref a1), .val (.long q2), .second] [(.int (1 : Int32))])
    refine own_done (Q := fun v h L => Q3 Z a1 q2 w1 (1 : Int32) h0 n0 v h L) (v := (some (.int (1 : Int32)))) X7 (fun h => by rw [hret] at h; cases h) hlk (fun fs hr => retN X7 hx (t := .boolean) hret (by simp) (hb hby d3_16) hr) ?_ (by decide) (by decide)
    show Q3 Z a1 q2 w1 (1 : Int32) h0 n0 _ T7.heap _
    rw [e7]
    exact ⟨rfl, N0, rfl⟩
theorem d5_0 : decode jdk_29_method_70_code 0 = .ok (.lload_n 0, 1) := by decide +kernel
theorem d5_1 : decode jdk_29_method_70_code 1 = .ok (.lload_n 2, 1) := by decide +kernel
theorem d5_2 : decode jdk_29_method_70_code 2 = .ok (.lcmp, 1) := by decide +kernel
theorem d5_3 : decode jdk_29_method_70_code 3 = .ok (.ifCond .gt 7, 3) := by decide +kernel
theorem d5_6 : decode jdk_29_method_70_code 6 = .ok (.lload_n 0, 1) := by decide +kernel
theorem d5_7 : decode jdk_29_method_70_code 7 = .ok (.goto 4, 3) := by decide +kernel
theorem d5_10 : decode jdk_29_method_70_code 10 = .ok (.lload_n 2, 1) := by decide +kernel
theorem d5_11 : decode jdk_29_method_70_code 11 = .ok (.lreturn, 1) := by decide +kernel
theorem ef_5 (m : MethodId) (x0 : Int64) (x1 : Int64) : entryFrame m #[(.long x0), (.long x1)] 4 = mkF m 0 #[.val (.long x0), .second, .val (.long x1), .second] [] := by first | (simp [entryFrame, mkF, argsToLocals, Value.category]; done) | rfl
def Q5 (Z : State) (q1 : Int64) (q2 : Int64) (h0 : Heap) (n0 : Nat) (v : Option Value) (h : Heap) (L : List Loc) : Prop := v = some (.long (own_min q1 q2)) ∧ Fr n0 L ∧ h = h0
set_option maxRecDepth 65536 in
set_option maxHeartbeats 40000000 in
theorem rm5 (l : Launch) (Z : State) (a0 : Array Value) (hw : ∀ d ∈ tables_1, d.before a0 Z = true) (ws : List Jvm.Cond) (q1 : Int64) (q2 : Int64) (h0 : Heap) (n0 : Nat) (Z0 : n0 ≤ h0.size) :
    MetFree l (⟨"java/lang/Math", "min", "(JJ)J"⟩ : MethodName) (head1 (Jvm.Cond.code (⟨"java/lang/Math", "min", "(JJ)J"⟩ : MethodName) jdk_29_method_70_code 4 (some .long) :: ws) ({ frames := 0, cells := 0, slots := 0, locals := 0 } : Room)) (fun a U => a = #[(.long q1), (.long q2)] ∧ Z.Warmed39 U.vm ∧ U.heap = h0) (fun _ _ _ _ _ => True) (fun _ U o U' => ∃ v L, o = .returned v ∧ Q5 Z q1 q2 h0 n0 v U'.heap L ∧ FrameEnd U o U' L ({ frames := 0, cells := 0, slots := 0, locals := 0 } : Room).cells ({ frames := 0, cells := 0, slots := 0, locals := 0 } : Room).slots) := by
  refine MetFree.of_bodySF (Jvm.Free.JP.mathPlain rfl (by decide +kernel)) hisR ?_
  intro p e s m args below meth c s₁ Bd hml0 hP hK
  obtain ⟨rfl, hZ, hh⟩ := hP
  have hx := Bd.exec
  have hby := Bd.bytes
  have hml : c.maxLocals = 4 := hml0
  have hown : s.vm.findClass "java/lang/Math" = some m.cls := findClass_of_methodNamed Bd.named
  have hnm := (name_of_methodNamed Bd.named Bd.method).1
  have hret := Bd.returns
  have hlk : meth.locks = false := BodyLoose.notSynchronized Bd
  have X0 : Stand p l e ({ frames := 0, cells := 0, slots := 0, locals := 0 } : Room) s m #[(.long q1), (.long q2)] below meth c s₁ [] 0 0 := Stand.of_body Bd
  have e0 : s₁.heap = h0 := by rw [← hh, Bd.state]; rfl
  have N0 := Fr.nil n0
  have W := fun (k : Nat) {d : Jvm.Cond} (h : tables_1[k]? = some d) => hw d (List.mem_of_getElem? h)
  have K0 : Keep h0 h0 [] := Keep.refl _ _
  refine own_start (ef_5 m q1 q2) ?_
  show own_Run p e below _ s₁ (mkF m 0 #[.val (.long q1), .second, .val (.long q2), .second] [])
  refine own_go (fun _ k => XS.lloadN X0.here hx rfl (hb hby d5_0) rfl k) ?_
  refine own_go (fun _ k => XS.lloadN X0.here hx rfl (hb hby d5_1) rfl k) ?_
  refine own_go (fun _ k => XS.lcmp X0.here hx rfl (hb hby d5_2) rfl k) ?_
  show own_Run p e below _ s₁ (mkF m 3 #[.val (.long q1), .second, .val (.long q2), .second] [(.int (lcmpW q1 q2))])
  by_cases hc3_8 : q2 < q1
  · refine own_go (fun _ k => XS.ifYes X0.here hx rfl (pc0 := 3) (pc' := 10) rfl (hb hby d5_3) rfl (own_lcT hc3_8).2.2.1 (by decide) (by decide) k) ?_
    show own_Run p e below _ s₁ (mkF m 10 #[.val (.long q1), .second, .val (.long q2), .second] [])
    refine own_go (fun _ k => XS.lloadN X0.here hx rfl (hb hby d5_10) rfl k) ?_
    show own_Run p e below _ s₁ (mkF m 11 #[.val (.long q1), .second, .val (.long q2), .second] [(.long q2)])
    refine own_done (Q := fun v h L => Q5 Z q1 q2 h0 n0 v h L) (v := (some (.long q2))) X0 (fun h => by rw [hret] at h; cases h) hlk (fun fs hr => own_retL X0 hx hret (hb hby d5_11) hr) ?_ (by decide) (by decide)
    show Q5 Z q1 q2 h0 n0 _ s₁.heap _
    rw [e0]
    exact ⟨by rw [own_min, if_pos hc3_8], N0, rfl⟩
  · refine own_go (fun _ k => XS.ifNo X0.here hx rfl (hb hby d5_3) rfl (own_lcF hc3_8).2.2.1 k) ?_
    show own_Run p e below _ s₁ (mkF m 6 #[.val (.long q1), .second, .val (.long q2), .second] [])
    refine own_go (fun _ k => XS.lloadN X0.here hx rfl (hb hby d5_6) rfl k) ?_
    refine own_go (fun _ k => XS.goto X0.here hx rfl (pc0 := 7) (pc' := 11) rfl (hb hby d5_7) (by decide) (by decide) k) ?_
    show own_Run p e below _ s₁ (mkF m 11 #[.val (.long q1), .second, .val (.long q2), .second] [(.long q1)])
    refine own_done (Q := fun v h L => Q5 Z q1 q2 h0 n0 v h L) (v := (some (.long q1))) X0 (fun h => by rw [hret] at h; cases h) hlk (fun fs hr => own_retL X0 hx hret (hb hby d5_11) hr) ?_ (by decide) (by decide)
    show Q5 Z q1 q2 h0 n0 _ s₁.heap _
    rw [e0]
    exact ⟨by rw [own_min, if_neg hc3_8], N0, rfl⟩
theorem d6_0 : decode jdk_29_method_66_code 0 = .ok (.lload_n 0, 1) := by decide +kernel
theorem d6_1 : decode jdk_29_method_66_code 1 = .ok (.lload_n 2, 1) := by decide +kernel
theorem d6_2 : decode jdk_29_method_66_code 2 = .ok (.lcmp, 1) := by decide +kernel
theorem d6_3 : decode jdk_29_method_66_code 3 = .ok (.ifCond .lt 7, 3) := by decide +kernel
theorem d6_6 : decode jdk_29_method_66_code 6 = .ok (.lload_n 0, 1) := by decide +kernel
theorem d6_7 : decode jdk_29_method_66_code 7 = .ok (.goto 4, 3) := by decide +kernel
theorem d6_10 : decode jdk_29_method_66_code 10 = .ok (.lload_n 2, 1) := by decide +kernel
theorem d6_11 : decode jdk_29_method_66_code 11 = .ok (.lreturn, 1) := by decide +kernel
theorem ef_6 (m : MethodId) (x0 : Int64) (x1 : Int64) : entryFrame m #[(.long x0), (.long x1)] 4 = mkF m 0 #[.val (.long x0), .second, .val (.long x1), .second] [] := by first | (simp [entryFrame, mkF, argsToLocals, Value.category]; done) | rfl
def Q6 (Z : State) (q1 : Int64) (q2 : Int64) (h0 : Heap) (n0 : Nat) (v : Option Value) (h : Heap) (L : List Loc) : Prop := v = some (.long (own_max q1 q2)) ∧ Fr n0 L ∧ h = h0
set_option maxRecDepth 65536 in
set_option maxHeartbeats 40000000 in
theorem rm6 (l : Launch) (Z : State) (a0 : Array Value) (hw : ∀ d ∈ tables_1, d.before a0 Z = true) (ws : List Jvm.Cond) (q1 : Int64) (q2 : Int64) (h0 : Heap) (n0 : Nat) (Z0 : n0 ≤ h0.size) :
    MetFree l (⟨"java/lang/Math", "max", "(JJ)J"⟩ : MethodName) (head1 (Jvm.Cond.code (⟨"java/lang/Math", "max", "(JJ)J"⟩ : MethodName) jdk_29_method_66_code 4 (some .long) :: ws) ({ frames := 0, cells := 0, slots := 0, locals := 0 } : Room)) (fun a U => a = #[(.long q1), (.long q2)] ∧ Z.Warmed39 U.vm ∧ U.heap = h0) (fun _ _ _ _ _ => True) (fun _ U o U' => ∃ v L, o = .returned v ∧ Q6 Z q1 q2 h0 n0 v U'.heap L ∧ FrameEnd U o U' L ({ frames := 0, cells := 0, slots := 0, locals := 0 } : Room).cells ({ frames := 0, cells := 0, slots := 0, locals := 0 } : Room).slots) := by
  refine MetFree.of_bodySF (Jvm.Free.JP.mathPlain rfl (by decide +kernel)) hisR ?_
  intro p e s m args below meth c s₁ Bd hml0 hP hK
  obtain ⟨rfl, hZ, hh⟩ := hP
  have hx := Bd.exec
  have hby := Bd.bytes
  have hml : c.maxLocals = 4 := hml0
  have hown : s.vm.findClass "java/lang/Math" = some m.cls := findClass_of_methodNamed Bd.named
  have hnm := (name_of_methodNamed Bd.named Bd.method).1
  have hret := Bd.returns
  have hlk : meth.locks = false := BodyLoose.notSynchronized Bd
  have X0 : Stand p l e ({ frames := 0, cells := 0, slots := 0, locals := 0 } : Room) s m #[(.long q1), (.long q2)] below meth c s₁ [] 0 0 := Stand.of_body Bd
  have e0 : s₁.heap = h0 := by rw [← hh, Bd.state]; rfl
  have N0 := Fr.nil n0
  have W := fun (k : Nat) {d : Jvm.Cond} (h : tables_1[k]? = some d) => hw d (List.mem_of_getElem? h)
  have K0 : Keep h0 h0 [] := Keep.refl _ _
  refine own_start (ef_6 m q1 q2) ?_
  show own_Run p e below _ s₁ (mkF m 0 #[.val (.long q1), .second, .val (.long q2), .second] [])
  refine own_go (fun _ k => XS.lloadN X0.here hx rfl (hb hby d6_0) rfl k) ?_
  refine own_go (fun _ k => XS.lloadN X0.here hx rfl (hb hby d6_1) rfl k) ?_
  refine own_go (fun _ k => XS.lcmp X0.here hx rfl (hb hby d6_2) rfl k) ?_
  show own_Run p e below _ s₁ (mkF m 3 #[.val (.long q1), .second, .val (.long q2), .second] [(.int (lcmpW q1 q2))])
  by_cases hc3_9 : q1 < q2
  · refine own_go (fun _ k => XS.ifYes X0.here hx rfl (pc0 := 3) (pc' := 10) rfl (hb hby d6_3) rfl (own_lcT hc3_9).1 (by decide) (by decide) k) ?_
    show own_Run p e below _ s₁ (mkF m 10 #[.val (.long q1), .second, .val (.long q2), .second] [])
    refine own_go (fun _ k => XS.lloadN X0.here hx rfl (hb hby d6_10) rfl k) ?_
    show own_Run p e below _ s₁ (mkF m 11 #[.val (.long q1), .second, .val (.long q2), .second] [(.long q2)])
    refine own_done (Q := fun v h L => Q6 Z q1 q2 h0 n0 v h L) (v := (some (.long q2))) X0 (fun h => by rw [hret] at h; cases h) hlk (fun fs hr => own_retL X0 hx hret (hb hby d6_11) hr) ?_ (by decide) (by decide)
    show Q6 Z q1 q2 h0 n0 _ s₁.heap _
    rw [e0]
    exact ⟨by rw [own_max, if_pos hc3_9], N0, rfl⟩
  · refine own_go (fun _ k => XS.ifNo X0.here hx rfl (hb hby d6_3) rfl (own_lcF hc3_9).1 k) ?_
    show own_Run p e below _ s₁ (mkF m 6 #[.val (.long q1), .second, .val (.long q2), .second] [])
    refine own_go (fun _ k => XS.lloadN X0.here hx rfl (hb hby d6_6) rfl k) ?_
    refine own_go (fun _ k => XS.goto X0.here hx rfl (pc0 := 7) (pc' := 11) rfl (hb hby d6_7) (by decide) (by decide) k) ?_
    show own_Run p e below _ s₁ (mkF m 11 #[.val (.long q1), .second, .val (.long q2), .second] [(.long q1)])
    refine own_done (Q := fun v h L => Q6 Z q1 q2 h0 n0 v h L) (v := (some (.long q1))) X0 (fun h => by rw [hret] at h; cases h) hlk (fun fs hr => own_retL X0 hx hret (hb hby d6_11) hr) ?_ (by decide) (by decide)
    show Q6 Z q1 q2 h0 n0 _ s₁.heap _
    rw [e0]
    exact ⟨by rw [own_max, if_neg hc3_9], N0, rfl⟩
theorem d4_0 : decode prog_17_method_4_code 0 = .ok (.aload_n 0, 1) := by decide +kernel
theorem d4_1 : decode prog_17_method_4_code 1 = .ok (.getfield 19, 3) := by decide +kernel
theorem d4_4 : decode prog_17_method_4_code 4 = .ok (.ldc2_w 22, 3) := by decide +kernel
theorem d4_7 : decode prog_17_method_4_code 7 = .ok (.lcmp, 1) := by decide +kernel
theorem d4_8 : decode prog_17_method_4_code 8 = .ok (.ifCond .ge 52, 3) := by decide +kernel
theorem d4_11 : decode prog_17_method_4_code 11 = .ok (.ldc2_w 24, 3) := by decide +kernel
theorem d4_14 : decode prog_17_method_4_code 14 = .ok (.lload_n 3, 1) := by decide +kernel
theorem d4_15 : decode prog_17_method_4_code 15 = .ok (.lmul, 1) := by decide +kernel
theorem d4_16 : decode prog_17_method_4_code 16 = .ok (.getstatic 26, 3) := by decide +kernel
theorem d4_19 : decode prog_17_method_4_code 19 = .ok (.invokestatic 29, 3) := by decide +kernel
theorem d4_22 : decode prog_17_method_4_code 22 = .ok (.lstore 5, 2) := by decide +kernel
theorem d4_24 : decode prog_17_method_4_code 24 = .ok (.aload_n 0, 1) := by decide +kernel
theorem d4_25 : decode prog_17_method_4_code 25 = .ok (.lload_n 1, 1) := by decide +kernel
theorem d4_26 : decode prog_17_method_4_code 26 = .ok (.aload_n 0, 1) := by decide +kernel
theorem d4_27 : decode prog_17_method_4_code 27 = .ok (.getfield 13, 3) := by decide +kernel
theorem d4_30 : decode prog_17_method_4_code 30 = .ok (.lload 5, 2) := by decide +kernel
theorem d4_32 : decode prog_17_method_4_code 32 = .ok (.invokestatic 35, 3) := by decide +kernel
theorem d4_35 : decode prog_17_method_4_code 35 = .ok (.ladd, 1) := by decide +kernel
theorem d4_36 : decode prog_17_method_4_code 36 = .ok (.putfield 16, 3) := by decide +kernel
theorem d4_39 : decode prog_17_method_4_code 39 = .ok (.aload_n 0, 1) := by decide +kernel
theorem d4_40 : decode prog_17_method_4_code 40 = .ok (.ldc2_w 38, 3) := by decide +kernel
theorem d4_43 : decode prog_17_method_4_code 43 = .ok (.aload_n 0, 1) := by decide +kernel
theorem d4_44 : decode prog_17_method_4_code 44 = .ok (.getfield 13, 3) := by decide +kernel
theorem d4_47 : decode prog_17_method_4_code 47 = .ok (.lmul, 1) := by decide +kernel
theorem d4_48 : decode prog_17_method_4_code 48 = .ok (.getstatic 26, 3) := by decide +kernel
theorem d4_51 : decode prog_17_method_4_code 51 = .ok (.invokestatic 29, 3) := by decide +kernel
theorem d4_54 : decode prog_17_method_4_code 54 = .ok (.putfield 13, 3) := by decide +kernel
theorem d4_57 : decode prog_17_method_4_code 57 = .ok (.goto 21, 3) := by decide +kernel
theorem d4_60 : decode prog_17_method_4_code 60 = .ok (.aload_n 0, 1) := by decide +kernel
theorem d4_61 : decode prog_17_method_4_code 61 = .ok (.aload_n 0, 1) := by decide +kernel
theorem d4_62 : decode prog_17_method_4_code 62 = .ok (.getfield 13, 3) := by decide +kernel
theorem d4_65 : decode prog_17_method_4_code 65 = .ok (.ldc2_w 40, 3) := by decide +kernel
theorem d4_68 : decode prog_17_method_4_code 68 = .ok (.ldiv, 1) := by decide +kernel
theorem d4_69 : decode prog_17_method_4_code 69 = .ok (.getstatic 7, 3) := by decide +kernel
theorem d4_72 : decode prog_17_method_4_code 72 = .ok (.invokestatic 35, 3) := by decide +kernel
theorem d4_75 : decode prog_17_method_4_code 75 = .ok (.putfield 13, 3) := by decide +kernel
theorem d4_78 : decode prog_17_method_4_code 78 = .ok (.aload_n 0, 1) := by decide +kernel
theorem d4_79 : decode prog_17_method_4_code 79 = .ok (.lconst 0, 1) := by decide +kernel
theorem d4_80 : decode prog_17_method_4_code 80 = .ok (.putfield 19, 3) := by decide +kernel
theorem d4_83 : decode prog_17_method_4_code 83 = .ok (.return_, 1) := by decide +kernel
theorem pn_4 : plainName "com/example/eventail/eventail/SpinPauses" = true := by first | (simp [plainName, overriddenIn]; done) | decide +kernel
theorem ef_4 (m : MethodId) (x0 : Addr) (x1 : Int64) (x2 : Int64) : entryFrame m #[(.ref x0), (.long x1), (.long x2)] 7 = mkF m 0 #[.val (.ref x0), .val (.long x1), .second, .val (.long x2), .second, .unset, .unset] [] := by first | (simp [entryFrame, mkF, argsToLocals, Value.category]; done) | rfl
theorem pd_1 : parseMethodDescriptor "(JJ)J" = some ⟨[.long, .long], some .long⟩ := by decide +kernel
def Q4 (Z : State) (a1 : Addr) (q2 : Int64) (q3 : Int64) (u2 : Value) (h0 : Heap) (n0 : Nat) (v : Option Value) (h : Heap) (L : List Loc) : Prop := v = none ∧ Fr n0 L ∧ Keep h0 h [a1] ∧ Exa Z h a1 "com/example/eventail/eventail/SpinPauses" ∧ Fld Z h a1 "com/example/eventail/eventail/SpinPauses" "spinAgainNanos" "J" (.long (q2 + (own_max (10000000 : Int64) (own_min ((30 : Int64) * q3) (1000000000 : Int64)))))
set_option maxRecDepth 65536 in
set_option maxHeartbeats 40000000 in
theorem rm4 (l : Launch) (Z : State) (a0 : Array Value) (hw : ∀ d ∈ tables_1, d.before a0 Z = true) (ws : List Jvm.Cond) (a1 : Addr) (q2 : Int64) (q3 : Int64) (u2 : Value) (h0 : Heap) (n0 : Nat) (Z0 : n0 ≤ h0.size) (E_a1 : Exa Z h0 a1 "com/example/eventail/eventail/SpinPauses") (F_pauseNanos_a1 : Fld Z h0 a1 "com/example/eventail/eventail/SpinPauses" "pauseNanos" "J" (.long (10000000 : Int64))) (F_spinAgainNanos_a1 : Fld Z h0 a1 "com/example/eventail/eventail/SpinPauses" "spinAgainNanos" "J" u2) (F_takesSinceStall_a1 : Fld Z h0 a1 "com/example/eventail/eventail/SpinPauses" "takesSinceStall" "J" (.long (0 : Int64))) (g_a1 : n0 ≤ a1) (S_PAUSE_MAX_NANOS : Sta Z h0 "com/example/eventail/eventail/SpinPauses" "PAUSE_MAX_NANOS" "J" (.long (1000000000 : Int64))) :
    MetFree l (⟨"com/example/eventail/eventail/SpinPauses", "stalled", "(JJ)V"⟩ : MethodName) (head1 (Jvm.Cond.code (⟨"com/example/eventail/eventail/SpinPauses", "stalled", "(JJ)V"⟩ : MethodName) prog_17_method_4_code 7 none :: ws) ({ frames := 1, cells := 0, slots := 0, locals := 18 } : Room)) (fun a U => a = #[(.ref a1), (.long q2), (.long q3)] ∧ Z.Warmed39 U.vm ∧ U.heap = h0) (fun _ _ _ _ _ => True) (fun _ U o U' => ∃ v L, o = .returned v ∧ Q4 Z a1 q2 q3 u2 h0 n0 v U'.heap L ∧ FrameEnd U o U' L ({ frames := 1, cells := 0, slots := 0, locals := 18 } : Room).cells ({ frames := 1, cells := 0, slots := 0, locals := 18 } : Room).slots) := by
  refine MetFree.of_bodySF (plainFor_of_name pn_4) hisR ?_
  intro p e s m args below meth c s₁ Bd hml0 hP hK
  obtain ⟨rfl, hZ, hh⟩ := hP
  have hx := Bd.exec
  have hby := Bd.bytes
  have hml : c.maxLocals = 7 := hml0
  have hown : s.vm.findClass "com/example/eventail/eventail/SpinPauses" = some m.cls := findClass_of_methodNamed Bd.named
  have hnm := (name_of_methodNamed Bd.named Bd.method).1
  have hret := Bd.returns
  have hlk : meth.locks = false := BodyLoose.notSynchronized Bd
  have X0 : Stand p l e ({ frames := 1, cells := 0, slots := 0, locals := 18 } : Room) s m #[(.ref a1), (.long q2), (.long q3)] below meth c s₁ [] 0 0 := Stand.of_body Bd
  have e0 : s₁.heap = h0 := by rw [← hh, Bd.state]; rfl
  have N0 := Fr.nil n0
  have W := fun (k : Nat) {d : Jvm.Cond} (h : tables_1[k]? = some d) => hw d (List.mem_of_getElem? h)
  have K0 : Keep h0 h0 [a1] := Keep.refl _ _
  refine own_start (ef_4 m a1 q2 q3) ?_
  show own_Run p e below _ s₁ (mkF m 0 #[.val (.ref a1), .val (.long q2), .second, .val (.long q3), .second, .unset, .unset] [])
  refine own_go (fun _ k => XS.aloadN X0.here hx rfl (hb hby d4_0) rfl rfl k) ?_
  show own_Run p e below _ s₁ (mkF m 1 #[.val (.ref a1), .val (.long q2), .second, .val (.long q3), .second, .unset, .unset] [(.ref a1)])
  obtain ⟨T10, X10, e10, st10⟩ := getF X0 hx hZ hown (host := "") (Or.inl (W 29 rfl)) Via.refl e0 F_takesSinceStall_a1 (g := (mkF m 1 #[.val (.ref a1), .val (.long q2), .second, .val (.long q3), .second, .unset, .unset] [(.ref a1)])) rfl rfl (hb hby d4_1)
  refine own_go st10 ?_
  show own_Run p e below _ T10 (mkF m 4 #[.val (.ref a1), .val (.long q2), .second, .val (.long q3), .second, .unset, .unset] [(.long (0 : Int64))])
  refine own_go (X10.ldc2Long hx hown (mvT hZ (W 31 rfl)) (g := (mkF m 4 #[.val (.ref a1), .val (.long q2), .second, .val (.long q3), .second, .unset, .unset] [(.long (0 : Int64))])) rfl (hb hby d4_4)) ?_
  show own_Run p e below _ T10 (mkF m 7 #[.val (.ref a1), .val (.long q2), .second, .val (.long q3), .second, .unset, .unset] [(.long (10 : Int64)), (.long (0 : Int64))])
  refine own_go (fun _ k => XS.lcmp X10.here hx rfl (hb hby d4_7) rfl k) ?_
  show own_Run p e below _ T10 (mkF m 8 #[.val (.ref a1), .val (.long q2), .second, .val (.long q3), .second, .unset, .unset] [(.int (lcmpW (0 : Int64) (10 : Int64)))])
  refine own_go (fun _ k => XS.ifNo X10.here hx rfl (hb hby d4_8) rfl (own_lcT (by decide : (0 : Int64) < (10 : Int64))).2.1 k) ?_
  show own_Run p e below _ T10 (mkF m 11 #[.val (.ref a1), .val (.long q2), .second, .val (.long q3), .second, .unset, .unset] [])
  refine own_go (X10.ldc2Long hx hown (mvT hZ (W 32 rfl)) (g := (mkF m 11 #[.val (.ref a1), .val (.long q2), .second, .val (.long q3), .second, .unset, .unset] [])) rfl (hb hby d4_11)) ?_
  show own_Run p e below _ T10 (mkF m 14 #[.val (.ref a1), .val (.long q2), .second, .val (.long q3), .second, .unset, .unset] [(.long (30 : Int64))])
  refine own_go (fun _ k => XS.lloadN X10.here hx rfl (hb hby d4_14) rfl k) ?_
  refine own_go (fun _ k => XS.lmul X10.here hx rfl (hb hby d4_15) rfl k) ?_
  show own_Run p e below _ T10 (mkF m 16 #[.val (.ref a1), .val (.long q2), .second, .val (.long q3), .second, .unset, .unset] [(.long ((30 : Int64) * q3))])
  obtain ⟨T11, X11, e11, st11⟩ := getS2 X10 hx hZ hown (host := "") (Or.inl (W 33 rfl)) Via.refl e10 S_PAUSE_MAX_NANOS (g := (mkF m 16 #[.val (.ref a1), .val (.long q2), .second, .val (.long q3), .second, .unset, .unset] [(.long ((30 : Int64) * q3))])) rfl (hb hby d4_16)
  refine own_go st11 ?_
  show own_Run p e below _ T11 (mkF m 19 #[.val (.ref a1), .val (.long q2), .second, .val (.long q3), .second, .unset, .unset] [(.long (1000000000 : Int64)), (.long ((30 : Int64) * q3))])
  obtain ⟨_, _, ⟨T12, L12, k12, n12⟩, -, X12, ⟨Lc12, hQ12, l12, y12, z12⟩, st12⟩ := Jvm.LawKit.callS X11 hx (y := (⟨"java/lang/Math", "min", "(JJ)J"⟩ : MethodName)) hown (mvT hZ (W 35 rfl)) (mvT hZ (W 36 rfl)) (mvT hZ (W 37 rfl)) (mvT hZ (W 38 rfl)) (by decide) (backOf (W := 0) (rm5 l Z a0 hw [] ((30 : Int64) * q3) (1000000000 : Int64) h0 n0 Z0 ) hZ (W 38 rfl) (W 37 rfl) (by decide) (by decide)) (g := (mkF m 19 #[.val (.ref a1), .val (.long q2), .second, .val (.long q3), .second, .unset, .unset] [(.long (1000000000 : Int64)), (.long ((30 : Int64) * q3))])) rfl (by rw [hml]; rfl) (argsL := [(.long ((30 : Int64) * q3)), (.long (1000000000 : Int64))]) (rest := []) (lenOf pd_1 rfl) rfl (by show 2 * 0 + _ ≤ _; exact Nat.le_of_eq rfl) (hb hby d4_19) (fun _ _ => ⟨rfl, e11, (by decide : 0 + 0 ≤ _), (by decide : 0 + 0 ≤ _)⟩)
  dsimp only [Pt.U, Pt.locs, Pt.cells, Pt.slots] at X12 l12 y12 z12 st12 hQ12
  subst l12 y12 z12
  obtain ⟨rfl, N12q, e12⟩ := hQ12
  have N12 := Fr.app N0 N12q
  refine own_go st12 ?_
  show own_Run p e below _ T12 (mkF m 22 #[.val (.ref a1), .val (.long q2), .second, .val (.long q3), .second, .unset, .unset] [(.long (own_min ((30 : Int64) * q3) (1000000000 : Int64)))])
  refine own_go (fun _ k => XS.lstore X12.here hx rfl (hb hby d4_22) rfl (l' := #[.val (.ref a1), .val (.long q2), .second, .val (.long q3), .second, .val (.long (own_min ((30 : Int64) * q3) (1000000000 : Int64))), .second]) rfl k) ?_
  refine own_go (fun _ k => XS.aloadN X12.here hx rfl (hb hby d4_24) rfl rfl k) ?_
  refine own_go (fun _ k => XS.lloadN X12.here hx rfl (hb hby d4_25) rfl k) ?_
  refine own_go (fun _ k => XS.aloadN X12.here hx rfl (hb hby d4_26) rfl rfl k) ?_
  show own_Run p e below _ T12 (mkF m 27 #[.val (.ref a1), .val (.long q2), .second, .val (.long q3), .second, .val (.long (own_min ((30 : Int64) * q3) (1000000000 : Int64))), .second] [(.ref a1), (.long q2), (.ref a1)])
  obtain ⟨T13, X13, e13, st13⟩ := getF X12 hx hZ hown (host := "") (Or.inl (W 11 rfl)) Via.refl e12 F_pauseNanos_a1 (g := (mkF m 27 #[.val (.ref a1), .val (.long q2), .second, .val (.long q3), .second, .val (.long (own_min ((30 : Int64) * q3) (1000000000 : Int64))), .second] [(.ref a1), (.long q2), (.ref a1)])) rfl rfl (hb hby d4_27)
  refine own_go st13 ?_
  show own_Run p e below _ T13 (mkF m 30 #[.val (.ref a1), .val (.long q2), .second, .val (.long q3), .second, .val (.long (own_min ((30 : Int64) * q3) (1000000000 : Int64))), .second] [(.long (10000000 : Int64)), (.long q2), (.ref a1)])
  refine own_go (fun _ k => XS.lload X13.here hx rfl (hb hby d4_30) rfl k) ?_
  show own_Run p e below _ T13 (mkF m 32 #[.val (.ref a1), .val (.long q2), .second, .val (.long q3), .second, .val (.long (own_min ((30 : Int64) * q3) (1000000000 : Int64))), .second] [(.long (own_min ((30 : Int64) * q3) (1000000000 : Int64))), (.long (10000000 : Int64)), (.long q2), (.ref a1)])
  obtain ⟨_, _, ⟨T14, L14, k14, n14⟩, -, X14, ⟨Lc14, hQ14, l14, y14, z14⟩, st14⟩ := Jvm.LawKit.callS X13 hx (y := (⟨"java/lang/Math", "max", "(JJ)J"⟩ : MethodName)) hown (mvT hZ (W 39 rfl)) (mvT hZ (W 40 rfl)) (mvT hZ (W 37 rfl)) (mvT hZ (W 41 rfl)) (by decide) (backOf (W := 3) (rm6 l Z a0 hw [] (10000000 : Int64) (own_min ((30 : Int64) * q3) (1000000000 : Int64)) h0 n0 Z0 ) hZ (W 41 rfl) (W 37 rfl) (by decide) (by decide)) (g := (mkF m 32 #[.val (.ref a1), .val (.long q2), .second, .val (.long q3), .second, .val (.long (own_min ((30 : Int64) * q3) (1000000000 : Int64))), .second] [(.long (own_min ((30 : Int64) * q3) (1000000000 : Int64))), (.long (10000000 : Int64)), (.long q2), (.ref a1)])) rfl (by rw [hml]; rfl) (argsL := [(.long (10000000 : Int64)), (.long (own_min ((30 : Int64) * q3) (1000000000 : Int64)))]) (rest := [(.long q2), (.ref a1)]) (lenOf pd_1 rfl) rfl (by show 2 * 0 + _ ≤ _; exact Nat.le_of_eq rfl) (hb hby d4_32) (fun _ _ => ⟨rfl, e13, (by decide : 0 + 0 ≤ _), (by decide : 0 + 0 ≤ _)⟩)
  dsimp only [Pt.U, Pt.locs, Pt.cells, Pt.slots] at X14 l14 y14 z14 st14 hQ14
  subst l14 y14 z14
  obtain ⟨rfl, N14q, e14⟩ := hQ14
  have N14 := Fr.app N12 N14q
  refine own_go st14 ?_
  show own_Run p e below _ T14 (mkF m 35 #[.val (.ref a1), .val (.long q2), .second, .val (.long q3), .second, .val (.long (own_min ((30 : Int64) * q3) (1000000000 : Int64))), .second] [(.long (own_max (10000000 : Int64) (own_min ((30 : Int64) * q3) (1000000000 : Int64)))), (.long q2), (.ref a1)])
  refine own_go (fun _ k => XS.ladd X14.here hx rfl (hb hby d4_35) rfl k) ?_
  show own_Run p e below _ T14 (mkF m 36 #[.val (.ref a1), .val (.long q2), .second, .val (.long q3), .second, .val (.long (own_min ((30 : Int64) * q3) (1000000000 : Int64))), .second] [(.long (q2 + (own_max (10000000 : Int64) (own_min ((30 : Int64) * q3) (1000000000 : Int64))))), (.ref a1)])
  obtain ⟨T15, h15, X15, e15, W15, st15⟩ := putF X14 hx hZ hown (host := "") (Or.inl (W 13 rfl)) Via.refl e14 F_spinAgainNanos_a1 E_a1 (Or.inl (W 14 rfl)) (W 1 rfl) (ty := .long) (by decide) rfl rfl (g := (mkF m 36 #[.val (.ref a1), .val (.long q2), .second, .val (.long q3), .second, .val (.long (own_min ((30 : Int64) * q3) (1000000000 : Int64))), .second] [(.long (q2 + (own_max (10000000 : Int64) (own_min ((30 : Int64) * q3) (1000000000 : Int64))))), (.ref a1)])) rfl rfl (hb hby d4_36)
  refine own_go st15 ?_
  show own_Run p e below _ T15 (mkF m 39 #[.val (.ref a1), .val (.long q2), .second, .val (.long q3), .second, .val (.long (own_min ((30 : Int64) * q3) (1000000000 : Int64))), .second] [])
  have Z0_c16 := Nat.le_trans Z0 (Keep.of_wr W15).1
  have K0_c16 := K0.wr W15 (Or.inl (List.mem_of_getElem? (i := 0) rfl))
  have E_a1_c16 := E_a1.wr W15
  have F_pauseNanos_a1_c16 := F_pauseNanos_a1.other W15 (Or.inr (slot_ne (Or.inl (W 12 rfl)) (Or.inl (W 14 rfl)) (by decide) (t := .long) (t' := .long) (by decide) (by decide)))
  have F_takesSinceStall_a1_c16 := F_takesSinceStall_a1.other W15 (Or.inr (slot_ne (Or.inl (W 30 rfl)) (Or.inl (W 14 rfl)) (by decide) (t := .long) (t' := .long) (by decide) (by decide)))
  have S_PAUSE_MAX_NANOS_c16 := S_PAUSE_MAX_NANOS.wr W15
  have F_spinAgainNanos_a1_c15 : Fld Z h15 a1 "com/example/eventail/eventail/SpinPauses" "spinAgainNanos" "J" (.long (q2 + (own_max (10000000 : Int64) (own_min ((30 : Int64) * q3) (1000000000 : Int64))))) := F_spinAgainNanos_a1.same W15
  have N15 := Fr.snoc X15 N14 g_a1
  refine own_go (fun _ k => XS.aloadN X15.here hx rfl (hb hby d4_39) rfl rfl k) ?_
  show own_Run p e below _ T15 (mkF m 40 #[.val (.ref a1), .val (.long q2), .second, .val (.long q3), .second, .val (.long (own_min ((30 : Int64) * q3) (1000000000 : Int64))), .second] [(.ref a1)])
  refine own_go (X15.ldc2Long hx hown (mvT hZ (W 42 rfl)) (g := (mkF m 40 #[.val (.ref a1), .val (.long q2), .second, .val (.long q3), .second, .val (.long (own_min ((30 : Int64) * q3) (1000000000 : Int64))), .second] [(.ref a1)])) rfl (hb hby d4_40)) ?_
  show own_Run p e below _ T15 (mkF m 43 #[.val (.ref a1), .val (.long q2), .second, .val (.long q3), .second, .val (.long (own_min ((30 : Int64) * q3) (1000000000 : Int64))), .second] [(.long (4 : Int64)), (.ref a1)])
  refine own_go (fun _ k => XS.aloadN X15.here hx rfl (hb hby d4_43) rfl rfl k) ?_
  show own_Run p e below _ T15 (mkF m 44 #[.val (.ref a1), .val (.long q2), .second, .val (.long q3), .second, .val (.long (own_min ((30 : Int64) * q3) (1000000000 : Int64))), .second] [(.ref a1), (.long (4 : Int64)), (.ref a1)])
  obtain ⟨T17, X17, e17, st17⟩ := getF X15 hx hZ hown (host := "") (Or.inl (W 11 rfl)) Via.refl e15 F_pauseNanos_a1_c16 (g := (mkF m 44 #[.val (.ref a1), .val (.long q2), .second, .val (.long q3), .second, .val (.long (own_min ((30 : Int64) * q3) (1000000000 : Int64))), .second] [(.ref a1), (.long (4 : Int64)), (.ref a1)])) rfl rfl (hb hby d4_44)
  refine own_go st17 ?_
  show own_Run p e below _ T17 (mkF m 47 #[.val (.ref a1), .val (.long q2), .second, .val (.long q3), .second, .val (.long (own_min ((30 : Int64) * q3) (1000000000 : Int64))), .second] [(.long (10000000 : Int64)), (.long (4 : Int64)), (.ref a1)])
  refine own_go (fun _ k => XS.lmul X17.here hx rfl (hb hby d4_47) rfl k) ?_
  show own_Run p e below _ T17 (mkF m 48 #[.val (.ref a1), .val (.long q2), .second, .val (.long q3), .second, .val (.long (own_min ((30 : Int64) * q3) (1000000000 : Int64))), .second] [(.long ((4 : Int64) * (10000000 : Int64))), (.ref a1)])
  rw [show ((4 : Int64) * (10000000 : Int64)) = (40000000 : Int64) by decide]
  show own_Run p e below _ T17 (mkF m 48 #[.val (.ref a1), .val (.long q2), .second, .val (.long q3), .second, .val (.long (own_min ((30 : Int64) * q3) (1000000000 : Int64))), .second] [(.long (40000000 : Int64)), (.ref a1)])
  obtain ⟨T18, X18, e18, st18⟩ := getS2 X17 hx hZ hown (host := "") (Or.inl (W 33 rfl)) Via.refl e17 S_PAUSE_MAX_NANOS_c16 (g := (mkF m 48 #[.val (.ref a1), .val (.long q2), .second, .val (.long q3), .second, .val (.long (own_min ((30 : Int64) * q3) (1000000000 : Int64))), .second] [(.long (40000000 : Int64)), (.ref a1)])) rfl (hb hby d4_48)
  refine own_go st18 ?_
  show own_Run p e below _ T18 (mkF m 51 #[.val (.ref a1), .val (.long q2), .second, .val (.long q3), .second, .val (.long (own_min ((30 : Int64) * q3) (1000000000 : Int64))), .second] [(.long (1000000000 : Int64)), (.long (40000000 : Int64)), (.ref a1)])
  obtain ⟨_, _, ⟨T19, L19, k19, n19⟩, -, X19, ⟨Lc19, hQ19, l19, y19, z19⟩, st19⟩ := Jvm.LawKit.callS X18 hx (y := (⟨"java/lang/Math", "min", "(JJ)J"⟩ : MethodName)) hown (mvT hZ (W 35 rfl)) (mvT hZ (W 36 rfl)) (mvT hZ (W 37 rfl)) (mvT hZ (W 38 rfl)) (by decide) (backOf (W := 1) (rm5 l Z a0 hw [] (40000000 : Int64) (1000000000 : Int64) h15 n0 Z0_c16 ) hZ (W 38 rfl) (W 37 rfl) (by decide) (by decide)) (g := (mkF m 51 #[.val (.ref a1), .val (.long q2), .second, .val (.long q3), .second, .val (.long (own_min ((30 : Int64) * q3) (1000000000 : Int64))), .second] [(.long (1000000000 : Int64)), (.long (40000000 : Int64)), (.ref a1)])) rfl (by rw [hml]; rfl) (argsL := [(.long (40000000 : Int64)), (.long (1000000000 : Int64))]) (rest := [(.ref a1)]) (lenOf pd_1 rfl) rfl (by show 2 * 0 + _ ≤ _; exact Nat.le_of_eq rfl) (hb hby d4_51) (fun _ _ => ⟨rfl, e18, (by decide : 0 + 0 ≤ _), (by decide : 0 + 0 ≤ _)⟩)
  dsimp only [Pt.U, Pt.locs, Pt.cells, Pt.slots] at X19 l19 y19 z19 st19 hQ19
  subst l19 y19 z19
  obtain ⟨rfl, N19q, e19⟩ := hQ19
  have N19 := Fr.app N15 N19q
  refine own_go st19 ?_
  show own_Run p e below _ T19 (mkF m 54 #[.val (.ref a1), .val (.long q2), .second, .val (.long q3), .second, .val (.long (own_min ((30 : Int64) * q3) (1000000000 : Int64))), .second] [(.long (own_min (40000000 : Int64) (1000000000 : Int64))), (.ref a1)])
  obtain ⟨T20, h20, X20, e20, W20, st20⟩ := putF X19 hx hZ hown (host := "") (Or.inl (W 11 rfl)) Via.refl e19 F_pauseNanos_a1_c16 E_a1_c16 (Or.inl (W 12 rfl)) (W 1 rfl) (ty := .long) (by decide) rfl rfl (g := (mkF m 54 #[.val (.ref a1), .val (.long q2), .second, .val (.long q3), .second, .val (.long (own_min ((30 : Int64) * q3) (1000000000 : Int64))), .second] [(.long (own_min (40000000 : Int64) (1000000000 : Int64))), (.ref a1)])) rfl rfl (hb hby d4_54)
  refine own_go st20 ?_
  show own_Run p e below _ T20 (mkF m 57 #[.val (.ref a1), .val (.long q2), .second, .val (.long q3), .second, .val (.long (own_min ((30 : Int64) * q3) (1000000000 : Int64))), .second] [])
  have Z0_c21 := Nat.le_trans Z0_c16 (Keep.of_wr W20).1
  have K0_c21 := K0_c16.wr W20 (Or.inl (List.mem_of_getElem? (i := 0) rfl))
  have E_a1_c21 := E_a1_c16.wr W20
  have F_takesSinceStall_a1_c21 := F_takesSinceStall_a1_c16.other W20 (Or.inr (slot_ne (Or.inl (W 30 rfl)) (Or.inl (W 12 rfl)) (by decide) (t := .long) (t' := .long) (by decide) (by decide)))
  have S_PAUSE_MAX_NANOS_c21 := S_PAUSE_MAX_NANOS_c16.wr W20
  have F_spinAgainNanos_a1_c21 := F_spinAgainNanos_a1_c15.other W20 (Or.inr (slot_ne (Or.inl (W 14 rfl)) (Or.inl (W 12 rfl)) (by decide) (t := .long) (t' := .long) (by decide) (by decide)))
  have F_pauseNanos_a1_c20 : Fld Z h20 a1 "com/example/eventail/eventail/SpinPauses" "pauseNanos" "J" (.long (own_min (40000000 : Int64) (1000000000 : Int64))) := F_pauseNanos_a1_c16.same W20
  have N20 := Fr.snoc X20 N19 g_a1
  refine own_go (fun _ k => XS.goto X20.here hx rfl (pc0 := 57) (pc' := 78) rfl (hb hby d4_57) (by decide) (by decide) k) ?_
  refine own_go (fun _ k => XS.aloadN X20.here hx rfl (hb hby d4_78) rfl rfl k) ?_
  refine own_go (fun _ k => XS.lconst X20.here hx rfl (hb hby d4_79) k) ?_
  show own_Run p e below _ T20 (mkF m 80 #[.val (.ref a1), .val (.long q2), .second, .val (.long q3), .second, .val (.long (own_min ((30 : Int64) * q3) (1000000000 : Int64))), .second] [(.long (0 : Int64)), (.ref a1)])
  obtain ⟨T22, h22, X22, e22, W22, st22⟩ := putF X20 hx hZ hown (host := "") (Or.inl (W 29 rfl)) Via.refl e20 F_takesSinceStall_a1_c21 E_a1_c21 (Or.inl (W 30 rfl)) (W 1 rfl) (ty := .long) (by decide) rfl rfl (g := (mkF m 80 #[.val (.ref a1), .val (.long q2), .second, .val (.long q3), .second, .val (.long (own_min ((30 : Int64) * q3) (1000000000 : Int64))), .second] [(.long (0 : Int64)), (.ref a1)])) rfl rfl (hb hby d4_80)
  refine own_go st22 ?_
  show own_Run p e below _ T22 (mkF m 83 #[.val (.ref a1), .val (.long q2), .second, .val (.long q3), .second, .val (.long (own_min ((30 : Int64) * q3) (1000000000 : Int64))), .second] [])
  have Z0_c23 := Nat.le_trans Z0_c21 (Keep.of_wr W22).1
  have K0_c23 := K0_c21.wr W22 (Or.inl (List.mem_of_getElem? (i := 0) rfl))
  have E_a1_c23 := E_a1_c21.wr W22
  have S_PAUSE_MAX_NANOS_c23 := S_PAUSE_MAX_NANOS_c21.wr W22
  have F_spinAgainNanos_a1_c23 := F_spinAgainNanos_a1_c21.other W22 (Or.inr (slot_ne (Or.inl (W 14 rfl)) (Or.inl (W 30 rfl)) (by decide) (t := .long) (t' := .long) (by decide) (by decide)))
  have F_pauseNanos_a1_c23 := F_pauseNanos_a1_c20.other W22 (Or.inr (slot_ne (Or.inl (W 12 rfl)) (Or.inl (W 30 rfl)) (by decide) (t := .long) (t' := .long) (by decide) (by decide)))
  have F_takesSinceStall_a1_c22 : Fld Z h22 a1 "com/example/eventail/eventail/SpinPauses" "takesSinceStall" "J" (.long (0 : Int64)) := F_takesSinceStall_a1_c21.same W22
  have N22 := Fr.snoc X22 N20 g_a1
  refine own_done (Q := fun v h L => Q4 Z a1 q2 q3 u2 h0 n0 v h L) (v := none) X22 (fun _ => rfl) hlk (fun fs hr => X22.returnOut hx hret (hb hby d4_83) hr) ?_ (by decide) (by decide)
  show Q4 Z a1 q2 q3 u2 h0 n0 _ T22.heap _
  rw [e22]
  exact ⟨rfl, N22, K0_c23, E_a1_c23, F_spinAgainNanos_a1_c23⟩
theorem pn_0 : plainName "com/example/eventail/eventail/SpinPausesAllowSpinAtPinLaw" = true := by first | (simp [plainName, overriddenIn]; done) | decide +kernel
theorem ef_0 (m : MethodId) (x0 : Int64) (x1 : Int64) (x2 : Int64) (x3 : Int32) : entryFrame m #[(.long x0), (.long x1), (.long x2), (.int x3)] maxLocals = mkF m 0 #[.val (.long x0), .second, .val (.long x1), .second, .val (.long x2), .second, .val (.int x3), .unset, .unset, .unset, .unset, .unset, .unset, .unset] [] := by first | (simp [entryFrame, mkF, argsToLocals, Value.category, maxLocals]; done) | rfl
theorem pd_2 : parseMethodDescriptor "(J)V" = some ⟨[.long], none⟩ := by decide +kernel
theorem pd_3 : parseMethodDescriptor "(J)Z" = some ⟨[.long], some .boolean⟩ := by decide +kernel
theorem pd_4 : parseMethodDescriptor "(JJ)V" = some ⟨[.long, .long], none⟩ := by decide +kernel
def Q0 (Z : State) (q1 : Int64) (q2 : Int64) (q3 : Int64) (p4 : Int32) (h0 : Heap) (n0 : Nat) (v : Option Value) (h : Heap) (L : List Loc) : Prop := v = some (.int (1 : Int32)) ∧ Fr n0 L
set_option maxRecDepth 65536 in
set_option maxHeartbeats 40000000 in
theorem rm0 (l : Launch) (Z : State) (a0 : Array Value) (hw : ∀ d ∈ tables_1, d.before a0 Z = true) (ws : List Jvm.Cond) (q1 : Int64) (q2 : Int64) (q3 : Int64) (p4 : Int32) (h0 : Heap) (n0 : Nat) (Z0 : n0 ≤ h0.size) (S_PAUSE_NANOS : Sta Z h0 "com/example/eventail/eventail/SpinPauses" "PAUSE_NANOS" "J" (.long (10000000 : Int64))) (S_PAUSE_MAX_NANOS : Sta Z h0 "com/example/eventail/eventail/SpinPauses" "PAUSE_MAX_NANOS" "J" (.long (1000000000 : Int64))) :
    MetFree l x (head1 (Jvm.Cond.code x code maxLocals ret :: ws) room_1) (fun a U => a = #[(.long q1), (.long q2), (.long q3), (.int p4)] ∧ Z.Warmed39 U.vm ∧ U.heap = h0) (fun _ _ _ _ _ => True) (fun _ U o U' => ∃ v L, o = .returned v ∧ Q0 Z q1 q2 q3 p4 h0 n0 v U'.heap L ∧ FrameEnd U o U' L room_1.cells room_1.slots) := by
  refine MetFree.of_bodySF (plainFor_of_name pn_0) hisR ?_
  intro p e s m args below meth c s₁ Bd hml0 hP hK
  obtain ⟨rfl, hZ, hh⟩ := hP
  have hx := Bd.exec
  have hby := Bd.bytes
  have hml : c.maxLocals = 14 := hml0
  have hown : s.vm.findClass "com/example/eventail/eventail/SpinPausesAllowSpinAtPinLaw" = some m.cls := findClass_of_methodNamed Bd.named
  have hnm := (name_of_methodNamed Bd.named Bd.method).1
  have hret := Bd.returns
  have hlk : meth.locks = false := BodyLoose.notSynchronized Bd
  have X0 : Stand p l e room_1 s m #[(.long q1), (.long q2), (.long q3), (.int p4)] below meth c s₁ [] 0 0 := Stand.of_body Bd
  have e0 : s₁.heap = h0 := by rw [← hh, Bd.state]; rfl
  have N0 := Fr.nil n0
  have W := fun (k : Nat) {d : Jvm.Cond} (h : tables_1[k]? = some d) => hw d (List.mem_of_getElem? h)
  have K0 : Keep h0 h0 [] := Keep.refl _ _
  refine own_start (ef_0 m q1 q2 q3 p4) ?_
  show own_Run p e below _ s₁ (mkF m 0 #[.val (.long q1), .second, .val (.long q2), .second, .val (.long q3), .second, .val (.int p4), .unset, .unset, .unset, .unset, .unset, .unset, .unset] [])
  obtain ⟨T24, h24, X24, e24, E24, A24, D24, -, st24⟩ := newO X0 hx hZ hown (W 0 rfl) (W 1 rfl) (W 2 rfl) e0 (g := (mkF m 0 #[.val (.long q1), .second, .val (.long q2), .second, .val (.long q3), .second, .val (.int p4), .unset, .unset, .unset, .unset, .unset, .unset, .unset] [])) rfl (hb hby at_0) (by decide) (by decide)
  refine own_go st24 ?_
  obtain ⟨b24, g24⟩ : ∃ z, z = h0.size := ⟨_, rfl⟩
  rw [← g24] at A24 D24
  rw [← g24]
  show own_Run p e below _ T24 (mkF m 3 #[.val (.long q1), .second, .val (.long q2), .second, .val (.long q3), .second, .val (.int p4), .unset, .unset, .unset, .unset, .unset, .unset, .unset] [(.ref b24)])
  have g_b24 : n0 ≤ b24 := Nat.le_trans Z0 (Nat.le_of_eq g24.symm)
  have sz_b24 : h0.size ≤ b24 := Nat.le_trans K0.1 (Nat.le_of_eq g24.symm)
  have Z0_c25 := Nat.le_trans Z0 E24.1
  have K0_c25 := K0.ext E24
  have S_PAUSE_NANOS_c25 := S_PAUSE_NANOS.ext E24
  have S_PAUSE_MAX_NANOS_c25 := S_PAUSE_MAX_NANOS.ext E24
  have F_pauseNanos_b24 : Fld Z h24 b24 "com/example/eventail/eventail/SpinPauses" "pauseNanos" "J" (.long (0 : Int64)) := D24 (Or.inl (W 12 rfl)) (ty := .long) (by decide)
  have F_spinAgainNanos_b24 : Fld Z h24 b24 "com/example/eventail/eventail/SpinPauses" "spinAgainNanos" "J" (.long (0 : Int64)) := D24 (Or.inl (W 14 rfl)) (ty := .long) (by decide)
  have F_takesSinceStall_b24 : Fld Z h24 b24 "com/example/eventail/eventail/SpinPauses" "takesSinceStall" "J" (.long (0 : Int64)) := D24 (Or.inl (W 30 rfl)) (ty := .long) (by decide)
  refine own_go (fun _ k => XS.dup X24.here hx rfl (hb hby at_3) rfl rfl k) ?_
  refine own_go (fun _ k => XS.lloadN X24.here hx rfl (hb hby at_4) rfl k) ?_
  show own_Run p e below _ T24 (mkF m 5 #[.val (.long q1), .second, .val (.long q2), .second, .val (.long q3), .second, .val (.int p4), .unset, .unset, .unset, .unset, .unset, .unset, .unset] [(.long q1), (.ref b24), (.ref b24)])
  obtain ⟨_, _, ⟨T26, L26, k26, n26⟩, -, X26, ⟨Lc26, hQ26, l26, y26, z26⟩, st26⟩ := X24.specialBack hx (y := (⟨"com/example/eventail/eventail/SpinPauses", "<init>", "(J)V"⟩ : MethodName)) rfl hown (mvT hZ (W 3 rfl)) (mvT hZ (W 4 rfl)) (mvT hZ (W 5 rfl)) (by decide) (backOf (W := 1) (rm1 l Z a0 hw [] b24 q1 (.long (0 : Int64)) (.long (0 : Int64)) (0 : Int64) h24 n0 Z0_c25 A24 F_pauseNanos_b24 F_spinAgainNanos_b24 F_takesSinceStall_b24 g_b24 S_PAUSE_NANOS_c25) hZ (W 5 rfl) (W 2 rfl) (by decide) (by decide)) (g := (mkF m 5 #[.val (.long q1), .second, .val (.long q2), .second, .val (.long q3), .second, .val (.int p4), .unset, .unset, .unset, .unset, .unset, .unset, .unset] [(.long q1), (.ref b24), (.ref b24)])) rfl (by rw [hml]; rfl) (Steps.refl _) (a := b24) (argsL := [(.long q1)]) (rest := [(.ref b24)]) (lenOf pd_2 rfl) rfl (by show 2 * 0 + _ ≤ _; exact Nat.le_of_eq rfl) (hb hby at_5) (fun _ _ => ⟨rfl, e24, (by decide : 1 + 0 ≤ _), (by decide : 3 + 0 ≤ _)⟩)
  dsimp only [Pt.U, Pt.locs, Pt.cells, Pt.slots] at X26 l26 y26 z26 st26 hQ26
  subst l26 y26 z26
  obtain ⟨rfl, N26q, K26, P26_0, P26_1, P26_2, P26_3⟩ := hQ26
  have N26 := Fr.app N0 N26q
  refine own_goT st26 ?_
  show own_Run p e below _ T26 (mkF m 8 #[.val (.long q1), .second, .val (.long q2), .second, .val (.long q3), .second, .val (.int p4), .unset, .unset, .unset, .unset, .unset, .unset, .unset] [(.ref b24)])
  have Z0_c27 := Nat.le_trans Z0_c25 K26.1
  have K0_c27 := K0_c25.trans K26 (allS (Or.inr sz_b24) all0)
  have S_PAUSE_NANOS_c27 := own_staKeep S_PAUSE_NANOS_c25 K26 (allS (own_ns A24) all0)
  have S_PAUSE_MAX_NANOS_c27 := own_staKeep S_PAUSE_MAX_NANOS_c25 K26 (allS (own_ns A24) all0)
  have A24_c27 := A24.keep K26
  refine own_go (fun _ k => XS.astore X26.here hx rfl (hb hby at_8) rfl rfl (l' := #[.val (.long q1), .second, .val (.long q2), .second, .val (.long q3), .second, .val (.int p4), .val (.ref b24), .unset, .unset, .unset, .unset, .unset, .unset]) rfl k) ?_
  refine own_go (fun _ k => XS.iload X26.here hx rfl (hb hby at_10) rfl k) ?_
  refine own_go (fun _ k => XS.iconst X26.here hx rfl (hb hby at_12) k) ?_
  refine own_go (fun _ k => XS.iand X26.here hx rfl (hb hby at_13) rfl k) ?_
  show own_Run p e below _ T26 (mkF m 14 #[.val (.long q1), .second, .val (.long q2), .second, .val (.long q3), .second, .val (.int p4), .val (.ref b24), .unset, .unset, .unset, .unset, .unset, .unset] [(.int (p4 &&& (1 : Int32)))])
  by_cases hc14_28 : (p4 &&& (1 : Int32)) = (0 : Int32)
  · refine own_go (fun _ k => XS.ifNo X26.here hx rfl (hb hby at_14) rfl ((if0 _ _).trans (teq hc14_28).2) k) ?_
    show own_Run p e below _ T26 (mkF m 17 #[.val (.long q1), .second, .val (.long q2), .second, .val (.long q3), .second, .val (.int p4), .val (.ref b24), .unset, .unset, .unset, .unset, .unset, .unset] [])
    refine own_go (fun _ k => XS.aload X26.here hx rfl (hb hby at_17) rfl rfl k) ?_
    refine own_go (fun _ k => XS.lloadN X26.here hx rfl (hb hby at_19) rfl k) ?_
    refine own_go (fun _ k => XS.lloadN X26.here hx rfl (hb hby at_20) rfl k) ?_
    refine own_go (fun _ k => XS.ladd X26.here hx rfl (hb hby at_21) rfl k) ?_
    show own_Run p e below _ T26 (mkF m 22 #[.val (.long q1), .second, .val (.long q2), .second, .val (.long q3), .second, .val (.int p4), .val (.ref b24), .unset, .unset, .unset, .unset, .unset, .unset] [(.long (q1 + q2)), (.ref b24)])
    by_cases hf29 : q2 < (0 : Int64)
    · obtain ⟨cq30, kq30, q30a, q30b, q30c⟩ := isOf hZ rfl P26_0
      obtain ⟨_, _, ⟨T30, L30, k30, n30⟩, -, X30, ⟨Lc30, hQ30, l30, y30, z30⟩, st30⟩ := X26.virtualBack hx (y := (⟨"com/example/eventail/eventail/SpinPauses", "allowSpinAt", "(J)Z"⟩ : MethodName)) (z := (⟨"com/example/eventail/eventail/SpinPauses", "allowSpinAt", "(J)Z"⟩ : MethodName)) hown (mvT hZ (W 15 rfl)) (mvT hZ (W 16 rfl)) (notFace_of_selects (args := #[]) (mvT hZ (W 18 rfl))) (mvT hZ (W 18 rfl)) (mvT hZ (W 17 rfl)) (by decide) (backOf (W := 0) (rm3 l Z a0 hw [] b24 (q1 + q2) q1 (0 : Int32) T26.heap n0 Z0_c27 P26_2 (Or.inl ⟨(by rw [own_c1]; exact hf29), rfl⟩)) hZ (W 19 rfl) (W 2 rfl) (by decide) (by decide)) q30a q30c (g := (mkF m 22 #[.val (.long q1), .second, .val (.long q2), .second, .val (.long q3), .second, .val (.int p4), .val (.ref b24), .unset, .unset, .unset, .unset, .unset, .unset] [(.long (q1 + q2)), (.ref b24)])) rfl (by rw [hml]; rfl) (Steps.refl _) (argsL := [(.long (q1 + q2))]) (rest := []) (lenOf pd_3 rfl) rfl (by show 2 * 0 + _ ≤ _; exact Nat.le_of_eq rfl) (hb hby at_22) (fun _ _ => ⟨rfl, rfl, (by decide : 1 + 0 ≤ _), (by decide : 3 + 0 ≤ _)⟩)
      dsimp only [Pt.U, Pt.locs, Pt.cells, Pt.slots] at X30 l30 y30 z30 st30 hQ30
      subst l30 y30 z30
      obtain ⟨rfl, N30q, e30⟩ := hQ30
      have N30 := Fr.app N26 N30q
      refine own_goT st30 ?_
      show own_Run p e below _ T30 (mkF m 25 #[.val (.long q1), .second, .val (.long q2), .second, .val (.long q3), .second, .val (.int p4), .val (.ref b24), .unset, .unset, .unset, .unset, .unset, .unset] [(.int (0 : Int32))])
      refine own_go (fun _ k => XS.lloadN X30.here hx rfl (hb hby at_25) rfl k) ?_
      refine own_go (fun _ k => XS.lconst X30.here hx rfl (hb hby at_26) k) ?_
      refine own_go (fun _ k => XS.lcmp X30.here hx rfl (hb hby at_27) rfl k) ?_
      show own_Run p e below _ T30 (mkF m 28 #[.val (.long q1), .second, .val (.long q2), .second, .val (.long q3), .second, .val (.int p4), .val (.ref b24), .unset, .unset, .unset, .unset, .unset, .unset] [(.int (lcmpW q2 (0 : Int64))), (.int (0 : Int32))])
      refine own_go (fun _ k => XS.ifYes X30.here hx rfl (pc0 := 28) (pc' := 35) rfl (hb hby at_28) rfl (own_lcT hf29).1 (by decide) (by decide) k) ?_
      show own_Run p e below _ T30 (mkF m 35 #[.val (.long q1), .second, .val (.long q2), .second, .val (.long q3), .second, .val (.int p4), .val (.ref b24), .unset, .unset, .unset, .unset, .unset, .unset] [(.int (0 : Int32))])
      refine own_go (fun _ k => XS.iconst X30.here hx rfl (hb hby at_35) k) ?_
      show own_Run p e below _ T30 (mkF m 36 #[.val (.long q1), .second, .val (.long q2), .second, .val (.long q3), .second, .val (.int p4), .val (.ref b24), .unset, .unset, .unset, .unset, .unset, .unset] [(.int (0 : Int32)), (.int (0 : Int32))])
      refine own_go (fun _ k => XS.icmpNo X30.here hx rfl (hb hby at_36) rfl (teq (by decide : (0 : Int32) = (0 : Int32))).2 k) ?_
      show own_Run p e below _ T30 (mkF m 39 #[.val (.long q1), .second, .val (.long q2), .second, .val (.long q3), .second, .val (.int p4), .val (.ref b24), .unset, .unset, .unset, .unset, .unset, .unset] [])
      refine own_go (fun _ k => XS.iconst X30.here hx rfl (hb hby at_39) k) ?_
      refine own_go (fun _ k => XS.goto X30.here hx rfl (pc0 := 40) (pc' := 44) rfl (hb hby at_40) (by decide) (by decide) k) ?_
      show own_Run p e below _ T30 (mkF m 44 #[.val (.long q1), .second, .val (.long q2), .second, .val (.long q3), .second, .val (.int p4), .val (.ref b24), .unset, .unset, .unset, .unset, .unset, .unset] [(.int (1 : Int32))])
      refine own_done (Q := fun v h L => Q0 Z q1 q2 q3 p4 h0 n0 v h L) (v := (some (.int (1 : Int32)))) X30 (fun h => by rw [hret] at h; cases h) hlk (fun fs hr => retN X30 hx (t := .boolean) hret (by simp) (hb hby at_44) hr) ?_ (by decide) (by decide)
      show Q0 Z q1 q2 q3 p4 h0 n0 _ T30.heap _
      rw [e30]
      exact ⟨rfl, N30⟩
    · obtain ⟨cq31, kq31, q31a, q31b, q31c⟩ := isOf hZ rfl P26_0
      obtain ⟨_, _, ⟨T31, L31, k31, n31⟩, -, X31, ⟨Lc31, hQ31, l31, y31, z31⟩, st31⟩ := X26.virtualBack hx (y := (⟨"com/example/eventail/eventail/SpinPauses", "allowSpinAt", "(J)Z"⟩ : MethodName)) (z := (⟨"com/example/eventail/eventail/SpinPauses", "allowSpinAt", "(J)Z"⟩ : MethodName)) hown (mvT hZ (W 15 rfl)) (mvT hZ (W 16 rfl)) (notFace_of_selects (args := #[]) (mvT hZ (W 18 rfl))) (mvT hZ (W 18 rfl)) (mvT hZ (W 17 rfl)) (by decide) (backOf (W := 0) (rm3 l Z a0 hw [] b24 (q1 + q2) q1 (1 : Int32) T26.heap n0 Z0_c27 P26_2 (Or.inr ⟨(by rw [own_c1]; exact hf29), rfl⟩)) hZ (W 19 rfl) (W 2 rfl) (by decide) (by decide)) q31a q31c (g := (mkF m 22 #[.val (.long q1), .second, .val (.long q2), .second, .val (.long q3), .second, .val (.int p4), .val (.ref b24), .unset, .unset, .unset, .unset, .unset, .unset] [(.long (q1 + q2)), (.ref b24)])) rfl (by rw [hml]; rfl) (Steps.refl _) (argsL := [(.long (q1 + q2))]) (rest := []) (lenOf pd_3 rfl) rfl (by show 2 * 0 + _ ≤ _; exact Nat.le_of_eq rfl) (hb hby at_22) (fun _ _ => ⟨rfl, rfl, (by decide : 1 + 0 ≤ _), (by decide : 3 + 0 ≤ _)⟩)
      dsimp only [Pt.U, Pt.locs, Pt.cells, Pt.slots] at X31 l31 y31 z31 st31 hQ31
      subst l31 y31 z31
      obtain ⟨rfl, N31q, e31⟩ := hQ31
      have N31 := Fr.app N26 N31q
      refine own_goT st31 ?_
      show own_Run p e below _ T31 (mkF m 25 #[.val (.long q1), .second, .val (.long q2), .second, .val (.long q3), .second, .val (.int p4), .val (.ref b24), .unset, .unset, .unset, .unset, .unset, .unset] [(.int (1 : Int32))])
      refine own_go (fun _ k => XS.lloadN X31.here hx rfl (hb hby at_25) rfl k) ?_
      refine own_go (fun _ k => XS.lconst X31.here hx rfl (hb hby at_26) k) ?_
      refine own_go (fun _ k => XS.lcmp X31.here hx rfl (hb hby at_27) rfl k) ?_
      show own_Run p e below _ T31 (mkF m 28 #[.val (.long q1), .second, .val (.long q2), .second, .val (.long q3), .second, .val (.int p4), .val (.ref b24), .unset, .unset, .unset, .unset, .unset, .unset] [(.int (lcmpW q2 (0 : Int64))), (.int (1 : Int32))])
      refine own_go (fun _ k => XS.ifNo X31.here hx rfl (hb hby at_28) rfl (own_lcF hf29).1 k) ?_
      show own_Run p e below _ T31 (mkF m 31 #[.val (.long q1), .second, .val (.long q2), .second, .val (.long q3), .second, .val (.int p4), .val (.ref b24), .unset, .unset, .unset, .unset, .unset, .unset] [(.int (1 : Int32))])
      refine own_go (fun _ k => XS.iconst X31.here hx rfl (hb hby at_31) k) ?_
      refine own_go (fun _ k => XS.goto X31.here hx rfl (pc0 := 32) (pc' := 36) rfl (hb hby at_32) (by decide) (by decide) k) ?_
      show own_Run p e below _ T31 (mkF m 36 #[.val (.long q1), .second, .val (.long q2), .second, .val (.long q3), .second, .val (.int p4), .val (.ref b24), .unset, .unset, .unset, .unset, .unset, .unset] [(.int (1 : Int32)), (.int (1 : Int32))])
      refine own_go (fun _ k => XS.icmpNo X31.here hx rfl (hb hby at_36) rfl (teq (by decide : (1 : Int32) = (1 : Int32))).2 k) ?_
      show own_Run p e below _ T31 (mkF m 39 #[.val (.long q1), .second, .val (.long q2), .second, .val (.long q3), .second, .val (.int p4), .val (.ref b24), .unset, .unset, .unset, .unset, .unset, .unset] [])
      refine own_go (fun _ k => XS.iconst X31.here hx rfl (hb hby at_39) k) ?_
      refine own_go (fun _ k => XS.goto X31.here hx rfl (pc0 := 40) (pc' := 44) rfl (hb hby at_40) (by decide) (by decide) k) ?_
      show own_Run p e below _ T31 (mkF m 44 #[.val (.long q1), .second, .val (.long q2), .second, .val (.long q3), .second, .val (.int p4), .val (.ref b24), .unset, .unset, .unset, .unset, .unset, .unset] [(.int (1 : Int32))])
      refine own_done (Q := fun v h L => Q0 Z q1 q2 q3 p4 h0 n0 v h L) (v := (some (.int (1 : Int32)))) X31 (fun h => by rw [hret] at h; cases h) hlk (fun fs hr => retN X31 hx (t := .boolean) hret (by simp) (hb hby at_44) hr) ?_ (by decide) (by decide)
      show Q0 Z q1 q2 q3 p4 h0 n0 _ T31.heap _
      rw [e31]
      exact ⟨rfl, N31⟩
  · refine own_go (fun _ k => XS.ifYes X26.here hx rfl (pc0 := 14) (pc' := 45) rfl (hb hby at_14) rfl ((if0 _ _).trans (feq hc14_28).2) (by decide) (by decide) k) ?_
    show own_Run p e below _ T26 (mkF m 45 #[.val (.long q1), .second, .val (.long q2), .second, .val (.long q3), .second, .val (.int p4), .val (.ref b24), .unset, .unset, .unset, .unset, .unset, .unset] [])
    refine own_go (fun _ k => XS.lload X26.here hx rfl (hb hby at_45) rfl k) ?_
    show own_Run p e below _ T26 (mkF m 47 #[.val (.long q1), .second, .val (.long q2), .second, .val (.long q3), .second, .val (.int p4), .val (.ref b24), .unset, .unset, .unset, .unset, .unset, .unset] [(.long q3)])
    refine own_go (X26.ldc2Long hx hown (mvT hZ (W 20 rfl)) (g := (mkF m 47 #[.val (.long q1), .second, .val (.long q2), .second, .val (.long q3), .second, .val (.int p4), .val (.ref b24), .unset, .unset, .unset, .unset, .unset, .unset] [(.long q3)])) rfl (hb hby at_47)) ?_
    show own_Run p e below _ T26 (mkF m 50 #[.val (.long q1), .second, .val (.long q2), .second, .val (.long q3), .second, .val (.int p4), .val (.ref b24), .unset, .unset, .unset, .unset, .unset, .unset] [(.long (1073741823 : Int64)), (.long q3)])
    refine own_go (fun _ k => XS.land X26.here hx rfl (hb hby at_50) rfl k) ?_
    show own_Run p e below _ T26 (mkF m 51 #[.val (.long q1), .second, .val (.long q2), .second, .val (.long q3), .second, .val (.int p4), .val (.ref b24), .unset, .unset, .unset, .unset, .unset, .unset] [(.long (q3 &&& (1073741823 : Int64)))])
    obtain ⟨x8, hx8⟩ : ∃ z, z = (q3 &&& (1073741823 : Int64)) := ⟨_, rfl⟩
    rw [← hx8]
    show own_Run p e below _ T26 (mkF m 51 #[.val (.long q1), .second, .val (.long q2), .second, .val (.long q3), .second, .val (.int p4), .val (.ref b24), .unset, .unset, .unset, .unset, .unset, .unset] [(.long x8)])
    have hs8 := own_s q3 x8 hx8
    refine own_go (fun _ k => XS.lstore X26.here hx rfl (hb hby at_51) rfl (l' := #[.val (.long q1), .second, .val (.long q2), .second, .val (.long q3), .second, .val (.int p4), .val (.ref b24), .val (.long x8), .second, .unset, .unset, .unset, .unset]) rfl k) ?_
    show own_Run p e below _ T26 (mkF m 53 #[.val (.long q1), .second, .val (.long q2), .second, .val (.long q3), .second, .val (.int p4), .val (.ref b24), .val (.long x8), .second, .unset, .unset, .unset, .unset] [])
    refine own_go (X26.ldc2Long hx hown (mvT hZ (W 21 rfl)) (g := (mkF m 53 #[.val (.long q1), .second, .val (.long q2), .second, .val (.long q3), .second, .val (.int p4), .val (.ref b24), .val (.long x8), .second, .unset, .unset, .unset, .unset] [])) rfl (hb hby at_53)) ?_
    show own_Run p e below _ T26 (mkF m 56 #[.val (.long q1), .second, .val (.long q2), .second, .val (.long q3), .second, .val (.int p4), .val (.ref b24), .val (.long x8), .second, .unset, .unset, .unset, .unset] [(.long (30 : Int64))])
    refine own_go (fun _ k => XS.lload X26.here hx rfl (hb hby at_56) rfl k) ?_
    refine own_go (fun _ k => XS.lmul X26.here hx rfl (hb hby at_58) rfl k) ?_
    refine own_go (fun _ k => XS.lstore X26.here hx rfl (hb hby at_59) rfl (l' := #[.val (.long q1), .second, .val (.long q2), .second, .val (.long q3), .second, .val (.int p4), .val (.ref b24), .val (.long x8), .second, .val (.long ((30 : Int64) * x8)), .second, .unset, .unset]) rfl k) ?_
    refine own_go (fun _ k => XS.lload X26.here hx rfl (hb hby at_61) rfl k) ?_
    show own_Run p e below _ T26 (mkF m 63 #[.val (.long q1), .second, .val (.long q2), .second, .val (.long q3), .second, .val (.int p4), .val (.ref b24), .val (.long x8), .second, .val (.long ((30 : Int64) * x8)), .second, .unset, .unset] [(.long ((30 : Int64) * x8))])
    refine own_go (X26.ldc2Long hx hown (mvT hZ (W 22 rfl)) (g := (mkF m 63 #[.val (.long q1), .second, .val (.long q2), .second, .val (.long q3), .second, .val (.int p4), .val (.ref b24), .val (.long x8), .second, .val (.long ((30 : Int64) * x8)), .second, .unset, .unset] [(.long ((30 : Int64) * x8))])) rfl (hb hby at_63)) ?_
    show own_Run p e below _ T26 (mkF m 66 #[.val (.long q1), .second, .val (.long q2), .second, .val (.long q3), .second, .val (.int p4), .val (.ref b24), .val (.long x8), .second, .val (.long ((30 : Int64) * x8)), .second, .unset, .unset] [(.long (1000000000 : Int64)), (.long ((30 : Int64) * x8))])
    refine own_go (fun _ k => XS.lcmp X26.here hx rfl (hb hby at_66) rfl k) ?_
    show own_Run p e below _ T26 (mkF m 67 #[.val (.long q1), .second, .val (.long q2), .second, .val (.long q3), .second, .val (.int p4), .val (.ref b24), .val (.long x8), .second, .val (.long ((30 : Int64) * x8)), .second, .unset, .unset] [(.int (lcmpW ((30 : Int64) * x8) (1000000000 : Int64)))])
    by_cases hA : (1000000000 : Int64) < ((30 : Int64) * x8)
    · refine own_go (fun _ k => XS.ifNo X26.here hx rfl (hb hby at_67) rfl (own_lcT hA).2.2.2 k) ?_
      show own_Run p e below _ T26 (mkF m 70 #[.val (.long q1), .second, .val (.long q2), .second, .val (.long q3), .second, .val (.int p4), .val (.ref b24), .val (.long x8), .second, .val (.long ((30 : Int64) * x8)), .second, .unset, .unset] [])
      refine own_go (X26.ldc2Long hx hown (mvT hZ (W 22 rfl)) (g := (mkF m 70 #[.val (.long q1), .second, .val (.long q2), .second, .val (.long q3), .second, .val (.int p4), .val (.ref b24), .val (.long x8), .second, .val (.long ((30 : Int64) * x8)), .second, .unset, .unset] [])) rfl (hb hby at_70)) ?_
      show own_Run p e below _ T26 (mkF m 73 #[.val (.long q1), .second, .val (.long q2), .second, .val (.long q3), .second, .val (.int p4), .val (.ref b24), .val (.long x8), .second, .val (.long ((30 : Int64) * x8)), .second, .unset, .unset] [(.long (1000000000 : Int64))])
      refine own_go (fun _ k => XS.lstore X26.here hx rfl (hb hby at_73) rfl (l' := #[.val (.long q1), .second, .val (.long q2), .second, .val (.long q3), .second, .val (.int p4), .val (.ref b24), .val (.long x8), .second, .val (.long (1000000000 : Int64)), .second, .unset, .unset]) rfl k) ?_
      refine own_go (fun _ k => XS.lload X26.here hx rfl (hb hby at_75) rfl k) ?_
      show own_Run p e below _ T26 (mkF m 77 #[.val (.long q1), .second, .val (.long q2), .second, .val (.long q3), .second, .val (.int p4), .val (.ref b24), .val (.long x8), .second, .val (.long (1000000000 : Int64)), .second, .unset, .unset] [(.long (1000000000 : Int64))])
      refine own_go (X26.ldc2Long hx hown (mvT hZ (W 23 rfl)) (g := (mkF m 77 #[.val (.long q1), .second, .val (.long q2), .second, .val (.long q3), .second, .val (.int p4), .val (.ref b24), .val (.long x8), .second, .val (.long (1000000000 : Int64)), .second, .unset, .unset] [(.long (1000000000 : Int64))])) rfl (hb hby at_77)) ?_
      show own_Run p e below _ T26 (mkF m 80 #[.val (.long q1), .second, .val (.long q2), .second, .val (.long q3), .second, .val (.int p4), .val (.ref b24), .val (.long x8), .second, .val (.long (1000000000 : Int64)), .second, .unset, .unset] [(.long (10000000 : Int64)), (.long (1000000000 : Int64))])
      refine own_go (fun _ k => XS.lcmp X26.here hx rfl (hb hby at_80) rfl k) ?_
      show own_Run p e below _ T26 (mkF m 81 #[.val (.long q1), .second, .val (.long q2), .second, .val (.long q3), .second, .val (.int p4), .val (.ref b24), .val (.long x8), .second, .val (.long (1000000000 : Int64)), .second, .unset, .unset] [(.int (lcmpW (1000000000 : Int64) (10000000 : Int64)))])
      refine own_go (fun _ k => XS.ifYes X26.here hx rfl (pc0 := 81) (pc' := 89) rfl (hb hby at_81) rfl (own_lcF (by decide : ¬ ((1000000000 : Int64) < (10000000 : Int64)))).2.1 (by decide) (by decide) k) ?_
      show own_Run p e below _ T26 (mkF m 89 #[.val (.long q1), .second, .val (.long q2), .second, .val (.long q3), .second, .val (.int p4), .val (.ref b24), .val (.long x8), .second, .val (.long (1000000000 : Int64)), .second, .unset, .unset] [])
      refine own_go (fun _ k => XS.aload X26.here hx rfl (hb hby at_89) rfl rfl k) ?_
      refine own_go (fun _ k => XS.lloadN X26.here hx rfl (hb hby at_91) rfl k) ?_
      refine own_go (fun _ k => XS.lload X26.here hx rfl (hb hby at_92) rfl k) ?_
      show own_Run p e below _ T26 (mkF m 94 #[.val (.long q1), .second, .val (.long q2), .second, .val (.long q3), .second, .val (.int p4), .val (.ref b24), .val (.long x8), .second, .val (.long (1000000000 : Int64)), .second, .unset, .unset] [(.long x8), (.long q1), (.ref b24)])
      obtain ⟨cq32, kq32, q32a, q32b, q32c⟩ := isOf hZ rfl P26_0
      obtain ⟨_, _, ⟨T32, L32, k32, n32⟩, -, X32, ⟨Lc32, hQ32, l32, y32, z32⟩, st32⟩ := X26.virtualBack hx (y := (⟨"com/example/eventail/eventail/SpinPauses", "stalled", "(JJ)V"⟩ : MethodName)) (z := (⟨"com/example/eventail/eventail/SpinPauses", "stalled", "(JJ)V"⟩ : MethodName)) hown (mvT hZ (W 24 rfl)) (mvT hZ (W 25 rfl)) (notFace_of_selects (args := #[]) (mvT hZ (W 27 rfl))) (mvT hZ (W 27 rfl)) (mvT hZ (W 26 rfl)) (by decide) (backOf (W := 0) (rm4 l Z a0 hw [] b24 q1 x8 (.long q1) T26.heap n0 Z0_c27 P26_0 P26_1 P26_2 P26_3 g_b24 S_PAUSE_MAX_NANOS_c27) hZ (W 28 rfl) (W 2 rfl) (by decide) (by decide)) q32a q32c (g := (mkF m 94 #[.val (.long q1), .second, .val (.long q2), .second, .val (.long q3), .second, .val (.int p4), .val (.ref b24), .val (.long x8), .second, .val (.long (1000000000 : Int64)), .second, .unset, .unset] [(.long x8), (.long q1), (.ref b24)])) rfl (by rw [hml]; rfl) (Steps.refl _) (argsL := [(.long q1), (.long x8)]) (rest := []) (lenOf pd_4 rfl) rfl (by show 2 * 0 + _ ≤ _; exact Nat.le_of_eq rfl) (hb hby at_94) (fun _ _ => ⟨rfl, rfl, (by decide : 1 + 0 ≤ _), (by decide : 3 + 0 ≤ _)⟩)
      dsimp only [Pt.U, Pt.locs, Pt.cells, Pt.slots] at X32 l32 y32 z32 st32 hQ32
      subst l32 y32 z32
      obtain ⟨rfl, N32q, K32, P32_0, P32_1⟩ := hQ32
      have N32 := Fr.app N26 N32q
      refine own_goT st32 ?_
      show own_Run p e below _ T32 (mkF m 97 #[.val (.long q1), .second, .val (.long q2), .second, .val (.long q3), .second, .val (.int p4), .val (.ref b24), .val (.long x8), .second, .val (.long (1000000000 : Int64)), .second, .unset, .unset] [])
      have Z0_c33 := Nat.le_trans Z0_c27 K32.1
      have K0_c33 := K0_c27.trans K32 (allS (Or.inr sz_b24) all0)
      have S_PAUSE_NANOS_c33 := own_staKeep S_PAUSE_NANOS_c27 K32 (allS (own_ns P26_0) all0)
      have S_PAUSE_MAX_NANOS_c33 := own_staKeep S_PAUSE_MAX_NANOS_c27 K32 (allS (own_ns P26_0) all0)
      have P26_0_c33 := P26_0.keep K32
      refine own_go (fun _ k => XS.lloadN X32.here hx rfl (hb hby at_97) rfl k) ?_
      refine own_go (fun _ k => XS.iconst X32.here hx rfl (hb hby at_98) k) ?_
      refine own_go (fun _ k => XS.lshr X32.here hx rfl (hb hby at_99) rfl k) ?_
      show own_Run p e below _ T32 (mkF m 100 #[.val (.long q1), .second, .val (.long q2), .second, .val (.long q3), .second, .val (.int p4), .val (.ref b24), .val (.long x8), .second, .val (.long (1000000000 : Int64)), .second, .unset, .unset] [(.long (q2 >>> ((2 : Int32) &&& 0x3f).toInt64))])
      obtain ⟨x12, hx12⟩ : ∃ z, z = (q2 >>> ((2 : Int32) &&& 0x3f).toInt64) := ⟨_, rfl⟩
      rw [← hx12]
      show own_Run p e below _ T32 (mkF m 100 #[.val (.long q1), .second, .val (.long q2), .second, .val (.long q3), .second, .val (.int p4), .val (.ref b24), .val (.long x8), .second, .val (.long (1000000000 : Int64)), .second, .unset, .unset] [(.long x12)])
      refine own_go (fun _ k => XS.lstore X32.here hx rfl (hb hby at_100) rfl (l' := #[.val (.long q1), .second, .val (.long q2), .second, .val (.long q3), .second, .val (.int p4), .val (.ref b24), .val (.long x8), .second, .val (.long (1000000000 : Int64)), .second, .val (.long x12), .second]) rfl k) ?_
      refine own_go (fun _ k => XS.aload X32.here hx rfl (hb hby at_102) rfl rfl k) ?_
      refine own_go (fun _ k => XS.lloadN X32.here hx rfl (hb hby at_104) rfl k) ?_
      refine own_go (fun _ k => XS.lload X32.here hx rfl (hb hby at_105) rfl k) ?_
      show own_Run p e below _ T32 (mkF m 107 #[.val (.long q1), .second, .val (.long q2), .second, .val (.long q3), .second, .val (.int p4), .val (.ref b24), .val (.long x8), .second, .val (.long (1000000000 : Int64)), .second, .val (.long x12), .second] [(.long x12), (.long q1), (.ref b24)])
      refine own_go (fun _ k => XS.ladd X32.here hx rfl (hb hby at_107) rfl k) ?_
      show own_Run p e below _ T32 (mkF m 108 #[.val (.long q1), .second, .val (.long q2), .second, .val (.long q3), .second, .val (.int p4), .val (.ref b24), .val (.long x8), .second, .val (.long (1000000000 : Int64)), .second, .val (.long x12), .second] [(.long (q1 + x12)), (.ref b24)])
      have hM := own_p1 _ hA
      rw [hM] at P32_1
      have hq := own_cmp q1 x12 (1000000000 : Int64) q2 hx12 (by decide) (by decide)
      by_cases hf34 : x12 < (1000000000 : Int64)
      · obtain ⟨cq35, kq35, q35a, q35b, q35c⟩ := isOf hZ rfl P32_0
        obtain ⟨_, _, ⟨T35, L35, k35, n35⟩, -, X35, ⟨Lc35, hQ35, l35, y35, z35⟩, st35⟩ := X32.virtualBack hx (y := (⟨"com/example/eventail/eventail/SpinPauses", "allowSpinAt", "(J)Z"⟩ : MethodName)) (z := (⟨"com/example/eventail/eventail/SpinPauses", "allowSpinAt", "(J)Z"⟩ : MethodName)) hown (mvT hZ (W 15 rfl)) (mvT hZ (W 16 rfl)) (notFace_of_selects (args := #[]) (mvT hZ (W 18 rfl))) (mvT hZ (W 18 rfl)) (mvT hZ (W 17 rfl)) (by decide) (backOf (W := 0) (rm3 l Z a0 hw [] b24 (q1 + x12) (q1 + (1000000000 : Int64)) (0 : Int32) T32.heap n0 Z0_c33 P32_1 (Or.inl ⟨hq.mpr hf34, rfl⟩)) hZ (W 19 rfl) (W 2 rfl) (by decide) (by decide)) q35a q35c (g := (mkF m 108 #[.val (.long q1), .second, .val (.long q2), .second, .val (.long q3), .second, .val (.int p4), .val (.ref b24), .val (.long x8), .second, .val (.long (1000000000 : Int64)), .second, .val (.long x12), .second] [(.long (q1 + x12)), (.ref b24)])) rfl (by rw [hml]; rfl) (Steps.refl _) (argsL := [(.long (q1 + x12))]) (rest := []) (lenOf pd_3 rfl) rfl (by show 2 * 0 + _ ≤ _; exact Nat.le_of_eq rfl) (hb hby at_108) (fun _ _ => ⟨rfl, rfl, (by decide : 1 + 0 ≤ _), (by decide : 3 + 0 ≤ _)⟩)
        dsimp only [Pt.U, Pt.locs, Pt.cells, Pt.slots] at X35 l35 y35 z35 st35 hQ35
        subst l35 y35 z35
        obtain ⟨rfl, N35q, e35⟩ := hQ35
        have N35 := Fr.app N32 N35q
        refine own_goT st35 ?_
        show own_Run p e below _ T35 (mkF m 111 #[.val (.long q1), .second, .val (.long q2), .second, .val (.long q3), .second, .val (.int p4), .val (.ref b24), .val (.long x8), .second, .val (.long (1000000000 : Int64)), .second, .val (.long x12), .second] [(.int (0 : Int32))])
        refine own_go (fun _ k => XS.lload X35.here hx rfl (hb hby at_111) rfl k) ?_
        refine own_go (fun _ k => XS.lload X35.here hx rfl (hb hby at_113) rfl k) ?_
        refine own_go (fun _ k => XS.lcmp X35.here hx rfl (hb hby at_115) rfl k) ?_
        show own_Run p e below _ T35 (mkF m 116 #[.val (.long q1), .second, .val (.long q2), .second, .val (.long q3), .second, .val (.int p4), .val (.ref b24), .val (.long x8), .second, .val (.long (1000000000 : Int64)), .second, .val (.long x12), .second] [(.int (lcmpW x12 (1000000000 : Int64))), (.int (0 : Int32))])
        refine own_go (fun _ k => XS.ifYes X35.here hx rfl (pc0 := 116) (pc' := 123) rfl (hb hby at_116) rfl (own_lcT hf34).1 (by decide) (by decide) k) ?_
        show own_Run p e below _ T35 (mkF m 123 #[.val (.long q1), .second, .val (.long q2), .second, .val (.long q3), .second, .val (.int p4), .val (.ref b24), .val (.long x8), .second, .val (.long (1000000000 : Int64)), .second, .val (.long x12), .second] [(.int (0 : Int32))])
        refine own_go (fun _ k => XS.iconst X35.here hx rfl (hb hby at_123) k) ?_
        show own_Run p e below _ T35 (mkF m 124 #[.val (.long q1), .second, .val (.long q2), .second, .val (.long q3), .second, .val (.int p4), .val (.ref b24), .val (.long x8), .second, .val (.long (1000000000 : Int64)), .second, .val (.long x12), .second] [(.int (0 : Int32)), (.int (0 : Int32))])
        refine own_go (fun _ k => XS.icmpNo X35.here hx rfl (hb hby at_124) rfl (teq (by decide : (0 : Int32) = (0 : Int32))).2 k) ?_
        show own_Run p e below _ T35 (mkF m 127 #[.val (.long q1), .second, .val (.long q2), .second, .val (.long q3), .second, .val (.int p4), .val (.ref b24), .val (.long x8), .second, .val (.long (1000000000 : Int64)), .second, .val (.long x12), .second] [])
        refine own_go (fun _ k => XS.iconst X35.here hx rfl (hb hby at_127) k) ?_
        refine own_go (fun _ k => XS.goto X35.here hx rfl (pc0 := 128) (pc' := 132) rfl (hb hby at_128) (by decide) (by decide) k) ?_
        show own_Run p e below _ T35 (mkF m 132 #[.val (.long q1), .second, .val (.long q2), .second, .val (.long q3), .second, .val (.int p4), .val (.ref b24), .val (.long x8), .second, .val (.long (1000000000 : Int64)), .second, .val (.long x12), .second] [(.int (1 : Int32))])
        refine own_done (Q := fun v h L => Q0 Z q1 q2 q3 p4 h0 n0 v h L) (v := (some (.int (1 : Int32)))) X35 (fun h => by rw [hret] at h; cases h) hlk (fun fs hr => retN X35 hx (t := .boolean) hret (by simp) (hb hby at_132) hr) ?_ (by decide) (by decide)
        show Q0 Z q1 q2 q3 p4 h0 n0 _ T35.heap _
        rw [e35]
        exact ⟨rfl, N35⟩
      · obtain ⟨cq36, kq36, q36a, q36b, q36c⟩ := isOf hZ rfl P32_0
        obtain ⟨_, _, ⟨T36, L36, k36, n36⟩, -, X36, ⟨Lc36, hQ36, l36, y36, z36⟩, st36⟩ := X32.virtualBack hx (y := (⟨"com/example/eventail/eventail/SpinPauses", "allowSpinAt", "(J)Z"⟩ : MethodName)) (z := (⟨"com/example/eventail/eventail/SpinPauses", "allowSpinAt", "(J)Z"⟩ : MethodName)) hown (mvT hZ (W 15 rfl)) (mvT hZ (W 16 rfl)) (notFace_of_selects (args := #[]) (mvT hZ (W 18 rfl))) (mvT hZ (W 18 rfl)) (mvT hZ (W 17 rfl)) (by decide) (backOf (W := 0) (rm3 l Z a0 hw [] b24 (q1 + x12) (q1 + (1000000000 : Int64)) (1 : Int32) T32.heap n0 Z0_c33 P32_1 (Or.inr ⟨(fun k => hf34 (hq.mp k)), rfl⟩)) hZ (W 19 rfl) (W 2 rfl) (by decide) (by decide)) q36a q36c (g := (mkF m 108 #[.val (.long q1), .second, .val (.long q2), .second, .val (.long q3), .second, .val (.int p4), .val (.ref b24), .val (.long x8), .second, .val (.long (1000000000 : Int64)), .second, .val (.long x12), .second] [(.long (q1 + x12)), (.ref b24)])) rfl (by rw [hml]; rfl) (Steps.refl _) (argsL := [(.long (q1 + x12))]) (rest := []) (lenOf pd_3 rfl) rfl (by show 2 * 0 + _ ≤ _; exact Nat.le_of_eq rfl) (hb hby at_108) (fun _ _ => ⟨rfl, rfl, (by decide : 1 + 0 ≤ _), (by decide : 3 + 0 ≤ _)⟩)
        dsimp only [Pt.U, Pt.locs, Pt.cells, Pt.slots] at X36 l36 y36 z36 st36 hQ36
        subst l36 y36 z36
        obtain ⟨rfl, N36q, e36⟩ := hQ36
        have N36 := Fr.app N32 N36q
        refine own_goT st36 ?_
        show own_Run p e below _ T36 (mkF m 111 #[.val (.long q1), .second, .val (.long q2), .second, .val (.long q3), .second, .val (.int p4), .val (.ref b24), .val (.long x8), .second, .val (.long (1000000000 : Int64)), .second, .val (.long x12), .second] [(.int (1 : Int32))])
        refine own_go (fun _ k => XS.lload X36.here hx rfl (hb hby at_111) rfl k) ?_
        refine own_go (fun _ k => XS.lload X36.here hx rfl (hb hby at_113) rfl k) ?_
        refine own_go (fun _ k => XS.lcmp X36.here hx rfl (hb hby at_115) rfl k) ?_
        show own_Run p e below _ T36 (mkF m 116 #[.val (.long q1), .second, .val (.long q2), .second, .val (.long q3), .second, .val (.int p4), .val (.ref b24), .val (.long x8), .second, .val (.long (1000000000 : Int64)), .second, .val (.long x12), .second] [(.int (lcmpW x12 (1000000000 : Int64))), (.int (1 : Int32))])
        refine own_go (fun _ k => XS.ifNo X36.here hx rfl (hb hby at_116) rfl (own_lcF hf34).1 k) ?_
        show own_Run p e below _ T36 (mkF m 119 #[.val (.long q1), .second, .val (.long q2), .second, .val (.long q3), .second, .val (.int p4), .val (.ref b24), .val (.long x8), .second, .val (.long (1000000000 : Int64)), .second, .val (.long x12), .second] [(.int (1 : Int32))])
        refine own_go (fun _ k => XS.iconst X36.here hx rfl (hb hby at_119) k) ?_
        refine own_go (fun _ k => XS.goto X36.here hx rfl (pc0 := 120) (pc' := 124) rfl (hb hby at_120) (by decide) (by decide) k) ?_
        show own_Run p e below _ T36 (mkF m 124 #[.val (.long q1), .second, .val (.long q2), .second, .val (.long q3), .second, .val (.int p4), .val (.ref b24), .val (.long x8), .second, .val (.long (1000000000 : Int64)), .second, .val (.long x12), .second] [(.int (1 : Int32)), (.int (1 : Int32))])
        refine own_go (fun _ k => XS.icmpNo X36.here hx rfl (hb hby at_124) rfl (teq (by decide : (1 : Int32) = (1 : Int32))).2 k) ?_
        show own_Run p e below _ T36 (mkF m 127 #[.val (.long q1), .second, .val (.long q2), .second, .val (.long q3), .second, .val (.int p4), .val (.ref b24), .val (.long x8), .second, .val (.long (1000000000 : Int64)), .second, .val (.long x12), .second] [])
        refine own_go (fun _ k => XS.iconst X36.here hx rfl (hb hby at_127) k) ?_
        refine own_go (fun _ k => XS.goto X36.here hx rfl (pc0 := 128) (pc' := 132) rfl (hb hby at_128) (by decide) (by decide) k) ?_
        show own_Run p e below _ T36 (mkF m 132 #[.val (.long q1), .second, .val (.long q2), .second, .val (.long q3), .second, .val (.int p4), .val (.ref b24), .val (.long x8), .second, .val (.long (1000000000 : Int64)), .second, .val (.long x12), .second] [(.int (1 : Int32))])
        refine own_done (Q := fun v h L => Q0 Z q1 q2 q3 p4 h0 n0 v h L) (v := (some (.int (1 : Int32)))) X36 (fun h => by rw [hret] at h; cases h) hlk (fun fs hr => retN X36 hx (t := .boolean) hret (by simp) (hb hby at_132) hr) ?_ (by decide) (by decide)
        show Q0 Z q1 q2 q3 p4 h0 n0 _ T36.heap _
        rw [e36]
        exact ⟨rfl, N36⟩
    · refine own_go (fun _ k => XS.ifYes X26.here hx rfl (pc0 := 67) (pc' := 75) rfl (hb hby at_67) rfl (own_lcF hA).2.2.2 (by decide) (by decide) k) ?_
      show own_Run p e below _ T26 (mkF m 75 #[.val (.long q1), .second, .val (.long q2), .second, .val (.long q3), .second, .val (.int p4), .val (.ref b24), .val (.long x8), .second, .val (.long ((30 : Int64) * x8)), .second, .unset, .unset] [])
      refine own_go (fun _ k => XS.lload X26.here hx rfl (hb hby at_75) rfl k) ?_
      show own_Run p e below _ T26 (mkF m 77 #[.val (.long q1), .second, .val (.long q2), .second, .val (.long q3), .second, .val (.int p4), .val (.ref b24), .val (.long x8), .second, .val (.long ((30 : Int64) * x8)), .second, .unset, .unset] [(.long ((30 : Int64) * x8))])
      refine own_go (X26.ldc2Long hx hown (mvT hZ (W 23 rfl)) (g := (mkF m 77 #[.val (.long q1), .second, .val (.long q2), .second, .val (.long q3), .second, .val (.int p4), .val (.ref b24), .val (.long x8), .second, .val (.long ((30 : Int64) * x8)), .second, .unset, .unset] [(.long ((30 : Int64) * x8))])) rfl (hb hby at_77)) ?_
      show own_Run p e below _ T26 (mkF m 80 #[.val (.long q1), .second, .val (.long q2), .second, .val (.long q3), .second, .val (.int p4), .val (.ref b24), .val (.long x8), .second, .val (.long ((30 : Int64) * x8)), .second, .unset, .unset] [(.long (10000000 : Int64)), (.long ((30 : Int64) * x8))])
      refine own_go (fun _ k => XS.lcmp X26.here hx rfl (hb hby at_80) rfl k) ?_
      show own_Run p e below _ T26 (mkF m 81 #[.val (.long q1), .second, .val (.long q2), .second, .val (.long q3), .second, .val (.int p4), .val (.ref b24), .val (.long x8), .second, .val (.long ((30 : Int64) * x8)), .second, .unset, .unset] [(.int (lcmpW ((30 : Int64) * x8) (10000000 : Int64)))])
      by_cases hB : ((30 : Int64) * x8) < (10000000 : Int64)
      · refine own_go (fun _ k => XS.ifNo X26.here hx rfl (hb hby at_81) rfl (own_lcT hB).2.1 k) ?_
        show own_Run p e below _ T26 (mkF m 84 #[.val (.long q1), .second, .val (.long q2), .second, .val (.long q3), .second, .val (.int p4), .val (.ref b24), .val (.long x8), .second, .val (.long ((30 : Int64) * x8)), .second, .unset, .unset] [])
        refine own_go (X26.ldc2Long hx hown (mvT hZ (W 23 rfl)) (g := (mkF m 84 #[.val (.long q1), .second, .val (.long q2), .second, .val (.long q3), .second, .val (.int p4), .val (.ref b24), .val (.long x8), .second, .val (.long ((30 : Int64) * x8)), .second, .unset, .unset] [])) rfl (hb hby at_84)) ?_
        show own_Run p e below _ T26 (mkF m 87 #[.val (.long q1), .second, .val (.long q2), .second, .val (.long q3), .second, .val (.int p4), .val (.ref b24), .val (.long x8), .second, .val (.long ((30 : Int64) * x8)), .second, .unset, .unset] [(.long (10000000 : Int64))])
        refine own_go (fun _ k => XS.lstore X26.here hx rfl (hb hby at_87) rfl (l' := #[.val (.long q1), .second, .val (.long q2), .second, .val (.long q3), .second, .val (.int p4), .val (.ref b24), .val (.long x8), .second, .val (.long (10000000 : Int64)), .second, .unset, .unset]) rfl k) ?_
        refine own_go (fun _ k => XS.aload X26.here hx rfl (hb hby at_89) rfl rfl k) ?_
        refine own_go (fun _ k => XS.lloadN X26.here hx rfl (hb hby at_91) rfl k) ?_
        refine own_go (fun _ k => XS.lload X26.here hx rfl (hb hby at_92) rfl k) ?_
        show own_Run p e below _ T26 (mkF m 94 #[.val (.long q1), .second, .val (.long q2), .second, .val (.long q3), .second, .val (.int p4), .val (.ref b24), .val (.long x8), .second, .val (.long (10000000 : Int64)), .second, .unset, .unset] [(.long x8), (.long q1), (.ref b24)])
        obtain ⟨cq37, kq37, q37a, q37b, q37c⟩ := isOf hZ rfl P26_0
        obtain ⟨_, _, ⟨T37, L37, k37, n37⟩, -, X37, ⟨Lc37, hQ37, l37, y37, z37⟩, st37⟩ := X26.virtualBack hx (y := (⟨"com/example/eventail/eventail/SpinPauses", "stalled", "(JJ)V"⟩ : MethodName)) (z := (⟨"com/example/eventail/eventail/SpinPauses", "stalled", "(JJ)V"⟩ : MethodName)) hown (mvT hZ (W 24 rfl)) (mvT hZ (W 25 rfl)) (notFace_of_selects (args := #[]) (mvT hZ (W 27 rfl))) (mvT hZ (W 27 rfl)) (mvT hZ (W 26 rfl)) (by decide) (backOf (W := 0) (rm4 l Z a0 hw [] b24 q1 x8 (.long q1) T26.heap n0 Z0_c27 P26_0 P26_1 P26_2 P26_3 g_b24 S_PAUSE_MAX_NANOS_c27) hZ (W 28 rfl) (W 2 rfl) (by decide) (by decide)) q37a q37c (g := (mkF m 94 #[.val (.long q1), .second, .val (.long q2), .second, .val (.long q3), .second, .val (.int p4), .val (.ref b24), .val (.long x8), .second, .val (.long (10000000 : Int64)), .second, .unset, .unset] [(.long x8), (.long q1), (.ref b24)])) rfl (by rw [hml]; rfl) (Steps.refl _) (argsL := [(.long q1), (.long x8)]) (rest := []) (lenOf pd_4 rfl) rfl (by show 2 * 0 + _ ≤ _; exact Nat.le_of_eq rfl) (hb hby at_94) (fun _ _ => ⟨rfl, rfl, (by decide : 1 + 0 ≤ _), (by decide : 3 + 0 ≤ _)⟩)
        dsimp only [Pt.U, Pt.locs, Pt.cells, Pt.slots] at X37 l37 y37 z37 st37 hQ37
        subst l37 y37 z37
        obtain ⟨rfl, N37q, K37, P37_0, P37_1⟩ := hQ37
        have N37 := Fr.app N26 N37q
        refine own_goT st37 ?_
        show own_Run p e below _ T37 (mkF m 97 #[.val (.long q1), .second, .val (.long q2), .second, .val (.long q3), .second, .val (.int p4), .val (.ref b24), .val (.long x8), .second, .val (.long (10000000 : Int64)), .second, .unset, .unset] [])
        have Z0_c38 := Nat.le_trans Z0_c27 K37.1
        have K0_c38 := K0_c27.trans K37 (allS (Or.inr sz_b24) all0)
        have S_PAUSE_NANOS_c38 := own_staKeep S_PAUSE_NANOS_c27 K37 (allS (own_ns P26_0) all0)
        have S_PAUSE_MAX_NANOS_c38 := own_staKeep S_PAUSE_MAX_NANOS_c27 K37 (allS (own_ns P26_0) all0)
        have P26_0_c38 := P26_0.keep K37
        refine own_go (fun _ k => XS.lloadN X37.here hx rfl (hb hby at_97) rfl k) ?_
        refine own_go (fun _ k => XS.iconst X37.here hx rfl (hb hby at_98) k) ?_
        refine own_go (fun _ k => XS.lshr X37.here hx rfl (hb hby at_99) rfl k) ?_
        show own_Run p e below _ T37 (mkF m 100 #[.val (.long q1), .second, .val (.long q2), .second, .val (.long q3), .second, .val (.int p4), .val (.ref b24), .val (.long x8), .second, .val (.long (10000000 : Int64)), .second, .unset, .unset] [(.long (q2 >>> ((2 : Int32) &&& 0x3f).toInt64))])
        obtain ⟨x12, hx12⟩ : ∃ z, z = (q2 >>> ((2 : Int32) &&& 0x3f).toInt64) := ⟨_, rfl⟩
        rw [← hx12]
        show own_Run p e below _ T37 (mkF m 100 #[.val (.long q1), .second, .val (.long q2), .second, .val (.long q3), .second, .val (.int p4), .val (.ref b24), .val (.long x8), .second, .val (.long (10000000 : Int64)), .second, .unset, .unset] [(.long x12)])
        refine own_go (fun _ k => XS.lstore X37.here hx rfl (hb hby at_100) rfl (l' := #[.val (.long q1), .second, .val (.long q2), .second, .val (.long q3), .second, .val (.int p4), .val (.ref b24), .val (.long x8), .second, .val (.long (10000000 : Int64)), .second, .val (.long x12), .second]) rfl k) ?_
        refine own_go (fun _ k => XS.aload X37.here hx rfl (hb hby at_102) rfl rfl k) ?_
        refine own_go (fun _ k => XS.lloadN X37.here hx rfl (hb hby at_104) rfl k) ?_
        refine own_go (fun _ k => XS.lload X37.here hx rfl (hb hby at_105) rfl k) ?_
        show own_Run p e below _ T37 (mkF m 107 #[.val (.long q1), .second, .val (.long q2), .second, .val (.long q3), .second, .val (.int p4), .val (.ref b24), .val (.long x8), .second, .val (.long (10000000 : Int64)), .second, .val (.long x12), .second] [(.long x12), (.long q1), (.ref b24)])
        refine own_go (fun _ k => XS.ladd X37.here hx rfl (hb hby at_107) rfl k) ?_
        show own_Run p e below _ T37 (mkF m 108 #[.val (.long q1), .second, .val (.long q2), .second, .val (.long q3), .second, .val (.int p4), .val (.ref b24), .val (.long x8), .second, .val (.long (10000000 : Int64)), .second, .val (.long x12), .second] [(.long (q1 + x12)), (.ref b24)])
        have hM := own_p2 _ hA hB
        rw [hM] at P37_1
        have hq := own_cmp q1 x12 (10000000 : Int64) q2 hx12 (by decide) (by decide)
        by_cases hf39 : x12 < (10000000 : Int64)
        · obtain ⟨cq40, kq40, q40a, q40b, q40c⟩ := isOf hZ rfl P37_0
          obtain ⟨_, _, ⟨T40, L40, k40, n40⟩, -, X40, ⟨Lc40, hQ40, l40, y40, z40⟩, st40⟩ := X37.virtualBack hx (y := (⟨"com/example/eventail/eventail/SpinPauses", "allowSpinAt", "(J)Z"⟩ : MethodName)) (z := (⟨"com/example/eventail/eventail/SpinPauses", "allowSpinAt", "(J)Z"⟩ : MethodName)) hown (mvT hZ (W 15 rfl)) (mvT hZ (W 16 rfl)) (notFace_of_selects (args := #[]) (mvT hZ (W 18 rfl))) (mvT hZ (W 18 rfl)) (mvT hZ (W 17 rfl)) (by decide) (backOf (W := 0) (rm3 l Z a0 hw [] b24 (q1 + x12) (q1 + (10000000 : Int64)) (0 : Int32) T37.heap n0 Z0_c38 P37_1 (Or.inl ⟨hq.mpr hf39, rfl⟩)) hZ (W 19 rfl) (W 2 rfl) (by decide) (by decide)) q40a q40c (g := (mkF m 108 #[.val (.long q1), .second, .val (.long q2), .second, .val (.long q3), .second, .val (.int p4), .val (.ref b24), .val (.long x8), .second, .val (.long (10000000 : Int64)), .second, .val (.long x12), .second] [(.long (q1 + x12)), (.ref b24)])) rfl (by rw [hml]; rfl) (Steps.refl _) (argsL := [(.long (q1 + x12))]) (rest := []) (lenOf pd_3 rfl) rfl (by show 2 * 0 + _ ≤ _; exact Nat.le_of_eq rfl) (hb hby at_108) (fun _ _ => ⟨rfl, rfl, (by decide : 1 + 0 ≤ _), (by decide : 3 + 0 ≤ _)⟩)
          dsimp only [Pt.U, Pt.locs, Pt.cells, Pt.slots] at X40 l40 y40 z40 st40 hQ40
          subst l40 y40 z40
          obtain ⟨rfl, N40q, e40⟩ := hQ40
          have N40 := Fr.app N37 N40q
          refine own_goT st40 ?_
          show own_Run p e below _ T40 (mkF m 111 #[.val (.long q1), .second, .val (.long q2), .second, .val (.long q3), .second, .val (.int p4), .val (.ref b24), .val (.long x8), .second, .val (.long (10000000 : Int64)), .second, .val (.long x12), .second] [(.int (0 : Int32))])
          refine own_go (fun _ k => XS.lload X40.here hx rfl (hb hby at_111) rfl k) ?_
          refine own_go (fun _ k => XS.lload X40.here hx rfl (hb hby at_113) rfl k) ?_
          refine own_go (fun _ k => XS.lcmp X40.here hx rfl (hb hby at_115) rfl k) ?_
          show own_Run p e below _ T40 (mkF m 116 #[.val (.long q1), .second, .val (.long q2), .second, .val (.long q3), .second, .val (.int p4), .val (.ref b24), .val (.long x8), .second, .val (.long (10000000 : Int64)), .second, .val (.long x12), .second] [(.int (lcmpW x12 (10000000 : Int64))), (.int (0 : Int32))])
          refine own_go (fun _ k => XS.ifYes X40.here hx rfl (pc0 := 116) (pc' := 123) rfl (hb hby at_116) rfl (own_lcT hf39).1 (by decide) (by decide) k) ?_
          show own_Run p e below _ T40 (mkF m 123 #[.val (.long q1), .second, .val (.long q2), .second, .val (.long q3), .second, .val (.int p4), .val (.ref b24), .val (.long x8), .second, .val (.long (10000000 : Int64)), .second, .val (.long x12), .second] [(.int (0 : Int32))])
          refine own_go (fun _ k => XS.iconst X40.here hx rfl (hb hby at_123) k) ?_
          show own_Run p e below _ T40 (mkF m 124 #[.val (.long q1), .second, .val (.long q2), .second, .val (.long q3), .second, .val (.int p4), .val (.ref b24), .val (.long x8), .second, .val (.long (10000000 : Int64)), .second, .val (.long x12), .second] [(.int (0 : Int32)), (.int (0 : Int32))])
          refine own_go (fun _ k => XS.icmpNo X40.here hx rfl (hb hby at_124) rfl (teq (by decide : (0 : Int32) = (0 : Int32))).2 k) ?_
          show own_Run p e below _ T40 (mkF m 127 #[.val (.long q1), .second, .val (.long q2), .second, .val (.long q3), .second, .val (.int p4), .val (.ref b24), .val (.long x8), .second, .val (.long (10000000 : Int64)), .second, .val (.long x12), .second] [])
          refine own_go (fun _ k => XS.iconst X40.here hx rfl (hb hby at_127) k) ?_
          refine own_go (fun _ k => XS.goto X40.here hx rfl (pc0 := 128) (pc' := 132) rfl (hb hby at_128) (by decide) (by decide) k) ?_
          show own_Run p e below _ T40 (mkF m 132 #[.val (.long q1), .second, .val (.long q2), .second, .val (.long q3), .second, .val (.int p4), .val (.ref b24), .val (.long x8), .second, .val (.long (10000000 : Int64)), .second, .val (.long x12), .second] [(.int (1 : Int32))])
          refine own_done (Q := fun v h L => Q0 Z q1 q2 q3 p4 h0 n0 v h L) (v := (some (.int (1 : Int32)))) X40 (fun h => by rw [hret] at h; cases h) hlk (fun fs hr => retN X40 hx (t := .boolean) hret (by simp) (hb hby at_132) hr) ?_ (by decide) (by decide)
          show Q0 Z q1 q2 q3 p4 h0 n0 _ T40.heap _
          rw [e40]
          exact ⟨rfl, N40⟩
        · obtain ⟨cq41, kq41, q41a, q41b, q41c⟩ := isOf hZ rfl P37_0
          obtain ⟨_, _, ⟨T41, L41, k41, n41⟩, -, X41, ⟨Lc41, hQ41, l41, y41, z41⟩, st41⟩ := X37.virtualBack hx (y := (⟨"com/example/eventail/eventail/SpinPauses", "allowSpinAt", "(J)Z"⟩ : MethodName)) (z := (⟨"com/example/eventail/eventail/SpinPauses", "allowSpinAt", "(J)Z"⟩ : MethodName)) hown (mvT hZ (W 15 rfl)) (mvT hZ (W 16 rfl)) (notFace_of_selects (args := #[]) (mvT hZ (W 18 rfl))) (mvT hZ (W 18 rfl)) (mvT hZ (W 17 rfl)) (by decide) (backOf (W := 0) (rm3 l Z a0 hw [] b24 (q1 + x12) (q1 + (10000000 : Int64)) (1 : Int32) T37.heap n0 Z0_c38 P37_1 (Or.inr ⟨(fun k => hf39 (hq.mp k)), rfl⟩)) hZ (W 19 rfl) (W 2 rfl) (by decide) (by decide)) q41a q41c (g := (mkF m 108 #[.val (.long q1), .second, .val (.long q2), .second, .val (.long q3), .second, .val (.int p4), .val (.ref b24), .val (.long x8), .second, .val (.long (10000000 : Int64)), .second, .val (.long x12), .second] [(.long (q1 + x12)), (.ref b24)])) rfl (by rw [hml]; rfl) (Steps.refl _) (argsL := [(.long (q1 + x12))]) (rest := []) (lenOf pd_3 rfl) rfl (by show 2 * 0 + _ ≤ _; exact Nat.le_of_eq rfl) (hb hby at_108) (fun _ _ => ⟨rfl, rfl, (by decide : 1 + 0 ≤ _), (by decide : 3 + 0 ≤ _)⟩)
          dsimp only [Pt.U, Pt.locs, Pt.cells, Pt.slots] at X41 l41 y41 z41 st41 hQ41
          subst l41 y41 z41
          obtain ⟨rfl, N41q, e41⟩ := hQ41
          have N41 := Fr.app N37 N41q
          refine own_goT st41 ?_
          show own_Run p e below _ T41 (mkF m 111 #[.val (.long q1), .second, .val (.long q2), .second, .val (.long q3), .second, .val (.int p4), .val (.ref b24), .val (.long x8), .second, .val (.long (10000000 : Int64)), .second, .val (.long x12), .second] [(.int (1 : Int32))])
          refine own_go (fun _ k => XS.lload X41.here hx rfl (hb hby at_111) rfl k) ?_
          refine own_go (fun _ k => XS.lload X41.here hx rfl (hb hby at_113) rfl k) ?_
          refine own_go (fun _ k => XS.lcmp X41.here hx rfl (hb hby at_115) rfl k) ?_
          show own_Run p e below _ T41 (mkF m 116 #[.val (.long q1), .second, .val (.long q2), .second, .val (.long q3), .second, .val (.int p4), .val (.ref b24), .val (.long x8), .second, .val (.long (10000000 : Int64)), .second, .val (.long x12), .second] [(.int (lcmpW x12 (10000000 : Int64))), (.int (1 : Int32))])
          refine own_go (fun _ k => XS.ifNo X41.here hx rfl (hb hby at_116) rfl (own_lcF hf39).1 k) ?_
          show own_Run p e below _ T41 (mkF m 119 #[.val (.long q1), .second, .val (.long q2), .second, .val (.long q3), .second, .val (.int p4), .val (.ref b24), .val (.long x8), .second, .val (.long (10000000 : Int64)), .second, .val (.long x12), .second] [(.int (1 : Int32))])
          refine own_go (fun _ k => XS.iconst X41.here hx rfl (hb hby at_119) k) ?_
          refine own_go (fun _ k => XS.goto X41.here hx rfl (pc0 := 120) (pc' := 124) rfl (hb hby at_120) (by decide) (by decide) k) ?_
          show own_Run p e below _ T41 (mkF m 124 #[.val (.long q1), .second, .val (.long q2), .second, .val (.long q3), .second, .val (.int p4), .val (.ref b24), .val (.long x8), .second, .val (.long (10000000 : Int64)), .second, .val (.long x12), .second] [(.int (1 : Int32)), (.int (1 : Int32))])
          refine own_go (fun _ k => XS.icmpNo X41.here hx rfl (hb hby at_124) rfl (teq (by decide : (1 : Int32) = (1 : Int32))).2 k) ?_
          show own_Run p e below _ T41 (mkF m 127 #[.val (.long q1), .second, .val (.long q2), .second, .val (.long q3), .second, .val (.int p4), .val (.ref b24), .val (.long x8), .second, .val (.long (10000000 : Int64)), .second, .val (.long x12), .second] [])
          refine own_go (fun _ k => XS.iconst X41.here hx rfl (hb hby at_127) k) ?_
          refine own_go (fun _ k => XS.goto X41.here hx rfl (pc0 := 128) (pc' := 132) rfl (hb hby at_128) (by decide) (by decide) k) ?_
          show own_Run p e below _ T41 (mkF m 132 #[.val (.long q1), .second, .val (.long q2), .second, .val (.long q3), .second, .val (.int p4), .val (.ref b24), .val (.long x8), .second, .val (.long (10000000 : Int64)), .second, .val (.long x12), .second] [(.int (1 : Int32))])
          refine own_done (Q := fun v h L => Q0 Z q1 q2 q3 p4 h0 n0 v h L) (v := (some (.int (1 : Int32)))) X41 (fun h => by rw [hret] at h; cases h) hlk (fun fs hr => retN X41 hx (t := .boolean) hret (by simp) (hb hby at_132) hr) ?_ (by decide) (by decide)
          show Q0 Z q1 q2 q3 p4 h0 n0 _ T41.heap _
          rw [e41]
          exact ⟨rfl, N41⟩
      · refine own_go (fun _ k => XS.ifYes X26.here hx rfl (pc0 := 81) (pc' := 89) rfl (hb hby at_81) rfl (own_lcF hB).2.1 (by decide) (by decide) k) ?_
        show own_Run p e below _ T26 (mkF m 89 #[.val (.long q1), .second, .val (.long q2), .second, .val (.long q3), .second, .val (.int p4), .val (.ref b24), .val (.long x8), .second, .val (.long ((30 : Int64) * x8)), .second, .unset, .unset] [])
        refine own_go (fun _ k => XS.aload X26.here hx rfl (hb hby at_89) rfl rfl k) ?_
        refine own_go (fun _ k => XS.lloadN X26.here hx rfl (hb hby at_91) rfl k) ?_
        refine own_go (fun _ k => XS.lload X26.here hx rfl (hb hby at_92) rfl k) ?_
        show own_Run p e below _ T26 (mkF m 94 #[.val (.long q1), .second, .val (.long q2), .second, .val (.long q3), .second, .val (.int p4), .val (.ref b24), .val (.long x8), .second, .val (.long ((30 : Int64) * x8)), .second, .unset, .unset] [(.long x8), (.long q1), (.ref b24)])
        obtain ⟨cq42, kq42, q42a, q42b, q42c⟩ := isOf hZ rfl P26_0
        obtain ⟨_, _, ⟨T42, L42, k42, n42⟩, -, X42, ⟨Lc42, hQ42, l42, y42, z42⟩, st42⟩ := X26.virtualBack hx (y := (⟨"com/example/eventail/eventail/SpinPauses", "stalled", "(JJ)V"⟩ : MethodName)) (z := (⟨"com/example/eventail/eventail/SpinPauses", "stalled", "(JJ)V"⟩ : MethodName)) hown (mvT hZ (W 24 rfl)) (mvT hZ (W 25 rfl)) (notFace_of_selects (args := #[]) (mvT hZ (W 27 rfl))) (mvT hZ (W 27 rfl)) (mvT hZ (W 26 rfl)) (by decide) (backOf (W := 0) (rm4 l Z a0 hw [] b24 q1 x8 (.long q1) T26.heap n0 Z0_c27 P26_0 P26_1 P26_2 P26_3 g_b24 S_PAUSE_MAX_NANOS_c27) hZ (W 28 rfl) (W 2 rfl) (by decide) (by decide)) q42a q42c (g := (mkF m 94 #[.val (.long q1), .second, .val (.long q2), .second, .val (.long q3), .second, .val (.int p4), .val (.ref b24), .val (.long x8), .second, .val (.long ((30 : Int64) * x8)), .second, .unset, .unset] [(.long x8), (.long q1), (.ref b24)])) rfl (by rw [hml]; rfl) (Steps.refl _) (argsL := [(.long q1), (.long x8)]) (rest := []) (lenOf pd_4 rfl) rfl (by show 2 * 0 + _ ≤ _; exact Nat.le_of_eq rfl) (hb hby at_94) (fun _ _ => ⟨rfl, rfl, (by decide : 1 + 0 ≤ _), (by decide : 3 + 0 ≤ _)⟩)
        dsimp only [Pt.U, Pt.locs, Pt.cells, Pt.slots] at X42 l42 y42 z42 st42 hQ42
        subst l42 y42 z42
        obtain ⟨rfl, N42q, K42, P42_0, P42_1⟩ := hQ42
        have N42 := Fr.app N26 N42q
        refine own_goT st42 ?_
        show own_Run p e below _ T42 (mkF m 97 #[.val (.long q1), .second, .val (.long q2), .second, .val (.long q3), .second, .val (.int p4), .val (.ref b24), .val (.long x8), .second, .val (.long ((30 : Int64) * x8)), .second, .unset, .unset] [])
        have Z0_c43 := Nat.le_trans Z0_c27 K42.1
        have K0_c43 := K0_c27.trans K42 (allS (Or.inr sz_b24) all0)
        have S_PAUSE_NANOS_c43 := own_staKeep S_PAUSE_NANOS_c27 K42 (allS (own_ns P26_0) all0)
        have S_PAUSE_MAX_NANOS_c43 := own_staKeep S_PAUSE_MAX_NANOS_c27 K42 (allS (own_ns P26_0) all0)
        have P26_0_c43 := P26_0.keep K42
        refine own_go (fun _ k => XS.lloadN X42.here hx rfl (hb hby at_97) rfl k) ?_
        refine own_go (fun _ k => XS.iconst X42.here hx rfl (hb hby at_98) k) ?_
        refine own_go (fun _ k => XS.lshr X42.here hx rfl (hb hby at_99) rfl k) ?_
        show own_Run p e below _ T42 (mkF m 100 #[.val (.long q1), .second, .val (.long q2), .second, .val (.long q3), .second, .val (.int p4), .val (.ref b24), .val (.long x8), .second, .val (.long ((30 : Int64) * x8)), .second, .unset, .unset] [(.long (q2 >>> ((2 : Int32) &&& 0x3f).toInt64))])
        obtain ⟨x12, hx12⟩ : ∃ z, z = (q2 >>> ((2 : Int32) &&& 0x3f).toInt64) := ⟨_, rfl⟩
        rw [← hx12]
        show own_Run p e below _ T42 (mkF m 100 #[.val (.long q1), .second, .val (.long q2), .second, .val (.long q3), .second, .val (.int p4), .val (.ref b24), .val (.long x8), .second, .val (.long ((30 : Int64) * x8)), .second, .unset, .unset] [(.long x12)])
        refine own_go (fun _ k => XS.lstore X42.here hx rfl (hb hby at_100) rfl (l' := #[.val (.long q1), .second, .val (.long q2), .second, .val (.long q3), .second, .val (.int p4), .val (.ref b24), .val (.long x8), .second, .val (.long ((30 : Int64) * x8)), .second, .val (.long x12), .second]) rfl k) ?_
        refine own_go (fun _ k => XS.aload X42.here hx rfl (hb hby at_102) rfl rfl k) ?_
        refine own_go (fun _ k => XS.lloadN X42.here hx rfl (hb hby at_104) rfl k) ?_
        refine own_go (fun _ k => XS.lload X42.here hx rfl (hb hby at_105) rfl k) ?_
        show own_Run p e below _ T42 (mkF m 107 #[.val (.long q1), .second, .val (.long q2), .second, .val (.long q3), .second, .val (.int p4), .val (.ref b24), .val (.long x8), .second, .val (.long ((30 : Int64) * x8)), .second, .val (.long x12), .second] [(.long x12), (.long q1), (.ref b24)])
        refine own_go (fun _ k => XS.ladd X42.here hx rfl (hb hby at_107) rfl k) ?_
        show own_Run p e below _ T42 (mkF m 108 #[.val (.long q1), .second, .val (.long q2), .second, .val (.long q3), .second, .val (.int p4), .val (.ref b24), .val (.long x8), .second, .val (.long ((30 : Int64) * x8)), .second, .val (.long x12), .second] [(.long (q1 + x12)), (.ref b24)])
        have hM := own_p3 _ hA hB
        rw [hM] at P42_1
        have hq := own_cmp q1 x12 ((30 : Int64) * x8) q2 hx12 (by omega) (by have e9 : (1000000000 : Int64).toInt = 1000000000 := rfl; have hk := hA; rw [Int64.lt_iff_toInt_lt, e9] at hk; omega)
        by_cases hf44 : x12 < ((30 : Int64) * x8)
        · obtain ⟨cq45, kq45, q45a, q45b, q45c⟩ := isOf hZ rfl P42_0
          obtain ⟨_, _, ⟨T45, L45, k45, n45⟩, -, X45, ⟨Lc45, hQ45, l45, y45, z45⟩, st45⟩ := X42.virtualBack hx (y := (⟨"com/example/eventail/eventail/SpinPauses", "allowSpinAt", "(J)Z"⟩ : MethodName)) (z := (⟨"com/example/eventail/eventail/SpinPauses", "allowSpinAt", "(J)Z"⟩ : MethodName)) hown (mvT hZ (W 15 rfl)) (mvT hZ (W 16 rfl)) (notFace_of_selects (args := #[]) (mvT hZ (W 18 rfl))) (mvT hZ (W 18 rfl)) (mvT hZ (W 17 rfl)) (by decide) (backOf (W := 0) (rm3 l Z a0 hw [] b24 (q1 + x12) (q1 + ((30 : Int64) * x8)) (0 : Int32) T42.heap n0 Z0_c43 P42_1 (Or.inl ⟨hq.mpr hf44, rfl⟩)) hZ (W 19 rfl) (W 2 rfl) (by decide) (by decide)) q45a q45c (g := (mkF m 108 #[.val (.long q1), .second, .val (.long q2), .second, .val (.long q3), .second, .val (.int p4), .val (.ref b24), .val (.long x8), .second, .val (.long ((30 : Int64) * x8)), .second, .val (.long x12), .second] [(.long (q1 + x12)), (.ref b24)])) rfl (by rw [hml]; rfl) (Steps.refl _) (argsL := [(.long (q1 + x12))]) (rest := []) (lenOf pd_3 rfl) rfl (by show 2 * 0 + _ ≤ _; exact Nat.le_of_eq rfl) (hb hby at_108) (fun _ _ => ⟨rfl, rfl, (by decide : 1 + 0 ≤ _), (by decide : 3 + 0 ≤ _)⟩)
          dsimp only [Pt.U, Pt.locs, Pt.cells, Pt.slots] at X45 l45 y45 z45 st45 hQ45
          subst l45 y45 z45
          obtain ⟨rfl, N45q, e45⟩ := hQ45
          have N45 := Fr.app N42 N45q
          refine own_goT st45 ?_
          show own_Run p e below _ T45 (mkF m 111 #[.val (.long q1), .second, .val (.long q2), .second, .val (.long q3), .second, .val (.int p4), .val (.ref b24), .val (.long x8), .second, .val (.long ((30 : Int64) * x8)), .second, .val (.long x12), .second] [(.int (0 : Int32))])
          refine own_go (fun _ k => XS.lload X45.here hx rfl (hb hby at_111) rfl k) ?_
          refine own_go (fun _ k => XS.lload X45.here hx rfl (hb hby at_113) rfl k) ?_
          refine own_go (fun _ k => XS.lcmp X45.here hx rfl (hb hby at_115) rfl k) ?_
          show own_Run p e below _ T45 (mkF m 116 #[.val (.long q1), .second, .val (.long q2), .second, .val (.long q3), .second, .val (.int p4), .val (.ref b24), .val (.long x8), .second, .val (.long ((30 : Int64) * x8)), .second, .val (.long x12), .second] [(.int (lcmpW x12 ((30 : Int64) * x8))), (.int (0 : Int32))])
          refine own_go (fun _ k => XS.ifYes X45.here hx rfl (pc0 := 116) (pc' := 123) rfl (hb hby at_116) rfl (own_lcT hf44).1 (by decide) (by decide) k) ?_
          show own_Run p e below _ T45 (mkF m 123 #[.val (.long q1), .second, .val (.long q2), .second, .val (.long q3), .second, .val (.int p4), .val (.ref b24), .val (.long x8), .second, .val (.long ((30 : Int64) * x8)), .second, .val (.long x12), .second] [(.int (0 : Int32))])
          refine own_go (fun _ k => XS.iconst X45.here hx rfl (hb hby at_123) k) ?_
          show own_Run p e below _ T45 (mkF m 124 #[.val (.long q1), .second, .val (.long q2), .second, .val (.long q3), .second, .val (.int p4), .val (.ref b24), .val (.long x8), .second, .val (.long ((30 : Int64) * x8)), .second, .val (.long x12), .second] [(.int (0 : Int32)), (.int (0 : Int32))])
          refine own_go (fun _ k => XS.icmpNo X45.here hx rfl (hb hby at_124) rfl (teq (by decide : (0 : Int32) = (0 : Int32))).2 k) ?_
          show own_Run p e below _ T45 (mkF m 127 #[.val (.long q1), .second, .val (.long q2), .second, .val (.long q3), .second, .val (.int p4), .val (.ref b24), .val (.long x8), .second, .val (.long ((30 : Int64) * x8)), .second, .val (.long x12), .second] [])
          refine own_go (fun _ k => XS.iconst X45.here hx rfl (hb hby at_127) k) ?_
          refine own_go (fun _ k => XS.goto X45.here hx rfl (pc0 := 128) (pc' := 132) rfl (hb hby at_128) (by decide) (by decide) k) ?_
          show own_Run p e below _ T45 (mkF m 132 #[.val (.long q1), .second, .val (.long q2), .second, .val (.long q3), .second, .val (.int p4), .val (.ref b24), .val (.long x8), .second, .val (.long ((30 : Int64) * x8)), .second, .val (.long x12), .second] [(.int (1 : Int32))])
          refine own_done (Q := fun v h L => Q0 Z q1 q2 q3 p4 h0 n0 v h L) (v := (some (.int (1 : Int32)))) X45 (fun h => by rw [hret] at h; cases h) hlk (fun fs hr => retN X45 hx (t := .boolean) hret (by simp) (hb hby at_132) hr) ?_ (by decide) (by decide)
          show Q0 Z q1 q2 q3 p4 h0 n0 _ T45.heap _
          rw [e45]
          exact ⟨rfl, N45⟩
        · obtain ⟨cq46, kq46, q46a, q46b, q46c⟩ := isOf hZ rfl P42_0
          obtain ⟨_, _, ⟨T46, L46, k46, n46⟩, -, X46, ⟨Lc46, hQ46, l46, y46, z46⟩, st46⟩ := X42.virtualBack hx (y := (⟨"com/example/eventail/eventail/SpinPauses", "allowSpinAt", "(J)Z"⟩ : MethodName)) (z := (⟨"com/example/eventail/eventail/SpinPauses", "allowSpinAt", "(J)Z"⟩ : MethodName)) hown (mvT hZ (W 15 rfl)) (mvT hZ (W 16 rfl)) (notFace_of_selects (args := #[]) (mvT hZ (W 18 rfl))) (mvT hZ (W 18 rfl)) (mvT hZ (W 17 rfl)) (by decide) (backOf (W := 0) (rm3 l Z a0 hw [] b24 (q1 + x12) (q1 + ((30 : Int64) * x8)) (1 : Int32) T42.heap n0 Z0_c43 P42_1 (Or.inr ⟨(fun k => hf44 (hq.mp k)), rfl⟩)) hZ (W 19 rfl) (W 2 rfl) (by decide) (by decide)) q46a q46c (g := (mkF m 108 #[.val (.long q1), .second, .val (.long q2), .second, .val (.long q3), .second, .val (.int p4), .val (.ref b24), .val (.long x8), .second, .val (.long ((30 : Int64) * x8)), .second, .val (.long x12), .second] [(.long (q1 + x12)), (.ref b24)])) rfl (by rw [hml]; rfl) (Steps.refl _) (argsL := [(.long (q1 + x12))]) (rest := []) (lenOf pd_3 rfl) rfl (by show 2 * 0 + _ ≤ _; exact Nat.le_of_eq rfl) (hb hby at_108) (fun _ _ => ⟨rfl, rfl, (by decide : 1 + 0 ≤ _), (by decide : 3 + 0 ≤ _)⟩)
          dsimp only [Pt.U, Pt.locs, Pt.cells, Pt.slots] at X46 l46 y46 z46 st46 hQ46
          subst l46 y46 z46
          obtain ⟨rfl, N46q, e46⟩ := hQ46
          have N46 := Fr.app N42 N46q
          refine own_goT st46 ?_
          show own_Run p e below _ T46 (mkF m 111 #[.val (.long q1), .second, .val (.long q2), .second, .val (.long q3), .second, .val (.int p4), .val (.ref b24), .val (.long x8), .second, .val (.long ((30 : Int64) * x8)), .second, .val (.long x12), .second] [(.int (1 : Int32))])
          refine own_go (fun _ k => XS.lload X46.here hx rfl (hb hby at_111) rfl k) ?_
          refine own_go (fun _ k => XS.lload X46.here hx rfl (hb hby at_113) rfl k) ?_
          refine own_go (fun _ k => XS.lcmp X46.here hx rfl (hb hby at_115) rfl k) ?_
          show own_Run p e below _ T46 (mkF m 116 #[.val (.long q1), .second, .val (.long q2), .second, .val (.long q3), .second, .val (.int p4), .val (.ref b24), .val (.long x8), .second, .val (.long ((30 : Int64) * x8)), .second, .val (.long x12), .second] [(.int (lcmpW x12 ((30 : Int64) * x8))), (.int (1 : Int32))])
          refine own_go (fun _ k => XS.ifNo X46.here hx rfl (hb hby at_116) rfl (own_lcF hf44).1 k) ?_
          show own_Run p e below _ T46 (mkF m 119 #[.val (.long q1), .second, .val (.long q2), .second, .val (.long q3), .second, .val (.int p4), .val (.ref b24), .val (.long x8), .second, .val (.long ((30 : Int64) * x8)), .second, .val (.long x12), .second] [(.int (1 : Int32))])
          refine own_go (fun _ k => XS.iconst X46.here hx rfl (hb hby at_119) k) ?_
          refine own_go (fun _ k => XS.goto X46.here hx rfl (pc0 := 120) (pc' := 124) rfl (hb hby at_120) (by decide) (by decide) k) ?_
          show own_Run p e below _ T46 (mkF m 124 #[.val (.long q1), .second, .val (.long q2), .second, .val (.long q3), .second, .val (.int p4), .val (.ref b24), .val (.long x8), .second, .val (.long ((30 : Int64) * x8)), .second, .val (.long x12), .second] [(.int (1 : Int32)), (.int (1 : Int32))])
          refine own_go (fun _ k => XS.icmpNo X46.here hx rfl (hb hby at_124) rfl (teq (by decide : (1 : Int32) = (1 : Int32))).2 k) ?_
          show own_Run p e below _ T46 (mkF m 127 #[.val (.long q1), .second, .val (.long q2), .second, .val (.long q3), .second, .val (.int p4), .val (.ref b24), .val (.long x8), .second, .val (.long ((30 : Int64) * x8)), .second, .val (.long x12), .second] [])
          refine own_go (fun _ k => XS.iconst X46.here hx rfl (hb hby at_127) k) ?_
          refine own_go (fun _ k => XS.goto X46.here hx rfl (pc0 := 128) (pc' := 132) rfl (hb hby at_128) (by decide) (by decide) k) ?_
          show own_Run p e below _ T46 (mkF m 132 #[.val (.long q1), .second, .val (.long q2), .second, .val (.long q3), .second, .val (.int p4), .val (.ref b24), .val (.long x8), .second, .val (.long ((30 : Int64) * x8)), .second, .val (.long x12), .second] [(.int (1 : Int32))])
          refine own_done (Q := fun v h L => Q0 Z q1 q2 q3 p4 h0 n0 v h L) (v := (some (.int (1 : Int32)))) X46 (fun h => by rw [hret] at h; cases h) hlk (fun fs hr => retN X46 hx (t := .boolean) hret (by simp) (hb hby at_132) hr) ?_ (by decide) (by decide)
          show Q0 Z q1 q2 q3 p4 h0 n0 _ T46.heap _
          rw [e46]
          exact ⟨rfl, N46⟩
set_option maxRecDepth 65536 in
set_option maxHeartbeats 40000000 in
theorem comes_1 {Post : Tables → Env → Array Value → State → Outcome → State → Prop} (hpost : ∀ tb e args s v u, (limb_1_1.after args s (.returned v) u = true ∧ limb_1_2.after args s (.returned v) u = true ∧ True) → FrameEnd s (.returned v) u (Jvm.fieldLocs frame_1_writes args s ++ Jvm.arrayLocs frame_1_arrays args s ++ Jvm.staticLocs frame_1_statics s) 16 128 → Post tb e args s (.returned v) u) :
    ArmFor flags0 classFile x code maxLocals ret World_1 tables_1 room_1 Calls_1 rest_1 Pre_1 Post := by
  intro l hfl _ _ p e ha hc hk s m args below hf hA hF happ hP
  obtain ⟨hcalls, hrest, hpre⟩ := hP
  obtain ⟨-, -, -, hnamed, -, -, -, hat⟩ := (Spec.applies_iff hf).mp happ
  obtain ⟨hg, hn⟩ := and_e (Cond.before_iff.mp (show (Jvm.Cond.and given_1 narrow_1).before args s = true from hpre))
  obtain ⟨hcount, hr0⟩ := and_e hg
  obtain ⟨ha0, hr1⟩ := and_e hr0
  obtain ⟨ha1, hr2⟩ := and_e hr1
  obtain ⟨ha2, hr3⟩ := and_e hr2
  have ha3 := hr3
  obtain ⟨w0, w1, w2, w3, rfl⟩ : ∃ w0 w1 w2 w3 : Value, args = #[w0, w1, w2, w3] := by
    have hs : args.size = 4 := by simpa [Cond.value, given_1] using hcount
    obtain ⟨L⟩ := args
    match L, hs with
    | [w0, w1, w2, w3], _ => exact ⟨w0, w1, w2, w3, rfl⟩
  have hw := fun d (hd : d ∈ tables_1) => atoms_spec (ws := Jvm.Cond.code x code maxLocals ret :: tables_1) hat d (List.mem_cons_of_mem _ hd)
  have W := fun (k : Nat) {d : Jvm.Cond} (h : tables_1[k]? = some d) => hw d (List.mem_of_getElem? h)
  have hfit : Fit s := fun {y c} hc i hi => by
    obtain ⟨ha, rfl⟩ := Array.getElem?_eq_some_iff.mp hc
    have q := List.all_eq_true.mp ((Array.all_eq_true_iff_forall_mem.mp hF) _ (Array.getElem_mem ha)) i (List.mem_range.mpr hi)
    simpa [Array.getElem?_eq_getElem hi] using q
  obtain ⟨i0, ei0⟩ := isL_v ha0
  obtain rfl : w0 = (.long i0) := Option.some.inj ei0
  obtain ⟨i1, ei1⟩ := isL_v ha1
  obtain rfl : w1 = (.long i1) := Option.some.inj ei1
  obtain ⟨i2, ei2⟩ := isL_v ha2
  obtain rfl : w2 = (.long i2) := Option.some.inj ei2
  obtain ⟨i3, ei3⟩ := is_v ha3
  obtain rfl : w3 = (.int i3) := Option.some.inj ei3
  obtain ⟨hn1, hn2⟩ := and_e hn
  have hS1 := Sta.start (own_eqL hn1) (Or.inr ⟨(W 2 rfl), (W 10 rfl)⟩)
  have hS2 := Sta.start (own_eqL hn2) (Or.inr ⟨(W 2 rfl), (W 34 rfl)⟩)
  obtain ⟨n, o, h1, h2, h3, _, L, rfl, ⟨rfl, N⟩, hq⟩ := rm0 l s _ hw tables_1 i0 i1 i2 i3 s.heap s.heap.size (Nat.le_refl _) hS1 hS2 p e ha hc hk s m _ below hf ((Spec.applies_iff_loose hf).mp happ).1 ⟨rfl, State.Warmed39.refl s, rfl⟩ trivial
  refine ⟨n, _, h1, h2, h3, hpost _ _ _ _ _ _ ⟨Cond.after_iff.mpr rfl, Cond.after_iff.mpr (eq_i res_at (Term.int_eval (1)) rfl), trivial⟩ ⟨hq.1, hq.2.1, (hq.2.2.sift fun y hy => Or.inr (N y hy)).mono (by decide) (by decide)⟩⟩
theorem main_1_1 : Claimed_1_1 := comes_1 fun _ _ _ _ _ _ h hF => ⟨h.1, hF⟩
theorem main_1_2 : Claimed_1_2 := comes_1 fun _ _ _ _ _ _ h hF => ⟨h.2.1, hF⟩
end Jvm.Pilot.@@N@@
namespace Jvm.Pilot.@@N@@
open Jvm Jvm.ClassFile Sem Op Lib Jvm.Free Jvm.Stand Jvm.Pilot.@@N@@.Jvm.D
/-! MADE BY PROGRAM (witnessworld.py) out of the Statement's table words and the real class files: 10 classes; the members and pool entries that the words name. The judged class is class 1, her method 1. -/
namespace start1
open Jvm.ClassFile
def u (s : String) : CpInfo := .utf8 (stringToUtf16 s)
/-- a pool by its gaps: so many unusable entries, then the entry; so many at the end -/
def gap : Nat → List CpInfo → List CpInfo
  | 0, r => r
  | n + 1, r => .unusable :: gap n r
def poolList (es : List (Nat × CpInfo)) (last : Nat) : List CpInfo := es.foldr (fun e r => gap e.1 (e.2 :: r)) (gap last [])
def pool (es : List (Nat × CpInfo)) (last : Nat) : Array CpInfo := ⟨poolList es last⟩
def fileOf (pool : Array CpInfo) (this : Nat) (attrs : Array Attribute := #[]) (ms : Array MethodInfo := #[]) (fl : Nat := 33) (sup : Nat := 0) (ifs : Array Nat := #[]) (fds : Array FieldInfo := #[]) : ClassFile where
  minorVersion := 0
  majorVersion := 65
  constantPool := pool
  accessFlags := fl
  thisClass := this
  superClass := sup
  interfaces := ifs
  fields := fds
  methods := ms
  attributes := attrs
def plain (name : String) (sup : Option ClassId) : Class where
  name := name
  kind := .ordinary
  loader := none
  accessFlags := 33
  super := sup
  interfaces := #[]
  cf := none
  fields := #[]
  methods := #[]
  instanceTypes := #[]
  staticTypes := #[]
  resolved := #[]
  callSites := []
  init := .initialized
  statics := none
  mirror := none

def pool0 : Array CpInfo := pool [(5, u "<init>"), (0, u "()V"), (1, .class_ 10), (1, u "java/lang/Object")] 113

def k0c0 : Code := { maxStack := 0, maxLocals := 1, code := object_method_1_code, exceptionTable := #[], attributes := #[] }
def k0m0 : Method := { name := "<init>", desc := "()V", sig := { parameters := [], returnType := none }, accessFlags := 1, code := some k0c0 }
/-- java/lang/Object -/
def k0 : Class := { plain "java/lang/Object" none with
  accessFlags := 33
  interfaces := #[]
  cf := some (fileOf pool0 8 #[] #[{ accessFlags := 1, nameIndex := 5, descriptorIndex := 6, attributes := #[] }] 33 0 #[] #[])
  fields := #[]
  methods := #[k0m0]
  instanceTypes := #[]
  staticTypes := #[]
  resolved := Array.replicate 124 none
  statics := none }

def pool1 : Array CpInfo := pool [(2, .class_ 4), (1, u "java/lang/Object"), (0, u "<init>"), (0, u "()V"), (0, .class_ 8), (0, u "com/example/eventail/eventail/SpinPauses"), (0, .methodref 7 10), (0, .nameAndType 5 11), (0, u "(J)V"), (0, .methodref 7 13), (0, .nameAndType 14 15), (0, u "allowSpinAt"), (0, u "(J)Z"), (0, .long 1073741823), (1, .long 30), (1, .long 1000000000), (1, .long 10000000), (1, .methodref 7 25), (0, .nameAndType 26 27), (0, u "stalled"), (0, u "(JJ)V"), (0, .class_ 29), (0, u "com/example/eventail/eventail/SpinPausesAllowSpinAtPinLaw"), (2, u "law"), (0, u "(JJJI)Z")] 3

def k1m0 : Method := { name := "<init>", desc := "()V", sig := { parameters := [], returnType := none }, accessFlags := 1, code := none }
def k1c1 : Code := { maxStack := 5, maxLocals := 14, code := code, exceptionTable := #[], attributes := #[] }
def k1m1 : Method := { name := "law", desc := "(JJJI)Z", sig := { parameters := [.long, .long, .long, .int], returnType := some .boolean }, accessFlags := 9, code := some k1c1 }
/-- com/example/eventail/eventail/SpinPausesAllowSpinAtPinLaw -/
def k1 : Class := { plain "com/example/eventail/eventail/SpinPausesAllowSpinAtPinLaw" (some 0) with
  accessFlags := 49
  interfaces := #[]
  cf := some (fileOf pool1 28 #[] #[{ accessFlags := 1, nameIndex := 5, descriptorIndex := 6, attributes := #[] }, { accessFlags := 9, nameIndex := 32, descriptorIndex := 33, attributes := #[] }] 49 2 #[] #[])
  fields := #[]
  methods := #[k1m0, k1m1]
  instanceTypes := #[]
  staticTypes := #[]
  resolved := Array.replicate 37 none
  statics := none }

def pool2 : Array CpInfo := pool [(1, .methodref 2 3), (0, .class_ 4), (0, .nameAndType 5 6), (0, u "java/lang/Object"), (0, u "<init>"), (0, u "()V"), (0, .fieldref 8 9), (0, .class_ 10), (0, .nameAndType 11 12), (0, u "com/example/eventail/eventail/SpinPauses"), (0, u "PAUSE_NANOS"), (0, u "J"), (0, .fieldref 8 14), (0, .nameAndType 15 12), (0, u "pauseNanos"), (0, .fieldref 8 17), (0, .nameAndType 18 12), (0, u "spinAgainNanos"), (0, .fieldref 8 20), (0, .nameAndType 21 12), (0, u "takesSinceStall"), (0, .long 10), (1, .long 30), (1, .fieldref 8 27), (0, .nameAndType 28 12), (0, u "PAUSE_MAX_NANOS"), (0, .methodref 30 31), (0, .class_ 32), (0, .nameAndType 33 34), (0, u "java/lang/Math"), (0, u "min"), (0, u "(JJ)J"), (0, .methodref 30 36), (0, .nameAndType 37 34), (0, u "max"), (0, .long 4), (1, .long 2), (14, u "TAKES_BETWEEN_STALLS"), (0, u "I"), (2, u "PAUSE_PER_STALL"), (1, u "(J)V"), (2, u "allowSpinAt"), (0, u "(J)Z"), (2, u "stalled"), (0, u "(JJ)V")] 3

def k2c0 : Code := { maxStack := 3, maxLocals := 3, code := prog_17_method_1_code, exceptionTable := #[], attributes := #[] }
def k2m0 : Method := { name := "<init>", desc := "(J)V", sig := { parameters := [.long], returnType := none }, accessFlags := 0, code := some k2c0 }
def k2c1 : Code := { maxStack := 4, maxLocals := 3, code := prog_17_method_2_code, exceptionTable := #[], attributes := #[] }
def k2m1 : Method := { name := "allowSpinAt", desc := "(J)Z", sig := { parameters := [.long], returnType := some .boolean }, accessFlags := 0, code := some k2c1 }
def k2c2 : Code := { maxStack := 7, maxLocals := 7, code := prog_17_method_4_code, exceptionTable := #[], attributes := #[] }
def k2m2 : Method := { name := "stalled", desc := "(JJ)V", sig := { parameters := [.long, .long], returnType := none }, accessFlags := 0, code := some k2c2 }
/-- com/example/eventail/eventail/SpinPauses -/
def k2 : Class := { plain "com/example/eventail/eventail/SpinPauses" (some 0) with
  accessFlags := 32
  interfaces := #[]
  cf := some (fileOf pool2 8 #[] #[{ accessFlags := 0, nameIndex := 5, descriptorIndex := 61, attributes := #[] }, { accessFlags := 0, nameIndex := 64, descriptorIndex := 65, attributes := #[] }, { accessFlags := 0, nameIndex := 68, descriptorIndex := 69, attributes := #[] }] 32 2 #[] #[{ accessFlags := 24, nameIndex := 55, descriptorIndex := 56, attributes := #[] }, { accessFlags := 24, nameIndex := 11, descriptorIndex := 12, attributes := #[] }, { accessFlags := 24, nameIndex := 28, descriptorIndex := 12, attributes := #[] }, { accessFlags := 24, nameIndex := 59, descriptorIndex := 56, attributes := #[] }, { accessFlags := 2, nameIndex := 18, descriptorIndex := 12, attributes := #[] }, { accessFlags := 2, nameIndex := 15, descriptorIndex := 12, attributes := #[] }, { accessFlags := 2, nameIndex := 21, descriptorIndex := 12, attributes := #[] }])
  fields := #[{ name := "TAKES_BETWEEN_STALLS", type := .int, accessFlags := 24, slot := 0, constantValue := 0 }, { name := "PAUSE_NANOS", type := .long, accessFlags := 24, slot := 1, constantValue := 0 }, { name := "PAUSE_MAX_NANOS", type := .long, accessFlags := 24, slot := 2, constantValue := 0 }, { name := "PAUSE_PER_STALL", type := .int, accessFlags := 24, slot := 3, constantValue := 0 }, { name := "spinAgainNanos", type := .long, accessFlags := 2, slot := 0, constantValue := 0 }, { name := "pauseNanos", type := .long, accessFlags := 2, slot := 1, constantValue := 0 }, { name := "takesSinceStall", type := .long, accessFlags := 2, slot := 2, constantValue := 0 }]
  methods := #[k2m0, k2m1, k2m2]
  instanceTypes := #[.long, .long, .long]
  staticTypes := #[.int, .long, .long, .int]
  resolved := Array.replicate 73 none
  statics := some 0 }

def pool3 : Array CpInfo := pool [(1, .class_ 2), (0, u "java/lang/Math"), (1, .class_ 6), (1, u "java/lang/Object"), (0, u "<init>"), (0, u "()V"), (89, .class_ 100), (1, u "java/lang/Math$RandomNumberGeneratorHolder"), (20, u "(JJ)J"), (50, u "negativeZeroFloatBits"), (0, u "J"), (2, u "negativeZeroDoubleBits"), (21, u "max"), (2, u "min"), (43, u "$assertionsDisabled"), (0, u "Z"), (91, u "twoToTheDoubleScaleDown"), (0, u "D"), (4, u "twoToTheDoubleScaleUp"), (9, u "E"), (3, u "PI"), (2, u "TAU"), (2, u "DEGREES_TO_RADIANS"), (0, u "RADIANS_TO_DEGREES")] 94

def k3m0 : Method := { name := "<init>", desc := "()V", sig := { parameters := [], returnType := none }, accessFlags := 2, code := none }
def k3c1 : Code := { maxStack := 4, maxLocals := 4, code := jdk_29_method_66_code, exceptionTable := #[], attributes := #[] }
def k3m1 : Method := { name := "max", desc := "(JJ)J", sig := { parameters := [.long, .long], returnType := some .long }, accessFlags := 9, code := some k3c1 }
def k3c2 : Code := { maxStack := 4, maxLocals := 4, code := jdk_29_method_70_code, exceptionTable := #[], attributes := #[] }
def k3m2 : Method := { name := "min", desc := "(JJ)J", sig := { parameters := [.long, .long], returnType := some .long }, accessFlags := 9, code := some k3c2 }
/-- java/lang/Math -/
def k3 : Class := { plain "java/lang/Math" (some 0) with
  accessFlags := 49
  interfaces := #[]
  cf := some (fileOf pool3 1 #[.nestMembers #[98]] #[{ accessFlags := 2, nameIndex := 7, descriptorIndex := 8, attributes := #[] }, { accessFlags := 9, nameIndex := 198, descriptorIndex := 121, attributes := #[] }, { accessFlags := 9, nameIndex := 201, descriptorIndex := 121, attributes := #[] }] 49 4 #[] #[{ accessFlags := 25, nameIndex := 354, descriptorIndex := 339, attributes := #[] }, { accessFlags := 25, nameIndex := 358, descriptorIndex := 339, attributes := #[] }, { accessFlags := 25, nameIndex := 361, descriptorIndex := 339, attributes := #[] }, { accessFlags := 26, nameIndex := 364, descriptorIndex := 339, attributes := #[] }, { accessFlags := 26, nameIndex := 365, descriptorIndex := 339, attributes := #[] }, { accessFlags := 26, nameIndex := 172, descriptorIndex := 173, attributes := #[] }, { accessFlags := 26, nameIndex := 176, descriptorIndex := 173, attributes := #[] }, { accessFlags := 8, nameIndex := 344, descriptorIndex := 339, attributes := #[] }, { accessFlags := 8, nameIndex := 338, descriptorIndex := 339, attributes := #[] }, { accessFlags := 4120, nameIndex := 245, descriptorIndex := 246, attributes := #[] }])
  fields := #[{ name := "E", type := .double, accessFlags := 25, slot := 0, constantValue := 0 }, { name := "PI", type := .double, accessFlags := 25, slot := 1, constantValue := 0 }, { name := "TAU", type := .double, accessFlags := 25, slot := 2, constantValue := 0 }, { name := "DEGREES_TO_RADIANS", type := .double, accessFlags := 26, slot := 3, constantValue := 0 }, { name := "RADIANS_TO_DEGREES", type := .double, accessFlags := 26, slot := 4, constantValue := 0 }, { name := "negativeZeroFloatBits", type := .long, accessFlags := 26, slot := 5, constantValue := 0 }, { name := "negativeZeroDoubleBits", type := .long, accessFlags := 26, slot := 6, constantValue := 0 }, { name := "twoToTheDoubleScaleUp", type := .double, accessFlags := 8, slot := 7, constantValue := 0 }, { name := "twoToTheDoubleScaleDown", type := .double, accessFlags := 8, slot := 8, constantValue := 0 }, { name := "$assertionsDisabled", type := .boolean, accessFlags := 4120, slot := 9, constantValue := 0 }]
  methods := #[k3m0, k3m1, k3m2]
  instanceTypes := #[]
  staticTypes := #[.double, .double, .double, .double, .double, .long, .long, .double, .double, .boolean]
  resolved := Array.replicate 460 none
  statics := none }

def pool4 : Array CpInfo := pool [(1, u "java/lang/Cloneable"), (0, .class_ 1), (0, u "java/lang/Object"), (0, .class_ 3)] 3

/-- java/lang/Cloneable -/
def k4 : Class := { plain "java/lang/Cloneable" (some 0) with
  accessFlags := 1537
  interfaces := #[]
  cf := some (fileOf pool4 2 #[] #[] 1537 4 #[] #[])
  fields := #[]
  methods := #[]
  instanceTypes := #[]
  staticTypes := #[]
  resolved := Array.replicate 8 none
  statics := none }

def pool5 : Array CpInfo := pool [(1, u "java/io/Serializable"), (0, .class_ 1), (0, u "java/lang/Object"), (0, .class_ 3)] 3

/-- java/io/Serializable -/
def k5 : Class := { plain "java/io/Serializable" (some 0) with
  accessFlags := 1537
  interfaces := #[]
  cf := some (fileOf pool5 2 #[] #[] 1537 4 #[] #[])
  fields := #[]
  methods := #[]
  instanceTypes := #[]
  staticTypes := #[]
  resolved := Array.replicate 8 none
  statics := none }

/-- the primitive byte -/
def k6 : Class := { plain "byte" none with kind := .primitive 'B', accessFlags := 0x411 }
/-- [B -/
def k7 : Class := { plain "[B" (some 0) with kind := .array 6 .byte, interfaces := #[4, 5], accessFlags := 1041 }

/-- the primitive int -/
def k8 : Class := { plain "int" none with kind := .primitive 'I', accessFlags := 0x411 }
/-- [I -/
def k9 : Class := { plain "[I" (some 0) with kind := .array 8 .int, interfaces := #[4, 5], accessFlags := 1041 }

def heap : Heap := #[{ cls := 2, slots := #[.int 0, .long 10000000, .long 1000000000, .int 0], vm := .statics 2 }]
def classes : Array Class := #[k0, k1, k2, k3, k4, k5, k6, k7, k8, k9]
def interned : List (Array UInt16 × Addr) := []
def slotsUsed : Nat := 4
def theMethod : MethodId := ⟨1, 1⟩
def args0 : Array Value := #[.long 5, .long 6, .long 7, .int 1]
def aboutOver (below : List Frame) : State where
  vm := { classes := classes, interned := interned.toArray }
  heap := heap
  slotsUsed := slotsUsed
  threads := #[{ frames := .invoking theMethod args0 :: below }]
def below0 : List Frame := [.native { method := ⟨0, 0⟩, args := #[] }]
def about1 : State := aboutOver below0
def p0 : Program := .bare "" "" ""
def e0 : Env := launch0.env 0 0 0
theorem w_frames : about1.frames = Frame.invoking theMethod args0 :: below0 := rfl
set_option maxRecDepth 65536 in
theorem w_args : argsFit about1.vm theMethod args0 = true := by decide +kernel
set_option maxRecDepth 65536 in
theorem w_heap : heapFits about1 = true := by decide +kernel
set_option maxRecDepth 65536 in
theorem w_runnable : about1.curStatus? = some .runnable := by decide +kernel
set_option maxRecDepth 65536 in
theorem w_alone : about1.alone = true := by decide +kernel
set_option maxRecDepth 65536 in
theorem w_named : about1.methodNamed? x = some theMethod := by decide +kernel
set_option maxRecDepth 65536 in
theorem w_hears : about1.hears theMethod below0 = true := by decide +kernel
set_option maxRecDepth 65536 in
theorem w_ripe : about1.ripe theMethod args0 below0 = true := by decide +kernel
theorem w_running : about1.status = .running := rfl
set_option maxRecDepth 65536 in
theorem w_room : about1.hasRoom e0.platform room_1 = true :=
  launch0.hasRoom_least _ room_1 (by decide +kernel) (by decide +kernel) (by decide +kernel) (by decide +kernel) (by decide +kernel) (by decide +kernel)
theorem allAtoms_all (ts : List Jvm.Cond) (a : Array Jvm.Value) (st : Jvm.State) : (allAtoms ts).before a st = ts.all (fun c => c.before a st) := by
  induction ts with
  | nil => rfl
  | cons c t ih =>
    show (Jvm.Cond.and c (allAtoms t)).before a st = _
    rw [Jvm.Cond.before_and, ih, List.all_cons]
def words1 : List Jvm.Cond := Jvm.Cond.code x code maxLocals ret :: tables_1
/-- a 'code' word, met by the world's own term for the bytes: nothing is compared byte by byte -/
theorem code_word {y : MethodName} {bytes : ByteArray} {mx : Nat} {rt : Option FieldType} {a : Array Value} {s : State} {m : MethodId} {meth : Method} {c : Code} (h1 : s.methodNamed? y = some m) (h2 : s.vm.method? m = some meth) (h3 : meth.code = some c) (h4 : c.code = bytes)
    (h5 : (c.maxLocals == mx && c.exceptionTable.isEmpty && decide (c.maxStack ≤ mostOperands) && decide (meth.sig.returnType = rt) && !meth.locks && decide (parseMethodDescriptor y.desc = some meth.sig)) = true) : (Jvm.Cond.code y bytes mx rt).before a s = true := by
  simp only [Bool.and_eq_true, beq_iff_eq, Bool.not_eq_true', decide_eq_true_eq] at h5
  obtain ⟨⟨⟨⟨⟨g1, g2⟩, g3⟩, g4⟩, g5⟩, g6⟩ := h5
  simp [Cond.before, Cond.holds, Cond.value, h1, h2, h3, h4, g1, g2, g3, g4, g5, g6]
def isCode : Jvm.Cond → Bool
  | .code _ _ _ _ => true
  | _ => false
theorem all_split {L : List Jvm.Cond} {P : Jvm.Cond → Bool} (h1 : L.all (fun c => isCode c || P c) = true) (h2 : ∀ c ∈ L.filter isCode, P c = true) : L.all P = true := by
  refine List.all_eq_true.mpr fun c hc => ?_
  have h := List.all_eq_true.mp h1 c hc
  rcases Bool.eq_false_or_eq_true (isCode c) with hi | hi
  · exact h2 c (List.mem_filter.mpr ⟨hc, hi⟩)
  · simpa [hi] using h
set_option maxRecDepth 65536 in
theorem w_c0 : (Jvm.Cond.code x code maxLocals ret).before args0 about1 = true := code_word (m := ⟨1, 1⟩) (meth := k1m1) (c := k1c1) (by decide +kernel) rfl rfl rfl (by decide +kernel)
set_option maxRecDepth 65536 in
theorem w_c1 : (Jvm.Cond.code ({ cls := "com/example/eventail/eventail/SpinPauses", name := "<init>", desc := "(J)V" } : Jvm.MethodName) prog_17_method_1_code (3 : Nat) (Option.none : Option Jvm.ClassFile.FieldType)).before args0 about1 = true := code_word (m := ⟨2, 0⟩) (meth := k2m0) (c := k2c0) (by decide +kernel) rfl rfl rfl (by decide +kernel)
set_option maxRecDepth 65536 in
theorem w_c2 : (Jvm.Cond.code ({ cls := "java/lang/Object", name := "<init>", desc := "()V" } : Jvm.MethodName) object_method_1_code (1 : Nat) (Option.none : Option Jvm.ClassFile.FieldType)).before args0 about1 = true := code_word (m := ⟨0, 0⟩) (meth := k0m0) (c := k0c0) (by decide +kernel) rfl rfl rfl (by decide +kernel)
set_option maxRecDepth 65536 in
theorem w_c3 : (Jvm.Cond.code ({ cls := "com/example/eventail/eventail/SpinPauses", name := "allowSpinAt", desc := "(J)Z" } : Jvm.MethodName) prog_17_method_2_code (3 : Nat) (Option.some Jvm.ClassFile.FieldType.boolean)).before args0 about1 = true := code_word (m := ⟨2, 1⟩) (meth := k2m1) (c := k2c1) (by decide +kernel) rfl rfl rfl (by decide +kernel)
set_option maxRecDepth 65536 in
theorem w_c4 : (Jvm.Cond.code ({ cls := "com/example/eventail/eventail/SpinPauses", name := "stalled", desc := "(JJ)V" } : Jvm.MethodName) prog_17_method_4_code (7 : Nat) (Option.none : Option Jvm.ClassFile.FieldType)).before args0 about1 = true := code_word (m := ⟨2, 2⟩) (meth := k2m2) (c := k2c2) (by decide +kernel) rfl rfl rfl (by decide +kernel)
set_option maxRecDepth 65536 in
theorem w_c5 : (Jvm.Cond.code ({ cls := "java/lang/Math", name := "min", desc := "(JJ)J" } : Jvm.MethodName) jdk_29_method_70_code (4 : Nat) (Option.some Jvm.ClassFile.FieldType.long)).before args0 about1 = true := code_word (m := ⟨3, 2⟩) (meth := k3m2) (c := k3c2) (by decide +kernel) rfl rfl rfl (by decide +kernel)
set_option maxRecDepth 65536 in
theorem w_c6 : (Jvm.Cond.code ({ cls := "java/lang/Math", name := "max", desc := "(JJ)J" } : Jvm.MethodName) jdk_29_method_66_code (4 : Nat) (Option.some Jvm.ClassFile.FieldType.long)).before args0 about1 = true := code_word (m := ⟨3, 1⟩) (meth := k3m1) (c := k3c1) (by decide +kernel) rfl rfl rfl (by decide +kernel)
def codes1 : List Jvm.Cond := [Jvm.Cond.code x code maxLocals ret, Jvm.Cond.code ({ cls := "com/example/eventail/eventail/SpinPauses", name := "<init>", desc := "(J)V" } : Jvm.MethodName) prog_17_method_1_code (3 : Nat) (Option.none : Option Jvm.ClassFile.FieldType), Jvm.Cond.code ({ cls := "java/lang/Object", name := "<init>", desc := "()V" } : Jvm.MethodName) object_method_1_code (1 : Nat) (Option.none : Option Jvm.ClassFile.FieldType), Jvm.Cond.code ({ cls := "com/example/eventail/eventail/SpinPauses", name := "allowSpinAt", desc := "(J)Z" } : Jvm.MethodName) prog_17_method_2_code (3 : Nat) (Option.some Jvm.ClassFile.FieldType.boolean), Jvm.Cond.code ({ cls := "com/example/eventail/eventail/SpinPauses", name := "stalled", desc := "(JJ)V" } : Jvm.MethodName) prog_17_method_4_code (7 : Nat) (Option.none : Option Jvm.ClassFile.FieldType), Jvm.Cond.code ({ cls := "java/lang/Math", name := "min", desc := "(JJ)J" } : Jvm.MethodName) jdk_29_method_70_code (4 : Nat) (Option.some Jvm.ClassFile.FieldType.long), Jvm.Cond.code ({ cls := "java/lang/Math", name := "max", desc := "(JJ)J" } : Jvm.MethodName) jdk_29_method_66_code (4 : Nat) (Option.some Jvm.ClassFile.FieldType.long)]
set_option maxRecDepth 65536 in
theorem codes_eq : words1.filter isCode = codes1 := rfl
theorem w_codes : ∀ c ∈ words1.filter isCode, c.before args0 about1 = true := by
  rw [codes_eq]
  intro c hc
  simp only [codes1, List.mem_cons, List.not_mem_nil, or_false] at hc
  rcases hc with rfl | rfl | rfl | rfl | rfl | rfl | rfl
  · exact w_c0
  · exact w_c1
  · exact w_c2
  · exact w_c3
  · exact w_c4
  · exact w_c5
  · exact w_c6
set_option maxRecDepth 65536 in
theorem w_t1 : (words1.take 24).all (fun c => isCode c || c.before args0 about1) = true := by decide +kernel
set_option maxRecDepth 65536 in
theorem w_t2 : (words1.drop 24).all (fun c => isCode c || c.before args0 about1) = true := by decide +kernel
theorem w_tables : (allAtoms (Jvm.Cond.code x code maxLocals ret :: tables_1)).before args0 about1 = true := by
  rw [allAtoms_all]
  show words1.all (fun c => c.before args0 about1) = true
  refine all_split ?_ w_codes
  rw [← List.take_append_drop 24 words1, List.all_append, w_t1, w_t2]
  rfl
set_option maxRecDepth 65536 in
theorem w_case : (Jvm.Cond.and given_1 narrow_1).before args0 about1 = true := by decide +kernel
theorem w_applies : (headSpec (Jvm.Cond.code x code maxLocals ret :: tables_1) room_1).applies x e0.platform about1 = true :=
  (Spec.applies_iff w_frames).mpr ⟨w_running, w_runnable, w_alone, w_named, w_hears, w_ripe, w_room, w_tables⟩
theorem atStart : AtStart classFile x code maxLocals ret World_1 tables_1 room_1 Calls_1 rest_1 Pre_1 launch0 p0 e0 about1 theMethod args0 below0 :=
  ⟨lists_1, trivial, launch0.admits_env _ _ _, launch0.least_env, fairChoices_fair.cas, fairChoices_fair.clock, w_frames, w_args, w_heap, w_applies, trivial, trivial, w_case⟩
end start1
theorem witness_1 : WitnessClaimed_1 := ⟨start1.p0, start1.e0, start1.about1, start1.theMethod, start1.args0, start1.below0, start1.atStart⟩
end Jvm.Pilot.@@N@@
