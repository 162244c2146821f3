import JvmDerived
import JvmDerived.Pilot.@@N@@Statement
import JvmDerived.Pilot.@@N@@Code
set_option linter.unusedVariables false
set_option linter.unusedSimpArgs false
namespace Jvm.Pilot.@@N@@
open Jvm Jvm.ClassFile Sem Op Lib Jvm.Free Jvm.Stand Jvm.LawKit Jvm.RoadKit Bundle Jvm.Pilot.@@N@@.Jvm.D
section OwnRun
variable {p : Program} {l : Launch} {e : Env} {R : Room} {s : State} {m : MethodId} {args : Array Value} {below : List Frame} {meth : Method} {c : Code} {T T' : State} {locs : List Loc} {cells slots : Nat}
/-- from here the run ends, as G says -/
def own_Run (p : Program) (e : Env) (below : List Frame) (G : Outcome → State → Prop) (T : State) (g : JFrame) : Prop :=
  ∃ s₂ o, Steps p.tables e below (T.setTop g) s₂ ∧ s₂.status = .running ∧ Ended s₂ below o ∧ G o s₂
theorem own_go {G : Outcome → State → Prop} {g g' : JFrame} (h : ∀ t, Steps p.tables e below (T'.setTop g') t → Steps p.tables e below (T.setTop g) t) (k : own_Run p e below G T' g') : own_Run p e below G T g := by
  obtain ⟨s₂, o, h1, h2, h3, h4⟩ := k
  exact ⟨s₂, o, h _ h1, h2, h3, h4⟩
theorem own_goT {G : Outcome → State → Prop} {g g' : JFrame} (h : Steps p.tables e below (T.setTop g) (T'.setTop g')) (k : own_Run p e below G T' g') : own_Run p e below G T g :=
  own_go (fun _ q => h.trans q) k
theorem own_start {G : Outcome → State → Prop} {f f' : JFrame} (h : f = f') (k : own_Run p e below G T f') : ∃ s₂ o, Steps p.tables e below (T.setTop f) s₂ ∧ s₂.status = .running ∧ Ended s₂ below o ∧ G o s₂ := by
  subst h
  exact k
theorem own_done {Q : Option Value → Heap → List Loc → Prop} {C N : Nat} {g : JFrame} (X : Stand p l e R s m args below meth c T locs cells slots) {v : Option Value} (hv : meth.sig.returnType = none → v = none) (hlocks : meth.locks = false)
    (hstep : ∀ fs, (∀ (f : JFrame) (acts : List Action), f.method = m → f.locked = none → f.entered = [] → (doReturn e (T.setTop f) acts v).1 = T.setFrames fs) → Steps p.tables e below (T.setTop g) (T.setFrames fs))
    (hQ : Q v T.heap locs) (hc : cells ≤ C) (hs : slots ≤ N) :
    own_Run p e below (fun o U' => ∃ v L, o = .returned v ∧ Q v U'.heap L ∧ FrameEnd s o U' L C N) T g := by
  obtain ⟨fs, hr, hrun, hended, hW, hsame⟩ := X.leave hv hlocks
  exact ⟨_, _, hstep fs hr, hrun, hended, _, _, rfl, hQ, ⟨_, rfl⟩, hW, hsame.mono hc hs⟩
theorem own_mono {cells' slots' : Nat} (X : Stand p l e R s m args below meth c T locs cells slots) (hc : cells ≤ cells') (hs : slots ≤ slots') : Stand p l e R s m args below meth c T locs cells' slots' :=
  ⟨X.admits, X.cas, X.clock, X.frames, X.room, X.hears, X.method, X.code, X.here, X.tail, X.warmed, X.limits, X.bytes, X.same.mono hc hs⟩
theorem own_retI (X : Stand p l e R s m args below meth c T locs cells slots) (hx : p.tables.exec = Jvm.exec) {pc : Nat} {Ls : Array Slot} {z : Int32} {rest : List Value} (hret : meth.sig.returnType = some .int) (hd : decode c.code pc = .ok (.ireturn, 1)) {fs : List Frame}
    (hl : ∀ (f : JFrame) (acts : List Action), f.method = m → f.locked = none → f.entered = [] → (doReturn e (T.setTop f) acts (some (.int z))).1 = T.setFrames fs) : Steps p.tables e below (T.setTop (mkF m pc Ls (.int z :: rest))) (T.setFrames fs) :=
  retOut X hx hret rfl (Or.inl ⟨rfl, Or.inl rfl, z, rfl⟩) hd hl
theorem own_retL (X : Stand p l e R s m args below meth c T locs cells slots) (hx : p.tables.exec = Jvm.exec) {pc : Nat} {Ls : Array Slot} {z : Int64} {rest : List Value} (hret : meth.sig.returnType = some .long) (hd : decode c.code pc = .ok (.lreturn, 1)) {fs : List Frame}
    (hl : ∀ (f : JFrame) (acts : List Action), f.method = m → f.locked = none → f.entered = [] → (doReturn e (T.setTop f) acts (some (.long z))).1 = T.setFrames fs) : Steps p.tables e below (T.setTop (mkF m pc Ls (.long z :: rest))) (T.setFrames fs) :=
  retOut X hx hret rfl (Or.inr (Or.inl ⟨rfl, rfl, z, rfl⟩)) hd hl
theorem own_retA {t : FieldType} (X : Stand p l e R s m args below meth c T locs cells slots) (hx : p.tables.exec = Jvm.exec) {pc : Nat} {Ls : Array Slot} {w : Value} {rest : List Value} (hret : meth.sig.returnType = some t) (ht : t.isReference = true) (hn : narrow t w = w) (hw : w.isRef = true) (hd : decode c.code pc = .ok (.areturn, 1)) {fs : List Frame}
    (hl : ∀ (f : JFrame) (acts : List Action), f.method = m → f.locked = none → f.entered = [] → (doReturn e (T.setTop f) acts (some w)).1 = T.setFrames fs) : Steps p.tables e below (T.setTop (mkF m pc Ls (w :: rest))) (T.setFrames fs) :=
  retOut X hx hret hn (Or.inr (Or.inr (Or.inr (Or.inr ⟨rfl, ht, hw⟩)))) hd hl
theorem own_ns {Z : State} {h : Heap} {a : Addr} {C : String} (E : Exa Z h a C) : ∃ c : Cell, h[a]? = some c ∧ c.vm.isStatics = false := by
  obtain ⟨c, k, h1, -, -, h4, -⟩ := E
  exact ⟨c, h1, h4⟩
theorem own_nsV {Z : State} {h : Heap} {a : Addr} {k : ClassId} {ty : FieldType} {n : Int32} {vs : List Value} {d : Value} (V : Arv Z h a k ty n vs d) : ∃ c : Cell, h[a]? = some c ∧ c.vm.isStatics = false := by
  obtain ⟨c, A, -⟩ := V
  exact ⟨c, A.1, A.plain⟩
theorem own_staKeep {Z : State} {h h' : Heap} {ws : List Addr} {C n d : String} {w : Value} (F : Sta Z h C n d w) (K : Keep h h' ws) (q : ∀ x ∈ ws, ∃ c : Cell, h[x]? = some c ∧ c.vm.isStatics = false) : Sta Z h' C n d w := by
  obtain ⟨cf, i, k, f, st, cell, h1, h2, h3, h4, h5, h6, h7⟩ := F
  refine ⟨cf, i, k, f, st, cell, h1, h2, h3, h4, K.2.1 st cell h5 (fun hm => ?_), h6, h7⟩
  obtain ⟨c, e1, e2⟩ := q st hm
  cases h5.symm.trans e1
  rw [h6] at e2; cases e2
theorem own_eqL {args : Array Value} {first s : State} {o : Option Outcome} {idx : List Nat} {t : Term} {n : Int64} (h : (Jvm.Cond.eq t (Term.long n)).value args first o s idx = some true) : t.eval args first o idx s = some (.long n) := by
  cases ht : t.eval args first o idx s with
  | none => simp [Cond.value, ht] at h
  | some x => cases x <;> simp [Cond.value, ht, Term.eval] at h ⊢ <;> exact h
theorem own_eqI {args : Array Value} {first s : State} {o : Option Outcome} {idx : List Nat} {t : Term} {n : Int32} (h : (Jvm.Cond.eq t (Term.int n)).value args first o s idx = some true) : t.eval args first o idx s = some (.int n) := by
  cases ht : t.eval args first o idx s with
  | none => simp [Cond.value, ht] at h
  | some x => cases x <;> simp [Cond.value, ht, Term.eval] at h ⊢ <;> exact h
theorem own_eqR {args : Array Value} {first s : State} {o : Option Outcome} {idx : List Nat} {t u : Term} {x : Addr} (h : (Jvm.Cond.eq t u).value args first o s idx = some true) (hu : u.eval args first o idx s = some (.ref x)) : t.eval args first o idx s = some (.ref x) := by
  cases ht : t.eval args first o idx s with
  | none => simp [Cond.value, ht] at h
  | some y => cases y <;> simp [Cond.value, ht, hu] at h ⊢ <;> exact h
theorem own_nf {s : State} {args : Array Value} {C : String} {y y' : MethodName} (hsel : (Jvm.Cond.selects C y y).before args s = true) (hc : y'.cls = y.cls) : NotFace s y' := fun r0 h0 => by
  obtain ⟨c2, r2, m2, q1, q2, q3, q4, kP, hkP, hkPi⟩ := Cond.selects_spec hsel
  have a := findClass_of_methodNamed q3
  have b := findClass_of_methodNamed h0
  rw [hc] at b
  have e := Option.some.inj (a.symm.trans b)
  exact ⟨kP, by rw [← e]; exact hkP, hkPi⟩
theorem own_selP {s : State} {args args' : Array Value} {C : String} {y y' : MethodName} (hsel : (Jvm.Cond.selects C y' y').before args s = true) (hc : y.cls = y'.cls) (hpriv : s.PrivateAt y) (hinst : (Jvm.Cond.instanceMethod y).before args' s = true) (hy : y.cls ≠ "java/lang/invoke/MethodHandle" ∧ y.cls ≠ "java/lang/invoke/VarHandle") : (Jvm.Cond.selects y.cls y y).before args' s = true := by
  obtain ⟨mk, methM, hnamed, -, -, -⟩ := Cond.instanceMethod_spec hinst
  obtain ⟨k, hk, hni⟩ := own_nf hsel hc mk hnamed
  exact selects_self_of_private (findClass_of_methodNamed hnamed) hk hni hpriv hinst hy
end OwnRun
theorem own_lcLt {x y : Int64} (h : x < y) : lcmpW x y = -1 := by
  have h1 : ¬ (x > y) := by simp only [GT.gt, Int64.lt_iff_toInt_lt] at h ⊢; omega
  have h2 : ¬ (x = y) := by rintro rfl; exact Int64.lt_irrefl h
  simp [lcmpW, h1, h2]
theorem own_lcGt {x y : Int64} (h : y < x) : lcmpW x y = 1 := by
  have h1 : x > y := h
  simp [lcmpW, h1]
theorem own_lcEq {x y : Int64} (h : x = y) : lcmpW x y = 0 := by
  subst h
  have h1 : ¬ (x > x) := Int64.lt_irrefl
  simp [lcmpW, h1]
theorem own_lcNlt {x y : Int64} (h : ¬ x < y) : lcmpW x y = 0 ∨ lcmpW x y = 1 := by
  by_cases q : x = y
  · exact Or.inl (own_lcEq q)
  · refine Or.inr (own_lcGt ?_)
    simp only [Int64.lt_iff_toInt_lt, ← Int64.toInt_inj] at h q ⊢; omega
theorem own_lcNgt {x y : Int64} (h : ¬ y < x) : lcmpW x y = 0 ∨ lcmpW x y = -1 := by
  by_cases q : x = y
  · exact Or.inl (own_lcEq q)
  · refine Or.inr (own_lcLt ?_)
    simp only [Int64.lt_iff_toInt_lt, ← Int64.toInt_inj] at h q ⊢; omega
theorem own_lcNe {x y : Int64} (h : ¬ x = y) : lcmpW x y = 1 ∨ lcmpW x y = -1 := by
  by_cases q : x < y
  · exact Or.inr (own_lcLt q)
  · refine Or.inl (own_lcGt ?_)
    simp only [Int64.lt_iff_toInt_lt, ← Int64.toInt_inj] at h q ⊢; omega
theorem own_lcT {x y : Int64} (h : x < y) : ifCond.holds .lt (lcmpW x y) = true ∧ ifCond.holds .ge (lcmpW x y) = false ∧ ifCond.holds .gt (lcmpW y x) = true ∧ ifCond.holds .le (lcmpW y x) = false := by
  rw [own_lcLt h, own_lcGt h]; decide
theorem own_lcF {x y : Int64} (h : ¬ x < y) : ifCond.holds .lt (lcmpW x y) = false ∧ ifCond.holds .ge (lcmpW x y) = true ∧ ifCond.holds .gt (lcmpW y x) = false ∧ ifCond.holds .le (lcmpW y x) = true := by
  rcases own_lcNlt h with q | q <;> rcases own_lcNgt (x := y) (y := x) h with r | r <;> rw [q, r] <;> decide
theorem own_lcTe {x y : Int64} (h : x = y) : ifCond.holds .eq (lcmpW x y) = true ∧ ifCond.holds .ne (lcmpW x y) = false := by
  rw [own_lcEq h]; decide
theorem own_lcFe {x y : Int64} (h : ¬ x = y) : ifCond.holds .eq (lcmpW x y) = false ∧ ifCond.holds .ne (lcmpW x y) = true := by
  rcases own_lcNe h with q | q <;> rw [q] <;> decide
def own_m1 (x : Int64) : Int64 := (x ^^^ ((x.toUInt64 >>> ((30 : Int32) &&& 0x3f).toInt64.toUInt64).toInt64)) * (-4658895280553007687 : Int64)
def own_m2 (x : Int64) : Int64 := (x ^^^ ((x.toUInt64 >>> ((27 : Int32) &&& 0x3f).toInt64.toUInt64).toInt64)) * (-7723592293110705685 : Int64)
def own_m3 (x : Int64) : Int64 := x ^^^ ((x.toUInt64 >>> ((31 : Int32) &&& 0x3f).toInt64.toUInt64).toInt64)
def own_mix (x : Int64) : Int64 := own_m3 (own_m2 (own_m1 x))
def own_u1 (x : Int64) : Int64 := ((x ^^^ ((x.toUInt64 >>> ((31 : Int32) &&& 0x3f).toInt64.toUInt64).toInt64)) ^^^ ((x.toUInt64 >>> ((62 : Int32) &&& 0x3f).toInt64.toUInt64).toInt64)) * (3573116690164977347 : Int64)
def own_u2 (x : Int64) : Int64 := ((x ^^^ ((x.toUInt64 >>> ((27 : Int32) &&& 0x3f).toInt64.toUInt64).toInt64)) ^^^ ((x.toUInt64 >>> ((54 : Int32) &&& 0x3f).toInt64.toUInt64).toInt64)) * (-7575587736534282103 : Int64)
def own_u3 (x : Int64) : Int64 := (x ^^^ ((x.toUInt64 >>> ((30 : Int32) &&& 0x3f).toInt64.toUInt64).toInt64)) ^^^ ((x.toUInt64 >>> ((60 : Int32) &&& 0x3f).toInt64.toUInt64).toInt64)
def own_unmix (x : Int64) : Int64 := own_u3 (own_u2 (own_u1 x))
theorem own_shr (x : Int64) (k : Int32) (n : Nat) (h : ((k &&& 0x3f).toInt64.toUInt64.toBitVec % 64).toNat = n) : ((x.toUInt64 >>> (k &&& 0x3f).toInt64.toUInt64).toInt64).toBitVec = x.toBitVec >>> n := by
  show x.toBitVec >>> ((k &&& 0x3f).toInt64.toUInt64.toBitVec % 64) = _
  rw [BitVec.ushiftRight_eq', h]
theorem own_inv31 (x : BitVec 64) (n : Nat) (h : 64 ≤ n + n + n) : ((x ^^^ x >>> n) ^^^ (x ^^^ x >>> n) >>> n) ^^^ (x ^^^ x >>> n) >>> (n + n) = x := by
  ext i hi
  simp only [BitVec.getElem_xor, BitVec.getElem_ushiftRight, BitVec.getLsbD_xor, BitVec.getLsbD_ushiftRight]
  have h3 : x.getLsbD (n + (n + n + i)) = false := BitVec.getLsbD_of_ge _ _ (by omega)
  rw [h3, ← Nat.add_assoc n n i]
  cases x[i] <;> cases x.getLsbD (n + i) <;> cases x.getLsbD (n + n + i) <;> rfl
theorem own_b1 (x : Int64) : (own_m1 x).toBitVec = (x.toBitVec ^^^ x.toBitVec >>> 30) * 0xbf58476d1ce4e5b9#64 := by
  rw [own_m1, Int64.toBitVec_mul, Int64.toBitVec_xor, own_shr x _ 30 (by decide)]; rfl
theorem own_b2 (x : Int64) : (own_m2 x).toBitVec = (x.toBitVec ^^^ x.toBitVec >>> 27) * 0x94d049bb133111eb#64 := by
  rw [own_m2, Int64.toBitVec_mul, Int64.toBitVec_xor, own_shr x _ 27 (by decide)]; rfl
theorem own_b3 (x : Int64) : (own_m3 x).toBitVec = x.toBitVec ^^^ x.toBitVec >>> 31 := by
  rw [own_m3, Int64.toBitVec_xor, own_shr x _ 31 (by decide)]
theorem own_c1 (x : Int64) : (own_u1 x).toBitVec = ((x.toBitVec ^^^ x.toBitVec >>> 31) ^^^ x.toBitVec >>> 62) * 0x319642b2d24d8ec3#64 := by
  rw [own_u1, Int64.toBitVec_mul, Int64.toBitVec_xor, Int64.toBitVec_xor, own_shr x _ 31 (by decide), own_shr x _ 62 (by decide)]; rfl
theorem own_c2 (x : Int64) : (own_u2 x).toBitVec = ((x.toBitVec ^^^ x.toBitVec >>> 27) ^^^ x.toBitVec >>> 54) * 0x96de1b173f119089#64 := by
  rw [own_u2, Int64.toBitVec_mul, Int64.toBitVec_xor, Int64.toBitVec_xor, own_shr x _ 27 (by decide), own_shr x _ 54 (by decide)]; rfl
theorem own_c3 (x : Int64) : (own_u3 x).toBitVec = (x.toBitVec ^^^ x.toBitVec >>> 30) ^^^ x.toBitVec >>> 60 := by
  rw [own_u3, Int64.toBitVec_xor, Int64.toBitVec_xor, own_shr x _ 30 (by decide), own_shr x _ 60 (by decide)]
theorem own_back (z : Int64) : own_unmix (own_mix z) = z := by
  apply Int64.toBitVec_inj.mp
  rw [own_unmix, own_mix, own_c3, own_c2, own_c1, own_b3, own_b2, own_b1]
  rw [own_inv31 _ 31 (by decide), BitVec.mul_assoc, show (0x94d049bb133111eb#64 * 0x319642b2d24d8ec3#64 : BitVec 64) = 1#64 by decide, BitVec.mul_one]
  rw [own_inv31 _ 27 (by decide), BitVec.mul_assoc, show (0xbf58476d1ce4e5b9#64 * 0x96de1b173f119089#64 : BitVec 64) = 1#64 by decide, BitVec.mul_one]
  rw [own_inv31 _ 30 (by decide)]
theorem d1_0 : decode prog_33_method_7_code 0 = .ok (.lload_n 0, 1) := by decide +kernel
theorem d1_1 : decode prog_33_method_7_code 1 = .ok (.lload_n 0, 1) := by decide +kernel
theorem d1_2 : decode prog_33_method_7_code 2 = .ok (.bipush 30, 2) := by decide +kernel
theorem d1_4 : decode prog_33_method_7_code 4 = .ok (.lushr, 1) := by decide +kernel
theorem d1_5 : decode prog_33_method_7_code 5 = .ok (.lxor, 1) := by decide +kernel
theorem d1_6 : decode prog_33_method_7_code 6 = .ok (.ldc2_w 45, 3) := by decide +kernel
theorem d1_9 : decode prog_33_method_7_code 9 = .ok (.lmul, 1) := by decide +kernel
theorem d1_10 : decode prog_33_method_7_code 10 = .ok (.lstore_n 0, 1) := by decide +kernel
theorem d1_11 : decode prog_33_method_7_code 11 = .ok (.lload_n 0, 1) := by decide +kernel
theorem d1_12 : decode prog_33_method_7_code 12 = .ok (.lload_n 0, 1) := by decide +kernel
theorem d1_13 : decode prog_33_method_7_code 13 = .ok (.bipush 27, 2) := by decide +kernel
theorem d1_15 : decode prog_33_method_7_code 15 = .ok (.lushr, 1) := by decide +kernel
theorem d1_16 : decode prog_33_method_7_code 16 = .ok (.lxor, 1) := by decide +kernel
theorem d1_17 : decode prog_33_method_7_code 17 = .ok (.ldc2_w 47, 3) := by decide +kernel
theorem d1_20 : decode prog_33_method_7_code 20 = .ok (.lmul, 1) := by decide +kernel
theorem d1_21 : decode prog_33_method_7_code 21 = .ok (.lstore_n 0, 1) := by decide +kernel
theorem d1_22 : decode prog_33_method_7_code 22 = .ok (.lload_n 0, 1) := by decide +kernel
theorem d1_23 : decode prog_33_method_7_code 23 = .ok (.lload_n 0, 1) := by decide +kernel
theorem d1_24 : decode prog_33_method_7_code 24 = .ok (.bipush 31, 2) := by decide +kernel
theorem d1_26 : decode prog_33_method_7_code 26 = .ok (.lushr, 1) := by decide +kernel
theorem d1_27 : decode prog_33_method_7_code 27 = .ok (.lxor, 1) := by decide +kernel
theorem d1_28 : decode prog_33_method_7_code 28 = .ok (.lreturn, 1) := by decide +kernel
theorem pn_1 : plainName "com/example/near_duplicate_finder/nearduplicatefinder/ShingleHash" = true := by first | (simp [plainName, overriddenIn]; done) | decide +kernel
theorem ef_1 (m : MethodId) (x0 : Int64) : entryFrame m #[(.long x0)] 2 = mkF m 0 #[.val (.long x0), .second] [] := by first | (simp [entryFrame, mkF, argsToLocals, Value.category]; done) | rfl
def Q1 (Z : State) (q1 : Int64) (h0 : Heap) (n0 : Nat) (v : Option Value) (h : Heap) (L : List Loc) : Prop := v = some (.long (own_mix q1)) ∧ Fr n0 L ∧ h = h0
set_option maxRecDepth 65536 in
set_option maxHeartbeats 40000000 in
theorem rm1 (l : Launch) (Z : State) (a0 : Array Value) (hw : ∀ d ∈ tables_1, d.before a0 Z = true) (ws : List Jvm.Cond) (q1 : Int64) (h0 : Heap) (n0 : Nat) (Z0 : n0 ≤ h0.size) :
    MetFree l (⟨"com/example/near_duplicate_finder/nearduplicatefinder/ShingleHash", "mix", "(J)J"⟩ : MethodName) (head1 (Jvm.Cond.code (⟨"com/example/near_duplicate_finder/nearduplicatefinder/ShingleHash", "mix", "(J)J"⟩ : MethodName) prog_33_method_7_code 2 (some .long) :: ws) ({ frames := 0, cells := 0, slots := 0, locals := 0 } : Room)) (fun a U => a = #[(.long q1)] ∧ Z.Warmed39 U.vm ∧ U.heap = h0) (fun _ _ _ _ _ => True) (fun _ U o U' => ∃ v L, o = .returned v ∧ Q1 Z q1 h0 n0 v U'.heap L ∧ FrameEnd U o U' L ({ frames := 0, cells := 0, slots := 0, locals := 0 } : Room).cells ({ frames := 0, cells := 0, slots := 0, locals := 0 } : Room).slots) := by
  refine MetFree.of_bodySF (plainFor_of_name pn_1) hisR ?_
  intro p e s m args below meth c s₁ Bd hml0 hP hK
  obtain ⟨rfl, hZ, hh⟩ := hP
  have hx := Bd.exec
  have hby := Bd.bytes
  have hml : c.maxLocals = 2 := hml0
  have hown : s.vm.findClass "com/example/near_duplicate_finder/nearduplicatefinder/ShingleHash" = some m.cls := findClass_of_methodNamed Bd.named
  have hnm := (name_of_methodNamed Bd.named Bd.method).1
  have hret := Bd.returns
  have hlk : meth.locks = false := BodyLoose.notSynchronized Bd
  have X0 : Stand p l e ({ frames := 0, cells := 0, slots := 0, locals := 0 } : Room) s m #[(.long q1)] below meth c s₁ [] 0 0 := Stand.of_body Bd
  have e0 : s₁.heap = h0 := by rw [← hh, Bd.state]; rfl
  have N0 := Fr.nil n0
  have W := fun (k : Nat) {d : Jvm.Cond} (h : tables_1[k]? = some d) => hw d (List.mem_of_getElem? h)
  have K0 : Keep h0 h0 [] := Keep.refl _ _
  refine own_start (ef_1 m q1) ?_
  show own_Run p e below _ s₁ (mkF m 0 #[.val (.long q1), .second] [])
  refine own_go (fun _ k => XS.lloadN X0.here hx rfl (hb hby d1_0) rfl k) ?_
  refine own_go (fun _ k => XS.lloadN X0.here hx rfl (hb hby d1_1) rfl k) ?_
  refine own_go (fun _ k => XS.bipush X0.here hx rfl (hb hby d1_2) k) ?_
  refine own_go (fun _ k => XS.lushr X0.here hx rfl (hb hby d1_4) rfl k) ?_
  show own_Run p e below _ s₁ (mkF m 5 #[.val (.long q1), .second] [(.long ((q1.toUInt64 >>> ((30 : Int32) &&& 0x3f).toInt64.toUInt64).toInt64)), (.long q1)])
  refine own_go (fun _ k => XS.lxor X0.here hx rfl (hb hby d1_5) rfl k) ?_
  show own_Run p e below _ s₁ (mkF m 6 #[.val (.long q1), .second] [(.long (q1 ^^^ ((q1.toUInt64 >>> ((30 : Int32) &&& 0x3f).toInt64.toUInt64).toInt64)))])
  refine own_go (X0.ldc2Long hx hown (mvT hZ (W 4 rfl)) (g := (mkF m 6 #[.val (.long q1), .second] [(.long (q1 ^^^ ((q1.toUInt64 >>> ((30 : Int32) &&& 0x3f).toInt64.toUInt64).toInt64)))])) rfl (hb hby d1_6)) ?_
  show own_Run p e below _ s₁ (mkF m 9 #[.val (.long q1), .second] [(.long (-4658895280553007687 : Int64)), (.long (q1 ^^^ ((q1.toUInt64 >>> ((30 : Int32) &&& 0x3f).toInt64.toUInt64).toInt64)))])
  refine own_go (fun _ k => XS.lmul X0.here hx rfl (hb hby d1_9) rfl k) ?_
  show own_Run p e below _ s₁ (mkF m 10 #[.val (.long q1), .second] [(.long ((q1 ^^^ ((q1.toUInt64 >>> ((30 : Int32) &&& 0x3f).toInt64.toUInt64).toInt64)) * (-4658895280553007687 : Int64)))])
  obtain ⟨v1, hv1⟩ : ∃ z, z = ((q1 ^^^ ((q1.toUInt64 >>> ((30 : Int32) &&& 0x3f).toInt64.toUInt64).toInt64)) * (-4658895280553007687 : Int64)) := ⟨_, rfl⟩
  rw [← hv1]
  show own_Run p e below _ s₁ (mkF m 10 #[.val (.long q1), .second] [(.long v1)])
  refine own_go (fun _ k => XS.lstoreN X0.here hx rfl (hb hby d1_10) rfl (l' := #[.val (.long v1), .second]) rfl k) ?_
  refine own_go (fun _ k => XS.lloadN X0.here hx rfl (hb hby d1_11) rfl k) ?_
  refine own_go (fun _ k => XS.lloadN X0.here hx rfl (hb hby d1_12) rfl k) ?_
  refine own_go (fun _ k => XS.bipush X0.here hx rfl (hb hby d1_13) k) ?_
  show own_Run p e below _ s₁ (mkF m 15 #[.val (.long v1), .second] [(.int (27 : Int32)), (.long v1), (.long v1)])
  refine own_go (fun _ k => XS.lushr X0.here hx rfl (hb hby d1_15) rfl k) ?_
  refine own_go (fun _ k => XS.lxor X0.here hx rfl (hb hby d1_16) rfl k) ?_
  show own_Run p e below _ s₁ (mkF m 17 #[.val (.long v1), .second] [(.long (v1 ^^^ ((v1.toUInt64 >>> ((27 : Int32) &&& 0x3f).toInt64.toUInt64).toInt64)))])
  refine own_go (X0.ldc2Long hx hown (mvT hZ (W 5 rfl)) (g := (mkF m 17 #[.val (.long v1), .second] [(.long (v1 ^^^ ((v1.toUInt64 >>> ((27 : Int32) &&& 0x3f).toInt64.toUInt64).toInt64)))])) rfl (hb hby d1_17)) ?_
  show own_Run p e below _ s₁ (mkF m 20 #[.val (.long v1), .second] [(.long (-7723592293110705685 : Int64)), (.long (v1 ^^^ ((v1.toUInt64 >>> ((27 : Int32) &&& 0x3f).toInt64.toUInt64).toInt64)))])
  refine own_go (fun _ k => XS.lmul X0.here hx rfl (hb hby d1_20) rfl k) ?_
  show own_Run p e below _ s₁ (mkF m 21 #[.val (.long v1), .second] [(.long ((v1 ^^^ ((v1.toUInt64 >>> ((27 : Int32) &&& 0x3f).toInt64.toUInt64).toInt64)) * (-7723592293110705685 : Int64)))])
  obtain ⟨v2, hv2⟩ : ∃ z, z = ((v1 ^^^ ((v1.toUInt64 >>> ((27 : Int32) &&& 0x3f).toInt64.toUInt64).toInt64)) * (-7723592293110705685 : Int64)) := ⟨_, rfl⟩
  rw [← hv2]
  show own_Run p e below _ s₁ (mkF m 21 #[.val (.long v1), .second] [(.long v2)])
  refine own_go (fun _ k => XS.lstoreN X0.here hx rfl (hb hby d1_21) rfl (l' := #[.val (.long v2), .second]) rfl k) ?_
  refine own_go (fun _ k => XS.lloadN X0.here hx rfl (hb hby d1_22) rfl k) ?_
  refine own_go (fun _ k => XS.lloadN X0.here hx rfl (hb hby d1_23) rfl k) ?_
  refine own_go (fun _ k => XS.bipush X0.here hx rfl (hb hby d1_24) k) ?_
  show own_Run p e below _ s₁ (mkF m 26 #[.val (.long v2), .second] [(.int (31 : Int32)), (.long v2), (.long v2)])
  refine own_go (fun _ k => XS.lushr X0.here hx rfl (hb hby d1_26) rfl k) ?_
  refine own_go (fun _ k => XS.lxor X0.here hx rfl (hb hby d1_27) rfl k) ?_
  show own_Run p e below _ s₁ (mkF m 28 #[.val (.long v2), .second] [(.long (v2 ^^^ ((v2.toUInt64 >>> ((31 : Int32) &&& 0x3f).toInt64.toUInt64).toInt64)))])
  refine own_done (Q := fun v h L => Q1 Z q1 h0 n0 v h L) (v := (some (.long (v2 ^^^ ((v2.toUInt64 >>> ((31 : Int32) &&& 0x3f).toInt64.toUInt64).toInt64))))) X0 (fun h => by rw [hret] at h; cases h) hlk (fun fs hr => own_retL X0 hx hret (hb hby d1_28) hr) ?_ (by decide) (by decide)
  show Q1 Z q1 h0 n0 _ s₁.heap _
  rw [e0]
  subst hv2 hv1
  exact ⟨rfl, N0, rfl⟩
theorem d2_0 : decode method_2_code 0 = .ok (.lload_n 0, 1) := by decide +kernel
theorem d2_1 : decode method_2_code 1 = .ok (.lload_n 0, 1) := by decide +kernel
theorem d2_2 : decode method_2_code 2 = .ok (.bipush 31, 2) := by decide +kernel
theorem d2_4 : decode method_2_code 4 = .ok (.lushr, 1) := by decide +kernel
theorem d2_5 : decode method_2_code 5 = .ok (.lxor, 1) := by decide +kernel
theorem d2_6 : decode method_2_code 6 = .ok (.lload_n 0, 1) := by decide +kernel
theorem d2_7 : decode method_2_code 7 = .ok (.bipush 62, 2) := by decide +kernel
theorem d2_9 : decode method_2_code 9 = .ok (.lushr, 1) := by decide +kernel
theorem d2_10 : decode method_2_code 10 = .ok (.lxor, 1) := by decide +kernel
theorem d2_11 : decode method_2_code 11 = .ok (.ldc2_w 7, 3) := by decide +kernel
theorem d2_14 : decode method_2_code 14 = .ok (.lmul, 1) := by decide +kernel
theorem d2_15 : decode method_2_code 15 = .ok (.lstore_n 0, 1) := by decide +kernel
theorem d2_16 : decode method_2_code 16 = .ok (.lload_n 0, 1) := by decide +kernel
theorem d2_17 : decode method_2_code 17 = .ok (.lload_n 0, 1) := by decide +kernel
theorem d2_18 : decode method_2_code 18 = .ok (.bipush 27, 2) := by decide +kernel
theorem d2_20 : decode method_2_code 20 = .ok (.lushr, 1) := by decide +kernel
theorem d2_21 : decode method_2_code 21 = .ok (.lxor, 1) := by decide +kernel
theorem d2_22 : decode method_2_code 22 = .ok (.lload_n 0, 1) := by decide +kernel
theorem d2_23 : decode method_2_code 23 = .ok (.bipush 54, 2) := by decide +kernel
theorem d2_25 : decode method_2_code 25 = .ok (.lushr, 1) := by decide +kernel
theorem d2_26 : decode method_2_code 26 = .ok (.lxor, 1) := by decide +kernel
theorem d2_27 : decode method_2_code 27 = .ok (.ldc2_w 9, 3) := by decide +kernel
theorem d2_30 : decode method_2_code 30 = .ok (.lmul, 1) := by decide +kernel
theorem d2_31 : decode method_2_code 31 = .ok (.lstore_n 0, 1) := by decide +kernel
theorem d2_32 : decode method_2_code 32 = .ok (.lload_n 0, 1) := by decide +kernel
theorem d2_33 : decode method_2_code 33 = .ok (.lload_n 0, 1) := by decide +kernel
theorem d2_34 : decode method_2_code 34 = .ok (.bipush 30, 2) := by decide +kernel
theorem d2_36 : decode method_2_code 36 = .ok (.lushr, 1) := by decide +kernel
theorem d2_37 : decode method_2_code 37 = .ok (.lxor, 1) := by decide +kernel
theorem d2_38 : decode method_2_code 38 = .ok (.lload_n 0, 1) := by decide +kernel
theorem d2_39 : decode method_2_code 39 = .ok (.bipush 60, 2) := by decide +kernel
theorem d2_41 : decode method_2_code 41 = .ok (.lushr, 1) := by decide +kernel
theorem d2_42 : decode method_2_code 42 = .ok (.lxor, 1) := by decide +kernel
theorem d2_43 : decode method_2_code 43 = .ok (.lreturn, 1) := by decide +kernel
theorem pn_2 : plainName "com/example/near_duplicate_finder/nearduplicatefinder/ShingleHashMixPinLaw" = true := by first | (simp [plainName, overriddenIn]; done) | decide +kernel
theorem ef_2 (m : MethodId) (x0 : Int64) : entryFrame m #[(.long x0)] 2 = mkF m 0 #[.val (.long x0), .second] [] := by first | (simp [entryFrame, mkF, argsToLocals, Value.category]; done) | rfl
def Q2 (Z : State) (q1 : Int64) (h0 : Heap) (n0 : Nat) (v : Option Value) (h : Heap) (L : List Loc) : Prop := v = some (.long (own_unmix q1)) ∧ Fr n0 L ∧ h = h0
set_option maxRecDepth 65536 in
set_option maxHeartbeats 40000000 in
theorem rm2 (l : Launch) (Z : State) (a0 : Array Value) (hw : ∀ d ∈ tables_1, d.before a0 Z = true) (ws : List Jvm.Cond) (q1 : Int64) (h0 : Heap) (n0 : Nat) (Z0 : n0 ≤ h0.size) :
    MetFree l (⟨"com/example/near_duplicate_finder/nearduplicatefinder/ShingleHashMixPinLaw", "unmix", "(J)J"⟩ : MethodName) (head1 (Jvm.Cond.code (⟨"com/example/near_duplicate_finder/nearduplicatefinder/ShingleHashMixPinLaw", "unmix", "(J)J"⟩ : MethodName) method_2_code 2 (some .long) :: ws) ({ frames := 0, cells := 0, slots := 0, locals := 0 } : Room)) (fun a U => a = #[(.long q1)] ∧ Z.Warmed39 U.vm ∧ U.heap = h0) (fun _ _ _ _ _ => True) (fun _ U o U' => ∃ v L, o = .returned v ∧ Q2 Z q1 h0 n0 v U'.heap L ∧ FrameEnd U o U' L ({ frames := 0, cells := 0, slots := 0, locals := 0 } : Room).cells ({ frames := 0, cells := 0, slots := 0, locals := 0 } : Room).slots) := by
  refine MetFree.of_bodySF (plainFor_of_name pn_2) hisR ?_
  intro p e s m args below meth c s₁ Bd hml0 hP hK
  obtain ⟨rfl, hZ, hh⟩ := hP
  have hx := Bd.exec
  have hby := Bd.bytes
  have hml : c.maxLocals = 2 := hml0
  have hown : s.vm.findClass "com/example/near_duplicate_finder/nearduplicatefinder/ShingleHashMixPinLaw" = some m.cls := findClass_of_methodNamed Bd.named
  have hnm := (name_of_methodNamed Bd.named Bd.method).1
  have hret := Bd.returns
  have hlk : meth.locks = false := BodyLoose.notSynchronized Bd
  have X0 : Stand p l e ({ frames := 0, cells := 0, slots := 0, locals := 0 } : Room) s m #[(.long q1)] below meth c s₁ [] 0 0 := Stand.of_body Bd
  have e0 : s₁.heap = h0 := by rw [← hh, Bd.state]; rfl
  have N0 := Fr.nil n0
  have W := fun (k : Nat) {d : Jvm.Cond} (h : tables_1[k]? = some d) => hw d (List.mem_of_getElem? h)
  have K0 : Keep h0 h0 [] := Keep.refl _ _
  refine own_start (ef_2 m q1) ?_
  show own_Run p e below _ s₁ (mkF m 0 #[.val (.long q1), .second] [])
  refine own_go (fun _ k => XS.lloadN X0.here hx rfl (hb hby d2_0) rfl k) ?_
  refine own_go (fun _ k => XS.lloadN X0.here hx rfl (hb hby d2_1) rfl k) ?_
  refine own_go (fun _ k => XS.bipush X0.here hx rfl (hb hby d2_2) k) ?_
  refine own_go (fun _ k => XS.lushr X0.here hx rfl (hb hby d2_4) rfl k) ?_
  show own_Run p e below _ s₁ (mkF m 5 #[.val (.long q1), .second] [(.long ((q1.toUInt64 >>> ((31 : Int32) &&& 0x3f).toInt64.toUInt64).toInt64)), (.long q1)])
  refine own_go (fun _ k => XS.lxor X0.here hx rfl (hb hby d2_5) rfl k) ?_
  refine own_go (fun _ k => XS.lloadN X0.here hx rfl (hb hby d2_6) rfl k) ?_
  refine own_go (fun _ k => XS.bipush X0.here hx rfl (hb hby d2_7) k) ?_
  refine own_go (fun _ k => XS.lushr X0.here hx rfl (hb hby d2_9) rfl k) ?_
  show own_Run p e below _ s₁ (mkF m 10 #[.val (.long q1), .second] [(.long ((q1.toUInt64 >>> ((62 : Int32) &&& 0x3f).toInt64.toUInt64).toInt64)), (.long (q1 ^^^ ((q1.toUInt64 >>> ((31 : Int32) &&& 0x3f).toInt64.toUInt64).toInt64)))])
  refine own_go (fun _ k => XS.lxor X0.here hx rfl (hb hby d2_10) rfl k) ?_
  show own_Run p e below _ s₁ (mkF m 11 #[.val (.long q1), .second] [(.long ((q1 ^^^ ((q1.toUInt64 >>> ((31 : Int32) &&& 0x3f).toInt64.toUInt64).toInt64)) ^^^ ((q1.toUInt64 >>> ((62 : Int32) &&& 0x3f).toInt64.toUInt64).toInt64)))])
  refine own_go (X0.ldc2Long hx hown (mvT hZ (W 10 rfl)) (g := (mkF m 11 #[.val (.long q1), .second] [(.long ((q1 ^^^ ((q1.toUInt64 >>> ((31 : Int32) &&& 0x3f).toInt64.toUInt64).toInt64)) ^^^ ((q1.toUInt64 >>> ((62 : Int32) &&& 0x3f).toInt64.toUInt64).toInt64)))])) rfl (hb hby d2_11)) ?_
  show own_Run p e below _ s₁ (mkF m 14 #[.val (.long q1), .second] [(.long (3573116690164977347 : Int64)), (.long ((q1 ^^^ ((q1.toUInt64 >>> ((31 : Int32) &&& 0x3f).toInt64.toUInt64).toInt64)) ^^^ ((q1.toUInt64 >>> ((62 : Int32) &&& 0x3f).toInt64.toUInt64).toInt64)))])
  refine own_go (fun _ k => XS.lmul X0.here hx rfl (hb hby d2_14) rfl k) ?_
  show own_Run p e below _ s₁ (mkF m 15 #[.val (.long q1), .second] [(.long (((q1 ^^^ ((q1.toUInt64 >>> ((31 : Int32) &&& 0x3f).toInt64.toUInt64).toInt64)) ^^^ ((q1.toUInt64 >>> ((62 : Int32) &&& 0x3f).toInt64.toUInt64).toInt64)) * (3573116690164977347 : Int64)))])
  obtain ⟨v1, hv1⟩ : ∃ z, z = (((q1 ^^^ ((q1.toUInt64 >>> ((31 : Int32) &&& 0x3f).toInt64.toUInt64).toInt64)) ^^^ ((q1.toUInt64 >>> ((62 : Int32) &&& 0x3f).toInt64.toUInt64).toInt64)) * (3573116690164977347 : Int64)) := ⟨_, rfl⟩
  rw [← hv1]
  show own_Run p e below _ s₁ (mkF m 15 #[.val (.long q1), .second] [(.long v1)])
  refine own_go (fun _ k => XS.lstoreN X0.here hx rfl (hb hby d2_15) rfl (l' := #[.val (.long v1), .second]) rfl k) ?_
  refine own_go (fun _ k => XS.lloadN X0.here hx rfl (hb hby d2_16) rfl k) ?_
  refine own_go (fun _ k => XS.lloadN X0.here hx rfl (hb hby d2_17) rfl k) ?_
  refine own_go (fun _ k => XS.bipush X0.here hx rfl (hb hby d2_18) k) ?_
  show own_Run p e below _ s₁ (mkF m 20 #[.val (.long v1), .second] [(.int (27 : Int32)), (.long v1), (.long v1)])
  refine own_go (fun _ k => XS.lushr X0.here hx rfl (hb hby d2_20) rfl k) ?_
  refine own_go (fun _ k => XS.lxor X0.here hx rfl (hb hby d2_21) rfl k) ?_
  refine own_go (fun _ k => XS.lloadN X0.here hx rfl (hb hby d2_22) rfl k) ?_
  refine own_go (fun _ k => XS.bipush X0.here hx rfl (hb hby d2_23) k) ?_
  show own_Run p e below _ s₁ (mkF m 25 #[.val (.long v1), .second] [(.int (54 : Int32)), (.long v1), (.long (v1 ^^^ ((v1.toUInt64 >>> ((27 : Int32) &&& 0x3f).toInt64.toUInt64).toInt64)))])
  refine own_go (fun _ k => XS.lushr X0.here hx rfl (hb hby d2_25) rfl k) ?_
  refine own_go (fun _ k => XS.lxor X0.here hx rfl (hb hby d2_26) rfl k) ?_
  show own_Run p e below _ s₁ (mkF m 27 #[.val (.long v1), .second] [(.long ((v1 ^^^ ((v1.toUInt64 >>> ((27 : Int32) &&& 0x3f).toInt64.toUInt64).toInt64)) ^^^ ((v1.toUInt64 >>> ((54 : Int32) &&& 0x3f).toInt64.toUInt64).toInt64)))])
  refine own_go (X0.ldc2Long hx hown (mvT hZ (W 11 rfl)) (g := (mkF m 27 #[.val (.long v1), .second] [(.long ((v1 ^^^ ((v1.toUInt64 >>> ((27 : Int32) &&& 0x3f).toInt64.toUInt64).toInt64)) ^^^ ((v1.toUInt64 >>> ((54 : Int32) &&& 0x3f).toInt64.toUInt64).toInt64)))])) rfl (hb hby d2_27)) ?_
  show own_Run p e below _ s₁ (mkF m 30 #[.val (.long v1), .second] [(.long (-7575587736534282103 : Int64)), (.long ((v1 ^^^ ((v1.toUInt64 >>> ((27 : Int32) &&& 0x3f).toInt64.toUInt64).toInt64)) ^^^ ((v1.toUInt64 >>> ((54 : Int32) &&& 0x3f).toInt64.toUInt64).toInt64)))])
  refine own_go (fun _ k => XS.lmul X0.here hx rfl (hb hby d2_30) rfl k) ?_
  show own_Run p e below _ s₁ (mkF m 31 #[.val (.long v1), .second] [(.long (((v1 ^^^ ((v1.toUInt64 >>> ((27 : Int32) &&& 0x3f).toInt64.toUInt64).toInt64)) ^^^ ((v1.toUInt64 >>> ((54 : Int32) &&& 0x3f).toInt64.toUInt64).toInt64)) * (-7575587736534282103 : Int64)))])
  obtain ⟨v2, hv2⟩ : ∃ z, z = (((v1 ^^^ ((v1.toUInt64 >>> ((27 : Int32) &&& 0x3f).toInt64.toUInt64).toInt64)) ^^^ ((v1.toUInt64 >>> ((54 : Int32) &&& 0x3f).toInt64.toUInt64).toInt64)) * (-7575587736534282103 : Int64)) := ⟨_, rfl⟩
  rw [← hv2]
  show own_Run p e below _ s₁ (mkF m 31 #[.val (.long v1), .second] [(.long v2)])
  refine own_go (fun _ k => XS.lstoreN X0.here hx rfl (hb hby d2_31) rfl (l' := #[.val (.long v2), .second]) rfl k) ?_
  refine own_go (fun _ k => XS.lloadN X0.here hx rfl (hb hby d2_32) rfl k) ?_
  refine own_go (fun _ k => XS.lloadN X0.here hx rfl (hb hby d2_33) rfl k) ?_
  refine own_go (fun _ k => XS.bipush X0.here hx rfl (hb hby d2_34) k) ?_
  show own_Run p e below _ s₁ (mkF m 36 #[.val (.long v2), .second] [(.int (30 : Int32)), (.long v2), (.long v2)])
  refine own_go (fun _ k => XS.lushr X0.here hx rfl (hb hby d2_36) rfl k) ?_
  refine own_go (fun _ k => XS.lxor X0.here hx rfl (hb hby d2_37) rfl k) ?_
  refine own_go (fun _ k => XS.lloadN X0.here hx rfl (hb hby d2_38) rfl k) ?_
  refine own_go (fun _ k => XS.bipush X0.here hx rfl (hb hby d2_39) k) ?_
  show own_Run p e below _ s₁ (mkF m 41 #[.val (.long v2), .second] [(.int (60 : Int32)), (.long v2), (.long (v2 ^^^ ((v2.toUInt64 >>> ((30 : Int32) &&& 0x3f).toInt64.toUInt64).toInt64)))])
  refine own_go (fun _ k => XS.lushr X0.here hx rfl (hb hby d2_41) rfl k) ?_
  refine own_go (fun _ k => XS.lxor X0.here hx rfl (hb hby d2_42) rfl k) ?_
  show own_Run p e below _ s₁ (mkF m 43 #[.val (.long v2), .second] [(.long ((v2 ^^^ ((v2.toUInt64 >>> ((30 : Int32) &&& 0x3f).toInt64.toUInt64).toInt64)) ^^^ ((v2.toUInt64 >>> ((60 : Int32) &&& 0x3f).toInt64.toUInt64).toInt64)))])
  refine own_done (Q := fun v h L => Q2 Z q1 h0 n0 v h L) (v := (some (.long ((v2 ^^^ ((v2.toUInt64 >>> ((30 : Int32) &&& 0x3f).toInt64.toUInt64).toInt64)) ^^^ ((v2.toUInt64 >>> ((60 : Int32) &&& 0x3f).toInt64.toUInt64).toInt64))))) X0 (fun h => by rw [hret] at h; cases h) hlk (fun fs hr => own_retL X0 hx hret (hb hby d2_43) hr) ?_ (by decide) (by decide)
  show Q2 Z q1 h0 n0 _ s₁.heap _
  rw [e0]
  subst hv2 hv1
  exact ⟨rfl, N0, rfl⟩
theorem pn_0 : plainName "com/example/near_duplicate_finder/nearduplicatefinder/ShingleHashMixPinLaw" = true := by first | (simp [plainName, overriddenIn]; done) | decide +kernel
theorem ef_0 (m : MethodId) (x0 : Int64) : entryFrame m #[(.long x0)] maxLocals = mkF m 0 #[.val (.long x0), .second] [] := by first | (simp [entryFrame, mkF, argsToLocals, Value.category, maxLocals]; done) | rfl
theorem pd_1 : parseMethodDescriptor "(J)J" = some ⟨[.long], some .long⟩ := by decide +kernel
def Q0 (Z : State) (q1 : Int64) (h0 : Heap) (n0 : Nat) (v : Option Value) (h : Heap) (L : List Loc) : Prop := v = some (.int (1 : Int32)) ∧ Fr n0 L
set_option maxRecDepth 65536 in
set_option maxHeartbeats 40000000 in
theorem rm0 (l : Launch) (Z : State) (a0 : Array Value) (hw : ∀ d ∈ tables_1, d.before a0 Z = true) (ws : List Jvm.Cond) (q1 : Int64) (h0 : Heap) (n0 : Nat) (Z0 : n0 ≤ h0.size) :
    MetFree l x (head1 (Jvm.Cond.code x code maxLocals ret :: ws) room_1) (fun a U => a = #[(.long q1)] ∧ Z.Warmed39 U.vm ∧ U.heap = h0) (fun _ _ _ _ _ => True) (fun _ U o U' => ∃ v L, o = .returned v ∧ Q0 Z q1 h0 n0 v U'.heap L ∧ FrameEnd U o U' L room_1.cells room_1.slots) := by
  refine MetFree.of_bodySF (plainFor_of_name pn_0) hisR ?_
  intro p e s m args below meth c s₁ Bd hml0 hP hK
  obtain ⟨rfl, hZ, hh⟩ := hP
  have hx := Bd.exec
  have hby := Bd.bytes
  have hml : c.maxLocals = 2 := hml0
  have hown : s.vm.findClass "com/example/near_duplicate_finder/nearduplicatefinder/ShingleHashMixPinLaw" = some m.cls := findClass_of_methodNamed Bd.named
  have hnm := (name_of_methodNamed Bd.named Bd.method).1
  have hret := Bd.returns
  have hlk : meth.locks = false := BodyLoose.notSynchronized Bd
  have X0 : Stand p l e room_1 s m #[(.long q1)] below meth c s₁ [] 0 0 := Stand.of_body Bd
  have e0 : s₁.heap = h0 := by rw [← hh, Bd.state]; rfl
  have N0 := Fr.nil n0
  have W := fun (k : Nat) {d : Jvm.Cond} (h : tables_1[k]? = some d) => hw d (List.mem_of_getElem? h)
  have K0 : Keep h0 h0 [] := Keep.refl _ _
  refine own_start (ef_0 m q1) ?_
  show own_Run p e below _ s₁ (mkF m 0 #[.val (.long q1), .second] [])
  refine own_go (fun _ k => XS.lloadN X0.here hx rfl (hb hby at_0) rfl k) ?_
  show own_Run p e below _ s₁ (mkF m 1 #[.val (.long q1), .second] [(.long q1)])
  obtain ⟨_, _, ⟨T1, L1, k1, n1⟩, -, X1, ⟨Lc1, hQ1, l1, y1, z1⟩, st1⟩ := Jvm.LawKit.callS X0 hx (y := (⟨"com/example/near_duplicate_finder/nearduplicatefinder/ShingleHash", "mix", "(J)J"⟩ : MethodName)) hown (mvT hZ (W 0 rfl)) (mvT hZ (W 1 rfl)) (mvT hZ (W 2 rfl)) (mvT hZ (W 3 rfl)) (by decide) (backOf (W := 0) (rm1 l Z a0 hw [] q1 h0 n0 Z0 ) hZ (W 3 rfl) (W 2 rfl) (by decide) (by decide)) (g := (mkF m 1 #[.val (.long q1), .second] [(.long q1)])) rfl (by rw [hml]; rfl) (argsL := [(.long q1)]) (rest := []) (lenOf pd_1 rfl) rfl (by show 2 * 0 + _ ≤ _; exact Nat.le_of_eq rfl) (hb hby at_1) (fun _ _ => ⟨rfl, e0, (by decide : 0 + 0 ≤ _), (by decide : 0 + 0 ≤ _)⟩)
  dsimp only [Pt.U, Pt.locs, Pt.cells, Pt.slots] at X1 l1 y1 z1 st1 hQ1
  subst l1 y1 z1
  obtain ⟨rfl, N1q, e1⟩ := hQ1
  have N1 := Fr.app N0 N1q
  refine own_go st1 ?_
  show own_Run p e below _ T1 (mkF m 4 #[.val (.long q1), .second] [(.long (own_mix q1))])
  obtain ⟨_, _, ⟨T2, L2, k2, n2⟩, -, X2, ⟨Lc2, hQ2, l2, y2, z2⟩, st2⟩ := Jvm.LawKit.callS X1 hx (y := (⟨"com/example/near_duplicate_finder/nearduplicatefinder/ShingleHashMixPinLaw", "unmix", "(J)J"⟩ : MethodName)) hown (mvT hZ (W 6 rfl)) (mvT hZ (W 7 rfl)) (mvT hZ (W 8 rfl)) (mvT hZ (W 9 rfl)) (by decide) (backOf (W := 0) (rm2 l Z a0 hw [] (own_mix q1) h0 n0 Z0 ) hZ (W 9 rfl) (W 8 rfl) (by decide) (by decide)) (g := (mkF m 4 #[.val (.long q1), .second] [(.long (own_mix q1))])) rfl (by rw [hml]; rfl) (argsL := [(.long (own_mix q1))]) (rest := []) (lenOf pd_1 rfl) rfl (by show 2 * 0 + _ ≤ _; exact Nat.le_of_eq rfl) (hb hby at_4) (fun _ _ => ⟨rfl, e1, (by decide : 0 + 0 ≤ _), (by decide : 0 + 0 ≤ _)⟩)
  dsimp only [Pt.U, Pt.locs, Pt.cells, Pt.slots] at X2 l2 y2 z2 st2 hQ2
  subst l2 y2 z2
  obtain ⟨rfl, N2q, e2⟩ := hQ2
  have N2 := Fr.app N1 N2q
  refine own_go st2 ?_
  show own_Run p e below _ T2 (mkF m 7 #[.val (.long q1), .second] [(.long (own_unmix (own_mix q1)))])
  refine own_go (fun _ k => XS.lloadN X2.here hx rfl (hb hby at_7) rfl k) ?_
  refine own_go (fun _ k => XS.lcmp X2.here hx rfl (hb hby at_8) rfl k) ?_
  show own_Run p e below _ T2 (mkF m 9 #[.val (.long q1), .second] [(.int (lcmpW (own_unmix (own_mix q1)) q1))])
  refine own_go (fun _ k => XS.ifNo X2.here hx rfl (hb hby at_9) rfl (own_lcTe (own_back q1 : (own_unmix (own_mix q1)) = q1)).2 k) ?_
  show own_Run p e below _ T2 (mkF m 12 #[.val (.long q1), .second] [])
  refine own_go (fun _ k => XS.iconst X2.here hx rfl (hb hby at_12) k) ?_
  refine own_go (fun _ k => XS.goto X2.here hx rfl (pc0 := 13) (pc' := 17) rfl (hb hby at_13) (by decide) (by decide) k) ?_
  show own_Run p e below _ T2 (mkF m 17 #[.val (.long q1), .second] [(.int (1 : Int32))])
  refine own_done (Q := fun v h L => Q0 Z q1 h0 n0 v h L) (v := (some (.int (1 : Int32)))) X2 (fun h => by rw [hret] at h; cases h) hlk (fun fs hr => retN X2 hx (t := .boolean) hret (by simp) (hb hby at_17) hr) ?_ (by decide) (by decide)
  show Q0 Z q1 h0 n0 _ T2.heap _
  rw [e2]
  exact ⟨rfl, N2⟩
set_option maxRecDepth 65536 in
set_option maxHeartbeats 40000000 in
theorem comes_1 {Post : Tables → Env → Array Value → State → Outcome → State → Prop} (hpost : ∀ tb e args s v u, (limb_1_1.after args s (.returned v) u = true ∧ limb_1_2.after args s (.returned v) u = true ∧ True) → FrameEnd s (.returned v) u (Jvm.fieldLocs frame_1_writes args s ++ Jvm.arrayLocs frame_1_arrays args s ++ Jvm.staticLocs frame_1_statics s) 0 0 → Post tb e args s (.returned v) u) :
    ArmFor flags0 classFile x code maxLocals ret World_1 tables_1 room_1 Calls_1 rest_1 Pre_1 Post := by
  intro l hfl _ _ p e ha hc hk s m args below hf hA hF happ hP
  obtain ⟨hcalls, hrest, hpre⟩ := hP
  obtain ⟨-, -, -, hnamed, -, -, -, hat⟩ := (Spec.applies_iff hf).mp happ
  obtain ⟨hg, hn⟩ := and_e (Cond.before_iff.mp (show (Jvm.Cond.and given_1 narrow_1).before args s = true from hpre))
  obtain ⟨hcount, hr0⟩ := and_e hg
  have ha0 := hr0
  obtain ⟨w0, rfl⟩ : ∃ w0 : Value, args = #[w0] := by
    have hs : args.size = 1 := by simpa [Cond.value, given_1] using hcount
    obtain ⟨L⟩ := args
    match L, hs with
    | [w0], _ => exact ⟨w0, rfl⟩
  have hw := fun d (hd : d ∈ tables_1) => atoms_spec (ws := Jvm.Cond.code x code maxLocals ret :: tables_1) hat d (List.mem_cons_of_mem _ hd)
  have W := fun (k : Nat) {d : Jvm.Cond} (h : tables_1[k]? = some d) => hw d (List.mem_of_getElem? h)
  have hfit : Fit s := fun {y c} hc i hi => by
    obtain ⟨ha, rfl⟩ := Array.getElem?_eq_some_iff.mp hc
    have q := List.all_eq_true.mp ((Array.all_eq_true_iff_forall_mem.mp hF) _ (Array.getElem_mem ha)) i (List.mem_range.mpr hi)
    simpa [Array.getElem?_eq_getElem hi] using q
  obtain ⟨i0, ei0⟩ := isL_v ha0
  obtain rfl : w0 = (.long i0) := Option.some.inj ei0
  obtain ⟨n, o, h1, h2, h3, _, L, rfl, ⟨rfl, N⟩, hq⟩ := rm0 l s _ hw tables_1 i0 s.heap s.heap.size (Nat.le_refl _) p e ha hc hk s m _ below hf ((Spec.applies_iff_loose hf).mp happ).1 ⟨rfl, State.Warmed39.refl s, rfl⟩ trivial
  refine ⟨n, _, h1, h2, h3, hpost _ _ _ _ _ _ ⟨Cond.after_iff.mpr rfl, Cond.after_iff.mpr (eq_i res_at (Term.int_eval (1)) rfl), trivial⟩ ⟨hq.1, hq.2.1, (hq.2.2.sift fun y hy => Or.inr (N y hy)).mono (by decide) (by decide)⟩⟩
theorem main_1_1 : Claimed_1_1 := comes_1 fun _ _ _ _ _ _ h hF => ⟨h.1, hF⟩
theorem main_1_2 : Claimed_1_2 := comes_1 fun _ _ _ _ _ _ h hF => ⟨h.2.1, hF⟩
end Jvm.Pilot.@@N@@
namespace Jvm.Pilot.@@N@@
open Jvm Jvm.ClassFile Sem Op Lib Jvm.Free Jvm.Stand Jvm.Pilot.@@N@@.Jvm.D
/-! MADE BY PROGRAM (witnessworld.py) out of the Statement's table words and the real class files: 9 classes; the members and pool entries that the words name. The judged class is class 1, her method 2. -/
namespace start1
open Jvm.ClassFile
def u (s : String) : CpInfo := .utf8 (stringToUtf16 s)
/-- a pool by its gaps: so many unusable entries, then the entry; so many at the end -/
def gap : Nat → List CpInfo → List CpInfo
  | 0, r => r
  | n + 1, r => .unusable :: gap n r
def poolList (es : List (Nat × CpInfo)) (last : Nat) : List CpInfo := es.foldr (fun e r => gap e.1 (e.2 :: r)) (gap last [])
def pool (es : List (Nat × CpInfo)) (last : Nat) : Array CpInfo := ⟨poolList es last⟩
def fileOf (pool : Array CpInfo) (this : Nat) (attrs : Array Attribute := #[]) (ms : Array MethodInfo := #[]) (fl : Nat := 33) (sup : Nat := 0) (ifs : Array Nat := #[]) (fds : Array FieldInfo := #[]) : ClassFile where
  minorVersion := 0
  majorVersion := 65
  constantPool := pool
  accessFlags := fl
  thisClass := this
  superClass := sup
  interfaces := ifs
  fields := fds
  methods := ms
  attributes := attrs
def plain (name : String) (sup : Option ClassId) : Class where
  name := name
  kind := .ordinary
  loader := none
  accessFlags := 33
  super := sup
  interfaces := #[]
  cf := none
  fields := #[]
  methods := #[]
  instanceTypes := #[]
  staticTypes := #[]
  resolved := #[]
  callSites := []
  init := .initialized
  statics := none
  mirror := none

def pool0 : Array CpInfo := pool [(5, u "<init>"), (0, u "()V"), (1, .class_ 10), (1, u "java/lang/Object")] 113

def k0m0 : Method := { name := "<init>", desc := "()V", sig := { parameters := [], returnType := none }, accessFlags := 1, code := none }
/-- java/lang/Object -/
def k0 : Class := { plain "java/lang/Object" none with
  accessFlags := 33
  interfaces := #[]
  cf := some (fileOf pool0 8 #[] #[{ accessFlags := 1, nameIndex := 5, descriptorIndex := 6, attributes := #[] }] 33 0 #[] #[])
  fields := #[]
  methods := #[k0m0]
  instanceTypes := #[]
  staticTypes := #[]
  resolved := Array.replicate 124 none
  statics := none }

def pool1 : Array CpInfo := pool [(2, .class_ 4), (1, u "java/lang/Object"), (0, u "<init>"), (0, u "()V"), (0, .long 3573116690164977347), (1, .long 10871156337175269513), (1, .methodref 12 13), (0, .class_ 14), (0, .nameAndType 15 16), (0, u "com/example/near_duplicate_finder/nearduplicatefinder/ShingleHash"), (0, u "mix"), (0, u "(J)J"), (0, .methodref 18 19), (0, .class_ 20), (0, .nameAndType 21 16), (0, u "com/example/near_duplicate_finder/nearduplicatefinder/ShingleHashMixPinLaw"), (0, u "unmix"), (2, u "law"), (0, u "(J)Z")] 3

def k1m0 : Method := { name := "<init>", desc := "()V", sig := { parameters := [], returnType := none }, accessFlags := 2, code := none }
def k1c1 : Code := { maxStack := 5, maxLocals := 2, code := method_2_code, exceptionTable := #[], attributes := #[] }
def k1m1 : Method := { name := "unmix", desc := "(J)J", sig := { parameters := [.long], returnType := some .long }, accessFlags := 10, code := some k1c1 }
def k1c2 : Code := { maxStack := 4, maxLocals := 2, code := code, exceptionTable := #[], attributes := #[] }
def k1m2 : Method := { name := "law", desc := "(J)Z", sig := { parameters := [.long], returnType := some .boolean }, accessFlags := 9, code := some k1c2 }
/-- com/example/near_duplicate_finder/nearduplicatefinder/ShingleHashMixPinLaw -/
def k1 : Class := { plain "com/example/near_duplicate_finder/nearduplicatefinder/ShingleHashMixPinLaw" (some 0) with
  accessFlags := 49
  interfaces := #[]
  cf := some (fileOf pool1 18 #[] #[{ accessFlags := 2, nameIndex := 5, descriptorIndex := 6, attributes := #[] }, { accessFlags := 10, nameIndex := 21, descriptorIndex := 16, attributes := #[] }, { accessFlags := 9, nameIndex := 24, descriptorIndex := 25, attributes := #[] }] 49 2 #[] #[])
  fields := #[]
  methods := #[k1m0, k1m1, k1m2]
  instanceTypes := #[]
  staticTypes := #[]
  resolved := Array.replicate 29 none
  statics := none }

def pool2 : Array CpInfo := pool [(2, .class_ 4), (1, u "com/example/near_duplicate_finder/nearduplicatefinder/ShingleHash"), (3, .class_ 10), (1, u "java/lang/Object"), (5, u "mix"), (0, u "(J)J"), (2, u "key"), (0, u "J"), (23, .long 13787848793156543929), (1, .long 10723151780598845931), (1, u "FNV_OFFSET_BASIS"), (1, u "FNV_PRIME"), (0, u "GOLDEN_GAMMA")] 11

def k2c0 : Code := { maxStack := 5, maxLocals := 2, code := prog_33_method_7_code, exceptionTable := #[], attributes := #[] }
def k2m0 : Method := { name := "mix", desc := "(J)J", sig := { parameters := [.long], returnType := some .long }, accessFlags := 8, code := some k2c0 }
/-- com/example/near_duplicate_finder/nearduplicatefinder/ShingleHash -/
def k2 : Class := { plain "com/example/near_duplicate_finder/nearduplicatefinder/ShingleHash" (some 0) with
  accessFlags := 33
  interfaces := #[]
  cf := some (fileOf pool2 2 #[] #[{ accessFlags := 8, nameIndex := 16, descriptorIndex := 17, attributes := #[] }] 33 8 #[] #[{ accessFlags := 26, nameIndex := 49, descriptorIndex := 21, attributes := #[] }, { accessFlags := 26, nameIndex := 51, descriptorIndex := 21, attributes := #[] }, { accessFlags := 26, nameIndex := 52, descriptorIndex := 21, attributes := #[] }, { accessFlags := 18, nameIndex := 20, descriptorIndex := 21, attributes := #[] }])
  fields := #[{ name := "FNV_OFFSET_BASIS", type := .long, accessFlags := 26, slot := 0, constantValue := 0 }, { name := "FNV_PRIME", type := .long, accessFlags := 26, slot := 1, constantValue := 0 }, { name := "GOLDEN_GAMMA", type := .long, accessFlags := 26, slot := 2, constantValue := 0 }, { name := "key", type := .long, accessFlags := 18, slot := 0, constantValue := 0 }]
  methods := #[k2m0]
  instanceTypes := #[.long]
  staticTypes := #[.long, .long, .long]
  resolved := Array.replicate 64 none
  statics := none }

def pool3 : Array CpInfo := pool [(1, u "java/lang/Cloneable"), (0, .class_ 1), (0, u "java/lang/Object"), (0, .class_ 3)] 3

/-- java/lang/Cloneable -/
def k3 : Class := { plain "java/lang/Cloneable" (some 0) with
  accessFlags := 1537
  interfaces := #[]
  cf := some (fileOf pool3 2 #[] #[] 1537 4 #[] #[])
  fields := #[]
  methods := #[]
  instanceTypes := #[]
  staticTypes := #[]
  resolved := Array.replicate 8 none
  statics := none }

def pool4 : Array CpInfo := pool [(1, u "java/io/Serializable"), (0, .class_ 1), (0, u "java/lang/Object"), (0, .class_ 3)] 3

/-- java/io/Serializable -/
def k4 : Class := { plain "java/io/Serializable" (some 0) with
  accessFlags := 1537
  interfaces := #[]
  cf := some (fileOf pool4 2 #[] #[] 1537 4 #[] #[])
  fields := #[]
  methods := #[]
  instanceTypes := #[]
  staticTypes := #[]
  resolved := Array.replicate 8 none
  statics := none }

/-- the primitive byte -/
def k5 : Class := { plain "byte" none with kind := .primitive 'B', accessFlags := 0x411 }
/-- [B -/
def k6 : Class := { plain "[B" (some 0) with kind := .array 5 .byte, interfaces := #[3, 4], accessFlags := 1041 }

/-- the primitive int -/
def k7 : Class := { plain "int" none with kind := .primitive 'I', accessFlags := 0x411 }
/-- [I -/
def k8 : Class := { plain "[I" (some 0) with kind := .array 7 .int, interfaces := #[3, 4], accessFlags := 1041 }

def heap : Heap := #[]
def classes : Array Class := #[k0, k1, k2, k3, k4, k5, k6, k7, k8]
def interned : List (Array UInt16 × Addr) := []
def slotsUsed : Nat := 0
def theMethod : MethodId := ⟨1, 2⟩
def args0 : Array Value := #[.long 5]
def aboutOver (below : List Frame) : State where
  vm := { classes := classes, interned := interned.toArray }
  heap := heap
  slotsUsed := slotsUsed
  threads := #[{ frames := .invoking theMethod args0 :: below }]
def below0 : List Frame := [.native { method := ⟨0, 0⟩, args := #[] }]
def about1 : State := aboutOver below0
def p0 : Program := .bare "" "" ""
def e0 : Env := launch0.env 0 0 0
theorem w_frames : about1.frames = Frame.invoking theMethod args0 :: below0 := rfl
set_option maxRecDepth 65536 in
theorem w_args : argsFit about1.vm theMethod args0 = true := by decide +kernel
set_option maxRecDepth 65536 in
theorem w_heap : heapFits about1 = true := by decide +kernel
set_option maxRecDepth 65536 in
theorem w_runnable : about1.curStatus? = some .runnable := by decide +kernel
set_option maxRecDepth 65536 in
theorem w_alone : about1.alone = true := by decide +kernel
set_option maxRecDepth 65536 in
theorem w_named : about1.methodNamed? x = some theMethod := by decide +kernel
set_option maxRecDepth 65536 in
theorem w_hears : about1.hears theMethod below0 = true := by decide +kernel
set_option maxRecDepth 65536 in
theorem w_ripe : about1.ripe theMethod args0 below0 = true := by decide +kernel
theorem w_running : about1.status = .running := rfl
set_option maxRecDepth 65536 in
theorem w_room : about1.hasRoom e0.platform room_1 = true :=
  launch0.hasRoom_least _ room_1 (by decide +kernel) (by decide +kernel) (by decide +kernel) (by decide +kernel) (by decide +kernel) (by decide +kernel)
theorem allAtoms_all (ts : List Jvm.Cond) (a : Array Jvm.Value) (st : Jvm.State) : (allAtoms ts).before a st = ts.all (fun c => c.before a st) := by
  induction ts with
  | nil => rfl
  | cons c t ih =>
    show (Jvm.Cond.and c (allAtoms t)).before a st = _
    rw [Jvm.Cond.before_and, ih, List.all_cons]
def words1 : List Jvm.Cond := Jvm.Cond.code x code maxLocals ret :: tables_1
/-- a 'code' word, met by the world's own term for the bytes: nothing is compared byte by byte -/
theorem code_word {y : MethodName} {bytes : ByteArray} {mx : Nat} {rt : Option FieldType} {a : Array Value} {s : State} {m : MethodId} {meth : Method} {c : Code} (h1 : s.methodNamed? y = some m) (h2 : s.vm.method? m = some meth) (h3 : meth.code = some c) (h4 : c.code = bytes)
    (h5 : (c.maxLocals == mx && c.exceptionTable.isEmpty && decide (c.maxStack ≤ mostOperands) && decide (meth.sig.returnType = rt) && !meth.locks && decide (parseMethodDescriptor y.desc = some meth.sig)) = true) : (Jvm.Cond.code y bytes mx rt).before a s = true := by
  simp only [Bool.and_eq_true, beq_iff_eq, Bool.not_eq_true', decide_eq_true_eq] at h5
  obtain ⟨⟨⟨⟨⟨g1, g2⟩, g3⟩, g4⟩, g5⟩, g6⟩ := h5
  simp [Cond.before, Cond.holds, Cond.value, h1, h2, h3, h4, g1, g2, g3, g4, g5, g6]
def isCode : Jvm.Cond → Bool
  | .code _ _ _ _ => true
  | _ => false
theorem all_split {L : List Jvm.Cond} {P : Jvm.Cond → Bool} (h1 : L.all (fun c => isCode c || P c) = true) (h2 : ∀ c ∈ L.filter isCode, P c = true) : L.all P = true := by
  refine List.all_eq_true.mpr fun c hc => ?_
  have h := List.all_eq_true.mp h1 c hc
  rcases Bool.eq_false_or_eq_true (isCode c) with hi | hi
  · exact h2 c (List.mem_filter.mpr ⟨hc, hi⟩)
  · simpa [hi] using h
set_option maxRecDepth 65536 in
theorem w_c0 : (Jvm.Cond.code x code maxLocals ret).before args0 about1 = true := code_word (m := ⟨1, 2⟩) (meth := k1m2) (c := k1c2) (by decide +kernel) rfl rfl rfl (by decide +kernel)
set_option maxRecDepth 65536 in
theorem w_c1 : (Jvm.Cond.code ({ cls := "com/example/near_duplicate_finder/nearduplicatefinder/ShingleHash", name := "mix", desc := "(J)J" } : Jvm.MethodName) prog_33_method_7_code (2 : Nat) (Option.some Jvm.ClassFile.FieldType.long)).before args0 about1 = true := code_word (m := ⟨2, 0⟩) (meth := k2m0) (c := k2c0) (by decide +kernel) rfl rfl rfl (by decide +kernel)
set_option maxRecDepth 65536 in
theorem w_c2 : (Jvm.Cond.code ({ cls := "com/example/near_duplicate_finder/nearduplicatefinder/ShingleHashMixPinLaw", name := "unmix", desc := "(J)J" } : Jvm.MethodName) method_2_code (2 : Nat) (Option.some Jvm.ClassFile.FieldType.long)).before args0 about1 = true := code_word (m := ⟨1, 1⟩) (meth := k1m1) (c := k1c1) (by decide +kernel) rfl rfl rfl (by decide +kernel)
def codes1 : List Jvm.Cond := [Jvm.Cond.code x code maxLocals ret, Jvm.Cond.code ({ cls := "com/example/near_duplicate_finder/nearduplicatefinder/ShingleHash", name := "mix", desc := "(J)J" } : Jvm.MethodName) prog_33_method_7_code (2 : Nat) (Option.some Jvm.ClassFile.FieldType.long), Jvm.Cond.code ({ cls := "com/example/near_duplicate_finder/nearduplicatefinder/ShingleHashMixPinLaw", name := "unmix", desc := "(J)J" } : Jvm.MethodName) method_2_code (2 : Nat) (Option.some Jvm.ClassFile.FieldType.long)]
set_option maxRecDepth 65536 in
theorem codes_eq : words1.filter isCode = codes1 := rfl
theorem w_codes : ∀ c ∈ words1.filter isCode, c.before args0 about1 = true := by
  rw [codes_eq]
  intro c hc
  simp only [codes1, List.mem_cons, List.not_mem_nil, or_false] at hc
  rcases hc with rfl | rfl | rfl
  · exact w_c0
  · exact w_c1
  · exact w_c2
set_option maxRecDepth 65536 in
theorem w_t1 : words1.all (fun c => isCode c || c.before args0 about1) = true := by decide +kernel
theorem w_tables : (allAtoms (Jvm.Cond.code x code maxLocals ret :: tables_1)).before args0 about1 = true := by
  rw [allAtoms_all]
  show words1.all (fun c => c.before args0 about1) = true
  refine all_split ?_ w_codes
  rw [w_t1]
set_option maxRecDepth 65536 in
theorem w_case : (Jvm.Cond.and given_1 narrow_1).before args0 about1 = true := by decide +kernel
theorem w_applies : (headSpec (Jvm.Cond.code x code maxLocals ret :: tables_1) room_1).applies x e0.platform about1 = true :=
  (Spec.applies_iff w_frames).mpr ⟨w_running, w_runnable, w_alone, w_named, w_hears, w_ripe, w_room, w_tables⟩
theorem atStart : AtStart classFile x code maxLocals ret World_1 tables_1 room_1 Calls_1 rest_1 Pre_1 launch0 p0 e0 about1 theMethod args0 below0 :=
  ⟨lists_1, trivial, launch0.admits_env _ _ _, launch0.least_env, fairChoices_fair.cas, fairChoices_fair.clock, w_frames, w_args, w_heap, w_applies, trivial, trivial, w_case⟩
end start1
theorem witness_1 : WitnessClaimed_1 := ⟨start1.p0, start1.e0, start1.about1, start1.theMethod, start1.args0, start1.below0, start1.atStart⟩
end Jvm.Pilot.@@N@@
