import JvmDerived
import JvmDerived.Pilot.@@N@@Statement
import JvmDerived.Pilot.@@N@@Code
set_option linter.unusedVariables false
set_option linter.unusedSimpArgs false
namespace Jvm.Pilot.@@N@@
open Jvm Jvm.ClassFile Sem Op Lib Jvm.Free Jvm.Stand Jvm.LawKit Jvm.RoadKit Bundle Jvm.Pilot.@@N@@.Jvm.D
section OwnRun
variable {p : Program} {l : Launch} {e : Env} {R : Room} {s : State} {m : MethodId} {args : Array Value} {below : List Frame} {meth : Method} {c : Code} {T T' : State} {locs : List Loc} {cells slots : Nat}
/-- from here the run ends, as G says -/
def own_Run (p : Program) (e : Env) (below : List Frame) (G : Outcome → State → Prop) (T : State) (g : JFrame) : Prop :=
  ∃ s₂ o, Steps p.tables e below (T.setTop g) s₂ ∧ s₂.status = .running ∧ Ended s₂ below o ∧ G o s₂
theorem own_go {G : Outcome → State → Prop} {g g' : JFrame} (h : ∀ t, Steps p.tables e below (T'.setTop g') t → Steps p.tables e below (T.setTop g) t) (k : own_Run p e below G T' g') : own_Run p e below G T g := by
  obtain ⟨s₂, o, h1, h2, h3, h4⟩ := k
  exact ⟨s₂, o, h _ h1, h2, h3, h4⟩
theorem own_goT {G : Outcome → State → Prop} {g g' : JFrame} (h : Steps p.tables e below (T.setTop g) (T'.setTop g')) (k : own_Run p e below G T' g') : own_Run p e below G T g :=
  own_go (fun _ q => h.trans q) k
theorem own_start {G : Outcome → State → Prop} {f f' : JFrame} (h : f = f') (k : own_Run p e below G T f') : ∃ s₂ o, Steps p.tables e below (T.setTop f) s₂ ∧ s₂.status = .running ∧ Ended s₂ below o ∧ G o s₂ := by
  subst h
  exact k
theorem own_done {Q : Option Value → Heap → List Loc → Prop} {C N : Nat} {g : JFrame} (X : Stand p l e R s m args below meth c T locs cells slots) {v : Option Value} (hv : meth.sig.returnType = none → v = none) (hlocks : meth.locks = false)
    (hstep : ∀ fs, (∀ (f : JFrame) (acts : List Action), f.method = m → f.locked = none → f.entered = [] → (doReturn e (T.setTop f) acts v).1 = T.setFrames fs) → Steps p.tables e below (T.setTop g) (T.setFrames fs))
    (hQ : Q v T.heap locs) (hc : cells ≤ C) (hs : slots ≤ N) :
    own_Run p e below (fun o U' => ∃ v L, o = .returned v ∧ Q v U'.heap L ∧ FrameEnd s o U' L C N) T g := by
  obtain ⟨fs, hr, hrun, hended, hW, hsame⟩ := X.leave hv hlocks
  exact ⟨_, _, hstep fs hr, hrun, hended, _, _, rfl, hQ, ⟨_, rfl⟩, hW, hsame.mono hc hs⟩
theorem own_mono {cells' slots' : Nat} (X : Stand p l e R s m args below meth c T locs cells slots) (hc : cells ≤ cells') (hs : slots ≤ slots') : Stand p l e R s m args below meth c T locs cells' slots' :=
  ⟨X.admits, X.cas, X.clock, X.frames, X.room, X.hears, X.method, X.code, X.here, X.tail, X.warmed, X.limits, X.bytes, X.same.mono hc hs⟩
theorem own_retI (X : Stand p l e R s m args below meth c T locs cells slots) (hx : p.tables.exec = Jvm.exec) {pc : Nat} {Ls : Array Slot} {z : Int32} {rest : List Value} (hret : meth.sig.returnType = some .int) (hd : decode c.code pc = .ok (.ireturn, 1)) {fs : List Frame}
    (hl : ∀ (f : JFrame) (acts : List Action), f.method = m → f.locked = none → f.entered = [] → (doReturn e (T.setTop f) acts (some (.int z))).1 = T.setFrames fs) : Steps p.tables e below (T.setTop (mkF m pc Ls (.int z :: rest))) (T.setFrames fs) :=
  retOut X hx hret rfl (Or.inl ⟨rfl, Or.inl rfl, z, rfl⟩) hd hl
theorem own_retL (X : Stand p l e R s m args below meth c T locs cells slots) (hx : p.tables.exec = Jvm.exec) {pc : Nat} {Ls : Array Slot} {z : Int64} {rest : List Value} (hret : meth.sig.returnType = some .long) (hd : decode c.code pc = .ok (.lreturn, 1)) {fs : List Frame}
    (hl : ∀ (f : JFrame) (acts : List Action), f.method = m → f.locked = none → f.entered = [] → (doReturn e (T.setTop f) acts (some (.long z))).1 = T.setFrames fs) : Steps p.tables e below (T.setTop (mkF m pc Ls (.long z :: rest))) (T.setFrames fs) :=
  retOut X hx hret rfl (Or.inr (Or.inl ⟨rfl, rfl, z, rfl⟩)) hd hl
theorem own_retA {t : FieldType} (X : Stand p l e R s m args below meth c T locs cells slots) (hx : p.tables.exec = Jvm.exec) {pc : Nat} {Ls : Array Slot} {w : Value} {rest : List Value} (hret : meth.sig.returnType = some t) (ht : t.isReference = true) (hn : narrow t w = w) (hw : w.isRef = true) (hd : decode c.code pc = .ok (.areturn, 1)) {fs : List Frame}
    (hl : ∀ (f : JFrame) (acts : List Action), f.method = m → f.locked = none → f.entered = [] → (doReturn e (T.setTop f) acts (some w)).1 = T.setFrames fs) : Steps p.tables e below (T.setTop (mkF m pc Ls (w :: rest))) (T.setFrames fs) :=
  retOut X hx hret hn (Or.inr (Or.inr (Or.inr (Or.inr ⟨rfl, ht, hw⟩)))) hd hl
theorem own_ns {Z : State} {h : Heap} {a : Addr} {C : String} (E : Exa Z h a C) : ∃ c : Cell, h[a]? = some c ∧ c.vm.isStatics = false := by
  obtain ⟨c, k, h1, -, -, h4, -⟩ := E
  exact ⟨c, h1, h4⟩
theorem own_nsV {Z : State} {h : Heap} {a : Addr} {k : ClassId} {ty : FieldType} {n : Int32} {vs : List Value} {d : Value} (V : Arv Z h a k ty n vs d) : ∃ c : Cell, h[a]? = some c ∧ c.vm.isStatics = false := by
  obtain ⟨c, A, -⟩ := V
  exact ⟨c, A.1, A.plain⟩
theorem own_staKeep {Z : State} {h h' : Heap} {ws : List Addr} {C n d : String} {w : Value} (F : Sta Z h C n d w) (K : Keep h h' ws) (q : ∀ x ∈ ws, ∃ c : Cell, h[x]? = some c ∧ c.vm.isStatics = false) : Sta Z h' C n d w := by
  obtain ⟨cf, i, k, f, st, cell, h1, h2, h3, h4, h5, h6, h7⟩ := F
  refine ⟨cf, i, k, f, st, cell, h1, h2, h3, h4, K.2.1 st cell h5 (fun hm => ?_), h6, h7⟩
  obtain ⟨c, e1, e2⟩ := q st hm
  cases h5.symm.trans e1
  rw [h6] at e2; cases e2
theorem own_eqL {args : Array Value} {first s : State} {o : Option Outcome} {idx : List Nat} {t : Term} {n : Int64} (h : (Jvm.Cond.eq t (Term.long n)).value args first o s idx = some true) : t.eval args first o idx s = some (.long n) := by
  cases ht : t.eval args first o idx s with
  | none => simp [Cond.value, ht] at h
  | some x => cases x <;> simp [Cond.value, ht, Term.eval] at h ⊢ <;> exact h
theorem own_eqI {args : Array Value} {first s : State} {o : Option Outcome} {idx : List Nat} {t : Term} {n : Int32} (h : (Jvm.Cond.eq t (Term.int n)).value args first o s idx = some true) : t.eval args first o idx s = some (.int n) := by
  cases ht : t.eval args first o idx s with
  | none => simp [Cond.value, ht] at h
  | some x => cases x <;> simp [Cond.value, ht, Term.eval] at h ⊢ <;> exact h
theorem own_eqR {args : Array Value} {first s : State} {o : Option Outcome} {idx : List Nat} {t u : Term} {x : Addr} (h : (Jvm.Cond.eq t u).value args first o s idx = some true) (hu : u.eval args first o idx s = some (.ref x)) : t.eval args first o idx s = some (.ref x) := by
  cases ht : t.eval args first o idx s with
  | none => simp [Cond.value, ht] at h
  | some y => cases y <;> simp [Cond.value, ht, hu] at h ⊢ <;> exact h
theorem own_nf {s : State} {args : Array Value} {C : String} {y y' : MethodName} (hsel : (Jvm.Cond.selects C y y).before args s = true) (hc : y'.cls = y.cls) : NotFace s y' := fun r0 h0 => by
  obtain ⟨c2, r2, m2, q1, q2, q3, q4, kP, hkP, hkPi⟩ := Cond.selects_spec hsel
  have a := findClass_of_methodNamed q3
  have b := findClass_of_methodNamed h0
  rw [hc] at b
  have e := Option.some.inj (a.symm.trans b)
  exact ⟨kP, by rw [← e]; exact hkP, hkPi⟩
theorem own_selP {s : State} {args args' : Array Value} {C : String} {y y' : MethodName} (hsel : (Jvm.Cond.selects C y' y').before args s = true) (hc : y.cls = y'.cls) (hpriv : s.PrivateAt y) (hinst : (Jvm.Cond.instanceMethod y).before args' s = true) (hy : y.cls ≠ "java/lang/invoke/MethodHandle" ∧ y.cls ≠ "java/lang/invoke/VarHandle") : (Jvm.Cond.selects y.cls y y).before args' s = true := by
  obtain ⟨mk, methM, hnamed, -, -, -⟩ := Cond.instanceMethod_spec hinst
  obtain ⟨k, hk, hni⟩ := own_nf hsel hc mk hnamed
  exact selects_self_of_private (findClass_of_methodNamed hnamed) hk hni hpriv hinst hy
end OwnRun
theorem own_lcLt {x y : Int64} (h : x < y) : lcmpW x y = -1 := by
  have h1 : ¬ (x > y) := by simp only [GT.gt, Int64.lt_iff_toInt_lt] at h ⊢; omega
  have h2 : ¬ (x = y) := by rintro rfl; exact Int64.lt_irrefl h
  simp [lcmpW, h1, h2]
theorem own_lcGt {x y : Int64} (h : y < x) : lcmpW x y = 1 := by
  have h1 : x > y := h
  simp [lcmpW, h1]
theorem own_lcEq {x y : Int64} (h : x = y) : lcmpW x y = 0 := by
  subst h
  have h1 : ¬ (x > x) := Int64.lt_irrefl
  simp [lcmpW, h1]
theorem own_lcNlt {x y : Int64} (h : ¬ x < y) : lcmpW x y = 0 ∨ lcmpW x y = 1 := by
  by_cases q : x = y
  · exact Or.inl (own_lcEq q)
  · refine Or.inr (own_lcGt ?_)
    simp only [Int64.lt_iff_toInt_lt, ← Int64.toInt_inj] at h q ⊢; omega
theorem own_lcNgt {x y : Int64} (h : ¬ y < x) : lcmpW x y = 0 ∨ lcmpW x y = -1 := by
  by_cases q : x = y
  · exact Or.inl (own_lcEq q)
  · refine Or.inr (own_lcLt ?_)
    simp only [Int64.lt_iff_toInt_lt, ← Int64.toInt_inj] at h q ⊢; omega
theorem own_lcNe {x y : Int64} (h : ¬ x = y) : lcmpW x y = 1 ∨ lcmpW x y = -1 := by
  by_cases q : x < y
  · exact Or.inr (own_lcLt q)
  · refine Or.inl (own_lcGt ?_)
    simp only [Int64.lt_iff_toInt_lt, ← Int64.toInt_inj] at h q ⊢; omega
theorem own_lcT {x y : Int64} (h : x < y) : ifCond.holds .lt (lcmpW x y) = true ∧ ifCond.holds .ge (lcmpW x y) = false ∧ ifCond.holds .gt (lcmpW y x) = true ∧ ifCond.holds .le (lcmpW y x) = false := by
  rw [own_lcLt h, own_lcGt h]; decide
theorem own_lcF {x y : Int64} (h : ¬ x < y) : ifCond.holds .lt (lcmpW x y) = false ∧ ifCond.holds .ge (lcmpW x y) = true ∧ ifCond.holds .gt (lcmpW y x) = false ∧ ifCond.holds .le (lcmpW y x) = true := by
  rcases own_lcNlt h with q | q <;> rcases own_lcNgt (x := y) (y := x) h with r | r <;> rw [q, r] <;> decide
theorem own_lcTe {x y : Int64} (h : x = y) : ifCond.holds .eq (lcmpW x y) = true ∧ ifCond.holds .ne (lcmpW x y) = false := by
  rw [own_lcEq h]; decide
theorem own_lcFe {x y : Int64} (h : ¬ x = y) : ifCond.holds .eq (lcmpW x y) = false ∧ ifCond.holds .ne (lcmpW x y) = true := by
  rcases own_lcNe h with q | q <;> rw [q] <;> decide
theorem own_maskI (x : Int32) (M : Nat) (hM : M < 2 ^ 31) : (x &&& Int32.ofNat M).toInt = ((x.toBitVec.toNat &&& M : Nat) : Int) := by
  have h1 : (x &&& Int32.ofNat M).toBitVec.toNat = x.toBitVec.toNat &&& M := by
    rw [Int32.toBitVec_and, BitVec.toNat_and]
    congr 1
    show (BitVec.ofNat 32 M).toNat = M
    rw [BitVec.toNat_ofNat]; omega
  have h2 : x.toBitVec.toNat &&& M ≤ M := Nat.and_le_right
  rw [Int32.toInt, BitVec.toInt_eq_toNat_of_lt (by rw [h1]; omega), h1]
theorem own_mask0 (x : Int32) (M : Nat) (hM : M < 2 ^ 31) : 0 ≤ (x &&& Int32.ofNat M).toInt ∧ (x &&& Int32.ofNat M).toInt ≤ M := by
  rw [own_maskI x M hM]
  have h2 : x.toBitVec.toNat &&& M ≤ M := Nat.and_le_right
  omega
theorem own_rem (x : Int32) (k : Int32) (hx : 0 ≤ x.toInt) (hk : 0 < k.toInt) : 0 ≤ (x % k).toInt ∧ (x % k).toInt < k.toInt := by
  rw [Int32.toInt_mod]
  exact ⟨Int.tmod_nonneg _ hx, Int.tmod_lt_of_pos _ hk⟩
theorem own_bm (z : Int) (h1 : -2147483648 ≤ z) (h2 : z < 2147483648) : z.bmod (2 ^ 32) = z := by
  rw [Int.bmod_def]; split <;> omega
theorem own_addI (a b : Int32) (h1 : -2147483648 ≤ a.toInt + b.toInt) (h2 : a.toInt + b.toInt < 2147483648) : (a + b).toInt = a.toInt + b.toInt := by
  rw [Int32.toInt_add, own_bm _ h1 h2]
theorem own_subI (a b : Int32) (h1 : -2147483648 ≤ a.toInt - b.toInt) (h2 : a.toInt - b.toInt < 2147483648) : (a - b).toInt = a.toInt - b.toInt := by
  rw [Int32.toInt_sub, own_bm _ h1 h2]
theorem own_nz (a : Int32) (h : 0 < a.toInt) : a ≠ 0 := by
  rintro rfl; exact absurd h (by decide)
theorem own_ushr (x k : Int32) (n : Nat) (h : ((k &&& 31).toUInt32.toBitVec % 32).toNat = n) (hn : 0 < n) : ((x.toUInt32 >>> (k &&& 31).toUInt32).toInt32).toInt = ((x.toBitVec.toNat >>> n : Nat) : Int) ∧ x.toBitVec.toNat >>> n < 2 ^ (32 - n) := by
  have e : ((x.toUInt32 >>> (k &&& 31).toUInt32).toInt32).toBitVec = x.toBitVec >>> n := by
    show x.toBitVec >>> ((k &&& 31).toUInt32.toBitVec % 32) = _
    rw [BitVec.ushiftRight_eq', h]
  have hx : x.toBitVec.toNat < 2 ^ 32 := x.toBitVec.isLt
  have e2 : x.toBitVec.toNat >>> n < 2 ^ (32 - n) := by
    rw [Nat.shiftRight_eq_div_pow]
    rcases Nat.lt_or_ge n 32 with q | q
    · rw [Nat.div_lt_iff_lt_mul (Nat.two_pow_pos n), ← Nat.pow_add, Nat.sub_add_cancel (by omega)]; exact hx
    · rw [Nat.div_eq_of_lt (Nat.lt_of_lt_of_le hx (Nat.pow_le_pow_right (by decide) q))]; exact Nat.two_pow_pos _
  refine ⟨?_, e2⟩
  have e3 : 2 ^ (32 - n) ≤ 2 ^ 31 := Nat.pow_le_pow_right (by decide) (by omega)
  rw [Int32.toInt, e, BitVec.toInt_eq_toNat_of_lt (by rw [BitVec.toNat_ushiftRight]; omega), BitVec.toNat_ushiftRight]
theorem own_lit (a : Int32) (n : Int) (b : Int32) (h : a.toInt = n) (hb : b.toInt = n) : a = b := Int32.toInt_inj.mp (h.trans hb.symm)
theorem own_four (a : Int32) (h0 : 0 ≤ a.toInt) (h1 : a.toInt < 4) : a = 0 ∨ a = 1 ∨ a = 2 ∨ a = 3 := by
  have q : a.toInt = 0 ∨ a.toInt = 1 ∨ a.toInt = 2 ∨ a.toInt = 3 := by omega
  rcases q with q | q | q | q
  · exact Or.inl (own_lit _ _ _ q rfl)
  · exact Or.inr (Or.inl (own_lit _ _ _ q rfl))
  · exact Or.inr (Or.inr (Or.inl (own_lit _ _ _ q rfl)))
  · exact Or.inr (Or.inr (Or.inr (own_lit _ _ _ q rfl)))
theorem own_byte (a : Int32) (h0 : 0 ≤ a.toInt) (h1 : a.toInt < 128) : a.toInt8.toInt32 = a := by
  apply Int32.toInt_inj.mp
  rw [Int8.toInt_toInt32, Int32.toInt_toInt8, Int.bmod_def]; split <;> omega
theorem own_rng (x : Int32) : ¬ ((x &&& (2147483647 : Int32)) % (101 : Int32) < (0 : Int32)) ∧ ¬ ((100 : Int32) < (x &&& (2147483647 : Int32)) % (101 : Int32)) := by
  have h := own_rem (x &&& (2147483647 : Int32)) 101 (own_mask0 x 2147483647 (by decide)).1 (by decide)
  have e0 : (0 : Int32).toInt = 0 := rfl
  have e1 : (100 : Int32).toInt = 100 := rfl
  have e2 : (101 : Int32).toInt = 101 := rfl
  simp only [Int32.lt_iff_toInt_lt, e0, e1]; omega
theorem d2_0 : decode jdk_30_method_1_code 0 = .ok (.aload_n 0, 1) := by decide +kernel
theorem d2_1 : decode jdk_30_method_1_code 1 = .ok (.invokespecial 1, 3) := by decide +kernel
theorem d2_4 : decode jdk_30_method_1_code 4 = .ok (.return_, 1) := by decide +kernel
theorem pn_2 : plainName "java/lang/Record" = true := by first | (simp [plainName, overriddenIn]; done) | decide +kernel
theorem ef_2 (m : MethodId) (x0 : Addr) : entryFrame m #[(.ref x0)] 1 = mkF m 0 #[.val (.ref x0)] [] := by first | (simp [entryFrame, mkF, argsToLocals, Value.category]; done) | rfl
def Q2 (Z : State) (a1 : Addr) (h0 : Heap) (n0 : Nat) (v : Option Value) (h : Heap) (L : List Loc) : Prop := v = none ∧ Fr n0 L ∧ h = h0
set_option maxRecDepth 65536 in
set_option maxHeartbeats 40000000 in
theorem rm2 (l : Launch) (Z : State) (a0 : Array Value) (hw : ∀ d ∈ tables_1, d.before a0 Z = true) (ws : List Jvm.Cond) (a1 : Addr) (h0 : Heap) (n0 : Nat) (Z0 : n0 ≤ h0.size) :
    MetFree l (⟨"java/lang/Record", "<init>", "()V"⟩ : MethodName) (head1 (Jvm.Cond.code (⟨"java/lang/Record", "<init>", "()V"⟩ : MethodName) jdk_30_method_1_code 1 none :: ws) ({ frames := 1, cells := 0, slots := 0, locals := 12 } : Room)) (fun a U => a = #[(.ref a1)] ∧ Z.Warmed39 U.vm ∧ U.heap = h0) (fun _ _ _ _ _ => True) (fun _ U o U' => ∃ v L, o = .returned v ∧ Q2 Z a1 h0 n0 v U'.heap L ∧ FrameEnd U o U' L ({ frames := 1, cells := 0, slots := 0, locals := 12 } : Room).cells ({ frames := 1, cells := 0, slots := 0, locals := 12 } : Room).slots) := by
  refine MetFree.of_bodySF (plainFor_of_name pn_2) hisR ?_
  intro p e s m args below meth c s₁ Bd hml0 hP hK
  obtain ⟨rfl, hZ, hh⟩ := hP
  have hx := Bd.exec
  have hby := Bd.bytes
  have hml : c.maxLocals = 1 := hml0
  have hown : s.vm.findClass "java/lang/Record" = some m.cls := findClass_of_methodNamed Bd.named
  have hnm := (name_of_methodNamed Bd.named Bd.method).1
  have hret := Bd.returns
  have hlk : meth.locks = false := BodyLoose.notSynchronized Bd
  have X0 : Stand p l e ({ frames := 1, cells := 0, slots := 0, locals := 12 } : Room) s m #[(.ref a1)] below meth c s₁ [] 0 0 := Stand.of_body Bd
  have e0 : s₁.heap = h0 := by rw [← hh, Bd.state]; rfl
  have N0 := Fr.nil n0
  have W := fun (k : Nat) {d : Jvm.Cond} (h : tables_1[k]? = some d) => hw d (List.mem_of_getElem? h)
  have K0 : Keep h0 h0 [] := Keep.refl _ _
  refine own_start (ef_2 m a1) ?_
  show own_Run p e below _ s₁ (mkF m 0 #[.val (.ref a1)] [])
  refine own_go (fun _ k => XS.aloadN X0.here hx rfl (hb hby d2_0) rfl rfl k) ?_
  show own_Run p e below _ s₁ (mkF m 1 #[.val (.ref a1)] [(.ref a1)])
  obtain ⟨T1, X1, e1, st1⟩ := initO X0 hx hZ hown (W 12 rfl) (W 13 rfl) (W 14 rfl) e0 (g := (mkF m 1 #[.val (.ref a1)] [(.ref a1)])) rfl (by rw [hml]; rfl) rfl (hb hby d2_1) (by decide) (W := 0) (by show 2 * 0 + _ ≤ _; exact Nat.le_of_eq rfl) (by decide)
  refine own_go st1 ?_
  show own_Run p e below _ T1 (mkF m 4 #[.val (.ref a1)] [])
  refine own_done (Q := fun v h L => Q2 Z a1 h0 n0 v h L) (v := none) X1 (fun _ => rfl) hlk (fun fs hr => X1.returnOut hx hret (hb hby d2_4) hr) ?_ (by decide) (by decide)
  show Q2 Z a1 h0 n0 _ T1.heap _
  rw [e1]
  exact ⟨rfl, N0, rfl⟩
theorem d1_0 : decode prog_6_method_1_code 0 = .ok (.aload_n 0, 1) := by decide +kernel
theorem d1_1 : decode prog_6_method_1_code 1 = .ok (.invokespecial 1, 3) := by decide +kernel
theorem d1_4 : decode prog_6_method_1_code 4 = .ok (.iload_n 1, 1) := by decide +kernel
theorem d1_5 : decode prog_6_method_1_code 5 = .ok (.ifCond .lt 9, 3) := by decide +kernel
theorem d1_8 : decode prog_6_method_1_code 8 = .ok (.iload_n 1, 1) := by decide +kernel
theorem d1_9 : decode prog_6_method_1_code 9 = .ok (.bipush 100, 2) := by decide +kernel
theorem d1_11 : decode prog_6_method_1_code 11 = .ok (.if_icmp .le 17, 3) := by decide +kernel
theorem d1_14 : decode prog_6_method_1_code 14 = .ok (.new 9, 3) := by decide +kernel
theorem d1_17 : decode prog_6_method_1_code 17 = .ok (.dup, 1) := by decide +kernel
theorem d1_18 : decode prog_6_method_1_code 18 = .ok (.iload_n 1, 1) := by decide +kernel
theorem d1_24 : decode prog_6_method_1_code 24 = .ok (.invokespecial 15, 3) := by decide +kernel
theorem d1_27 : decode prog_6_method_1_code 27 = .ok (.athrow, 1) := by decide +kernel
theorem d1_28 : decode prog_6_method_1_code 28 = .ok (.aload_n 0, 1) := by decide +kernel
theorem d1_29 : decode prog_6_method_1_code 29 = .ok (.iload_n 1, 1) := by decide +kernel
theorem d1_30 : decode prog_6_method_1_code 30 = .ok (.putfield 18, 3) := by decide +kernel
theorem d1_33 : decode prog_6_method_1_code 33 = .ok (.return_, 1) := by decide +kernel
theorem pn_1 : plainName "com/example/network_analytics_service/networkanalyticsservice/core/sliceload/LoadLevel" = true := by first | (simp [plainName, overriddenIn]; done) | decide +kernel
theorem ef_1 (m : MethodId) (x0 : Addr) (x1 : Int32) : entryFrame m #[(.ref x0), (.int x1)] 2 = mkF m 0 #[.val (.ref x0), .val (.int x1)] [] := by first | (simp [entryFrame, mkF, argsToLocals, Value.category]; done) | rfl
theorem pd_1 : parseMethodDescriptor "()V" = some ⟨[], none⟩ := by decide +kernel
def Q1 (Z : State) (a1 : Addr) (p2 : Int32) (u : Value) (h0 : Heap) (n0 : Nat) (v : Option Value) (h : Heap) (L : List Loc) : Prop := v = none ∧ Fr n0 L ∧ Keep h0 h [a1] ∧ Exa Z h a1 "com/example/network_analytics_service/networkanalyticsservice/core/sliceload/LoadLevel" ∧ Fld Z h a1 "com/example/network_analytics_service/networkanalyticsservice/core/sliceload/LoadLevel" "percent" "I" (.int p2)
set_option maxRecDepth 65536 in
set_option maxHeartbeats 40000000 in
theorem rm1 (l : Launch) (Z : State) (a0 : Array Value) (hw : ∀ d ∈ tables_1, d.before a0 Z = true) (ws : List Jvm.Cond) (a1 : Addr) (p2 : Int32) (u : Value) (h0 : Heap) (n0 : Nat) (Z0 : n0 ≤ h0.size) (E_a1 : Exa Z h0 a1 "com/example/network_analytics_service/networkanalyticsservice/core/sliceload/LoadLevel") (F_percent_a1 : Fld Z h0 a1 "com/example/network_analytics_service/networkanalyticsservice/core/sliceload/LoadLevel" "percent" "I" u) (g_a1 : n0 ≤ a1) (hlo : ¬ (p2 < (0 : Int32))) (hhi : ¬ ((100 : Int32) < p2)) :
    MetFree l (⟨"com/example/network_analytics_service/networkanalyticsservice/core/sliceload/LoadLevel", "<init>", "(I)V"⟩ : MethodName) (head1 (Jvm.Cond.code (⟨"com/example/network_analytics_service/networkanalyticsservice/core/sliceload/LoadLevel", "<init>", "(I)V"⟩ : MethodName) prog_6_method_1_code 2 none :: ws) ({ frames := 2, cells := 0, slots := 0, locals := 24 } : Room)) (fun a U => a = #[(.ref a1), (.int p2)] ∧ Z.Warmed39 U.vm ∧ U.heap = h0) (fun _ _ _ _ _ => True) (fun _ U o U' => ∃ v L, o = .returned v ∧ Q1 Z a1 p2 u h0 n0 v U'.heap L ∧ FrameEnd U o U' L ({ frames := 2, cells := 0, slots := 0, locals := 24 } : Room).cells ({ frames := 2, cells := 0, slots := 0, locals := 24 } : Room).slots) := by
  refine MetFree.of_bodySF (plainFor_of_name pn_1) hisR ?_
  intro p e s m args below meth c s₁ Bd hml0 hP hK
  obtain ⟨rfl, hZ, hh⟩ := hP
  have hx := Bd.exec
  have hby := Bd.bytes
  have hml : c.maxLocals = 2 := hml0
  have hown : s.vm.findClass "com/example/network_analytics_service/networkanalyticsservice/core/sliceload/LoadLevel" = some m.cls := findClass_of_methodNamed Bd.named
  have hnm := (name_of_methodNamed Bd.named Bd.method).1
  have hret := Bd.returns
  have hlk : meth.locks = false := BodyLoose.notSynchronized Bd
  have X0 : Stand p l e ({ frames := 2, cells := 0, slots := 0, locals := 24 } : Room) s m #[(.ref a1), (.int p2)] below meth c s₁ [] 0 0 := Stand.of_body Bd
  have e0 : s₁.heap = h0 := by rw [← hh, Bd.state]; rfl
  have N0 := Fr.nil n0
  have W := fun (k : Nat) {d : Jvm.Cond} (h : tables_1[k]? = some d) => hw d (List.mem_of_getElem? h)
  have K0 : Keep h0 h0 [a1] := Keep.refl _ _
  refine own_start (ef_1 m a1 p2) ?_
  show own_Run p e below _ s₁ (mkF m 0 #[.val (.ref a1), .val (.int p2)] [])
  refine own_go (fun _ k => XS.aloadN X0.here hx rfl (hb hby d1_0) rfl rfl k) ?_
  show own_Run p e below _ s₁ (mkF m 1 #[.val (.ref a1), .val (.int p2)] [(.ref a1)])
  obtain ⟨_, _, ⟨T2, L2, k2, n2⟩, -, X2, ⟨Lc2, hQ2, l2, y2, z2⟩, st2⟩ := X0.specialBack hx (y := (⟨"java/lang/Record", "<init>", "()V"⟩ : MethodName)) rfl hown (mvT hZ (W 7 rfl)) (mvT hZ (W 8 rfl)) (mvT hZ (W 11 rfl)) (by decide) (backOf (W := 0) (rm2 l Z a0 hw [] a1 h0 n0 Z0 ) hZ (W 11 rfl) (W 10 rfl) (by decide) (by decide)) (g := (mkF m 1 #[.val (.ref a1), .val (.int p2)] [(.ref a1)])) rfl (by rw [hml]; rfl) (Steps.refl _) (a := a1) (argsL := []) (rest := []) (lenOf pd_1 rfl) rfl (by show 2 * 0 + _ ≤ _; exact Nat.le_of_eq rfl) (hb hby d1_1) (fun _ _ => ⟨rfl, e0, (by decide : 0 + 0 ≤ _), (by decide : 0 + 0 ≤ _)⟩)
  dsimp only [Pt.U, Pt.locs, Pt.cells, Pt.slots] at X2 l2 y2 z2 st2 hQ2
  subst l2 y2 z2
  obtain ⟨rfl, N2q, e2⟩ := hQ2
  have N2 := Fr.app N0 N2q
  refine own_goT st2 ?_
  show own_Run p e below _ T2 (mkF m 4 #[.val (.ref a1), .val (.int p2)] [])
  refine own_go (fun _ k => XS.iloadN X2.here hx rfl (hb hby d1_4) rfl k) ?_
  show own_Run p e below _ T2 (mkF m 5 #[.val (.ref a1), .val (.int p2)] [(.int p2)])
  refine own_go (fun _ k => XS.ifNo X2.here hx rfl (hb hby d1_5) rfl ((if0 _ _).trans (flt hlo).1) k) ?_
  show own_Run p e below _ T2 (mkF m 8 #[.val (.ref a1), .val (.int p2)] [])
  refine own_go (fun _ k => XS.iloadN X2.here hx rfl (hb hby d1_8) rfl k) ?_
  refine own_go (fun _ k => XS.bipush X2.here hx rfl (hb hby d1_9) k) ?_
  show own_Run p e below _ T2 (mkF m 11 #[.val (.ref a1), .val (.int p2)] [(.int (100 : Int32)), (.int p2)])
  refine own_go (fun _ k => XS.icmpYes X2.here hx rfl (pc0 := 11) (pc' := 28) rfl (hb hby d1_11) rfl (flt hhi).2.2.2 (by decide) (by decide) k) ?_
  show own_Run p e below _ T2 (mkF m 28 #[.val (.ref a1), .val (.int p2)] [])
  refine own_go (fun _ k => XS.aloadN X2.here hx rfl (hb hby d1_28) rfl rfl k) ?_
  refine own_go (fun _ k => XS.iloadN X2.here hx rfl (hb hby d1_29) rfl k) ?_
  show own_Run p e below _ T2 (mkF m 30 #[.val (.ref a1), .val (.int p2)] [(.int p2), (.ref a1)])
  obtain ⟨T3, h3, X3, e3, W3, st3⟩ := putF X2 hx hZ hown (host := "") (Or.inl (W 15 rfl)) Via.refl e2 F_percent_a1 E_a1 (Or.inr ⟨(W 16 rfl), rfl, hnm⟩) (W 2 rfl) (ty := .int) (by decide) rfl rfl (g := (mkF m 30 #[.val (.ref a1), .val (.int p2)] [(.int p2), (.ref a1)])) rfl rfl (hb hby d1_30)
  refine own_go st3 ?_
  show own_Run p e below _ T3 (mkF m 33 #[.val (.ref a1), .val (.int p2)] [])
  have Z0_c4 := Nat.le_trans Z0 (Keep.of_wr W3).1
  have K0_c4 := K0.wr W3 (Or.inl (List.mem_of_getElem? (i := 0) rfl))
  have E_a1_c4 := E_a1.wr W3
  have F_percent_a1_c3 : Fld Z h3 a1 "com/example/network_analytics_service/networkanalyticsservice/core/sliceload/LoadLevel" "percent" "I" (.int p2) := F_percent_a1.same W3
  have N3 := Fr.snoc X3 N2 g_a1
  refine own_done (Q := fun v h L => Q1 Z a1 p2 u h0 n0 v h L) (v := none) X3 (fun _ => rfl) hlk (fun fs hr => X3.returnOut hx hret (hb hby d1_33) hr) ?_ (by decide) (by decide)
  show Q1 Z a1 p2 u h0 n0 _ T3.heap _
  rw [e3]
  exact ⟨rfl, N3, K0_c4, E_a1_c4, F_percent_a1_c3⟩
theorem d4_0 : decode prog_6_method_3_code 0 = .ok (.aload_n 1, 1) := by decide +kernel
theorem d4_1 : decode prog_6_method_3_code 1 = .ok (.getfield 18, 3) := by decide +kernel
theorem d4_4 : decode prog_6_method_3_code 4 = .ok (.aload_n 0, 1) := by decide +kernel
theorem d4_5 : decode prog_6_method_3_code 5 = .ok (.getfield 18, 3) := by decide +kernel
theorem d4_8 : decode prog_6_method_3_code 8 = .ok (.if_icmp .le 7, 3) := by decide +kernel
theorem d4_11 : decode prog_6_method_3_code 11 = .ok (.aload_n 1, 1) := by decide +kernel
theorem d4_12 : decode prog_6_method_3_code 12 = .ok (.goto 4, 3) := by decide +kernel
theorem d4_15 : decode prog_6_method_3_code 15 = .ok (.aload_n 0, 1) := by decide +kernel
theorem d4_16 : decode prog_6_method_3_code 16 = .ok (.areturn, 1) := by decide +kernel
theorem pn_4 : plainName "com/example/network_analytics_service/networkanalyticsservice/core/sliceload/LoadLevel" = true := by first | (simp [plainName, overriddenIn]; done) | decide +kernel
theorem ef_4 (m : MethodId) (x0 : Addr) (x1 : Addr) : entryFrame m #[(.ref x0), (.ref x1)] 2 = mkF m 0 #[.val (.ref x0), .val (.ref x1)] [] := by first | (simp [entryFrame, mkF, argsToLocals, Value.category]; done) | rfl
def Q4 (Z : State) (a1 : Addr) (a2 : Addr) (w1 : Int32) (w2 : Int32) (h0 : Heap) (n0 : Nat) (v : Option Value) (h : Heap) (L : List Loc) : Prop := v = some (.ref (if w1 < w2 then a2 else a1)) ∧ Fr n0 L ∧ h = h0
set_option maxRecDepth 65536 in
set_option maxHeartbeats 40000000 in
theorem rm4 (l : Launch) (Z : State) (a0 : Array Value) (hw : ∀ d ∈ tables_1, d.before a0 Z = true) (ws : List Jvm.Cond) (a1 : Addr) (a2 : Addr) (w1 : Int32) (w2 : Int32) (h0 : Heap) (n0 : Nat) (Z0 : n0 ≤ h0.size) (F_percent_a1 : Fld Z h0 a1 "com/example/network_analytics_service/networkanalyticsservice/core/sliceload/LoadLevel" "percent" "I" (.int w1)) (F_percent_a2 : Fld Z h0 a2 "com/example/network_analytics_service/networkanalyticsservice/core/sliceload/LoadLevel" "percent" "I" (.int w2)) :
    MetFree l (⟨"com/example/network_analytics_service/networkanalyticsservice/core/sliceload/LoadLevel", "max", "(Lcom/example/network_analytics_service/networkanalyticsservice/core/sliceload/LoadLevel;)Lcom/example/network_analytics_service/networkanalyticsservice/core/sliceload/LoadLevel;"⟩ : MethodName) (head1 (Jvm.Cond.code (⟨"com/example/network_analytics_service/networkanalyticsservice/core/sliceload/LoadLevel", "max", "(Lcom/example/network_analytics_service/networkanalyticsservice/core/sliceload/LoadLevel;)Lcom/example/network_analytics_service/networkanalyticsservice/core/sliceload/LoadLevel;"⟩ : MethodName) prog_6_method_3_code 2 (some (.object "com/example/network_analytics_service/networkanalyticsservice/core/sliceload/LoadLevel")) :: ws) ({ frames := 0, cells := 0, slots := 0, locals := 0 } : Room)) (fun a U => a = #[(.ref a1), (.ref a2)] ∧ Z.Warmed39 U.vm ∧ U.heap = h0) (fun _ _ _ _ _ => True) (fun _ U o U' => ∃ v L, o = .returned v ∧ Q4 Z a1 a2 w1 w2 h0 n0 v U'.heap L ∧ FrameEnd U o U' L ({ frames := 0, cells := 0, slots := 0, locals := 0 } : Room).cells ({ frames := 0, cells := 0, slots := 0, locals := 0 } : Room).slots) := by
  refine MetFree.of_bodySF (plainFor_of_name pn_4) hisR ?_
  intro p e s m args below meth c s₁ Bd hml0 hP hK
  obtain ⟨rfl, hZ, hh⟩ := hP
  have hx := Bd.exec
  have hby := Bd.bytes
  have hml : c.maxLocals = 2 := hml0
  have hown : s.vm.findClass "com/example/network_analytics_service/networkanalyticsservice/core/sliceload/LoadLevel" = some m.cls := findClass_of_methodNamed Bd.named
  have hnm := (name_of_methodNamed Bd.named Bd.method).1
  have hret := Bd.returns
  have hlk : meth.locks = false := BodyLoose.notSynchronized Bd
  have X0 : Stand p l e ({ frames := 0, cells := 0, slots := 0, locals := 0 } : Room) s m #[(.ref a1), (.ref a2)] below meth c s₁ [] 0 0 := Stand.of_body Bd
  have e0 : s₁.heap = h0 := by rw [← hh, Bd.state]; rfl
  have N0 := Fr.nil n0
  have W := fun (k : Nat) {d : Jvm.Cond} (h : tables_1[k]? = some d) => hw d (List.mem_of_getElem? h)
  have K0 : Keep h0 h0 [] := Keep.refl _ _
  refine own_start (ef_4 m a1 a2) ?_
  show own_Run p e below _ s₁ (mkF m 0 #[.val (.ref a1), .val (.ref a2)] [])
  refine own_go (fun _ k => XS.aloadN X0.here hx rfl (hb hby d4_0) rfl rfl k) ?_
  show own_Run p e below _ s₁ (mkF m 1 #[.val (.ref a1), .val (.ref a2)] [(.ref a2)])
  obtain ⟨T5, X5, e5, st5⟩ := getF X0 hx hZ hown (host := "") (Or.inl (W 15 rfl)) Via.refl e0 F_percent_a2 (g := (mkF m 1 #[.val (.ref a1), .val (.ref a2)] [(.ref a2)])) rfl rfl (hb hby d4_1)
  refine own_go st5 ?_
  show own_Run p e below _ T5 (mkF m 4 #[.val (.ref a1), .val (.ref a2)] [(.int w2)])
  refine own_go (fun _ k => XS.aloadN X5.here hx rfl (hb hby d4_4) rfl rfl k) ?_
  show own_Run p e below _ T5 (mkF m 5 #[.val (.ref a1), .val (.ref a2)] [(.ref a1), (.int w2)])
  obtain ⟨T6, X6, e6, st6⟩ := getF X5 hx hZ hown (host := "") (Or.inl (W 15 rfl)) Via.refl e5 F_percent_a1 (g := (mkF m 5 #[.val (.ref a1), .val (.ref a2)] [(.ref a1), (.int w2)])) rfl rfl (hb hby d4_5)
  refine own_go st6 ?_
  show own_Run p e below _ T6 (mkF m 8 #[.val (.ref a1), .val (.ref a2)] [(.int w1), (.int w2)])
  by_cases hc8_7 : w1 < w2
  · refine own_go (fun _ k => XS.icmpNo X6.here hx rfl (hb hby d4_8) rfl (tlt hc8_7).2.2.2 k) ?_
    show own_Run p e below _ T6 (mkF m 11 #[.val (.ref a1), .val (.ref a2)] [])
    refine own_go (fun _ k => XS.aloadN X6.here hx rfl (hb hby d4_11) rfl rfl k) ?_
    refine own_go (fun _ k => XS.goto X6.here hx rfl (pc0 := 12) (pc' := 16) rfl (hb hby d4_12) (by decide) (by decide) k) ?_
    show own_Run p e below _ T6 (mkF m 16 #[.val (.ref a1), .val (.ref a2)] [(.ref a2)])
    refine own_done (Q := fun v h L => Q4 Z a1 a2 w1 w2 h0 n0 v h L) (v := (some (.ref a2))) X6 (fun h => by rw [hret] at h; cases h) hlk (fun fs hr => own_retA X6 hx hret rfl rfl rfl (hb hby d4_16) hr) ?_ (by decide) (by decide)
    show Q4 Z a1 a2 w1 w2 h0 n0 _ T6.heap _
    rw [e6]
    exact ⟨by rw [if_pos hc8_7], N0, rfl⟩
  · refine own_go (fun _ k => XS.icmpYes X6.here hx rfl (pc0 := 8) (pc' := 15) rfl (hb hby d4_8) rfl (flt hc8_7).2.2.2 (by decide) (by decide) k) ?_
    show own_Run p e below _ T6 (mkF m 15 #[.val (.ref a1), .val (.ref a2)] [])
    refine own_go (fun _ k => XS.aloadN X6.here hx rfl (hb hby d4_15) rfl rfl k) ?_
    show own_Run p e below _ T6 (mkF m 16 #[.val (.ref a1), .val (.ref a2)] [(.ref a1)])
    refine own_done (Q := fun v h L => Q4 Z a1 a2 w1 w2 h0 n0 v h L) (v := (some (.ref a1))) X6 (fun h => by rw [hret] at h; cases h) hlk (fun fs hr => own_retA X6 hx hret rfl rfl rfl (hb hby d4_16) hr) ?_ (by decide) (by decide)
    show Q4 Z a1 a2 w1 w2 h0 n0 _ T6.heap _
    rw [e6]
    exact ⟨by rw [if_neg hc8_7], N0, rfl⟩
theorem d5_0 : decode jdk_29_method_65_code 0 = .ok (.iload_n 0, 1) := by decide +kernel
theorem d5_1 : decode jdk_29_method_65_code 1 = .ok (.iload_n 1, 1) := by decide +kernel
theorem d5_2 : decode jdk_29_method_65_code 2 = .ok (.if_icmp .lt 7, 3) := by decide +kernel
theorem d5_5 : decode jdk_29_method_65_code 5 = .ok (.iload_n 0, 1) := by decide +kernel
theorem d5_6 : decode jdk_29_method_65_code 6 = .ok (.goto 4, 3) := by decide +kernel
theorem d5_9 : decode jdk_29_method_65_code 9 = .ok (.iload_n 1, 1) := by decide +kernel
theorem d5_10 : decode jdk_29_method_65_code 10 = .ok (.ireturn, 1) := by decide +kernel
theorem ef_5 (m : MethodId) (x0 : Int32) (x1 : Int32) : entryFrame m #[(.int x0), (.int x1)] 2 = mkF m 0 #[.val (.int x0), .val (.int x1)] [] := by first | (simp [entryFrame, mkF, argsToLocals, Value.category]; done) | rfl
def Q5 (Z : State) (p1 : Int32) (p2 : Int32) (h0 : Heap) (n0 : Nat) (v : Option Value) (h : Heap) (L : List Loc) : Prop := v = some (.int (if p1 < p2 then p2 else p1)) ∧ Fr n0 L ∧ h = h0
set_option maxRecDepth 65536 in
set_option maxHeartbeats 40000000 in
theorem rm5 (l : Launch) (Z : State) (a0 : Array Value) (hw : ∀ d ∈ tables_1, d.before a0 Z = true) (ws : List Jvm.Cond) (p1 : Int32) (p2 : Int32) (h0 : Heap) (n0 : Nat) (Z0 : n0 ≤ h0.size) :
    MetFree l (⟨"java/lang/Math", "max", "(II)I"⟩ : MethodName) (head1 (Jvm.Cond.code (⟨"java/lang/Math", "max", "(II)I"⟩ : MethodName) jdk_29_method_65_code 2 (some .int) :: ws) ({ frames := 0, cells := 0, slots := 0, locals := 0 } : Room)) (fun a U => a = #[(.int p1), (.int p2)] ∧ Z.Warmed39 U.vm ∧ U.heap = h0) (fun _ _ _ _ _ => True) (fun _ U o U' => ∃ v L, o = .returned v ∧ Q5 Z p1 p2 h0 n0 v U'.heap L ∧ FrameEnd U o U' L ({ frames := 0, cells := 0, slots := 0, locals := 0 } : Room).cells ({ frames := 0, cells := 0, slots := 0, locals := 0 } : Room).slots) := by
  refine MetFree.of_bodySF (Jvm.Free.JP.mathPlain rfl (by decide +kernel)) hisR ?_
  intro p e s m args below meth c s₁ Bd hml0 hP hK
  obtain ⟨rfl, hZ, hh⟩ := hP
  have hx := Bd.exec
  have hby := Bd.bytes
  have hml : c.maxLocals = 2 := hml0
  have hown : s.vm.findClass "java/lang/Math" = some m.cls := findClass_of_methodNamed Bd.named
  have hnm := (name_of_methodNamed Bd.named Bd.method).1
  have hret := Bd.returns
  have hlk : meth.locks = false := BodyLoose.notSynchronized Bd
  have X0 : Stand p l e ({ frames := 0, cells := 0, slots := 0, locals := 0 } : Room) s m #[(.int p1), (.int p2)] below meth c s₁ [] 0 0 := Stand.of_body Bd
  have e0 : s₁.heap = h0 := by rw [← hh, Bd.state]; rfl
  have N0 := Fr.nil n0
  have W := fun (k : Nat) {d : Jvm.Cond} (h : tables_1[k]? = some d) => hw d (List.mem_of_getElem? h)
  have K0 : Keep h0 h0 [] := Keep.refl _ _
  refine own_start (ef_5 m p1 p2) ?_
  show own_Run p e below _ s₁ (mkF m 0 #[.val (.int p1), .val (.int p2)] [])
  refine own_go (fun _ k => XS.iloadN X0.here hx rfl (hb hby d5_0) rfl k) ?_
  refine own_go (fun _ k => XS.iloadN X0.here hx rfl (hb hby d5_1) rfl k) ?_
  show own_Run p e below _ s₁ (mkF m 2 #[.val (.int p1), .val (.int p2)] [(.int p2), (.int p1)])
  by_cases hc2_8 : p1 < p2
  · refine own_go (fun _ k => XS.icmpYes X0.here hx rfl (pc0 := 2) (pc' := 9) rfl (hb hby d5_2) rfl (tlt hc2_8).1 (by decide) (by decide) k) ?_
    show own_Run p e below _ s₁ (mkF m 9 #[.val (.int p1), .val (.int p2)] [])
    refine own_go (fun _ k => XS.iloadN X0.here hx rfl (hb hby d5_9) rfl k) ?_
    show own_Run p e below _ s₁ (mkF m 10 #[.val (.int p1), .val (.int p2)] [(.int p2)])
    refine own_done (Q := fun v h L => Q5 Z p1 p2 h0 n0 v h L) (v := (some (.int p2))) X0 (fun h => by rw [hret] at h; cases h) hlk (fun fs hr => own_retI X0 hx hret (hb hby d5_10) hr) ?_ (by decide) (by decide)
    show Q5 Z p1 p2 h0 n0 _ s₁.heap _
    rw [e0]
    exact ⟨by rw [if_pos hc2_8], N0, rfl⟩
  · refine own_go (fun _ k => XS.icmpNo X0.here hx rfl (hb hby d5_2) rfl (flt hc2_8).1 k) ?_
    show own_Run p e below _ s₁ (mkF m 5 #[.val (.int p1), .val (.int p2)] [])
    refine own_go (fun _ k => XS.iloadN X0.here hx rfl (hb hby d5_5) rfl k) ?_
    refine own_go (fun _ k => XS.goto X0.here hx rfl (pc0 := 6) (pc' := 10) rfl (hb hby d5_6) (by decide) (by decide) k) ?_
    show own_Run p e below _ s₁ (mkF m 10 #[.val (.int p1), .val (.int p2)] [(.int p1)])
    refine own_done (Q := fun v h L => Q5 Z p1 p2 h0 n0 v h L) (v := (some (.int p1))) X0 (fun h => by rw [hret] at h; cases h) hlk (fun fs hr => own_retI X0 hx hret (hb hby d5_10) hr) ?_ (by decide) (by decide)
    show Q5 Z p1 p2 h0 n0 _ s₁.heap _
    rw [e0]
    exact ⟨by rw [if_neg hc2_8], N0, rfl⟩
theorem d6_0 : decode prog_6_method_7_code 0 = .ok (.aload_n 0, 1) := by decide +kernel
theorem d6_1 : decode prog_6_method_7_code 1 = .ok (.getfield 18, 3) := by decide +kernel
theorem d6_4 : decode prog_6_method_7_code 4 = .ok (.ireturn, 1) := by decide +kernel
theorem pn_6 : plainName "com/example/network_analytics_service/networkanalyticsservice/core/sliceload/LoadLevel" = true := by first | (simp [plainName, overriddenIn]; done) | decide +kernel
theorem ef_6 (m : MethodId) (x0 : Addr) : entryFrame m #[(.ref x0)] 1 = mkF m 0 #[.val (.ref x0)] [] := by first | (simp [entryFrame, mkF, argsToLocals, Value.category]; done) | rfl
def Q6 (Z : State) (a1 : Addr) (w1 : Int32) (h0 : Heap) (n0 : Nat) (v : Option Value) (h : Heap) (L : List Loc) : Prop := v = some (.int w1) ∧ Fr n0 L ∧ h = h0
set_option maxRecDepth 65536 in
set_option maxHeartbeats 40000000 in
theorem rm6 (l : Launch) (Z : State) (a0 : Array Value) (hw : ∀ d ∈ tables_1, d.before a0 Z = true) (ws : List Jvm.Cond) (a1 : Addr) (w1 : Int32) (h0 : Heap) (n0 : Nat) (Z0 : n0 ≤ h0.size) (F_percent_a1 : Fld Z h0 a1 "com/example/network_analytics_service/networkanalyticsservice/core/sliceload/LoadLevel" "percent" "I" (.int w1)) :
    MetFree l (⟨"com/example/network_analytics_service/networkanalyticsservice/core/sliceload/LoadLevel", "percent", "()I"⟩ : MethodName) (head1 (Jvm.Cond.code (⟨"com/example/network_analytics_service/networkanalyticsservice/core/sliceload/LoadLevel", "percent", "()I"⟩ : MethodName) prog_6_method_7_code 1 (some .int) :: ws) ({ frames := 0, cells := 0, slots := 0, locals := 0 } : Room)) (fun a U => a = #[(.ref a1)] ∧ Z.Warmed39 U.vm ∧ U.heap = h0) (fun _ _ _ _ _ => True) (fun _ U o U' => ∃ v L, o = .returned v ∧ Q6 Z a1 w1 h0 n0 v U'.heap L ∧ FrameEnd U o U' L ({ frames := 0, cells := 0, slots := 0, locals := 0 } : Room).cells ({ frames := 0, cells := 0, slots := 0, locals := 0 } : Room).slots) := by
  refine MetFree.of_bodySF (plainFor_of_name pn_6) hisR ?_
  intro p e s m args below meth c s₁ Bd hml0 hP hK
  obtain ⟨rfl, hZ, hh⟩ := hP
  have hx := Bd.exec
  have hby := Bd.bytes
  have hml : c.maxLocals = 1 := hml0
  have hown : s.vm.findClass "com/example/network_analytics_service/networkanalyticsservice/core/sliceload/LoadLevel" = some m.cls := findClass_of_methodNamed Bd.named
  have hnm := (name_of_methodNamed Bd.named Bd.method).1
  have hret := Bd.returns
  have hlk : meth.locks = false := BodyLoose.notSynchronized Bd
  have X0 : Stand p l e ({ frames := 0, cells := 0, slots := 0, locals := 0 } : Room) s m #[(.ref a1)] below meth c s₁ [] 0 0 := Stand.of_body Bd
  have e0 : s₁.heap = h0 := by rw [← hh, Bd.state]; rfl
  have N0 := Fr.nil n0
  have W := fun (k : Nat) {d : Jvm.Cond} (h : tables_1[k]? = some d) => hw d (List.mem_of_getElem? h)
  have K0 : Keep h0 h0 [] := Keep.refl _ _
  refine own_start (ef_6 m a1) ?_
  show own_Run p e below _ s₁ (mkF m 0 #[.val (.ref a1)] [])
  refine own_go (fun _ k => XS.aloadN X0.here hx rfl (hb hby d6_0) rfl rfl k) ?_
  show own_Run p e below _ s₁ (mkF m 1 #[.val (.ref a1)] [(.ref a1)])
  obtain ⟨T9, X9, e9, st9⟩ := getF X0 hx hZ hown (host := "") (Or.inl (W 15 rfl)) Via.refl e0 F_percent_a1 (g := (mkF m 1 #[.val (.ref a1)] [(.ref a1)])) rfl rfl (hb hby d6_1)
  refine own_go st9 ?_
  show own_Run p e below _ T9 (mkF m 4 #[.val (.ref a1)] [(.int w1)])
  refine own_done (Q := fun v h L => Q6 Z a1 w1 h0 n0 v h L) (v := (some (.int w1))) X9 (fun h => by rw [hret] at h; cases h) hlk (fun fs hr => own_retI X9 hx hret (hb hby d6_4) hr) ?_ (by decide) (by decide)
  show Q6 Z a1 w1 h0 n0 _ T9.heap _
  rw [e9]
  exact ⟨rfl, N0, rfl⟩
theorem pn_0 : plainName "com/example/network_analytics_service/networkanalyticsservice/core/sliceload/LoadLevelMaxPinLaw" = true := by first | (simp [plainName, overriddenIn]; done) | decide +kernel
theorem ef_0 (m : MethodId) (x0 : Int32) (x1 : Int32) : entryFrame m #[(.int x0), (.int x1)] maxLocals = mkF m 0 #[.val (.int x0), .val (.int x1), .unset, .unset, .unset, .unset, .unset, .unset] [] := by first | (simp [entryFrame, mkF, argsToLocals, Value.category, maxLocals]; done) | rfl
theorem pd_2 : parseMethodDescriptor "(I)V" = some ⟨[.int], none⟩ := by decide +kernel
theorem pd_3 : parseMethodDescriptor "(Lcom/example/network_analytics_service/networkanalyticsservice/core/sliceload/LoadLevel;)Lcom/example/network_analytics_service/networkanalyticsservice/core/sliceload/LoadLevel;" = some ⟨[(.object "com/example/network_analytics_service/networkanalyticsservice/core/sliceload/LoadLevel")], some (.object "com/example/network_analytics_service/networkanalyticsservice/core/sliceload/LoadLevel")⟩ := by decide +kernel
theorem pd_4 : parseMethodDescriptor "(II)I" = some ⟨[.int, .int], some .int⟩ := by decide +kernel
theorem pd_5 : parseMethodDescriptor "()I" = some ⟨[], some .int⟩ := by decide +kernel
def Q0 (Z : State) (p1 : Int32) (p2 : Int32) (h0 : Heap) (n0 : Nat) (v : Option Value) (h : Heap) (L : List Loc) : Prop := v = some (.int (1 : Int32)) ∧ Fr n0 L
set_option maxRecDepth 65536 in
set_option maxHeartbeats 40000000 in
theorem rm0 (l : Launch) (Z : State) (a0 : Array Value) (hw : ∀ d ∈ tables_1, d.before a0 Z = true) (ws : List Jvm.Cond) (p1 : Int32) (p2 : Int32) (h0 : Heap) (n0 : Nat) (Z0 : n0 ≤ h0.size) :
    MetFree l x (head1 (Jvm.Cond.code x code maxLocals ret :: ws) room_1) (fun a U => a = #[(.int p1), (.int p2)] ∧ Z.Warmed39 U.vm ∧ U.heap = h0) (fun _ _ _ _ _ => True) (fun _ U o U' => ∃ v L, o = .returned v ∧ Q0 Z p1 p2 h0 n0 v U'.heap L ∧ FrameEnd U o U' L room_1.cells room_1.slots) := by
  refine MetFree.of_bodySF (plainFor_of_name pn_0) hisR ?_
  intro p e s m args below meth c s₁ Bd hml0 hP hK
  obtain ⟨rfl, hZ, hh⟩ := hP
  have hx := Bd.exec
  have hby := Bd.bytes
  have hml : c.maxLocals = 8 := hml0
  have hown : s.vm.findClass "com/example/network_analytics_service/networkanalyticsservice/core/sliceload/LoadLevelMaxPinLaw" = some m.cls := findClass_of_methodNamed Bd.named
  have hnm := (name_of_methodNamed Bd.named Bd.method).1
  have hret := Bd.returns
  have hlk : meth.locks = false := BodyLoose.notSynchronized Bd
  have X0 : Stand p l e room_1 s m #[(.int p1), (.int p2)] below meth c s₁ [] 0 0 := Stand.of_body Bd
  have e0 : s₁.heap = h0 := by rw [← hh, Bd.state]; rfl
  have N0 := Fr.nil n0
  have W := fun (k : Nat) {d : Jvm.Cond} (h : tables_1[k]? = some d) => hw d (List.mem_of_getElem? h)
  have K0 : Keep h0 h0 [] := Keep.refl _ _
  refine own_start (ef_0 m p1 p2) ?_
  show own_Run p e below _ s₁ (mkF m 0 #[.val (.int p1), .val (.int p2), .unset, .unset, .unset, .unset, .unset, .unset] [])
  refine own_go (fun _ k => XS.iloadN X0.here hx rfl (hb hby at_0) rfl k) ?_
  show own_Run p e below _ s₁ (mkF m 1 #[.val (.int p1), .val (.int p2), .unset, .unset, .unset, .unset, .unset, .unset] [(.int p1)])
  refine own_go (X0.ldcInt hx hown (mvT hZ (W 0 rfl)) (g := (mkF m 1 #[.val (.int p1), .val (.int p2), .unset, .unset, .unset, .unset, .unset, .unset] [(.int p1)])) rfl (hb hby at_1)) ?_
  show own_Run p e below _ s₁ (mkF m 3 #[.val (.int p1), .val (.int p2), .unset, .unset, .unset, .unset, .unset, .unset] [(.int (2147483647 : Int32)), (.int p1)])
  refine own_go (fun _ k => XS.iand X0.here hx rfl (hb hby at_3) rfl k) ?_
  refine own_go (fun _ k => XS.bipush X0.here hx rfl (hb hby at_4) k) ?_
  refine own_go (fun _ k => iremM X0 hx rfl (hb hby at_6) rfl (by decide) k) ?_
  show own_Run p e below _ s₁ (mkF m 7 #[.val (.int p1), .val (.int p2), .unset, .unset, .unset, .unset, .unset, .unset] [(.int ((p1 &&& (2147483647 : Int32)) % (101 : Int32)))])
  obtain ⟨x1, hx1⟩ : ∃ z, z = ((p1 &&& (2147483647 : Int32)) % (101 : Int32)) := ⟨_, rfl⟩
  rw [← hx1]
  show own_Run p e below _ s₁ (mkF m 7 #[.val (.int p1), .val (.int p2), .unset, .unset, .unset, .unset, .unset, .unset] [(.int x1)])
  refine own_go (fun _ k => XS.istoreN X0.here hx rfl (hb hby at_7) rfl (l' := #[.val (.int p1), .val (.int p2), .val (.int x1), .unset, .unset, .unset, .unset, .unset]) rfl k) ?_
  refine own_go (fun _ k => XS.iloadN X0.here hx rfl (hb hby at_8) rfl k) ?_
  show own_Run p e below _ s₁ (mkF m 9 #[.val (.int p1), .val (.int p2), .val (.int x1), .unset, .unset, .unset, .unset, .unset] [(.int p2)])
  refine own_go (X0.ldcInt hx hown (mvT hZ (W 0 rfl)) (g := (mkF m 9 #[.val (.int p1), .val (.int p2), .val (.int x1), .unset, .unset, .unset, .unset, .unset] [(.int p2)])) rfl (hb hby at_9)) ?_
  show own_Run p e below _ s₁ (mkF m 11 #[.val (.int p1), .val (.int p2), .val (.int x1), .unset, .unset, .unset, .unset, .unset] [(.int (2147483647 : Int32)), (.int p2)])
  refine own_go (fun _ k => XS.iand X0.here hx rfl (hb hby at_11) rfl k) ?_
  refine own_go (fun _ k => XS.bipush X0.here hx rfl (hb hby at_12) k) ?_
  refine own_go (fun _ k => iremM X0 hx rfl (hb hby at_14) rfl (by decide) k) ?_
  show own_Run p e below _ s₁ (mkF m 15 #[.val (.int p1), .val (.int p2), .val (.int x1), .unset, .unset, .unset, .unset, .unset] [(.int ((p2 &&& (2147483647 : Int32)) % (101 : Int32)))])
  obtain ⟨x2, hx2⟩ : ∃ z, z = ((p2 &&& (2147483647 : Int32)) % (101 : Int32)) := ⟨_, rfl⟩
  rw [← hx2]
  show own_Run p e below _ s₁ (mkF m 15 #[.val (.int p1), .val (.int p2), .val (.int x1), .unset, .unset, .unset, .unset, .unset] [(.int x2)])
  have hr1 := own_rng p1
  rw [← hx1] at hr1
  have hr2 := own_rng p2
  rw [← hx2] at hr2
  refine own_go (fun _ k => XS.istoreN X0.here hx rfl (hb hby at_15) rfl (l' := #[.val (.int p1), .val (.int p2), .val (.int x1), .val (.int x2), .unset, .unset, .unset, .unset]) rfl k) ?_
  show own_Run p e below _ s₁ (mkF m 16 #[.val (.int p1), .val (.int p2), .val (.int x1), .val (.int x2), .unset, .unset, .unset, .unset] [])
  obtain ⟨T10, h10, X10, e10, E10, A10, D10, -, st10⟩ := newO X0 hx hZ hown (W 1 rfl) (W 2 rfl) (W 3 rfl) e0 (g := (mkF m 16 #[.val (.int p1), .val (.int p2), .val (.int x1), .val (.int x2), .unset, .unset, .unset, .unset] [])) rfl (hb hby at_16) (by decide) (by decide)
  refine own_go st10 ?_
  obtain ⟨b10, g10⟩ : ∃ z, z = h0.size := ⟨_, rfl⟩
  rw [← g10] at A10 D10
  rw [← g10]
  show own_Run p e below _ T10 (mkF m 19 #[.val (.int p1), .val (.int p2), .val (.int x1), .val (.int x2), .unset, .unset, .unset, .unset] [(.ref b10)])
  have g_b10 : n0 ≤ b10 := Nat.le_trans Z0 (Nat.le_of_eq g10.symm)
  have sz_b10 : h0.size ≤ b10 := Nat.le_trans K0.1 (Nat.le_of_eq g10.symm)
  have Z0_c11 := Nat.le_trans Z0 E10.1
  have K0_c11 := K0.ext E10
  have F_percent_b10 : Fld Z h10 b10 "com/example/network_analytics_service/networkanalyticsservice/core/sliceload/LoadLevel" "percent" "I" (.int (0 : Int32)) := D10 (Or.inr (W 16 rfl)) (ty := .int) (by decide)
  refine own_go (fun _ k => XS.dup X10.here hx rfl (hb hby at_19) rfl rfl k) ?_
  refine own_go (fun _ k => XS.iloadN X10.here hx rfl (hb hby at_20) rfl k) ?_
  show own_Run p e below _ T10 (mkF m 21 #[.val (.int p1), .val (.int p2), .val (.int x1), .val (.int x2), .unset, .unset, .unset, .unset] [(.int x1), (.ref b10), (.ref b10)])
  obtain ⟨_, _, ⟨T12, L12, k12, n12⟩, -, X12, ⟨Lc12, hQ12, l12, y12, z12⟩, st12⟩ := X10.specialBack hx (y := (⟨"com/example/network_analytics_service/networkanalyticsservice/core/sliceload/LoadLevel", "<init>", "(I)V"⟩ : MethodName)) rfl hown (mvT hZ (W 4 rfl)) (mvT hZ (W 5 rfl)) (mvT hZ (W 6 rfl)) (by decide) (backOf (W := 1) (rm1 l Z a0 hw [] b10 x1 (.int (0 : Int32)) h10 n0 Z0_c11 A10 F_percent_b10 g_b10 (hr1.1) (hr1.2)) hZ (W 6 rfl) (W 3 rfl) (by decide) (by decide)) (g := (mkF m 21 #[.val (.int p1), .val (.int p2), .val (.int x1), .val (.int x2), .unset, .unset, .unset, .unset] [(.int x1), (.ref b10), (.ref b10)])) rfl (by rw [hml]; rfl) (Steps.refl _) (a := b10) (argsL := [(.int x1)]) (rest := [(.ref b10)]) (lenOf pd_2 rfl) rfl (by show 2 * 0 + _ ≤ _; exact Nat.le_of_eq rfl) (hb hby at_21) (fun _ _ => ⟨rfl, e10, (by decide : 1 + 0 ≤ _), (by decide : 1 + 0 ≤ _)⟩)
  dsimp only [Pt.U, Pt.locs, Pt.cells, Pt.slots] at X12 l12 y12 z12 st12 hQ12
  subst l12 y12 z12
  obtain ⟨rfl, N12q, K12, P12_0, P12_1⟩ := hQ12
  have N12 := Fr.app N0 N12q
  refine own_goT st12 ?_
  show own_Run p e below _ T12 (mkF m 24 #[.val (.int p1), .val (.int p2), .val (.int x1), .val (.int x2), .unset, .unset, .unset, .unset] [(.ref b10)])
  have Z0_c13 := Nat.le_trans Z0_c11 K12.1
  have K0_c13 := K0_c11.trans K12 (allS (Or.inr sz_b10) all0)
  have A10_c13 := A10.keep K12
  refine own_go (fun _ k => XS.astore X12.here hx rfl (hb hby at_24) rfl rfl (l' := #[.val (.int p1), .val (.int p2), .val (.int x1), .val (.int x2), .val (.ref b10), .unset, .unset, .unset]) rfl k) ?_
  show own_Run p e below _ T12 (mkF m 26 #[.val (.int p1), .val (.int p2), .val (.int x1), .val (.int x2), .val (.ref b10), .unset, .unset, .unset] [])
  obtain ⟨T14, h14, X14, e14, E14, A14, D14, -, st14⟩ := newO X12 hx hZ hown (W 1 rfl) (W 2 rfl) (W 3 rfl) rfl (g := (mkF m 26 #[.val (.int p1), .val (.int p2), .val (.int x1), .val (.int x2), .val (.ref b10), .unset, .unset, .unset] [])) rfl (hb hby at_26) (by decide) (by decide)
  refine own_go st14 ?_
  obtain ⟨b14, g14⟩ : ∃ z, z = T12.heap.size := ⟨_, rfl⟩
  rw [← g14] at A14 D14
  rw [← g14]
  show own_Run p e below _ T14 (mkF m 29 #[.val (.int p1), .val (.int p2), .val (.int x1), .val (.int x2), .val (.ref b10), .unset, .unset, .unset] [(.ref b14)])
  have ne_b10_b14 : b10 ≠ b14 := Nat.ne_of_lt (Nat.lt_of_lt_of_eq P12_0.lt g14.symm)
  have g_b14 : n0 ≤ b14 := Nat.le_trans Z0_c13 (Nat.le_of_eq g14.symm)
  have sz_b14 : h0.size ≤ b14 := Nat.le_trans K0_c13.1 (Nat.le_of_eq g14.symm)
  have Z0_c15 := Nat.le_trans Z0_c13 E14.1
  have K0_c15 := K0_c13.ext E14
  have P12_0_c15 := P12_0.ext E14
  have P12_1_c15 := P12_1.ext E14
  have F_percent_b14 : Fld Z h14 b14 "com/example/network_analytics_service/networkanalyticsservice/core/sliceload/LoadLevel" "percent" "I" (.int (0 : Int32)) := D14 (Or.inr (W 16 rfl)) (ty := .int) (by decide)
  refine own_go (fun _ k => XS.dup X14.here hx rfl (hb hby at_29) rfl rfl k) ?_
  refine own_go (fun _ k => XS.iloadN X14.here hx rfl (hb hby at_30) rfl k) ?_
  show own_Run p e below _ T14 (mkF m 31 #[.val (.int p1), .val (.int p2), .val (.int x1), .val (.int x2), .val (.ref b10), .unset, .unset, .unset] [(.int x2), (.ref b14), (.ref b14)])
  obtain ⟨_, _, ⟨T16, L16, k16, n16⟩, -, X16, ⟨Lc16, hQ16, l16, y16, z16⟩, st16⟩ := X14.specialBack hx (y := (⟨"com/example/network_analytics_service/networkanalyticsservice/core/sliceload/LoadLevel", "<init>", "(I)V"⟩ : MethodName)) rfl hown (mvT hZ (W 4 rfl)) (mvT hZ (W 5 rfl)) (mvT hZ (W 6 rfl)) (by decide) (backOf (W := 1) (rm1 l Z a0 hw [] b14 x2 (.int (0 : Int32)) h14 n0 Z0_c15 A14 F_percent_b14 g_b14 (hr2.1) (hr2.2)) hZ (W 6 rfl) (W 3 rfl) (by decide) (by decide)) (g := (mkF m 31 #[.val (.int p1), .val (.int p2), .val (.int x1), .val (.int x2), .val (.ref b10), .unset, .unset, .unset] [(.int x2), (.ref b14), (.ref b14)])) rfl (by rw [hml]; rfl) (Steps.refl _) (a := b14) (argsL := [(.int x2)]) (rest := [(.ref b14)]) (lenOf pd_2 rfl) rfl (by show 2 * 0 + _ ≤ _; exact Nat.le_of_eq rfl) (hb hby at_31) (fun _ _ => ⟨rfl, e14, (by decide : 2 + 0 ≤ _), (by decide : 2 + 0 ≤ _)⟩)
  dsimp only [Pt.U, Pt.locs, Pt.cells, Pt.slots] at X16 l16 y16 z16 st16 hQ16
  subst l16 y16 z16
  obtain ⟨rfl, N16q, K16, P16_0, P16_1⟩ := hQ16
  have N16 := Fr.app N12 N16q
  refine own_goT st16 ?_
  show own_Run p e below _ T16 (mkF m 34 #[.val (.int p1), .val (.int p2), .val (.int x1), .val (.int x2), .val (.ref b10), .unset, .unset, .unset] [(.ref b14)])
  have Z0_c17 := Nat.le_trans Z0_c15 K16.1
  have K0_c17 := K0_c15.trans K16 (allS (Or.inr sz_b14) all0)
  have P12_0_c17 := P12_0_c15.keep K16
  have P12_1_c17 := P12_1_c15.keep K16 (ninS ne_b10_b14 nin0)
  have A14_c17 := A14.keep K16
  refine own_go (fun _ k => XS.astore X16.here hx rfl (hb hby at_34) rfl rfl (l' := #[.val (.int p1), .val (.int p2), .val (.int x1), .val (.int x2), .val (.ref b10), .val (.ref b14), .unset, .unset]) rfl k) ?_
  refine own_go (fun _ k => XS.aload X16.here hx rfl (hb hby at_36) rfl rfl k) ?_
  refine own_go (fun _ k => XS.aload X16.here hx rfl (hb hby at_38) rfl rfl k) ?_
  show own_Run p e below _ T16 (mkF m 40 #[.val (.int p1), .val (.int p2), .val (.int x1), .val (.int x2), .val (.ref b10), .val (.ref b14), .unset, .unset] [(.ref b14), (.ref b10)])
  by_cases hm : x1 < x2
  · obtain ⟨cq18, kq18, q18a, q18b, q18c⟩ := isOf hZ rfl P12_0_c17
    obtain ⟨_, _, ⟨T18, L18, k18, n18⟩, -, X18, ⟨Lc18, hQ18, l18, y18, z18⟩, st18⟩ := X16.virtualBack hx (y := (⟨"com/example/network_analytics_service/networkanalyticsservice/core/sliceload/LoadLevel", "max", "(Lcom/example/network_analytics_service/networkanalyticsservice/core/sliceload/LoadLevel;)Lcom/example/network_analytics_service/networkanalyticsservice/core/sliceload/LoadLevel;"⟩ : MethodName)) (z := (⟨"com/example/network_analytics_service/networkanalyticsservice/core/sliceload/LoadLevel", "max", "(Lcom/example/network_analytics_service/networkanalyticsservice/core/sliceload/LoadLevel;)Lcom/example/network_analytics_service/networkanalyticsservice/core/sliceload/LoadLevel;"⟩ : MethodName)) hown (mvT hZ (W 17 rfl)) (mvT hZ (W 18 rfl)) (notFace_of_selects (args := #[]) (mvT hZ (W 20 rfl))) (mvT hZ (W 20 rfl)) (mvT hZ (W 19 rfl)) (by decide) (backOf (W := 0) (rm4 l Z a0 hw [] b10 b14 x1 x2 T16.heap n0 Z0_c17 P12_1_c17 P16_1) hZ (W 21 rfl) (W 3 rfl) (by decide) (by decide)) q18a q18c (g := (mkF m 40 #[.val (.int p1), .val (.int p2), .val (.int x1), .val (.int x2), .val (.ref b10), .val (.ref b14), .unset, .unset] [(.ref b14), (.ref b10)])) rfl (by rw [hml]; rfl) (Steps.refl _) (argsL := [(.ref b14)]) (rest := []) (lenOf pd_3 rfl) rfl (by show 2 * 0 + _ ≤ _; exact Nat.le_of_eq rfl) (hb hby at_40) (fun _ _ => ⟨rfl, rfl, (by decide : 2 + 0 ≤ _), (by decide : 2 + 0 ≤ _)⟩)
    dsimp only [Pt.U, Pt.locs, Pt.cells, Pt.slots] at X18 l18 y18 z18 st18 hQ18
    subst l18 y18 z18
    obtain ⟨rfl, N18q, e18⟩ := hQ18
    have N18 := Fr.app N16 N18q
    refine own_goT st18 ?_
    show own_Run p e below _ T18 (mkF m 43 #[.val (.int p1), .val (.int p2), .val (.int x1), .val (.int x2), .val (.ref b10), .val (.ref b14), .unset, .unset] [(.ref (if x1 < x2 then b14 else b10))])
    rw [if_pos hm]
    show own_Run p e below _ T18 (mkF m 43 #[.val (.int p1), .val (.int p2), .val (.int x1), .val (.int x2), .val (.ref b10), .val (.ref b14), .unset, .unset] [(.ref b14)])
    refine own_go (fun _ k => XS.astore X18.here hx rfl (hb hby at_43) rfl rfl (l' := #[.val (.int p1), .val (.int p2), .val (.int x1), .val (.int x2), .val (.ref b10), .val (.ref b14), .val (.ref b14), .unset]) rfl k) ?_
    refine own_go (fun _ k => XS.iloadN X18.here hx rfl (hb hby at_45) rfl k) ?_
    refine own_go (fun _ k => XS.iloadN X18.here hx rfl (hb hby at_46) rfl k) ?_
    show own_Run p e below _ T18 (mkF m 47 #[.val (.int p1), .val (.int p2), .val (.int x1), .val (.int x2), .val (.ref b10), .val (.ref b14), .val (.ref b14), .unset] [(.int x2), (.int x1)])
    obtain ⟨_, _, ⟨T19, L19, k19, n19⟩, -, X19, ⟨Lc19, hQ19, l19, y19, z19⟩, st19⟩ := Jvm.LawKit.callS X18 hx (y := (⟨"java/lang/Math", "max", "(II)I"⟩ : MethodName)) hown (mvT hZ (W 22 rfl)) (mvT hZ (W 23 rfl)) (mvT hZ (W 24 rfl)) (mvT hZ (W 25 rfl)) (by decide) (backOf (W := 0) (rm5 l Z a0 hw [] x1 x2 T16.heap n0 Z0_c17 ) hZ (W 25 rfl) (W 24 rfl) (by decide) (by decide)) (g := (mkF m 47 #[.val (.int p1), .val (.int p2), .val (.int x1), .val (.int x2), .val (.ref b10), .val (.ref b14), .val (.ref b14), .unset] [(.int x2), (.int x1)])) rfl (by rw [hml]; rfl) (argsL := [(.int x1), (.int x2)]) (rest := []) (lenOf pd_4 rfl) rfl (by show 2 * 0 + _ ≤ _; exact Nat.le_of_eq rfl) (hb hby at_47) (fun _ _ => ⟨rfl, e18, (by decide : 2 + 0 ≤ _), (by decide : 2 + 0 ≤ _)⟩)
    dsimp only [Pt.U, Pt.locs, Pt.cells, Pt.slots] at X19 l19 y19 z19 st19 hQ19
    subst l19 y19 z19
    obtain ⟨rfl, N19q, e19⟩ := hQ19
    have N19 := Fr.app N18 N19q
    refine own_go st19 ?_
    show own_Run p e below _ T19 (mkF m 50 #[.val (.int p1), .val (.int p2), .val (.int x1), .val (.int x2), .val (.ref b10), .val (.ref b14), .val (.ref b14), .unset] [(.int (if x1 < x2 then x2 else x1))])
    rw [if_pos hm]
    show own_Run p e below _ T19 (mkF m 50 #[.val (.int p1), .val (.int p2), .val (.int x1), .val (.int x2), .val (.ref b10), .val (.ref b14), .val (.ref b14), .unset] [(.int x2)])
    refine own_go (fun _ k => XS.istore X19.here hx rfl (hb hby at_50) rfl (l' := #[.val (.int p1), .val (.int p2), .val (.int x1), .val (.int x2), .val (.ref b10), .val (.ref b14), .val (.ref b14), .val (.int x2)]) rfl k) ?_
    refine own_go (fun _ k => XS.aload X19.here hx rfl (hb hby at_52) rfl rfl k) ?_
    show own_Run p e below _ T19 (mkF m 54 #[.val (.int p1), .val (.int p2), .val (.int x1), .val (.int x2), .val (.ref b10), .val (.ref b14), .val (.ref b14), .val (.int x2)] [(.ref b14)])
    obtain ⟨cq20, kq20, q20a, q20b, q20c⟩ := isOf hZ e19 P16_0
    obtain ⟨_, _, ⟨T20, L20, k20, n20⟩, -, X20, ⟨Lc20, hQ20, l20, y20, z20⟩, st20⟩ := X19.virtualBack hx (y := (⟨"com/example/network_analytics_service/networkanalyticsservice/core/sliceload/LoadLevel", "percent", "()I"⟩ : MethodName)) (z := (⟨"com/example/network_analytics_service/networkanalyticsservice/core/sliceload/LoadLevel", "percent", "()I"⟩ : MethodName)) hown (mvT hZ (W 26 rfl)) (mvT hZ (W 27 rfl)) (notFace_of_selects (args := #[]) (mvT hZ (W 29 rfl))) (mvT hZ (W 29 rfl)) (mvT hZ (W 28 rfl)) (by decide) (backOf (W := 0) (rm6 l Z a0 hw [] b14 x2 T16.heap n0 Z0_c17 P16_1) hZ (W 30 rfl) (W 3 rfl) (by decide) (by decide)) q20a q20c (g := (mkF m 54 #[.val (.int p1), .val (.int p2), .val (.int x1), .val (.int x2), .val (.ref b10), .val (.ref b14), .val (.ref b14), .val (.int x2)] [(.ref b14)])) rfl (by rw [hml]; rfl) (Steps.refl _) (argsL := []) (rest := []) (lenOf pd_5 rfl) rfl (by show 2 * 0 + _ ≤ _; exact Nat.le_of_eq rfl) (hb hby at_54) (fun _ _ => ⟨rfl, e19, (by decide : 2 + 0 ≤ _), (by decide : 2 + 0 ≤ _)⟩)
    dsimp only [Pt.U, Pt.locs, Pt.cells, Pt.slots] at X20 l20 y20 z20 st20 hQ20
    subst l20 y20 z20
    obtain ⟨rfl, N20q, e20⟩ := hQ20
    have N20 := Fr.app N19 N20q
    refine own_goT st20 ?_
    show own_Run p e below _ T20 (mkF m 57 #[.val (.int p1), .val (.int p2), .val (.int x1), .val (.int x2), .val (.ref b10), .val (.ref b14), .val (.ref b14), .val (.int x2)] [(.int x2)])
    refine own_go (fun _ k => XS.iload X20.here hx rfl (hb hby at_57) rfl k) ?_
    show own_Run p e below _ T20 (mkF m 59 #[.val (.int p1), .val (.int p2), .val (.int x1), .val (.int x2), .val (.ref b10), .val (.ref b14), .val (.ref b14), .val (.int x2)] [(.int x2), (.int x2)])
    refine own_go (fun _ k => XS.icmpNo X20.here hx rfl (hb hby at_59) rfl (teq rfl).2 k) ?_
    show own_Run p e below _ T20 (mkF m 62 #[.val (.int p1), .val (.int p2), .val (.int x1), .val (.int x2), .val (.ref b10), .val (.ref b14), .val (.ref b14), .val (.int x2)] [])
    refine own_go (fun _ k => XS.aload X20.here hx rfl (hb hby at_62) rfl rfl k) ?_
    refine own_go (fun _ k => XS.aload X20.here hx rfl (hb hby at_64) rfl rfl k) ?_
    show own_Run p e below _ T20 (mkF m 66 #[.val (.int p1), .val (.int p2), .val (.int x1), .val (.int x2), .val (.ref b10), .val (.ref b14), .val (.ref b14), .val (.int x2)] [(.ref b10), (.ref b14)])
    refine own_go (fun _ k => Jvm.RoadKit.acmp (g := (mkF m 66 #[.val (.int p1), .val (.int p2), .val (.int x1), .val (.int x2), .val (.ref b10), .val (.ref b14), .val (.ref b14), .val (.int x2)] [(.ref b10), (.ref b14)])) X20 hx rfl rfl rfl (pc0 := 66) (pc' := 69) (same := false) rfl (hb hby at_66) rfl (decide_eq_false fun q => (Ne.symm ne_b10_b14) (Value.ref.inj q)) (by decide) (by decide) k) ?_
    show own_Run p e below _ T20 (mkF m 69 #[.val (.int p1), .val (.int p2), .val (.int x1), .val (.int x2), .val (.ref b10), .val (.ref b14), .val (.ref b14), .val (.int x2)] [])
    refine own_go (fun _ k => XS.aload X20.here hx rfl (hb hby at_69) rfl rfl k) ?_
    refine own_go (fun _ k => XS.aload X20.here hx rfl (hb hby at_71) rfl rfl k) ?_
    show own_Run p e below _ T20 (mkF m 73 #[.val (.int p1), .val (.int p2), .val (.int x1), .val (.int x2), .val (.ref b10), .val (.ref b14), .val (.ref b14), .val (.int x2)] [(.ref b14), (.ref b14)])
    refine own_go (fun _ k => Jvm.RoadKit.acmp (g := (mkF m 73 #[.val (.int p1), .val (.int p2), .val (.int x1), .val (.int x2), .val (.ref b10), .val (.ref b14), .val (.ref b14), .val (.int x2)] [(.ref b14), (.ref b14)])) X20 hx rfl rfl rfl (pc0 := 73) (pc' := 76) (same := true) rfl (hb hby at_73) rfl (decide_eq_true rfl) (by decide) (by decide) k) ?_
    show own_Run p e below _ T20 (mkF m 76 #[.val (.int p1), .val (.int p2), .val (.int x1), .val (.int x2), .val (.ref b10), .val (.ref b14), .val (.ref b14), .val (.int x2)] [])
    refine own_go (fun _ k => XS.iconst X20.here hx rfl (hb hby at_76) k) ?_
    refine own_go (fun _ k => XS.goto X20.here hx rfl (pc0 := 77) (pc' := 81) rfl (hb hby at_77) (by decide) (by decide) k) ?_
    show own_Run p e below _ T20 (mkF m 81 #[.val (.int p1), .val (.int p2), .val (.int x1), .val (.int x2), .val (.ref b10), .val (.ref b14), .val (.ref b14), .val (.int x2)] [(.int (1 : Int32))])
    refine own_done (Q := fun v h L => Q0 Z p1 p2 h0 n0 v h L) (v := (some (.int (1 : Int32)))) X20 (fun h => by rw [hret] at h; cases h) hlk (fun fs hr => retN X20 hx (t := .boolean) hret (by simp) (hb hby at_81) hr) ?_ (by decide) (by decide)
    show Q0 Z p1 p2 h0 n0 _ T20.heap _
    rw [e20]
    exact ⟨rfl, N20⟩
  · obtain ⟨cq21, kq21, q21a, q21b, q21c⟩ := isOf hZ rfl P12_0_c17
    obtain ⟨_, _, ⟨T21, L21, k21, n21⟩, -, X21, ⟨Lc21, hQ21, l21, y21, z21⟩, st21⟩ := X16.virtualBack hx (y := (⟨"com/example/network_analytics_service/networkanalyticsservice/core/sliceload/LoadLevel", "max", "(Lcom/example/network_analytics_service/networkanalyticsservice/core/sliceload/LoadLevel;)Lcom/example/network_analytics_service/networkanalyticsservice/core/sliceload/LoadLevel;"⟩ : MethodName)) (z := (⟨"com/example/network_analytics_service/networkanalyticsservice/core/sliceload/LoadLevel", "max", "(Lcom/example/network_analytics_service/networkanalyticsservice/core/sliceload/LoadLevel;)Lcom/example/network_analytics_service/networkanalyticsservice/core/sliceload/LoadLevel;"⟩ : MethodName)) hown (mvT hZ (W 17 rfl)) (mvT hZ (W 18 rfl)) (notFace_of_selects (args := #[]) (mvT hZ (W 20 rfl))) (mvT hZ (W 20 rfl)) (mvT hZ (W 19 rfl)) (by decide) (backOf (W := 0) (rm4 l Z a0 hw [] b10 b14 x1 x2 T16.heap n0 Z0_c17 P12_1_c17 P16_1) hZ (W 21 rfl) (W 3 rfl) (by decide) (by decide)) q21a q21c (g := (mkF m 40 #[.val (.int p1), .val (.int p2), .val (.int x1), .val (.int x2), .val (.ref b10), .val (.ref b14), .unset, .unset] [(.ref b14), (.ref b10)])) rfl (by rw [hml]; rfl) (Steps.refl _) (argsL := [(.ref b14)]) (rest := []) (lenOf pd_3 rfl) rfl (by show 2 * 0 + _ ≤ _; exact Nat.le_of_eq rfl) (hb hby at_40) (fun _ _ => ⟨rfl, rfl, (by decide : 2 + 0 ≤ _), (by decide : 2 + 0 ≤ _)⟩)
    dsimp only [Pt.U, Pt.locs, Pt.cells, Pt.slots] at X21 l21 y21 z21 st21 hQ21
    subst l21 y21 z21
    obtain ⟨rfl, N21q, e21⟩ := hQ21
    have N21 := Fr.app N16 N21q
    refine own_goT st21 ?_
    show own_Run p e below _ T21 (mkF m 43 #[.val (.int p1), .val (.int p2), .val (.int x1), .val (.int x2), .val (.ref b10), .val (.ref b14), .unset, .unset] [(.ref (if x1 < x2 then b14 else b10))])
    rw [if_neg hm]
    show own_Run p e below _ T21 (mkF m 43 #[.val (.int p1), .val (.int p2), .val (.int x1), .val (.int x2), .val (.ref b10), .val (.ref b14), .unset, .unset] [(.ref b10)])
    refine own_go (fun _ k => XS.astore X21.here hx rfl (hb hby at_43) rfl rfl (l' := #[.val (.int p1), .val (.int p2), .val (.int x1), .val (.int x2), .val (.ref b10), .val (.ref b14), .val (.ref b10), .unset]) rfl k) ?_
    refine own_go (fun _ k => XS.iloadN X21.here hx rfl (hb hby at_45) rfl k) ?_
    refine own_go (fun _ k => XS.iloadN X21.here hx rfl (hb hby at_46) rfl k) ?_
    show own_Run p e below _ T21 (mkF m 47 #[.val (.int p1), .val (.int p2), .val (.int x1), .val (.int x2), .val (.ref b10), .val (.ref b14), .val (.ref b10), .unset] [(.int x2), (.int x1)])
    obtain ⟨_, _, ⟨T22, L22, k22, n22⟩, -, X22, ⟨Lc22, hQ22, l22, y22, z22⟩, st22⟩ := Jvm.LawKit.callS X21 hx (y := (⟨"java/lang/Math", "max", "(II)I"⟩ : MethodName)) hown (mvT hZ (W 22 rfl)) (mvT hZ (W 23 rfl)) (mvT hZ (W 24 rfl)) (mvT hZ (W 25 rfl)) (by decide) (backOf (W := 0) (rm5 l Z a0 hw [] x1 x2 T16.heap n0 Z0_c17 ) hZ (W 25 rfl) (W 24 rfl) (by decide) (by decide)) (g := (mkF m 47 #[.val (.int p1), .val (.int p2), .val (.int x1), .val (.int x2), .val (.ref b10), .val (.ref b14), .val (.ref b10), .unset] [(.int x2), (.int x1)])) rfl (by rw [hml]; rfl) (argsL := [(.int x1), (.int x2)]) (rest := []) (lenOf pd_4 rfl) rfl (by show 2 * 0 + _ ≤ _; exact Nat.le_of_eq rfl) (hb hby at_47) (fun _ _ => ⟨rfl, e21, (by decide : 2 + 0 ≤ _), (by decide : 2 + 0 ≤ _)⟩)
    dsimp only [Pt.U, Pt.locs, Pt.cells, Pt.slots] at X22 l22 y22 z22 st22 hQ22
    subst l22 y22 z22
    obtain ⟨rfl, N22q, e22⟩ := hQ22
    have N22 := Fr.app N21 N22q
    refine own_go st22 ?_
    show own_Run p e below _ T22 (mkF m 50 #[.val (.int p1), .val (.int p2), .val (.int x1), .val (.int x2), .val (.ref b10), .val (.ref b14), .val (.ref b10), .unset] [(.int (if x1 < x2 then x2 else x1))])
    rw [if_neg hm]
    show own_Run p e below _ T22 (mkF m 50 #[.val (.int p1), .val (.int p2), .val (.int x1), .val (.int x2), .val (.ref b10), .val (.ref b14), .val (.ref b10), .unset] [(.int x1)])
    refine own_go (fun _ k => XS.istore X22.here hx rfl (hb hby at_50) rfl (l' := #[.val (.int p1), .val (.int p2), .val (.int x1), .val (.int x2), .val (.ref b10), .val (.ref b14), .val (.ref b10), .val (.int x1)]) rfl k) ?_
    refine own_go (fun _ k => XS.aload X22.here hx rfl (hb hby at_52) rfl rfl k) ?_
    show own_Run p e below _ T22 (mkF m 54 #[.val (.int p1), .val (.int p2), .val (.int x1), .val (.int x2), .val (.ref b10), .val (.ref b14), .val (.ref b10), .val (.int x1)] [(.ref b10)])
    obtain ⟨cq23, kq23, q23a, q23b, q23c⟩ := isOf hZ e22 P12_0_c17
    obtain ⟨_, _, ⟨T23, L23, k23, n23⟩, -, X23, ⟨Lc23, hQ23, l23, y23, z23⟩, st23⟩ := X22.virtualBack hx (y := (⟨"com/example/network_analytics_service/networkanalyticsservice/core/sliceload/LoadLevel", "percent", "()I"⟩ : MethodName)) (z := (⟨"com/example/network_analytics_service/networkanalyticsservice/core/sliceload/LoadLevel", "percent", "()I"⟩ : MethodName)) hown (mvT hZ (W 26 rfl)) (mvT hZ (W 27 rfl)) (notFace_of_selects (args := #[]) (mvT hZ (W 29 rfl))) (mvT hZ (W 29 rfl)) (mvT hZ (W 28 rfl)) (by decide) (backOf (W := 0) (rm6 l Z a0 hw [] b10 x1 T16.heap n0 Z0_c17 P12_1_c17) hZ (W 30 rfl) (W 3 rfl) (by decide) (by decide)) q23a q23c (g := (mkF m 54 #[.val (.int p1), .val (.int p2), .val (.int x1), .val (.int x2), .val (.ref b10), .val (.ref b14), .val (.ref b10), .val (.int x1)] [(.ref b10)])) rfl (by rw [hml]; rfl) (Steps.refl _) (argsL := []) (rest := []) (lenOf pd_5 rfl) rfl (by show 2 * 0 + _ ≤ _; exact Nat.le_of_eq rfl) (hb hby at_54) (fun _ _ => ⟨rfl, e22, (by decide : 2 + 0 ≤ _), (by decide : 2 + 0 ≤ _)⟩)
    dsimp only [Pt.U, Pt.locs, Pt.cells, Pt.slots] at X23 l23 y23 z23 st23 hQ23
    subst l23 y23 z23
    obtain ⟨rfl, N23q, e23⟩ := hQ23
    have N23 := Fr.app N22 N23q
    refine own_goT st23 ?_
    show own_Run p e below _ T23 (mkF m 57 #[.val (.int p1), .val (.int p2), .val (.int x1), .val (.int x2), .val (.ref b10), .val (.ref b14), .val (.ref b10), .val (.int x1)] [(.int x1)])
    refine own_go (fun _ k => XS.iload X23.here hx rfl (hb hby at_57) rfl k) ?_
    show own_Run p e below _ T23 (mkF m 59 #[.val (.int p1), .val (.int p2), .val (.int x1), .val (.int x2), .val (.ref b10), .val (.ref b14), .val (.ref b10), .val (.int x1)] [(.int x1), (.int x1)])
    refine own_go (fun _ k => XS.icmpNo X23.here hx rfl (hb hby at_59) rfl (teq rfl).2 k) ?_
    show own_Run p e below _ T23 (mkF m 62 #[.val (.int p1), .val (.int p2), .val (.int x1), .val (.int x2), .val (.ref b10), .val (.ref b14), .val (.ref b10), .val (.int x1)] [])
    refine own_go (fun _ k => XS.aload X23.here hx rfl (hb hby at_62) rfl rfl k) ?_
    refine own_go (fun _ k => XS.aload X23.here hx rfl (hb hby at_64) rfl rfl k) ?_
    show own_Run p e below _ T23 (mkF m 66 #[.val (.int p1), .val (.int p2), .val (.int x1), .val (.int x2), .val (.ref b10), .val (.ref b14), .val (.ref b10), .val (.int x1)] [(.ref b10), (.ref b10)])
    refine own_go (fun _ k => Jvm.RoadKit.acmp (g := (mkF m 66 #[.val (.int p1), .val (.int p2), .val (.int x1), .val (.int x2), .val (.ref b10), .val (.ref b14), .val (.ref b10), .val (.int x1)] [(.ref b10), (.ref b10)])) X23 hx rfl rfl rfl (pc0 := 66) (pc' := 76) (same := true) rfl (hb hby at_66) rfl (decide_eq_true rfl) (by decide) (by decide) k) ?_
    show own_Run p e below _ T23 (mkF m 76 #[.val (.int p1), .val (.int p2), .val (.int x1), .val (.int x2), .val (.ref b10), .val (.ref b14), .val (.ref b10), .val (.int x1)] [])
    refine own_go (fun _ k => XS.iconst X23.here hx rfl (hb hby at_76) k) ?_
    refine own_go (fun _ k => XS.goto X23.here hx rfl (pc0 := 77) (pc' := 81) rfl (hb hby at_77) (by decide) (by decide) k) ?_
    show own_Run p e below _ T23 (mkF m 81 #[.val (.int p1), .val (.int p2), .val (.int x1), .val (.int x2), .val (.ref b10), .val (.ref b14), .val (.ref b10), .val (.int x1)] [(.int (1 : Int32))])
    refine own_done (Q := fun v h L => Q0 Z p1 p2 h0 n0 v h L) (v := (some (.int (1 : Int32)))) X23 (fun h => by rw [hret] at h; cases h) hlk (fun fs hr => retN X23 hx (t := .boolean) hret (by simp) (hb hby at_81) hr) ?_ (by decide) (by decide)
    show Q0 Z p1 p2 h0 n0 _ T23.heap _
    rw [e23]
    exact ⟨rfl, N23⟩
set_option maxRecDepth 65536 in
set_option maxHeartbeats 40000000 in
theorem comes_1 {Post : Tables → Env → Array Value → State → Outcome → State → Prop} (hpost : ∀ tb e args s v u, (limb_1_1.after args s (.returned v) u = true ∧ limb_1_2.after args s (.returned v) u = true ∧ True) → FrameEnd s (.returned v) u (Jvm.fieldLocs frame_1_writes args s ++ Jvm.arrayLocs frame_1_arrays args s ++ Jvm.staticLocs frame_1_statics s) 16 128 → Post tb e args s (.returned v) u) :
    ArmFor flags0 classFile x code maxLocals ret World_1 tables_1 room_1 Calls_1 rest_1 Pre_1 Post := by
  intro l hfl _ _ p e ha hc hk s m args below hf hA hF happ hP
  obtain ⟨hcalls, hrest, hpre⟩ := hP
  obtain ⟨-, -, -, hnamed, -, -, -, hat⟩ := (Spec.applies_iff hf).mp happ
  obtain ⟨hg, hn⟩ := and_e (Cond.before_iff.mp (show (Jvm.Cond.and given_1 narrow_1).before args s = true from hpre))
  obtain ⟨hcount, hr0⟩ := and_e hg
  obtain ⟨ha0, hr1⟩ := and_e hr0
  have ha1 := hr1
  obtain ⟨w0, w1, rfl⟩ : ∃ w0 w1 : Value, args = #[w0, w1] := by
    have hs : args.size = 2 := by simpa [Cond.value, given_1] using hcount
    obtain ⟨L⟩ := args
    match L, hs with
    | [w0, w1], _ => exact ⟨w0, w1, rfl⟩
  have hw := fun d (hd : d ∈ tables_1) => atoms_spec (ws := Jvm.Cond.code x code maxLocals ret :: tables_1) hat d (List.mem_cons_of_mem _ hd)
  have W := fun (k : Nat) {d : Jvm.Cond} (h : tables_1[k]? = some d) => hw d (List.mem_of_getElem? h)
  have hfit : Fit s := fun {y c} hc i hi => by
    obtain ⟨ha, rfl⟩ := Array.getElem?_eq_some_iff.mp hc
    have q := List.all_eq_true.mp ((Array.all_eq_true_iff_forall_mem.mp hF) _ (Array.getElem_mem ha)) i (List.mem_range.mpr hi)
    simpa [Array.getElem?_eq_getElem hi] using q
  obtain ⟨i0, ei0⟩ := is_v ha0
  obtain rfl : w0 = (.int i0) := Option.some.inj ei0
  obtain ⟨i1, ei1⟩ := is_v ha1
  obtain rfl : w1 = (.int i1) := Option.some.inj ei1
  obtain ⟨n, o, h1, h2, h3, _, L, rfl, ⟨rfl, N⟩, hq⟩ := rm0 l s _ hw tables_1 i0 i1 s.heap s.heap.size (Nat.le_refl _) p e ha hc hk s m _ below hf ((Spec.applies_iff_loose hf).mp happ).1 ⟨rfl, State.Warmed39.refl s, rfl⟩ trivial
  refine ⟨n, _, h1, h2, h3, hpost _ _ _ _ _ _ ⟨Cond.after_iff.mpr rfl, Cond.after_iff.mpr (eq_i res_at (Term.int_eval (1)) rfl), trivial⟩ ⟨hq.1, hq.2.1, (hq.2.2.sift fun y hy => Or.inr (N y hy)).mono (by decide) (by decide)⟩⟩
theorem main_1_1 : Claimed_1_1 := comes_1 fun _ _ _ _ _ _ h hF => ⟨h.1, hF⟩
theorem main_1_2 : Claimed_1_2 := comes_1 fun _ _ _ _ _ _ h hF => ⟨h.2.1, hF⟩
end Jvm.Pilot.@@N@@
namespace Jvm.Pilot.@@N@@
open Jvm Jvm.ClassFile Sem Op Lib Jvm.Free Jvm.Stand Jvm.Pilot.@@N@@.Jvm.D
/-! MADE BY PROGRAM (witnessworld.py) out of the Statement's table words and the real class files: 11 classes; the members and pool entries that the words name. The judged class is class 1, her method 1. -/
namespace start1
open Jvm.ClassFile
def u (s : String) : CpInfo := .utf8 (stringToUtf16 s)
/-- a pool by its gaps: so many unusable entries, then the entry; so many at the end -/
def gap : Nat → List CpInfo → List CpInfo
  | 0, r => r
  | n + 1, r => .unusable :: gap n r
def poolList (es : List (Nat × CpInfo)) (last : Nat) : List CpInfo := es.foldr (fun e r => gap e.1 (e.2 :: r)) (gap last [])
def pool (es : List (Nat × CpInfo)) (last : Nat) : Array CpInfo := ⟨poolList es last⟩
def fileOf (pool : Array CpInfo) (this : Nat) (attrs : Array Attribute := #[]) (ms : Array MethodInfo := #[]) (fl : Nat := 33) (sup : Nat := 0) (ifs : Array Nat := #[]) (fds : Array FieldInfo := #[]) : ClassFile where
  minorVersion := 0
  majorVersion := 65
  constantPool := pool
  accessFlags := fl
  thisClass := this
  superClass := sup
  interfaces := ifs
  fields := fds
  methods := ms
  attributes := attrs
def plain (name : String) (sup : Option ClassId) : Class where
  name := name
  kind := .ordinary
  loader := none
  accessFlags := 33
  super := sup
  interfaces := #[]
  cf := none
  fields := #[]
  methods := #[]
  instanceTypes := #[]
  staticTypes := #[]
  resolved := #[]
  callSites := []
  init := .initialized
  statics := none
  mirror := none

def pool0 : Array CpInfo := pool [(5, u "<init>"), (0, u "()V"), (1, .class_ 10), (1, u "java/lang/Object")] 113

def k0c0 : Code := { maxStack := 0, maxLocals := 1, code := object_method_1_code, exceptionTable := #[], attributes := #[] }
def k0m0 : Method := { name := "<init>", desc := "()V", sig := { parameters := [], returnType := none }, accessFlags := 1, code := some k0c0 }
/-- java/lang/Object -/
def k0 : Class := { plain "java/lang/Object" none with
  accessFlags := 33
  interfaces := #[]
  cf := some (fileOf pool0 8 #[] #[{ accessFlags := 1, nameIndex := 5, descriptorIndex := 6, attributes := #[] }] 33 0 #[] #[])
  fields := #[]
  methods := #[k0m0]
  instanceTypes := #[]
  staticTypes := #[]
  resolved := Array.replicate 124 none
  statics := none }

def pool1 : Array CpInfo := pool [(2, .class_ 4), (1, u "java/lang/Object"), (0, u "<init>"), (0, u "()V"), (0, .integer 2147483647), (0, .class_ 9), (0, u "com/example/network_analytics_service/networkanalyticsservice/core/sliceload/LoadLevel"), (0, .methodref 8 11), (0, .nameAndType 5 12), (0, u "(I)V"), (0, .methodref 8 14), (0, .nameAndType 15 16), (0, u "max"), (0, u "(Lcom/example/network_analytics_service/networkanalyticsservice/core/sliceload/LoadLevel;)Lcom/example/network_analytics_service/networkanalyticsservice/core/sliceload/LoadLevel;"), (0, .methodref 18 19), (0, .class_ 20), (0, .nameAndType 15 21), (0, u "java/lang/Math"), (0, u "(II)I"), (0, .methodref 8 23), (0, .nameAndType 24 25), (0, u "percent"), (0, u "()I"), (0, .class_ 27), (0, u "com/example/network_analytics_service/networkanalyticsservice/core/sliceload/LoadLevelMaxPinLaw"), (2, u "law"), (0, u "(II)Z")] 3

def k1m0 : Method := { name := "<init>", desc := "()V", sig := { parameters := [], returnType := none }, accessFlags := 2, code := none }
def k1c1 : Code := { maxStack := 3, maxLocals := 8, code := code, exceptionTable := #[], attributes := #[] }
def k1m1 : Method := { name := "law", desc := "(II)Z", sig := { parameters := [.int, .int], returnType := some .boolean }, accessFlags := 9, code := some k1c1 }
/-- com/example/network_analytics_service/networkanalyticsservice/core/sliceload/LoadLevelMaxPinLaw -/
def k1 : Class := { plain "com/example/network_analytics_service/networkanalyticsservice/core/sliceload/LoadLevelMaxPinLaw" (some 0) with
  accessFlags := 49
  interfaces := #[]
  cf := some (fileOf pool1 26 #[] #[{ accessFlags := 2, nameIndex := 5, descriptorIndex := 6, attributes := #[] }, { accessFlags := 9, nameIndex := 30, descriptorIndex := 31, attributes := #[] }] 49 2 #[] #[])
  fields := #[]
  methods := #[k1m0, k1m1]
  instanceTypes := #[]
  staticTypes := #[]
  resolved := Array.replicate 35 none
  statics := none }

def pool2 : Array CpInfo := pool [(1, .methodref 2 3), (0, .class_ 4), (0, .nameAndType 5 6), (0, u "java/lang/Object"), (0, u "<init>"), (0, u "()V"), (0, .class_ 8), (0, u "java/lang/Record")] 13

def k2c0 : Code := { maxStack := 1, maxLocals := 1, code := jdk_30_method_1_code, exceptionTable := #[], attributes := #[] }
def k2m0 : Method := { name := "<init>", desc := "()V", sig := { parameters := [], returnType := none }, accessFlags := 4, code := some k2c0 }
/-- java/lang/Record -/
def k2 : Class := { plain "java/lang/Record" (some 0) with
  accessFlags := 1057
  interfaces := #[]
  cf := some (fileOf pool2 7 #[] #[{ accessFlags := 4, nameIndex := 5, descriptorIndex := 6, attributes := #[] }] 1057 2 #[] #[])
  fields := #[]
  methods := #[k2m0]
  instanceTypes := #[]
  staticTypes := #[]
  resolved := Array.replicate 22 none
  statics := none }

def pool3 : Array CpInfo := pool [(1, .methodref 2 3), (0, .class_ 4), (0, .nameAndType 5 6), (0, u "java/lang/Record"), (0, u "<init>"), (0, u "()V"), (0, .class_ 8), (0, u "com/example/network_analytics_service/networkanalyticsservice/core/sliceload/LoadLevel"), (9, .fieldref 7 19), (0, .nameAndType 20 21), (0, u "percent"), (0, u "I"), (18, u "FULL_AS_BIG"), (0, u "Ljava/math/BigInteger;"), (13, u "(I)V"), (12, u "FULL"), (8, u "max"), (0, u "(Lcom/example/network_analytics_service/networkanalyticsservice/core/sliceload/LoadLevel;)Lcom/example/network_analytics_service/networkanalyticsservice/core/sliceload/LoadLevel;"), (1, u "()I")] 33

def k3c0 : Code := { maxStack := 3, maxLocals := 2, code := prog_6_method_1_code, exceptionTable := #[], attributes := #[] }
def k3m0 : Method := { name := "<init>", desc := "(I)V", sig := { parameters := [.int], returnType := none }, accessFlags := 1, code := some k3c0 }
def k3c1 : Code := { maxStack := 2, maxLocals := 2, code := prog_6_method_3_code, exceptionTable := #[], attributes := #[] }
def k3m1 : Method := { name := "max", desc := "(Lcom/example/network_analytics_service/networkanalyticsservice/core/sliceload/LoadLevel;)Lcom/example/network_analytics_service/networkanalyticsservice/core/sliceload/LoadLevel;", sig := { parameters := [(.object "com/example/network_analytics_service/networkanalyticsservice/core/sliceload/LoadLevel")], returnType := some (.object "com/example/network_analytics_service/networkanalyticsservice/core/sliceload/LoadLevel") }, accessFlags := 1, code := some k3c1 }
def k3c2 : Code := { maxStack := 1, maxLocals := 1, code := prog_6_method_7_code, exceptionTable := #[], attributes := #[] }
def k3m2 : Method := { name := "percent", desc := "()I", sig := { parameters := [], returnType := some .int }, accessFlags := 1, code := some k3c2 }
/-- com/example/network_analytics_service/networkanalyticsservice/core/sliceload/LoadLevel -/
def k3 : Class := { plain "com/example/network_analytics_service/networkanalyticsservice/core/sliceload/LoadLevel" (some 2) with
  accessFlags := 49
  interfaces := #[]
  cf := some (fileOf pool3 7 #[] #[{ accessFlags := 1, nameIndex := 5, descriptorIndex := 55, attributes := #[] }, { accessFlags := 1, nameIndex := 77, descriptorIndex := 78, attributes := #[] }, { accessFlags := 1, nameIndex := 20, descriptorIndex := 80, attributes := #[] }] 49 2 #[] #[{ accessFlags := 18, nameIndex := 20, descriptorIndex := 21, attributes := #[] }, { accessFlags := 24, nameIndex := 68, descriptorIndex := 21, attributes := #[] }, { accessFlags := 26, nameIndex := 40, descriptorIndex := 41, attributes := #[] }])
  fields := #[{ name := "percent", type := .int, accessFlags := 18, slot := 0, constantValue := 0 }, { name := "FULL", type := .int, accessFlags := 24, slot := 0, constantValue := 0 }, { name := "FULL_AS_BIG", type := (.object "java/math/BigInteger"), accessFlags := 26, slot := 1, constantValue := 0 }]
  methods := #[k3m0, k3m1, k3m2]
  instanceTypes := #[.int]
  staticTypes := #[.int, (.object "java/math/BigInteger")]
  resolved := Array.replicate 114 none
  statics := none }

def pool4 : Array CpInfo := pool [(1, .class_ 2), (0, u "java/lang/Math"), (1, .class_ 6), (1, u "java/lang/Object"), (0, u "<init>"), (0, u "()V"), (89, .class_ 100), (1, u "java/lang/Math$RandomNumberGeneratorHolder"), (71, u "negativeZeroFloatBits"), (0, u "J"), (2, u "negativeZeroDoubleBits"), (21, u "max"), (46, u "$assertionsDisabled"), (0, u "Z"), (88, u "(II)I"), (2, u "twoToTheDoubleScaleDown"), (0, u "D"), (4, u "twoToTheDoubleScaleUp"), (9, u "E"), (3, u "PI"), (2, u "TAU"), (2, u "DEGREES_TO_RADIANS"), (0, u "RADIANS_TO_DEGREES")] 94

def k4m0 : Method := { name := "<init>", desc := "()V", sig := { parameters := [], returnType := none }, accessFlags := 2, code := none }
def k4c1 : Code := { maxStack := 2, maxLocals := 2, code := jdk_29_method_65_code, exceptionTable := #[], attributes := #[] }
def k4m1 : Method := { name := "max", desc := "(II)I", sig := { parameters := [.int, .int], returnType := some .int }, accessFlags := 9, code := some k4c1 }
/-- java/lang/Math -/
def k4 : Class := { plain "java/lang/Math" (some 0) with
  accessFlags := 49
  interfaces := #[]
  cf := some (fileOf pool4 1 #[.nestMembers #[98]] #[{ accessFlags := 2, nameIndex := 7, descriptorIndex := 8, attributes := #[] }, { accessFlags := 9, nameIndex := 198, descriptorIndex := 335, attributes := #[] }] 49 4 #[] #[{ accessFlags := 25, nameIndex := 354, descriptorIndex := 339, attributes := #[] }, { accessFlags := 25, nameIndex := 358, descriptorIndex := 339, attributes := #[] }, { accessFlags := 25, nameIndex := 361, descriptorIndex := 339, attributes := #[] }, { accessFlags := 26, nameIndex := 364, descriptorIndex := 339, attributes := #[] }, { accessFlags := 26, nameIndex := 365, descriptorIndex := 339, attributes := #[] }, { accessFlags := 26, nameIndex := 172, descriptorIndex := 173, attributes := #[] }, { accessFlags := 26, nameIndex := 176, descriptorIndex := 173, attributes := #[] }, { accessFlags := 8, nameIndex := 344, descriptorIndex := 339, attributes := #[] }, { accessFlags := 8, nameIndex := 338, descriptorIndex := 339, attributes := #[] }, { accessFlags := 4120, nameIndex := 245, descriptorIndex := 246, attributes := #[] }])
  fields := #[{ name := "E", type := .double, accessFlags := 25, slot := 0, constantValue := 0 }, { name := "PI", type := .double, accessFlags := 25, slot := 1, constantValue := 0 }, { name := "TAU", type := .double, accessFlags := 25, slot := 2, constantValue := 0 }, { name := "DEGREES_TO_RADIANS", type := .double, accessFlags := 26, slot := 3, constantValue := 0 }, { name := "RADIANS_TO_DEGREES", type := .double, accessFlags := 26, slot := 4, constantValue := 0 }, { name := "negativeZeroFloatBits", type := .long, accessFlags := 26, slot := 5, constantValue := 0 }, { name := "negativeZeroDoubleBits", type := .long, accessFlags := 26, slot := 6, constantValue := 0 }, { name := "twoToTheDoubleScaleUp", type := .double, accessFlags := 8, slot := 7, constantValue := 0 }, { name := "twoToTheDoubleScaleDown", type := .double, accessFlags := 8, slot := 8, constantValue := 0 }, { name := "$assertionsDisabled", type := .boolean, accessFlags := 4120, slot := 9, constantValue := 0 }]
  methods := #[k4m0, k4m1]
  instanceTypes := #[]
  staticTypes := #[.double, .double, .double, .double, .double, .long, .long, .double, .double, .boolean]
  resolved := Array.replicate 460 none
  statics := none }

def pool5 : Array CpInfo := pool [(1, u "java/lang/Cloneable"), (0, .class_ 1), (0, u "java/lang/Object"), (0, .class_ 3)] 3

/-- java/lang/Cloneable -/
def k5 : Class := { plain "java/lang/Cloneable" (some 0) with
  accessFlags := 1537
  interfaces := #[]
  cf := some (fileOf pool5 2 #[] #[] 1537 4 #[] #[])
  fields := #[]
  methods := #[]
  instanceTypes := #[]
  staticTypes := #[]
  resolved := Array.replicate 8 none
  statics := none }

def pool6 : Array CpInfo := pool [(1, u "java/io/Serializable"), (0, .class_ 1), (0, u "java/lang/Object"), (0, .class_ 3)] 3

/-- java/io/Serializable -/
def k6 : Class := { plain "java/io/Serializable" (some 0) with
  accessFlags := 1537
  interfaces := #[]
  cf := some (fileOf pool6 2 #[] #[] 1537 4 #[] #[])
  fields := #[]
  methods := #[]
  instanceTypes := #[]
  staticTypes := #[]
  resolved := Array.replicate 8 none
  statics := none }

/-- the primitive byte -/
def k7 : Class := { plain "byte" none with kind := .primitive 'B', accessFlags := 0x411 }
/-- [B -/
def k8 : Class := { plain "[B" (some 0) with kind := .array 7 .byte, interfaces := #[5, 6], accessFlags := 1041 }

/-- the primitive int -/
def k9 : Class := { plain "int" none with kind := .primitive 'I', accessFlags := 0x411 }
/-- [I -/
def k10 : Class := { plain "[I" (some 0) with kind := .array 9 .int, interfaces := #[5, 6], accessFlags := 1041 }

def heap : Heap := #[]
def classes : Array Class := #[k0, k1, k2, k3, k4, k5, k6, k7, k8, k9, k10]
def interned : List (Array UInt16 × Addr) := []
def slotsUsed : Nat := 0
def theMethod : MethodId := ⟨1, 1⟩
def args0 : Array Value := #[.int 5, .int 6]
def aboutOver (below : List Frame) : State where
  vm := { classes := classes, interned := interned.toArray }
  heap := heap
  slotsUsed := slotsUsed
  threads := #[{ frames := .invoking theMethod args0 :: below }]
def below0 : List Frame := [.native { method := ⟨0, 0⟩, args := #[] }]
def about1 : State := aboutOver below0
def p0 : Program := .bare "" "" ""
def e0 : Env := launch0.env 0 0 0
theorem w_frames : about1.frames = Frame.invoking theMethod args0 :: below0 := rfl
set_option maxRecDepth 65536 in
theorem w_args : argsFit about1.vm theMethod args0 = true := by decide +kernel
set_option maxRecDepth 65536 in
theorem w_heap : heapFits about1 = true := by decide +kernel
set_option maxRecDepth 65536 in
theorem w_runnable : about1.curStatus? = some .runnable := by decide +kernel
set_option maxRecDepth 65536 in
theorem w_alone : about1.alone = true := by decide +kernel
set_option maxRecDepth 65536 in
theorem w_named : about1.methodNamed? x = some theMethod := by decide +kernel
set_option maxRecDepth 65536 in
theorem w_hears : about1.hears theMethod below0 = true := by decide +kernel
set_option maxRecDepth 65536 in
theorem w_ripe : about1.ripe theMethod args0 below0 = true := by decide +kernel
theorem w_running : about1.status = .running := rfl
set_option maxRecDepth 65536 in
theorem w_room : about1.hasRoom e0.platform room_1 = true :=
  launch0.hasRoom_least _ room_1 (by decide +kernel) (by decide +kernel) (by decide +kernel) (by decide +kernel) (by decide +kernel) (by decide +kernel)
theorem allAtoms_all (ts : List Jvm.Cond) (a : Array Jvm.Value) (st : Jvm.State) : (allAtoms ts).before a st = ts.all (fun c => c.before a st) := by
  induction ts with
  | nil => rfl
  | cons c t ih =>
    show (Jvm.Cond.and c (allAtoms t)).before a st = _
    rw [Jvm.Cond.before_and, ih, List.all_cons]
def words1 : List Jvm.Cond := Jvm.Cond.code x code maxLocals ret :: tables_1
/-- a 'code' word, met by the world's own term for the bytes: nothing is compared byte by byte -/
theorem code_word {y : MethodName} {bytes : ByteArray} {mx : Nat} {rt : Option FieldType} {a : Array Value} {s : State} {m : MethodId} {meth : Method} {c : Code} (h1 : s.methodNamed? y = some m) (h2 : s.vm.method? m = some meth) (h3 : meth.code = some c) (h4 : c.code = bytes)
    (h5 : (c.maxLocals == mx && c.exceptionTable.isEmpty && decide (c.maxStack ≤ mostOperands) && decide (meth.sig.returnType = rt) && !meth.locks && decide (parseMethodDescriptor y.desc = some meth.sig)) = true) : (Jvm.Cond.code y bytes mx rt).before a s = true := by
  simp only [Bool.and_eq_true, beq_iff_eq, Bool.not_eq_true', decide_eq_true_eq] at h5
  obtain ⟨⟨⟨⟨⟨g1, g2⟩, g3⟩, g4⟩, g5⟩, g6⟩ := h5
  simp [Cond.before, Cond.holds, Cond.value, h1, h2, h3, h4, g1, g2, g3, g4, g5, g6]
def isCode : Jvm.Cond → Bool
  | .code _ _ _ _ => true
  | _ => false
theorem all_split {L : List Jvm.Cond} {P : Jvm.Cond → Bool} (h1 : L.all (fun c => isCode c || P c) = true) (h2 : ∀ c ∈ L.filter isCode, P c = true) : L.all P = true := by
  refine List.all_eq_true.mpr fun c hc => ?_
  have h := List.all_eq_true.mp h1 c hc
  rcases Bool.eq_false_or_eq_true (isCode c) with hi | hi
  · exact h2 c (List.mem_filter.mpr ⟨hc, hi⟩)
  · simpa [hi] using h
set_option maxRecDepth 65536 in
theorem w_c0 : (Jvm.Cond.code x code maxLocals ret).before args0 about1 = true := code_word (m := ⟨1, 1⟩) (meth := k1m1) (c := k1c1) (by decide +kernel) rfl rfl rfl (by decide +kernel)
set_option maxRecDepth 65536 in
theorem w_c1 : (Jvm.Cond.code ({ cls := "com/example/network_analytics_service/networkanalyticsservice/core/sliceload/LoadLevel", name := "<init>", desc := "(I)V" } : Jvm.MethodName) prog_6_method_1_code (2 : Nat) (Option.none : Option Jvm.ClassFile.FieldType)).before args0 about1 = true := code_word (m := ⟨3, 0⟩) (meth := k3m0) (c := k3c0) (by decide +kernel) rfl rfl rfl (by decide +kernel)
set_option maxRecDepth 65536 in
theorem w_c2 : (Jvm.Cond.code ({ cls := "java/lang/Record", name := "<init>", desc := "()V" } : Jvm.MethodName) jdk_30_method_1_code (1 : Nat) (Option.none : Option Jvm.ClassFile.FieldType)).before args0 about1 = true := code_word (m := ⟨2, 0⟩) (meth := k2m0) (c := k2c0) (by decide +kernel) rfl rfl rfl (by decide +kernel)
set_option maxRecDepth 65536 in
theorem w_c3 : (Jvm.Cond.code ({ cls := "java/lang/Object", name := "<init>", desc := "()V" } : Jvm.MethodName) object_method_1_code (1 : Nat) (Option.none : Option Jvm.ClassFile.FieldType)).before args0 about1 = true := code_word (m := ⟨0, 0⟩) (meth := k0m0) (c := k0c0) (by decide +kernel) rfl rfl rfl (by decide +kernel)
set_option maxRecDepth 65536 in
theorem w_c4 : (Jvm.Cond.code ({ cls := "com/example/network_analytics_service/networkanalyticsservice/core/sliceload/LoadLevel", name := "max", desc := "(Lcom/example/network_analytics_service/networkanalyticsservice/core/sliceload/LoadLevel;)Lcom/example/network_analytics_service/networkanalyticsservice/core/sliceload/LoadLevel;" } : Jvm.MethodName) prog_6_method_3_code (2 : Nat) (Option.some (Jvm.ClassFile.FieldType.object "com/example/network_analytics_service/networkanalyticsservice/core/sliceload/LoadLevel"))).before args0 about1 = true := code_word (m := ⟨3, 1⟩) (meth := k3m1) (c := k3c1) (by decide +kernel) rfl rfl rfl (by decide +kernel)
set_option maxRecDepth 65536 in
theorem w_c5 : (Jvm.Cond.code ({ cls := "java/lang/Math", name := "max", desc := "(II)I" } : Jvm.MethodName) jdk_29_method_65_code (2 : Nat) (Option.some Jvm.ClassFile.FieldType.int)).before args0 about1 = true := code_word (m := ⟨4, 1⟩) (meth := k4m1) (c := k4c1) (by decide +kernel) rfl rfl rfl (by decide +kernel)
set_option maxRecDepth 65536 in
theorem w_c6 : (Jvm.Cond.code ({ cls := "com/example/network_analytics_service/networkanalyticsservice/core/sliceload/LoadLevel", name := "percent", desc := "()I" } : Jvm.MethodName) prog_6_method_7_code (1 : Nat) (Option.some Jvm.ClassFile.FieldType.int)).before args0 about1 = true := code_word (m := ⟨3, 2⟩) (meth := k3m2) (c := k3c2) (by decide +kernel) rfl rfl rfl (by decide +kernel)
def codes1 : List Jvm.Cond := [Jvm.Cond.code x code maxLocals ret, Jvm.Cond.code ({ cls := "com/example/network_analytics_service/networkanalyticsservice/core/sliceload/LoadLevel", name := "<init>", desc := "(I)V" } : Jvm.MethodName) prog_6_method_1_code (2 : Nat) (Option.none : Option Jvm.ClassFile.FieldType), Jvm.Cond.code ({ cls := "java/lang/Record", name := "<init>", desc := "()V" } : Jvm.MethodName) jdk_30_method_1_code (1 : Nat) (Option.none : Option Jvm.ClassFile.FieldType), Jvm.Cond.code ({ cls := "java/lang/Object", name := "<init>", desc := "()V" } : Jvm.MethodName) object_method_1_code (1 : Nat) (Option.none : Option Jvm.ClassFile.FieldType), Jvm.Cond.code ({ cls := "com/example/network_analytics_service/networkanalyticsservice/core/sliceload/LoadLevel", name := "max", desc := "(Lcom/example/network_analytics_service/networkanalyticsservice/core/sliceload/LoadLevel;)Lcom/example/network_analytics_service/networkanalyticsservice/core/sliceload/LoadLevel;" } : Jvm.MethodName) prog_6_method_3_code (2 : Nat) (Option.some (Jvm.ClassFile.FieldType.object "com/example/network_analytics_service/networkanalyticsservice/core/sliceload/LoadLevel")), Jvm.Cond.code ({ cls := "java/lang/Math", name := "max", desc := "(II)I" } : Jvm.MethodName) jdk_29_method_65_code (2 : Nat) (Option.some Jvm.ClassFile.FieldType.int), Jvm.Cond.code ({ cls := "com/example/network_analytics_service/networkanalyticsservice/core/sliceload/LoadLevel", name := "percent", desc := "()I" } : Jvm.MethodName) prog_6_method_7_code (1 : Nat) (Option.some Jvm.ClassFile.FieldType.int)]
set_option maxRecDepth 65536 in
theorem codes_eq : words1.filter isCode = codes1 := rfl
theorem w_codes : ∀ c ∈ words1.filter isCode, c.before args0 about1 = true := by
  rw [codes_eq]
  intro c hc
  simp only [codes1, List.mem_cons, List.not_mem_nil, or_false] at hc
  rcases hc with rfl | rfl | rfl | rfl | rfl | rfl | rfl
  · exact w_c0
  · exact w_c1
  · exact w_c2
  · exact w_c3
  · exact w_c4
  · exact w_c5
  · exact w_c6
set_option maxRecDepth 65536 in
theorem w_t1 : (words1.take 24).all (fun c => isCode c || c.before args0 about1) = true := by decide +kernel
set_option maxRecDepth 65536 in
theorem w_t2 : (words1.drop 24).all (fun c => isCode c || c.before args0 about1) = true := by decide +kernel
theorem w_tables : (allAtoms (Jvm.Cond.code x code maxLocals ret :: tables_1)).before args0 about1 = true := by
  rw [allAtoms_all]
  show words1.all (fun c => c.before args0 about1) = true
  refine all_split ?_ w_codes
  rw [← List.take_append_drop 24 words1, List.all_append, w_t1, w_t2]
  rfl
set_option maxRecDepth 65536 in
theorem w_case : (Jvm.Cond.and given_1 narrow_1).before args0 about1 = true := by decide +kernel
theorem w_applies : (headSpec (Jvm.Cond.code x code maxLocals ret :: tables_1) room_1).applies x e0.platform about1 = true :=
  (Spec.applies_iff w_frames).mpr ⟨w_running, w_runnable, w_alone, w_named, w_hears, w_ripe, w_room, w_tables⟩
theorem atStart : AtStart classFile x code maxLocals ret World_1 tables_1 room_1 Calls_1 rest_1 Pre_1 launch0 p0 e0 about1 theMethod args0 below0 :=
  ⟨lists_1, trivial, launch0.admits_env _ _ _, launch0.least_env, fairChoices_fair.cas, fairChoices_fair.clock, w_frames, w_args, w_heap, w_applies, trivial, trivial, w_case⟩
end start1
theorem witness_1 : WitnessClaimed_1 := ⟨start1.p0, start1.e0, start1.about1, start1.theMethod, start1.args0, start1.below0, start1.atStart⟩
end Jvm.Pilot.@@N@@
