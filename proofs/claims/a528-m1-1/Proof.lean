import JvmDerived
import JvmDerived.Pilot.@@N@@Statement
import JvmDerived.Pilot.@@N@@Code
set_option linter.unusedVariables false
set_option linter.unusedSimpArgs false
namespace Jvm.Pilot.@@N@@
open Jvm Jvm.ClassFile Sem Op Lib Jvm.Free Jvm.Stand Jvm.LawKit Jvm.RoadKit Bundle Jvm.Pilot.@@N@@.Jvm.D
section OwnRun
variable {p : Program} {l : Launch} {e : Env} {R : Room} {s : State} {m : MethodId} {args : Array Value} {below : List Frame} {meth : Method} {c : Code} {T T' : State} {locs : List Loc} {cells slots : Nat}
/-- from here the run ends, as G says -/
def own_Run (p : Program) (e : Env) (below : List Frame) (G : Outcome → State → Prop) (T : State) (g : JFrame) : Prop :=
  ∃ s₂ o, Steps p.tables e below (T.setTop g) s₂ ∧ s₂.status = .running ∧ Ended s₂ below o ∧ G o s₂
theorem own_go {G : Outcome → State → Prop} {g g' : JFrame} (h : ∀ t, Steps p.tables e below (T'.setTop g') t → Steps p.tables e below (T.setTop g) t) (k : own_Run p e below G T' g') : own_Run p e below G T g := by
  obtain ⟨s₂, o, h1, h2, h3, h4⟩ := k
  exact ⟨s₂, o, h _ h1, h2, h3, h4⟩
theorem own_goT {G : Outcome → State → Prop} {g g' : JFrame} (h : Steps p.tables e below (T.setTop g) (T'.setTop g')) (k : own_Run p e below G T' g') : own_Run p e below G T g :=
  own_go (fun _ q => h.trans q) k
theorem own_start {G : Outcome → State → Prop} {f f' : JFrame} (h : f = f') (k : own_Run p e below G T f') : ∃ s₂ o, Steps p.tables e below (T.setTop f) s₂ ∧ s₂.status = .running ∧ Ended s₂ below o ∧ G o s₂ := by
  subst h
  exact k
theorem own_done {Q : Option Value → Heap → List Loc → Prop} {C N : Nat} {g : JFrame} (X : Stand p l e R s m args below meth c T locs cells slots) {v : Option Value} (hv : meth.sig.returnType = none → v = none) (hlocks : meth.locks = false)
    (hstep : ∀ fs, (∀ (f : JFrame) (acts : List Action), f.method = m → f.locked = none → f.entered = [] → (doReturn e (T.setTop f) acts v).1 = T.setFrames fs) → Steps p.tables e below (T.setTop g) (T.setFrames fs))
    (hQ : Q v T.heap locs) (hc : cells ≤ C) (hs : slots ≤ N) :
    own_Run p e below (fun o U' => ∃ v L, o = .returned v ∧ Q v U'.heap L ∧ FrameEnd s o U' L C N) T g := by
  obtain ⟨fs, hr, hrun, hended, hW, hsame⟩ := X.leave hv hlocks
  exact ⟨_, _, hstep fs hr, hrun, hended, _, _, rfl, hQ, ⟨_, rfl⟩, hW, hsame.mono hc hs⟩
theorem own_mono {cells' slots' : Nat} (X : Stand p l e R s m args below meth c T locs cells slots) (hc : cells ≤ cells') (hs : slots ≤ slots') : Stand p l e R s m args below meth c T locs cells' slots' :=
  ⟨X.admits, X.cas, X.clock, X.frames, X.room, X.hears, X.method, X.code, X.here, X.tail, X.warmed, X.limits, X.bytes, X.same.mono hc hs⟩
theorem own_retI (X : Stand p l e R s m args below meth c T locs cells slots) (hx : p.tables.exec = Jvm.exec) {pc : Nat} {Ls : Array Slot} {z : Int32} {rest : List Value} (hret : meth.sig.returnType = some .int) (hd : decode c.code pc = .ok (.ireturn, 1)) {fs : List Frame}
    (hl : ∀ (f : JFrame) (acts : List Action), f.method = m → f.locked = none → f.entered = [] → (doReturn e (T.setTop f) acts (some (.int z))).1 = T.setFrames fs) : Steps p.tables e below (T.setTop (mkF m pc Ls (.int z :: rest))) (T.setFrames fs) :=
  retOut X hx hret rfl (Or.inl ⟨rfl, Or.inl rfl, z, rfl⟩) hd hl
theorem own_retL (X : Stand p l e R s m args below meth c T locs cells slots) (hx : p.tables.exec = Jvm.exec) {pc : Nat} {Ls : Array Slot} {z : Int64} {rest : List Value} (hret : meth.sig.returnType = some .long) (hd : decode c.code pc = .ok (.lreturn, 1)) {fs : List Frame}
    (hl : ∀ (f : JFrame) (acts : List Action), f.method = m → f.locked = none → f.entered = [] → (doReturn e (T.setTop f) acts (some (.long z))).1 = T.setFrames fs) : Steps p.tables e below (T.setTop (mkF m pc Ls (.long z :: rest))) (T.setFrames fs) :=
  retOut X hx hret rfl (Or.inr (Or.inl ⟨rfl, rfl, z, rfl⟩)) hd hl
theorem own_retA {t : FieldType} (X : Stand p l e R s m args below meth c T locs cells slots) (hx : p.tables.exec = Jvm.exec) {pc : Nat} {Ls : Array Slot} {w : Value} {rest : List Value} (hret : meth.sig.returnType = some t) (ht : t.isReference = true) (hn : narrow t w = w) (hw : w.isRef = true) (hd : decode c.code pc = .ok (.areturn, 1)) {fs : List Frame}
    (hl : ∀ (f : JFrame) (acts : List Action), f.method = m → f.locked = none → f.entered = [] → (doReturn e (T.setTop f) acts (some w)).1 = T.setFrames fs) : Steps p.tables e below (T.setTop (mkF m pc Ls (w :: rest))) (T.setFrames fs) :=
  retOut X hx hret hn (Or.inr (Or.inr (Or.inr (Or.inr ⟨rfl, ht, hw⟩)))) hd hl
theorem own_ns {Z : State} {h : Heap} {a : Addr} {C : String} (E : Exa Z h a C) : ∃ c : Cell, h[a]? = some c ∧ c.vm.isStatics = false := by
  obtain ⟨c, k, h1, -, -, h4, -⟩ := E
  exact ⟨c, h1, h4⟩
theorem own_nsV {Z : State} {h : Heap} {a : Addr} {k : ClassId} {ty : FieldType} {n : Int32} {vs : List Value} {d : Value} (V : Arv Z h a k ty n vs d) : ∃ c : Cell, h[a]? = some c ∧ c.vm.isStatics = false := by
  obtain ⟨c, A, -⟩ := V
  exact ⟨c, A.1, A.plain⟩
theorem own_staKeep {Z : State} {h h' : Heap} {ws : List Addr} {C n d : String} {w : Value} (F : Sta Z h C n d w) (K : Keep h h' ws) (q : ∀ x ∈ ws, ∃ c : Cell, h[x]? = some c ∧ c.vm.isStatics = false) : Sta Z h' C n d w := by
  obtain ⟨cf, i, k, f, st, cell, h1, h2, h3, h4, h5, h6, h7⟩ := F
  refine ⟨cf, i, k, f, st, cell, h1, h2, h3, h4, K.2.1 st cell h5 (fun hm => ?_), h6, h7⟩
  obtain ⟨c, e1, e2⟩ := q st hm
  cases h5.symm.trans e1
  rw [h6] at e2; cases e2
theorem own_eqL {args : Array Value} {first s : State} {o : Option Outcome} {idx : List Nat} {t : Term} {n : Int64} (h : (Jvm.Cond.eq t (Term.long n)).value args first o s idx = some true) : t.eval args first o idx s = some (.long n) := by
  cases ht : t.eval args first o idx s with
  | none => simp [Cond.value, ht] at h
  | some x => cases x <;> simp [Cond.value, ht, Term.eval] at h ⊢ <;> exact h
theorem own_eqI {args : Array Value} {first s : State} {o : Option Outcome} {idx : List Nat} {t : Term} {n : Int32} (h : (Jvm.Cond.eq t (Term.int n)).value args first o s idx = some true) : t.eval args first o idx s = some (.int n) := by
  cases ht : t.eval args first o idx s with
  | none => simp [Cond.value, ht] at h
  | some x => cases x <;> simp [Cond.value, ht, Term.eval] at h ⊢ <;> exact h
theorem own_eqR {args : Array Value} {first s : State} {o : Option Outcome} {idx : List Nat} {t u : Term} {x : Addr} (h : (Jvm.Cond.eq t u).value args first o s idx = some true) (hu : u.eval args first o idx s = some (.ref x)) : t.eval args first o idx s = some (.ref x) := by
  cases ht : t.eval args first o idx s with
  | none => simp [Cond.value, ht] at h
  | some y => cases y <;> simp [Cond.value, ht, hu] at h ⊢ <;> exact h
theorem own_nf {s : State} {args : Array Value} {C : String} {y y' : MethodName} (hsel : (Jvm.Cond.selects C y y).before args s = true) (hc : y'.cls = y.cls) : NotFace s y' := fun r0 h0 => by
  obtain ⟨c2, r2, m2, q1, q2, q3, q4, kP, hkP, hkPi⟩ := Cond.selects_spec hsel
  have a := findClass_of_methodNamed q3
  have b := findClass_of_methodNamed h0
  rw [hc] at b
  have e := Option.some.inj (a.symm.trans b)
  exact ⟨kP, by rw [← e]; exact hkP, hkPi⟩
theorem own_selP {s : State} {args args' : Array Value} {C : String} {y y' : MethodName} (hsel : (Jvm.Cond.selects C y' y').before args s = true) (hc : y.cls = y'.cls) (hpriv : s.PrivateAt y) (hinst : (Jvm.Cond.instanceMethod y).before args' s = true) (hy : y.cls ≠ "java/lang/invoke/MethodHandle" ∧ y.cls ≠ "java/lang/invoke/VarHandle") : (Jvm.Cond.selects y.cls y y).before args' s = true := by
  obtain ⟨mk, methM, hnamed, -, -, -⟩ := Cond.instanceMethod_spec hinst
  obtain ⟨k, hk, hni⟩ := own_nf hsel hc mk hnamed
  exact selects_self_of_private (findClass_of_methodNamed hnamed) hk hni hpriv hinst hy
end OwnRun
theorem own_lcLt {x y : Int64} (h : x < y) : lcmpW x y = -1 := by
  have h1 : ¬ (x > y) := by simp only [GT.gt, Int64.lt_iff_toInt_lt] at h ⊢; omega
  have h2 : ¬ (x = y) := by rintro rfl; exact Int64.lt_irrefl h
  simp [lcmpW, h1, h2]
theorem own_lcGt {x y : Int64} (h : y < x) : lcmpW x y = 1 := by
  have h1 : x > y := h
  simp [lcmpW, h1]
theorem own_lcEq {x y : Int64} (h : x = y) : lcmpW x y = 0 := by
  subst h
  have h1 : ¬ (x > x) := Int64.lt_irrefl
  simp [lcmpW, h1]
theorem own_lcNlt {x y : Int64} (h : ¬ x < y) : lcmpW x y = 0 ∨ lcmpW x y = 1 := by
  by_cases q : x = y
  · exact Or.inl (own_lcEq q)
  · refine Or.inr (own_lcGt ?_)
    simp only [Int64.lt_iff_toInt_lt, ← Int64.toInt_inj] at h q ⊢; omega
theorem own_lcNgt {x y : Int64} (h : ¬ y < x) : lcmpW x y = 0 ∨ lcmpW x y = -1 := by
  by_cases q : x = y
  · exact Or.inl (own_lcEq q)
  · refine Or.inr (own_lcLt ?_)
    simp only [Int64.lt_iff_toInt_lt, ← Int64.toInt_inj] at h q ⊢; omega
theorem own_lcNe {x y : Int64} (h : ¬ x = y) : lcmpW x y = 1 ∨ lcmpW x y = -1 := by
  by_cases q : x < y
  · exact Or.inr (own_lcLt q)
  · refine Or.inl (own_lcGt ?_)
    simp only [Int64.lt_iff_toInt_lt, ← Int64.toInt_inj] at h q ⊢; omega
theorem own_lcT {x y : Int64} (h : x < y) : ifCond.holds .lt (lcmpW x y) = true ∧ ifCond.holds .ge (lcmpW x y) = false ∧ ifCond.holds .gt (lcmpW y x) = true ∧ ifCond.holds .le (lcmpW y x) = false := by
  rw [own_lcLt h, own_lcGt h]; decide
theorem own_lcF {x y : Int64} (h : ¬ x < y) : ifCond.holds .lt (lcmpW x y) = false ∧ ifCond.holds .ge (lcmpW x y) = true ∧ ifCond.holds .gt (lcmpW y x) = false ∧ ifCond.holds .le (lcmpW y x) = true := by
  rcases own_lcNlt h with q | q <;> rcases own_lcNgt (x := y) (y := x) h with r | r <;> rw [q, r] <;> decide
theorem own_lcTe {x y : Int64} (h : x = y) : ifCond.holds .eq (lcmpW x y) = true ∧ ifCond.holds .ne (lcmpW x y) = false := by
  rw [own_lcEq h]; decide
theorem own_lcFe {x y : Int64} (h : ¬ x = y) : ifCond.holds .eq (lcmpW x y) = false ∧ ifCond.holds .ne (lcmpW x y) = true := by
  rcases own_lcNe h with q | q <;> rw [q] <;> decide
theorem own_maskI (x : Int32) (M : Nat) (hM : M < 2 ^ 31) : (x &&& Int32.ofNat M).toInt = ((x.toBitVec.toNat &&& M : Nat) : Int) := by
  have h1 : (x &&& Int32.ofNat M).toBitVec.toNat = x.toBitVec.toNat &&& M := by
    rw [Int32.toBitVec_and, BitVec.toNat_and]
    congr 1
    show (BitVec.ofNat 32 M).toNat = M
    rw [BitVec.toNat_ofNat]; omega
  have h2 : x.toBitVec.toNat &&& M ≤ M := Nat.and_le_right
  rw [Int32.toInt, BitVec.toInt_eq_toNat_of_lt (by rw [h1]; omega), h1]
theorem own_mask0 (x : Int32) (M : Nat) (hM : M < 2 ^ 31) : 0 ≤ (x &&& Int32.ofNat M).toInt ∧ (x &&& Int32.ofNat M).toInt ≤ M := by
  rw [own_maskI x M hM]
  have h2 : x.toBitVec.toNat &&& M ≤ M := Nat.and_le_right
  omega
theorem own_rem (x : Int32) (k : Int32) (hx : 0 ≤ x.toInt) (hk : 0 < k.toInt) : 0 ≤ (x % k).toInt ∧ (x % k).toInt < k.toInt := by
  rw [Int32.toInt_mod]
  exact ⟨Int.tmod_nonneg _ hx, Int.tmod_lt_of_pos _ hk⟩
theorem own_bm (z : Int) (h1 : -2147483648 ≤ z) (h2 : z < 2147483648) : z.bmod (2 ^ 32) = z := by
  rw [Int.bmod_def]; split <;> omega
theorem own_addI (a b : Int32) (h1 : -2147483648 ≤ a.toInt + b.toInt) (h2 : a.toInt + b.toInt < 2147483648) : (a + b).toInt = a.toInt + b.toInt := by
  rw [Int32.toInt_add, own_bm _ h1 h2]
theorem own_subI (a b : Int32) (h1 : -2147483648 ≤ a.toInt - b.toInt) (h2 : a.toInt - b.toInt < 2147483648) : (a - b).toInt = a.toInt - b.toInt := by
  rw [Int32.toInt_sub, own_bm _ h1 h2]
theorem own_nz (a : Int32) (h : 0 < a.toInt) : a ≠ 0 := by
  rintro rfl; exact absurd h (by decide)
theorem own_ushr (x k : Int32) (n : Nat) (h : ((k &&& 31).toUInt32.toBitVec % 32).toNat = n) (hn : 0 < n) : ((x.toUInt32 >>> (k &&& 31).toUInt32).toInt32).toInt = ((x.toBitVec.toNat >>> n : Nat) : Int) ∧ x.toBitVec.toNat >>> n < 2 ^ (32 - n) := by
  have e : ((x.toUInt32 >>> (k &&& 31).toUInt32).toInt32).toBitVec = x.toBitVec >>> n := by
    show x.toBitVec >>> ((k &&& 31).toUInt32.toBitVec % 32) = _
    rw [BitVec.ushiftRight_eq', h]
  have hx : x.toBitVec.toNat < 2 ^ 32 := x.toBitVec.isLt
  have e2 : x.toBitVec.toNat >>> n < 2 ^ (32 - n) := by
    rw [Nat.shiftRight_eq_div_pow]
    rcases Nat.lt_or_ge n 32 with q | q
    · rw [Nat.div_lt_iff_lt_mul (Nat.two_pow_pos n), ← Nat.pow_add, Nat.sub_add_cancel (by omega)]; exact hx
    · rw [Nat.div_eq_of_lt (Nat.lt_of_lt_of_le hx (Nat.pow_le_pow_right (by decide) q))]; exact Nat.two_pow_pos _
  refine ⟨?_, e2⟩
  have e3 : 2 ^ (32 - n) ≤ 2 ^ 31 := Nat.pow_le_pow_right (by decide) (by omega)
  rw [Int32.toInt, e, BitVec.toInt_eq_toNat_of_lt (by rw [BitVec.toNat_ushiftRight]; omega), BitVec.toNat_ushiftRight]
theorem own_lit (a : Int32) (n : Int) (b : Int32) (h : a.toInt = n) (hb : b.toInt = n) : a = b := Int32.toInt_inj.mp (h.trans hb.symm)
theorem own_four (a : Int32) (h0 : 0 ≤ a.toInt) (h1 : a.toInt < 4) : a = 0 ∨ a = 1 ∨ a = 2 ∨ a = 3 := by
  have q : a.toInt = 0 ∨ a.toInt = 1 ∨ a.toInt = 2 ∨ a.toInt = 3 := by omega
  rcases q with q | q | q | q
  · exact Or.inl (own_lit _ _ _ q rfl)
  · exact Or.inr (Or.inl (own_lit _ _ _ q rfl))
  · exact Or.inr (Or.inr (Or.inl (own_lit _ _ _ q rfl)))
  · exact Or.inr (Or.inr (Or.inr (own_lit _ _ _ q rfl)))
theorem own_byte (a : Int32) (h0 : 0 ≤ a.toInt) (h1 : a.toInt < 128) : a.toInt8.toInt32 = a := by
  apply Int32.toInt_inj.mp
  rw [Int8.toInt_toInt32, Int32.toInt_toInt8, Int.bmod_def]; split <;> omega
theorem own_and3 (p x : Int32) (h : x = p &&& (3 : Int32)) : x = (0 : Int32) ∨ x = (1 : Int32) ∨ x = (2 : Int32) ∨ x = (3 : Int32) := by
  have q := own_mask0 p 3 (by decide)
  have q' : 0 ≤ x.toInt ∧ x.toInt ≤ 3 := by rw [h]; exact q
  exact own_four x q'.1 (by omega)
theorem d1_0 : decode prog_27_method_1_code 0 = .ok (.aload_n 0, 1) := by decide +kernel
theorem d1_1 : decode prog_27_method_1_code 1 = .ok (.invokespecial 1, 3) := by decide +kernel
theorem d1_4 : decode prog_27_method_1_code 4 = .ok (.aload_n 0, 1) := by decide +kernel
theorem d1_5 : decode prog_27_method_1_code 5 = .ok (.aload_n 1, 1) := by decide +kernel
theorem d1_6 : decode prog_27_method_1_code 6 = .ok (.putfield 7, 3) := by decide +kernel
theorem d1_9 : decode prog_27_method_1_code 9 = .ok (.return_, 1) := by decide +kernel
theorem pn_1 : plainName "com/example/net_reducer/netreducer/model/NodeSet" = true := by first | (simp [plainName, overriddenIn]; done) | decide +kernel
theorem ef_1 (m : MethodId) (x0 : Addr) (x1 : Addr) : entryFrame m #[(.ref x0), (.ref x1)] 2 = mkF m 0 #[.val (.ref x0), .val (.ref x1)] [] := by first | (simp [entryFrame, mkF, argsToLocals, Value.category]; done) | rfl
def Q1 (Z : State) (a1 : Addr) (a2 : Addr) (u1 : Value) (h0 : Heap) (n0 : Nat) (v : Option Value) (h : Heap) (L : List Loc) : Prop := v = none ∧ Fr n0 L ∧ Keep h0 h [a1] ∧ Exa Z h a1 "com/example/net_reducer/netreducer/model/NodeSet" ∧ Fld Z h a1 "com/example/net_reducer/netreducer/model/NodeSet" "numbers" "[I" (.ref a2)
set_option maxRecDepth 65536 in
set_option maxHeartbeats 40000000 in
theorem rm1 (l : Launch) (Z : State) (a0 : Array Value) (hw : ∀ d ∈ tables_1, d.before a0 Z = true) (ws : List Jvm.Cond) (a1 : Addr) (a2 : Addr) (u1 : Value) (h0 : Heap) (n0 : Nat) (Z0 : n0 ≤ h0.size) (E_a1 : Exa Z h0 a1 "com/example/net_reducer/netreducer/model/NodeSet") (F_numbers_a1 : Fld Z h0 a1 "com/example/net_reducer/netreducer/model/NodeSet" "numbers" "[I" u1) (g_a1 : n0 ≤ a1) :
    MetFree l (⟨"com/example/net_reducer/netreducer/model/NodeSet", "<init>", "([I)V"⟩ : MethodName) (head1 (Jvm.Cond.code (⟨"com/example/net_reducer/netreducer/model/NodeSet", "<init>", "([I)V"⟩ : MethodName) prog_27_method_1_code 2 none :: ws) ({ frames := 1, cells := 0, slots := 0, locals := 12 } : Room)) (fun a U => a = #[(.ref a1), (.ref a2)] ∧ Z.Warmed39 U.vm ∧ U.heap = h0) (fun _ _ _ _ _ => True) (fun _ U o U' => ∃ v L, o = .returned v ∧ Q1 Z a1 a2 u1 h0 n0 v U'.heap L ∧ FrameEnd U o U' L ({ frames := 1, cells := 0, slots := 0, locals := 12 } : Room).cells ({ frames := 1, cells := 0, slots := 0, locals := 12 } : Room).slots) := by
  refine MetFree.of_bodySF (plainFor_of_name pn_1) hisR ?_
  intro p e s m args below meth c s₁ Bd hml0 hP hK
  obtain ⟨rfl, hZ, hh⟩ := hP
  have hx := Bd.exec
  have hby := Bd.bytes
  have hml : c.maxLocals = 2 := hml0
  have hown : s.vm.findClass "com/example/net_reducer/netreducer/model/NodeSet" = some m.cls := findClass_of_methodNamed Bd.named
  have hnm := (name_of_methodNamed Bd.named Bd.method).1
  have hret := Bd.returns
  have hlk : meth.locks = false := BodyLoose.notSynchronized Bd
  have X0 : Stand p l e ({ frames := 1, cells := 0, slots := 0, locals := 12 } : Room) s m #[(.ref a1), (.ref a2)] below meth c s₁ [] 0 0 := Stand.of_body Bd
  have e0 : s₁.heap = h0 := by rw [← hh, Bd.state]; rfl
  have N0 := Fr.nil n0
  have W := fun (k : Nat) {d : Jvm.Cond} (h : tables_1[k]? = some d) => hw d (List.mem_of_getElem? h)
  have K0 : Keep h0 h0 [a1] := Keep.refl _ _
  refine own_start (ef_1 m a1 a2) ?_
  show own_Run p e below _ s₁ (mkF m 0 #[.val (.ref a1), .val (.ref a2)] [])
  refine own_go (fun _ k => XS.aloadN X0.here hx rfl (hb hby d1_0) rfl rfl k) ?_
  show own_Run p e below _ s₁ (mkF m 1 #[.val (.ref a1), .val (.ref a2)] [(.ref a1)])
  obtain ⟨T1, X1, e1, st1⟩ := initO X0 hx hZ hown (W 8 rfl) (W 9 rfl) (W 10 rfl) e0 (g := (mkF m 1 #[.val (.ref a1), .val (.ref a2)] [(.ref a1)])) rfl (by rw [hml]; rfl) rfl (hb hby d1_1) (by decide) (W := 0) (by show 2 * 0 + _ ≤ _; exact Nat.le_of_eq rfl) (by decide)
  refine own_go st1 ?_
  show own_Run p e below _ T1 (mkF m 4 #[.val (.ref a1), .val (.ref a2)] [])
  refine own_go (fun _ k => XS.aloadN X1.here hx rfl (hb hby d1_4) rfl rfl k) ?_
  refine own_go (fun _ k => XS.aloadN X1.here hx rfl (hb hby d1_5) rfl rfl k) ?_
  show own_Run p e below _ T1 (mkF m 6 #[.val (.ref a1), .val (.ref a2)] [(.ref a2), (.ref a1)])
  obtain ⟨T2, h2, X2, e2, W2, st2⟩ := putF X1 hx hZ hown (host := "") (Or.inl (W 11 rfl)) Via.refl e1 F_numbers_a1 E_a1 (Or.inr ⟨(W 12 rfl), rfl, hnm⟩) (W 3 rfl) (ty := (.array .int)) (by decide) rfl rfl (g := (mkF m 6 #[.val (.ref a1), .val (.ref a2)] [(.ref a2), (.ref a1)])) rfl rfl (hb hby d1_6)
  refine own_go st2 ?_
  show own_Run p e below _ T2 (mkF m 9 #[.val (.ref a1), .val (.ref a2)] [])
  have Z0_c3 := Nat.le_trans Z0 (Keep.of_wr W2).1
  have K0_c3 := K0.wr W2 (Or.inl (List.mem_of_getElem? (i := 0) rfl))
  have E_a1_c3 := E_a1.wr W2
  have F_numbers_a1_c2 : Fld Z h2 a1 "com/example/net_reducer/netreducer/model/NodeSet" "numbers" "[I" (.ref a2) := F_numbers_a1.same W2
  have N2 := Fr.snoc X2 N0 g_a1
  refine own_done (Q := fun v h L => Q1 Z a1 a2 u1 h0 n0 v h L) (v := none) X2 (fun _ => rfl) hlk (fun fs hr => X2.returnOut hx hret (hb hby d1_9) hr) ?_ (by decide) (by decide)
  show Q1 Z a1 a2 u1 h0 n0 _ T2.heap _
  rw [e2]
  exact ⟨rfl, N2, K0_c3, E_a1_c3, F_numbers_a1_c2⟩
theorem d3_0 : decode prog_27_method_3_code 0 = .ok (.aload_n 0, 1) := by decide +kernel
theorem d3_1 : decode prog_27_method_3_code 1 = .ok (.getfield 7, 3) := by decide +kernel
theorem d3_4 : decode prog_27_method_3_code 4 = .ok (.arraylength, 1) := by decide +kernel
theorem d3_5 : decode prog_27_method_3_code 5 = .ok (.ifCond .ne 7, 3) := by decide +kernel
theorem d3_8 : decode prog_27_method_3_code 8 = .ok (.iconst 1, 1) := by decide +kernel
theorem d3_9 : decode prog_27_method_3_code 9 = .ok (.goto 4, 3) := by decide +kernel
theorem d3_12 : decode prog_27_method_3_code 12 = .ok (.iconst 0, 1) := by decide +kernel
theorem d3_13 : decode prog_27_method_3_code 13 = .ok (.ireturn, 1) := by decide +kernel
theorem pn_3 : plainName "com/example/net_reducer/netreducer/model/NodeSet" = true := by first | (simp [plainName, overriddenIn]; done) | decide +kernel
theorem ef_3 (m : MethodId) (x0 : Addr) : entryFrame m #[(.ref x0)] 1 = mkF m 0 #[.val (.ref x0)] [] := by first | (simp [entryFrame, mkF, argsToLocals, Value.category]; done) | rfl
def Q3 (Z : State) (a1 : Addr) (a3 : Addr) (kk : ClassId) (n : Int32) (vs : List Value) (dv : Value) (r : Int32) (h0 : Heap) (n0 : Nat) (v : Option Value) (h : Heap) (L : List Loc) : Prop := v = some (.int r) ∧ Fr n0 L ∧ h = h0
set_option maxRecDepth 65536 in
set_option maxHeartbeats 40000000 in
theorem rm3 (l : Launch) (Z : State) (a0 : Array Value) (hw : ∀ d ∈ tables_1, d.before a0 Z = true) (ws : List Jvm.Cond) (a1 : Addr) (a3 : Addr) (kk : ClassId) (n : Int32) (vs : List Value) (dv : Value) (r : Int32) (h0 : Heap) (n0 : Nat) (Z0 : n0 ≤ h0.size) (F_numbers_a1 : Fld Z h0 a1 "com/example/net_reducer/netreducer/model/NodeSet" "numbers" "[I" (.ref a3)) (V_a3 : Arv Z h0 a3 kk .int n vs dv) (hp : n = (0 : Int32) ∧ r = (1 : Int32) ∨ ¬ n = (0 : Int32) ∧ r = (0 : Int32)) :
    MetFree l (⟨"com/example/net_reducer/netreducer/model/NodeSet", "isEmpty", "()Z"⟩ : MethodName) (head1 (Jvm.Cond.code (⟨"com/example/net_reducer/netreducer/model/NodeSet", "isEmpty", "()Z"⟩ : MethodName) prog_27_method_3_code 1 (some .boolean) :: ws) ({ frames := 0, cells := 0, slots := 0, locals := 0 } : Room)) (fun a U => a = #[(.ref a1)] ∧ Z.Warmed39 U.vm ∧ U.heap = h0) (fun _ _ _ _ _ => True) (fun _ U o U' => ∃ v L, o = .returned v ∧ Q3 Z a1 a3 kk n vs dv r h0 n0 v U'.heap L ∧ FrameEnd U o U' L ({ frames := 0, cells := 0, slots := 0, locals := 0 } : Room).cells ({ frames := 0, cells := 0, slots := 0, locals := 0 } : Room).slots) := by
  refine MetFree.of_bodySF (plainFor_of_name pn_3) hisR ?_
  intro p e s m args below meth c s₁ Bd hml0 hP hK
  obtain ⟨rfl, hZ, hh⟩ := hP
  have hx := Bd.exec
  have hby := Bd.bytes
  have hml : c.maxLocals = 1 := hml0
  have hown : s.vm.findClass "com/example/net_reducer/netreducer/model/NodeSet" = some m.cls := findClass_of_methodNamed Bd.named
  have hnm := (name_of_methodNamed Bd.named Bd.method).1
  have hret := Bd.returns
  have hlk : meth.locks = false := BodyLoose.notSynchronized Bd
  have X0 : Stand p l e ({ frames := 0, cells := 0, slots := 0, locals := 0 } : Room) s m #[(.ref a1)] below meth c s₁ [] 0 0 := Stand.of_body Bd
  have e0 : s₁.heap = h0 := by rw [← hh, Bd.state]; rfl
  have N0 := Fr.nil n0
  have W := fun (k : Nat) {d : Jvm.Cond} (h : tables_1[k]? = some d) => hw d (List.mem_of_getElem? h)
  have K0 : Keep h0 h0 [] := Keep.refl _ _
  refine own_start (ef_3 m a1) ?_
  show own_Run p e below _ s₁ (mkF m 0 #[.val (.ref a1)] [])
  refine own_go (fun _ k => XS.aloadN X0.here hx rfl (hb hby d3_0) rfl rfl k) ?_
  show own_Run p e below _ s₁ (mkF m 1 #[.val (.ref a1)] [(.ref a1)])
  obtain ⟨T4, X4, e4, st4⟩ := getF X0 hx hZ hown (host := "") (Or.inl (W 11 rfl)) Via.refl e0 F_numbers_a1 (g := (mkF m 1 #[.val (.ref a1)] [(.ref a1)])) rfl rfl (hb hby d3_1)
  refine own_go st4 ?_
  show own_Run p e below _ T4 (mkF m 4 #[.val (.ref a1)] [(.ref a3)])
  obtain ⟨cl5, Ar5, q5, S5, N5, H5, G5⟩ := V_a3
  refine own_go (X4.arraylength hx (by rw [e4]; exact Ar5.1) (State.isArrayOf_alike hZ.alike Ar5.2.1) (g := (mkF m 4 #[.val (.ref a1)] [(.ref a3)])) rfl rfl (hb hby d3_4)) ?_
  rw [len_of S5 N5]
  show own_Run p e below _ T4 (mkF m 5 #[.val (.ref a1)] [(.int n)])
  rcases hp with ⟨hn, rfl⟩ | ⟨hn, rfl⟩
  · refine own_go (fun _ k => XS.ifNo X4.here hx rfl (hb hby d3_5) rfl ((if0 _ _).trans (teq hn).2) k) ?_
    show own_Run p e below _ T4 (mkF m 8 #[.val (.ref a1)] [])
    refine own_go (fun _ k => XS.iconst X4.here hx rfl (hb hby d3_8) k) ?_
    refine own_go (fun _ k => XS.goto X4.here hx rfl (pc0 := 9) (pc' := 13) rfl (hb hby d3_9) (by decide) (by decide) k) ?_
    show own_Run p e below _ T4 (mkF m 13 #[.val (.ref a1)] [(.int (1 : Int32))])
    refine own_done (Q := fun v h L => Q3 Z a1 a3 kk n vs dv (1 : Int32) h0 n0 v h L) (v := (some (.int (1 : Int32)))) X4 (fun h => by rw [hret] at h; cases h) hlk (fun fs hr => retN X4 hx (t := .boolean) hret (by simp) (hb hby d3_13) hr) ?_ (by decide) (by decide)
    show Q3 Z a1 a3 kk n vs dv (1 : Int32) h0 n0 _ T4.heap _
    rw [e4]
    exact ⟨rfl, N0, rfl⟩
  · refine own_go (fun _ k => XS.ifYes X4.here hx rfl (pc0 := 5) (pc' := 12) rfl (hb hby d3_5) rfl ((if0 _ _).trans (feq hn).2) (by decide) (by decide) k) ?_
    show own_Run p e below _ T4 (mkF m 12 #[.val (.ref a1)] [])
    refine own_go (fun _ k => XS.iconst X4.here hx rfl (hb hby d3_12) k) ?_
    show own_Run p e below _ T4 (mkF m 13 #[.val (.ref a1)] [(.int (0 : Int32))])
    refine own_done (Q := fun v h L => Q3 Z a1 a3 kk n vs dv (0 : Int32) h0 n0 v h L) (v := (some (.int (0 : Int32)))) X4 (fun h => by rw [hret] at h; cases h) hlk (fun fs hr => retN X4 hx (t := .boolean) hret (by simp) (hb hby d3_13) hr) ?_ (by decide) (by decide)
    show Q3 Z a1 a3 kk n vs dv (0 : Int32) h0 n0 _ T4.heap _
    rw [e4]
    exact ⟨rfl, N0, rfl⟩
theorem d4_0 : decode prog_27_method_2_code 0 = .ok (.aload_n 0, 1) := by decide +kernel
theorem d4_1 : decode prog_27_method_2_code 1 = .ok (.getfield 7, 3) := by decide +kernel
theorem d4_4 : decode prog_27_method_2_code 4 = .ok (.arraylength, 1) := by decide +kernel
theorem d4_5 : decode prog_27_method_2_code 5 = .ok (.ireturn, 1) := by decide +kernel
theorem pn_4 : plainName "com/example/net_reducer/netreducer/model/NodeSet" = true := by first | (simp [plainName, overriddenIn]; done) | decide +kernel
theorem ef_4 (m : MethodId) (x0 : Addr) : entryFrame m #[(.ref x0)] 1 = mkF m 0 #[.val (.ref x0)] [] := by first | (simp [entryFrame, mkF, argsToLocals, Value.category]; done) | rfl
def Q4 (Z : State) (a1 : Addr) (a3 : Addr) (kk : ClassId) (n : Int32) (vs : List Value) (dv : Value) (h0 : Heap) (n0 : Nat) (v : Option Value) (h : Heap) (L : List Loc) : Prop := v = some (.int n) ∧ Fr n0 L ∧ h = h0
set_option maxRecDepth 65536 in
set_option maxHeartbeats 40000000 in
theorem rm4 (l : Launch) (Z : State) (a0 : Array Value) (hw : ∀ d ∈ tables_1, d.before a0 Z = true) (ws : List Jvm.Cond) (a1 : Addr) (a3 : Addr) (kk : ClassId) (n : Int32) (vs : List Value) (dv : Value) (h0 : Heap) (n0 : Nat) (Z0 : n0 ≤ h0.size) (F_numbers_a1 : Fld Z h0 a1 "com/example/net_reducer/netreducer/model/NodeSet" "numbers" "[I" (.ref a3)) (V_a3 : Arv Z h0 a3 kk .int n vs dv) :
    MetFree l (⟨"com/example/net_reducer/netreducer/model/NodeSet", "size", "()I"⟩ : MethodName) (head1 (Jvm.Cond.code (⟨"com/example/net_reducer/netreducer/model/NodeSet", "size", "()I"⟩ : MethodName) prog_27_method_2_code 1 (some .int) :: ws) ({ frames := 0, cells := 0, slots := 0, locals := 0 } : Room)) (fun a U => a = #[(.ref a1)] ∧ Z.Warmed39 U.vm ∧ U.heap = h0) (fun _ _ _ _ _ => True) (fun _ U o U' => ∃ v L, o = .returned v ∧ Q4 Z a1 a3 kk n vs dv h0 n0 v U'.heap L ∧ FrameEnd U o U' L ({ frames := 0, cells := 0, slots := 0, locals := 0 } : Room).cells ({ frames := 0, cells := 0, slots := 0, locals := 0 } : Room).slots) := by
  refine MetFree.of_bodySF (plainFor_of_name pn_4) hisR ?_
  intro p e s m args below meth c s₁ Bd hml0 hP hK
  obtain ⟨rfl, hZ, hh⟩ := hP
  have hx := Bd.exec
  have hby := Bd.bytes
  have hml : c.maxLocals = 1 := hml0
  have hown : s.vm.findClass "com/example/net_reducer/netreducer/model/NodeSet" = some m.cls := findClass_of_methodNamed Bd.named
  have hnm := (name_of_methodNamed Bd.named Bd.method).1
  have hret := Bd.returns
  have hlk : meth.locks = false := BodyLoose.notSynchronized Bd
  have X0 : Stand p l e ({ frames := 0, cells := 0, slots := 0, locals := 0 } : Room) s m #[(.ref a1)] below meth c s₁ [] 0 0 := Stand.of_body Bd
  have e0 : s₁.heap = h0 := by rw [← hh, Bd.state]; rfl
  have N0 := Fr.nil n0
  have W := fun (k : Nat) {d : Jvm.Cond} (h : tables_1[k]? = some d) => hw d (List.mem_of_getElem? h)
  have K0 : Keep h0 h0 [] := Keep.refl _ _
  refine own_start (ef_4 m a1) ?_
  show own_Run p e below _ s₁ (mkF m 0 #[.val (.ref a1)] [])
  refine own_go (fun _ k => XS.aloadN X0.here hx rfl (hb hby d4_0) rfl rfl k) ?_
  show own_Run p e below _ s₁ (mkF m 1 #[.val (.ref a1)] [(.ref a1)])
  obtain ⟨T6, X6, e6, st6⟩ := getF X0 hx hZ hown (host := "") (Or.inl (W 11 rfl)) Via.refl e0 F_numbers_a1 (g := (mkF m 1 #[.val (.ref a1)] [(.ref a1)])) rfl rfl (hb hby d4_1)
  refine own_go st6 ?_
  show own_Run p e below _ T6 (mkF m 4 #[.val (.ref a1)] [(.ref a3)])
  obtain ⟨cl7, Ar7, q7, S7, N7, H7, G7⟩ := V_a3
  refine own_go (X6.arraylength hx (by rw [e6]; exact Ar7.1) (State.isArrayOf_alike hZ.alike Ar7.2.1) (g := (mkF m 4 #[.val (.ref a1)] [(.ref a3)])) rfl rfl (hb hby d4_4)) ?_
  rw [len_of S7 N7]
  show own_Run p e below _ T6 (mkF m 5 #[.val (.ref a1)] [(.int n)])
  refine own_done (Q := fun v h L => Q4 Z a1 a3 kk n vs dv h0 n0 v h L) (v := (some (.int n))) X6 (fun h => by rw [hret] at h; cases h) hlk (fun fs hr => own_retI X6 hx hret (hb hby d4_5) hr) ?_ (by decide) (by decide)
  show Q4 Z a1 a3 kk n vs dv h0 n0 _ T6.heap _
  rw [e6]
  exact ⟨rfl, N0, rfl⟩
theorem pn_0 : plainName "com/example/net_reducer/netreducer/model/NodeSetIsEmptyPinLaw" = true := by first | (simp [plainName, overriddenIn]; done) | decide +kernel
theorem ef_0 (m : MethodId) (x0 : Int32) (x1 : Int32) (x2 : Int32) (x3 : Int32) : entryFrame m #[(.int x0), (.int x1), (.int x2), (.int x3)] maxLocals = mkF m 0 #[.val (.int x0), .val (.int x1), .val (.int x2), .val (.int x3), .unset, .unset, .unset, .unset, .unset, .unset, .unset, .unset, .unset, .unset, .unset] [] := by first | (simp [entryFrame, mkF, argsToLocals, Value.category, maxLocals]; done) | rfl
theorem pd_1 : parseMethodDescriptor "([I)V" = some ⟨[(.array .int)], none⟩ := by decide +kernel
theorem pd_2 : parseMethodDescriptor "()Z" = some ⟨[], some .boolean⟩ := by decide +kernel
theorem pd_3 : parseMethodDescriptor "()I" = some ⟨[], some .int⟩ := by decide +kernel
def Q0 (Z : State) (p1 : Int32) (p2 : Int32) (p3 : Int32) (p4 : Int32) (h0 : Heap) (n0 : Nat) (v : Option Value) (h : Heap) (L : List Loc) : Prop := v = some (.int (1 : Int32)) ∧ Fr n0 L
set_option maxRecDepth 65536 in
set_option maxHeartbeats 40000000 in
theorem rm0 (l : Launch) (Z : State) (a0 : Array Value) (hw : ∀ d ∈ tables_1, d.before a0 Z = true) (ws : List Jvm.Cond) (p1 : Int32) (p2 : Int32) (p3 : Int32) (p4 : Int32) (h0 : Heap) (n0 : Nat) (Z0 : n0 ≤ h0.size) :
    MetFree l x (head1 (Jvm.Cond.code x code maxLocals ret :: ws) room_1) (fun a U => a = #[(.int p1), (.int p2), (.int p3), (.int p4)] ∧ Z.Warmed39 U.vm ∧ U.heap = h0) (fun _ _ _ _ _ => True) (fun _ U o U' => ∃ v L, o = .returned v ∧ Q0 Z p1 p2 p3 p4 h0 n0 v U'.heap L ∧ FrameEnd U o U' L room_1.cells room_1.slots) := by
  refine MetFree.of_bodySF (plainFor_of_name pn_0) hisR ?_
  intro p e s m args below meth c s₁ Bd hml0 hP hK
  obtain ⟨rfl, hZ, hh⟩ := hP
  have hx := Bd.exec
  have hby := Bd.bytes
  have hml : c.maxLocals = 15 := hml0
  have hown : s.vm.findClass "com/example/net_reducer/netreducer/model/NodeSetIsEmptyPinLaw" = some m.cls := findClass_of_methodNamed Bd.named
  have hnm := (name_of_methodNamed Bd.named Bd.method).1
  have hret := Bd.returns
  have hlk : meth.locks = false := BodyLoose.notSynchronized Bd
  have X0 : Stand p l e room_1 s m #[(.int p1), (.int p2), (.int p3), (.int p4)] below meth c s₁ [] 0 0 := Stand.of_body Bd
  have e0 : s₁.heap = h0 := by rw [← hh, Bd.state]; rfl
  have N0 := Fr.nil n0
  have W := fun (k : Nat) {d : Jvm.Cond} (h : tables_1[k]? = some d) => hw d (List.mem_of_getElem? h)
  have K0 : Keep h0 h0 [] := Keep.refl _ _
  refine own_start (ef_0 m p1 p2 p3 p4) ?_
  show own_Run p e below _ s₁ (mkF m 0 #[.val (.int p1), .val (.int p2), .val (.int p3), .val (.int p4), .unset, .unset, .unset, .unset, .unset, .unset, .unset, .unset, .unset, .unset, .unset] [])
  refine own_go (fun _ k => XS.iloadN X0.here hx rfl (hb hby at_0) rfl k) ?_
  refine own_go (fun _ k => XS.iconst X0.here hx rfl (hb hby at_1) k) ?_
  refine own_go (fun _ k => XS.iand X0.here hx rfl (hb hby at_2) rfl k) ?_
  show own_Run p e below _ s₁ (mkF m 3 #[.val (.int p1), .val (.int p2), .val (.int p3), .val (.int p4), .unset, .unset, .unset, .unset, .unset, .unset, .unset, .unset, .unset, .unset, .unset] [(.int (p1 &&& (3 : Int32)))])
  obtain ⟨x0, hx0⟩ : ∃ z, z = (p1 &&& (3 : Int32)) := ⟨_, rfl⟩
  rw [← hx0]
  show own_Run p e below _ s₁ (mkF m 3 #[.val (.int p1), .val (.int p2), .val (.int p3), .val (.int p4), .unset, .unset, .unset, .unset, .unset, .unset, .unset, .unset, .unset, .unset, .unset] [(.int x0)])
  refine own_go (fun _ k => XS.istore X0.here hx rfl (hb hby at_3) rfl (l' := #[.val (.int p1), .val (.int p2), .val (.int p3), .val (.int p4), .val (.int x0), .unset, .unset, .unset, .unset, .unset, .unset, .unset, .unset, .unset, .unset]) rfl k) ?_
  refine own_go (fun _ k => XS.iloadN X0.here hx rfl (hb hby at_5) rfl k) ?_
  show own_Run p e below _ s₁ (mkF m 6 #[.val (.int p1), .val (.int p2), .val (.int p3), .val (.int p4), .val (.int x0), .unset, .unset, .unset, .unset, .unset, .unset, .unset, .unset, .unset, .unset] [(.int p2)])
  refine own_go (X0.ldcInt hx hown (mvT hZ (W 0 rfl)) (g := (mkF m 6 #[.val (.int p1), .val (.int p2), .val (.int p3), .val (.int p4), .val (.int x0), .unset, .unset, .unset, .unset, .unset, .unset, .unset, .unset, .unset, .unset] [(.int p2)])) rfl (hb hby at_6)) ?_
  show own_Run p e below _ s₁ (mkF m 8 #[.val (.int p1), .val (.int p2), .val (.int p3), .val (.int p4), .val (.int x0), .unset, .unset, .unset, .unset, .unset, .unset, .unset, .unset, .unset, .unset] [(.int (1048575 : Int32)), (.int p2)])
  refine own_go (fun _ k => XS.iand X0.here hx rfl (hb hby at_8) rfl k) ?_
  show own_Run p e below _ s₁ (mkF m 9 #[.val (.int p1), .val (.int p2), .val (.int p3), .val (.int p4), .val (.int x0), .unset, .unset, .unset, .unset, .unset, .unset, .unset, .unset, .unset, .unset] [(.int (p2 &&& (1048575 : Int32)))])
  obtain ⟨x1, hx1⟩ : ∃ z, z = (p2 &&& (1048575 : Int32)) := ⟨_, rfl⟩
  rw [← hx1]
  show own_Run p e below _ s₁ (mkF m 9 #[.val (.int p1), .val (.int p2), .val (.int p3), .val (.int p4), .val (.int x0), .unset, .unset, .unset, .unset, .unset, .unset, .unset, .unset, .unset, .unset] [(.int x1)])
  refine own_go (fun _ k => XS.istore X0.here hx rfl (hb hby at_9) rfl (l' := #[.val (.int p1), .val (.int p2), .val (.int p3), .val (.int p4), .val (.int x0), .val (.int x1), .unset, .unset, .unset, .unset, .unset, .unset, .unset, .unset, .unset]) rfl k) ?_
  refine own_go (fun _ k => XS.iload X0.here hx rfl (hb hby at_11) rfl k) ?_
  refine own_go (fun _ k => XS.iconst X0.here hx rfl (hb hby at_13) k) ?_
  refine own_go (fun _ k => XS.iadd X0.here hx rfl (hb hby at_14) rfl k) ?_
  show own_Run p e below _ s₁ (mkF m 15 #[.val (.int p1), .val (.int p2), .val (.int p3), .val (.int p4), .val (.int x0), .val (.int x1), .unset, .unset, .unset, .unset, .unset, .unset, .unset, .unset, .unset] [(.int (x1 + (1 : Int32)))])
  refine own_go (fun _ k => XS.iloadN X0.here hx rfl (hb hby at_15) rfl k) ?_
  refine own_go (fun _ k => XS.sipush X0.here hx rfl (hb hby at_16) k) ?_
  refine own_go (fun _ k => XS.iand X0.here hx rfl (hb hby at_19) rfl k) ?_
  refine own_go (fun _ k => XS.iadd X0.here hx rfl (hb hby at_20) rfl k) ?_
  show own_Run p e below _ s₁ (mkF m 21 #[.val (.int p1), .val (.int p2), .val (.int p3), .val (.int p4), .val (.int x0), .val (.int x1), .unset, .unset, .unset, .unset, .unset, .unset, .unset, .unset, .unset] [(.int ((x1 + (1 : Int32)) + (p3 &&& (4095 : Int32))))])
  obtain ⟨x2, hx2⟩ : ∃ z, z = ((x1 + (1 : Int32)) + (p3 &&& (4095 : Int32))) := ⟨_, rfl⟩
  rw [← hx2]
  show own_Run p e below _ s₁ (mkF m 21 #[.val (.int p1), .val (.int p2), .val (.int p3), .val (.int p4), .val (.int x0), .val (.int x1), .unset, .unset, .unset, .unset, .unset, .unset, .unset, .unset, .unset] [(.int x2)])
  refine own_go (fun _ k => XS.istore X0.here hx rfl (hb hby at_21) rfl (l' := #[.val (.int p1), .val (.int p2), .val (.int p3), .val (.int p4), .val (.int x0), .val (.int x1), .val (.int x2), .unset, .unset, .unset, .unset, .unset, .unset, .unset, .unset]) rfl k) ?_
  refine own_go (fun _ k => XS.iload X0.here hx rfl (hb hby at_23) rfl k) ?_
  refine own_go (fun _ k => XS.iconst X0.here hx rfl (hb hby at_25) k) ?_
  refine own_go (fun _ k => XS.iadd X0.here hx rfl (hb hby at_26) rfl k) ?_
  show own_Run p e below _ s₁ (mkF m 27 #[.val (.int p1), .val (.int p2), .val (.int p3), .val (.int p4), .val (.int x0), .val (.int x1), .val (.int x2), .unset, .unset, .unset, .unset, .unset, .unset, .unset, .unset] [(.int (x2 + (1 : Int32)))])
  refine own_go (fun _ k => XS.iloadN X0.here hx rfl (hb hby at_27) rfl k) ?_
  refine own_go (fun _ k => XS.sipush X0.here hx rfl (hb hby at_28) k) ?_
  refine own_go (fun _ k => XS.iand X0.here hx rfl (hb hby at_31) rfl k) ?_
  refine own_go (fun _ k => XS.iadd X0.here hx rfl (hb hby at_32) rfl k) ?_
  show own_Run p e below _ s₁ (mkF m 33 #[.val (.int p1), .val (.int p2), .val (.int p3), .val (.int p4), .val (.int x0), .val (.int x1), .val (.int x2), .unset, .unset, .unset, .unset, .unset, .unset, .unset, .unset] [(.int ((x2 + (1 : Int32)) + (p4 &&& (4095 : Int32))))])
  obtain ⟨x3, hx3⟩ : ∃ z, z = ((x2 + (1 : Int32)) + (p4 &&& (4095 : Int32))) := ⟨_, rfl⟩
  rw [← hx3]
  show own_Run p e below _ s₁ (mkF m 33 #[.val (.int p1), .val (.int p2), .val (.int p3), .val (.int p4), .val (.int x0), .val (.int x1), .val (.int x2), .unset, .unset, .unset, .unset, .unset, .unset, .unset, .unset] [(.int x3)])
  refine own_go (fun _ k => XS.istore X0.here hx rfl (hb hby at_33) rfl (l' := #[.val (.int p1), .val (.int p2), .val (.int p3), .val (.int p4), .val (.int x0), .val (.int x1), .val (.int x2), .val (.int x3), .unset, .unset, .unset, .unset, .unset, .unset, .unset]) rfl k) ?_
  refine own_go (fun _ k => XS.iconst X0.here hx rfl (hb hby at_35) k) ?_
  show own_Run p e below _ s₁ (mkF m 36 #[.val (.int p1), .val (.int p2), .val (.int p3), .val (.int p4), .val (.int x0), .val (.int x1), .val (.int x2), .val (.int x3), .unset, .unset, .unset, .unset, .unset, .unset, .unset] [(.int (0 : Int32))])
  obtain ⟨T8, h8, k8, X8, e8, E8, A8, st8⟩ := newP X0 hx hZ (W 1 rfl) e0 (g := (mkF m 36 #[.val (.int p1), .val (.int p2), .val (.int p3), .val (.int p4), .val (.int x0), .val (.int x1), .val (.int x2), .val (.int x3), .unset, .unset, .unset, .unset, .unset, .unset, .unset] [(.int (0 : Int32))])) rfl (hb hby at_36) rfl (by decide) (cap := 0) (by decide) (by decide) (by decide) (by decide)
  refine own_go st8 ?_
  obtain ⟨b8, g8⟩ : ∃ z, z = h0.size := ⟨_, rfl⟩
  rw [← g8] at A8
  rw [← g8]
  show own_Run p e below _ T8 (mkF m 38 #[.val (.int p1), .val (.int p2), .val (.int p3), .val (.int p4), .val (.int x0), .val (.int x1), .val (.int x2), .val (.int x3), .unset, .unset, .unset, .unset, .unset, .unset, .unset] [(.ref b8)])
  have g_b8 : n0 ≤ b8 := Nat.le_trans Z0 (Nat.le_of_eq g8.symm)
  have sz_b8 : h0.size ≤ b8 := Nat.le_trans K0.1 (Nat.le_of_eq g8.symm)
  have Z0_c9 := Nat.le_trans Z0 E8.1
  have K0_c9 := K0.ext E8
  have V_b8 : Arv Z h8 b8 k8 .int (0 : Int32) [] (.int (0 : Int32)) := (Arv.new A8 (by decide)).pad (pad_rep [] (.int (0 : Int32)) 0)
  refine own_go (fun _ k => XS.astore X8.here hx rfl (hb hby at_38) rfl rfl (l' := #[.val (.int p1), .val (.int p2), .val (.int p3), .val (.int p4), .val (.int x0), .val (.int x1), .val (.int x2), .val (.int x3), .val (.ref b8), .unset, .unset, .unset, .unset, .unset, .unset]) rfl k) ?_
  refine own_go (fun _ k => XS.iconst X8.here hx rfl (hb hby at_40) k) ?_
  show own_Run p e below _ T8 (mkF m 41 #[.val (.int p1), .val (.int p2), .val (.int p3), .val (.int p4), .val (.int x0), .val (.int x1), .val (.int x2), .val (.int x3), .val (.ref b8), .unset, .unset, .unset, .unset, .unset, .unset] [(.int (1 : Int32))])
  obtain ⟨T10, h10, k10, X10, e10, E10, A10, st10⟩ := newP X8 hx hZ (W 1 rfl) e8 (g := (mkF m 41 #[.val (.int p1), .val (.int p2), .val (.int p3), .val (.int p4), .val (.int x0), .val (.int x1), .val (.int x2), .val (.int x3), .val (.ref b8), .unset, .unset, .unset, .unset, .unset, .unset] [(.int (1 : Int32))])) rfl (hb hby at_41) rfl (by decide) (cap := 1) (by decide) (by decide) (by decide) (by decide)
  refine own_go st10 ?_
  obtain ⟨b10, g10⟩ : ∃ z, z = h8.size := ⟨_, rfl⟩
  rw [← g10] at A10
  rw [← g10]
  show own_Run p e below _ T10 (mkF m 43 #[.val (.int p1), .val (.int p2), .val (.int p3), .val (.int p4), .val (.int x0), .val (.int x1), .val (.int x2), .val (.int x3), .val (.ref b8), .unset, .unset, .unset, .unset, .unset, .unset] [(.ref b10)])
  have ne_b8_b10 : b8 ≠ b10 := Nat.ne_of_lt (Nat.lt_of_lt_of_eq V_b8.lt g10.symm)
  have g_b10 : n0 ≤ b10 := Nat.le_trans Z0_c9 (Nat.le_of_eq g10.symm)
  have sz_b10 : h0.size ≤ b10 := Nat.le_trans K0_c9.1 (Nat.le_of_eq g10.symm)
  have Z0_c11 := Nat.le_trans Z0_c9 E10.1
  have K0_c11 := K0_c9.ext E10
  have V_b8_c11 := V_b8.ext E10
  have V_b10 : Arv Z h10 b10 k10 .int (1 : Int32) [(.int (0 : Int32))] (.int (0 : Int32)) := (Arv.new A10 (by decide)).pad (pad_rep [] (.int (0 : Int32)) 1)
  refine own_go (fun _ k => XS.dup X10.here hx rfl (hb hby at_43) rfl rfl k) ?_
  refine own_go (fun _ k => XS.iconst X10.here hx rfl (hb hby at_44) k) ?_
  refine own_go (fun _ k => XS.iload X10.here hx rfl (hb hby at_45) rfl k) ?_
  show own_Run p e below _ T10 (mkF m 47 #[.val (.int p1), .val (.int p2), .val (.int p3), .val (.int p4), .val (.int x0), .val (.int x1), .val (.int x2), .val (.int x3), .val (.ref b8), .unset, .unset, .unset, .unset, .unset, .unset] [(.int x1), (.int (0 : Int32)), (.ref b10), (.ref b10)])
  obtain ⟨cl12, Ar12, q12, S12, N12, H12, G12⟩ := V_b10
  have hin12 : ¬ ((0 : Int32) < 0 ∨ cl12.slots.size ≤ ((0 : Int32)).toNatClampNeg) := inb_of S12 ⟨by decide, by decide⟩
  obtain ⟨T13, h13, X13, e13, W13, st13⟩ := stI X10 hx hZ e10 Ar12 (j := (0 : Int32)) hin12 (g := (mkF m 47 #[.val (.int p1), .val (.int p2), .val (.int p3), .val (.int p4), .val (.int x0), .val (.int x1), .val (.int x2), .val (.int x3), .val (.ref b8), .unset, .unset, .unset, .unset, .unset, .unset] [(.int x1), (.int (0 : Int32)), (.ref b10), (.ref b10)])) rfl rfl (hb hby at_47)
  refine own_go st13 ?_
  show own_Run p e below _ T13 (mkF m 48 #[.val (.int p1), .val (.int p2), .val (.int p3), .val (.int p4), .val (.int x0), .val (.int x1), .val (.int x2), .val (.int x3), .val (.ref b8), .unset, .unset, .unset, .unset, .unset, .unset] [(.ref b10)])
  have Z0_c14 := Nat.le_trans Z0_c11 (Keep.of_wr W13).1
  have K0_c14 := K0_c11.wr W13 (Or.inr sz_b10)
  have V_b8_c14 := V_b8_c11.other W13 ne_b8_b10
  have V_b10_c13 : Arv Z h13 b10 k10 .int (1 : Int32) [(.int x1)] (.int (0 : Int32)) := Arv.set Ar12 q12 S12 N12 H12 G12 rfl W13 0 rfl (Nat.le_of_ble_eq_true rfl)
  have N13 := Fr.snoc X13 N0 g_b10
  refine own_go (fun _ k => XS.astore X13.here hx rfl (hb hby at_48) rfl rfl (l' := #[.val (.int p1), .val (.int p2), .val (.int p3), .val (.int p4), .val (.int x0), .val (.int x1), .val (.int x2), .val (.int x3), .val (.ref b8), .val (.ref b10), .unset, .unset, .unset, .unset, .unset]) rfl k) ?_
  refine own_go (fun _ k => XS.iconst X13.here hx rfl (hb hby at_50) k) ?_
  show own_Run p e below _ T13 (mkF m 51 #[.val (.int p1), .val (.int p2), .val (.int p3), .val (.int p4), .val (.int x0), .val (.int x1), .val (.int x2), .val (.int x3), .val (.ref b8), .val (.ref b10), .unset, .unset, .unset, .unset, .unset] [(.int (2 : Int32))])
  obtain ⟨T15, h15, k15, X15, e15, E15, A15, st15⟩ := newP X13 hx hZ (W 1 rfl) e13 (g := (mkF m 51 #[.val (.int p1), .val (.int p2), .val (.int p3), .val (.int p4), .val (.int x0), .val (.int x1), .val (.int x2), .val (.int x3), .val (.ref b8), .val (.ref b10), .unset, .unset, .unset, .unset, .unset] [(.int (2 : Int32))])) rfl (hb hby at_51) rfl (by decide) (cap := 2) (by decide) (by decide) (by decide) (by decide)
  refine own_go st15 ?_
  obtain ⟨b15, g15⟩ : ∃ z, z = h13.size := ⟨_, rfl⟩
  rw [← g15] at A15
  rw [← g15]
  show own_Run p e below _ T15 (mkF m 53 #[.val (.int p1), .val (.int p2), .val (.int p3), .val (.int p4), .val (.int x0), .val (.int x1), .val (.int x2), .val (.int x3), .val (.ref b8), .val (.ref b10), .unset, .unset, .unset, .unset, .unset] [(.ref b15)])
  have ne_b8_b15 : b8 ≠ b15 := Nat.ne_of_lt (Nat.lt_of_lt_of_eq V_b8_c14.lt g15.symm)
  have ne_b10_b15 : b10 ≠ b15 := Nat.ne_of_lt (Nat.lt_of_lt_of_eq V_b10_c13.lt g15.symm)
  have g_b15 : n0 ≤ b15 := Nat.le_trans Z0_c14 (Nat.le_of_eq g15.symm)
  have sz_b15 : h0.size ≤ b15 := Nat.le_trans K0_c14.1 (Nat.le_of_eq g15.symm)
  have Z0_c16 := Nat.le_trans Z0_c14 E15.1
  have K0_c16 := K0_c14.ext E15
  have V_b8_c16 := V_b8_c14.ext E15
  have V_b10_c16 := V_b10_c13.ext E15
  have V_b15 : Arv Z h15 b15 k15 .int (2 : Int32) [(.int (0 : Int32)), (.int (0 : Int32))] (.int (0 : Int32)) := (Arv.new A15 (by decide)).pad (pad_rep [] (.int (0 : Int32)) 2)
  refine own_go (fun _ k => XS.dup X15.here hx rfl (hb hby at_53) rfl rfl k) ?_
  refine own_go (fun _ k => XS.iconst X15.here hx rfl (hb hby at_54) k) ?_
  refine own_go (fun _ k => XS.iload X15.here hx rfl (hb hby at_55) rfl k) ?_
  show own_Run p e below _ T15 (mkF m 57 #[.val (.int p1), .val (.int p2), .val (.int p3), .val (.int p4), .val (.int x0), .val (.int x1), .val (.int x2), .val (.int x3), .val (.ref b8), .val (.ref b10), .unset, .unset, .unset, .unset, .unset] [(.int x1), (.int (0 : Int32)), (.ref b15), (.ref b15)])
  obtain ⟨cl17, Ar17, q17, S17, N17, H17, G17⟩ := V_b15
  have hin17 : ¬ ((0 : Int32) < 0 ∨ cl17.slots.size ≤ ((0 : Int32)).toNatClampNeg) := inb_of S17 ⟨by decide, by decide⟩
  obtain ⟨T18, h18, X18, e18, W18, st18⟩ := stI X15 hx hZ e15 Ar17 (j := (0 : Int32)) hin17 (g := (mkF m 57 #[.val (.int p1), .val (.int p2), .val (.int p3), .val (.int p4), .val (.int x0), .val (.int x1), .val (.int x2), .val (.int x3), .val (.ref b8), .val (.ref b10), .unset, .unset, .unset, .unset, .unset] [(.int x1), (.int (0 : Int32)), (.ref b15), (.ref b15)])) rfl rfl (hb hby at_57)
  refine own_go st18 ?_
  show own_Run p e below _ T18 (mkF m 58 #[.val (.int p1), .val (.int p2), .val (.int p3), .val (.int p4), .val (.int x0), .val (.int x1), .val (.int x2), .val (.int x3), .val (.ref b8), .val (.ref b10), .unset, .unset, .unset, .unset, .unset] [(.ref b15)])
  have Z0_c19 := Nat.le_trans Z0_c16 (Keep.of_wr W18).1
  have K0_c19 := K0_c16.wr W18 (Or.inr sz_b15)
  have V_b8_c19 := V_b8_c16.other W18 ne_b8_b15
  have V_b10_c19 := V_b10_c16.other W18 ne_b10_b15
  have V_b15_c18 : Arv Z h18 b15 k15 .int (2 : Int32) [(.int x1), (.int (0 : Int32))] (.int (0 : Int32)) := Arv.set Ar17 q17 S17 N17 H17 G17 rfl W18 0 rfl (Nat.le_of_ble_eq_true rfl)
  have N18 := Fr.snoc X18 N13 g_b15
  refine own_go (fun _ k => XS.dup X18.here hx rfl (hb hby at_58) rfl rfl k) ?_
  refine own_go (fun _ k => XS.iconst X18.here hx rfl (hb hby at_59) k) ?_
  refine own_go (fun _ k => XS.iload X18.here hx rfl (hb hby at_60) rfl k) ?_
  show own_Run p e below _ T18 (mkF m 62 #[.val (.int p1), .val (.int p2), .val (.int p3), .val (.int p4), .val (.int x0), .val (.int x1), .val (.int x2), .val (.int x3), .val (.ref b8), .val (.ref b10), .unset, .unset, .unset, .unset, .unset] [(.int x2), (.int (1 : Int32)), (.ref b15), (.ref b15)])
  obtain ⟨cl20, Ar20, q20, S20, N20, H20, G20⟩ := V_b15_c18
  have hin20 : ¬ ((1 : Int32) < 0 ∨ cl20.slots.size ≤ ((1 : Int32)).toNatClampNeg) := inb_of S20 ⟨by decide, by decide⟩
  obtain ⟨T21, h21, X21, e21, W21, st21⟩ := stI X18 hx hZ e18 Ar20 (j := (1 : Int32)) hin20 (g := (mkF m 62 #[.val (.int p1), .val (.int p2), .val (.int p3), .val (.int p4), .val (.int x0), .val (.int x1), .val (.int x2), .val (.int x3), .val (.ref b8), .val (.ref b10), .unset, .unset, .unset, .unset, .unset] [(.int x2), (.int (1 : Int32)), (.ref b15), (.ref b15)])) rfl rfl (hb hby at_62)
  refine own_go st21 ?_
  show own_Run p e below _ T21 (mkF m 63 #[.val (.int p1), .val (.int p2), .val (.int p3), .val (.int p4), .val (.int x0), .val (.int x1), .val (.int x2), .val (.int x3), .val (.ref b8), .val (.ref b10), .unset, .unset, .unset, .unset, .unset] [(.ref b15)])
  have Z0_c22 := Nat.le_trans Z0_c19 (Keep.of_wr W21).1
  have K0_c22 := K0_c19.wr W21 (Or.inr sz_b15)
  have V_b8_c22 := V_b8_c19.other W21 ne_b8_b15
  have V_b10_c22 := V_b10_c19.other W21 ne_b10_b15
  have V_b15_c21 : Arv Z h21 b15 k15 .int (2 : Int32) [(.int x1), (.int x2)] (.int (0 : Int32)) := Arv.set Ar20 q20 S20 N20 H20 G20 rfl W21 1 rfl (Nat.le_of_ble_eq_true rfl)
  have N21 := Fr.snoc X21 N18 g_b15
  refine own_go (fun _ k => XS.astore X21.here hx rfl (hb hby at_63) rfl rfl (l' := #[.val (.int p1), .val (.int p2), .val (.int p3), .val (.int p4), .val (.int x0), .val (.int x1), .val (.int x2), .val (.int x3), .val (.ref b8), .val (.ref b10), .val (.ref b15), .unset, .unset, .unset, .unset]) rfl k) ?_
  refine own_go (fun _ k => XS.iconst X21.here hx rfl (hb hby at_65) k) ?_
  show own_Run p e below _ T21 (mkF m 66 #[.val (.int p1), .val (.int p2), .val (.int p3), .val (.int p4), .val (.int x0), .val (.int x1), .val (.int x2), .val (.int x3), .val (.ref b8), .val (.ref b10), .val (.ref b15), .unset, .unset, .unset, .unset] [(.int (3 : Int32))])
  obtain ⟨T23, h23, k23, X23, e23, E23, A23, st23⟩ := newP X21 hx hZ (W 1 rfl) e21 (g := (mkF m 66 #[.val (.int p1), .val (.int p2), .val (.int p3), .val (.int p4), .val (.int x0), .val (.int x1), .val (.int x2), .val (.int x3), .val (.ref b8), .val (.ref b10), .val (.ref b15), .unset, .unset, .unset, .unset] [(.int (3 : Int32))])) rfl (hb hby at_66) rfl (by decide) (cap := 3) (by decide) (by decide) (by decide) (by decide)
  refine own_go st23 ?_
  obtain ⟨b23, g23⟩ : ∃ z, z = h21.size := ⟨_, rfl⟩
  rw [← g23] at A23
  rw [← g23]
  show own_Run p e below _ T23 (mkF m 68 #[.val (.int p1), .val (.int p2), .val (.int p3), .val (.int p4), .val (.int x0), .val (.int x1), .val (.int x2), .val (.int x3), .val (.ref b8), .val (.ref b10), .val (.ref b15), .unset, .unset, .unset, .unset] [(.ref b23)])
  have ne_b8_b23 : b8 ≠ b23 := Nat.ne_of_lt (Nat.lt_of_lt_of_eq V_b8_c22.lt g23.symm)
  have ne_b10_b23 : b10 ≠ b23 := Nat.ne_of_lt (Nat.lt_of_lt_of_eq V_b10_c22.lt g23.symm)
  have ne_b15_b23 : b15 ≠ b23 := Nat.ne_of_lt (Nat.lt_of_lt_of_eq V_b15_c21.lt g23.symm)
  have g_b23 : n0 ≤ b23 := Nat.le_trans Z0_c22 (Nat.le_of_eq g23.symm)
  have sz_b23 : h0.size ≤ b23 := Nat.le_trans K0_c22.1 (Nat.le_of_eq g23.symm)
  have Z0_c24 := Nat.le_trans Z0_c22 E23.1
  have K0_c24 := K0_c22.ext E23
  have V_b8_c24 := V_b8_c22.ext E23
  have V_b10_c24 := V_b10_c22.ext E23
  have V_b15_c24 := V_b15_c21.ext E23
  have V_b23 : Arv Z h23 b23 k23 .int (3 : Int32) [(.int (0 : Int32)), (.int (0 : Int32)), (.int (0 : Int32))] (.int (0 : Int32)) := (Arv.new A23 (by decide)).pad (pad_rep [] (.int (0 : Int32)) 3)
  refine own_go (fun _ k => XS.dup X23.here hx rfl (hb hby at_68) rfl rfl k) ?_
  refine own_go (fun _ k => XS.iconst X23.here hx rfl (hb hby at_69) k) ?_
  refine own_go (fun _ k => XS.iload X23.here hx rfl (hb hby at_70) rfl k) ?_
  show own_Run p e below _ T23 (mkF m 72 #[.val (.int p1), .val (.int p2), .val (.int p3), .val (.int p4), .val (.int x0), .val (.int x1), .val (.int x2), .val (.int x3), .val (.ref b8), .val (.ref b10), .val (.ref b15), .unset, .unset, .unset, .unset] [(.int x1), (.int (0 : Int32)), (.ref b23), (.ref b23)])
  obtain ⟨cl25, Ar25, q25, S25, N25, H25, G25⟩ := V_b23
  have hin25 : ¬ ((0 : Int32) < 0 ∨ cl25.slots.size ≤ ((0 : Int32)).toNatClampNeg) := inb_of S25 ⟨by decide, by decide⟩
  obtain ⟨T26, h26, X26, e26, W26, st26⟩ := stI X23 hx hZ e23 Ar25 (j := (0 : Int32)) hin25 (g := (mkF m 72 #[.val (.int p1), .val (.int p2), .val (.int p3), .val (.int p4), .val (.int x0), .val (.int x1), .val (.int x2), .val (.int x3), .val (.ref b8), .val (.ref b10), .val (.ref b15), .unset, .unset, .unset, .unset] [(.int x1), (.int (0 : Int32)), (.ref b23), (.ref b23)])) rfl rfl (hb hby at_72)
  refine own_go st26 ?_
  show own_Run p e below _ T26 (mkF m 73 #[.val (.int p1), .val (.int p2), .val (.int p3), .val (.int p4), .val (.int x0), .val (.int x1), .val (.int x2), .val (.int x3), .val (.ref b8), .val (.ref b10), .val (.ref b15), .unset, .unset, .unset, .unset] [(.ref b23)])
  have Z0_c27 := Nat.le_trans Z0_c24 (Keep.of_wr W26).1
  have K0_c27 := K0_c24.wr W26 (Or.inr sz_b23)
  have V_b8_c27 := V_b8_c24.other W26 ne_b8_b23
  have V_b10_c27 := V_b10_c24.other W26 ne_b10_b23
  have V_b15_c27 := V_b15_c24.other W26 ne_b15_b23
  have V_b23_c26 : Arv Z h26 b23 k23 .int (3 : Int32) [(.int x1), (.int (0 : Int32)), (.int (0 : Int32))] (.int (0 : Int32)) := Arv.set Ar25 q25 S25 N25 H25 G25 rfl W26 0 rfl (Nat.le_of_ble_eq_true rfl)
  have N26 := Fr.snoc X26 N21 g_b23
  refine own_go (fun _ k => XS.dup X26.here hx rfl (hb hby at_73) rfl rfl k) ?_
  refine own_go (fun _ k => XS.iconst X26.here hx rfl (hb hby at_74) k) ?_
  refine own_go (fun _ k => XS.iload X26.here hx rfl (hb hby at_75) rfl k) ?_
  show own_Run p e below _ T26 (mkF m 77 #[.val (.int p1), .val (.int p2), .val (.int p3), .val (.int p4), .val (.int x0), .val (.int x1), .val (.int x2), .val (.int x3), .val (.ref b8), .val (.ref b10), .val (.ref b15), .unset, .unset, .unset, .unset] [(.int x2), (.int (1 : Int32)), (.ref b23), (.ref b23)])
  obtain ⟨cl28, Ar28, q28, S28, N28, H28, G28⟩ := V_b23_c26
  have hin28 : ¬ ((1 : Int32) < 0 ∨ cl28.slots.size ≤ ((1 : Int32)).toNatClampNeg) := inb_of S28 ⟨by decide, by decide⟩
  obtain ⟨T29, h29, X29, e29, W29, st29⟩ := stI X26 hx hZ e26 Ar28 (j := (1 : Int32)) hin28 (g := (mkF m 77 #[.val (.int p1), .val (.int p2), .val (.int p3), .val (.int p4), .val (.int x0), .val (.int x1), .val (.int x2), .val (.int x3), .val (.ref b8), .val (.ref b10), .val (.ref b15), .unset, .unset, .unset, .unset] [(.int x2), (.int (1 : Int32)), (.ref b23), (.ref b23)])) rfl rfl (hb hby at_77)
  refine own_go st29 ?_
  show own_Run p e below _ T29 (mkF m 78 #[.val (.int p1), .val (.int p2), .val (.int p3), .val (.int p4), .val (.int x0), .val (.int x1), .val (.int x2), .val (.int x3), .val (.ref b8), .val (.ref b10), .val (.ref b15), .unset, .unset, .unset, .unset] [(.ref b23)])
  have Z0_c30 := Nat.le_trans Z0_c27 (Keep.of_wr W29).1
  have K0_c30 := K0_c27.wr W29 (Or.inr sz_b23)
  have V_b8_c30 := V_b8_c27.other W29 ne_b8_b23
  have V_b10_c30 := V_b10_c27.other W29 ne_b10_b23
  have V_b15_c30 := V_b15_c27.other W29 ne_b15_b23
  have V_b23_c29 : Arv Z h29 b23 k23 .int (3 : Int32) [(.int x1), (.int x2), (.int (0 : Int32))] (.int (0 : Int32)) := Arv.set Ar28 q28 S28 N28 H28 G28 rfl W29 1 rfl (Nat.le_of_ble_eq_true rfl)
  have N29 := Fr.snoc X29 N26 g_b23
  refine own_go (fun _ k => XS.dup X29.here hx rfl (hb hby at_78) rfl rfl k) ?_
  refine own_go (fun _ k => XS.iconst X29.here hx rfl (hb hby at_79) k) ?_
  refine own_go (fun _ k => XS.iload X29.here hx rfl (hb hby at_80) rfl k) ?_
  show own_Run p e below _ T29 (mkF m 82 #[.val (.int p1), .val (.int p2), .val (.int p3), .val (.int p4), .val (.int x0), .val (.int x1), .val (.int x2), .val (.int x3), .val (.ref b8), .val (.ref b10), .val (.ref b15), .unset, .unset, .unset, .unset] [(.int x3), (.int (2 : Int32)), (.ref b23), (.ref b23)])
  obtain ⟨cl31, Ar31, q31, S31, N31, H31, G31⟩ := V_b23_c29
  have hin31 : ¬ ((2 : Int32) < 0 ∨ cl31.slots.size ≤ ((2 : Int32)).toNatClampNeg) := inb_of S31 ⟨by decide, by decide⟩
  obtain ⟨T32, h32, X32, e32, W32, st32⟩ := stI X29 hx hZ e29 Ar31 (j := (2 : Int32)) hin31 (g := (mkF m 82 #[.val (.int p1), .val (.int p2), .val (.int p3), .val (.int p4), .val (.int x0), .val (.int x1), .val (.int x2), .val (.int x3), .val (.ref b8), .val (.ref b10), .val (.ref b15), .unset, .unset, .unset, .unset] [(.int x3), (.int (2 : Int32)), (.ref b23), (.ref b23)])) rfl rfl (hb hby at_82)
  refine own_go st32 ?_
  show own_Run p e below _ T32 (mkF m 83 #[.val (.int p1), .val (.int p2), .val (.int p3), .val (.int p4), .val (.int x0), .val (.int x1), .val (.int x2), .val (.int x3), .val (.ref b8), .val (.ref b10), .val (.ref b15), .unset, .unset, .unset, .unset] [(.ref b23)])
  have Z0_c33 := Nat.le_trans Z0_c30 (Keep.of_wr W32).1
  have K0_c33 := K0_c30.wr W32 (Or.inr sz_b23)
  have V_b8_c33 := V_b8_c30.other W32 ne_b8_b23
  have V_b10_c33 := V_b10_c30.other W32 ne_b10_b23
  have V_b15_c33 := V_b15_c30.other W32 ne_b15_b23
  have V_b23_c32 : Arv Z h32 b23 k23 .int (3 : Int32) [(.int x1), (.int x2), (.int x3)] (.int (0 : Int32)) := Arv.set Ar31 q31 S31 N31 H31 G31 rfl W32 2 rfl (Nat.le_of_ble_eq_true rfl)
  have N32 := Fr.snoc X32 N29 g_b23
  refine own_go (fun _ k => XS.astore X32.here hx rfl (hb hby at_83) rfl rfl (l' := #[.val (.int p1), .val (.int p2), .val (.int p3), .val (.int p4), .val (.int x0), .val (.int x1), .val (.int x2), .val (.int x3), .val (.ref b8), .val (.ref b10), .val (.ref b15), .val (.ref b23), .unset, .unset, .unset]) rfl k) ?_
  refine own_go (fun _ k => XS.aload X32.here hx rfl (hb hby at_85) rfl rfl k) ?_
  refine own_go (fun _ k => XS.astore X32.here hx rfl (hb hby at_87) rfl rfl (l' := #[.val (.int p1), .val (.int p2), .val (.int p3), .val (.int p4), .val (.int x0), .val (.int x1), .val (.int x2), .val (.int x3), .val (.ref b8), .val (.ref b10), .val (.ref b15), .val (.ref b23), .val (.ref b8), .unset, .unset]) rfl k) ?_
  show own_Run p e below _ T32 (mkF m 89 #[.val (.int p1), .val (.int p2), .val (.int p3), .val (.int p4), .val (.int x0), .val (.int x1), .val (.int x2), .val (.int x3), .val (.ref b8), .val (.ref b10), .val (.ref b15), .val (.ref b23), .val (.ref b8), .unset, .unset] [])
  rcases own_and3 p1 x0 hx0 with rfl | rfl | rfl | rfl
  · show own_Run p e below _ T32 (mkF m 89 #[.val (.int p1), .val (.int p2), .val (.int p3), .val (.int p4), .val (.int (0 : Int32)), .val (.int x1), .val (.int x2), .val (.int x3), .val (.ref b8), .val (.ref b10), .val (.ref b15), .val (.ref b23), .val (.ref b8), .unset, .unset] [])
    refine own_go (fun _ k => XS.iload X32.here hx rfl (hb hby at_89) rfl k) ?_
    refine own_go (fun _ k => XS.iconst X32.here hx rfl (hb hby at_91) k) ?_
    show own_Run p e below _ T32 (mkF m 92 #[.val (.int p1), .val (.int p2), .val (.int p3), .val (.int p4), .val (.int (0 : Int32)), .val (.int x1), .val (.int x2), .val (.int x3), .val (.ref b8), .val (.ref b10), .val (.ref b15), .val (.ref b23), .val (.ref b8), .unset, .unset] [(.int (1 : Int32)), (.int (0 : Int32))])
    refine own_go (fun _ k => XS.icmpYes X32.here hx rfl (pc0 := 92) (pc' := 102) rfl (hb hby at_92) rfl (feq (by decide : ¬ ((0 : Int32) = (1 : Int32)))).2 (by decide) (by decide) k) ?_
    show own_Run p e below _ T32 (mkF m 102 #[.val (.int p1), .val (.int p2), .val (.int p3), .val (.int p4), .val (.int (0 : Int32)), .val (.int x1), .val (.int x2), .val (.int x3), .val (.ref b8), .val (.ref b10), .val (.ref b15), .val (.ref b23), .val (.ref b8), .unset, .unset] [])
    refine own_go (fun _ k => XS.iload X32.here hx rfl (hb hby at_102) rfl k) ?_
    refine own_go (fun _ k => XS.iconst X32.here hx rfl (hb hby at_104) k) ?_
    show own_Run p e below _ T32 (mkF m 105 #[.val (.int p1), .val (.int p2), .val (.int p3), .val (.int p4), .val (.int (0 : Int32)), .val (.int x1), .val (.int x2), .val (.int x3), .val (.ref b8), .val (.ref b10), .val (.ref b15), .val (.ref b23), .val (.ref b8), .unset, .unset] [(.int (2 : Int32)), (.int (0 : Int32))])
    refine own_go (fun _ k => XS.icmpYes X32.here hx rfl (pc0 := 105) (pc' := 115) rfl (hb hby at_105) rfl (feq (by decide : ¬ ((0 : Int32) = (2 : Int32)))).2 (by decide) (by decide) k) ?_
    show own_Run p e below _ T32 (mkF m 115 #[.val (.int p1), .val (.int p2), .val (.int p3), .val (.int p4), .val (.int (0 : Int32)), .val (.int x1), .val (.int x2), .val (.int x3), .val (.ref b8), .val (.ref b10), .val (.ref b15), .val (.ref b23), .val (.ref b8), .unset, .unset] [])
    refine own_go (fun _ k => XS.iload X32.here hx rfl (hb hby at_115) rfl k) ?_
    refine own_go (fun _ k => XS.iconst X32.here hx rfl (hb hby at_117) k) ?_
    show own_Run p e below _ T32 (mkF m 118 #[.val (.int p1), .val (.int p2), .val (.int p3), .val (.int p4), .val (.int (0 : Int32)), .val (.int x1), .val (.int x2), .val (.int x3), .val (.ref b8), .val (.ref b10), .val (.ref b15), .val (.ref b23), .val (.ref b8), .unset, .unset] [(.int (3 : Int32)), (.int (0 : Int32))])
    refine own_go (fun _ k => XS.icmpYes X32.here hx rfl (pc0 := 118) (pc' := 125) rfl (hb hby at_118) rfl (feq (by decide : ¬ ((0 : Int32) = (3 : Int32)))).2 (by decide) (by decide) k) ?_
    show own_Run p e below _ T32 (mkF m 125 #[.val (.int p1), .val (.int p2), .val (.int p3), .val (.int p4), .val (.int (0 : Int32)), .val (.int x1), .val (.int x2), .val (.int x3), .val (.ref b8), .val (.ref b10), .val (.ref b15), .val (.ref b23), .val (.ref b8), .unset, .unset] [])
    obtain ⟨T34, h34, X34, e34, E34, A34, D34, -, st34⟩ := newO X32 hx hZ hown (W 2 rfl) (W 3 rfl) (W 4 rfl) e32 (g := (mkF m 125 #[.val (.int p1), .val (.int p2), .val (.int p3), .val (.int p4), .val (.int (0 : Int32)), .val (.int x1), .val (.int x2), .val (.int x3), .val (.ref b8), .val (.ref b10), .val (.ref b15), .val (.ref b23), .val (.ref b8), .unset, .unset] [])) rfl (hb hby at_125) (by decide) (by decide)
    refine own_go st34 ?_
    obtain ⟨b34, g34⟩ : ∃ z, z = h32.size := ⟨_, rfl⟩
    rw [← g34] at A34 D34
    rw [← g34]
    show own_Run p e below _ T34 (mkF m 128 #[.val (.int p1), .val (.int p2), .val (.int p3), .val (.int p4), .val (.int (0 : Int32)), .val (.int x1), .val (.int x2), .val (.int x3), .val (.ref b8), .val (.ref b10), .val (.ref b15), .val (.ref b23), .val (.ref b8), .unset, .unset] [(.ref b34)])
    have ne_b8_b34 : b8 ≠ b34 := Nat.ne_of_lt (Nat.lt_of_lt_of_eq V_b8_c33.lt g34.symm)
    have ne_b10_b34 : b10 ≠ b34 := Nat.ne_of_lt (Nat.lt_of_lt_of_eq V_b10_c33.lt g34.symm)
    have ne_b15_b34 : b15 ≠ b34 := Nat.ne_of_lt (Nat.lt_of_lt_of_eq V_b15_c33.lt g34.symm)
    have ne_b23_b34 : b23 ≠ b34 := Nat.ne_of_lt (Nat.lt_of_lt_of_eq V_b23_c32.lt g34.symm)
    have g_b34 : n0 ≤ b34 := Nat.le_trans Z0_c33 (Nat.le_of_eq g34.symm)
    have sz_b34 : h0.size ≤ b34 := Nat.le_trans K0_c33.1 (Nat.le_of_eq g34.symm)
    have Z0_c35 := Nat.le_trans Z0_c33 E34.1
    have K0_c35 := K0_c33.ext E34
    have V_b8_c35 := V_b8_c33.ext E34
    have V_b10_c35 := V_b10_c33.ext E34
    have V_b15_c35 := V_b15_c33.ext E34
    have V_b23_c35 := V_b23_c32.ext E34
    have F_numbers_b34 : Fld Z h34 b34 "com/example/net_reducer/netreducer/model/NodeSet" "numbers" "[I" .null := D34 (Or.inr (W 12 rfl)) (ty := (.array .int)) (by decide)
    refine own_go (fun _ k => XS.dup X34.here hx rfl (hb hby at_128) rfl rfl k) ?_
    refine own_go (fun _ k => XS.aload X34.here hx rfl (hb hby at_129) rfl rfl k) ?_
    show own_Run p e below _ T34 (mkF m 131 #[.val (.int p1), .val (.int p2), .val (.int p3), .val (.int p4), .val (.int (0 : Int32)), .val (.int x1), .val (.int x2), .val (.int x3), .val (.ref b8), .val (.ref b10), .val (.ref b15), .val (.ref b23), .val (.ref b8), .unset, .unset] [(.ref b8), (.ref b34), (.ref b34)])
    obtain ⟨_, _, ⟨T36, L36, k36, n36⟩, -, X36, ⟨Lc36, hQ36, l36, y36, z36⟩, st36⟩ := X34.specialBack hx (y := (⟨"com/example/net_reducer/netreducer/model/NodeSet", "<init>", "([I)V"⟩ : MethodName)) rfl hown (mvT hZ (W 5 rfl)) (mvT hZ (W 6 rfl)) (mvT hZ (W 7 rfl)) (by decide) (backOf (W := 1) (rm1 l Z a0 hw [] b34 b8 .null h34 n0 Z0_c35 A34 F_numbers_b34 g_b34) hZ (W 7 rfl) (W 4 rfl) (by decide) (by decide)) (g := (mkF m 131 #[.val (.int p1), .val (.int p2), .val (.int p3), .val (.int p4), .val (.int (0 : Int32)), .val (.int x1), .val (.int x2), .val (.int x3), .val (.ref b8), .val (.ref b10), .val (.ref b15), .val (.ref b23), .val (.ref b8), .unset, .unset] [(.ref b8), (.ref b34), (.ref b34)])) rfl (by rw [hml]; rfl) (Steps.refl _) (a := b34) (argsL := [(.ref b8)]) (rest := [(.ref b34)]) (lenOf pd_1 rfl) rfl (by show 2 * 0 + _ ≤ _; exact Nat.le_of_eq rfl) (hb hby at_131) (fun _ _ => ⟨rfl, e34, (by decide : 5 + 0 ≤ _), (by decide : 7 + 0 ≤ _)⟩)
    dsimp only [Pt.U, Pt.locs, Pt.cells, Pt.slots] at X36 l36 y36 z36 st36 hQ36
    subst l36 y36 z36
    obtain ⟨rfl, N36q, K36, P36_0, P36_1⟩ := hQ36
    have N36 := Fr.app N32 N36q
    refine own_goT st36 ?_
    show own_Run p e below _ T36 (mkF m 134 #[.val (.int p1), .val (.int p2), .val (.int p3), .val (.int p4), .val (.int (0 : Int32)), .val (.int x1), .val (.int x2), .val (.int x3), .val (.ref b8), .val (.ref b10), .val (.ref b15), .val (.ref b23), .val (.ref b8), .unset, .unset] [(.ref b34)])
    have Z0_c37 := Nat.le_trans Z0_c35 K36.1
    have K0_c37 := K0_c35.trans K36 (allS (Or.inr sz_b34) all0)
    have V_b8_c37 := V_b8_c35.keep K36 (ninS ne_b8_b34 nin0)
    have V_b10_c37 := V_b10_c35.keep K36 (ninS ne_b10_b34 nin0)
    have V_b15_c37 := V_b15_c35.keep K36 (ninS ne_b15_b34 nin0)
    have V_b23_c37 := V_b23_c35.keep K36 (ninS ne_b23_b34 nin0)
    have A34_c37 := A34.keep K36
    refine own_go (fun _ k => XS.astore X36.here hx rfl (hb hby at_134) rfl rfl (l' := #[.val (.int p1), .val (.int p2), .val (.int p3), .val (.int p4), .val (.int (0 : Int32)), .val (.int x1), .val (.int x2), .val (.int x3), .val (.ref b8), .val (.ref b10), .val (.ref b15), .val (.ref b23), .val (.ref b8), .val (.ref b34), .unset]) rfl k) ?_
    refine own_go (fun _ k => XS.aload X36.here hx rfl (hb hby at_136) rfl rfl k) ?_
    show own_Run p e below _ T36 (mkF m 138 #[.val (.int p1), .val (.int p2), .val (.int p3), .val (.int p4), .val (.int (0 : Int32)), .val (.int x1), .val (.int x2), .val (.int x3), .val (.ref b8), .val (.ref b10), .val (.ref b15), .val (.ref b23), .val (.ref b8), .val (.ref b34), .unset] [(.ref b34)])
    obtain ⟨cq38, kq38, q38a, q38b, q38c⟩ := isOf hZ rfl P36_0
    obtain ⟨_, _, ⟨T38, L38, k38, n38⟩, -, X38, ⟨Lc38, hQ38, l38, y38, z38⟩, st38⟩ := X36.virtualBack hx (y := (⟨"com/example/net_reducer/netreducer/model/NodeSet", "isEmpty", "()Z"⟩ : MethodName)) (z := (⟨"com/example/net_reducer/netreducer/model/NodeSet", "isEmpty", "()Z"⟩ : MethodName)) hown (mvT hZ (W 13 rfl)) (mvT hZ (W 14 rfl)) (notFace_of_selects (args := #[]) (mvT hZ (W 16 rfl))) (mvT hZ (W 16 rfl)) (mvT hZ (W 15 rfl)) (by decide) (backOf (W := 0) (rm3 l Z a0 hw [] b34 b8 k8 (0 : Int32) [] (.int (0 : Int32)) (1 : Int32) T36.heap n0 Z0_c37 P36_1 V_b8_c37 (Or.inl ⟨rfl, rfl⟩)) hZ (W 17 rfl) (W 4 rfl) (by decide) (by decide)) q38a q38c (g := (mkF m 138 #[.val (.int p1), .val (.int p2), .val (.int p3), .val (.int p4), .val (.int (0 : Int32)), .val (.int x1), .val (.int x2), .val (.int x3), .val (.ref b8), .val (.ref b10), .val (.ref b15), .val (.ref b23), .val (.ref b8), .val (.ref b34), .unset] [(.ref b34)])) rfl (by rw [hml]; rfl) (Steps.refl _) (argsL := []) (rest := []) (lenOf pd_2 rfl) rfl (by show 2 * 0 + _ ≤ _; exact Nat.le_of_eq rfl) (hb hby at_138) (fun _ _ => ⟨rfl, rfl, (by decide : 5 + 0 ≤ _), (by decide : 7 + 0 ≤ _)⟩)
    dsimp only [Pt.U, Pt.locs, Pt.cells, Pt.slots] at X38 l38 y38 z38 st38 hQ38
    subst l38 y38 z38
    obtain ⟨rfl, N38q, e38⟩ := hQ38
    have N38 := Fr.app N36 N38q
    refine own_goT st38 ?_
    show own_Run p e below _ T38 (mkF m 141 #[.val (.int p1), .val (.int p2), .val (.int p3), .val (.int p4), .val (.int (0 : Int32)), .val (.int x1), .val (.int x2), .val (.int x3), .val (.ref b8), .val (.ref b10), .val (.ref b15), .val (.ref b23), .val (.ref b8), .val (.ref b34), .unset] [(.int (1 : Int32))])
    refine own_go (fun _ k => XS.istore X38.here hx rfl (hb hby at_141) rfl (l' := #[.val (.int p1), .val (.int p2), .val (.int p3), .val (.int p4), .val (.int (0 : Int32)), .val (.int x1), .val (.int x2), .val (.int x3), .val (.ref b8), .val (.ref b10), .val (.ref b15), .val (.ref b23), .val (.ref b8), .val (.ref b34), .val (.int (1 : Int32))]) rfl k) ?_
    refine own_go (fun _ k => XS.iload X38.here hx rfl (hb hby at_143) rfl k) ?_
    refine own_go (fun _ k => XS.iload X38.here hx rfl (hb hby at_145) rfl k) ?_
    show own_Run p e below _ T38 (mkF m 147 #[.val (.int p1), .val (.int p2), .val (.int p3), .val (.int p4), .val (.int (0 : Int32)), .val (.int x1), .val (.int x2), .val (.int x3), .val (.ref b8), .val (.ref b10), .val (.ref b15), .val (.ref b23), .val (.ref b8), .val (.ref b34), .val (.int (1 : Int32))] [(.int (0 : Int32)), (.int (1 : Int32))])
    refine own_go (fun _ k => XS.ifNo X38.here hx rfl (hb hby at_147) rfl ((if0 _ _).trans (teq (by decide : (0 : Int32) = (0 : Int32))).2) k) ?_
    show own_Run p e below _ T38 (mkF m 150 #[.val (.int p1), .val (.int p2), .val (.int p3), .val (.int p4), .val (.int (0 : Int32)), .val (.int x1), .val (.int x2), .val (.int x3), .val (.ref b8), .val (.ref b10), .val (.ref b15), .val (.ref b23), .val (.ref b8), .val (.ref b34), .val (.int (1 : Int32))] [(.int (1 : Int32))])
    refine own_go (fun _ k => XS.iconst X38.here hx rfl (hb hby at_150) k) ?_
    refine own_go (fun _ k => XS.goto X38.here hx rfl (pc0 := 151) (pc' := 155) rfl (hb hby at_151) (by decide) (by decide) k) ?_
    show own_Run p e below _ T38 (mkF m 155 #[.val (.int p1), .val (.int p2), .val (.int p3), .val (.int p4), .val (.int (0 : Int32)), .val (.int x1), .val (.int x2), .val (.int x3), .val (.ref b8), .val (.ref b10), .val (.ref b15), .val (.ref b23), .val (.ref b8), .val (.ref b34), .val (.int (1 : Int32))] [(.int (1 : Int32)), (.int (1 : Int32))])
    refine own_go (fun _ k => XS.icmpNo X38.here hx rfl (hb hby at_155) rfl (teq (by decide : (1 : Int32) = (1 : Int32))).2 k) ?_
    show own_Run p e below _ T38 (mkF m 158 #[.val (.int p1), .val (.int p2), .val (.int p3), .val (.int p4), .val (.int (0 : Int32)), .val (.int x1), .val (.int x2), .val (.int x3), .val (.ref b8), .val (.ref b10), .val (.ref b15), .val (.ref b23), .val (.ref b8), .val (.ref b34), .val (.int (1 : Int32))] [])
    refine own_go (fun _ k => XS.iload X38.here hx rfl (hb hby at_158) rfl k) ?_
    refine own_go (fun _ k => XS.aload X38.here hx rfl (hb hby at_160) rfl rfl k) ?_
    show own_Run p e below _ T38 (mkF m 162 #[.val (.int p1), .val (.int p2), .val (.int p3), .val (.int p4), .val (.int (0 : Int32)), .val (.int x1), .val (.int x2), .val (.int x3), .val (.ref b8), .val (.ref b10), .val (.ref b15), .val (.ref b23), .val (.ref b8), .val (.ref b34), .val (.int (1 : Int32))] [(.ref b34), (.int (1 : Int32))])
    obtain ⟨cq39, kq39, q39a, q39b, q39c⟩ := isOf hZ e38 P36_0
    obtain ⟨_, _, ⟨T39, L39, k39, n39⟩, -, X39, ⟨Lc39, hQ39, l39, y39, z39⟩, st39⟩ := X38.virtualBack hx (y := (⟨"com/example/net_reducer/netreducer/model/NodeSet", "size", "()I"⟩ : MethodName)) (z := (⟨"com/example/net_reducer/netreducer/model/NodeSet", "size", "()I"⟩ : MethodName)) hown (mvT hZ (W 18 rfl)) (mvT hZ (W 19 rfl)) (notFace_of_selects (args := #[]) (mvT hZ (W 21 rfl))) (mvT hZ (W 21 rfl)) (mvT hZ (W 20 rfl)) (by decide) (backOf (W := 1) (rm4 l Z a0 hw [] b34 b8 k8 (0 : Int32) [] (.int (0 : Int32)) T36.heap n0 Z0_c37 P36_1 V_b8_c37) hZ (W 22 rfl) (W 4 rfl) (by decide) (by decide)) q39a q39c (g := (mkF m 162 #[.val (.int p1), .val (.int p2), .val (.int p3), .val (.int p4), .val (.int (0 : Int32)), .val (.int x1), .val (.int x2), .val (.int x3), .val (.ref b8), .val (.ref b10), .val (.ref b15), .val (.ref b23), .val (.ref b8), .val (.ref b34), .val (.int (1 : Int32))] [(.ref b34), (.int (1 : Int32))])) rfl (by rw [hml]; rfl) (Steps.refl _) (argsL := []) (rest := [(.int (1 : Int32))]) (lenOf pd_3 rfl) rfl (by show 2 * 0 + _ ≤ _; exact Nat.le_of_eq rfl) (hb hby at_162) (fun _ _ => ⟨rfl, e38, (by decide : 5 + 0 ≤ _), (by decide : 7 + 0 ≤ _)⟩)
    dsimp only [Pt.U, Pt.locs, Pt.cells, Pt.slots] at X39 l39 y39 z39 st39 hQ39
    subst l39 y39 z39
    obtain ⟨rfl, N39q, e39⟩ := hQ39
    have N39 := Fr.app N38 N39q
    refine own_goT st39 ?_
    show own_Run p e below _ T39 (mkF m 165 #[.val (.int p1), .val (.int p2), .val (.int p3), .val (.int p4), .val (.int (0 : Int32)), .val (.int x1), .val (.int x2), .val (.int x3), .val (.ref b8), .val (.ref b10), .val (.ref b15), .val (.ref b23), .val (.ref b8), .val (.ref b34), .val (.int (1 : Int32))] [(.int (0 : Int32)), (.int (1 : Int32))])
    refine own_go (fun _ k => XS.ifNo X39.here hx rfl (hb hby at_165) rfl ((if0 _ _).trans (teq (by decide : (0 : Int32) = (0 : Int32))).2) k) ?_
    show own_Run p e below _ T39 (mkF m 168 #[.val (.int p1), .val (.int p2), .val (.int p3), .val (.int p4), .val (.int (0 : Int32)), .val (.int x1), .val (.int x2), .val (.int x3), .val (.ref b8), .val (.ref b10), .val (.ref b15), .val (.ref b23), .val (.ref b8), .val (.ref b34), .val (.int (1 : Int32))] [(.int (1 : Int32))])
    refine own_go (fun _ k => XS.iconst X39.here hx rfl (hb hby at_168) k) ?_
    refine own_go (fun _ k => XS.goto X39.here hx rfl (pc0 := 169) (pc' := 173) rfl (hb hby at_169) (by decide) (by decide) k) ?_
    show own_Run p e below _ T39 (mkF m 173 #[.val (.int p1), .val (.int p2), .val (.int p3), .val (.int p4), .val (.int (0 : Int32)), .val (.int x1), .val (.int x2), .val (.int x3), .val (.ref b8), .val (.ref b10), .val (.ref b15), .val (.ref b23), .val (.ref b8), .val (.ref b34), .val (.int (1 : Int32))] [(.int (1 : Int32)), (.int (1 : Int32))])
    refine own_go (fun _ k => XS.icmpNo X39.here hx rfl (hb hby at_173) rfl (teq (by decide : (1 : Int32) = (1 : Int32))).2 k) ?_
    show own_Run p e below _ T39 (mkF m 176 #[.val (.int p1), .val (.int p2), .val (.int p3), .val (.int p4), .val (.int (0 : Int32)), .val (.int x1), .val (.int x2), .val (.int x3), .val (.ref b8), .val (.ref b10), .val (.ref b15), .val (.ref b23), .val (.ref b8), .val (.ref b34), .val (.int (1 : Int32))] [])
    refine own_go (fun _ k => XS.iconst X39.here hx rfl (hb hby at_176) k) ?_
    refine own_go (fun _ k => XS.goto X39.here hx rfl (pc0 := 177) (pc' := 181) rfl (hb hby at_177) (by decide) (by decide) k) ?_
    show own_Run p e below _ T39 (mkF m 181 #[.val (.int p1), .val (.int p2), .val (.int p3), .val (.int p4), .val (.int (0 : Int32)), .val (.int x1), .val (.int x2), .val (.int x3), .val (.ref b8), .val (.ref b10), .val (.ref b15), .val (.ref b23), .val (.ref b8), .val (.ref b34), .val (.int (1 : Int32))] [(.int (1 : Int32))])
    refine own_done (Q := fun v h L => Q0 Z p1 p2 p3 p4 h0 n0 v h L) (v := (some (.int (1 : Int32)))) X39 (fun h => by rw [hret] at h; cases h) hlk (fun fs hr => retN X39 hx (t := .boolean) hret (by simp) (hb hby at_181) hr) ?_ (by decide) (by decide)
    show Q0 Z p1 p2 p3 p4 h0 n0 _ T39.heap _
    rw [e39]
    exact ⟨rfl, N39⟩
  · show own_Run p e below _ T32 (mkF m 89 #[.val (.int p1), .val (.int p2), .val (.int p3), .val (.int p4), .val (.int (1 : Int32)), .val (.int x1), .val (.int x2), .val (.int x3), .val (.ref b8), .val (.ref b10), .val (.ref b15), .val (.ref b23), .val (.ref b8), .unset, .unset] [])
    refine own_go (fun _ k => XS.iload X32.here hx rfl (hb hby at_89) rfl k) ?_
    refine own_go (fun _ k => XS.iconst X32.here hx rfl (hb hby at_91) k) ?_
    show own_Run p e below _ T32 (mkF m 92 #[.val (.int p1), .val (.int p2), .val (.int p3), .val (.int p4), .val (.int (1 : Int32)), .val (.int x1), .val (.int x2), .val (.int x3), .val (.ref b8), .val (.ref b10), .val (.ref b15), .val (.ref b23), .val (.ref b8), .unset, .unset] [(.int (1 : Int32)), (.int (1 : Int32))])
    refine own_go (fun _ k => XS.icmpNo X32.here hx rfl (hb hby at_92) rfl (teq (by decide : (1 : Int32) = (1 : Int32))).2 k) ?_
    show own_Run p e below _ T32 (mkF m 95 #[.val (.int p1), .val (.int p2), .val (.int p3), .val (.int p4), .val (.int (1 : Int32)), .val (.int x1), .val (.int x2), .val (.int x3), .val (.ref b8), .val (.ref b10), .val (.ref b15), .val (.ref b23), .val (.ref b8), .unset, .unset] [])
    refine own_go (fun _ k => XS.aload X32.here hx rfl (hb hby at_95) rfl rfl k) ?_
    refine own_go (fun _ k => XS.astore X32.here hx rfl (hb hby at_97) rfl rfl (l' := #[.val (.int p1), .val (.int p2), .val (.int p3), .val (.int p4), .val (.int (1 : Int32)), .val (.int x1), .val (.int x2), .val (.int x3), .val (.ref b8), .val (.ref b10), .val (.ref b15), .val (.ref b23), .val (.ref b10), .unset, .unset]) rfl k) ?_
    refine own_go (fun _ k => XS.goto X32.here hx rfl (pc0 := 99) (pc' := 125) rfl (hb hby at_99) (by decide) (by decide) k) ?_
    show own_Run p e below _ T32 (mkF m 125 #[.val (.int p1), .val (.int p2), .val (.int p3), .val (.int p4), .val (.int (1 : Int32)), .val (.int x1), .val (.int x2), .val (.int x3), .val (.ref b8), .val (.ref b10), .val (.ref b15), .val (.ref b23), .val (.ref b10), .unset, .unset] [])
    obtain ⟨T40, h40, X40, e40, E40, A40, D40, -, st40⟩ := newO X32 hx hZ hown (W 2 rfl) (W 3 rfl) (W 4 rfl) e32 (g := (mkF m 125 #[.val (.int p1), .val (.int p2), .val (.int p3), .val (.int p4), .val (.int (1 : Int32)), .val (.int x1), .val (.int x2), .val (.int x3), .val (.ref b8), .val (.ref b10), .val (.ref b15), .val (.ref b23), .val (.ref b10), .unset, .unset] [])) rfl (hb hby at_125) (by decide) (by decide)
    refine own_go st40 ?_
    obtain ⟨b40, g40⟩ : ∃ z, z = h32.size := ⟨_, rfl⟩
    rw [← g40] at A40 D40
    rw [← g40]
    show own_Run p e below _ T40 (mkF m 128 #[.val (.int p1), .val (.int p2), .val (.int p3), .val (.int p4), .val (.int (1 : Int32)), .val (.int x1), .val (.int x2), .val (.int x3), .val (.ref b8), .val (.ref b10), .val (.ref b15), .val (.ref b23), .val (.ref b10), .unset, .unset] [(.ref b40)])
    have ne_b8_b40 : b8 ≠ b40 := Nat.ne_of_lt (Nat.lt_of_lt_of_eq V_b8_c33.lt g40.symm)
    have ne_b10_b40 : b10 ≠ b40 := Nat.ne_of_lt (Nat.lt_of_lt_of_eq V_b10_c33.lt g40.symm)
    have ne_b15_b40 : b15 ≠ b40 := Nat.ne_of_lt (Nat.lt_of_lt_of_eq V_b15_c33.lt g40.symm)
    have ne_b23_b40 : b23 ≠ b40 := Nat.ne_of_lt (Nat.lt_of_lt_of_eq V_b23_c32.lt g40.symm)
    have g_b40 : n0 ≤ b40 := Nat.le_trans Z0_c33 (Nat.le_of_eq g40.symm)
    have sz_b40 : h0.size ≤ b40 := Nat.le_trans K0_c33.1 (Nat.le_of_eq g40.symm)
    have Z0_c41 := Nat.le_trans Z0_c33 E40.1
    have K0_c41 := K0_c33.ext E40
    have V_b8_c41 := V_b8_c33.ext E40
    have V_b10_c41 := V_b10_c33.ext E40
    have V_b15_c41 := V_b15_c33.ext E40
    have V_b23_c41 := V_b23_c32.ext E40
    have F_numbers_b40 : Fld Z h40 b40 "com/example/net_reducer/netreducer/model/NodeSet" "numbers" "[I" .null := D40 (Or.inr (W 12 rfl)) (ty := (.array .int)) (by decide)
    refine own_go (fun _ k => XS.dup X40.here hx rfl (hb hby at_128) rfl rfl k) ?_
    refine own_go (fun _ k => XS.aload X40.here hx rfl (hb hby at_129) rfl rfl k) ?_
    show own_Run p e below _ T40 (mkF m 131 #[.val (.int p1), .val (.int p2), .val (.int p3), .val (.int p4), .val (.int (1 : Int32)), .val (.int x1), .val (.int x2), .val (.int x3), .val (.ref b8), .val (.ref b10), .val (.ref b15), .val (.ref b23), .val (.ref b10), .unset, .unset] [(.ref b10), (.ref b40), (.ref b40)])
    obtain ⟨_, _, ⟨T42, L42, k42, n42⟩, -, X42, ⟨Lc42, hQ42, l42, y42, z42⟩, st42⟩ := X40.specialBack hx (y := (⟨"com/example/net_reducer/netreducer/model/NodeSet", "<init>", "([I)V"⟩ : MethodName)) rfl hown (mvT hZ (W 5 rfl)) (mvT hZ (W 6 rfl)) (mvT hZ (W 7 rfl)) (by decide) (backOf (W := 1) (rm1 l Z a0 hw [] b40 b10 .null h40 n0 Z0_c41 A40 F_numbers_b40 g_b40) hZ (W 7 rfl) (W 4 rfl) (by decide) (by decide)) (g := (mkF m 131 #[.val (.int p1), .val (.int p2), .val (.int p3), .val (.int p4), .val (.int (1 : Int32)), .val (.int x1), .val (.int x2), .val (.int x3), .val (.ref b8), .val (.ref b10), .val (.ref b15), .val (.ref b23), .val (.ref b10), .unset, .unset] [(.ref b10), (.ref b40), (.ref b40)])) rfl (by rw [hml]; rfl) (Steps.refl _) (a := b40) (argsL := [(.ref b10)]) (rest := [(.ref b40)]) (lenOf pd_1 rfl) rfl (by show 2 * 0 + _ ≤ _; exact Nat.le_of_eq rfl) (hb hby at_131) (fun _ _ => ⟨rfl, e40, (by decide : 5 + 0 ≤ _), (by decide : 7 + 0 ≤ _)⟩)
    dsimp only [Pt.U, Pt.locs, Pt.cells, Pt.slots] at X42 l42 y42 z42 st42 hQ42
    subst l42 y42 z42
    obtain ⟨rfl, N42q, K42, P42_0, P42_1⟩ := hQ42
    have N42 := Fr.app N32 N42q
    refine own_goT st42 ?_
    show own_Run p e below _ T42 (mkF m 134 #[.val (.int p1), .val (.int p2), .val (.int p3), .val (.int p4), .val (.int (1 : Int32)), .val (.int x1), .val (.int x2), .val (.int x3), .val (.ref b8), .val (.ref b10), .val (.ref b15), .val (.ref b23), .val (.ref b10), .unset, .unset] [(.ref b40)])
    have Z0_c43 := Nat.le_trans Z0_c41 K42.1
    have K0_c43 := K0_c41.trans K42 (allS (Or.inr sz_b40) all0)
    have V_b8_c43 := V_b8_c41.keep K42 (ninS ne_b8_b40 nin0)
    have V_b10_c43 := V_b10_c41.keep K42 (ninS ne_b10_b40 nin0)
    have V_b15_c43 := V_b15_c41.keep K42 (ninS ne_b15_b40 nin0)
    have V_b23_c43 := V_b23_c41.keep K42 (ninS ne_b23_b40 nin0)
    have A40_c43 := A40.keep K42
    refine own_go (fun _ k => XS.astore X42.here hx rfl (hb hby at_134) rfl rfl (l' := #[.val (.int p1), .val (.int p2), .val (.int p3), .val (.int p4), .val (.int (1 : Int32)), .val (.int x1), .val (.int x2), .val (.int x3), .val (.ref b8), .val (.ref b10), .val (.ref b15), .val (.ref b23), .val (.ref b10), .val (.ref b40), .unset]) rfl k) ?_
    refine own_go (fun _ k => XS.aload X42.here hx rfl (hb hby at_136) rfl rfl k) ?_
    show own_Run p e below _ T42 (mkF m 138 #[.val (.int p1), .val (.int p2), .val (.int p3), .val (.int p4), .val (.int (1 : Int32)), .val (.int x1), .val (.int x2), .val (.int x3), .val (.ref b8), .val (.ref b10), .val (.ref b15), .val (.ref b23), .val (.ref b10), .val (.ref b40), .unset] [(.ref b40)])
    obtain ⟨cq44, kq44, q44a, q44b, q44c⟩ := isOf hZ rfl P42_0
    obtain ⟨_, _, ⟨T44, L44, k44, n44⟩, -, X44, ⟨Lc44, hQ44, l44, y44, z44⟩, st44⟩ := X42.virtualBack hx (y := (⟨"com/example/net_reducer/netreducer/model/NodeSet", "isEmpty", "()Z"⟩ : MethodName)) (z := (⟨"com/example/net_reducer/netreducer/model/NodeSet", "isEmpty", "()Z"⟩ : MethodName)) hown (mvT hZ (W 13 rfl)) (mvT hZ (W 14 rfl)) (notFace_of_selects (args := #[]) (mvT hZ (W 16 rfl))) (mvT hZ (W 16 rfl)) (mvT hZ (W 15 rfl)) (by decide) (backOf (W := 0) (rm3 l Z a0 hw [] b40 b10 k10 (1 : Int32) [(.int x1)] (.int (0 : Int32)) (0 : Int32) T42.heap n0 Z0_c43 P42_1 V_b10_c43 (Or.inr ⟨by decide, rfl⟩)) hZ (W 17 rfl) (W 4 rfl) (by decide) (by decide)) q44a q44c (g := (mkF m 138 #[.val (.int p1), .val (.int p2), .val (.int p3), .val (.int p4), .val (.int (1 : Int32)), .val (.int x1), .val (.int x2), .val (.int x3), .val (.ref b8), .val (.ref b10), .val (.ref b15), .val (.ref b23), .val (.ref b10), .val (.ref b40), .unset] [(.ref b40)])) rfl (by rw [hml]; rfl) (Steps.refl _) (argsL := []) (rest := []) (lenOf pd_2 rfl) rfl (by show 2 * 0 + _ ≤ _; exact Nat.le_of_eq rfl) (hb hby at_138) (fun _ _ => ⟨rfl, rfl, (by decide : 5 + 0 ≤ _), (by decide : 7 + 0 ≤ _)⟩)
    dsimp only [Pt.U, Pt.locs, Pt.cells, Pt.slots] at X44 l44 y44 z44 st44 hQ44
    subst l44 y44 z44
    obtain ⟨rfl, N44q, e44⟩ := hQ44
    have N44 := Fr.app N42 N44q
    refine own_goT st44 ?_
    show own_Run p e below _ T44 (mkF m 141 #[.val (.int p1), .val (.int p2), .val (.int p3), .val (.int p4), .val (.int (1 : Int32)), .val (.int x1), .val (.int x2), .val (.int x3), .val (.ref b8), .val (.ref b10), .val (.ref b15), .val (.ref b23), .val (.ref b10), .val (.ref b40), .unset] [(.int (0 : Int32))])
    refine own_go (fun _ k => XS.istore X44.here hx rfl (hb hby at_141) rfl (l' := #[.val (.int p1), .val (.int p2), .val (.int p3), .val (.int p4), .val (.int (1 : Int32)), .val (.int x1), .val (.int x2), .val (.int x3), .val (.ref b8), .val (.ref b10), .val (.ref b15), .val (.ref b23), .val (.ref b10), .val (.ref b40), .val (.int (0 : Int32))]) rfl k) ?_
    refine own_go (fun _ k => XS.iload X44.here hx rfl (hb hby at_143) rfl k) ?_
    refine own_go (fun _ k => XS.iload X44.here hx rfl (hb hby at_145) rfl k) ?_
    show own_Run p e below _ T44 (mkF m 147 #[.val (.int p1), .val (.int p2), .val (.int p3), .val (.int p4), .val (.int (1 : Int32)), .val (.int x1), .val (.int x2), .val (.int x3), .val (.ref b8), .val (.ref b10), .val (.ref b15), .val (.ref b23), .val (.ref b10), .val (.ref b40), .val (.int (0 : Int32))] [(.int (1 : Int32)), (.int (0 : Int32))])
    refine own_go (fun _ k => XS.ifYes X44.here hx rfl (pc0 := 147) (pc' := 154) rfl (hb hby at_147) rfl ((if0 _ _).trans (feq (by decide : ¬ ((1 : Int32) = (0 : Int32)))).2) (by decide) (by decide) k) ?_
    show own_Run p e below _ T44 (mkF m 154 #[.val (.int p1), .val (.int p2), .val (.int p3), .val (.int p4), .val (.int (1 : Int32)), .val (.int x1), .val (.int x2), .val (.int x3), .val (.ref b8), .val (.ref b10), .val (.ref b15), .val (.ref b23), .val (.ref b10), .val (.ref b40), .val (.int (0 : Int32))] [(.int (0 : Int32))])
    refine own_go (fun _ k => XS.iconst X44.here hx rfl (hb hby at_154) k) ?_
    show own_Run p e below _ T44 (mkF m 155 #[.val (.int p1), .val (.int p2), .val (.int p3), .val (.int p4), .val (.int (1 : Int32)), .val (.int x1), .val (.int x2), .val (.int x3), .val (.ref b8), .val (.ref b10), .val (.ref b15), .val (.ref b23), .val (.ref b10), .val (.ref b40), .val (.int (0 : Int32))] [(.int (0 : Int32)), (.int (0 : Int32))])
    refine own_go (fun _ k => XS.icmpNo X44.here hx rfl (hb hby at_155) rfl (teq (by decide : (0 : Int32) = (0 : Int32))).2 k) ?_
    show own_Run p e below _ T44 (mkF m 158 #[.val (.int p1), .val (.int p2), .val (.int p3), .val (.int p4), .val (.int (1 : Int32)), .val (.int x1), .val (.int x2), .val (.int x3), .val (.ref b8), .val (.ref b10), .val (.ref b15), .val (.ref b23), .val (.ref b10), .val (.ref b40), .val (.int (0 : Int32))] [])
    refine own_go (fun _ k => XS.iload X44.here hx rfl (hb hby at_158) rfl k) ?_
    refine own_go (fun _ k => XS.aload X44.here hx rfl (hb hby at_160) rfl rfl k) ?_
    show own_Run p e below _ T44 (mkF m 162 #[.val (.int p1), .val (.int p2), .val (.int p3), .val (.int p4), .val (.int (1 : Int32)), .val (.int x1), .val (.int x2), .val (.int x3), .val (.ref b8), .val (.ref b10), .val (.ref b15), .val (.ref b23), .val (.ref b10), .val (.ref b40), .val (.int (0 : Int32))] [(.ref b40), (.int (0 : Int32))])
    obtain ⟨cq45, kq45, q45a, q45b, q45c⟩ := isOf hZ e44 P42_0
    obtain ⟨_, _, ⟨T45, L45, k45, n45⟩, -, X45, ⟨Lc45, hQ45, l45, y45, z45⟩, st45⟩ := X44.virtualBack hx (y := (⟨"com/example/net_reducer/netreducer/model/NodeSet", "size", "()I"⟩ : MethodName)) (z := (⟨"com/example/net_reducer/netreducer/model/NodeSet", "size", "()I"⟩ : MethodName)) hown (mvT hZ (W 18 rfl)) (mvT hZ (W 19 rfl)) (notFace_of_selects (args := #[]) (mvT hZ (W 21 rfl))) (mvT hZ (W 21 rfl)) (mvT hZ (W 20 rfl)) (by decide) (backOf (W := 1) (rm4 l Z a0 hw [] b40 b10 k10 (1 : Int32) [(.int x1)] (.int (0 : Int32)) T42.heap n0 Z0_c43 P42_1 V_b10_c43) hZ (W 22 rfl) (W 4 rfl) (by decide) (by decide)) q45a q45c (g := (mkF m 162 #[.val (.int p1), .val (.int p2), .val (.int p3), .val (.int p4), .val (.int (1 : Int32)), .val (.int x1), .val (.int x2), .val (.int x3), .val (.ref b8), .val (.ref b10), .val (.ref b15), .val (.ref b23), .val (.ref b10), .val (.ref b40), .val (.int (0 : Int32))] [(.ref b40), (.int (0 : Int32))])) rfl (by rw [hml]; rfl) (Steps.refl _) (argsL := []) (rest := [(.int (0 : Int32))]) (lenOf pd_3 rfl) rfl (by show 2 * 0 + _ ≤ _; exact Nat.le_of_eq rfl) (hb hby at_162) (fun _ _ => ⟨rfl, e44, (by decide : 5 + 0 ≤ _), (by decide : 7 + 0 ≤ _)⟩)
    dsimp only [Pt.U, Pt.locs, Pt.cells, Pt.slots] at X45 l45 y45 z45 st45 hQ45
    subst l45 y45 z45
    obtain ⟨rfl, N45q, e45⟩ := hQ45
    have N45 := Fr.app N44 N45q
    refine own_goT st45 ?_
    show own_Run p e below _ T45 (mkF m 165 #[.val (.int p1), .val (.int p2), .val (.int p3), .val (.int p4), .val (.int (1 : Int32)), .val (.int x1), .val (.int x2), .val (.int x3), .val (.ref b8), .val (.ref b10), .val (.ref b15), .val (.ref b23), .val (.ref b10), .val (.ref b40), .val (.int (0 : Int32))] [(.int (1 : Int32)), (.int (0 : Int32))])
    refine own_go (fun _ k => XS.ifYes X45.here hx rfl (pc0 := 165) (pc' := 172) rfl (hb hby at_165) rfl ((if0 _ _).trans (feq (by decide : ¬ ((1 : Int32) = (0 : Int32)))).2) (by decide) (by decide) k) ?_
    show own_Run p e below _ T45 (mkF m 172 #[.val (.int p1), .val (.int p2), .val (.int p3), .val (.int p4), .val (.int (1 : Int32)), .val (.int x1), .val (.int x2), .val (.int x3), .val (.ref b8), .val (.ref b10), .val (.ref b15), .val (.ref b23), .val (.ref b10), .val (.ref b40), .val (.int (0 : Int32))] [(.int (0 : Int32))])
    refine own_go (fun _ k => XS.iconst X45.here hx rfl (hb hby at_172) k) ?_
    show own_Run p e below _ T45 (mkF m 173 #[.val (.int p1), .val (.int p2), .val (.int p3), .val (.int p4), .val (.int (1 : Int32)), .val (.int x1), .val (.int x2), .val (.int x3), .val (.ref b8), .val (.ref b10), .val (.ref b15), .val (.ref b23), .val (.ref b10), .val (.ref b40), .val (.int (0 : Int32))] [(.int (0 : Int32)), (.int (0 : Int32))])
    refine own_go (fun _ k => XS.icmpNo X45.here hx rfl (hb hby at_173) rfl (teq (by decide : (0 : Int32) = (0 : Int32))).2 k) ?_
    show own_Run p e below _ T45 (mkF m 176 #[.val (.int p1), .val (.int p2), .val (.int p3), .val (.int p4), .val (.int (1 : Int32)), .val (.int x1), .val (.int x2), .val (.int x3), .val (.ref b8), .val (.ref b10), .val (.ref b15), .val (.ref b23), .val (.ref b10), .val (.ref b40), .val (.int (0 : Int32))] [])
    refine own_go (fun _ k => XS.iconst X45.here hx rfl (hb hby at_176) k) ?_
    refine own_go (fun _ k => XS.goto X45.here hx rfl (pc0 := 177) (pc' := 181) rfl (hb hby at_177) (by decide) (by decide) k) ?_
    show own_Run p e below _ T45 (mkF m 181 #[.val (.int p1), .val (.int p2), .val (.int p3), .val (.int p4), .val (.int (1 : Int32)), .val (.int x1), .val (.int x2), .val (.int x3), .val (.ref b8), .val (.ref b10), .val (.ref b15), .val (.ref b23), .val (.ref b10), .val (.ref b40), .val (.int (0 : Int32))] [(.int (1 : Int32))])
    refine own_done (Q := fun v h L => Q0 Z p1 p2 p3 p4 h0 n0 v h L) (v := (some (.int (1 : Int32)))) X45 (fun h => by rw [hret] at h; cases h) hlk (fun fs hr => retN X45 hx (t := .boolean) hret (by simp) (hb hby at_181) hr) ?_ (by decide) (by decide)
    show Q0 Z p1 p2 p3 p4 h0 n0 _ T45.heap _
    rw [e45]
    exact ⟨rfl, N45⟩
  · show own_Run p e below _ T32 (mkF m 89 #[.val (.int p1), .val (.int p2), .val (.int p3), .val (.int p4), .val (.int (2 : Int32)), .val (.int x1), .val (.int x2), .val (.int x3), .val (.ref b8), .val (.ref b10), .val (.ref b15), .val (.ref b23), .val (.ref b8), .unset, .unset] [])
    refine own_go (fun _ k => XS.iload X32.here hx rfl (hb hby at_89) rfl k) ?_
    refine own_go (fun _ k => XS.iconst X32.here hx rfl (hb hby at_91) k) ?_
    show own_Run p e below _ T32 (mkF m 92 #[.val (.int p1), .val (.int p2), .val (.int p3), .val (.int p4), .val (.int (2 : Int32)), .val (.int x1), .val (.int x2), .val (.int x3), .val (.ref b8), .val (.ref b10), .val (.ref b15), .val (.ref b23), .val (.ref b8), .unset, .unset] [(.int (1 : Int32)), (.int (2 : Int32))])
    refine own_go (fun _ k => XS.icmpYes X32.here hx rfl (pc0 := 92) (pc' := 102) rfl (hb hby at_92) rfl (feq (by decide : ¬ ((2 : Int32) = (1 : Int32)))).2 (by decide) (by decide) k) ?_
    show own_Run p e below _ T32 (mkF m 102 #[.val (.int p1), .val (.int p2), .val (.int p3), .val (.int p4), .val (.int (2 : Int32)), .val (.int x1), .val (.int x2), .val (.int x3), .val (.ref b8), .val (.ref b10), .val (.ref b15), .val (.ref b23), .val (.ref b8), .unset, .unset] [])
    refine own_go (fun _ k => XS.iload X32.here hx rfl (hb hby at_102) rfl k) ?_
    refine own_go (fun _ k => XS.iconst X32.here hx rfl (hb hby at_104) k) ?_
    show own_Run p e below _ T32 (mkF m 105 #[.val (.int p1), .val (.int p2), .val (.int p3), .val (.int p4), .val (.int (2 : Int32)), .val (.int x1), .val (.int x2), .val (.int x3), .val (.ref b8), .val (.ref b10), .val (.ref b15), .val (.ref b23), .val (.ref b8), .unset, .unset] [(.int (2 : Int32)), (.int (2 : Int32))])
    refine own_go (fun _ k => XS.icmpNo X32.here hx rfl (hb hby at_105) rfl (teq (by decide : (2 : Int32) = (2 : Int32))).2 k) ?_
    show own_Run p e below _ T32 (mkF m 108 #[.val (.int p1), .val (.int p2), .val (.int p3), .val (.int p4), .val (.int (2 : Int32)), .val (.int x1), .val (.int x2), .val (.int x3), .val (.ref b8), .val (.ref b10), .val (.ref b15), .val (.ref b23), .val (.ref b8), .unset, .unset] [])
    refine own_go (fun _ k => XS.aload X32.here hx rfl (hb hby at_108) rfl rfl k) ?_
    refine own_go (fun _ k => XS.astore X32.here hx rfl (hb hby at_110) rfl rfl (l' := #[.val (.int p1), .val (.int p2), .val (.int p3), .val (.int p4), .val (.int (2 : Int32)), .val (.int x1), .val (.int x2), .val (.int x3), .val (.ref b8), .val (.ref b10), .val (.ref b15), .val (.ref b23), .val (.ref b15), .unset, .unset]) rfl k) ?_
    refine own_go (fun _ k => XS.goto X32.here hx rfl (pc0 := 112) (pc' := 125) rfl (hb hby at_112) (by decide) (by decide) k) ?_
    show own_Run p e below _ T32 (mkF m 125 #[.val (.int p1), .val (.int p2), .val (.int p3), .val (.int p4), .val (.int (2 : Int32)), .val (.int x1), .val (.int x2), .val (.int x3), .val (.ref b8), .val (.ref b10), .val (.ref b15), .val (.ref b23), .val (.ref b15), .unset, .unset] [])
    obtain ⟨T46, h46, X46, e46, E46, A46, D46, -, st46⟩ := newO X32 hx hZ hown (W 2 rfl) (W 3 rfl) (W 4 rfl) e32 (g := (mkF m 125 #[.val (.int p1), .val (.int p2), .val (.int p3), .val (.int p4), .val (.int (2 : Int32)), .val (.int x1), .val (.int x2), .val (.int x3), .val (.ref b8), .val (.ref b10), .val (.ref b15), .val (.ref b23), .val (.ref b15), .unset, .unset] [])) rfl (hb hby at_125) (by decide) (by decide)
    refine own_go st46 ?_
    obtain ⟨b46, g46⟩ : ∃ z, z = h32.size := ⟨_, rfl⟩
    rw [← g46] at A46 D46
    rw [← g46]
    show own_Run p e below _ T46 (mkF m 128 #[.val (.int p1), .val (.int p2), .val (.int p3), .val (.int p4), .val (.int (2 : Int32)), .val (.int x1), .val (.int x2), .val (.int x3), .val (.ref b8), .val (.ref b10), .val (.ref b15), .val (.ref b23), .val (.ref b15), .unset, .unset] [(.ref b46)])
    have ne_b8_b46 : b8 ≠ b46 := Nat.ne_of_lt (Nat.lt_of_lt_of_eq V_b8_c33.lt g46.symm)
    have ne_b10_b46 : b10 ≠ b46 := Nat.ne_of_lt (Nat.lt_of_lt_of_eq V_b10_c33.lt g46.symm)
    have ne_b15_b46 : b15 ≠ b46 := Nat.ne_of_lt (Nat.lt_of_lt_of_eq V_b15_c33.lt g46.symm)
    have ne_b23_b46 : b23 ≠ b46 := Nat.ne_of_lt (Nat.lt_of_lt_of_eq V_b23_c32.lt g46.symm)
    have g_b46 : n0 ≤ b46 := Nat.le_trans Z0_c33 (Nat.le_of_eq g46.symm)
    have sz_b46 : h0.size ≤ b46 := Nat.le_trans K0_c33.1 (Nat.le_of_eq g46.symm)
    have Z0_c47 := Nat.le_trans Z0_c33 E46.1
    have K0_c47 := K0_c33.ext E46
    have V_b8_c47 := V_b8_c33.ext E46
    have V_b10_c47 := V_b10_c33.ext E46
    have V_b15_c47 := V_b15_c33.ext E46
    have V_b23_c47 := V_b23_c32.ext E46
    have F_numbers_b46 : Fld Z h46 b46 "com/example/net_reducer/netreducer/model/NodeSet" "numbers" "[I" .null := D46 (Or.inr (W 12 rfl)) (ty := (.array .int)) (by decide)
    refine own_go (fun _ k => XS.dup X46.here hx rfl (hb hby at_128) rfl rfl k) ?_
    refine own_go (fun _ k => XS.aload X46.here hx rfl (hb hby at_129) rfl rfl k) ?_
    show own_Run p e below _ T46 (mkF m 131 #[.val (.int p1), .val (.int p2), .val (.int p3), .val (.int p4), .val (.int (2 : Int32)), .val (.int x1), .val (.int x2), .val (.int x3), .val (.ref b8), .val (.ref b10), .val (.ref b15), .val (.ref b23), .val (.ref b15), .unset, .unset] [(.ref b15), (.ref b46), (.ref b46)])
    obtain ⟨_, _, ⟨T48, L48, k48, n48⟩, -, X48, ⟨Lc48, hQ48, l48, y48, z48⟩, st48⟩ := X46.specialBack hx (y := (⟨"com/example/net_reducer/netreducer/model/NodeSet", "<init>", "([I)V"⟩ : MethodName)) rfl hown (mvT hZ (W 5 rfl)) (mvT hZ (W 6 rfl)) (mvT hZ (W 7 rfl)) (by decide) (backOf (W := 1) (rm1 l Z a0 hw [] b46 b15 .null h46 n0 Z0_c47 A46 F_numbers_b46 g_b46) hZ (W 7 rfl) (W 4 rfl) (by decide) (by decide)) (g := (mkF m 131 #[.val (.int p1), .val (.int p2), .val (.int p3), .val (.int p4), .val (.int (2 : Int32)), .val (.int x1), .val (.int x2), .val (.int x3), .val (.ref b8), .val (.ref b10), .val (.ref b15), .val (.ref b23), .val (.ref b15), .unset, .unset] [(.ref b15), (.ref b46), (.ref b46)])) rfl (by rw [hml]; rfl) (Steps.refl _) (a := b46) (argsL := [(.ref b15)]) (rest := [(.ref b46)]) (lenOf pd_1 rfl) rfl (by show 2 * 0 + _ ≤ _; exact Nat.le_of_eq rfl) (hb hby at_131) (fun _ _ => ⟨rfl, e46, (by decide : 5 + 0 ≤ _), (by decide : 7 + 0 ≤ _)⟩)
    dsimp only [Pt.U, Pt.locs, Pt.cells, Pt.slots] at X48 l48 y48 z48 st48 hQ48
    subst l48 y48 z48
    obtain ⟨rfl, N48q, K48, P48_0, P48_1⟩ := hQ48
    have N48 := Fr.app N32 N48q
    refine own_goT st48 ?_
    show own_Run p e below _ T48 (mkF m 134 #[.val (.int p1), .val (.int p2), .val (.int p3), .val (.int p4), .val (.int (2 : Int32)), .val (.int x1), .val (.int x2), .val (.int x3), .val (.ref b8), .val (.ref b10), .val (.ref b15), .val (.ref b23), .val (.ref b15), .unset, .unset] [(.ref b46)])
    have Z0_c49 := Nat.le_trans Z0_c47 K48.1
    have K0_c49 := K0_c47.trans K48 (allS (Or.inr sz_b46) all0)
    have V_b8_c49 := V_b8_c47.keep K48 (ninS ne_b8_b46 nin0)
    have V_b10_c49 := V_b10_c47.keep K48 (ninS ne_b10_b46 nin0)
    have V_b15_c49 := V_b15_c47.keep K48 (ninS ne_b15_b46 nin0)
    have V_b23_c49 := V_b23_c47.keep K48 (ninS ne_b23_b46 nin0)
    have A46_c49 := A46.keep K48
    refine own_go (fun _ k => XS.astore X48.here hx rfl (hb hby at_134) rfl rfl (l' := #[.val (.int p1), .val (.int p2), .val (.int p3), .val (.int p4), .val (.int (2 : Int32)), .val (.int x1), .val (.int x2), .val (.int x3), .val (.ref b8), .val (.ref b10), .val (.ref b15), .val (.ref b23), .val (.ref b15), .val (.ref b46), .unset]) rfl k) ?_
    refine own_go (fun _ k => XS.aload X48.here hx rfl (hb hby at_136) rfl rfl k) ?_
    show own_Run p e below _ T48 (mkF m 138 #[.val (.int p1), .val (.int p2), .val (.int p3), .val (.int p4), .val (.int (2 : Int32)), .val (.int x1), .val (.int x2), .val (.int x3), .val (.ref b8), .val (.ref b10), .val (.ref b15), .val (.ref b23), .val (.ref b15), .val (.ref b46), .unset] [(.ref b46)])
    obtain ⟨cq50, kq50, q50a, q50b, q50c⟩ := isOf hZ rfl P48_0
    obtain ⟨_, _, ⟨T50, L50, k50, n50⟩, -, X50, ⟨Lc50, hQ50, l50, y50, z50⟩, st50⟩ := X48.virtualBack hx (y := (⟨"com/example/net_reducer/netreducer/model/NodeSet", "isEmpty", "()Z"⟩ : MethodName)) (z := (⟨"com/example/net_reducer/netreducer/model/NodeSet", "isEmpty", "()Z"⟩ : MethodName)) hown (mvT hZ (W 13 rfl)) (mvT hZ (W 14 rfl)) (notFace_of_selects (args := #[]) (mvT hZ (W 16 rfl))) (mvT hZ (W 16 rfl)) (mvT hZ (W 15 rfl)) (by decide) (backOf (W := 0) (rm3 l Z a0 hw [] b46 b15 k15 (2 : Int32) [(.int x1), (.int x2)] (.int (0 : Int32)) (0 : Int32) T48.heap n0 Z0_c49 P48_1 V_b15_c49 (Or.inr ⟨by decide, rfl⟩)) hZ (W 17 rfl) (W 4 rfl) (by decide) (by decide)) q50a q50c (g := (mkF m 138 #[.val (.int p1), .val (.int p2), .val (.int p3), .val (.int p4), .val (.int (2 : Int32)), .val (.int x1), .val (.int x2), .val (.int x3), .val (.ref b8), .val (.ref b10), .val (.ref b15), .val (.ref b23), .val (.ref b15), .val (.ref b46), .unset] [(.ref b46)])) rfl (by rw [hml]; rfl) (Steps.refl _) (argsL := []) (rest := []) (lenOf pd_2 rfl) rfl (by show 2 * 0 + _ ≤ _; exact Nat.le_of_eq rfl) (hb hby at_138) (fun _ _ => ⟨rfl, rfl, (by decide : 5 + 0 ≤ _), (by decide : 7 + 0 ≤ _)⟩)
    dsimp only [Pt.U, Pt.locs, Pt.cells, Pt.slots] at X50 l50 y50 z50 st50 hQ50
    subst l50 y50 z50
    obtain ⟨rfl, N50q, e50⟩ := hQ50
    have N50 := Fr.app N48 N50q
    refine own_goT st50 ?_
    show own_Run p e below _ T50 (mkF m 141 #[.val (.int p1), .val (.int p2), .val (.int p3), .val (.int p4), .val (.int (2 : Int32)), .val (.int x1), .val (.int x2), .val (.int x3), .val (.ref b8), .val (.ref b10), .val (.ref b15), .val (.ref b23), .val (.ref b15), .val (.ref b46), .unset] [(.int (0 : Int32))])
    refine own_go (fun _ k => XS.istore X50.here hx rfl (hb hby at_141) rfl (l' := #[.val (.int p1), .val (.int p2), .val (.int p3), .val (.int p4), .val (.int (2 : Int32)), .val (.int x1), .val (.int x2), .val (.int x3), .val (.ref b8), .val (.ref b10), .val (.ref b15), .val (.ref b23), .val (.ref b15), .val (.ref b46), .val (.int (0 : Int32))]) rfl k) ?_
    refine own_go (fun _ k => XS.iload X50.here hx rfl (hb hby at_143) rfl k) ?_
    refine own_go (fun _ k => XS.iload X50.here hx rfl (hb hby at_145) rfl k) ?_
    show own_Run p e below _ T50 (mkF m 147 #[.val (.int p1), .val (.int p2), .val (.int p3), .val (.int p4), .val (.int (2 : Int32)), .val (.int x1), .val (.int x2), .val (.int x3), .val (.ref b8), .val (.ref b10), .val (.ref b15), .val (.ref b23), .val (.ref b15), .val (.ref b46), .val (.int (0 : Int32))] [(.int (2 : Int32)), (.int (0 : Int32))])
    refine own_go (fun _ k => XS.ifYes X50.here hx rfl (pc0 := 147) (pc' := 154) rfl (hb hby at_147) rfl ((if0 _ _).trans (feq (by decide : ¬ ((2 : Int32) = (0 : Int32)))).2) (by decide) (by decide) k) ?_
    show own_Run p e below _ T50 (mkF m 154 #[.val (.int p1), .val (.int p2), .val (.int p3), .val (.int p4), .val (.int (2 : Int32)), .val (.int x1), .val (.int x2), .val (.int x3), .val (.ref b8), .val (.ref b10), .val (.ref b15), .val (.ref b23), .val (.ref b15), .val (.ref b46), .val (.int (0 : Int32))] [(.int (0 : Int32))])
    refine own_go (fun _ k => XS.iconst X50.here hx rfl (hb hby at_154) k) ?_
    show own_Run p e below _ T50 (mkF m 155 #[.val (.int p1), .val (.int p2), .val (.int p3), .val (.int p4), .val (.int (2 : Int32)), .val (.int x1), .val (.int x2), .val (.int x3), .val (.ref b8), .val (.ref b10), .val (.ref b15), .val (.ref b23), .val (.ref b15), .val (.ref b46), .val (.int (0 : Int32))] [(.int (0 : Int32)), (.int (0 : Int32))])
    refine own_go (fun _ k => XS.icmpNo X50.here hx rfl (hb hby at_155) rfl (teq (by decide : (0 : Int32) = (0 : Int32))).2 k) ?_
    show own_Run p e below _ T50 (mkF m 158 #[.val (.int p1), .val (.int p2), .val (.int p3), .val (.int p4), .val (.int (2 : Int32)), .val (.int x1), .val (.int x2), .val (.int x3), .val (.ref b8), .val (.ref b10), .val (.ref b15), .val (.ref b23), .val (.ref b15), .val (.ref b46), .val (.int (0 : Int32))] [])
    refine own_go (fun _ k => XS.iload X50.here hx rfl (hb hby at_158) rfl k) ?_
    refine own_go (fun _ k => XS.aload X50.here hx rfl (hb hby at_160) rfl rfl k) ?_
    show own_Run p e below _ T50 (mkF m 162 #[.val (.int p1), .val (.int p2), .val (.int p3), .val (.int p4), .val (.int (2 : Int32)), .val (.int x1), .val (.int x2), .val (.int x3), .val (.ref b8), .val (.ref b10), .val (.ref b15), .val (.ref b23), .val (.ref b15), .val (.ref b46), .val (.int (0 : Int32))] [(.ref b46), (.int (0 : Int32))])
    obtain ⟨cq51, kq51, q51a, q51b, q51c⟩ := isOf hZ e50 P48_0
    obtain ⟨_, _, ⟨T51, L51, k51, n51⟩, -, X51, ⟨Lc51, hQ51, l51, y51, z51⟩, st51⟩ := X50.virtualBack hx (y := (⟨"com/example/net_reducer/netreducer/model/NodeSet", "size", "()I"⟩ : MethodName)) (z := (⟨"com/example/net_reducer/netreducer/model/NodeSet", "size", "()I"⟩ : MethodName)) hown (mvT hZ (W 18 rfl)) (mvT hZ (W 19 rfl)) (notFace_of_selects (args := #[]) (mvT hZ (W 21 rfl))) (mvT hZ (W 21 rfl)) (mvT hZ (W 20 rfl)) (by decide) (backOf (W := 1) (rm4 l Z a0 hw [] b46 b15 k15 (2 : Int32) [(.int x1), (.int x2)] (.int (0 : Int32)) T48.heap n0 Z0_c49 P48_1 V_b15_c49) hZ (W 22 rfl) (W 4 rfl) (by decide) (by decide)) q51a q51c (g := (mkF m 162 #[.val (.int p1), .val (.int p2), .val (.int p3), .val (.int p4), .val (.int (2 : Int32)), .val (.int x1), .val (.int x2), .val (.int x3), .val (.ref b8), .val (.ref b10), .val (.ref b15), .val (.ref b23), .val (.ref b15), .val (.ref b46), .val (.int (0 : Int32))] [(.ref b46), (.int (0 : Int32))])) rfl (by rw [hml]; rfl) (Steps.refl _) (argsL := []) (rest := [(.int (0 : Int32))]) (lenOf pd_3 rfl) rfl (by show 2 * 0 + _ ≤ _; exact Nat.le_of_eq rfl) (hb hby at_162) (fun _ _ => ⟨rfl, e50, (by decide : 5 + 0 ≤ _), (by decide : 7 + 0 ≤ _)⟩)
    dsimp only [Pt.U, Pt.locs, Pt.cells, Pt.slots] at X51 l51 y51 z51 st51 hQ51
    subst l51 y51 z51
    obtain ⟨rfl, N51q, e51⟩ := hQ51
    have N51 := Fr.app N50 N51q
    refine own_goT st51 ?_
    show own_Run p e below _ T51 (mkF m 165 #[.val (.int p1), .val (.int p2), .val (.int p3), .val (.int p4), .val (.int (2 : Int32)), .val (.int x1), .val (.int x2), .val (.int x3), .val (.ref b8), .val (.ref b10), .val (.ref b15), .val (.ref b23), .val (.ref b15), .val (.ref b46), .val (.int (0 : Int32))] [(.int (2 : Int32)), (.int (0 : Int32))])
    refine own_go (fun _ k => XS.ifYes X51.here hx rfl (pc0 := 165) (pc' := 172) rfl (hb hby at_165) rfl ((if0 _ _).trans (feq (by decide : ¬ ((2 : Int32) = (0 : Int32)))).2) (by decide) (by decide) k) ?_
    show own_Run p e below _ T51 (mkF m 172 #[.val (.int p1), .val (.int p2), .val (.int p3), .val (.int p4), .val (.int (2 : Int32)), .val (.int x1), .val (.int x2), .val (.int x3), .val (.ref b8), .val (.ref b10), .val (.ref b15), .val (.ref b23), .val (.ref b15), .val (.ref b46), .val (.int (0 : Int32))] [(.int (0 : Int32))])
    refine own_go (fun _ k => XS.iconst X51.here hx rfl (hb hby at_172) k) ?_
    show own_Run p e below _ T51 (mkF m 173 #[.val (.int p1), .val (.int p2), .val (.int p3), .val (.int p4), .val (.int (2 : Int32)), .val (.int x1), .val (.int x2), .val (.int x3), .val (.ref b8), .val (.ref b10), .val (.ref b15), .val (.ref b23), .val (.ref b15), .val (.ref b46), .val (.int (0 : Int32))] [(.int (0 : Int32)), (.int (0 : Int32))])
    refine own_go (fun _ k => XS.icmpNo X51.here hx rfl (hb hby at_173) rfl (teq (by decide : (0 : Int32) = (0 : Int32))).2 k) ?_
    show own_Run p e below _ T51 (mkF m 176 #[.val (.int p1), .val (.int p2), .val (.int p3), .val (.int p4), .val (.int (2 : Int32)), .val (.int x1), .val (.int x2), .val (.int x3), .val (.ref b8), .val (.ref b10), .val (.ref b15), .val (.ref b23), .val (.ref b15), .val (.ref b46), .val (.int (0 : Int32))] [])
    refine own_go (fun _ k => XS.iconst X51.here hx rfl (hb hby at_176) k) ?_
    refine own_go (fun _ k => XS.goto X51.here hx rfl (pc0 := 177) (pc' := 181) rfl (hb hby at_177) (by decide) (by decide) k) ?_
    show own_Run p e below _ T51 (mkF m 181 #[.val (.int p1), .val (.int p2), .val (.int p3), .val (.int p4), .val (.int (2 : Int32)), .val (.int x1), .val (.int x2), .val (.int x3), .val (.ref b8), .val (.ref b10), .val (.ref b15), .val (.ref b23), .val (.ref b15), .val (.ref b46), .val (.int (0 : Int32))] [(.int (1 : Int32))])
    refine own_done (Q := fun v h L => Q0 Z p1 p2 p3 p4 h0 n0 v h L) (v := (some (.int (1 : Int32)))) X51 (fun h => by rw [hret] at h; cases h) hlk (fun fs hr => retN X51 hx (t := .boolean) hret (by simp) (hb hby at_181) hr) ?_ (by decide) (by decide)
    show Q0 Z p1 p2 p3 p4 h0 n0 _ T51.heap _
    rw [e51]
    exact ⟨rfl, N51⟩
  · show own_Run p e below _ T32 (mkF m 89 #[.val (.int p1), .val (.int p2), .val (.int p3), .val (.int p4), .val (.int (3 : Int32)), .val (.int x1), .val (.int x2), .val (.int x3), .val (.ref b8), .val (.ref b10), .val (.ref b15), .val (.ref b23), .val (.ref b8), .unset, .unset] [])
    refine own_go (fun _ k => XS.iload X32.here hx rfl (hb hby at_89) rfl k) ?_
    refine own_go (fun _ k => XS.iconst X32.here hx rfl (hb hby at_91) k) ?_
    show own_Run p e below _ T32 (mkF m 92 #[.val (.int p1), .val (.int p2), .val (.int p3), .val (.int p4), .val (.int (3 : Int32)), .val (.int x1), .val (.int x2), .val (.int x3), .val (.ref b8), .val (.ref b10), .val (.ref b15), .val (.ref b23), .val (.ref b8), .unset, .unset] [(.int (1 : Int32)), (.int (3 : Int32))])
    refine own_go (fun _ k => XS.icmpYes X32.here hx rfl (pc0 := 92) (pc' := 102) rfl (hb hby at_92) rfl (feq (by decide : ¬ ((3 : Int32) = (1 : Int32)))).2 (by decide) (by decide) k) ?_
    show own_Run p e below _ T32 (mkF m 102 #[.val (.int p1), .val (.int p2), .val (.int p3), .val (.int p4), .val (.int (3 : Int32)), .val (.int x1), .val (.int x2), .val (.int x3), .val (.ref b8), .val (.ref b10), .val (.ref b15), .val (.ref b23), .val (.ref b8), .unset, .unset] [])
    refine own_go (fun _ k => XS.iload X32.here hx rfl (hb hby at_102) rfl k) ?_
    refine own_go (fun _ k => XS.iconst X32.here hx rfl (hb hby at_104) k) ?_
    show own_Run p e below _ T32 (mkF m 105 #[.val (.int p1), .val (.int p2), .val (.int p3), .val (.int p4), .val (.int (3 : Int32)), .val (.int x1), .val (.int x2), .val (.int x3), .val (.ref b8), .val (.ref b10), .val (.ref b15), .val (.ref b23), .val (.ref b8), .unset, .unset] [(.int (2 : Int32)), (.int (3 : Int32))])
    refine own_go (fun _ k => XS.icmpYes X32.here hx rfl (pc0 := 105) (pc' := 115) rfl (hb hby at_105) rfl (feq (by decide : ¬ ((3 : Int32) = (2 : Int32)))).2 (by decide) (by decide) k) ?_
    show own_Run p e below _ T32 (mkF m 115 #[.val (.int p1), .val (.int p2), .val (.int p3), .val (.int p4), .val (.int (3 : Int32)), .val (.int x1), .val (.int x2), .val (.int x3), .val (.ref b8), .val (.ref b10), .val (.ref b15), .val (.ref b23), .val (.ref b8), .unset, .unset] [])
    refine own_go (fun _ k => XS.iload X32.here hx rfl (hb hby at_115) rfl k) ?_
    refine own_go (fun _ k => XS.iconst X32.here hx rfl (hb hby at_117) k) ?_
    show own_Run p e below _ T32 (mkF m 118 #[.val (.int p1), .val (.int p2), .val (.int p3), .val (.int p4), .val (.int (3 : Int32)), .val (.int x1), .val (.int x2), .val (.int x3), .val (.ref b8), .val (.ref b10), .val (.ref b15), .val (.ref b23), .val (.ref b8), .unset, .unset] [(.int (3 : Int32)), (.int (3 : Int32))])
    refine own_go (fun _ k => XS.icmpNo X32.here hx rfl (hb hby at_118) rfl (teq (by decide : (3 : Int32) = (3 : Int32))).2 k) ?_
    show own_Run p e below _ T32 (mkF m 121 #[.val (.int p1), .val (.int p2), .val (.int p3), .val (.int p4), .val (.int (3 : Int32)), .val (.int x1), .val (.int x2), .val (.int x3), .val (.ref b8), .val (.ref b10), .val (.ref b15), .val (.ref b23), .val (.ref b8), .unset, .unset] [])
    refine own_go (fun _ k => XS.aload X32.here hx rfl (hb hby at_121) rfl rfl k) ?_
    refine own_go (fun _ k => XS.astore X32.here hx rfl (hb hby at_123) rfl rfl (l' := #[.val (.int p1), .val (.int p2), .val (.int p3), .val (.int p4), .val (.int (3 : Int32)), .val (.int x1), .val (.int x2), .val (.int x3), .val (.ref b8), .val (.ref b10), .val (.ref b15), .val (.ref b23), .val (.ref b23), .unset, .unset]) rfl k) ?_
    show own_Run p e below _ T32 (mkF m 125 #[.val (.int p1), .val (.int p2), .val (.int p3), .val (.int p4), .val (.int (3 : Int32)), .val (.int x1), .val (.int x2), .val (.int x3), .val (.ref b8), .val (.ref b10), .val (.ref b15), .val (.ref b23), .val (.ref b23), .unset, .unset] [])
    obtain ⟨T52, h52, X52, e52, E52, A52, D52, -, st52⟩ := newO X32 hx hZ hown (W 2 rfl) (W 3 rfl) (W 4 rfl) e32 (g := (mkF m 125 #[.val (.int p1), .val (.int p2), .val (.int p3), .val (.int p4), .val (.int (3 : Int32)), .val (.int x1), .val (.int x2), .val (.int x3), .val (.ref b8), .val (.ref b10), .val (.ref b15), .val (.ref b23), .val (.ref b23), .unset, .unset] [])) rfl (hb hby at_125) (by decide) (by decide)
    refine own_go st52 ?_
    obtain ⟨b52, g52⟩ : ∃ z, z = h32.size := ⟨_, rfl⟩
    rw [← g52] at A52 D52
    rw [← g52]
    show own_Run p e below _ T52 (mkF m 128 #[.val (.int p1), .val (.int p2), .val (.int p3), .val (.int p4), .val (.int (3 : Int32)), .val (.int x1), .val (.int x2), .val (.int x3), .val (.ref b8), .val (.ref b10), .val (.ref b15), .val (.ref b23), .val (.ref b23), .unset, .unset] [(.ref b52)])
    have ne_b8_b52 : b8 ≠ b52 := Nat.ne_of_lt (Nat.lt_of_lt_of_eq V_b8_c33.lt g52.symm)
    have ne_b10_b52 : b10 ≠ b52 := Nat.ne_of_lt (Nat.lt_of_lt_of_eq V_b10_c33.lt g52.symm)
    have ne_b15_b52 : b15 ≠ b52 := Nat.ne_of_lt (Nat.lt_of_lt_of_eq V_b15_c33.lt g52.symm)
    have ne_b23_b52 : b23 ≠ b52 := Nat.ne_of_lt (Nat.lt_of_lt_of_eq V_b23_c32.lt g52.symm)
    have g_b52 : n0 ≤ b52 := Nat.le_trans Z0_c33 (Nat.le_of_eq g52.symm)
    have sz_b52 : h0.size ≤ b52 := Nat.le_trans K0_c33.1 (Nat.le_of_eq g52.symm)
    have Z0_c53 := Nat.le_trans Z0_c33 E52.1
    have K0_c53 := K0_c33.ext E52
    have V_b8_c53 := V_b8_c33.ext E52
    have V_b10_c53 := V_b10_c33.ext E52
    have V_b15_c53 := V_b15_c33.ext E52
    have V_b23_c53 := V_b23_c32.ext E52
    have F_numbers_b52 : Fld Z h52 b52 "com/example/net_reducer/netreducer/model/NodeSet" "numbers" "[I" .null := D52 (Or.inr (W 12 rfl)) (ty := (.array .int)) (by decide)
    refine own_go (fun _ k => XS.dup X52.here hx rfl (hb hby at_128) rfl rfl k) ?_
    refine own_go (fun _ k => XS.aload X52.here hx rfl (hb hby at_129) rfl rfl k) ?_
    show own_Run p e below _ T52 (mkF m 131 #[.val (.int p1), .val (.int p2), .val (.int p3), .val (.int p4), .val (.int (3 : Int32)), .val (.int x1), .val (.int x2), .val (.int x3), .val (.ref b8), .val (.ref b10), .val (.ref b15), .val (.ref b23), .val (.ref b23), .unset, .unset] [(.ref b23), (.ref b52), (.ref b52)])
    obtain ⟨_, _, ⟨T54, L54, k54, n54⟩, -, X54, ⟨Lc54, hQ54, l54, y54, z54⟩, st54⟩ := X52.specialBack hx (y := (⟨"com/example/net_reducer/netreducer/model/NodeSet", "<init>", "([I)V"⟩ : MethodName)) rfl hown (mvT hZ (W 5 rfl)) (mvT hZ (W 6 rfl)) (mvT hZ (W 7 rfl)) (by decide) (backOf (W := 1) (rm1 l Z a0 hw [] b52 b23 .null h52 n0 Z0_c53 A52 F_numbers_b52 g_b52) hZ (W 7 rfl) (W 4 rfl) (by decide) (by decide)) (g := (mkF m 131 #[.val (.int p1), .val (.int p2), .val (.int p3), .val (.int p4), .val (.int (3 : Int32)), .val (.int x1), .val (.int x2), .val (.int x3), .val (.ref b8), .val (.ref b10), .val (.ref b15), .val (.ref b23), .val (.ref b23), .unset, .unset] [(.ref b23), (.ref b52), (.ref b52)])) rfl (by rw [hml]; rfl) (Steps.refl _) (a := b52) (argsL := [(.ref b23)]) (rest := [(.ref b52)]) (lenOf pd_1 rfl) rfl (by show 2 * 0 + _ ≤ _; exact Nat.le_of_eq rfl) (hb hby at_131) (fun _ _ => ⟨rfl, e52, (by decide : 5 + 0 ≤ _), (by decide : 7 + 0 ≤ _)⟩)
    dsimp only [Pt.U, Pt.locs, Pt.cells, Pt.slots] at X54 l54 y54 z54 st54 hQ54
    subst l54 y54 z54
    obtain ⟨rfl, N54q, K54, P54_0, P54_1⟩ := hQ54
    have N54 := Fr.app N32 N54q
    refine own_goT st54 ?_
    show own_Run p e below _ T54 (mkF m 134 #[.val (.int p1), .val (.int p2), .val (.int p3), .val (.int p4), .val (.int (3 : Int32)), .val (.int x1), .val (.int x2), .val (.int x3), .val (.ref b8), .val (.ref b10), .val (.ref b15), .val (.ref b23), .val (.ref b23), .unset, .unset] [(.ref b52)])
    have Z0_c55 := Nat.le_trans Z0_c53 K54.1
    have K0_c55 := K0_c53.trans K54 (allS (Or.inr sz_b52) all0)
    have V_b8_c55 := V_b8_c53.keep K54 (ninS ne_b8_b52 nin0)
    have V_b10_c55 := V_b10_c53.keep K54 (ninS ne_b10_b52 nin0)
    have V_b15_c55 := V_b15_c53.keep K54 (ninS ne_b15_b52 nin0)
    have V_b23_c55 := V_b23_c53.keep K54 (ninS ne_b23_b52 nin0)
    have A52_c55 := A52.keep K54
    refine own_go (fun _ k => XS.astore X54.here hx rfl (hb hby at_134) rfl rfl (l' := #[.val (.int p1), .val (.int p2), .val (.int p3), .val (.int p4), .val (.int (3 : Int32)), .val (.int x1), .val (.int x2), .val (.int x3), .val (.ref b8), .val (.ref b10), .val (.ref b15), .val (.ref b23), .val (.ref b23), .val (.ref b52), .unset]) rfl k) ?_
    refine own_go (fun _ k => XS.aload X54.here hx rfl (hb hby at_136) rfl rfl k) ?_
    show own_Run p e below _ T54 (mkF m 138 #[.val (.int p1), .val (.int p2), .val (.int p3), .val (.int p4), .val (.int (3 : Int32)), .val (.int x1), .val (.int x2), .val (.int x3), .val (.ref b8), .val (.ref b10), .val (.ref b15), .val (.ref b23), .val (.ref b23), .val (.ref b52), .unset] [(.ref b52)])
    obtain ⟨cq56, kq56, q56a, q56b, q56c⟩ := isOf hZ rfl P54_0
    obtain ⟨_, _, ⟨T56, L56, k56, n56⟩, -, X56, ⟨Lc56, hQ56, l56, y56, z56⟩, st56⟩ := X54.virtualBack hx (y := (⟨"com/example/net_reducer/netreducer/model/NodeSet", "isEmpty", "()Z"⟩ : MethodName)) (z := (⟨"com/example/net_reducer/netreducer/model/NodeSet", "isEmpty", "()Z"⟩ : MethodName)) hown (mvT hZ (W 13 rfl)) (mvT hZ (W 14 rfl)) (notFace_of_selects (args := #[]) (mvT hZ (W 16 rfl))) (mvT hZ (W 16 rfl)) (mvT hZ (W 15 rfl)) (by decide) (backOf (W := 0) (rm3 l Z a0 hw [] b52 b23 k23 (3 : Int32) [(.int x1), (.int x2), (.int x3)] (.int (0 : Int32)) (0 : Int32) T54.heap n0 Z0_c55 P54_1 V_b23_c55 (Or.inr ⟨by decide, rfl⟩)) hZ (W 17 rfl) (W 4 rfl) (by decide) (by decide)) q56a q56c (g := (mkF m 138 #[.val (.int p1), .val (.int p2), .val (.int p3), .val (.int p4), .val (.int (3 : Int32)), .val (.int x1), .val (.int x2), .val (.int x3), .val (.ref b8), .val (.ref b10), .val (.ref b15), .val (.ref b23), .val (.ref b23), .val (.ref b52), .unset] [(.ref b52)])) rfl (by rw [hml]; rfl) (Steps.refl _) (argsL := []) (rest := []) (lenOf pd_2 rfl) rfl (by show 2 * 0 + _ ≤ _; exact Nat.le_of_eq rfl) (hb hby at_138) (fun _ _ => ⟨rfl, rfl, (by decide : 5 + 0 ≤ _), (by decide : 7 + 0 ≤ _)⟩)
    dsimp only [Pt.U, Pt.locs, Pt.cells, Pt.slots] at X56 l56 y56 z56 st56 hQ56
    subst l56 y56 z56
    obtain ⟨rfl, N56q, e56⟩ := hQ56
    have N56 := Fr.app N54 N56q
    refine own_goT st56 ?_
    show own_Run p e below _ T56 (mkF m 141 #[.val (.int p1), .val (.int p2), .val (.int p3), .val (.int p4), .val (.int (3 : Int32)), .val (.int x1), .val (.int x2), .val (.int x3), .val (.ref b8), .val (.ref b10), .val (.ref b15), .val (.ref b23), .val (.ref b23), .val (.ref b52), .unset] [(.int (0 : Int32))])
    refine own_go (fun _ k => XS.istore X56.here hx rfl (hb hby at_141) rfl (l' := #[.val (.int p1), .val (.int p2), .val (.int p3), .val (.int p4), .val (.int (3 : Int32)), .val (.int x1), .val (.int x2), .val (.int x3), .val (.ref b8), .val (.ref b10), .val (.ref b15), .val (.ref b23), .val (.ref b23), .val (.ref b52), .val (.int (0 : Int32))]) rfl k) ?_
    refine own_go (fun _ k => XS.iload X56.here hx rfl (hb hby at_143) rfl k) ?_
    refine own_go (fun _ k => XS.iload X56.here hx rfl (hb hby at_145) rfl k) ?_
    show own_Run p e below _ T56 (mkF m 147 #[.val (.int p1), .val (.int p2), .val (.int p3), .val (.int p4), .val (.int (3 : Int32)), .val (.int x1), .val (.int x2), .val (.int x3), .val (.ref b8), .val (.ref b10), .val (.ref b15), .val (.ref b23), .val (.ref b23), .val (.ref b52), .val (.int (0 : Int32))] [(.int (3 : Int32)), (.int (0 : Int32))])
    refine own_go (fun _ k => XS.ifYes X56.here hx rfl (pc0 := 147) (pc' := 154) rfl (hb hby at_147) rfl ((if0 _ _).trans (feq (by decide : ¬ ((3 : Int32) = (0 : Int32)))).2) (by decide) (by decide) k) ?_
    show own_Run p e below _ T56 (mkF m 154 #[.val (.int p1), .val (.int p2), .val (.int p3), .val (.int p4), .val (.int (3 : Int32)), .val (.int x1), .val (.int x2), .val (.int x3), .val (.ref b8), .val (.ref b10), .val (.ref b15), .val (.ref b23), .val (.ref b23), .val (.ref b52), .val (.int (0 : Int32))] [(.int (0 : Int32))])
    refine own_go (fun _ k => XS.iconst X56.here hx rfl (hb hby at_154) k) ?_
    show own_Run p e below _ T56 (mkF m 155 #[.val (.int p1), .val (.int p2), .val (.int p3), .val (.int p4), .val (.int (3 : Int32)), .val (.int x1), .val (.int x2), .val (.int x3), .val (.ref b8), .val (.ref b10), .val (.ref b15), .val (.ref b23), .val (.ref b23), .val (.ref b52), .val (.int (0 : Int32))] [(.int (0 : Int32)), (.int (0 : Int32))])
    refine own_go (fun _ k => XS.icmpNo X56.here hx rfl (hb hby at_155) rfl (teq (by decide : (0 : Int32) = (0 : Int32))).2 k) ?_
    show own_Run p e below _ T56 (mkF m 158 #[.val (.int p1), .val (.int p2), .val (.int p3), .val (.int p4), .val (.int (3 : Int32)), .val (.int x1), .val (.int x2), .val (.int x3), .val (.ref b8), .val (.ref b10), .val (.ref b15), .val (.ref b23), .val (.ref b23), .val (.ref b52), .val (.int (0 : Int32))] [])
    refine own_go (fun _ k => XS.iload X56.here hx rfl (hb hby at_158) rfl k) ?_
    refine own_go (fun _ k => XS.aload X56.here hx rfl (hb hby at_160) rfl rfl k) ?_
    show own_Run p e below _ T56 (mkF m 162 #[.val (.int p1), .val (.int p2), .val (.int p3), .val (.int p4), .val (.int (3 : Int32)), .val (.int x1), .val (.int x2), .val (.int x3), .val (.ref b8), .val (.ref b10), .val (.ref b15), .val (.ref b23), .val (.ref b23), .val (.ref b52), .val (.int (0 : Int32))] [(.ref b52), (.int (0 : Int32))])
    obtain ⟨cq57, kq57, q57a, q57b, q57c⟩ := isOf hZ e56 P54_0
    obtain ⟨_, _, ⟨T57, L57, k57, n57⟩, -, X57, ⟨Lc57, hQ57, l57, y57, z57⟩, st57⟩ := X56.virtualBack hx (y := (⟨"com/example/net_reducer/netreducer/model/NodeSet", "size", "()I"⟩ : MethodName)) (z := (⟨"com/example/net_reducer/netreducer/model/NodeSet", "size", "()I"⟩ : MethodName)) hown (mvT hZ (W 18 rfl)) (mvT hZ (W 19 rfl)) (notFace_of_selects (args := #[]) (mvT hZ (W 21 rfl))) (mvT hZ (W 21 rfl)) (mvT hZ (W 20 rfl)) (by decide) (backOf (W := 1) (rm4 l Z a0 hw [] b52 b23 k23 (3 : Int32) [(.int x1), (.int x2), (.int x3)] (.int (0 : Int32)) T54.heap n0 Z0_c55 P54_1 V_b23_c55) hZ (W 22 rfl) (W 4 rfl) (by decide) (by decide)) q57a q57c (g := (mkF m 162 #[.val (.int p1), .val (.int p2), .val (.int p3), .val (.int p4), .val (.int (3 : Int32)), .val (.int x1), .val (.int x2), .val (.int x3), .val (.ref b8), .val (.ref b10), .val (.ref b15), .val (.ref b23), .val (.ref b23), .val (.ref b52), .val (.int (0 : Int32))] [(.ref b52), (.int (0 : Int32))])) rfl (by rw [hml]; rfl) (Steps.refl _) (argsL := []) (rest := [(.int (0 : Int32))]) (lenOf pd_3 rfl) rfl (by show 2 * 0 + _ ≤ _; exact Nat.le_of_eq rfl) (hb hby at_162) (fun _ _ => ⟨rfl, e56, (by decide : 5 + 0 ≤ _), (by decide : 7 + 0 ≤ _)⟩)
    dsimp only [Pt.U, Pt.locs, Pt.cells, Pt.slots] at X57 l57 y57 z57 st57 hQ57
    subst l57 y57 z57
    obtain ⟨rfl, N57q, e57⟩ := hQ57
    have N57 := Fr.app N56 N57q
    refine own_goT st57 ?_
    show own_Run p e below _ T57 (mkF m 165 #[.val (.int p1), .val (.int p2), .val (.int p3), .val (.int p4), .val (.int (3 : Int32)), .val (.int x1), .val (.int x2), .val (.int x3), .val (.ref b8), .val (.ref b10), .val (.ref b15), .val (.ref b23), .val (.ref b23), .val (.ref b52), .val (.int (0 : Int32))] [(.int (3 : Int32)), (.int (0 : Int32))])
    refine own_go (fun _ k => XS.ifYes X57.here hx rfl (pc0 := 165) (pc' := 172) rfl (hb hby at_165) rfl ((if0 _ _).trans (feq (by decide : ¬ ((3 : Int32) = (0 : Int32)))).2) (by decide) (by decide) k) ?_
    show own_Run p e below _ T57 (mkF m 172 #[.val (.int p1), .val (.int p2), .val (.int p3), .val (.int p4), .val (.int (3 : Int32)), .val (.int x1), .val (.int x2), .val (.int x3), .val (.ref b8), .val (.ref b10), .val (.ref b15), .val (.ref b23), .val (.ref b23), .val (.ref b52), .val (.int (0 : Int32))] [(.int (0 : Int32))])
    refine own_go (fun _ k => XS.iconst X57.here hx rfl (hb hby at_172) k) ?_
    show own_Run p e below _ T57 (mkF m 173 #[.val (.int p1), .val (.int p2), .val (.int p3), .val (.int p4), .val (.int (3 : Int32)), .val (.int x1), .val (.int x2), .val (.int x3), .val (.ref b8), .val (.ref b10), .val (.ref b15), .val (.ref b23), .val (.ref b23), .val (.ref b52), .val (.int (0 : Int32))] [(.int (0 : Int32)), (.int (0 : Int32))])
    refine own_go (fun _ k => XS.icmpNo X57.here hx rfl (hb hby at_173) rfl (teq (by decide : (0 : Int32) = (0 : Int32))).2 k) ?_
    show own_Run p e below _ T57 (mkF m 176 #[.val (.int p1), .val (.int p2), .val (.int p3), .val (.int p4), .val (.int (3 : Int32)), .val (.int x1), .val (.int x2), .val (.int x3), .val (.ref b8), .val (.ref b10), .val (.ref b15), .val (.ref b23), .val (.ref b23), .val (.ref b52), .val (.int (0 : Int32))] [])
    refine own_go (fun _ k => XS.iconst X57.here hx rfl (hb hby at_176) k) ?_
    refine own_go (fun _ k => XS.goto X57.here hx rfl (pc0 := 177) (pc' := 181) rfl (hb hby at_177) (by decide) (by decide) k) ?_
    show own_Run p e below _ T57 (mkF m 181 #[.val (.int p1), .val (.int p2), .val (.int p3), .val (.int p4), .val (.int (3 : Int32)), .val (.int x1), .val (.int x2), .val (.int x3), .val (.ref b8), .val (.ref b10), .val (.ref b15), .val (.ref b23), .val (.ref b23), .val (.ref b52), .val (.int (0 : Int32))] [(.int (1 : Int32))])
    refine own_done (Q := fun v h L => Q0 Z p1 p2 p3 p4 h0 n0 v h L) (v := (some (.int (1 : Int32)))) X57 (fun h => by rw [hret] at h; cases h) hlk (fun fs hr => retN X57 hx (t := .boolean) hret (by simp) (hb hby at_181) hr) ?_ (by decide) (by decide)
    show Q0 Z p1 p2 p3 p4 h0 n0 _ T57.heap _
    rw [e57]
    exact ⟨rfl, N57⟩
set_option maxRecDepth 65536 in
set_option maxHeartbeats 40000000 in
theorem comes_1 {Post : Tables → Env → Array Value → State → Outcome → State → Prop} (hpost : ∀ tb e args s v u, (limb_1_1.after args s (.returned v) u = true ∧ limb_1_2.after args s (.returned v) u = true ∧ True) → FrameEnd s (.returned v) u (Jvm.fieldLocs frame_1_writes args s ++ Jvm.arrayLocs frame_1_arrays args s ++ Jvm.staticLocs frame_1_statics s) 24 128 → Post tb e args s (.returned v) u) :
    ArmFor flags0 classFile x code maxLocals ret World_1 tables_1 room_1 Calls_1 rest_1 Pre_1 Post := by
  intro l hfl _ _ p e ha hc hk s m args below hf hA hF happ hP
  obtain ⟨hcalls, hrest, hpre⟩ := hP
  obtain ⟨-, -, -, hnamed, -, -, -, hat⟩ := (Spec.applies_iff hf).mp happ
  obtain ⟨hg, hn⟩ := and_e (Cond.before_iff.mp (show (Jvm.Cond.and given_1 narrow_1).before args s = true from hpre))
  obtain ⟨hcount, hr0⟩ := and_e hg
  obtain ⟨ha0, hr1⟩ := and_e hr0
  obtain ⟨ha1, hr2⟩ := and_e hr1
  obtain ⟨ha2, hr3⟩ := and_e hr2
  have ha3 := hr3
  obtain ⟨w0, w1, w2, w3, rfl⟩ : ∃ w0 w1 w2 w3 : Value, args = #[w0, w1, w2, w3] := by
    have hs : args.size = 4 := by simpa [Cond.value, given_1] using hcount
    obtain ⟨L⟩ := args
    match L, hs with
    | [w0, w1, w2, w3], _ => exact ⟨w0, w1, w2, w3, rfl⟩
  have hw := fun d (hd : d ∈ tables_1) => atoms_spec (ws := Jvm.Cond.code x code maxLocals ret :: tables_1) hat d (List.mem_cons_of_mem _ hd)
  have W := fun (k : Nat) {d : Jvm.Cond} (h : tables_1[k]? = some d) => hw d (List.mem_of_getElem? h)
  have hfit : Fit s := fun {y c} hc i hi => by
    obtain ⟨ha, rfl⟩ := Array.getElem?_eq_some_iff.mp hc
    have q := List.all_eq_true.mp ((Array.all_eq_true_iff_forall_mem.mp hF) _ (Array.getElem_mem ha)) i (List.mem_range.mpr hi)
    simpa [Array.getElem?_eq_getElem hi] using q
  obtain ⟨i0, ei0⟩ := is_v ha0
  obtain rfl : w0 = (.int i0) := Option.some.inj ei0
  obtain ⟨i1, ei1⟩ := is_v ha1
  obtain rfl : w1 = (.int i1) := Option.some.inj ei1
  obtain ⟨i2, ei2⟩ := is_v ha2
  obtain rfl : w2 = (.int i2) := Option.some.inj ei2
  obtain ⟨i3, ei3⟩ := is_v ha3
  obtain rfl : w3 = (.int i3) := Option.some.inj ei3
  obtain ⟨n, o, h1, h2, h3, _, L, rfl, ⟨rfl, N⟩, hq⟩ := rm0 l s _ hw tables_1 i0 i1 i2 i3 s.heap s.heap.size (Nat.le_refl _) p e ha hc hk s m _ below hf ((Spec.applies_iff_loose hf).mp happ).1 ⟨rfl, State.Warmed39.refl s, rfl⟩ trivial
  refine ⟨n, _, h1, h2, h3, hpost _ _ _ _ _ _ ⟨Cond.after_iff.mpr rfl, Cond.after_iff.mpr (eq_i res_at (Term.int_eval (1)) rfl), trivial⟩ ⟨hq.1, hq.2.1, (hq.2.2.sift fun y hy => Or.inr (N y hy)).mono (by decide) (by decide)⟩⟩
theorem main_1_1 : Claimed_1_1 := comes_1 fun _ _ _ _ _ _ h hF => ⟨h.1, hF⟩
theorem main_1_2 : Claimed_1_2 := comes_1 fun _ _ _ _ _ _ h hF => ⟨h.2.1, hF⟩
end Jvm.Pilot.@@N@@
namespace Jvm.Pilot.@@N@@
open Jvm Jvm.ClassFile Sem Op Lib Jvm.Free Jvm.Stand Jvm.Pilot.@@N@@.Jvm.D
/-! MADE BY PROGRAM (witnessworld.py) out of the Statement's table words and the real class files: 9 classes; the members and pool entries that the words name. The judged class is class 1, her method 1. -/
namespace start1
open Jvm.ClassFile
def u (s : String) : CpInfo := .utf8 (stringToUtf16 s)
/-- a pool by its gaps: so many unusable entries, then the entry; so many at the end -/
def gap : Nat → List CpInfo → List CpInfo
  | 0, r => r
  | n + 1, r => .unusable :: gap n r
def poolList (es : List (Nat × CpInfo)) (last : Nat) : List CpInfo := es.foldr (fun e r => gap e.1 (e.2 :: r)) (gap last [])
def pool (es : List (Nat × CpInfo)) (last : Nat) : Array CpInfo := ⟨poolList es last⟩
def fileOf (pool : Array CpInfo) (this : Nat) (attrs : Array Attribute := #[]) (ms : Array MethodInfo := #[]) (fl : Nat := 33) (sup : Nat := 0) (ifs : Array Nat := #[]) (fds : Array FieldInfo := #[]) : ClassFile where
  minorVersion := 0
  majorVersion := 65
  constantPool := pool
  accessFlags := fl
  thisClass := this
  superClass := sup
  interfaces := ifs
  fields := fds
  methods := ms
  attributes := attrs
def plain (name : String) (sup : Option ClassId) : Class where
  name := name
  kind := .ordinary
  loader := none
  accessFlags := 33
  super := sup
  interfaces := #[]
  cf := none
  fields := #[]
  methods := #[]
  instanceTypes := #[]
  staticTypes := #[]
  resolved := #[]
  callSites := []
  init := .initialized
  statics := none
  mirror := none

def pool0 : Array CpInfo := pool [(5, u "<init>"), (0, u "()V"), (1, .class_ 10), (1, u "java/lang/Object")] 113

def k0c0 : Code := { maxStack := 0, maxLocals := 1, code := object_method_1_code, exceptionTable := #[], attributes := #[] }
def k0m0 : Method := { name := "<init>", desc := "()V", sig := { parameters := [], returnType := none }, accessFlags := 1, code := some k0c0 }
/-- java/lang/Object -/
def k0 : Class := { plain "java/lang/Object" none with
  accessFlags := 33
  interfaces := #[]
  cf := some (fileOf pool0 8 #[] #[{ accessFlags := 1, nameIndex := 5, descriptorIndex := 6, attributes := #[] }] 33 0 #[] #[])
  fields := #[]
  methods := #[k0m0]
  instanceTypes := #[]
  staticTypes := #[]
  resolved := Array.replicate 124 none
  statics := none }

def pool1 : Array CpInfo := pool [(2, .class_ 4), (1, u "java/lang/Object"), (0, u "<init>"), (0, u "()V"), (0, .integer 1048575), (0, .class_ 9), (0, u "com/example/net_reducer/netreducer/model/NodeSet"), (0, .methodref 8 11), (0, .nameAndType 5 12), (0, u "([I)V"), (0, .methodref 8 14), (0, .nameAndType 15 16), (0, u "isEmpty"), (0, u "()Z"), (0, .methodref 8 18), (0, .nameAndType 19 20), (0, u "size"), (0, u "()I"), (0, .class_ 22), (0, u "com/example/net_reducer/netreducer/model/NodeSetIsEmptyPinLaw"), (2, u "law"), (0, u "(IIII)Z")] 5

def k1m0 : Method := { name := "<init>", desc := "()V", sig := { parameters := [], returnType := none }, accessFlags := 1, code := none }
def k1c1 : Code := { maxStack := 4, maxLocals := 15, code := code, exceptionTable := #[], attributes := #[] }
def k1m1 : Method := { name := "law", desc := "(IIII)Z", sig := { parameters := [.int, .int, .int, .int], returnType := some .boolean }, accessFlags := 9, code := some k1c1 }
/-- com/example/net_reducer/netreducer/model/NodeSetIsEmptyPinLaw -/
def k1 : Class := { plain "com/example/net_reducer/netreducer/model/NodeSetIsEmptyPinLaw" (some 0) with
  accessFlags := 49
  interfaces := #[]
  cf := some (fileOf pool1 21 #[] #[{ accessFlags := 1, nameIndex := 5, descriptorIndex := 6, attributes := #[] }, { accessFlags := 9, nameIndex := 25, descriptorIndex := 26, attributes := #[] }] 49 2 #[] #[])
  fields := #[]
  methods := #[k1m0, k1m1]
  instanceTypes := #[]
  staticTypes := #[]
  resolved := Array.replicate 32 none
  statics := none }

def pool2 : Array CpInfo := pool [(1, .methodref 2 3), (0, .class_ 4), (0, .nameAndType 5 6), (0, u "java/lang/Object"), (0, u "<init>"), (0, u "()V"), (0, .fieldref 8 9), (0, .class_ 10), (0, .nameAndType 11 12), (0, u "com/example/net_reducer/netreducer/model/NodeSet"), (0, u "numbers"), (0, u "[I"), (23, u "([I)V"), (2, u "size"), (0, u "()I"), (0, u "isEmpty"), (0, u "()Z")] 10

def k2c0 : Code := { maxStack := 2, maxLocals := 2, code := prog_27_method_1_code, exceptionTable := #[], attributes := #[] }
def k2m0 : Method := { name := "<init>", desc := "([I)V", sig := { parameters := [(.array .int)], returnType := none }, accessFlags := 0, code := some k2c0 }
def k2c1 : Code := { maxStack := 1, maxLocals := 1, code := prog_27_method_2_code, exceptionTable := #[], attributes := #[] }
def k2m1 : Method := { name := "size", desc := "()I", sig := { parameters := [], returnType := some .int }, accessFlags := 1, code := some k2c1 }
def k2c2 : Code := { maxStack := 1, maxLocals := 1, code := prog_27_method_3_code, exceptionTable := #[], attributes := #[] }
def k2m2 : Method := { name := "isEmpty", desc := "()Z", sig := { parameters := [], returnType := some .boolean }, accessFlags := 1, code := some k2c2 }
/-- com/example/net_reducer/netreducer/model/NodeSet -/
def k2 : Class := { plain "com/example/net_reducer/netreducer/model/NodeSet" (some 0) with
  accessFlags := 49
  interfaces := #[]
  cf := some (fileOf pool2 8 #[] #[{ accessFlags := 0, nameIndex := 5, descriptorIndex := 36, attributes := #[] }, { accessFlags := 1, nameIndex := 39, descriptorIndex := 40, attributes := #[] }, { accessFlags := 1, nameIndex := 41, descriptorIndex := 42, attributes := #[] }] 49 2 #[] #[{ accessFlags := 18, nameIndex := 11, descriptorIndex := 12, attributes := #[] }])
  fields := #[{ name := "numbers", type := (.array .int), accessFlags := 18, slot := 0, constantValue := 0 }]
  methods := #[k2m0, k2m1, k2m2]
  instanceTypes := #[(.array .int)]
  staticTypes := #[]
  resolved := Array.replicate 53 none
  statics := none }

def pool3 : Array CpInfo := pool [(1, u "java/lang/Cloneable"), (0, .class_ 1), (0, u "java/lang/Object"), (0, .class_ 3)] 3

/-- java/lang/Cloneable -/
def k3 : Class := { plain "java/lang/Cloneable" (some 0) with
  accessFlags := 1537
  interfaces := #[]
  cf := some (fileOf pool3 2 #[] #[] 1537 4 #[] #[])
  fields := #[]
  methods := #[]
  instanceTypes := #[]
  staticTypes := #[]
  resolved := Array.replicate 8 none
  statics := none }

def pool4 : Array CpInfo := pool [(1, u "java/io/Serializable"), (0, .class_ 1), (0, u "java/lang/Object"), (0, .class_ 3)] 3

/-- java/io/Serializable -/
def k4 : Class := { plain "java/io/Serializable" (some 0) with
  accessFlags := 1537
  interfaces := #[]
  cf := some (fileOf pool4 2 #[] #[] 1537 4 #[] #[])
  fields := #[]
  methods := #[]
  instanceTypes := #[]
  staticTypes := #[]
  resolved := Array.replicate 8 none
  statics := none }

/-- the primitive byte -/
def k5 : Class := { plain "byte" none with kind := .primitive 'B', accessFlags := 0x411 }
/-- [B -/
def k6 : Class := { plain "[B" (some 0) with kind := .array 5 .byte, interfaces := #[3, 4], accessFlags := 1041 }

/-- the primitive int -/
def k7 : Class := { plain "int" none with kind := .primitive 'I', accessFlags := 0x411 }
/-- [I -/
def k8 : Class := { plain "[I" (some 0) with kind := .array 7 .int, interfaces := #[3, 4], accessFlags := 1041 }

def heap : Heap := #[]
def classes : Array Class := #[k0, k1, k2, k3, k4, k5, k6, k7, k8]
def interned : List (Array UInt16 × Addr) := []
def slotsUsed : Nat := 0
def theMethod : MethodId := ⟨1, 1⟩
def args0 : Array Value := #[.int 5, .int 6, .int 7, .int 8]
def aboutOver (below : List Frame) : State where
  vm := { classes := classes, interned := interned.toArray }
  heap := heap
  slotsUsed := slotsUsed
  threads := #[{ frames := .invoking theMethod args0 :: below }]
def below0 : List Frame := [.native { method := ⟨0, 0⟩, args := #[] }]
def about1 : State := aboutOver below0
def p0 : Program := .bare "" "" ""
def e0 : Env := launch0.env 0 0 0
theorem w_frames : about1.frames = Frame.invoking theMethod args0 :: below0 := rfl
set_option maxRecDepth 65536 in
theorem w_args : argsFit about1.vm theMethod args0 = true := by decide +kernel
set_option maxRecDepth 65536 in
theorem w_heap : heapFits about1 = true := by decide +kernel
set_option maxRecDepth 65536 in
theorem w_runnable : about1.curStatus? = some .runnable := by decide +kernel
set_option maxRecDepth 65536 in
theorem w_alone : about1.alone = true := by decide +kernel
set_option maxRecDepth 65536 in
theorem w_named : about1.methodNamed? x = some theMethod := by decide +kernel
set_option maxRecDepth 65536 in
theorem w_hears : about1.hears theMethod below0 = true := by decide +kernel
set_option maxRecDepth 65536 in
theorem w_ripe : about1.ripe theMethod args0 below0 = true := by decide +kernel
theorem w_running : about1.status = .running := rfl
set_option maxRecDepth 65536 in
theorem w_room : about1.hasRoom e0.platform room_1 = true :=
  launch0.hasRoom_least _ room_1 (by decide +kernel) (by decide +kernel) (by decide +kernel) (by decide +kernel) (by decide +kernel) (by decide +kernel)
theorem allAtoms_all (ts : List Jvm.Cond) (a : Array Jvm.Value) (st : Jvm.State) : (allAtoms ts).before a st = ts.all (fun c => c.before a st) := by
  induction ts with
  | nil => rfl
  | cons c t ih =>
    show (Jvm.Cond.and c (allAtoms t)).before a st = _
    rw [Jvm.Cond.before_and, ih, List.all_cons]
def words1 : List Jvm.Cond := Jvm.Cond.code x code maxLocals ret :: tables_1
/-- a 'code' word, met by the world's own term for the bytes: nothing is compared byte by byte -/
theorem code_word {y : MethodName} {bytes : ByteArray} {mx : Nat} {rt : Option FieldType} {a : Array Value} {s : State} {m : MethodId} {meth : Method} {c : Code} (h1 : s.methodNamed? y = some m) (h2 : s.vm.method? m = some meth) (h3 : meth.code = some c) (h4 : c.code = bytes)
    (h5 : (c.maxLocals == mx && c.exceptionTable.isEmpty && decide (c.maxStack ≤ mostOperands) && decide (meth.sig.returnType = rt) && !meth.locks && decide (parseMethodDescriptor y.desc = some meth.sig)) = true) : (Jvm.Cond.code y bytes mx rt).before a s = true := by
  simp only [Bool.and_eq_true, beq_iff_eq, Bool.not_eq_true', decide_eq_true_eq] at h5
  obtain ⟨⟨⟨⟨⟨g1, g2⟩, g3⟩, g4⟩, g5⟩, g6⟩ := h5
  simp [Cond.before, Cond.holds, Cond.value, h1, h2, h3, h4, g1, g2, g3, g4, g5, g6]
def isCode : Jvm.Cond → Bool
  | .code _ _ _ _ => true
  | _ => false
theorem all_split {L : List Jvm.Cond} {P : Jvm.Cond → Bool} (h1 : L.all (fun c => isCode c || P c) = true) (h2 : ∀ c ∈ L.filter isCode, P c = true) : L.all P = true := by
  refine List.all_eq_true.mpr fun c hc => ?_
  have h := List.all_eq_true.mp h1 c hc
  rcases Bool.eq_false_or_eq_true (isCode c) with hi | hi
  · exact h2 c (List.mem_filter.mpr ⟨hc, hi⟩)
  · simpa [hi] using h
set_option maxRecDepth 65536 in
theorem w_c0 : (Jvm.Cond.code x code maxLocals ret).before args0 about1 = true := code_word (m := ⟨1, 1⟩) (meth := k1m1) (c := k1c1) (by decide +kernel) rfl rfl rfl (by decide +kernel)
set_option maxRecDepth 65536 in
theorem w_c1 : (Jvm.Cond.code ({ cls := "com/example/net_reducer/netreducer/model/NodeSet", name := "<init>", desc := "([I)V" } : Jvm.MethodName) prog_27_method_1_code (2 : Nat) (Option.none : Option Jvm.ClassFile.FieldType)).before args0 about1 = true := code_word (m := ⟨2, 0⟩) (meth := k2m0) (c := k2c0) (by decide +kernel) rfl rfl rfl (by decide +kernel)
set_option maxRecDepth 65536 in
theorem w_c2 : (Jvm.Cond.code ({ cls := "java/lang/Object", name := "<init>", desc := "()V" } : Jvm.MethodName) object_method_1_code (1 : Nat) (Option.none : Option Jvm.ClassFile.FieldType)).before args0 about1 = true := code_word (m := ⟨0, 0⟩) (meth := k0m0) (c := k0c0) (by decide +kernel) rfl rfl rfl (by decide +kernel)
set_option maxRecDepth 65536 in
theorem w_c3 : (Jvm.Cond.code ({ cls := "com/example/net_reducer/netreducer/model/NodeSet", name := "isEmpty", desc := "()Z" } : Jvm.MethodName) prog_27_method_3_code (1 : Nat) (Option.some Jvm.ClassFile.FieldType.boolean)).before args0 about1 = true := code_word (m := ⟨2, 2⟩) (meth := k2m2) (c := k2c2) (by decide +kernel) rfl rfl rfl (by decide +kernel)
set_option maxRecDepth 65536 in
theorem w_c4 : (Jvm.Cond.code ({ cls := "com/example/net_reducer/netreducer/model/NodeSet", name := "size", desc := "()I" } : Jvm.MethodName) prog_27_method_2_code (1 : Nat) (Option.some Jvm.ClassFile.FieldType.int)).before args0 about1 = true := code_word (m := ⟨2, 1⟩) (meth := k2m1) (c := k2c1) (by decide +kernel) rfl rfl rfl (by decide +kernel)
def codes1 : List Jvm.Cond := [Jvm.Cond.code x code maxLocals ret, Jvm.Cond.code ({ cls := "com/example/net_reducer/netreducer/model/NodeSet", name := "<init>", desc := "([I)V" } : Jvm.MethodName) prog_27_method_1_code (2 : Nat) (Option.none : Option Jvm.ClassFile.FieldType), Jvm.Cond.code ({ cls := "java/lang/Object", name := "<init>", desc := "()V" } : Jvm.MethodName) object_method_1_code (1 : Nat) (Option.none : Option Jvm.ClassFile.FieldType), Jvm.Cond.code ({ cls := "com/example/net_reducer/netreducer/model/NodeSet", name := "isEmpty", desc := "()Z" } : Jvm.MethodName) prog_27_method_3_code (1 : Nat) (Option.some Jvm.ClassFile.FieldType.boolean), Jvm.Cond.code ({ cls := "com/example/net_reducer/netreducer/model/NodeSet", name := "size", desc := "()I" } : Jvm.MethodName) prog_27_method_2_code (1 : Nat) (Option.some Jvm.ClassFile.FieldType.int)]
set_option maxRecDepth 65536 in
theorem codes_eq : words1.filter isCode = codes1 := rfl
theorem w_codes : ∀ c ∈ words1.filter isCode, c.before args0 about1 = true := by
  rw [codes_eq]
  intro c hc
  simp only [codes1, List.mem_cons, List.not_mem_nil, or_false] at hc
  rcases hc with rfl | rfl | rfl | rfl | rfl
  · exact w_c0
  · exact w_c1
  · exact w_c2
  · exact w_c3
  · exact w_c4
set_option maxRecDepth 65536 in
theorem w_t1 : words1.all (fun c => isCode c || c.before args0 about1) = true := by decide +kernel
theorem w_tables : (allAtoms (Jvm.Cond.code x code maxLocals ret :: tables_1)).before args0 about1 = true := by
  rw [allAtoms_all]
  show words1.all (fun c => c.before args0 about1) = true
  refine all_split ?_ w_codes
  rw [w_t1]
set_option maxRecDepth 65536 in
theorem w_case : (Jvm.Cond.and given_1 narrow_1).before args0 about1 = true := by decide +kernel
theorem w_applies : (headSpec (Jvm.Cond.code x code maxLocals ret :: tables_1) room_1).applies x e0.platform about1 = true :=
  (Spec.applies_iff w_frames).mpr ⟨w_running, w_runnable, w_alone, w_named, w_hears, w_ripe, w_room, w_tables⟩
theorem atStart : AtStart classFile x code maxLocals ret World_1 tables_1 room_1 Calls_1 rest_1 Pre_1 launch0 p0 e0 about1 theMethod args0 below0 :=
  ⟨lists_1, trivial, launch0.admits_env _ _ _, launch0.least_env, fairChoices_fair.cas, fairChoices_fair.clock, w_frames, w_args, w_heap, w_applies, trivial, trivial, w_case⟩
end start1
theorem witness_1 : WitnessClaimed_1 := ⟨start1.p0, start1.e0, start1.about1, start1.theMethod, start1.args0, start1.below0, start1.atStart⟩
end Jvm.Pilot.@@N@@
