import JvmDerived
import JvmDerived.Pilot.@@N@@Statement
import JvmDerived.Pilot.@@N@@Code
set_option linter.unusedVariables false
set_option linter.unusedSimpArgs false
namespace Jvm.Pilot.@@N@@
open Jvm Jvm.ClassFile Sem Op Lib Jvm.Free Jvm.Stand Jvm.LawKit Jvm.RoadKit Bundle Jvm.Pilot.@@N@@.Jvm.D
section OwnRun
variable {p : Program} {l : Launch} {e : Env} {R : Room} {s : State} {m : MethodId} {args : Array Value} {below : List Frame} {meth : Method} {c : Code} {T T' : State} {locs : List Loc} {cells slots : Nat}
/-- from here the run ends, as G says -/
def own_Run (p : Program) (e : Env) (below : List Frame) (G : Outcome → State → Prop) (T : State) (g : JFrame) : Prop :=
  ∃ s₂ o, Steps p.tables e below (T.setTop g) s₂ ∧ s₂.status = .running ∧ Ended s₂ below o ∧ G o s₂
theorem own_go {G : Outcome → State → Prop} {g g' : JFrame} (h : ∀ t, Steps p.tables e below (T'.setTop g') t → Steps p.tables e below (T.setTop g) t) (k : own_Run p e below G T' g') : own_Run p e below G T g := by
  obtain ⟨s₂, o, h1, h2, h3, h4⟩ := k
  exact ⟨s₂, o, h _ h1, h2, h3, h4⟩
theorem own_goT {G : Outcome → State → Prop} {g g' : JFrame} (h : Steps p.tables e below (T.setTop g) (T'.setTop g')) (k : own_Run p e below G T' g') : own_Run p e below G T g :=
  own_go (fun _ q => h.trans q) k
theorem own_start {G : Outcome → State → Prop} {f f' : JFrame} (h : f = f') (k : own_Run p e below G T f') : ∃ s₂ o, Steps p.tables e below (T.setTop f) s₂ ∧ s₂.status = .running ∧ Ended s₂ below o ∧ G o s₂ := by
  subst h
  exact k
theorem own_done {Q : Option Value → Heap → List Loc → Prop} {C N : Nat} {g : JFrame} (X : Stand p l e R s m args below meth c T locs cells slots) {v : Option Value} (hv : meth.sig.returnType = none → v = none) (hlocks : meth.locks = false)
    (hstep : ∀ fs, (∀ (f : JFrame) (acts : List Action), f.method = m → f.locked = none → f.entered = [] → (doReturn e (T.setTop f) acts v).1 = T.setFrames fs) → Steps p.tables e below (T.setTop g) (T.setFrames fs))
    (hQ : Q v T.heap locs) (hc : cells ≤ C) (hs : slots ≤ N) :
    own_Run p e below (fun o U' => ∃ v L, o = .returned v ∧ Q v U'.heap L ∧ FrameEnd s o U' L C N) T g := by
  obtain ⟨fs, hr, hrun, hended, hW, hsame⟩ := X.leave hv hlocks
  exact ⟨_, _, hstep fs hr, hrun, hended, _, _, rfl, hQ, ⟨_, rfl⟩, hW, hsame.mono hc hs⟩
theorem own_mono {cells' slots' : Nat} (X : Stand p l e R s m args below meth c T locs cells slots) (hc : cells ≤ cells') (hs : slots ≤ slots') : Stand p l e R s m args below meth c T locs cells' slots' :=
  ⟨X.admits, X.cas, X.clock, X.frames, X.room, X.hears, X.method, X.code, X.here, X.tail, X.warmed, X.limits, X.bytes, X.same.mono hc hs⟩
theorem own_retI (X : Stand p l e R s m args below meth c T locs cells slots) (hx : p.tables.exec = Jvm.exec) {pc : Nat} {Ls : Array Slot} {z : Int32} {rest : List Value} (hret : meth.sig.returnType = some .int) (hd : decode c.code pc = .ok (.ireturn, 1)) {fs : List Frame}
    (hl : ∀ (f : JFrame) (acts : List Action), f.method = m → f.locked = none → f.entered = [] → (doReturn e (T.setTop f) acts (some (.int z))).1 = T.setFrames fs) : Steps p.tables e below (T.setTop (mkF m pc Ls (.int z :: rest))) (T.setFrames fs) :=
  retOut X hx hret rfl (Or.inl ⟨rfl, Or.inl rfl, z, rfl⟩) hd hl
theorem own_retL (X : Stand p l e R s m args below meth c T locs cells slots) (hx : p.tables.exec = Jvm.exec) {pc : Nat} {Ls : Array Slot} {z : Int64} {rest : List Value} (hret : meth.sig.returnType = some .long) (hd : decode c.code pc = .ok (.lreturn, 1)) {fs : List Frame}
    (hl : ∀ (f : JFrame) (acts : List Action), f.method = m → f.locked = none → f.entered = [] → (doReturn e (T.setTop f) acts (some (.long z))).1 = T.setFrames fs) : Steps p.tables e below (T.setTop (mkF m pc Ls (.long z :: rest))) (T.setFrames fs) :=
  retOut X hx hret rfl (Or.inr (Or.inl ⟨rfl, rfl, z, rfl⟩)) hd hl
theorem own_retA {t : FieldType} (X : Stand p l e R s m args below meth c T locs cells slots) (hx : p.tables.exec = Jvm.exec) {pc : Nat} {Ls : Array Slot} {w : Value} {rest : List Value} (hret : meth.sig.returnType = some t) (ht : t.isReference = true) (hn : narrow t w = w) (hw : w.isRef = true) (hd : decode c.code pc = .ok (.areturn, 1)) {fs : List Frame}
    (hl : ∀ (f : JFrame) (acts : List Action), f.method = m → f.locked = none → f.entered = [] → (doReturn e (T.setTop f) acts (some w)).1 = T.setFrames fs) : Steps p.tables e below (T.setTop (mkF m pc Ls (w :: rest))) (T.setFrames fs) :=
  retOut X hx hret hn (Or.inr (Or.inr (Or.inr (Or.inr ⟨rfl, ht, hw⟩)))) hd hl
theorem own_ns {Z : State} {h : Heap} {a : Addr} {C : String} (E : Exa Z h a C) : ∃ c : Cell, h[a]? = some c ∧ c.vm.isStatics = false := by
  obtain ⟨c, k, h1, -, -, h4, -⟩ := E
  exact ⟨c, h1, h4⟩
theorem own_nsV {Z : State} {h : Heap} {a : Addr} {k : ClassId} {ty : FieldType} {n : Int32} {vs : List Value} {d : Value} (V : Arv Z h a k ty n vs d) : ∃ c : Cell, h[a]? = some c ∧ c.vm.isStatics = false := by
  obtain ⟨c, A, -⟩ := V
  exact ⟨c, A.1, A.plain⟩
theorem own_staKeep {Z : State} {h h' : Heap} {ws : List Addr} {C n d : String} {w : Value} (F : Sta Z h C n d w) (K : Keep h h' ws) (q : ∀ x ∈ ws, ∃ c : Cell, h[x]? = some c ∧ c.vm.isStatics = false) : Sta Z h' C n d w := by
  obtain ⟨cf, i, k, f, st, cell, h1, h2, h3, h4, h5, h6, h7⟩ := F
  refine ⟨cf, i, k, f, st, cell, h1, h2, h3, h4, K.2.1 st cell h5 (fun hm => ?_), h6, h7⟩
  obtain ⟨c, e1, e2⟩ := q st hm
  cases h5.symm.trans e1
  rw [h6] at e2; cases e2
theorem own_eqL {args : Array Value} {first s : State} {o : Option Outcome} {idx : List Nat} {t : Term} {n : Int64} (h : (Jvm.Cond.eq t (Term.long n)).value args first o s idx = some true) : t.eval args first o idx s = some (.long n) := by
  cases ht : t.eval args first o idx s with
  | none => simp [Cond.value, ht] at h
  | some x => cases x <;> simp [Cond.value, ht, Term.eval] at h ⊢ <;> exact h
theorem own_eqI {args : Array Value} {first s : State} {o : Option Outcome} {idx : List Nat} {t : Term} {n : Int32} (h : (Jvm.Cond.eq t (Term.int n)).value args first o s idx = some true) : t.eval args first o idx s = some (.int n) := by
  cases ht : t.eval args first o idx s with
  | none => simp [Cond.value, ht] at h
  | some x => cases x <;> simp [Cond.value, ht, Term.eval] at h ⊢ <;> exact h
theorem own_eqR {args : Array Value} {first s : State} {o : Option Outcome} {idx : List Nat} {t u : Term} {x : Addr} (h : (Jvm.Cond.eq t u).value args first o s idx = some true) (hu : u.eval args first o idx s = some (.ref x)) : t.eval args first o idx s = some (.ref x) := by
  cases ht : t.eval args first o idx s with
  | none => simp [Cond.value, ht] at h
  | some y => cases y <;> simp [Cond.value, ht, hu] at h ⊢ <;> exact h
theorem own_nf {s : State} {args : Array Value} {C : String} {y y' : MethodName} (hsel : (Jvm.Cond.selects C y y).before args s = true) (hc : y'.cls = y.cls) : NotFace s y' := fun r0 h0 => by
  obtain ⟨c2, r2, m2, q1, q2, q3, q4, kP, hkP, hkPi⟩ := Cond.selects_spec hsel
  have a := findClass_of_methodNamed q3
  have b := findClass_of_methodNamed h0
  rw [hc] at b
  have e := Option.some.inj (a.symm.trans b)
  exact ⟨kP, by rw [← e]; exact hkP, hkPi⟩
theorem own_selP {s : State} {args args' : Array Value} {C : String} {y y' : MethodName} (hsel : (Jvm.Cond.selects C y' y').before args s = true) (hc : y.cls = y'.cls) (hpriv : s.PrivateAt y) (hinst : (Jvm.Cond.instanceMethod y).before args' s = true) (hy : y.cls ≠ "java/lang/invoke/MethodHandle" ∧ y.cls ≠ "java/lang/invoke/VarHandle") : (Jvm.Cond.selects y.cls y y).before args' s = true := by
  obtain ⟨mk, methM, hnamed, -, -, -⟩ := Cond.instanceMethod_spec hinst
  obtain ⟨k, hk, hni⟩ := own_nf hsel hc mk hnamed
  exact selects_self_of_private (findClass_of_methodNamed hnamed) hk hni hpriv hinst hy
end OwnRun
theorem own_lcLt {x y : Int64} (h : x < y) : lcmpW x y = -1 := by
  have h1 : ¬ (x > y) := by simp only [GT.gt, Int64.lt_iff_toInt_lt] at h ⊢; omega
  have h2 : ¬ (x = y) := by rintro rfl; exact Int64.lt_irrefl h
  simp [lcmpW, h1, h2]
theorem own_lcGt {x y : Int64} (h : y < x) : lcmpW x y = 1 := by
  have h1 : x > y := h
  simp [lcmpW, h1]
theorem own_lcEq {x y : Int64} (h : x = y) : lcmpW x y = 0 := by
  subst h
  have h1 : ¬ (x > x) := Int64.lt_irrefl
  simp [lcmpW, h1]
theorem own_lcNlt {x y : Int64} (h : ¬ x < y) : lcmpW x y = 0 ∨ lcmpW x y = 1 := by
  by_cases q : x = y
  · exact Or.inl (own_lcEq q)
  · refine Or.inr (own_lcGt ?_)
    simp only [Int64.lt_iff_toInt_lt, ← Int64.toInt_inj] at h q ⊢; omega
theorem own_lcNgt {x y : Int64} (h : ¬ y < x) : lcmpW x y = 0 ∨ lcmpW x y = -1 := by
  by_cases q : x = y
  · exact Or.inl (own_lcEq q)
  · refine Or.inr (own_lcLt ?_)
    simp only [Int64.lt_iff_toInt_lt, ← Int64.toInt_inj] at h q ⊢; omega
theorem own_lcNe {x y : Int64} (h : ¬ x = y) : lcmpW x y = 1 ∨ lcmpW x y = -1 := by
  by_cases q : x < y
  · exact Or.inr (own_lcLt q)
  · refine Or.inl (own_lcGt ?_)
    simp only [Int64.lt_iff_toInt_lt, ← Int64.toInt_inj] at h q ⊢; omega
theorem own_lcT {x y : Int64} (h : x < y) : ifCond.holds .lt (lcmpW x y) = true ∧ ifCond.holds .ge (lcmpW x y) = false ∧ ifCond.holds .gt (lcmpW y x) = true ∧ ifCond.holds .le (lcmpW y x) = false := by
  rw [own_lcLt h, own_lcGt h]; decide
theorem own_lcF {x y : Int64} (h : ¬ x < y) : ifCond.holds .lt (lcmpW x y) = false ∧ ifCond.holds .ge (lcmpW x y) = true ∧ ifCond.holds .gt (lcmpW y x) = false ∧ ifCond.holds .le (lcmpW y x) = true := by
  rcases own_lcNlt h with q | q <;> rcases own_lcNgt (x := y) (y := x) h with r | r <;> rw [q, r] <;> decide
theorem own_lcTe {x y : Int64} (h : x = y) : ifCond.holds .eq (lcmpW x y) = true ∧ ifCond.holds .ne (lcmpW x y) = false := by
  rw [own_lcEq h]; decide
theorem own_lcFe {x y : Int64} (h : ¬ x = y) : ifCond.holds .eq (lcmpW x y) = false ∧ ifCond.holds .ne (lcmpW x y) = true := by
  rcases own_lcNe h with q | q <;> rw [q] <;> decide
theorem own_maskI (x : Int32) (M : Nat) (hM : M < 2 ^ 31) : (x &&& Int32.ofNat M).toInt = ((x.toBitVec.toNat &&& M : Nat) : Int) := by
  have h1 : (x &&& Int32.ofNat M).toBitVec.toNat = x.toBitVec.toNat &&& M := by
    rw [Int32.toBitVec_and, BitVec.toNat_and]
    congr 1
    show (BitVec.ofNat 32 M).toNat = M
    rw [BitVec.toNat_ofNat]; omega
  have h2 : x.toBitVec.toNat &&& M ≤ M := Nat.and_le_right
  rw [Int32.toInt, BitVec.toInt_eq_toNat_of_lt (by rw [h1]; omega), h1]
theorem own_mask0 (x : Int32) (M : Nat) (hM : M < 2 ^ 31) : 0 ≤ (x &&& Int32.ofNat M).toInt ∧ (x &&& Int32.ofNat M).toInt ≤ M := by
  rw [own_maskI x M hM]
  have h2 : x.toBitVec.toNat &&& M ≤ M := Nat.and_le_right
  omega
theorem own_rem (x : Int32) (k : Int32) (hx : 0 ≤ x.toInt) (hk : 0 < k.toInt) : 0 ≤ (x % k).toInt ∧ (x % k).toInt < k.toInt := by
  rw [Int32.toInt_mod]
  exact ⟨Int.tmod_nonneg _ hx, Int.tmod_lt_of_pos _ hk⟩
theorem own_bm (z : Int) (h1 : -2147483648 ≤ z) (h2 : z < 2147483648) : z.bmod (2 ^ 32) = z := by
  rw [Int.bmod_def]; split <;> omega
theorem own_addI (a b : Int32) (h1 : -2147483648 ≤ a.toInt + b.toInt) (h2 : a.toInt + b.toInt < 2147483648) : (a + b).toInt = a.toInt + b.toInt := by
  rw [Int32.toInt_add, own_bm _ h1 h2]
theorem own_subI (a b : Int32) (h1 : -2147483648 ≤ a.toInt - b.toInt) (h2 : a.toInt - b.toInt < 2147483648) : (a - b).toInt = a.toInt - b.toInt := by
  rw [Int32.toInt_sub, own_bm _ h1 h2]
theorem own_nz (a : Int32) (h : 0 < a.toInt) : a ≠ 0 := by
  rintro rfl; exact absurd h (by decide)
theorem own_ushr (x k : Int32) (n : Nat) (h : ((k &&& 31).toUInt32.toBitVec % 32).toNat = n) (hn : 0 < n) : ((x.toUInt32 >>> (k &&& 31).toUInt32).toInt32).toInt = ((x.toBitVec.toNat >>> n : Nat) : Int) ∧ x.toBitVec.toNat >>> n < 2 ^ (32 - n) := by
  have e : ((x.toUInt32 >>> (k &&& 31).toUInt32).toInt32).toBitVec = x.toBitVec >>> n := by
    show x.toBitVec >>> ((k &&& 31).toUInt32.toBitVec % 32) = _
    rw [BitVec.ushiftRight_eq', h]
  have hx : x.toBitVec.toNat < 2 ^ 32 := x.toBitVec.isLt
  have e2 : x.toBitVec.toNat >>> n < 2 ^ (32 - n) := by
    rw [Nat.shiftRight_eq_div_pow]
    rcases Nat.lt_or_ge n 32 with q | q
    · rw [Nat.div_lt_iff_lt_mul (Nat.two_pow_pos n), ← Nat.pow_add, Nat.sub_add_cancel (by omega)]; exact hx
    · rw [Nat.div_eq_of_lt (Nat.lt_of_lt_of_le hx (Nat.pow_le_pow_right (by decide) q))]; exact Nat.two_pow_pos _
  refine ⟨?_, e2⟩
  have e3 : 2 ^ (32 - n) ≤ 2 ^ 31 := Nat.pow_le_pow_right (by decide) (by omega)
  rw [Int32.toInt, e, BitVec.toInt_eq_toNat_of_lt (by rw [BitVec.toNat_ushiftRight]; omega), BitVec.toNat_ushiftRight]
theorem own_lit (a : Int32) (n : Int) (b : Int32) (h : a.toInt = n) (hb : b.toInt = n) : a = b := Int32.toInt_inj.mp (h.trans hb.symm)
theorem own_four (a : Int32) (h0 : 0 ≤ a.toInt) (h1 : a.toInt < 4) : a = 0 ∨ a = 1 ∨ a = 2 ∨ a = 3 := by
  have q : a.toInt = 0 ∨ a.toInt = 1 ∨ a.toInt = 2 ∨ a.toInt = 3 := by omega
  rcases q with q | q | q | q
  · exact Or.inl (own_lit _ _ _ q rfl)
  · exact Or.inr (Or.inl (own_lit _ _ _ q rfl))
  · exact Or.inr (Or.inr (Or.inl (own_lit _ _ _ q rfl)))
  · exact Or.inr (Or.inr (Or.inr (own_lit _ _ _ q rfl)))
theorem own_byte (a : Int32) (h0 : 0 ≤ a.toInt) (h1 : a.toInt < 128) : a.toInt8.toInt32 = a := by
  apply Int32.toInt_inj.mp
  rw [Int8.toInt_toInt32, Int32.toInt_toInt8, Int.bmod_def]; split <;> omega
theorem own_shortB (p x : Int32) (h : x = p.toInt16.toInt32) : -32768 ≤ x.toInt ∧ x.toInt < 32768 := by
  subst h
  rw [Int16.toInt_toInt32]
  exact ⟨Int16.le_toInt _, Int16.toInt_lt _⟩
theorem own_lo (p x lo : Int32) (h : x = p.toInt16.toInt32) (h0 : 0 ≤ lo.toInt) (h1 : lo.toInt ≤ 1000) : x - lo < (0 : Int32) ↔ x < lo := by
  have q := own_shortB p x h
  have e0 : (0 : Int32).toInt = 0 := rfl
  rw [Int32.lt_iff_toInt_lt, Int32.lt_iff_toInt_lt, e0, own_subI _ _ (by omega) (by omega)]; omega
theorem own_hi (p x hi : Int32) (h : x = p.toInt16.toInt32) (h0 : 0 ≤ hi.toInt) (h1 : hi.toInt ≤ 1000) : hi - x < (0 : Int32) ↔ hi < x := by
  have q := own_shortB p x h
  have e0 : (0 : Int32).toInt = 0 := rfl
  rw [Int32.lt_iff_toInt_lt, Int32.lt_iff_toInt_lt, e0, own_subI _ _ (by omega) (by omega)]; omega
theorem d1_0 : decode prog_21_method_8_code 0 = .ok (.aload_n 0, 1) := by decide +kernel
theorem d1_1 : decode prog_21_method_8_code 1 = .ok (.getfield 74, 3) := by decide +kernel
theorem d1_4 : decode prog_21_method_8_code 4 = .ok (.iload_n 1, 1) := by decide +kernel
theorem d1_5 : decode prog_21_method_8_code 5 = .ok (.if_icmp .gt 15, 3) := by decide +kernel
theorem d1_8 : decode prog_21_method_8_code 8 = .ok (.iload_n 1, 1) := by decide +kernel
theorem d1_9 : decode prog_21_method_8_code 9 = .ok (.aload_n 0, 1) := by decide +kernel
theorem d1_10 : decode prog_21_method_8_code 10 = .ok (.getfield 77, 3) := by decide +kernel
theorem d1_13 : decode prog_21_method_8_code 13 = .ok (.if_icmp .gt 7, 3) := by decide +kernel
theorem d1_16 : decode prog_21_method_8_code 16 = .ok (.iconst 1, 1) := by decide +kernel
theorem d1_17 : decode prog_21_method_8_code 17 = .ok (.goto 4, 3) := by decide +kernel
theorem d1_20 : decode prog_21_method_8_code 20 = .ok (.iconst 0, 1) := by decide +kernel
theorem d1_21 : decode prog_21_method_8_code 21 = .ok (.ireturn, 1) := by decide +kernel
theorem pn_1 : plainName "com/example/tote/tote/service/Api" = true := by first | (simp [plainName, overriddenIn]; done) | decide +kernel
theorem ef_1 (m : MethodId) (x0 : Addr) (x1 : Int32) : entryFrame m #[(.ref x0), (.int x1)] 2 = mkF m 0 #[.val (.ref x0), .val (.int x1)] [] := by first | (simp [entryFrame, mkF, argsToLocals, Value.category]; done) | rfl
def Q1 (Z : State) (a1 : Addr) (p2 : Int32) (lo : Int32) (hi : Int32) (r : Int32) (h0 : Heap) (n0 : Nat) (v : Option Value) (h : Heap) (L : List Loc) : Prop := v = some (.int r) ∧ Fr n0 L ∧ h = h0
set_option maxRecDepth 65536 in
set_option maxHeartbeats 40000000 in
theorem rm1 (l : Launch) (Z : State) (a0 : Array Value) (hw : ∀ d ∈ tables_1, d.before a0 Z = true) (ws : List Jvm.Cond) (a1 : Addr) (p2 : Int32) (lo : Int32) (hi : Int32) (r : Int32) (h0 : Heap) (n0 : Nat) (Z0 : n0 ≤ h0.size) (F_mMinVersion_a1 : Fld Z h0 a1 "com/example/tote/tote/service/Api" "mMinVersion" "S" (.int lo)) (F_mMaxVersion_a1 : Fld Z h0 a1 "com/example/tote/tote/service/Api" "mMaxVersion" "S" (.int hi)) (hp : (p2 < lo ∧ r = (0 : Int32)) ∨ (¬ (p2 < lo) ∧ hi < p2 ∧ r = (0 : Int32)) ∨ (¬ (p2 < lo) ∧ ¬ (hi < p2) ∧ r = (1 : Int32))) :
    MetFree l (⟨"com/example/tote/tote/service/Api", "serves", "(S)Z"⟩ : MethodName) (head1 (Jvm.Cond.code (⟨"com/example/tote/tote/service/Api", "serves", "(S)Z"⟩ : MethodName) prog_21_method_8_code 2 (some .boolean) :: ws) ({ frames := 0, cells := 0, slots := 0, locals := 0 } : Room)) (fun a U => a = #[(.ref a1), (.int p2)] ∧ Z.Warmed39 U.vm ∧ U.heap = h0) (fun _ _ _ _ _ => True) (fun _ U o U' => ∃ v L, o = .returned v ∧ Q1 Z a1 p2 lo hi r h0 n0 v U'.heap L ∧ FrameEnd U o U' L ({ frames := 0, cells := 0, slots := 0, locals := 0 } : Room).cells ({ frames := 0, cells := 0, slots := 0, locals := 0 } : Room).slots) := by
  refine MetFree.of_bodySF (plainFor_of_name pn_1) hisR ?_
  intro p e s m args below meth c s₁ Bd hml0 hP hK
  obtain ⟨rfl, hZ, hh⟩ := hP
  have hx := Bd.exec
  have hby := Bd.bytes
  have hml : c.maxLocals = 2 := hml0
  have hown : s.vm.findClass "com/example/tote/tote/service/Api" = some m.cls := findClass_of_methodNamed Bd.named
  have hnm := (name_of_methodNamed Bd.named Bd.method).1
  have hret := Bd.returns
  have hlk : meth.locks = false := BodyLoose.notSynchronized Bd
  have X0 : Stand p l e ({ frames := 0, cells := 0, slots := 0, locals := 0 } : Room) s m #[(.ref a1), (.int p2)] below meth c s₁ [] 0 0 := Stand.of_body Bd
  have e0 : s₁.heap = h0 := by rw [← hh, Bd.state]; rfl
  have N0 := Fr.nil n0
  have W := fun (k : Nat) {d : Jvm.Cond} (h : tables_1[k]? = some d) => hw d (List.mem_of_getElem? h)
  have K0 : Keep h0 h0 [] := Keep.refl _ _
  refine own_start (ef_1 m a1 p2) ?_
  show own_Run p e below _ s₁ (mkF m 0 #[.val (.ref a1), .val (.int p2)] [])
  rcases hp with ⟨h1, rfl⟩ | ⟨h1, h2, rfl⟩ | ⟨h1, h2, rfl⟩
  · refine own_go (fun _ k => XS.aloadN X0.here hx rfl (hb hby d1_0) rfl rfl k) ?_
    show own_Run p e below _ s₁ (mkF m 1 #[.val (.ref a1), .val (.int p2)] [(.ref a1)])
    obtain ⟨T1, X1, e1, st1⟩ := getF X0 hx hZ hown (host := "") (Or.inl (W 9 rfl)) Via.refl e0 F_mMinVersion_a1 (g := (mkF m 1 #[.val (.ref a1), .val (.int p2)] [(.ref a1)])) rfl rfl (hb hby d1_1)
    refine own_go st1 ?_
    show own_Run p e below _ T1 (mkF m 4 #[.val (.ref a1), .val (.int p2)] [(.int lo)])
    refine own_go (fun _ k => XS.iloadN X1.here hx rfl (hb hby d1_4) rfl k) ?_
    show own_Run p e below _ T1 (mkF m 5 #[.val (.ref a1), .val (.int p2)] [(.int p2), (.int lo)])
    refine own_go (fun _ k => XS.icmpYes X1.here hx rfl (pc0 := 5) (pc' := 20) rfl (hb hby d1_5) rfl (tlt h1).2.2.1 (by decide) (by decide) k) ?_
    show own_Run p e below _ T1 (mkF m 20 #[.val (.ref a1), .val (.int p2)] [])
    refine own_go (fun _ k => XS.iconst X1.here hx rfl (hb hby d1_20) k) ?_
    show own_Run p e below _ T1 (mkF m 21 #[.val (.ref a1), .val (.int p2)] [(.int (0 : Int32))])
    refine own_done (Q := fun v h L => Q1 Z a1 p2 lo hi (0 : Int32) h0 n0 v h L) (v := (some (.int (0 : Int32)))) X1 (fun h => by rw [hret] at h; cases h) hlk (fun fs hr => retN X1 hx (t := .boolean) hret (by simp) (hb hby d1_21) hr) ?_ (by decide) (by decide)
    show Q1 Z a1 p2 lo hi (0 : Int32) h0 n0 _ T1.heap _
    rw [e1]
    exact ⟨rfl, N0, rfl⟩
  · refine own_go (fun _ k => XS.aloadN X0.here hx rfl (hb hby d1_0) rfl rfl k) ?_
    show own_Run p e below _ s₁ (mkF m 1 #[.val (.ref a1), .val (.int p2)] [(.ref a1)])
    obtain ⟨T2, X2, e2, st2⟩ := getF X0 hx hZ hown (host := "") (Or.inl (W 9 rfl)) Via.refl e0 F_mMinVersion_a1 (g := (mkF m 1 #[.val (.ref a1), .val (.int p2)] [(.ref a1)])) rfl rfl (hb hby d1_1)
    refine own_go st2 ?_
    show own_Run p e below _ T2 (mkF m 4 #[.val (.ref a1), .val (.int p2)] [(.int lo)])
    refine own_go (fun _ k => XS.iloadN X2.here hx rfl (hb hby d1_4) rfl k) ?_
    show own_Run p e below _ T2 (mkF m 5 #[.val (.ref a1), .val (.int p2)] [(.int p2), (.int lo)])
    refine own_go (fun _ k => XS.icmpNo X2.here hx rfl (hb hby d1_5) rfl (flt h1).2.2.1 k) ?_
    show own_Run p e below _ T2 (mkF m 8 #[.val (.ref a1), .val (.int p2)] [])
    refine own_go (fun _ k => XS.iloadN X2.here hx rfl (hb hby d1_8) rfl k) ?_
    refine own_go (fun _ k => XS.aloadN X2.here hx rfl (hb hby d1_9) rfl rfl k) ?_
    show own_Run p e below _ T2 (mkF m 10 #[.val (.ref a1), .val (.int p2)] [(.ref a1), (.int p2)])
    obtain ⟨T3, X3, e3, st3⟩ := getF X2 hx hZ hown (host := "") (Or.inl (W 11 rfl)) Via.refl e2 F_mMaxVersion_a1 (g := (mkF m 10 #[.val (.ref a1), .val (.int p2)] [(.ref a1), (.int p2)])) rfl rfl (hb hby d1_10)
    refine own_go st3 ?_
    show own_Run p e below _ T3 (mkF m 13 #[.val (.ref a1), .val (.int p2)] [(.int hi), (.int p2)])
    refine own_go (fun _ k => XS.icmpYes X3.here hx rfl (pc0 := 13) (pc' := 20) rfl (hb hby d1_13) rfl (tlt h2).2.2.1 (by decide) (by decide) k) ?_
    show own_Run p e below _ T3 (mkF m 20 #[.val (.ref a1), .val (.int p2)] [])
    refine own_go (fun _ k => XS.iconst X3.here hx rfl (hb hby d1_20) k) ?_
    show own_Run p e below _ T3 (mkF m 21 #[.val (.ref a1), .val (.int p2)] [(.int (0 : Int32))])
    refine own_done (Q := fun v h L => Q1 Z a1 p2 lo hi (0 : Int32) h0 n0 v h L) (v := (some (.int (0 : Int32)))) X3 (fun h => by rw [hret] at h; cases h) hlk (fun fs hr => retN X3 hx (t := .boolean) hret (by simp) (hb hby d1_21) hr) ?_ (by decide) (by decide)
    show Q1 Z a1 p2 lo hi (0 : Int32) h0 n0 _ T3.heap _
    rw [e3]
    exact ⟨rfl, N0, rfl⟩
  · refine own_go (fun _ k => XS.aloadN X0.here hx rfl (hb hby d1_0) rfl rfl k) ?_
    show own_Run p e below _ s₁ (mkF m 1 #[.val (.ref a1), .val (.int p2)] [(.ref a1)])
    obtain ⟨T4, X4, e4, st4⟩ := getF X0 hx hZ hown (host := "") (Or.inl (W 9 rfl)) Via.refl e0 F_mMinVersion_a1 (g := (mkF m 1 #[.val (.ref a1), .val (.int p2)] [(.ref a1)])) rfl rfl (hb hby d1_1)
    refine own_go st4 ?_
    show own_Run p e below _ T4 (mkF m 4 #[.val (.ref a1), .val (.int p2)] [(.int lo)])
    refine own_go (fun _ k => XS.iloadN X4.here hx rfl (hb hby d1_4) rfl k) ?_
    show own_Run p e below _ T4 (mkF m 5 #[.val (.ref a1), .val (.int p2)] [(.int p2), (.int lo)])
    refine own_go (fun _ k => XS.icmpNo X4.here hx rfl (hb hby d1_5) rfl (flt h1).2.2.1 k) ?_
    show own_Run p e below _ T4 (mkF m 8 #[.val (.ref a1), .val (.int p2)] [])
    refine own_go (fun _ k => XS.iloadN X4.here hx rfl (hb hby d1_8) rfl k) ?_
    refine own_go (fun _ k => XS.aloadN X4.here hx rfl (hb hby d1_9) rfl rfl k) ?_
    show own_Run p e below _ T4 (mkF m 10 #[.val (.ref a1), .val (.int p2)] [(.ref a1), (.int p2)])
    obtain ⟨T5, X5, e5, st5⟩ := getF X4 hx hZ hown (host := "") (Or.inl (W 11 rfl)) Via.refl e4 F_mMaxVersion_a1 (g := (mkF m 10 #[.val (.ref a1), .val (.int p2)] [(.ref a1), (.int p2)])) rfl rfl (hb hby d1_10)
    refine own_go st5 ?_
    show own_Run p e below _ T5 (mkF m 13 #[.val (.ref a1), .val (.int p2)] [(.int hi), (.int p2)])
    refine own_go (fun _ k => XS.icmpNo X5.here hx rfl (hb hby d1_13) rfl (flt h2).2.2.1 k) ?_
    show own_Run p e below _ T5 (mkF m 16 #[.val (.ref a1), .val (.int p2)] [])
    refine own_go (fun _ k => XS.iconst X5.here hx rfl (hb hby d1_16) k) ?_
    refine own_go (fun _ k => XS.goto X5.here hx rfl (pc0 := 17) (pc' := 21) rfl (hb hby d1_17) (by decide) (by decide) k) ?_
    show own_Run p e below _ T5 (mkF m 21 #[.val (.ref a1), .val (.int p2)] [(.int (1 : Int32))])
    refine own_done (Q := fun v h L => Q1 Z a1 p2 lo hi (1 : Int32) h0 n0 v h L) (v := (some (.int (1 : Int32)))) X5 (fun h => by rw [hret] at h; cases h) hlk (fun fs hr => retN X5 hx (t := .boolean) hret (by simp) (hb hby d1_21) hr) ?_ (by decide) (by decide)
    show Q1 Z a1 p2 lo hi (1 : Int32) h0 n0 _ T5.heap _
    rw [e5]
    exact ⟨rfl, N0, rfl⟩
def Q0 (Z : State) (p1 : Int32) (p2 : Int32) (o0 : Addr) (o1 : Addr) (o2 : Addr) (o3 : Addr) (o4 : Addr) (o5 : Addr) (o6 : Addr) (o7 : Addr) (o8 : Addr) (o9 : Addr) (o10 : Addr) (o11 : Addr) (o12 : Addr) (o13 : Addr) (o14 : Addr) (h0 : Heap) (n0 : Nat) (v : Option Value) (h : Heap) (L : List Loc) : Prop := v = some (.int (1 : Int32)) ∧ Fr n0 L
theorem pn_0 : plainName "com/example/tote/tote/service/ApiServesPinLaw" = true := by first | (simp [plainName, overriddenIn]; done) | decide +kernel
theorem pd_1 : parseMethodDescriptor "(S)Z" = some ⟨[.short], some .boolean⟩ := by decide +kernel
set_option maxRecDepth 65536 in
set_option maxHeartbeats 40000000 in
theorem tail0 {p : Program} {l : Launch} {e : Env} {s : State} {m : MethodId} {args : Array Value} {below : List Frame} {meth : Method} {c : Code} {Z : State} {a0 : Array Value} (p1 : Int32) (p2 : Int32) (o0 : Addr) (o1 : Addr) (o2 : Addr) (o3 : Addr) (o4 : Addr) (o5 : Addr) (o6 : Addr) (o7 : Addr) (o8 : Addr) (o9 : Addr) (o10 : Addr) (o11 : Addr) (o12 : Addr) (o13 : Addr) (o14 : Addr) (h0 : Heap) (n0 : Nat) (hx : p.tables.exec = Jvm.exec) (hZ : Z.Warmed39 s.vm) (hw : ∀ d ∈ tables_1, d.before a0 Z = true) (hby : c.code = code) (hml : c.maxLocals = 10) (hown : s.vm.findClass "com/example/tote/tote/service/ApiServesPinLaw" = some m.cls) (hnm : meth.name = "law") (hret : meth.sig.returnType = some .boolean) (hlk : meth.locks = false)
    (x2 : Int32) (o : Addr) (lo : Int32) (hi : Int32) (T0 : State) (hh : Heap) (locs : List Loc) (X0 : Stand p l e room_1 s m args below meth c T0 locs 0 0) (e0 : T0.heap = hh) (N0 : Fr n0 locs) (Z0 : n0 ≤ hh.size) (K0 : Keep h0 hh []) (E_o : Exa Z hh o "com/example/tote/tote/service/Api") (F_mMinVersion_o : Fld Z hh o "com/example/tote/tote/service/Api" "mMinVersion" "S" (.int lo)) (F_mMaxVersion_o : Fld Z hh o "com/example/tote/tote/service/Api" "mMaxVersion" "S" (.int hi)) (l0 : 0 ≤ lo.toInt) (l1 : lo.toInt ≤ 1000) (m0 : 0 ≤ hi.toInt) (m1 : hi.toInt ≤ 1000) :
    own_Run p e below (fun o U' => ∃ v L, o = .returned v ∧ Q0 Z p1 p2 o0 o1 o2 o3 o4 o5 o6 o7 o8 o9 o10 o11 o12 o13 o14 h0 n0 v U'.heap L ∧ FrameEnd s o U' L room_1.cells room_1.slots) T0 (mkF m 282 #[.val (.int p1), .val (.int p2), .val (.int x2), .val (.ref o), .val (.int lo), .val (.int hi), .unset, .unset, .unset, .unset] []) := by
  have W := fun (k : Nat) {d : Jvm.Cond} (h : tables_1[k]? = some d) => hw d (List.mem_of_getElem? h)
  show own_Run p e below _ T0 (mkF m 282 #[.val (.int p1), .val (.int p2), .val (.int x2), .val (.ref o), .val (.int lo), .val (.int hi), .unset, .unset, .unset, .unset] [])
  refine own_go (fun _ k => XS.iloadN X0.here hx rfl (hb hby at_282) rfl k) ?_
  refine own_go (fun _ k => XS.i2s X0.here hx rfl (hb hby at_283) rfl k) ?_
  show own_Run p e below _ T0 (mkF m 284 #[.val (.int p1), .val (.int p2), .val (.int x2), .val (.ref o), .val (.int lo), .val (.int hi), .unset, .unset, .unset, .unset] [(.int (p2.toInt16.toInt32))])
  obtain ⟨y, hy⟩ : ∃ z, z = (p2.toInt16.toInt32) := ⟨_, rfl⟩
  rw [← hy]
  show own_Run p e below _ T0 (mkF m 284 #[.val (.int p1), .val (.int p2), .val (.int x2), .val (.ref o), .val (.int lo), .val (.int hi), .unset, .unset, .unset, .unset] [(.int y)])
  have hl := own_lo p2 y lo hy l0 l1
  have hm := own_hi p2 y hi hy m0 m1
  refine own_go (fun _ k => XS.istore X0.here hx rfl (hb hby at_284) rfl (l' := #[.val (.int p1), .val (.int p2), .val (.int x2), .val (.ref o), .val (.int lo), .val (.int hi), .val (.int y), .unset, .unset, .unset]) rfl k) ?_
  refine own_go (fun _ k => XS.iload X0.here hx rfl (hb hby at_286) rfl k) ?_
  refine own_go (fun _ k => XS.iload X0.here hx rfl (hb hby at_288) rfl k) ?_
  refine own_go (fun _ k => XS.isub X0.here hx rfl (hb hby at_290) rfl k) ?_
  show own_Run p e below _ T0 (mkF m 291 #[.val (.int p1), .val (.int p2), .val (.int x2), .val (.ref o), .val (.int lo), .val (.int hi), .val (.int y), .unset, .unset, .unset] [(.int (y - lo))])
  refine own_go (fun _ k => XS.istore X0.here hx rfl (hb hby at_291) rfl (l' := #[.val (.int p1), .val (.int p2), .val (.int x2), .val (.ref o), .val (.int lo), .val (.int hi), .val (.int y), .val (.int (y - lo)), .unset, .unset]) rfl k) ?_
  refine own_go (fun _ k => XS.iload X0.here hx rfl (hb hby at_293) rfl k) ?_
  refine own_go (fun _ k => XS.iload X0.here hx rfl (hb hby at_295) rfl k) ?_
  refine own_go (fun _ k => XS.isub X0.here hx rfl (hb hby at_297) rfl k) ?_
  show own_Run p e below _ T0 (mkF m 298 #[.val (.int p1), .val (.int p2), .val (.int x2), .val (.ref o), .val (.int lo), .val (.int hi), .val (.int y), .val (.int (y - lo)), .unset, .unset] [(.int (hi - y))])
  refine own_go (fun _ k => XS.istore X0.here hx rfl (hb hby at_298) rfl (l' := #[.val (.int p1), .val (.int p2), .val (.int x2), .val (.ref o), .val (.int lo), .val (.int hi), .val (.int y), .val (.int (y - lo)), .val (.int (hi - y)), .unset]) rfl k) ?_
  refine own_go (fun _ k => XS.iload X0.here hx rfl (hb hby at_300) rfl k) ?_
  show own_Run p e below _ T0 (mkF m 302 #[.val (.int p1), .val (.int p2), .val (.int x2), .val (.ref o), .val (.int lo), .val (.int hi), .val (.int y), .val (.int (y - lo)), .val (.int (hi - y)), .unset] [(.int (y - lo))])
  by_cases hA : (y - lo) < (0 : Int32)
  · refine own_go (fun _ k => XS.ifYes X0.here hx rfl (pc0 := 302) (pc' := 314) rfl (hb hby at_302) rfl ((if0 _ _).trans (tlt hA).1) (by decide) (by decide) k) ?_
    show own_Run p e below _ T0 (mkF m 314 #[.val (.int p1), .val (.int p2), .val (.int x2), .val (.ref o), .val (.int lo), .val (.int hi), .val (.int y), .val (.int (y - lo)), .val (.int (hi - y)), .unset] [])
    refine own_go (fun _ k => XS.iconst X0.here hx rfl (hb hby at_314) k) ?_
    refine own_go (fun _ k => XS.istore X0.here hx rfl (hb hby at_315) rfl (l' := #[.val (.int p1), .val (.int p2), .val (.int x2), .val (.ref o), .val (.int lo), .val (.int hi), .val (.int y), .val (.int (y - lo)), .val (.int (hi - y)), .val (.int (0 : Int32))]) rfl k) ?_
    refine own_go (fun _ k => XS.aloadN X0.here hx rfl (hb hby at_317) rfl rfl k) ?_
    refine own_go (fun _ k => XS.iload X0.here hx rfl (hb hby at_318) rfl k) ?_
    show own_Run p e below _ T0 (mkF m 320 #[.val (.int p1), .val (.int p2), .val (.int x2), .val (.ref o), .val (.int lo), .val (.int hi), .val (.int y), .val (.int (y - lo)), .val (.int (hi - y)), .val (.int (0 : Int32))] [(.int y), (.ref o)])
    obtain ⟨cq6, kq6, q6a, q6b, q6c⟩ := isOf hZ e0 E_o
    obtain ⟨_, _, ⟨T6, L6, k6, n6⟩, -, X6, ⟨Lc6, hQ6, l6, y6, z6⟩, st6⟩ := X0.virtualBack hx (y := (⟨"com/example/tote/tote/service/Api", "serves", "(S)Z"⟩ : MethodName)) (z := (⟨"com/example/tote/tote/service/Api", "serves", "(S)Z"⟩ : MethodName)) hown (mvT hZ (W 4 rfl)) (mvT hZ (W 5 rfl)) (notFace_of_selects (args := #[]) (mvT hZ (W 7 rfl))) (mvT hZ (W 7 rfl)) (mvT hZ (W 6 rfl)) (by decide) (backOf (W := 0) (rm1 l Z a0 hw [] o y lo hi (0 : Int32) hh n0 Z0 F_mMinVersion_o F_mMaxVersion_o (Or.inl ⟨hl.mp hA, rfl⟩)) hZ (W 8 rfl) (W 2 rfl) (by decide) (by decide)) q6a q6c (g := (mkF m 320 #[.val (.int p1), .val (.int p2), .val (.int x2), .val (.ref o), .val (.int lo), .val (.int hi), .val (.int y), .val (.int (y - lo)), .val (.int (hi - y)), .val (.int (0 : Int32))] [(.int y), (.ref o)])) rfl (by rw [hml]; rfl) (Steps.refl _) (argsL := [(.int y)]) (rest := []) (lenOf pd_1 rfl) rfl (by show 2 * 0 + _ ≤ _; exact Nat.le_of_eq rfl) (hb hby at_320) (fun _ _ => ⟨rfl, e0, (by decide : 0 + 0 ≤ _), (by decide : 0 + 0 ≤ _)⟩)
    dsimp only [Pt.U, Pt.locs, Pt.cells, Pt.slots] at X6 l6 y6 z6 st6 hQ6
    subst l6 y6 z6
    obtain ⟨rfl, N6q, e6⟩ := hQ6
    have N6 := Fr.app N0 N6q
    refine own_goT st6 ?_
    show own_Run p e below _ T6 (mkF m 323 #[.val (.int p1), .val (.int p2), .val (.int x2), .val (.ref o), .val (.int lo), .val (.int hi), .val (.int y), .val (.int (y - lo)), .val (.int (hi - y)), .val (.int (0 : Int32))] [(.int (0 : Int32))])
    refine own_go (fun _ k => XS.iload X6.here hx rfl (hb hby at_323) rfl k) ?_
    show own_Run p e below _ T6 (mkF m 325 #[.val (.int p1), .val (.int p2), .val (.int x2), .val (.ref o), .val (.int lo), .val (.int hi), .val (.int y), .val (.int (y - lo)), .val (.int (hi - y)), .val (.int (0 : Int32))] [(.int (0 : Int32)), (.int (0 : Int32))])
    refine own_go (fun _ k => XS.icmpNo X6.here hx rfl (hb hby at_325) rfl (teq (by decide : (0 : Int32) = (0 : Int32))).2 k) ?_
    show own_Run p e below _ T6 (mkF m 328 #[.val (.int p1), .val (.int p2), .val (.int x2), .val (.ref o), .val (.int lo), .val (.int hi), .val (.int y), .val (.int (y - lo)), .val (.int (hi - y)), .val (.int (0 : Int32))] [])
    refine own_go (fun _ k => XS.iconst X6.here hx rfl (hb hby at_328) k) ?_
    refine own_go (fun _ k => XS.goto X6.here hx rfl (pc0 := 329) (pc' := 333) rfl (hb hby at_329) (by decide) (by decide) k) ?_
    show own_Run p e below _ T6 (mkF m 333 #[.val (.int p1), .val (.int p2), .val (.int x2), .val (.ref o), .val (.int lo), .val (.int hi), .val (.int y), .val (.int (y - lo)), .val (.int (hi - y)), .val (.int (0 : Int32))] [(.int (1 : Int32))])
    refine own_done (Q := fun v h L => Q0 Z p1 p2 o0 o1 o2 o3 o4 o5 o6 o7 o8 o9 o10 o11 o12 o13 o14 h0 n0 v h L) (v := (some (.int (1 : Int32)))) X6 (fun h => by rw [hret] at h; cases h) hlk (fun fs hr => retN X6 hx (t := .boolean) hret (by simp) (hb hby at_333) hr) ?_ (by decide) (by decide)
    show Q0 Z p1 p2 o0 o1 o2 o3 o4 o5 o6 o7 o8 o9 o10 o11 o12 o13 o14 h0 n0 _ T6.heap _
    rw [e6]
    exact ⟨rfl, N6⟩
  · refine own_go (fun _ k => XS.ifNo X0.here hx rfl (hb hby at_302) rfl ((if0 _ _).trans (flt hA).1) k) ?_
    show own_Run p e below _ T0 (mkF m 305 #[.val (.int p1), .val (.int p2), .val (.int x2), .val (.ref o), .val (.int lo), .val (.int hi), .val (.int y), .val (.int (y - lo)), .val (.int (hi - y)), .unset] [])
    refine own_go (fun _ k => XS.iload X0.here hx rfl (hb hby at_305) rfl k) ?_
    show own_Run p e below _ T0 (mkF m 307 #[.val (.int p1), .val (.int p2), .val (.int x2), .val (.ref o), .val (.int lo), .val (.int hi), .val (.int y), .val (.int (y - lo)), .val (.int (hi - y)), .unset] [(.int (hi - y))])
    by_cases hB : (hi - y) < (0 : Int32)
    · refine own_go (fun _ k => XS.ifYes X0.here hx rfl (pc0 := 307) (pc' := 314) rfl (hb hby at_307) rfl ((if0 _ _).trans (tlt hB).1) (by decide) (by decide) k) ?_
      show own_Run p e below _ T0 (mkF m 314 #[.val (.int p1), .val (.int p2), .val (.int x2), .val (.ref o), .val (.int lo), .val (.int hi), .val (.int y), .val (.int (y - lo)), .val (.int (hi - y)), .unset] [])
      refine own_go (fun _ k => XS.iconst X0.here hx rfl (hb hby at_314) k) ?_
      refine own_go (fun _ k => XS.istore X0.here hx rfl (hb hby at_315) rfl (l' := #[.val (.int p1), .val (.int p2), .val (.int x2), .val (.ref o), .val (.int lo), .val (.int hi), .val (.int y), .val (.int (y - lo)), .val (.int (hi - y)), .val (.int (0 : Int32))]) rfl k) ?_
      refine own_go (fun _ k => XS.aloadN X0.here hx rfl (hb hby at_317) rfl rfl k) ?_
      refine own_go (fun _ k => XS.iload X0.here hx rfl (hb hby at_318) rfl k) ?_
      show own_Run p e below _ T0 (mkF m 320 #[.val (.int p1), .val (.int p2), .val (.int x2), .val (.ref o), .val (.int lo), .val (.int hi), .val (.int y), .val (.int (y - lo)), .val (.int (hi - y)), .val (.int (0 : Int32))] [(.int y), (.ref o)])
      obtain ⟨cq7, kq7, q7a, q7b, q7c⟩ := isOf hZ e0 E_o
      obtain ⟨_, _, ⟨T7, L7, k7, n7⟩, -, X7, ⟨Lc7, hQ7, l7, y7, z7⟩, st7⟩ := X0.virtualBack hx (y := (⟨"com/example/tote/tote/service/Api", "serves", "(S)Z"⟩ : MethodName)) (z := (⟨"com/example/tote/tote/service/Api", "serves", "(S)Z"⟩ : MethodName)) hown (mvT hZ (W 4 rfl)) (mvT hZ (W 5 rfl)) (notFace_of_selects (args := #[]) (mvT hZ (W 7 rfl))) (mvT hZ (W 7 rfl)) (mvT hZ (W 6 rfl)) (by decide) (backOf (W := 0) (rm1 l Z a0 hw [] o y lo hi (0 : Int32) hh n0 Z0 F_mMinVersion_o F_mMaxVersion_o (Or.inr (Or.inl ⟨fun k => hA (hl.mpr k), hm.mp hB, rfl⟩))) hZ (W 8 rfl) (W 2 rfl) (by decide) (by decide)) q7a q7c (g := (mkF m 320 #[.val (.int p1), .val (.int p2), .val (.int x2), .val (.ref o), .val (.int lo), .val (.int hi), .val (.int y), .val (.int (y - lo)), .val (.int (hi - y)), .val (.int (0 : Int32))] [(.int y), (.ref o)])) rfl (by rw [hml]; rfl) (Steps.refl _) (argsL := [(.int y)]) (rest := []) (lenOf pd_1 rfl) rfl (by show 2 * 0 + _ ≤ _; exact Nat.le_of_eq rfl) (hb hby at_320) (fun _ _ => ⟨rfl, e0, (by decide : 0 + 0 ≤ _), (by decide : 0 + 0 ≤ _)⟩)
      dsimp only [Pt.U, Pt.locs, Pt.cells, Pt.slots] at X7 l7 y7 z7 st7 hQ7
      subst l7 y7 z7
      obtain ⟨rfl, N7q, e7⟩ := hQ7
      have N7 := Fr.app N0 N7q
      refine own_goT st7 ?_
      show own_Run p e below _ T7 (mkF m 323 #[.val (.int p1), .val (.int p2), .val (.int x2), .val (.ref o), .val (.int lo), .val (.int hi), .val (.int y), .val (.int (y - lo)), .val (.int (hi - y)), .val (.int (0 : Int32))] [(.int (0 : Int32))])
      refine own_go (fun _ k => XS.iload X7.here hx rfl (hb hby at_323) rfl k) ?_
      show own_Run p e below _ T7 (mkF m 325 #[.val (.int p1), .val (.int p2), .val (.int x2), .val (.ref o), .val (.int lo), .val (.int hi), .val (.int y), .val (.int (y - lo)), .val (.int (hi - y)), .val (.int (0 : Int32))] [(.int (0 : Int32)), (.int (0 : Int32))])
      refine own_go (fun _ k => XS.icmpNo X7.here hx rfl (hb hby at_325) rfl (teq (by decide : (0 : Int32) = (0 : Int32))).2 k) ?_
      show own_Run p e below _ T7 (mkF m 328 #[.val (.int p1), .val (.int p2), .val (.int x2), .val (.ref o), .val (.int lo), .val (.int hi), .val (.int y), .val (.int (y - lo)), .val (.int (hi - y)), .val (.int (0 : Int32))] [])
      refine own_go (fun _ k => XS.iconst X7.here hx rfl (hb hby at_328) k) ?_
      refine own_go (fun _ k => XS.goto X7.here hx rfl (pc0 := 329) (pc' := 333) rfl (hb hby at_329) (by decide) (by decide) k) ?_
      show own_Run p e below _ T7 (mkF m 333 #[.val (.int p1), .val (.int p2), .val (.int x2), .val (.ref o), .val (.int lo), .val (.int hi), .val (.int y), .val (.int (y - lo)), .val (.int (hi - y)), .val (.int (0 : Int32))] [(.int (1 : Int32))])
      refine own_done (Q := fun v h L => Q0 Z p1 p2 o0 o1 o2 o3 o4 o5 o6 o7 o8 o9 o10 o11 o12 o13 o14 h0 n0 v h L) (v := (some (.int (1 : Int32)))) X7 (fun h => by rw [hret] at h; cases h) hlk (fun fs hr => retN X7 hx (t := .boolean) hret (by simp) (hb hby at_333) hr) ?_ (by decide) (by decide)
      show Q0 Z p1 p2 o0 o1 o2 o3 o4 o5 o6 o7 o8 o9 o10 o11 o12 o13 o14 h0 n0 _ T7.heap _
      rw [e7]
      exact ⟨rfl, N7⟩
    · refine own_go (fun _ k => XS.ifNo X0.here hx rfl (hb hby at_307) rfl ((if0 _ _).trans (flt hB).1) k) ?_
      show own_Run p e below _ T0 (mkF m 310 #[.val (.int p1), .val (.int p2), .val (.int x2), .val (.ref o), .val (.int lo), .val (.int hi), .val (.int y), .val (.int (y - lo)), .val (.int (hi - y)), .unset] [])
      refine own_go (fun _ k => XS.iconst X0.here hx rfl (hb hby at_310) k) ?_
      refine own_go (fun _ k => XS.goto X0.here hx rfl (pc0 := 311) (pc' := 315) rfl (hb hby at_311) (by decide) (by decide) k) ?_
      refine own_go (fun _ k => XS.istore X0.here hx rfl (hb hby at_315) rfl (l' := #[.val (.int p1), .val (.int p2), .val (.int x2), .val (.ref o), .val (.int lo), .val (.int hi), .val (.int y), .val (.int (y - lo)), .val (.int (hi - y)), .val (.int (1 : Int32))]) rfl k) ?_
      refine own_go (fun _ k => XS.aloadN X0.here hx rfl (hb hby at_317) rfl rfl k) ?_
      show own_Run p e below _ T0 (mkF m 318 #[.val (.int p1), .val (.int p2), .val (.int x2), .val (.ref o), .val (.int lo), .val (.int hi), .val (.int y), .val (.int (y - lo)), .val (.int (hi - y)), .val (.int (1 : Int32))] [(.ref o)])
      refine own_go (fun _ k => XS.iload X0.here hx rfl (hb hby at_318) rfl k) ?_
      show own_Run p e below _ T0 (mkF m 320 #[.val (.int p1), .val (.int p2), .val (.int x2), .val (.ref o), .val (.int lo), .val (.int hi), .val (.int y), .val (.int (y - lo)), .val (.int (hi - y)), .val (.int (1 : Int32))] [(.int y), (.ref o)])
      obtain ⟨cq8, kq8, q8a, q8b, q8c⟩ := isOf hZ e0 E_o
      obtain ⟨_, _, ⟨T8, L8, k8, n8⟩, -, X8, ⟨Lc8, hQ8, l8, y8, z8⟩, st8⟩ := X0.virtualBack hx (y := (⟨"com/example/tote/tote/service/Api", "serves", "(S)Z"⟩ : MethodName)) (z := (⟨"com/example/tote/tote/service/Api", "serves", "(S)Z"⟩ : MethodName)) hown (mvT hZ (W 4 rfl)) (mvT hZ (W 5 rfl)) (notFace_of_selects (args := #[]) (mvT hZ (W 7 rfl))) (mvT hZ (W 7 rfl)) (mvT hZ (W 6 rfl)) (by decide) (backOf (W := 0) (rm1 l Z a0 hw [] o y lo hi (1 : Int32) hh n0 Z0 F_mMinVersion_o F_mMaxVersion_o (Or.inr (Or.inr ⟨fun k => hA (hl.mpr k), fun k => hB (hm.mpr k), rfl⟩))) hZ (W 8 rfl) (W 2 rfl) (by decide) (by decide)) q8a q8c (g := (mkF m 320 #[.val (.int p1), .val (.int p2), .val (.int x2), .val (.ref o), .val (.int lo), .val (.int hi), .val (.int y), .val (.int (y - lo)), .val (.int (hi - y)), .val (.int (1 : Int32))] [(.int y), (.ref o)])) rfl (by rw [hml]; rfl) (Steps.refl _) (argsL := [(.int y)]) (rest := []) (lenOf pd_1 rfl) rfl (by show 2 * 0 + _ ≤ _; exact Nat.le_of_eq rfl) (hb hby at_320) (fun _ _ => ⟨rfl, e0, (by decide : 0 + 0 ≤ _), (by decide : 0 + 0 ≤ _)⟩)
      dsimp only [Pt.U, Pt.locs, Pt.cells, Pt.slots] at X8 l8 y8 z8 st8 hQ8
      subst l8 y8 z8
      obtain ⟨rfl, N8q, e8⟩ := hQ8
      have N8 := Fr.app N0 N8q
      refine own_goT st8 ?_
      show own_Run p e below _ T8 (mkF m 323 #[.val (.int p1), .val (.int p2), .val (.int x2), .val (.ref o), .val (.int lo), .val (.int hi), .val (.int y), .val (.int (y - lo)), .val (.int (hi - y)), .val (.int (1 : Int32))] [(.int (1 : Int32))])
      refine own_go (fun _ k => XS.iload X8.here hx rfl (hb hby at_323) rfl k) ?_
      show own_Run p e below _ T8 (mkF m 325 #[.val (.int p1), .val (.int p2), .val (.int x2), .val (.ref o), .val (.int lo), .val (.int hi), .val (.int y), .val (.int (y - lo)), .val (.int (hi - y)), .val (.int (1 : Int32))] [(.int (1 : Int32)), (.int (1 : Int32))])
      refine own_go (fun _ k => XS.icmpNo X8.here hx rfl (hb hby at_325) rfl (teq (by decide : (1 : Int32) = (1 : Int32))).2 k) ?_
      show own_Run p e below _ T8 (mkF m 328 #[.val (.int p1), .val (.int p2), .val (.int x2), .val (.ref o), .val (.int lo), .val (.int hi), .val (.int y), .val (.int (y - lo)), .val (.int (hi - y)), .val (.int (1 : Int32))] [])
      refine own_go (fun _ k => XS.iconst X8.here hx rfl (hb hby at_328) k) ?_
      refine own_go (fun _ k => XS.goto X8.here hx rfl (pc0 := 329) (pc' := 333) rfl (hb hby at_329) (by decide) (by decide) k) ?_
      show own_Run p e below _ T8 (mkF m 333 #[.val (.int p1), .val (.int p2), .val (.int x2), .val (.ref o), .val (.int lo), .val (.int hi), .val (.int y), .val (.int (y - lo)), .val (.int (hi - y)), .val (.int (1 : Int32))] [(.int (1 : Int32))])
      refine own_done (Q := fun v h L => Q0 Z p1 p2 o0 o1 o2 o3 o4 o5 o6 o7 o8 o9 o10 o11 o12 o13 o14 h0 n0 v h L) (v := (some (.int (1 : Int32)))) X8 (fun h => by rw [hret] at h; cases h) hlk (fun fs hr => retN X8 hx (t := .boolean) hret (by simp) (hb hby at_333) hr) ?_ (by decide) (by decide)
      show Q0 Z p1 p2 o0 o1 o2 o3 o4 o5 o6 o7 o8 o9 o10 o11 o12 o13 o14 h0 n0 _ T8.heap _
      rw [e8]
      exact ⟨rfl, N8⟩
theorem ef_0 (m : MethodId) (x0 : Int32) (x1 : Int32) : entryFrame m #[(.int x0), (.int x1)] maxLocals = mkF m 0 #[.val (.int x0), .val (.int x1), .unset, .unset, .unset, .unset, .unset, .unset, .unset, .unset] [] := by first | (simp [entryFrame, mkF, argsToLocals, Value.category, maxLocals]; done) | rfl
set_option maxRecDepth 65536 in
set_option maxHeartbeats 40000000 in
theorem rm0 (l : Launch) (Z : State) (a0 : Array Value) (hw : ∀ d ∈ tables_1, d.before a0 Z = true) (ws : List Jvm.Cond) (p1 : Int32) (p2 : Int32) (o0 : Addr) (o1 : Addr) (o2 : Addr) (o3 : Addr) (o4 : Addr) (o5 : Addr) (o6 : Addr) (o7 : Addr) (o8 : Addr) (o9 : Addr) (o10 : Addr) (o11 : Addr) (o12 : Addr) (o13 : Addr) (o14 : Addr) (h0 : Heap) (n0 : Nat) (Z0 : n0 ≤ h0.size) (S_PRODUCE : Sta Z h0 "com/example/tote/tote/service/Api" "PRODUCE" "Lcom/example/tote/tote/service/Api;" (.ref o0)) (E_o0 : Exa Z h0 o0 "com/example/tote/tote/service/Api") (F_mMinVersion_o0 : Fld Z h0 o0 "com/example/tote/tote/service/Api" "mMinVersion" "S" (.int (3 : Int32))) (F_mMaxVersion_o0 : Fld Z h0 o0 "com/example/tote/tote/service/Api" "mMaxVersion" "S" (.int (8 : Int32))) (S_INIT_PRODUCER_ID : Sta Z h0 "com/example/tote/tote/service/Api" "INIT_PRODUCER_ID" "Lcom/example/tote/tote/service/Api;" (.ref o1)) (E_o1 : Exa Z h0 o1 "com/example/tote/tote/service/Api") (F_mMinVersion_o1 : Fld Z h0 o1 "com/example/tote/tote/service/Api" "mMinVersion" "S" (.int (0 : Int32))) (F_mMaxVersion_o1 : Fld Z h0 o1 "com/example/tote/tote/service/Api" "mMaxVersion" "S" (.int (4 : Int32))) (S_METADATA : Sta Z h0 "com/example/tote/tote/service/Api" "METADATA" "Lcom/example/tote/tote/service/Api;" (.ref o2)) (E_o2 : Exa Z h0 o2 "com/example/tote/tote/service/Api") (F_mMinVersion_o2 : Fld Z h0 o2 "com/example/tote/tote/service/Api" "mMinVersion" "S" (.int (0 : Int32))) (F_mMaxVersion_o2 : Fld Z h0 o2 "com/example/tote/tote/service/Api" "mMaxVersion" "S" (.int (8 : Int32))) (S_API_VERSIONS : Sta Z h0 "com/example/tote/tote/service/Api" "API_VERSIONS" "Lcom/example/tote/tote/service/Api;" (.ref o3)) (E_o3 : Exa Z h0 o3 "com/example/tote/tote/service/Api") (F_mMinVersion_o3 : Fld Z h0 o3 "com/example/tote/tote/service/Api" "mMinVersion" "S" (.int (0 : Int32))) (F_mMaxVersion_o3 : Fld Z h0 o3 "com/example/tote/tote/service/Api" "mMaxVersion" "S" (.int (3 : Int32))) (S_FETCH : Sta Z h0 "com/example/tote/tote/service/Api" "FETCH" "Lcom/example/tote/tote/service/Api;" (.ref o4)) (E_o4 : Exa Z h0 o4 "com/example/tote/tote/service/Api") (F_mMinVersion_o4 : Fld Z h0 o4 "com/example/tote/tote/service/Api" "mMinVersion" "S" (.int (4 : Int32))) (F_mMaxVersion_o4 : Fld Z h0 o4 "com/example/tote/tote/service/Api" "mMaxVersion" "S" (.int (11 : Int32))) (S_OFFSET_COMMIT : Sta Z h0 "com/example/tote/tote/service/Api" "OFFSET_COMMIT" "Lcom/example/tote/tote/service/Api;" (.ref o5)) (E_o5 : Exa Z h0 o5 "com/example/tote/tote/service/Api") (F_mMinVersion_o5 : Fld Z h0 o5 "com/example/tote/tote/service/Api" "mMinVersion" "S" (.int (0 : Int32))) (F_mMaxVersion_o5 : Fld Z h0 o5 "com/example/tote/tote/service/Api" "mMaxVersion" "S" (.int (7 : Int32))) (S_FIND_COORDINATOR : Sta Z h0 "com/example/tote/tote/service/Api" "FIND_COORDINATOR" "Lcom/example/tote/tote/service/Api;" (.ref o6)) (E_o6 : Exa Z h0 o6 "com/example/tote/tote/service/Api") (F_mMinVersion_o6 : Fld Z h0 o6 "com/example/tote/tote/service/Api" "mMinVersion" "S" (.int (0 : Int32))) (F_mMaxVersion_o6 : Fld Z h0 o6 "com/example/tote/tote/service/Api" "mMaxVersion" "S" (.int (2 : Int32))) (S_HEARTBEAT : Sta Z h0 "com/example/tote/tote/service/Api" "HEARTBEAT" "Lcom/example/tote/tote/service/Api;" (.ref o7)) (E_o7 : Exa Z h0 o7 "com/example/tote/tote/service/Api") (F_mMinVersion_o7 : Fld Z h0 o7 "com/example/tote/tote/service/Api" "mMinVersion" "S" (.int (0 : Int32))) (F_mMaxVersion_o7 : Fld Z h0 o7 "com/example/tote/tote/service/Api" "mMaxVersion" "S" (.int (3 : Int32))) (S_CREATE_TOPICS : Sta Z h0 "com/example/tote/tote/service/Api" "CREATE_TOPICS" "Lcom/example/tote/tote/service/Api;" (.ref o8)) (E_o8 : Exa Z h0 o8 "com/example/tote/tote/service/Api") (F_mMinVersion_o8 : Fld Z h0 o8 "com/example/tote/tote/service/Api" "mMinVersion" "S" (.int (0 : Int32))) (F_mMaxVersion_o8 : Fld Z h0 o8 "com/example/tote/tote/service/Api" "mMaxVersion" "S" (.int (4 : Int32))) (S_LEAVE_GROUP : Sta Z h0 "com/example/tote/tote/service/Api" "LEAVE_GROUP" "Lcom/example/tote/tote/service/Api;" (.ref o9)) (E_o9 : Exa Z h0 o9 "com/example/tote/tote/service/Api") (F_mMinVersion_o9 : Fld Z h0 o9 "com/example/tote/tote/service/Api" "mMinVersion" "S" (.int (0 : Int32))) (F_mMaxVersion_o9 : Fld Z h0 o9 "com/example/tote/tote/service/Api" "mMaxVersion" "S" (.int (3 : Int32))) (S_JOIN_GROUP : Sta Z h0 "com/example/tote/tote/service/Api" "JOIN_GROUP" "Lcom/example/tote/tote/service/Api;" (.ref o10)) (E_o10 : Exa Z h0 o10 "com/example/tote/tote/service/Api") (F_mMinVersion_o10 : Fld Z h0 o10 "com/example/tote/tote/service/Api" "mMinVersion" "S" (.int (0 : Int32))) (F_mMaxVersion_o10 : Fld Z h0 o10 "com/example/tote/tote/service/Api" "mMaxVersion" "S" (.int (5 : Int32))) (S_LIST_OFFSETS : Sta Z h0 "com/example/tote/tote/service/Api" "LIST_OFFSETS" "Lcom/example/tote/tote/service/Api;" (.ref o11)) (E_o11 : Exa Z h0 o11 "com/example/tote/tote/service/Api") (F_mMinVersion_o11 : Fld Z h0 o11 "com/example/tote/tote/service/Api" "mMinVersion" "S" (.int (0 : Int32))) (F_mMaxVersion_o11 : Fld Z h0 o11 "com/example/tote/tote/service/Api" "mMaxVersion" "S" (.int (5 : Int32))) (S_SYNC_GROUP : Sta Z h0 "com/example/tote/tote/service/Api" "SYNC_GROUP" "Lcom/example/tote/tote/service/Api;" (.ref o12)) (E_o12 : Exa Z h0 o12 "com/example/tote/tote/service/Api") (F_mMinVersion_o12 : Fld Z h0 o12 "com/example/tote/tote/service/Api" "mMinVersion" "S" (.int (0 : Int32))) (F_mMaxVersion_o12 : Fld Z h0 o12 "com/example/tote/tote/service/Api" "mMaxVersion" "S" (.int (3 : Int32))) (S_OFFSET_FETCH : Sta Z h0 "com/example/tote/tote/service/Api" "OFFSET_FETCH" "Lcom/example/tote/tote/service/Api;" (.ref o13)) (E_o13 : Exa Z h0 o13 "com/example/tote/tote/service/Api") (F_mMinVersion_o13 : Fld Z h0 o13 "com/example/tote/tote/service/Api" "mMinVersion" "S" (.int (0 : Int32))) (F_mMaxVersion_o13 : Fld Z h0 o13 "com/example/tote/tote/service/Api" "mMaxVersion" "S" (.int (7 : Int32))) (S_DELETE_TOPICS : Sta Z h0 "com/example/tote/tote/service/Api" "DELETE_TOPICS" "Lcom/example/tote/tote/service/Api;" (.ref o14)) (E_o14 : Exa Z h0 o14 "com/example/tote/tote/service/Api") (F_mMinVersion_o14 : Fld Z h0 o14 "com/example/tote/tote/service/Api" "mMinVersion" "S" (.int (0 : Int32))) (F_mMaxVersion_o14 : Fld Z h0 o14 "com/example/tote/tote/service/Api" "mMaxVersion" "S" (.int (3 : Int32))) :
    MetFree l x (head1 (Jvm.Cond.code x code maxLocals ret :: ws) room_1) (fun a U => a = #[(.int p1), (.int p2)] ∧ Z.Warmed39 U.vm ∧ U.heap = h0) (fun _ _ _ _ _ => True) (fun _ U o U' => ∃ v L, o = .returned v ∧ Q0 Z p1 p2 o0 o1 o2 o3 o4 o5 o6 o7 o8 o9 o10 o11 o12 o13 o14 h0 n0 v U'.heap L ∧ FrameEnd U o U' L room_1.cells room_1.slots) := by
  refine MetFree.of_bodySF (plainFor_of_name pn_0) hisR ?_
  intro p e s m args below meth c s₁ Bd hml0 hP hK
  obtain ⟨rfl, hZ, hh⟩ := hP
  have hx := Bd.exec
  have hby := Bd.bytes
  have hml : c.maxLocals = 10 := hml0
  have hown : s.vm.findClass "com/example/tote/tote/service/ApiServesPinLaw" = some m.cls := findClass_of_methodNamed Bd.named
  have hnm := (name_of_methodNamed Bd.named Bd.method).1
  have hret := Bd.returns
  have hlk : meth.locks = false := BodyLoose.notSynchronized Bd
  have X0 : Stand p l e room_1 s m #[(.int p1), (.int p2)] below meth c s₁ [] 0 0 := Stand.of_body Bd
  have e0 : s₁.heap = h0 := by rw [← hh, Bd.state]; rfl
  have N0 := Fr.nil n0
  have W := fun (k : Nat) {d : Jvm.Cond} (h : tables_1[k]? = some d) => hw d (List.mem_of_getElem? h)
  have K0 : Keep h0 h0 [] := Keep.refl _ _
  refine own_start (ef_0 m p1 p2) ?_
  show own_Run p e below _ s₁ (mkF m 0 #[.val (.int p1), .val (.int p2), .unset, .unset, .unset, .unset, .unset, .unset, .unset, .unset] [])
  refine own_go (fun _ k => XS.iloadN X0.here hx rfl (hb hby at_0) rfl k) ?_
  show own_Run p e below _ s₁ (mkF m 1 #[.val (.int p1), .val (.int p2), .unset, .unset, .unset, .unset, .unset, .unset, .unset, .unset] [(.int p1)])
  refine own_go (X0.ldcInt hx hown (mvT hZ (W 0 rfl)) (g := (mkF m 1 #[.val (.int p1), .val (.int p2), .unset, .unset, .unset, .unset, .unset, .unset, .unset, .unset] [(.int p1)])) rfl (hb hby at_1)) ?_
  show own_Run p e below _ s₁ (mkF m 3 #[.val (.int p1), .val (.int p2), .unset, .unset, .unset, .unset, .unset, .unset, .unset, .unset] [(.int (2147483647 : Int32)), (.int p1)])
  refine own_go (fun _ k => XS.iand X0.here hx rfl (hb hby at_3) rfl k) ?_
  refine own_go (fun _ k => XS.bipush X0.here hx rfl (hb hby at_4) k) ?_
  refine own_go (fun _ k => iremM X0 hx rfl (hb hby at_6) rfl (by decide) k) ?_
  show own_Run p e below _ s₁ (mkF m 7 #[.val (.int p1), .val (.int p2), .unset, .unset, .unset, .unset, .unset, .unset, .unset, .unset] [(.int ((p1 &&& (2147483647 : Int32)) % (15 : Int32)))])
  obtain ⟨x2, hx2⟩ : ∃ z, z = ((p1 &&& (2147483647 : Int32)) % (15 : Int32)) := ⟨_, rfl⟩
  rw [← hx2]
  show own_Run p e below _ s₁ (mkF m 7 #[.val (.int p1), .val (.int p2), .unset, .unset, .unset, .unset, .unset, .unset, .unset, .unset] [(.int x2)])
  refine own_go (fun _ k => XS.istoreN X0.here hx rfl (hb hby at_7) rfl (l' := #[.val (.int p1), .val (.int p2), .val (.int x2), .unset, .unset, .unset, .unset, .unset, .unset, .unset]) rfl k) ?_
  refine own_go (fun _ k => XS.iloadN X0.here hx rfl (hb hby at_8) rfl k) ?_
  show own_Run p e below _ s₁ (mkF m 9 #[.val (.int p1), .val (.int p2), .val (.int x2), .unset, .unset, .unset, .unset, .unset, .unset, .unset] [(.int x2)])
  by_cases hc9_9 : x2 = (0 : Int32)
  · refine own_go (fun _ k => XS.ifNo X0.here hx rfl (hb hby at_9) rfl ((if0 _ _).trans (teq hc9_9).2) k) ?_
    show own_Run p e below _ s₁ (mkF m 12 #[.val (.int p1), .val (.int p2), .val (.int x2), .unset, .unset, .unset, .unset, .unset, .unset, .unset] [])
    obtain ⟨T10, X10, e10, st10⟩ := getS2 X0 hx hZ hown (host := "") (Or.inl (W 1 rfl)) Via.refl e0 S_PRODUCE (g := (mkF m 12 #[.val (.int p1), .val (.int p2), .val (.int x2), .unset, .unset, .unset, .unset, .unset, .unset, .unset] [])) rfl (hb hby at_12)
    refine own_go st10 ?_
    show own_Run p e below _ T10 (mkF m 15 #[.val (.int p1), .val (.int p2), .val (.int x2), .unset, .unset, .unset, .unset, .unset, .unset, .unset] [(.ref o0)])
    refine own_go (fun _ k => XS.astoreN X10.here hx rfl (hb hby at_15) rfl rfl (l' := #[.val (.int p1), .val (.int p2), .val (.int x2), .val (.ref o0), .unset, .unset, .unset, .unset, .unset, .unset]) rfl k) ?_
    refine own_go (fun _ k => XS.iconst X10.here hx rfl (hb hby at_16) k) ?_
    refine own_go (fun _ k => XS.istore X10.here hx rfl (hb hby at_17) rfl (l' := #[.val (.int p1), .val (.int p2), .val (.int x2), .val (.ref o0), .val (.int (3 : Int32)), .unset, .unset, .unset, .unset, .unset]) rfl k) ?_
    refine own_go (fun _ k => XS.bipush X10.here hx rfl (hb hby at_19) k) ?_
    show own_Run p e below _ T10 (mkF m 21 #[.val (.int p1), .val (.int p2), .val (.int x2), .val (.ref o0), .val (.int (3 : Int32)), .unset, .unset, .unset, .unset, .unset] [(.int (8 : Int32))])
    refine own_go (fun _ k => XS.istore X10.here hx rfl (hb hby at_21) rfl (l' := #[.val (.int p1), .val (.int p2), .val (.int x2), .val (.ref o0), .val (.int (3 : Int32)), .val (.int (8 : Int32)), .unset, .unset, .unset, .unset]) rfl k) ?_
    refine own_go (fun _ k => XS.goto X10.here hx rfl (pc0 := 23) (pc' := 282) rfl (hb hby at_23) (by decide) (by decide) k) ?_
    show own_Run p e below _ T10 (mkF m 282 #[.val (.int p1), .val (.int p2), .val (.int x2), .val (.ref o0), .val (.int (3 : Int32)), .val (.int (8 : Int32)), .unset, .unset, .unset, .unset] [])
    exact tail0 p1 p2 o0 o1 o2 o3 o4 o5 o6 o7 o8 o9 o10 o11 o12 o13 o14 h0 n0 hx hZ hw hby hml hown hnm hret hlk x2 o0 (3 : Int32) (8 : Int32) T10 h0 _ X10 e10 N0 Z0 K0 E_o0 F_mMinVersion_o0 F_mMaxVersion_o0 (by decide) (by decide) (by decide) (by decide) 
  · refine own_go (fun _ k => XS.ifYes X0.here hx rfl (pc0 := 9) (pc' := 26) rfl (hb hby at_9) rfl ((if0 _ _).trans (feq hc9_9).2) (by decide) (by decide) k) ?_
    show own_Run p e below _ s₁ (mkF m 26 #[.val (.int p1), .val (.int p2), .val (.int x2), .unset, .unset, .unset, .unset, .unset, .unset, .unset] [])
    refine own_go (fun _ k => XS.iloadN X0.here hx rfl (hb hby at_26) rfl k) ?_
    refine own_go (fun _ k => XS.iconst X0.here hx rfl (hb hby at_27) k) ?_
    show own_Run p e below _ s₁ (mkF m 28 #[.val (.int p1), .val (.int p2), .val (.int x2), .unset, .unset, .unset, .unset, .unset, .unset, .unset] [(.int (1 : Int32)), (.int x2)])
    by_cases hc28_11 : x2 = (1 : Int32)
    · refine own_go (fun _ k => XS.icmpNo X0.here hx rfl (hb hby at_28) rfl (teq hc28_11).2 k) ?_
      show own_Run p e below _ s₁ (mkF m 31 #[.val (.int p1), .val (.int p2), .val (.int x2), .unset, .unset, .unset, .unset, .unset, .unset, .unset] [])
      obtain ⟨T12, X12, e12, st12⟩ := getS2 X0 hx hZ hown (host := "") (Or.inl (W 19 rfl)) Via.refl e0 S_FETCH (g := (mkF m 31 #[.val (.int p1), .val (.int p2), .val (.int x2), .unset, .unset, .unset, .unset, .unset, .unset, .unset] [])) rfl (hb hby at_31)
      refine own_go st12 ?_
      show own_Run p e below _ T12 (mkF m 34 #[.val (.int p1), .val (.int p2), .val (.int x2), .unset, .unset, .unset, .unset, .unset, .unset, .unset] [(.ref o4)])
      refine own_go (fun _ k => XS.astoreN X12.here hx rfl (hb hby at_34) rfl rfl (l' := #[.val (.int p1), .val (.int p2), .val (.int x2), .val (.ref o4), .unset, .unset, .unset, .unset, .unset, .unset]) rfl k) ?_
      refine own_go (fun _ k => XS.iconst X12.here hx rfl (hb hby at_35) k) ?_
      refine own_go (fun _ k => XS.istore X12.here hx rfl (hb hby at_36) rfl (l' := #[.val (.int p1), .val (.int p2), .val (.int x2), .val (.ref o4), .val (.int (4 : Int32)), .unset, .unset, .unset, .unset, .unset]) rfl k) ?_
      refine own_go (fun _ k => XS.bipush X12.here hx rfl (hb hby at_38) k) ?_
      show own_Run p e below _ T12 (mkF m 40 #[.val (.int p1), .val (.int p2), .val (.int x2), .val (.ref o4), .val (.int (4 : Int32)), .unset, .unset, .unset, .unset, .unset] [(.int (11 : Int32))])
      refine own_go (fun _ k => XS.istore X12.here hx rfl (hb hby at_40) rfl (l' := #[.val (.int p1), .val (.int p2), .val (.int x2), .val (.ref o4), .val (.int (4 : Int32)), .val (.int (11 : Int32)), .unset, .unset, .unset, .unset]) rfl k) ?_
      refine own_go (fun _ k => XS.goto X12.here hx rfl (pc0 := 42) (pc' := 282) rfl (hb hby at_42) (by decide) (by decide) k) ?_
      show own_Run p e below _ T12 (mkF m 282 #[.val (.int p1), .val (.int p2), .val (.int x2), .val (.ref o4), .val (.int (4 : Int32)), .val (.int (11 : Int32)), .unset, .unset, .unset, .unset] [])
      exact tail0 p1 p2 o0 o1 o2 o3 o4 o5 o6 o7 o8 o9 o10 o11 o12 o13 o14 h0 n0 hx hZ hw hby hml hown hnm hret hlk x2 o4 (4 : Int32) (11 : Int32) T12 h0 _ X12 e12 N0 Z0 K0 E_o4 F_mMinVersion_o4 F_mMaxVersion_o4 (by decide) (by decide) (by decide) (by decide) 
    · refine own_go (fun _ k => XS.icmpYes X0.here hx rfl (pc0 := 28) (pc' := 45) rfl (hb hby at_28) rfl (feq hc28_11).2 (by decide) (by decide) k) ?_
      show own_Run p e below _ s₁ (mkF m 45 #[.val (.int p1), .val (.int p2), .val (.int x2), .unset, .unset, .unset, .unset, .unset, .unset, .unset] [])
      refine own_go (fun _ k => XS.iloadN X0.here hx rfl (hb hby at_45) rfl k) ?_
      refine own_go (fun _ k => XS.iconst X0.here hx rfl (hb hby at_46) k) ?_
      show own_Run p e below _ s₁ (mkF m 47 #[.val (.int p1), .val (.int p2), .val (.int x2), .unset, .unset, .unset, .unset, .unset, .unset, .unset] [(.int (2 : Int32)), (.int x2)])
      by_cases hc47_13 : x2 = (2 : Int32)
      · refine own_go (fun _ k => XS.icmpNo X0.here hx rfl (hb hby at_47) rfl (teq hc47_13).2 k) ?_
        show own_Run p e below _ s₁ (mkF m 50 #[.val (.int p1), .val (.int p2), .val (.int x2), .unset, .unset, .unset, .unset, .unset, .unset, .unset] [])
        obtain ⟨T14, X14, e14, st14⟩ := getS2 X0 hx hZ hown (host := "") (Or.inl (W 33 rfl)) Via.refl e0 S_LIST_OFFSETS (g := (mkF m 50 #[.val (.int p1), .val (.int p2), .val (.int x2), .unset, .unset, .unset, .unset, .unset, .unset, .unset] [])) rfl (hb hby at_50)
        refine own_go st14 ?_
        show own_Run p e below _ T14 (mkF m 53 #[.val (.int p1), .val (.int p2), .val (.int x2), .unset, .unset, .unset, .unset, .unset, .unset, .unset] [(.ref o11)])
        refine own_go (fun _ k => XS.astoreN X14.here hx rfl (hb hby at_53) rfl rfl (l' := #[.val (.int p1), .val (.int p2), .val (.int x2), .val (.ref o11), .unset, .unset, .unset, .unset, .unset, .unset]) rfl k) ?_
        refine own_go (fun _ k => XS.iconst X14.here hx rfl (hb hby at_54) k) ?_
        refine own_go (fun _ k => XS.istore X14.here hx rfl (hb hby at_55) rfl (l' := #[.val (.int p1), .val (.int p2), .val (.int x2), .val (.ref o11), .val (.int (0 : Int32)), .unset, .unset, .unset, .unset, .unset]) rfl k) ?_
        refine own_go (fun _ k => XS.iconst X14.here hx rfl (hb hby at_57) k) ?_
        show own_Run p e below _ T14 (mkF m 58 #[.val (.int p1), .val (.int p2), .val (.int x2), .val (.ref o11), .val (.int (0 : Int32)), .unset, .unset, .unset, .unset, .unset] [(.int (5 : Int32))])
        refine own_go (fun _ k => XS.istore X14.here hx rfl (hb hby at_58) rfl (l' := #[.val (.int p1), .val (.int p2), .val (.int x2), .val (.ref o11), .val (.int (0 : Int32)), .val (.int (5 : Int32)), .unset, .unset, .unset, .unset]) rfl k) ?_
        refine own_go (fun _ k => XS.goto X14.here hx rfl (pc0 := 60) (pc' := 282) rfl (hb hby at_60) (by decide) (by decide) k) ?_
        show own_Run p e below _ T14 (mkF m 282 #[.val (.int p1), .val (.int p2), .val (.int x2), .val (.ref o11), .val (.int (0 : Int32)), .val (.int (5 : Int32)), .unset, .unset, .unset, .unset] [])
        exact tail0 p1 p2 o0 o1 o2 o3 o4 o5 o6 o7 o8 o9 o10 o11 o12 o13 o14 h0 n0 hx hZ hw hby hml hown hnm hret hlk x2 o11 (0 : Int32) (5 : Int32) T14 h0 _ X14 e14 N0 Z0 K0 E_o11 F_mMinVersion_o11 F_mMaxVersion_o11 (by decide) (by decide) (by decide) (by decide) 
      · refine own_go (fun _ k => XS.icmpYes X0.here hx rfl (pc0 := 47) (pc' := 63) rfl (hb hby at_47) rfl (feq hc47_13).2 (by decide) (by decide) k) ?_
        show own_Run p e below _ s₁ (mkF m 63 #[.val (.int p1), .val (.int p2), .val (.int x2), .unset, .unset, .unset, .unset, .unset, .unset, .unset] [])
        refine own_go (fun _ k => XS.iloadN X0.here hx rfl (hb hby at_63) rfl k) ?_
        refine own_go (fun _ k => XS.iconst X0.here hx rfl (hb hby at_64) k) ?_
        show own_Run p e below _ s₁ (mkF m 65 #[.val (.int p1), .val (.int p2), .val (.int x2), .unset, .unset, .unset, .unset, .unset, .unset, .unset] [(.int (3 : Int32)), (.int x2)])
        by_cases hc65_15 : x2 = (3 : Int32)
        · refine own_go (fun _ k => XS.icmpNo X0.here hx rfl (hb hby at_65) rfl (teq hc65_15).2 k) ?_
          show own_Run p e below _ s₁ (mkF m 68 #[.val (.int p1), .val (.int p2), .val (.int x2), .unset, .unset, .unset, .unset, .unset, .unset, .unset] [])
          obtain ⟨T16, X16, e16, st16⟩ := getS2 X0 hx hZ hown (host := "") (Or.inl (W 15 rfl)) Via.refl e0 S_METADATA (g := (mkF m 68 #[.val (.int p1), .val (.int p2), .val (.int x2), .unset, .unset, .unset, .unset, .unset, .unset, .unset] [])) rfl (hb hby at_68)
          refine own_go st16 ?_
          show own_Run p e below _ T16 (mkF m 71 #[.val (.int p1), .val (.int p2), .val (.int x2), .unset, .unset, .unset, .unset, .unset, .unset, .unset] [(.ref o2)])
          refine own_go (fun _ k => XS.astoreN X16.here hx rfl (hb hby at_71) rfl rfl (l' := #[.val (.int p1), .val (.int p2), .val (.int x2), .val (.ref o2), .unset, .unset, .unset, .unset, .unset, .unset]) rfl k) ?_
          refine own_go (fun _ k => XS.iconst X16.here hx rfl (hb hby at_72) k) ?_
          refine own_go (fun _ k => XS.istore X16.here hx rfl (hb hby at_73) rfl (l' := #[.val (.int p1), .val (.int p2), .val (.int x2), .val (.ref o2), .val (.int (0 : Int32)), .unset, .unset, .unset, .unset, .unset]) rfl k) ?_
          refine own_go (fun _ k => XS.bipush X16.here hx rfl (hb hby at_75) k) ?_
          show own_Run p e below _ T16 (mkF m 77 #[.val (.int p1), .val (.int p2), .val (.int x2), .val (.ref o2), .val (.int (0 : Int32)), .unset, .unset, .unset, .unset, .unset] [(.int (8 : Int32))])
          refine own_go (fun _ k => XS.istore X16.here hx rfl (hb hby at_77) rfl (l' := #[.val (.int p1), .val (.int p2), .val (.int x2), .val (.ref o2), .val (.int (0 : Int32)), .val (.int (8 : Int32)), .unset, .unset, .unset, .unset]) rfl k) ?_
          refine own_go (fun _ k => XS.goto X16.here hx rfl (pc0 := 79) (pc' := 282) rfl (hb hby at_79) (by decide) (by decide) k) ?_
          show own_Run p e below _ T16 (mkF m 282 #[.val (.int p1), .val (.int p2), .val (.int x2), .val (.ref o2), .val (.int (0 : Int32)), .val (.int (8 : Int32)), .unset, .unset, .unset, .unset] [])
          exact tail0 p1 p2 o0 o1 o2 o3 o4 o5 o6 o7 o8 o9 o10 o11 o12 o13 o14 h0 n0 hx hZ hw hby hml hown hnm hret hlk x2 o2 (0 : Int32) (8 : Int32) T16 h0 _ X16 e16 N0 Z0 K0 E_o2 F_mMinVersion_o2 F_mMaxVersion_o2 (by decide) (by decide) (by decide) (by decide) 
        · refine own_go (fun _ k => XS.icmpYes X0.here hx rfl (pc0 := 65) (pc' := 82) rfl (hb hby at_65) rfl (feq hc65_15).2 (by decide) (by decide) k) ?_
          show own_Run p e below _ s₁ (mkF m 82 #[.val (.int p1), .val (.int p2), .val (.int x2), .unset, .unset, .unset, .unset, .unset, .unset, .unset] [])
          refine own_go (fun _ k => XS.iloadN X0.here hx rfl (hb hby at_82) rfl k) ?_
          refine own_go (fun _ k => XS.iconst X0.here hx rfl (hb hby at_83) k) ?_
          show own_Run p e below _ s₁ (mkF m 84 #[.val (.int p1), .val (.int p2), .val (.int x2), .unset, .unset, .unset, .unset, .unset, .unset, .unset] [(.int (4 : Int32)), (.int x2)])
          by_cases hc84_17 : x2 = (4 : Int32)
          · refine own_go (fun _ k => XS.icmpNo X0.here hx rfl (hb hby at_84) rfl (teq hc84_17).2 k) ?_
            show own_Run p e below _ s₁ (mkF m 87 #[.val (.int p1), .val (.int p2), .val (.int x2), .unset, .unset, .unset, .unset, .unset, .unset, .unset] [])
            obtain ⟨T18, X18, e18, st18⟩ := getS2 X0 hx hZ hown (host := "") (Or.inl (W 21 rfl)) Via.refl e0 S_OFFSET_COMMIT (g := (mkF m 87 #[.val (.int p1), .val (.int p2), .val (.int x2), .unset, .unset, .unset, .unset, .unset, .unset, .unset] [])) rfl (hb hby at_87)
            refine own_go st18 ?_
            show own_Run p e below _ T18 (mkF m 90 #[.val (.int p1), .val (.int p2), .val (.int x2), .unset, .unset, .unset, .unset, .unset, .unset, .unset] [(.ref o5)])
            refine own_go (fun _ k => XS.astoreN X18.here hx rfl (hb hby at_90) rfl rfl (l' := #[.val (.int p1), .val (.int p2), .val (.int x2), .val (.ref o5), .unset, .unset, .unset, .unset, .unset, .unset]) rfl k) ?_
            refine own_go (fun _ k => XS.iconst X18.here hx rfl (hb hby at_91) k) ?_
            refine own_go (fun _ k => XS.istore X18.here hx rfl (hb hby at_92) rfl (l' := #[.val (.int p1), .val (.int p2), .val (.int x2), .val (.ref o5), .val (.int (0 : Int32)), .unset, .unset, .unset, .unset, .unset]) rfl k) ?_
            refine own_go (fun _ k => XS.bipush X18.here hx rfl (hb hby at_94) k) ?_
            show own_Run p e below _ T18 (mkF m 96 #[.val (.int p1), .val (.int p2), .val (.int x2), .val (.ref o5), .val (.int (0 : Int32)), .unset, .unset, .unset, .unset, .unset] [(.int (7 : Int32))])
            refine own_go (fun _ k => XS.istore X18.here hx rfl (hb hby at_96) rfl (l' := #[.val (.int p1), .val (.int p2), .val (.int x2), .val (.ref o5), .val (.int (0 : Int32)), .val (.int (7 : Int32)), .unset, .unset, .unset, .unset]) rfl k) ?_
            refine own_go (fun _ k => XS.goto X18.here hx rfl (pc0 := 98) (pc' := 282) rfl (hb hby at_98) (by decide) (by decide) k) ?_
            show own_Run p e below _ T18 (mkF m 282 #[.val (.int p1), .val (.int p2), .val (.int x2), .val (.ref o5), .val (.int (0 : Int32)), .val (.int (7 : Int32)), .unset, .unset, .unset, .unset] [])
            exact tail0 p1 p2 o0 o1 o2 o3 o4 o5 o6 o7 o8 o9 o10 o11 o12 o13 o14 h0 n0 hx hZ hw hby hml hown hnm hret hlk x2 o5 (0 : Int32) (7 : Int32) T18 h0 _ X18 e18 N0 Z0 K0 E_o5 F_mMinVersion_o5 F_mMaxVersion_o5 (by decide) (by decide) (by decide) (by decide) 
          · refine own_go (fun _ k => XS.icmpYes X0.here hx rfl (pc0 := 84) (pc' := 101) rfl (hb hby at_84) rfl (feq hc84_17).2 (by decide) (by decide) k) ?_
            show own_Run p e below _ s₁ (mkF m 101 #[.val (.int p1), .val (.int p2), .val (.int x2), .unset, .unset, .unset, .unset, .unset, .unset, .unset] [])
            refine own_go (fun _ k => XS.iloadN X0.here hx rfl (hb hby at_101) rfl k) ?_
            refine own_go (fun _ k => XS.iconst X0.here hx rfl (hb hby at_102) k) ?_
            show own_Run p e below _ s₁ (mkF m 103 #[.val (.int p1), .val (.int p2), .val (.int x2), .unset, .unset, .unset, .unset, .unset, .unset, .unset] [(.int (5 : Int32)), (.int x2)])
            by_cases hc103_19 : x2 = (5 : Int32)
            · refine own_go (fun _ k => XS.icmpNo X0.here hx rfl (hb hby at_103) rfl (teq hc103_19).2 k) ?_
              show own_Run p e below _ s₁ (mkF m 106 #[.val (.int p1), .val (.int p2), .val (.int x2), .unset, .unset, .unset, .unset, .unset, .unset, .unset] [])
              obtain ⟨T20, X20, e20, st20⟩ := getS2 X0 hx hZ hown (host := "") (Or.inl (W 37 rfl)) Via.refl e0 S_OFFSET_FETCH (g := (mkF m 106 #[.val (.int p1), .val (.int p2), .val (.int x2), .unset, .unset, .unset, .unset, .unset, .unset, .unset] [])) rfl (hb hby at_106)
              refine own_go st20 ?_
              show own_Run p e below _ T20 (mkF m 109 #[.val (.int p1), .val (.int p2), .val (.int x2), .unset, .unset, .unset, .unset, .unset, .unset, .unset] [(.ref o13)])
              refine own_go (fun _ k => XS.astoreN X20.here hx rfl (hb hby at_109) rfl rfl (l' := #[.val (.int p1), .val (.int p2), .val (.int x2), .val (.ref o13), .unset, .unset, .unset, .unset, .unset, .unset]) rfl k) ?_
              refine own_go (fun _ k => XS.iconst X20.here hx rfl (hb hby at_110) k) ?_
              refine own_go (fun _ k => XS.istore X20.here hx rfl (hb hby at_111) rfl (l' := #[.val (.int p1), .val (.int p2), .val (.int x2), .val (.ref o13), .val (.int (0 : Int32)), .unset, .unset, .unset, .unset, .unset]) rfl k) ?_
              refine own_go (fun _ k => XS.bipush X20.here hx rfl (hb hby at_113) k) ?_
              show own_Run p e below _ T20 (mkF m 115 #[.val (.int p1), .val (.int p2), .val (.int x2), .val (.ref o13), .val (.int (0 : Int32)), .unset, .unset, .unset, .unset, .unset] [(.int (7 : Int32))])
              refine own_go (fun _ k => XS.istore X20.here hx rfl (hb hby at_115) rfl (l' := #[.val (.int p1), .val (.int p2), .val (.int x2), .val (.ref o13), .val (.int (0 : Int32)), .val (.int (7 : Int32)), .unset, .unset, .unset, .unset]) rfl k) ?_
              refine own_go (fun _ k => XS.goto X20.here hx rfl (pc0 := 117) (pc' := 282) rfl (hb hby at_117) (by decide) (by decide) k) ?_
              show own_Run p e below _ T20 (mkF m 282 #[.val (.int p1), .val (.int p2), .val (.int x2), .val (.ref o13), .val (.int (0 : Int32)), .val (.int (7 : Int32)), .unset, .unset, .unset, .unset] [])
              exact tail0 p1 p2 o0 o1 o2 o3 o4 o5 o6 o7 o8 o9 o10 o11 o12 o13 o14 h0 n0 hx hZ hw hby hml hown hnm hret hlk x2 o13 (0 : Int32) (7 : Int32) T20 h0 _ X20 e20 N0 Z0 K0 E_o13 F_mMinVersion_o13 F_mMaxVersion_o13 (by decide) (by decide) (by decide) (by decide) 
            · refine own_go (fun _ k => XS.icmpYes X0.here hx rfl (pc0 := 103) (pc' := 120) rfl (hb hby at_103) rfl (feq hc103_19).2 (by decide) (by decide) k) ?_
              show own_Run p e below _ s₁ (mkF m 120 #[.val (.int p1), .val (.int p2), .val (.int x2), .unset, .unset, .unset, .unset, .unset, .unset, .unset] [])
              refine own_go (fun _ k => XS.iloadN X0.here hx rfl (hb hby at_120) rfl k) ?_
              refine own_go (fun _ k => XS.bipush X0.here hx rfl (hb hby at_121) k) ?_
              show own_Run p e below _ s₁ (mkF m 123 #[.val (.int p1), .val (.int p2), .val (.int x2), .unset, .unset, .unset, .unset, .unset, .unset, .unset] [(.int (6 : Int32)), (.int x2)])
              by_cases hc123_21 : x2 = (6 : Int32)
              · refine own_go (fun _ k => XS.icmpNo X0.here hx rfl (hb hby at_123) rfl (teq hc123_21).2 k) ?_
                show own_Run p e below _ s₁ (mkF m 126 #[.val (.int p1), .val (.int p2), .val (.int x2), .unset, .unset, .unset, .unset, .unset, .unset, .unset] [])
                obtain ⟨T22, X22, e22, st22⟩ := getS2 X0 hx hZ hown (host := "") (Or.inl (W 23 rfl)) Via.refl e0 S_FIND_COORDINATOR (g := (mkF m 126 #[.val (.int p1), .val (.int p2), .val (.int x2), .unset, .unset, .unset, .unset, .unset, .unset, .unset] [])) rfl (hb hby at_126)
                refine own_go st22 ?_
                show own_Run p e below _ T22 (mkF m 129 #[.val (.int p1), .val (.int p2), .val (.int x2), .unset, .unset, .unset, .unset, .unset, .unset, .unset] [(.ref o6)])
                refine own_go (fun _ k => XS.astoreN X22.here hx rfl (hb hby at_129) rfl rfl (l' := #[.val (.int p1), .val (.int p2), .val (.int x2), .val (.ref o6), .unset, .unset, .unset, .unset, .unset, .unset]) rfl k) ?_
                refine own_go (fun _ k => XS.iconst X22.here hx rfl (hb hby at_130) k) ?_
                refine own_go (fun _ k => XS.istore X22.here hx rfl (hb hby at_131) rfl (l' := #[.val (.int p1), .val (.int p2), .val (.int x2), .val (.ref o6), .val (.int (0 : Int32)), .unset, .unset, .unset, .unset, .unset]) rfl k) ?_
                refine own_go (fun _ k => XS.iconst X22.here hx rfl (hb hby at_133) k) ?_
                show own_Run p e below _ T22 (mkF m 134 #[.val (.int p1), .val (.int p2), .val (.int x2), .val (.ref o6), .val (.int (0 : Int32)), .unset, .unset, .unset, .unset, .unset] [(.int (2 : Int32))])
                refine own_go (fun _ k => XS.istore X22.here hx rfl (hb hby at_134) rfl (l' := #[.val (.int p1), .val (.int p2), .val (.int x2), .val (.ref o6), .val (.int (0 : Int32)), .val (.int (2 : Int32)), .unset, .unset, .unset, .unset]) rfl k) ?_
                refine own_go (fun _ k => XS.goto X22.here hx rfl (pc0 := 136) (pc' := 282) rfl (hb hby at_136) (by decide) (by decide) k) ?_
                show own_Run p e below _ T22 (mkF m 282 #[.val (.int p1), .val (.int p2), .val (.int x2), .val (.ref o6), .val (.int (0 : Int32)), .val (.int (2 : Int32)), .unset, .unset, .unset, .unset] [])
                exact tail0 p1 p2 o0 o1 o2 o3 o4 o5 o6 o7 o8 o9 o10 o11 o12 o13 o14 h0 n0 hx hZ hw hby hml hown hnm hret hlk x2 o6 (0 : Int32) (2 : Int32) T22 h0 _ X22 e22 N0 Z0 K0 E_o6 F_mMinVersion_o6 F_mMaxVersion_o6 (by decide) (by decide) (by decide) (by decide) 
              · refine own_go (fun _ k => XS.icmpYes X0.here hx rfl (pc0 := 123) (pc' := 139) rfl (hb hby at_123) rfl (feq hc123_21).2 (by decide) (by decide) k) ?_
                show own_Run p e below _ s₁ (mkF m 139 #[.val (.int p1), .val (.int p2), .val (.int x2), .unset, .unset, .unset, .unset, .unset, .unset, .unset] [])
                refine own_go (fun _ k => XS.iloadN X0.here hx rfl (hb hby at_139) rfl k) ?_
                refine own_go (fun _ k => XS.bipush X0.here hx rfl (hb hby at_140) k) ?_
                show own_Run p e below _ s₁ (mkF m 142 #[.val (.int p1), .val (.int p2), .val (.int x2), .unset, .unset, .unset, .unset, .unset, .unset, .unset] [(.int (7 : Int32)), (.int x2)])
                by_cases hc142_23 : x2 = (7 : Int32)
                · refine own_go (fun _ k => XS.icmpNo X0.here hx rfl (hb hby at_142) rfl (teq hc142_23).2 k) ?_
                  show own_Run p e below _ s₁ (mkF m 145 #[.val (.int p1), .val (.int p2), .val (.int x2), .unset, .unset, .unset, .unset, .unset, .unset, .unset] [])
                  obtain ⟨T24, X24, e24, st24⟩ := getS2 X0 hx hZ hown (host := "") (Or.inl (W 31 rfl)) Via.refl e0 S_JOIN_GROUP (g := (mkF m 145 #[.val (.int p1), .val (.int p2), .val (.int x2), .unset, .unset, .unset, .unset, .unset, .unset, .unset] [])) rfl (hb hby at_145)
                  refine own_go st24 ?_
                  show own_Run p e below _ T24 (mkF m 148 #[.val (.int p1), .val (.int p2), .val (.int x2), .unset, .unset, .unset, .unset, .unset, .unset, .unset] [(.ref o10)])
                  refine own_go (fun _ k => XS.astoreN X24.here hx rfl (hb hby at_148) rfl rfl (l' := #[.val (.int p1), .val (.int p2), .val (.int x2), .val (.ref o10), .unset, .unset, .unset, .unset, .unset, .unset]) rfl k) ?_
                  refine own_go (fun _ k => XS.iconst X24.here hx rfl (hb hby at_149) k) ?_
                  refine own_go (fun _ k => XS.istore X24.here hx rfl (hb hby at_150) rfl (l' := #[.val (.int p1), .val (.int p2), .val (.int x2), .val (.ref o10), .val (.int (0 : Int32)), .unset, .unset, .unset, .unset, .unset]) rfl k) ?_
                  refine own_go (fun _ k => XS.iconst X24.here hx rfl (hb hby at_152) k) ?_
                  show own_Run p e below _ T24 (mkF m 153 #[.val (.int p1), .val (.int p2), .val (.int x2), .val (.ref o10), .val (.int (0 : Int32)), .unset, .unset, .unset, .unset, .unset] [(.int (5 : Int32))])
                  refine own_go (fun _ k => XS.istore X24.here hx rfl (hb hby at_153) rfl (l' := #[.val (.int p1), .val (.int p2), .val (.int x2), .val (.ref o10), .val (.int (0 : Int32)), .val (.int (5 : Int32)), .unset, .unset, .unset, .unset]) rfl k) ?_
                  refine own_go (fun _ k => XS.goto X24.here hx rfl (pc0 := 155) (pc' := 282) rfl (hb hby at_155) (by decide) (by decide) k) ?_
                  show own_Run p e below _ T24 (mkF m 282 #[.val (.int p1), .val (.int p2), .val (.int x2), .val (.ref o10), .val (.int (0 : Int32)), .val (.int (5 : Int32)), .unset, .unset, .unset, .unset] [])
                  exact tail0 p1 p2 o0 o1 o2 o3 o4 o5 o6 o7 o8 o9 o10 o11 o12 o13 o14 h0 n0 hx hZ hw hby hml hown hnm hret hlk x2 o10 (0 : Int32) (5 : Int32) T24 h0 _ X24 e24 N0 Z0 K0 E_o10 F_mMinVersion_o10 F_mMaxVersion_o10 (by decide) (by decide) (by decide) (by decide) 
                · refine own_go (fun _ k => XS.icmpYes X0.here hx rfl (pc0 := 142) (pc' := 158) rfl (hb hby at_142) rfl (feq hc142_23).2 (by decide) (by decide) k) ?_
                  show own_Run p e below _ s₁ (mkF m 158 #[.val (.int p1), .val (.int p2), .val (.int x2), .unset, .unset, .unset, .unset, .unset, .unset, .unset] [])
                  refine own_go (fun _ k => XS.iloadN X0.here hx rfl (hb hby at_158) rfl k) ?_
                  refine own_go (fun _ k => XS.bipush X0.here hx rfl (hb hby at_159) k) ?_
                  show own_Run p e below _ s₁ (mkF m 161 #[.val (.int p1), .val (.int p2), .val (.int x2), .unset, .unset, .unset, .unset, .unset, .unset, .unset] [(.int (8 : Int32)), (.int x2)])
                  by_cases hc161_25 : x2 = (8 : Int32)
                  · refine own_go (fun _ k => XS.icmpNo X0.here hx rfl (hb hby at_161) rfl (teq hc161_25).2 k) ?_
                    show own_Run p e below _ s₁ (mkF m 164 #[.val (.int p1), .val (.int p2), .val (.int x2), .unset, .unset, .unset, .unset, .unset, .unset, .unset] [])
                    obtain ⟨T26, X26, e26, st26⟩ := getS2 X0 hx hZ hown (host := "") (Or.inl (W 25 rfl)) Via.refl e0 S_HEARTBEAT (g := (mkF m 164 #[.val (.int p1), .val (.int p2), .val (.int x2), .unset, .unset, .unset, .unset, .unset, .unset, .unset] [])) rfl (hb hby at_164)
                    refine own_go st26 ?_
                    show own_Run p e below _ T26 (mkF m 167 #[.val (.int p1), .val (.int p2), .val (.int x2), .unset, .unset, .unset, .unset, .unset, .unset, .unset] [(.ref o7)])
                    refine own_go (fun _ k => XS.astoreN X26.here hx rfl (hb hby at_167) rfl rfl (l' := #[.val (.int p1), .val (.int p2), .val (.int x2), .val (.ref o7), .unset, .unset, .unset, .unset, .unset, .unset]) rfl k) ?_
                    refine own_go (fun _ k => XS.iconst X26.here hx rfl (hb hby at_168) k) ?_
                    refine own_go (fun _ k => XS.istore X26.here hx rfl (hb hby at_169) rfl (l' := #[.val (.int p1), .val (.int p2), .val (.int x2), .val (.ref o7), .val (.int (0 : Int32)), .unset, .unset, .unset, .unset, .unset]) rfl k) ?_
                    refine own_go (fun _ k => XS.iconst X26.here hx rfl (hb hby at_171) k) ?_
                    show own_Run p e below _ T26 (mkF m 172 #[.val (.int p1), .val (.int p2), .val (.int x2), .val (.ref o7), .val (.int (0 : Int32)), .unset, .unset, .unset, .unset, .unset] [(.int (3 : Int32))])
                    refine own_go (fun _ k => XS.istore X26.here hx rfl (hb hby at_172) rfl (l' := #[.val (.int p1), .val (.int p2), .val (.int x2), .val (.ref o7), .val (.int (0 : Int32)), .val (.int (3 : Int32)), .unset, .unset, .unset, .unset]) rfl k) ?_
                    refine own_go (fun _ k => XS.goto X26.here hx rfl (pc0 := 174) (pc' := 282) rfl (hb hby at_174) (by decide) (by decide) k) ?_
                    show own_Run p e below _ T26 (mkF m 282 #[.val (.int p1), .val (.int p2), .val (.int x2), .val (.ref o7), .val (.int (0 : Int32)), .val (.int (3 : Int32)), .unset, .unset, .unset, .unset] [])
                    exact tail0 p1 p2 o0 o1 o2 o3 o4 o5 o6 o7 o8 o9 o10 o11 o12 o13 o14 h0 n0 hx hZ hw hby hml hown hnm hret hlk x2 o7 (0 : Int32) (3 : Int32) T26 h0 _ X26 e26 N0 Z0 K0 E_o7 F_mMinVersion_o7 F_mMaxVersion_o7 (by decide) (by decide) (by decide) (by decide) 
                  · refine own_go (fun _ k => XS.icmpYes X0.here hx rfl (pc0 := 161) (pc' := 177) rfl (hb hby at_161) rfl (feq hc161_25).2 (by decide) (by decide) k) ?_
                    show own_Run p e below _ s₁ (mkF m 177 #[.val (.int p1), .val (.int p2), .val (.int x2), .unset, .unset, .unset, .unset, .unset, .unset, .unset] [])
                    refine own_go (fun _ k => XS.iloadN X0.here hx rfl (hb hby at_177) rfl k) ?_
                    refine own_go (fun _ k => XS.bipush X0.here hx rfl (hb hby at_178) k) ?_
                    show own_Run p e below _ s₁ (mkF m 180 #[.val (.int p1), .val (.int p2), .val (.int x2), .unset, .unset, .unset, .unset, .unset, .unset, .unset] [(.int (9 : Int32)), (.int x2)])
                    by_cases hc180_27 : x2 = (9 : Int32)
                    · refine own_go (fun _ k => XS.icmpNo X0.here hx rfl (hb hby at_180) rfl (teq hc180_27).2 k) ?_
                      show own_Run p e below _ s₁ (mkF m 183 #[.val (.int p1), .val (.int p2), .val (.int x2), .unset, .unset, .unset, .unset, .unset, .unset, .unset] [])
                      obtain ⟨T28, X28, e28, st28⟩ := getS2 X0 hx hZ hown (host := "") (Or.inl (W 29 rfl)) Via.refl e0 S_LEAVE_GROUP (g := (mkF m 183 #[.val (.int p1), .val (.int p2), .val (.int x2), .unset, .unset, .unset, .unset, .unset, .unset, .unset] [])) rfl (hb hby at_183)
                      refine own_go st28 ?_
                      show own_Run p e below _ T28 (mkF m 186 #[.val (.int p1), .val (.int p2), .val (.int x2), .unset, .unset, .unset, .unset, .unset, .unset, .unset] [(.ref o9)])
                      refine own_go (fun _ k => XS.astoreN X28.here hx rfl (hb hby at_186) rfl rfl (l' := #[.val (.int p1), .val (.int p2), .val (.int x2), .val (.ref o9), .unset, .unset, .unset, .unset, .unset, .unset]) rfl k) ?_
                      refine own_go (fun _ k => XS.iconst X28.here hx rfl (hb hby at_187) k) ?_
                      refine own_go (fun _ k => XS.istore X28.here hx rfl (hb hby at_188) rfl (l' := #[.val (.int p1), .val (.int p2), .val (.int x2), .val (.ref o9), .val (.int (0 : Int32)), .unset, .unset, .unset, .unset, .unset]) rfl k) ?_
                      refine own_go (fun _ k => XS.iconst X28.here hx rfl (hb hby at_190) k) ?_
                      show own_Run p e below _ T28 (mkF m 191 #[.val (.int p1), .val (.int p2), .val (.int x2), .val (.ref o9), .val (.int (0 : Int32)), .unset, .unset, .unset, .unset, .unset] [(.int (3 : Int32))])
                      refine own_go (fun _ k => XS.istore X28.here hx rfl (hb hby at_191) rfl (l' := #[.val (.int p1), .val (.int p2), .val (.int x2), .val (.ref o9), .val (.int (0 : Int32)), .val (.int (3 : Int32)), .unset, .unset, .unset, .unset]) rfl k) ?_
                      refine own_go (fun _ k => XS.goto X28.here hx rfl (pc0 := 193) (pc' := 282) rfl (hb hby at_193) (by decide) (by decide) k) ?_
                      show own_Run p e below _ T28 (mkF m 282 #[.val (.int p1), .val (.int p2), .val (.int x2), .val (.ref o9), .val (.int (0 : Int32)), .val (.int (3 : Int32)), .unset, .unset, .unset, .unset] [])
                      exact tail0 p1 p2 o0 o1 o2 o3 o4 o5 o6 o7 o8 o9 o10 o11 o12 o13 o14 h0 n0 hx hZ hw hby hml hown hnm hret hlk x2 o9 (0 : Int32) (3 : Int32) T28 h0 _ X28 e28 N0 Z0 K0 E_o9 F_mMinVersion_o9 F_mMaxVersion_o9 (by decide) (by decide) (by decide) (by decide) 
                    · refine own_go (fun _ k => XS.icmpYes X0.here hx rfl (pc0 := 180) (pc' := 196) rfl (hb hby at_180) rfl (feq hc180_27).2 (by decide) (by decide) k) ?_
                      show own_Run p e below _ s₁ (mkF m 196 #[.val (.int p1), .val (.int p2), .val (.int x2), .unset, .unset, .unset, .unset, .unset, .unset, .unset] [])
                      refine own_go (fun _ k => XS.iloadN X0.here hx rfl (hb hby at_196) rfl k) ?_
                      refine own_go (fun _ k => XS.bipush X0.here hx rfl (hb hby at_197) k) ?_
                      show own_Run p e below _ s₁ (mkF m 199 #[.val (.int p1), .val (.int p2), .val (.int x2), .unset, .unset, .unset, .unset, .unset, .unset, .unset] [(.int (10 : Int32)), (.int x2)])
                      by_cases hc199_29 : x2 = (10 : Int32)
                      · refine own_go (fun _ k => XS.icmpNo X0.here hx rfl (hb hby at_199) rfl (teq hc199_29).2 k) ?_
                        show own_Run p e below _ s₁ (mkF m 202 #[.val (.int p1), .val (.int p2), .val (.int x2), .unset, .unset, .unset, .unset, .unset, .unset, .unset] [])
                        obtain ⟨T30, X30, e30, st30⟩ := getS2 X0 hx hZ hown (host := "") (Or.inl (W 35 rfl)) Via.refl e0 S_SYNC_GROUP (g := (mkF m 202 #[.val (.int p1), .val (.int p2), .val (.int x2), .unset, .unset, .unset, .unset, .unset, .unset, .unset] [])) rfl (hb hby at_202)
                        refine own_go st30 ?_
                        show own_Run p e below _ T30 (mkF m 205 #[.val (.int p1), .val (.int p2), .val (.int x2), .unset, .unset, .unset, .unset, .unset, .unset, .unset] [(.ref o12)])
                        refine own_go (fun _ k => XS.astoreN X30.here hx rfl (hb hby at_205) rfl rfl (l' := #[.val (.int p1), .val (.int p2), .val (.int x2), .val (.ref o12), .unset, .unset, .unset, .unset, .unset, .unset]) rfl k) ?_
                        refine own_go (fun _ k => XS.iconst X30.here hx rfl (hb hby at_206) k) ?_
                        refine own_go (fun _ k => XS.istore X30.here hx rfl (hb hby at_207) rfl (l' := #[.val (.int p1), .val (.int p2), .val (.int x2), .val (.ref o12), .val (.int (0 : Int32)), .unset, .unset, .unset, .unset, .unset]) rfl k) ?_
                        refine own_go (fun _ k => XS.iconst X30.here hx rfl (hb hby at_209) k) ?_
                        show own_Run p e below _ T30 (mkF m 210 #[.val (.int p1), .val (.int p2), .val (.int x2), .val (.ref o12), .val (.int (0 : Int32)), .unset, .unset, .unset, .unset, .unset] [(.int (3 : Int32))])
                        refine own_go (fun _ k => XS.istore X30.here hx rfl (hb hby at_210) rfl (l' := #[.val (.int p1), .val (.int p2), .val (.int x2), .val (.ref o12), .val (.int (0 : Int32)), .val (.int (3 : Int32)), .unset, .unset, .unset, .unset]) rfl k) ?_
                        refine own_go (fun _ k => XS.goto X30.here hx rfl (pc0 := 212) (pc' := 282) rfl (hb hby at_212) (by decide) (by decide) k) ?_
                        show own_Run p e below _ T30 (mkF m 282 #[.val (.int p1), .val (.int p2), .val (.int x2), .val (.ref o12), .val (.int (0 : Int32)), .val (.int (3 : Int32)), .unset, .unset, .unset, .unset] [])
                        exact tail0 p1 p2 o0 o1 o2 o3 o4 o5 o6 o7 o8 o9 o10 o11 o12 o13 o14 h0 n0 hx hZ hw hby hml hown hnm hret hlk x2 o12 (0 : Int32) (3 : Int32) T30 h0 _ X30 e30 N0 Z0 K0 E_o12 F_mMinVersion_o12 F_mMaxVersion_o12 (by decide) (by decide) (by decide) (by decide) 
                      · refine own_go (fun _ k => XS.icmpYes X0.here hx rfl (pc0 := 199) (pc' := 215) rfl (hb hby at_199) rfl (feq hc199_29).2 (by decide) (by decide) k) ?_
                        show own_Run p e below _ s₁ (mkF m 215 #[.val (.int p1), .val (.int p2), .val (.int x2), .unset, .unset, .unset, .unset, .unset, .unset, .unset] [])
                        refine own_go (fun _ k => XS.iloadN X0.here hx rfl (hb hby at_215) rfl k) ?_
                        refine own_go (fun _ k => XS.bipush X0.here hx rfl (hb hby at_216) k) ?_
                        show own_Run p e below _ s₁ (mkF m 218 #[.val (.int p1), .val (.int p2), .val (.int x2), .unset, .unset, .unset, .unset, .unset, .unset, .unset] [(.int (11 : Int32)), (.int x2)])
                        by_cases hc218_31 : x2 = (11 : Int32)
                        · refine own_go (fun _ k => XS.icmpNo X0.here hx rfl (hb hby at_218) rfl (teq hc218_31).2 k) ?_
                          show own_Run p e below _ s₁ (mkF m 221 #[.val (.int p1), .val (.int p2), .val (.int x2), .unset, .unset, .unset, .unset, .unset, .unset, .unset] [])
                          obtain ⟨T32, X32, e32, st32⟩ := getS2 X0 hx hZ hown (host := "") (Or.inl (W 17 rfl)) Via.refl e0 S_API_VERSIONS (g := (mkF m 221 #[.val (.int p1), .val (.int p2), .val (.int x2), .unset, .unset, .unset, .unset, .unset, .unset, .unset] [])) rfl (hb hby at_221)
                          refine own_go st32 ?_
                          show own_Run p e below _ T32 (mkF m 224 #[.val (.int p1), .val (.int p2), .val (.int x2), .unset, .unset, .unset, .unset, .unset, .unset, .unset] [(.ref o3)])
                          refine own_go (fun _ k => XS.astoreN X32.here hx rfl (hb hby at_224) rfl rfl (l' := #[.val (.int p1), .val (.int p2), .val (.int x2), .val (.ref o3), .unset, .unset, .unset, .unset, .unset, .unset]) rfl k) ?_
                          refine own_go (fun _ k => XS.iconst X32.here hx rfl (hb hby at_225) k) ?_
                          refine own_go (fun _ k => XS.istore X32.here hx rfl (hb hby at_226) rfl (l' := #[.val (.int p1), .val (.int p2), .val (.int x2), .val (.ref o3), .val (.int (0 : Int32)), .unset, .unset, .unset, .unset, .unset]) rfl k) ?_
                          refine own_go (fun _ k => XS.iconst X32.here hx rfl (hb hby at_228) k) ?_
                          show own_Run p e below _ T32 (mkF m 229 #[.val (.int p1), .val (.int p2), .val (.int x2), .val (.ref o3), .val (.int (0 : Int32)), .unset, .unset, .unset, .unset, .unset] [(.int (3 : Int32))])
                          refine own_go (fun _ k => XS.istore X32.here hx rfl (hb hby at_229) rfl (l' := #[.val (.int p1), .val (.int p2), .val (.int x2), .val (.ref o3), .val (.int (0 : Int32)), .val (.int (3 : Int32)), .unset, .unset, .unset, .unset]) rfl k) ?_
                          refine own_go (fun _ k => XS.goto X32.here hx rfl (pc0 := 231) (pc' := 282) rfl (hb hby at_231) (by decide) (by decide) k) ?_
                          show own_Run p e below _ T32 (mkF m 282 #[.val (.int p1), .val (.int p2), .val (.int x2), .val (.ref o3), .val (.int (0 : Int32)), .val (.int (3 : Int32)), .unset, .unset, .unset, .unset] [])
                          exact tail0 p1 p2 o0 o1 o2 o3 o4 o5 o6 o7 o8 o9 o10 o11 o12 o13 o14 h0 n0 hx hZ hw hby hml hown hnm hret hlk x2 o3 (0 : Int32) (3 : Int32) T32 h0 _ X32 e32 N0 Z0 K0 E_o3 F_mMinVersion_o3 F_mMaxVersion_o3 (by decide) (by decide) (by decide) (by decide) 
                        · refine own_go (fun _ k => XS.icmpYes X0.here hx rfl (pc0 := 218) (pc' := 234) rfl (hb hby at_218) rfl (feq hc218_31).2 (by decide) (by decide) k) ?_
                          show own_Run p e below _ s₁ (mkF m 234 #[.val (.int p1), .val (.int p2), .val (.int x2), .unset, .unset, .unset, .unset, .unset, .unset, .unset] [])
                          refine own_go (fun _ k => XS.iloadN X0.here hx rfl (hb hby at_234) rfl k) ?_
                          refine own_go (fun _ k => XS.bipush X0.here hx rfl (hb hby at_235) k) ?_
                          show own_Run p e below _ s₁ (mkF m 237 #[.val (.int p1), .val (.int p2), .val (.int x2), .unset, .unset, .unset, .unset, .unset, .unset, .unset] [(.int (12 : Int32)), (.int x2)])
                          by_cases hc237_33 : x2 = (12 : Int32)
                          · refine own_go (fun _ k => XS.icmpNo X0.here hx rfl (hb hby at_237) rfl (teq hc237_33).2 k) ?_
                            show own_Run p e below _ s₁ (mkF m 240 #[.val (.int p1), .val (.int p2), .val (.int x2), .unset, .unset, .unset, .unset, .unset, .unset, .unset] [])
                            obtain ⟨T34, X34, e34, st34⟩ := getS2 X0 hx hZ hown (host := "") (Or.inl (W 27 rfl)) Via.refl e0 S_CREATE_TOPICS (g := (mkF m 240 #[.val (.int p1), .val (.int p2), .val (.int x2), .unset, .unset, .unset, .unset, .unset, .unset, .unset] [])) rfl (hb hby at_240)
                            refine own_go st34 ?_
                            show own_Run p e below _ T34 (mkF m 243 #[.val (.int p1), .val (.int p2), .val (.int x2), .unset, .unset, .unset, .unset, .unset, .unset, .unset] [(.ref o8)])
                            refine own_go (fun _ k => XS.astoreN X34.here hx rfl (hb hby at_243) rfl rfl (l' := #[.val (.int p1), .val (.int p2), .val (.int x2), .val (.ref o8), .unset, .unset, .unset, .unset, .unset, .unset]) rfl k) ?_
                            refine own_go (fun _ k => XS.iconst X34.here hx rfl (hb hby at_244) k) ?_
                            refine own_go (fun _ k => XS.istore X34.here hx rfl (hb hby at_245) rfl (l' := #[.val (.int p1), .val (.int p2), .val (.int x2), .val (.ref o8), .val (.int (0 : Int32)), .unset, .unset, .unset, .unset, .unset]) rfl k) ?_
                            refine own_go (fun _ k => XS.iconst X34.here hx rfl (hb hby at_247) k) ?_
                            show own_Run p e below _ T34 (mkF m 248 #[.val (.int p1), .val (.int p2), .val (.int x2), .val (.ref o8), .val (.int (0 : Int32)), .unset, .unset, .unset, .unset, .unset] [(.int (4 : Int32))])
                            refine own_go (fun _ k => XS.istore X34.here hx rfl (hb hby at_248) rfl (l' := #[.val (.int p1), .val (.int p2), .val (.int x2), .val (.ref o8), .val (.int (0 : Int32)), .val (.int (4 : Int32)), .unset, .unset, .unset, .unset]) rfl k) ?_
                            refine own_go (fun _ k => XS.goto X34.here hx rfl (pc0 := 250) (pc' := 282) rfl (hb hby at_250) (by decide) (by decide) k) ?_
                            show own_Run p e below _ T34 (mkF m 282 #[.val (.int p1), .val (.int p2), .val (.int x2), .val (.ref o8), .val (.int (0 : Int32)), .val (.int (4 : Int32)), .unset, .unset, .unset, .unset] [])
                            exact tail0 p1 p2 o0 o1 o2 o3 o4 o5 o6 o7 o8 o9 o10 o11 o12 o13 o14 h0 n0 hx hZ hw hby hml hown hnm hret hlk x2 o8 (0 : Int32) (4 : Int32) T34 h0 _ X34 e34 N0 Z0 K0 E_o8 F_mMinVersion_o8 F_mMaxVersion_o8 (by decide) (by decide) (by decide) (by decide) 
                          · refine own_go (fun _ k => XS.icmpYes X0.here hx rfl (pc0 := 237) (pc' := 253) rfl (hb hby at_237) rfl (feq hc237_33).2 (by decide) (by decide) k) ?_
                            show own_Run p e below _ s₁ (mkF m 253 #[.val (.int p1), .val (.int p2), .val (.int x2), .unset, .unset, .unset, .unset, .unset, .unset, .unset] [])
                            refine own_go (fun _ k => XS.iloadN X0.here hx rfl (hb hby at_253) rfl k) ?_
                            refine own_go (fun _ k => XS.bipush X0.here hx rfl (hb hby at_254) k) ?_
                            show own_Run p e below _ s₁ (mkF m 256 #[.val (.int p1), .val (.int p2), .val (.int x2), .unset, .unset, .unset, .unset, .unset, .unset, .unset] [(.int (13 : Int32)), (.int x2)])
                            by_cases hc256_35 : x2 = (13 : Int32)
                            · refine own_go (fun _ k => XS.icmpNo X0.here hx rfl (hb hby at_256) rfl (teq hc256_35).2 k) ?_
                              show own_Run p e below _ s₁ (mkF m 259 #[.val (.int p1), .val (.int p2), .val (.int x2), .unset, .unset, .unset, .unset, .unset, .unset, .unset] [])
                              obtain ⟨T36, X36, e36, st36⟩ := getS2 X0 hx hZ hown (host := "") (Or.inl (W 39 rfl)) Via.refl e0 S_DELETE_TOPICS (g := (mkF m 259 #[.val (.int p1), .val (.int p2), .val (.int x2), .unset, .unset, .unset, .unset, .unset, .unset, .unset] [])) rfl (hb hby at_259)
                              refine own_go st36 ?_
                              show own_Run p e below _ T36 (mkF m 262 #[.val (.int p1), .val (.int p2), .val (.int x2), .unset, .unset, .unset, .unset, .unset, .unset, .unset] [(.ref o14)])
                              refine own_go (fun _ k => XS.astoreN X36.here hx rfl (hb hby at_262) rfl rfl (l' := #[.val (.int p1), .val (.int p2), .val (.int x2), .val (.ref o14), .unset, .unset, .unset, .unset, .unset, .unset]) rfl k) ?_
                              refine own_go (fun _ k => XS.iconst X36.here hx rfl (hb hby at_263) k) ?_
                              refine own_go (fun _ k => XS.istore X36.here hx rfl (hb hby at_264) rfl (l' := #[.val (.int p1), .val (.int p2), .val (.int x2), .val (.ref o14), .val (.int (0 : Int32)), .unset, .unset, .unset, .unset, .unset]) rfl k) ?_
                              refine own_go (fun _ k => XS.iconst X36.here hx rfl (hb hby at_266) k) ?_
                              show own_Run p e below _ T36 (mkF m 267 #[.val (.int p1), .val (.int p2), .val (.int x2), .val (.ref o14), .val (.int (0 : Int32)), .unset, .unset, .unset, .unset, .unset] [(.int (3 : Int32))])
                              refine own_go (fun _ k => XS.istore X36.here hx rfl (hb hby at_267) rfl (l' := #[.val (.int p1), .val (.int p2), .val (.int x2), .val (.ref o14), .val (.int (0 : Int32)), .val (.int (3 : Int32)), .unset, .unset, .unset, .unset]) rfl k) ?_
                              refine own_go (fun _ k => XS.goto X36.here hx rfl (pc0 := 269) (pc' := 282) rfl (hb hby at_269) (by decide) (by decide) k) ?_
                              show own_Run p e below _ T36 (mkF m 282 #[.val (.int p1), .val (.int p2), .val (.int x2), .val (.ref o14), .val (.int (0 : Int32)), .val (.int (3 : Int32)), .unset, .unset, .unset, .unset] [])
                              exact tail0 p1 p2 o0 o1 o2 o3 o4 o5 o6 o7 o8 o9 o10 o11 o12 o13 o14 h0 n0 hx hZ hw hby hml hown hnm hret hlk x2 o14 (0 : Int32) (3 : Int32) T36 h0 _ X36 e36 N0 Z0 K0 E_o14 F_mMinVersion_o14 F_mMaxVersion_o14 (by decide) (by decide) (by decide) (by decide) 
                            · refine own_go (fun _ k => XS.icmpYes X0.here hx rfl (pc0 := 256) (pc' := 272) rfl (hb hby at_256) rfl (feq hc256_35).2 (by decide) (by decide) k) ?_
                              show own_Run p e below _ s₁ (mkF m 272 #[.val (.int p1), .val (.int p2), .val (.int x2), .unset, .unset, .unset, .unset, .unset, .unset, .unset] [])
                              obtain ⟨T37, X37, e37, st37⟩ := getS2 X0 hx hZ hown (host := "") (Or.inl (W 13 rfl)) Via.refl e0 S_INIT_PRODUCER_ID (g := (mkF m 272 #[.val (.int p1), .val (.int p2), .val (.int x2), .unset, .unset, .unset, .unset, .unset, .unset, .unset] [])) rfl (hb hby at_272)
                              refine own_go st37 ?_
                              show own_Run p e below _ T37 (mkF m 275 #[.val (.int p1), .val (.int p2), .val (.int x2), .unset, .unset, .unset, .unset, .unset, .unset, .unset] [(.ref o1)])
                              refine own_go (fun _ k => XS.astoreN X37.here hx rfl (hb hby at_275) rfl rfl (l' := #[.val (.int p1), .val (.int p2), .val (.int x2), .val (.ref o1), .unset, .unset, .unset, .unset, .unset, .unset]) rfl k) ?_
                              refine own_go (fun _ k => XS.iconst X37.here hx rfl (hb hby at_276) k) ?_
                              refine own_go (fun _ k => XS.istore X37.here hx rfl (hb hby at_277) rfl (l' := #[.val (.int p1), .val (.int p2), .val (.int x2), .val (.ref o1), .val (.int (0 : Int32)), .unset, .unset, .unset, .unset, .unset]) rfl k) ?_
                              refine own_go (fun _ k => XS.iconst X37.here hx rfl (hb hby at_279) k) ?_
                              show own_Run p e below _ T37 (mkF m 280 #[.val (.int p1), .val (.int p2), .val (.int x2), .val (.ref o1), .val (.int (0 : Int32)), .unset, .unset, .unset, .unset, .unset] [(.int (4 : Int32))])
                              refine own_go (fun _ k => XS.istore X37.here hx rfl (hb hby at_280) rfl (l' := #[.val (.int p1), .val (.int p2), .val (.int x2), .val (.ref o1), .val (.int (0 : Int32)), .val (.int (4 : Int32)), .unset, .unset, .unset, .unset]) rfl k) ?_
                              show own_Run p e below _ T37 (mkF m 282 #[.val (.int p1), .val (.int p2), .val (.int x2), .val (.ref o1), .val (.int (0 : Int32)), .val (.int (4 : Int32)), .unset, .unset, .unset, .unset] [])
                              exact tail0 p1 p2 o0 o1 o2 o3 o4 o5 o6 o7 o8 o9 o10 o11 o12 o13 o14 h0 n0 hx hZ hw hby hml hown hnm hret hlk x2 o1 (0 : Int32) (4 : Int32) T37 h0 _ X37 e37 N0 Z0 K0 E_o1 F_mMinVersion_o1 F_mMaxVersion_o1 (by decide) (by decide) (by decide) (by decide) 
set_option maxRecDepth 65536 in
set_option maxHeartbeats 40000000 in
theorem comes_1 {Post : Tables → Env → Array Value → State → Outcome → State → Prop} (hpost : ∀ tb e args s v u, (limb_1_1.after args s (.returned v) u = true ∧ limb_1_2.after args s (.returned v) u = true ∧ True) → FrameEnd s (.returned v) u (Jvm.fieldLocs frame_1_writes args s ++ Jvm.arrayLocs frame_1_arrays args s ++ Jvm.staticLocs frame_1_statics s) 0 0 → Post tb e args s (.returned v) u) :
    ArmFor flags0 classFile x code maxLocals ret World_1 tables_1 room_1 Calls_1 rest_1 Pre_1 Post := by
  intro l hfl _ _ p e ha hc hk s m args below hf hA hF happ hP
  obtain ⟨hcalls, hrest, hpre⟩ := hP
  obtain ⟨-, -, -, hnamed, -, -, -, hat⟩ := (Spec.applies_iff hf).mp happ
  obtain ⟨hg, hn⟩ := and_e (Cond.before_iff.mp (show (Jvm.Cond.and given_1 narrow_1).before args s = true from hpre))
  obtain ⟨hcount, hr0⟩ := and_e hg
  obtain ⟨ha0, hr1⟩ := and_e hr0
  have ha1 := hr1
  obtain ⟨w0, w1, rfl⟩ : ∃ w0 w1 : Value, args = #[w0, w1] := by
    have hs : args.size = 2 := by simpa [Cond.value, given_1] using hcount
    obtain ⟨L⟩ := args
    match L, hs with
    | [w0, w1], _ => exact ⟨w0, w1, rfl⟩
  have hw := fun d (hd : d ∈ tables_1) => atoms_spec (ws := Jvm.Cond.code x code maxLocals ret :: tables_1) hat d (List.mem_cons_of_mem _ hd)
  have W := fun (k : Nat) {d : Jvm.Cond} (h : tables_1[k]? = some d) => hw d (List.mem_of_getElem? h)
  have hfit : Fit s := fun {y c} hc i hi => by
    obtain ⟨ha, rfl⟩ := Array.getElem?_eq_some_iff.mp hc
    have q := List.all_eq_true.mp ((Array.all_eq_true_iff_forall_mem.mp hF) _ (Array.getElem_mem ha)) i (List.mem_range.mpr hi)
    simpa [Array.getElem?_eq_getElem hi] using q
  obtain ⟨i0, ei0⟩ := is_v ha0
  obtain rfl : w0 = (.int i0) := Option.some.inj ei0
  obtain ⟨i1, ei1⟩ := is_v ha1
  obtain rfl : w1 = (.int i1) := Option.some.inj ei1
  obtain ⟨hc0, hd0⟩ := and_e hn
  obtain ⟨hc1, hd1⟩ := and_e hd0
  obtain ⟨hc2, hd2⟩ := and_e hd1
  obtain ⟨hc3, hd3⟩ := and_e hd2
  obtain ⟨hc4, hd4⟩ := and_e hd3
  obtain ⟨hc5, hd5⟩ := and_e hd4
  obtain ⟨hc6, hd6⟩ := and_e hd5
  obtain ⟨hc7, hd7⟩ := and_e hd6
  obtain ⟨hc8, hd8⟩ := and_e hd7
  obtain ⟨hc9, hd9⟩ := and_e hd8
  obtain ⟨hc10, hd10⟩ := and_e hd9
  obtain ⟨hc11, hd11⟩ := and_e hd10
  obtain ⟨hc12, hd12⟩ := and_e hd11
  obtain ⟨hc13, hd13⟩ := and_e hd12
  obtain ⟨hc14, hd14⟩ := and_e hd13
  obtain ⟨hc15, hd15⟩ := and_e hd14
  obtain ⟨hc16, hd16⟩ := and_e hd15
  obtain ⟨hc17, hd17⟩ := and_e hd16
  obtain ⟨hc18, hd18⟩ := and_e hd17
  obtain ⟨hc19, hd19⟩ := and_e hd18
  obtain ⟨hc20, hd20⟩ := and_e hd19
  obtain ⟨hc21, hd21⟩ := and_e hd20
  obtain ⟨hc22, hd22⟩ := and_e hd21
  obtain ⟨hc23, hd23⟩ := and_e hd22
  obtain ⟨hc24, hd24⟩ := and_e hd23
  obtain ⟨hc25, hd25⟩ := and_e hd24
  obtain ⟨hc26, hd26⟩ := and_e hd25
  obtain ⟨hc27, hd27⟩ := and_e hd26
  obtain ⟨hc28, hd28⟩ := and_e hd27
  obtain ⟨hc29, hd29⟩ := and_e hd28
  obtain ⟨hc30, hd30⟩ := and_e hd29
  obtain ⟨hc31, hd31⟩ := and_e hd30
  obtain ⟨hc32, hd32⟩ := and_e hd31
  obtain ⟨hc33, hd33⟩ := and_e hd32
  obtain ⟨hc34, hd34⟩ := and_e hd33
  obtain ⟨hc35, hd35⟩ := and_e hd34
  obtain ⟨hc36, hd36⟩ := and_e hd35
  obtain ⟨hc37, hd37⟩ := and_e hd36
  obtain ⟨hc38, hd38⟩ := and_e hd37
  obtain ⟨hc39, hd39⟩ := and_e hd38
  obtain ⟨hc40, hd40⟩ := and_e hd39
  obtain ⟨hc41, hd41⟩ := and_e hd40
  obtain ⟨hc42, hd42⟩ := and_e hd41
  obtain ⟨hc43, hd43⟩ := and_e hd42
  obtain ⟨o0, ev_o0⟩ := exa_v hc0
  have S_o0 := Sta.start ev_o0 (Or.inr ⟨(W 2 rfl), (W 3 rfl)⟩)
  have E_o0 := Exa.start ev_o0 hc0
  have F0_o0 := Fld.start ((fld_at ev_o0).symm.trans (own_eqI hc1))
  have F1_o0 := Fld.start ((fld_at ev_o0).symm.trans (own_eqI hc2))
  obtain ⟨o1, ev_o1⟩ := exa_v hc3
  have S_o1 := Sta.start ev_o1 (Or.inr ⟨(W 2 rfl), (W 14 rfl)⟩)
  have E_o1 := Exa.start ev_o1 hc3
  have F0_o1 := Fld.start ((fld_at ev_o1).symm.trans (own_eqI hc4))
  have F1_o1 := Fld.start ((fld_at ev_o1).symm.trans (own_eqI hc5))
  obtain ⟨o2, ev_o2⟩ := exa_v hc6
  have S_o2 := Sta.start ev_o2 (Or.inr ⟨(W 2 rfl), (W 16 rfl)⟩)
  have E_o2 := Exa.start ev_o2 hc6
  have F0_o2 := Fld.start ((fld_at ev_o2).symm.trans (own_eqI hc7))
  have F1_o2 := Fld.start ((fld_at ev_o2).symm.trans (own_eqI hc8))
  obtain ⟨o3, ev_o3⟩ := exa_v hc9
  have S_o3 := Sta.start ev_o3 (Or.inr ⟨(W 2 rfl), (W 18 rfl)⟩)
  have E_o3 := Exa.start ev_o3 hc9
  have F0_o3 := Fld.start ((fld_at ev_o3).symm.trans (own_eqI hc10))
  have F1_o3 := Fld.start ((fld_at ev_o3).symm.trans (own_eqI hc40))
  obtain ⟨o4, ev_o4⟩ := exa_v hc11
  have S_o4 := Sta.start ev_o4 (Or.inr ⟨(W 2 rfl), (W 20 rfl)⟩)
  have E_o4 := Exa.start ev_o4 hc11
  have F0_o4 := Fld.start ((fld_at ev_o4).symm.trans (own_eqI hc12))
  have F1_o4 := Fld.start ((fld_at ev_o4).symm.trans (own_eqI hc36))
  obtain ⟨o5, ev_o5⟩ := exa_v hc13
  have S_o5 := Sta.start ev_o5 (Or.inr ⟨(W 2 rfl), (W 22 rfl)⟩)
  have E_o5 := Exa.start ev_o5 hc13
  have F0_o5 := Fld.start ((fld_at ev_o5).symm.trans (own_eqI hc14))
  have F1_o5 := Fld.start ((fld_at ev_o5).symm.trans (own_eqI hc15))
  obtain ⟨o6, ev_o6⟩ := exa_v hc16
  have S_o6 := Sta.start ev_o6 (Or.inr ⟨(W 2 rfl), (W 24 rfl)⟩)
  have E_o6 := Exa.start ev_o6 hc16
  have F0_o6 := Fld.start ((fld_at ev_o6).symm.trans (own_eqI hc17))
  have F1_o6 := Fld.start ((fld_at ev_o6).symm.trans (own_eqI hc18))
  obtain ⟨o7, ev_o7⟩ := exa_v hc19
  have S_o7 := Sta.start ev_o7 (Or.inr ⟨(W 2 rfl), (W 26 rfl)⟩)
  have E_o7 := Exa.start ev_o7 hc19
  have F0_o7 := Fld.start ((fld_at ev_o7).symm.trans (own_eqI hc20))
  have F1_o7 := Fld.start ((fld_at ev_o7).symm.trans (own_eqI hc26))
  obtain ⟨o8, ev_o8⟩ := exa_v hc21
  have S_o8 := Sta.start ev_o8 (Or.inr ⟨(W 2 rfl), (W 28 rfl)⟩)
  have E_o8 := Exa.start ev_o8 hc21
  have F0_o8 := Fld.start ((fld_at ev_o8).symm.trans (own_eqI hc22))
  have F1_o8 := Fld.start ((fld_at ev_o8).symm.trans (own_eqI hc23))
  obtain ⟨o9, ev_o9⟩ := exa_v hc24
  have S_o9 := Sta.start ev_o9 (Or.inr ⟨(W 2 rfl), (W 30 rfl)⟩)
  have E_o9 := Exa.start ev_o9 hc24
  have F0_o9 := Fld.start ((fld_at ev_o9).symm.trans (own_eqI hc25))
  have F1_o9 := Fld.start ((fld_at ev_o9).symm.trans (own_eqI hc29))
  obtain ⟨o10, ev_o10⟩ := exa_v hc27
  have S_o10 := Sta.start ev_o10 (Or.inr ⟨(W 2 rfl), (W 32 rfl)⟩)
  have E_o10 := Exa.start ev_o10 hc27
  have F0_o10 := Fld.start ((fld_at ev_o10).symm.trans (own_eqI hc28))
  have F1_o10 := Fld.start ((fld_at ev_o10).symm.trans (own_eqI hc41))
  obtain ⟨o11, ev_o11⟩ := exa_v hc30
  have S_o11 := Sta.start ev_o11 (Or.inr ⟨(W 2 rfl), (W 34 rfl)⟩)
  have E_o11 := Exa.start ev_o11 hc30
  have F0_o11 := Fld.start ((fld_at ev_o11).symm.trans (own_eqI hc31))
  have F1_o11 := Fld.start ((fld_at ev_o11).symm.trans (own_eqI hc32))
  obtain ⟨o12, ev_o12⟩ := exa_v hc33
  have S_o12 := Sta.start ev_o12 (Or.inr ⟨(W 2 rfl), (W 36 rfl)⟩)
  have E_o12 := Exa.start ev_o12 hc33
  have F0_o12 := Fld.start ((fld_at ev_o12).symm.trans (own_eqI hc34))
  have F1_o12 := Fld.start ((fld_at ev_o12).symm.trans (own_eqI hc35))
  obtain ⟨o13, ev_o13⟩ := exa_v hc37
  have S_o13 := Sta.start ev_o13 (Or.inr ⟨(W 2 rfl), (W 38 rfl)⟩)
  have E_o13 := Exa.start ev_o13 hc37
  have F0_o13 := Fld.start ((fld_at ev_o13).symm.trans (own_eqI hc38))
  have F1_o13 := Fld.start ((fld_at ev_o13).symm.trans (own_eqI hc39))
  obtain ⟨o14, ev_o14⟩ := exa_v hc42
  have S_o14 := Sta.start ev_o14 (Or.inr ⟨(W 2 rfl), (W 40 rfl)⟩)
  have E_o14 := Exa.start ev_o14 hc42
  have F0_o14 := Fld.start ((fld_at ev_o14).symm.trans (own_eqI hc43))
  have F1_o14 := Fld.start ((fld_at ev_o14).symm.trans (own_eqI hd43))
  obtain ⟨n, o, h1, h2, h3, _, L, rfl, ⟨rfl, N⟩, hq⟩ := rm0 l s _ hw tables_1 i0 i1 o0 o1 o2 o3 o4 o5 o6 o7 o8 o9 o10 o11 o12 o13 o14 s.heap s.heap.size (Nat.le_refl _) S_o0 E_o0 F0_o0 F1_o0 S_o1 E_o1 F0_o1 F1_o1 S_o2 E_o2 F0_o2 F1_o2 S_o3 E_o3 F0_o3 F1_o3 S_o4 E_o4 F0_o4 F1_o4 S_o5 E_o5 F0_o5 F1_o5 S_o6 E_o6 F0_o6 F1_o6 S_o7 E_o7 F0_o7 F1_o7 S_o8 E_o8 F0_o8 F1_o8 S_o9 E_o9 F0_o9 F1_o9 S_o10 E_o10 F0_o10 F1_o10 S_o11 E_o11 F0_o11 F1_o11 S_o12 E_o12 F0_o12 F1_o12 S_o13 E_o13 F0_o13 F1_o13 S_o14 E_o14 F0_o14 F1_o14 p e ha hc hk s m _ below hf ((Spec.applies_iff_loose hf).mp happ).1 ⟨rfl, State.Warmed39.refl s, rfl⟩ trivial
  refine ⟨n, _, h1, h2, h3, hpost _ _ _ _ _ _ ⟨Cond.after_iff.mpr rfl, Cond.after_iff.mpr (eq_i res_at (Term.int_eval (1)) rfl), trivial⟩ ⟨hq.1, hq.2.1, (hq.2.2.sift fun y hy => Or.inr (N y hy)).mono (by decide) (by decide)⟩⟩
theorem main_1_1 : Claimed_1_1 := comes_1 fun _ _ _ _ _ _ h hF => ⟨h.1, hF⟩
theorem main_1_2 : Claimed_1_2 := comes_1 fun _ _ _ _ _ _ h hF => ⟨h.2.1, hF⟩
end Jvm.Pilot.@@N@@
namespace Jvm.Pilot.@@N@@
open Jvm Jvm.ClassFile Sem Op Lib Jvm.Free Jvm.Stand Jvm.Pilot.@@N@@.Jvm.D
/-! MADE BY PROGRAM (witnessworld.py) out of the Statement's table words and the real class files: 12 classes; the members and pool entries that the words name. The judged class is class 1, her method 1. -/
namespace start1
open Jvm.ClassFile
def u (s : String) : CpInfo := .utf8 (stringToUtf16 s)
/-- a pool by its gaps: so many unusable entries, then the entry; so many at the end -/
def gap : Nat → List CpInfo → List CpInfo
  | 0, r => r
  | n + 1, r => .unusable :: gap n r
def poolList (es : List (Nat × CpInfo)) (last : Nat) : List CpInfo := es.foldr (fun e r => gap e.1 (e.2 :: r)) (gap last [])
def pool (es : List (Nat × CpInfo)) (last : Nat) : Array CpInfo := ⟨poolList es last⟩
def fileOf (pool : Array CpInfo) (this : Nat) (attrs : Array Attribute := #[]) (ms : Array MethodInfo := #[]) (fl : Nat := 33) (sup : Nat := 0) (ifs : Array Nat := #[]) (fds : Array FieldInfo := #[]) : ClassFile where
  minorVersion := 0
  majorVersion := 65
  constantPool := pool
  accessFlags := fl
  thisClass := this
  superClass := sup
  interfaces := ifs
  fields := fds
  methods := ms
  attributes := attrs
def plain (name : String) (sup : Option ClassId) : Class where
  name := name
  kind := .ordinary
  loader := none
  accessFlags := 33
  super := sup
  interfaces := #[]
  cf := none
  fields := #[]
  methods := #[]
  instanceTypes := #[]
  staticTypes := #[]
  resolved := #[]
  callSites := []
  init := .initialized
  statics := none
  mirror := none

def pool0 : Array CpInfo := pool [(5, u "<init>"), (0, u "()V"), (1, .class_ 10), (1, u "java/lang/Object")] 113

def k0m0 : Method := { name := "<init>", desc := "()V", sig := { parameters := [], returnType := none }, accessFlags := 1, code := none }
/-- java/lang/Object -/
def k0 : Class := { plain "java/lang/Object" none with
  accessFlags := 33
  interfaces := #[]
  cf := some (fileOf pool0 8 #[] #[{ accessFlags := 1, nameIndex := 5, descriptorIndex := 6, attributes := #[] }] 33 0 #[] #[])
  fields := #[]
  methods := #[k0m0]
  instanceTypes := #[]
  staticTypes := #[]
  resolved := Array.replicate 124 none
  statics := none }

def pool1 : Array CpInfo := pool [(2, .class_ 4), (1, u "java/lang/Object"), (0, u "<init>"), (0, u "()V"), (0, .integer 2147483647), (0, .fieldref 9 10), (0, .class_ 11), (0, .nameAndType 12 13), (0, u "com/example/tote/tote/service/Api"), (0, u "PRODUCE"), (0, u "Lcom/example/tote/tote/service/Api;"), (0, .fieldref 9 15), (0, .nameAndType 16 13), (0, u "FETCH"), (0, .fieldref 9 18), (0, .nameAndType 19 13), (0, u "LIST_OFFSETS"), (0, .fieldref 9 21), (0, .nameAndType 22 13), (0, u "METADATA"), (0, .fieldref 9 24), (0, .nameAndType 25 13), (0, u "OFFSET_COMMIT"), (0, .fieldref 9 27), (0, .nameAndType 28 13), (0, u "OFFSET_FETCH"), (0, .fieldref 9 30), (0, .nameAndType 31 13), (0, u "FIND_COORDINATOR"), (0, .fieldref 9 33), (0, .nameAndType 34 13), (0, u "JOIN_GROUP"), (0, .fieldref 9 36), (0, .nameAndType 37 13), (0, u "HEARTBEAT"), (0, .fieldref 9 39), (0, .nameAndType 40 13), (0, u "LEAVE_GROUP"), (0, .fieldref 9 42), (0, .nameAndType 43 13), (0, u "SYNC_GROUP"), (0, .fieldref 9 45), (0, .nameAndType 46 13), (0, u "API_VERSIONS"), (0, .fieldref 9 48), (0, .nameAndType 49 13), (0, u "CREATE_TOPICS"), (0, .fieldref 9 51), (0, .nameAndType 52 13), (0, u "DELETE_TOPICS"), (0, .fieldref 9 54), (0, .nameAndType 55 13), (0, u "INIT_PRODUCER_ID"), (0, .methodref 9 57), (0, .nameAndType 58 59), (0, u "serves"), (0, u "(S)Z"), (0, .class_ 61), (0, u "com/example/tote/tote/service/ApiServesPinLaw"), (2, u "law"), (0, u "(II)Z")] 3

def k1m0 : Method := { name := "<init>", desc := "()V", sig := { parameters := [], returnType := none }, accessFlags := 1, code := none }
def k1c1 : Code := { maxStack := 2, maxLocals := 10, code := code, exceptionTable := #[], attributes := #[] }
def k1m1 : Method := { name := "law", desc := "(II)Z", sig := { parameters := [.int, .int], returnType := some .boolean }, accessFlags := 9, code := some k1c1 }
/-- com/example/tote/tote/service/ApiServesPinLaw -/
def k1 : Class := { plain "com/example/tote/tote/service/ApiServesPinLaw" (some 0) with
  accessFlags := 49
  interfaces := #[]
  cf := some (fileOf pool1 60 #[] #[{ accessFlags := 1, nameIndex := 5, descriptorIndex := 6, attributes := #[] }, { accessFlags := 9, nameIndex := 64, descriptorIndex := 65, attributes := #[] }] 49 2 #[] #[])
  fields := #[]
  methods := #[k1m0, k1m1]
  instanceTypes := #[]
  staticTypes := #[]
  resolved := Array.replicate 69 none
  statics := none }

def pool2 : Array CpInfo := pool [(1, .class_ 2), (0, u "java/lang/constant/Constable"), (0, .class_ 4), (0, u "java/lang/Object")] 6

/-- java/lang/constant/Constable -/
def k2 : Class := { plain "java/lang/constant/Constable" (some 0) with
  accessFlags := 1537
  interfaces := #[]
  cf := some (fileOf pool2 1 #[] #[] 1537 3 #[] #[])
  fields := #[]
  methods := #[]
  instanceTypes := #[]
  staticTypes := #[]
  resolved := Array.replicate 11 none
  statics := none }

def pool3 : Array CpInfo := pool [(1, .class_ 2), (0, u "java/lang/Comparable"), (0, .class_ 4), (0, u "java/lang/Object")] 7

/-- java/lang/Comparable -/
def k3 : Class := { plain "java/lang/Comparable" (some 0) with
  accessFlags := 1537
  interfaces := #[]
  cf := some (fileOf pool3 1 #[] #[] 1537 3 #[] #[])
  fields := #[]
  methods := #[]
  instanceTypes := #[]
  staticTypes := #[]
  resolved := Array.replicate 12 none
  statics := none }

def pool4 : Array CpInfo := pool [(1, .class_ 2), (0, u "java/io/Serializable"), (0, .class_ 4), (0, u "java/lang/Object")] 2

/-- java/io/Serializable -/
def k4 : Class := { plain "java/io/Serializable" (some 0) with
  accessFlags := 1537
  interfaces := #[]
  cf := some (fileOf pool4 1 #[] #[] 1537 3 #[] #[])
  fields := #[]
  methods := #[]
  instanceTypes := #[]
  staticTypes := #[]
  resolved := Array.replicate 7 none
  statics := none }

def pool5 : Array CpInfo := pool [(2, .class_ 4), (1, u "java/lang/Enum"), (0, u "name"), (0, u "Ljava/lang/String;"), (2, u "ordinal"), (0, u "I"), (1, .class_ 14), (1, u "java/lang/Object"), (4, u "hash"), (86, .class_ 108), (1, u "java/lang/Enum$EnumDesc"), (2, .class_ 112), (0, u "java/lang/constant/Constable"), (0, .class_ 114), (0, u "java/lang/Comparable"), (0, .class_ 116), (0, u "java/io/Serializable")] 87

/-- java/lang/Enum -/
def k5 : Class := { plain "java/lang/Enum" (some 0) with
  accessFlags := 1057
  interfaces := #[2, 3, 4]
  cf := some (fileOf pool5 2 #[.nestMembers #[106]] #[] 1057 12 #[111, 113, 115] #[{ accessFlags := 18, nameIndex := 5, descriptorIndex := 6, attributes := #[] }, { accessFlags := 18, nameIndex := 9, descriptorIndex := 10, attributes := #[] }, { accessFlags := 2, nameIndex := 19, descriptorIndex := 10, attributes := #[] }])
  fields := #[{ name := "name", type := (.object "java/lang/String"), accessFlags := 18, slot := 0, constantValue := 0 }, { name := "ordinal", type := .int, accessFlags := 18, slot := 1, constantValue := 0 }, { name := "hash", type := .int, accessFlags := 2, slot := 2, constantValue := 0 }]
  methods := #[]
  instanceTypes := #[(.object "java/lang/String"), .int, .int]
  staticTypes := #[]
  resolved := Array.replicate 204 none
  statics := none }

def pool6 : Array CpInfo := pool [(3, .class_ 4), (0, u "com/example/tote/tote/service/Api"), (2, u "PRODUCE"), (0, u "Lcom/example/tote/tote/service/Api;"), (2, u "FETCH"), (2, u "LIST_OFFSETS"), (2, u "METADATA"), (2, u "OFFSET_COMMIT"), (2, u "OFFSET_FETCH"), (2, u "FIND_COORDINATOR"), (2, u "JOIN_GROUP"), (2, u "HEARTBEAT"), (2, u "LEAVE_GROUP"), (2, u "SYNC_GROUP"), (2, u "API_VERSIONS"), (2, u "CREATE_TOPICS"), (2, u "DELETE_TOPICS"), (2, u "INIT_PRODUCER_ID"), (2, u "$VALUES"), (0, u "[Lcom/example/tote/tote/service/Api;"), (6, .class_ 63), (1, u "java/lang/Enum"), (8, u "mKey"), (0, u "S"), (0, .fieldref 3 75), (0, .nameAndType 76 73), (0, u "mMinVersion"), (0, .fieldref 3 78), (0, .nameAndType 79 73), (0, u "mMaxVersion"), (2, u "mFirstFlexibleVersion"), (0, u "I"), (7, u "(S)Z"), (22, u "NOT_FLEXIBLE"), (14, u "serves")] 6

def k6c0 : Code := { maxStack := 2, maxLocals := 2, code := prog_21_method_8_code, exceptionTable := #[], attributes := #[] }
def k6m0 : Method := { name := "serves", desc := "(S)Z", sig := { parameters := [.short], returnType := some .boolean }, accessFlags := 1, code := some k6c0 }
/-- com/example/tote/tote/service/Api -/
def k6 : Class := { plain "com/example/tote/tote/service/Api" (some 5) with
  accessFlags := 16433
  interfaces := #[]
  cf := some (fileOf pool6 3 #[] #[{ accessFlags := 1, nameIndex := 129, descriptorIndex := 91, attributes := #[] }] 16433 61 #[] #[{ accessFlags := 16409, nameIndex := 7, descriptorIndex := 8, attributes := #[] }, { accessFlags := 16409, nameIndex := 11, descriptorIndex := 8, attributes := #[] }, { accessFlags := 16409, nameIndex := 14, descriptorIndex := 8, attributes := #[] }, { accessFlags := 16409, nameIndex := 17, descriptorIndex := 8, attributes := #[] }, { accessFlags := 16409, nameIndex := 20, descriptorIndex := 8, attributes := #[] }, { accessFlags := 16409, nameIndex := 23, descriptorIndex := 8, attributes := #[] }, { accessFlags := 16409, nameIndex := 26, descriptorIndex := 8, attributes := #[] }, { accessFlags := 16409, nameIndex := 29, descriptorIndex := 8, attributes := #[] }, { accessFlags := 16409, nameIndex := 32, descriptorIndex := 8, attributes := #[] }, { accessFlags := 16409, nameIndex := 35, descriptorIndex := 8, attributes := #[] }, { accessFlags := 16409, nameIndex := 38, descriptorIndex := 8, attributes := #[] }, { accessFlags := 16409, nameIndex := 41, descriptorIndex := 8, attributes := #[] }, { accessFlags := 16409, nameIndex := 44, descriptorIndex := 8, attributes := #[] }, { accessFlags := 16409, nameIndex := 47, descriptorIndex := 8, attributes := #[] }, { accessFlags := 16409, nameIndex := 50, descriptorIndex := 8, attributes := #[] }, { accessFlags := 26, nameIndex := 114, descriptorIndex := 83, attributes := #[] }, { accessFlags := 18, nameIndex := 72, descriptorIndex := 73, attributes := #[] }, { accessFlags := 18, nameIndex := 76, descriptorIndex := 73, attributes := #[] }, { accessFlags := 18, nameIndex := 79, descriptorIndex := 73, attributes := #[] }, { accessFlags := 18, nameIndex := 82, descriptorIndex := 83, attributes := #[] }, { accessFlags := 4122, nameIndex := 53, descriptorIndex := 54, attributes := #[] }])
  fields := #[{ name := "PRODUCE", type := (.object "com/example/tote/tote/service/Api"), accessFlags := 16409, slot := 0, constantValue := 0 }, { name := "FETCH", type := (.object "com/example/tote/tote/service/Api"), accessFlags := 16409, slot := 1, constantValue := 0 }, { name := "LIST_OFFSETS", type := (.object "com/example/tote/tote/service/Api"), accessFlags := 16409, slot := 2, constantValue := 0 }, { name := "METADATA", type := (.object "com/example/tote/tote/service/Api"), accessFlags := 16409, slot := 3, constantValue := 0 }, { name := "OFFSET_COMMIT", type := (.object "com/example/tote/tote/service/Api"), accessFlags := 16409, slot := 4, constantValue := 0 }, { name := "OFFSET_FETCH", type := (.object "com/example/tote/tote/service/Api"), accessFlags := 16409, slot := 5, constantValue := 0 }, { name := "FIND_COORDINATOR", type := (.object "com/example/tote/tote/service/Api"), accessFlags := 16409, slot := 6, constantValue := 0 }, { name := "JOIN_GROUP", type := (.object "com/example/tote/tote/service/Api"), accessFlags := 16409, slot := 7, constantValue := 0 }, { name := "HEARTBEAT", type := (.object "com/example/tote/tote/service/Api"), accessFlags := 16409, slot := 8, constantValue := 0 }, { name := "LEAVE_GROUP", type := (.object "com/example/tote/tote/service/Api"), accessFlags := 16409, slot := 9, constantValue := 0 }, { name := "SYNC_GROUP", type := (.object "com/example/tote/tote/service/Api"), accessFlags := 16409, slot := 10, constantValue := 0 }, { name := "API_VERSIONS", type := (.object "com/example/tote/tote/service/Api"), accessFlags := 16409, slot := 11, constantValue := 0 }, { name := "CREATE_TOPICS", type := (.object "com/example/tote/tote/service/Api"), accessFlags := 16409, slot := 12, constantValue := 0 }, { name := "DELETE_TOPICS", type := (.object "com/example/tote/tote/service/Api"), accessFlags := 16409, slot := 13, constantValue := 0 }, { name := "INIT_PRODUCER_ID", type := (.object "com/example/tote/tote/service/Api"), accessFlags := 16409, slot := 14, constantValue := 0 }, { name := "NOT_FLEXIBLE", type := .int, accessFlags := 26, slot := 15, constantValue := 0 }, { name := "mKey", type := .short, accessFlags := 18, slot := 3, constantValue := 0 }, { name := "mMinVersion", type := .short, accessFlags := 18, slot := 4, constantValue := 0 }, { name := "mMaxVersion", type := .short, accessFlags := 18, slot := 5, constantValue := 0 }, { name := "mFirstFlexibleVersion", type := .int, accessFlags := 18, slot := 6, constantValue := 0 }, { name := "$VALUES", type := (.array (.object "com/example/tote/tote/service/Api")), accessFlags := 4122, slot := 16, constantValue := 0 }]
  methods := #[k6m0]
  instanceTypes := #[(.object "java/lang/String"), .int, .int, .short, .short, .short, .int]
  staticTypes := #[(.object "com/example/tote/tote/service/Api"), (.object "com/example/tote/tote/service/Api"), (.object "com/example/tote/tote/service/Api"), (.object "com/example/tote/tote/service/Api"), (.object "com/example/tote/tote/service/Api"), (.object "com/example/tote/tote/service/Api"), (.object "com/example/tote/tote/service/Api"), (.object "com/example/tote/tote/service/Api"), (.object "com/example/tote/tote/service/Api"), (.object "com/example/tote/tote/service/Api"), (.object "com/example/tote/tote/service/Api"), (.object "com/example/tote/tote/service/Api"), (.object "com/example/tote/tote/service/Api"), (.object "com/example/tote/tote/service/Api"), (.object "com/example/tote/tote/service/Api"), .int, (.array (.object "com/example/tote/tote/service/Api"))]
  resolved := Array.replicate 136 none
  statics := some 0 }

def pool7 : Array CpInfo := pool [(1, u "java/lang/Cloneable"), (0, .class_ 1), (0, u "java/lang/Object"), (0, .class_ 3)] 3

/-- java/lang/Cloneable -/
def k7 : Class := { plain "java/lang/Cloneable" (some 0) with
  accessFlags := 1537
  interfaces := #[]
  cf := some (fileOf pool7 2 #[] #[] 1537 4 #[] #[])
  fields := #[]
  methods := #[]
  instanceTypes := #[]
  staticTypes := #[]
  resolved := Array.replicate 8 none
  statics := none }

/-- the primitive byte -/
def k8 : Class := { plain "byte" none with kind := .primitive 'B', accessFlags := 0x411 }
/-- [B -/
def k9 : Class := { plain "[B" (some 0) with kind := .array 8 .byte, interfaces := #[7, 4], accessFlags := 1041 }

/-- the primitive int -/
def k10 : Class := { plain "int" none with kind := .primitive 'I', accessFlags := 0x411 }
/-- [I -/
def k11 : Class := { plain "[I" (some 0) with kind := .array 10 .int, interfaces := #[7, 4], accessFlags := 1041 }

def heap : Heap := #[{ cls := 6, slots := #[.ref 1, .ref 5, .ref 12, .ref 3, .ref 6, .ref 14, .ref 7, .ref 11, .ref 8, .ref 10, .ref 13, .ref 4, .ref 9, .ref 15, .ref 2, .int 0, .null], vm := .statics 6 },
  { cls := 6, slots := #[.null, .int 0, .int 0, .int 0, .int 3, .int 8, .int 0], vm := .none },
  { cls := 6, slots := #[.null, .int 1, .int 0, .int 1, .int 0, .int 4, .int 0], vm := .none },
  { cls := 6, slots := #[.null, .int 2, .int 0, .int 2, .int 0, .int 8, .int 0], vm := .none },
  { cls := 6, slots := #[.null, .int 3, .int 0, .int 3, .int 0, .int 3, .int 0], vm := .none },
  { cls := 6, slots := #[.null, .int 4, .int 0, .int 4, .int 4, .int 11, .int 0], vm := .none },
  { cls := 6, slots := #[.null, .int 5, .int 0, .int 5, .int 0, .int 7, .int 0], vm := .none },
  { cls := 6, slots := #[.null, .int 6, .int 0, .int 6, .int 0, .int 2, .int 0], vm := .none },
  { cls := 6, slots := #[.null, .int 7, .int 0, .int 7, .int 0, .int 3, .int 0], vm := .none },
  { cls := 6, slots := #[.null, .int 8, .int 0, .int 8, .int 0, .int 4, .int 0], vm := .none },
  { cls := 6, slots := #[.null, .int 9, .int 0, .int 9, .int 0, .int 3, .int 0], vm := .none },
  { cls := 6, slots := #[.null, .int 10, .int 0, .int 10, .int 0, .int 5, .int 0], vm := .none },
  { cls := 6, slots := #[.null, .int 11, .int 0, .int 11, .int 0, .int 5, .int 0], vm := .none },
  { cls := 6, slots := #[.null, .int 12, .int 0, .int 12, .int 0, .int 3, .int 0], vm := .none },
  { cls := 6, slots := #[.null, .int 13, .int 0, .int 13, .int 0, .int 7, .int 0], vm := .none },
  { cls := 6, slots := #[.null, .int 14, .int 0, .int 14, .int 0, .int 3, .int 0], vm := .none }]
def classes : Array Class := #[k0, k1, k2, k3, k4, k5, k6, k7, k8, k9, k10, k11]
def interned : List (Array UInt16 × Addr) := []
def slotsUsed : Nat := 122
def theMethod : MethodId := ⟨1, 1⟩
def args0 : Array Value := #[.int 3, .int 4]
def aboutOver (below : List Frame) : State where
  vm := { classes := classes, interned := interned.toArray }
  heap := heap
  slotsUsed := slotsUsed
  threads := #[{ frames := .invoking theMethod args0 :: below }]
def below0 : List Frame := [.native { method := ⟨0, 0⟩, args := #[] }]
def about1 : State := aboutOver below0
def p0 : Program := .bare "" "" ""
def e0 : Env := launch0.env 0 0 0
theorem w_frames : about1.frames = Frame.invoking theMethod args0 :: below0 := rfl
set_option maxRecDepth 65536 in
theorem w_args : argsFit about1.vm theMethod args0 = true := by decide +kernel
set_option maxRecDepth 65536 in
theorem w_heap : heapFits about1 = true := by decide +kernel
set_option maxRecDepth 65536 in
theorem w_runnable : about1.curStatus? = some .runnable := by decide +kernel
set_option maxRecDepth 65536 in
theorem w_alone : about1.alone = true := by decide +kernel
set_option maxRecDepth 65536 in
theorem w_named : about1.methodNamed? x = some theMethod := by decide +kernel
set_option maxRecDepth 65536 in
theorem w_hears : about1.hears theMethod below0 = true := by decide +kernel
set_option maxRecDepth 65536 in
theorem w_ripe : about1.ripe theMethod args0 below0 = true := by decide +kernel
theorem w_running : about1.status = .running := rfl
set_option maxRecDepth 65536 in
theorem w_room : about1.hasRoom e0.platform room_1 = true :=
  launch0.hasRoom_least _ room_1 (by decide +kernel) (by decide +kernel) (by decide +kernel) (by decide +kernel) (by decide +kernel) (by decide +kernel)
theorem allAtoms_all (ts : List Jvm.Cond) (a : Array Jvm.Value) (st : Jvm.State) : (allAtoms ts).before a st = ts.all (fun c => c.before a st) := by
  induction ts with
  | nil => rfl
  | cons c t ih =>
    show (Jvm.Cond.and c (allAtoms t)).before a st = _
    rw [Jvm.Cond.before_and, ih, List.all_cons]
def words1 : List Jvm.Cond := Jvm.Cond.code x code maxLocals ret :: tables_1
/-- a 'code' word, met by the world's own term for the bytes: nothing is compared byte by byte -/
theorem code_word {y : MethodName} {bytes : ByteArray} {mx : Nat} {rt : Option FieldType} {a : Array Value} {s : State} {m : MethodId} {meth : Method} {c : Code} (h1 : s.methodNamed? y = some m) (h2 : s.vm.method? m = some meth) (h3 : meth.code = some c) (h4 : c.code = bytes)
    (h5 : (c.maxLocals == mx && c.exceptionTable.isEmpty && decide (c.maxStack ≤ mostOperands) && decide (meth.sig.returnType = rt) && !meth.locks && decide (parseMethodDescriptor y.desc = some meth.sig)) = true) : (Jvm.Cond.code y bytes mx rt).before a s = true := by
  simp only [Bool.and_eq_true, beq_iff_eq, Bool.not_eq_true', decide_eq_true_eq] at h5
  obtain ⟨⟨⟨⟨⟨g1, g2⟩, g3⟩, g4⟩, g5⟩, g6⟩ := h5
  simp [Cond.before, Cond.holds, Cond.value, h1, h2, h3, h4, g1, g2, g3, g4, g5, g6]
def isCode : Jvm.Cond → Bool
  | .code _ _ _ _ => true
  | _ => false
theorem all_split {L : List Jvm.Cond} {P : Jvm.Cond → Bool} (h1 : L.all (fun c => isCode c || P c) = true) (h2 : ∀ c ∈ L.filter isCode, P c = true) : L.all P = true := by
  refine List.all_eq_true.mpr fun c hc => ?_
  have h := List.all_eq_true.mp h1 c hc
  rcases Bool.eq_false_or_eq_true (isCode c) with hi | hi
  · exact h2 c (List.mem_filter.mpr ⟨hc, hi⟩)
  · simpa [hi] using h
set_option maxRecDepth 65536 in
theorem w_c0 : (Jvm.Cond.code x code maxLocals ret).before args0 about1 = true := code_word (m := ⟨1, 1⟩) (meth := k1m1) (c := k1c1) (by decide +kernel) rfl rfl rfl (by decide +kernel)
set_option maxRecDepth 65536 in
theorem w_c1 : (Jvm.Cond.code ({ cls := "com/example/tote/tote/service/Api", name := "serves", desc := "(S)Z" } : Jvm.MethodName) prog_21_method_8_code (2 : Nat) (Option.some Jvm.ClassFile.FieldType.boolean)).before args0 about1 = true := code_word (m := ⟨6, 0⟩) (meth := k6m0) (c := k6c0) (by decide +kernel) rfl rfl rfl (by decide +kernel)
def codes1 : List Jvm.Cond := [Jvm.Cond.code x code maxLocals ret, Jvm.Cond.code ({ cls := "com/example/tote/tote/service/Api", name := "serves", desc := "(S)Z" } : Jvm.MethodName) prog_21_method_8_code (2 : Nat) (Option.some Jvm.ClassFile.FieldType.boolean)]
set_option maxRecDepth 65536 in
theorem codes_eq : words1.filter isCode = codes1 := rfl
theorem w_codes : ∀ c ∈ words1.filter isCode, c.before args0 about1 = true := by
  rw [codes_eq]
  intro c hc
  simp only [codes1, List.mem_cons, List.not_mem_nil, or_false] at hc
  rcases hc with rfl | rfl
  · exact w_c0
  · exact w_c1
set_option maxRecDepth 65536 in
theorem w_t1 : (words1.take 24).all (fun c => isCode c || c.before args0 about1) = true := by decide +kernel
set_option maxRecDepth 65536 in
theorem w_t2 : (words1.drop 24).all (fun c => isCode c || c.before args0 about1) = true := by decide +kernel
theorem w_tables : (allAtoms (Jvm.Cond.code x code maxLocals ret :: tables_1)).before args0 about1 = true := by
  rw [allAtoms_all]
  show words1.all (fun c => c.before args0 about1) = true
  refine all_split ?_ w_codes
  rw [← List.take_append_drop 24 words1, List.all_append, w_t1, w_t2]
  rfl
set_option maxRecDepth 65536 in
theorem w_case : (Jvm.Cond.and given_1 narrow_1).before args0 about1 = true := by decide +kernel
theorem w_applies : (headSpec (Jvm.Cond.code x code maxLocals ret :: tables_1) room_1).applies x e0.platform about1 = true :=
  (Spec.applies_iff w_frames).mpr ⟨w_running, w_runnable, w_alone, w_named, w_hears, w_ripe, w_room, w_tables⟩
theorem atStart : AtStart classFile x code maxLocals ret World_1 tables_1 room_1 Calls_1 rest_1 Pre_1 launch0 p0 e0 about1 theMethod args0 below0 :=
  ⟨lists_1, trivial, launch0.admits_env _ _ _, launch0.least_env, fairChoices_fair.cas, fairChoices_fair.clock, w_frames, w_args, w_heap, w_applies, trivial, trivial, w_case⟩
end start1
theorem witness_1 : WitnessClaimed_1 := ⟨start1.p0, start1.e0, start1.about1, start1.theMethod, start1.args0, start1.below0, start1.atStart⟩
end Jvm.Pilot.@@N@@
