import JvmDerived
import JvmDerived.Pilot.@@N@@Statement
import JvmDerived.Pilot.@@N@@Code
set_option linter.unusedVariables false
set_option linter.unusedSimpArgs false
namespace Jvm.Pilot.@@N@@
open Jvm Jvm.ClassFile Sem Op Lib Jvm.Free Jvm.Stand Jvm.LawKit Jvm.RoadKit Bundle Jvm.Pilot.@@N@@.Jvm.D
section OwnRun
variable {p : Program} {l : Launch} {e : Env} {R : Room} {s : State} {m : MethodId} {args : Array Value} {below : List Frame} {meth : Method} {c : Code} {T T' : State} {locs : List Loc} {cells slots : Nat}
/-- from here the run ends, as G says -/
def own_Run (p : Program) (e : Env) (below : List Frame) (G : Outcome → State → Prop) (T : State) (g : JFrame) : Prop :=
  ∃ s₂ o, Steps p.tables e below (T.setTop g) s₂ ∧ s₂.status = .running ∧ Ended s₂ below o ∧ G o s₂
theorem own_go {G : Outcome → State → Prop} {g g' : JFrame} (h : ∀ t, Steps p.tables e below (T'.setTop g') t → Steps p.tables e below (T.setTop g) t) (k : own_Run p e below G T' g') : own_Run p e below G T g := by
  obtain ⟨s₂, o, h1, h2, h3, h4⟩ := k
  exact ⟨s₂, o, h _ h1, h2, h3, h4⟩
theorem own_goT {G : Outcome → State → Prop} {g g' : JFrame} (h : Steps p.tables e below (T.setTop g) (T'.setTop g')) (k : own_Run p e below G T' g') : own_Run p e below G T g :=
  own_go (fun _ q => h.trans q) k
theorem own_start {G : Outcome → State → Prop} {f f' : JFrame} (h : f = f') (k : own_Run p e below G T f') : ∃ s₂ o, Steps p.tables e below (T.setTop f) s₂ ∧ s₂.status = .running ∧ Ended s₂ below o ∧ G o s₂ := by
  subst h
  exact k
theorem own_done {Q : Option Value → Heap → List Loc → Prop} {C N : Nat} {g : JFrame} (X : Stand p l e R s m args below meth c T locs cells slots) {v : Option Value} (hv : meth.sig.returnType = none → v = none) (hlocks : meth.locks = false)
    (hstep : ∀ fs, (∀ (f : JFrame) (acts : List Action), f.method = m → f.locked = none → f.entered = [] → (doReturn e (T.setTop f) acts v).1 = T.setFrames fs) → Steps p.tables e below (T.setTop g) (T.setFrames fs))
    (hQ : Q v T.heap locs) (hc : cells ≤ C) (hs : slots ≤ N) :
    own_Run p e below (fun o U' => ∃ v L, o = .returned v ∧ Q v U'.heap L ∧ FrameEnd s o U' L C N) T g := by
  obtain ⟨fs, hr, hrun, hended, hW, hsame⟩ := X.leave hv hlocks
  exact ⟨_, _, hstep fs hr, hrun, hended, _, _, rfl, hQ, ⟨_, rfl⟩, hW, hsame.mono hc hs⟩
theorem own_mono {cells' slots' : Nat} (X : Stand p l e R s m args below meth c T locs cells slots) (hc : cells ≤ cells') (hs : slots ≤ slots') : Stand p l e R s m args below meth c T locs cells' slots' :=
  ⟨X.admits, X.cas, X.clock, X.frames, X.room, X.hears, X.method, X.code, X.here, X.tail, X.warmed, X.limits, X.bytes, X.same.mono hc hs⟩
theorem own_retI (X : Stand p l e R s m args below meth c T locs cells slots) (hx : p.tables.exec = Jvm.exec) {pc : Nat} {Ls : Array Slot} {z : Int32} {rest : List Value} (hret : meth.sig.returnType = some .int) (hd : decode c.code pc = .ok (.ireturn, 1)) {fs : List Frame}
    (hl : ∀ (f : JFrame) (acts : List Action), f.method = m → f.locked = none → f.entered = [] → (doReturn e (T.setTop f) acts (some (.int z))).1 = T.setFrames fs) : Steps p.tables e below (T.setTop (mkF m pc Ls (.int z :: rest))) (T.setFrames fs) :=
  retOut X hx hret rfl (Or.inl ⟨rfl, Or.inl rfl, z, rfl⟩) hd hl
theorem own_retL (X : Stand p l e R s m args below meth c T locs cells slots) (hx : p.tables.exec = Jvm.exec) {pc : Nat} {Ls : Array Slot} {z : Int64} {rest : List Value} (hret : meth.sig.returnType = some .long) (hd : decode c.code pc = .ok (.lreturn, 1)) {fs : List Frame}
    (hl : ∀ (f : JFrame) (acts : List Action), f.method = m → f.locked = none → f.entered = [] → (doReturn e (T.setTop f) acts (some (.long z))).1 = T.setFrames fs) : Steps p.tables e below (T.setTop (mkF m pc Ls (.long z :: rest))) (T.setFrames fs) :=
  retOut X hx hret rfl (Or.inr (Or.inl ⟨rfl, rfl, z, rfl⟩)) hd hl
theorem own_retA {t : FieldType} (X : Stand p l e R s m args below meth c T locs cells slots) (hx : p.tables.exec = Jvm.exec) {pc : Nat} {Ls : Array Slot} {w : Value} {rest : List Value} (hret : meth.sig.returnType = some t) (ht : t.isReference = true) (hn : narrow t w = w) (hw : w.isRef = true) (hd : decode c.code pc = .ok (.areturn, 1)) {fs : List Frame}
    (hl : ∀ (f : JFrame) (acts : List Action), f.method = m → f.locked = none → f.entered = [] → (doReturn e (T.setTop f) acts (some w)).1 = T.setFrames fs) : Steps p.tables e below (T.setTop (mkF m pc Ls (w :: rest))) (T.setFrames fs) :=
  retOut X hx hret hn (Or.inr (Or.inr (Or.inr (Or.inr ⟨rfl, ht, hw⟩)))) hd hl
theorem own_ns {Z : State} {h : Heap} {a : Addr} {C : String} (E : Exa Z h a C) : ∃ c : Cell, h[a]? = some c ∧ c.vm.isStatics = false := by
  obtain ⟨c, k, h1, -, -, h4, -⟩ := E
  exact ⟨c, h1, h4⟩
theorem own_nsV {Z : State} {h : Heap} {a : Addr} {k : ClassId} {ty : FieldType} {n : Int32} {vs : List Value} {d : Value} (V : Arv Z h a k ty n vs d) : ∃ c : Cell, h[a]? = some c ∧ c.vm.isStatics = false := by
  obtain ⟨c, A, -⟩ := V
  exact ⟨c, A.1, A.plain⟩
theorem own_staKeep {Z : State} {h h' : Heap} {ws : List Addr} {C n d : String} {w : Value} (F : Sta Z h C n d w) (K : Keep h h' ws) (q : ∀ x ∈ ws, ∃ c : Cell, h[x]? = some c ∧ c.vm.isStatics = false) : Sta Z h' C n d w := by
  obtain ⟨cf, i, k, f, st, cell, h1, h2, h3, h4, h5, h6, h7⟩ := F
  refine ⟨cf, i, k, f, st, cell, h1, h2, h3, h4, K.2.1 st cell h5 (fun hm => ?_), h6, h7⟩
  obtain ⟨c, e1, e2⟩ := q st hm
  cases h5.symm.trans e1
  rw [h6] at e2; cases e2
theorem own_eqL {args : Array Value} {first s : State} {o : Option Outcome} {idx : List Nat} {t : Term} {n : Int64} (h : (Jvm.Cond.eq t (Term.long n)).value args first o s idx = some true) : t.eval args first o idx s = some (.long n) := by
  cases ht : t.eval args first o idx s with
  | none => simp [Cond.value, ht] at h
  | some x => cases x <;> simp [Cond.value, ht, Term.eval] at h ⊢ <;> exact h
theorem own_eqI {args : Array Value} {first s : State} {o : Option Outcome} {idx : List Nat} {t : Term} {n : Int32} (h : (Jvm.Cond.eq t (Term.int n)).value args first o s idx = some true) : t.eval args first o idx s = some (.int n) := by
  cases ht : t.eval args first o idx s with
  | none => simp [Cond.value, ht] at h
  | some x => cases x <;> simp [Cond.value, ht, Term.eval] at h ⊢ <;> exact h
theorem own_eqR {args : Array Value} {first s : State} {o : Option Outcome} {idx : List Nat} {t u : Term} {x : Addr} (h : (Jvm.Cond.eq t u).value args first o s idx = some true) (hu : u.eval args first o idx s = some (.ref x)) : t.eval args first o idx s = some (.ref x) := by
  cases ht : t.eval args first o idx s with
  | none => simp [Cond.value, ht] at h
  | some y => cases y <;> simp [Cond.value, ht, hu] at h ⊢ <;> exact h
theorem own_nf {s : State} {args : Array Value} {C : String} {y y' : MethodName} (hsel : (Jvm.Cond.selects C y y).before args s = true) (hc : y'.cls = y.cls) : NotFace s y' := fun r0 h0 => by
  obtain ⟨c2, r2, m2, q1, q2, q3, q4, kP, hkP, hkPi⟩ := Cond.selects_spec hsel
  have a := findClass_of_methodNamed q3
  have b := findClass_of_methodNamed h0
  rw [hc] at b
  have e := Option.some.inj (a.symm.trans b)
  exact ⟨kP, by rw [← e]; exact hkP, hkPi⟩
theorem own_selP {s : State} {args args' : Array Value} {C : String} {y y' : MethodName} (hsel : (Jvm.Cond.selects C y' y').before args s = true) (hc : y.cls = y'.cls) (hpriv : s.PrivateAt y) (hinst : (Jvm.Cond.instanceMethod y).before args' s = true) (hy : y.cls ≠ "java/lang/invoke/MethodHandle" ∧ y.cls ≠ "java/lang/invoke/VarHandle") : (Jvm.Cond.selects y.cls y y).before args' s = true := by
  obtain ⟨mk, methM, hnamed, -, -, -⟩ := Cond.instanceMethod_spec hinst
  obtain ⟨k, hk, hni⟩ := own_nf hsel hc mk hnamed
  exact selects_self_of_private (findClass_of_methodNamed hnamed) hk hni hpriv hinst hy
end OwnRun
theorem own_lcLt {x y : Int64} (h : x < y) : lcmpW x y = -1 := by
  have h1 : ¬ (x > y) := by simp only [GT.gt, Int64.lt_iff_toInt_lt] at h ⊢; omega
  have h2 : ¬ (x = y) := by rintro rfl; exact Int64.lt_irrefl h
  simp [lcmpW, h1, h2]
theorem own_lcGt {x y : Int64} (h : y < x) : lcmpW x y = 1 := by
  have h1 : x > y := h
  simp [lcmpW, h1]
theorem own_lcEq {x y : Int64} (h : x = y) : lcmpW x y = 0 := by
  subst h
  have h1 : ¬ (x > x) := Int64.lt_irrefl
  simp [lcmpW, h1]
theorem own_lcNlt {x y : Int64} (h : ¬ x < y) : lcmpW x y = 0 ∨ lcmpW x y = 1 := by
  by_cases q : x = y
  · exact Or.inl (own_lcEq q)
  · refine Or.inr (own_lcGt ?_)
    simp only [Int64.lt_iff_toInt_lt, ← Int64.toInt_inj] at h q ⊢; omega
theorem own_lcNgt {x y : Int64} (h : ¬ y < x) : lcmpW x y = 0 ∨ lcmpW x y = -1 := by
  by_cases q : x = y
  · exact Or.inl (own_lcEq q)
  · refine Or.inr (own_lcLt ?_)
    simp only [Int64.lt_iff_toInt_lt, ← Int64.toInt_inj] at h q ⊢; omega
theorem own_lcNe {x y : Int64} (h : ¬ x = y) : lcmpW x y = 1 ∨ lcmpW x y = -1 := by
  by_cases q : x < y
  · exact Or.inr (own_lcLt q)
  · refine Or.inl (own_lcGt ?_)
    simp only [Int64.lt_iff_toInt_lt, ← Int64.toInt_inj] at h q ⊢; omega
theorem own_lcT {x y : Int64} (h : x < y) : ifCond.holds .lt (lcmpW x y) = true ∧ ifCond.holds .ge (lcmpW x y) = false ∧ ifCond.holds .gt (lcmpW y x) = true ∧ ifCond.holds .le (lcmpW y x) = false := by
  rw [own_lcLt h, own_lcGt h]; decide
theorem own_lcF {x y : Int64} (h : ¬ x < y) : ifCond.holds .lt (lcmpW x y) = false ∧ ifCond.holds .ge (lcmpW x y) = true ∧ ifCond.holds .gt (lcmpW y x) = false ∧ ifCond.holds .le (lcmpW y x) = true := by
  rcases own_lcNlt h with q | q <;> rcases own_lcNgt (x := y) (y := x) h with r | r <;> rw [q, r] <;> decide
theorem own_lcTe {x y : Int64} (h : x = y) : ifCond.holds .eq (lcmpW x y) = true ∧ ifCond.holds .ne (lcmpW x y) = false := by
  rw [own_lcEq h]; decide
theorem own_lcFe {x y : Int64} (h : ¬ x = y) : ifCond.holds .eq (lcmpW x y) = false ∧ ifCond.holds .ne (lcmpW x y) = true := by
  rcases own_lcNe h with q | q <;> rw [q] <;> decide
theorem own_maskI (x : Int32) (M : Nat) (hM : M < 2 ^ 31) : (x &&& Int32.ofNat M).toInt = ((x.toBitVec.toNat &&& M : Nat) : Int) := by
  have h1 : (x &&& Int32.ofNat M).toBitVec.toNat = x.toBitVec.toNat &&& M := by
    rw [Int32.toBitVec_and, BitVec.toNat_and]
    congr 1
    show (BitVec.ofNat 32 M).toNat = M
    rw [BitVec.toNat_ofNat]; omega
  have h2 : x.toBitVec.toNat &&& M ≤ M := Nat.and_le_right
  rw [Int32.toInt, BitVec.toInt_eq_toNat_of_lt (by rw [h1]; omega), h1]
theorem own_mask0 (x : Int32) (M : Nat) (hM : M < 2 ^ 31) : 0 ≤ (x &&& Int32.ofNat M).toInt ∧ (x &&& Int32.ofNat M).toInt ≤ M := by
  rw [own_maskI x M hM]
  have h2 : x.toBitVec.toNat &&& M ≤ M := Nat.and_le_right
  omega
theorem own_rem (x : Int32) (k : Int32) (hx : 0 ≤ x.toInt) (hk : 0 < k.toInt) : 0 ≤ (x % k).toInt ∧ (x % k).toInt < k.toInt := by
  rw [Int32.toInt_mod]
  exact ⟨Int.tmod_nonneg _ hx, Int.tmod_lt_of_pos _ hk⟩
theorem own_bm (z : Int) (h1 : -2147483648 ≤ z) (h2 : z < 2147483648) : z.bmod (2 ^ 32) = z := by
  rw [Int.bmod_def]; split <;> omega
theorem own_addI (a b : Int32) (h1 : -2147483648 ≤ a.toInt + b.toInt) (h2 : a.toInt + b.toInt < 2147483648) : (a + b).toInt = a.toInt + b.toInt := by
  rw [Int32.toInt_add, own_bm _ h1 h2]
theorem own_subI (a b : Int32) (h1 : -2147483648 ≤ a.toInt - b.toInt) (h2 : a.toInt - b.toInt < 2147483648) : (a - b).toInt = a.toInt - b.toInt := by
  rw [Int32.toInt_sub, own_bm _ h1 h2]
theorem own_nz (a : Int32) (h : 0 < a.toInt) : a ≠ 0 := by
  rintro rfl; exact absurd h (by decide)
theorem own_ushr (x k : Int32) (n : Nat) (h : ((k &&& 31).toUInt32.toBitVec % 32).toNat = n) (hn : 0 < n) : ((x.toUInt32 >>> (k &&& 31).toUInt32).toInt32).toInt = ((x.toBitVec.toNat >>> n : Nat) : Int) ∧ x.toBitVec.toNat >>> n < 2 ^ (32 - n) := by
  have e : ((x.toUInt32 >>> (k &&& 31).toUInt32).toInt32).toBitVec = x.toBitVec >>> n := by
    show x.toBitVec >>> ((k &&& 31).toUInt32.toBitVec % 32) = _
    rw [BitVec.ushiftRight_eq', h]
  have hx : x.toBitVec.toNat < 2 ^ 32 := x.toBitVec.isLt
  have e2 : x.toBitVec.toNat >>> n < 2 ^ (32 - n) := by
    rw [Nat.shiftRight_eq_div_pow]
    rcases Nat.lt_or_ge n 32 with q | q
    · rw [Nat.div_lt_iff_lt_mul (Nat.two_pow_pos n), ← Nat.pow_add, Nat.sub_add_cancel (by omega)]; exact hx
    · rw [Nat.div_eq_of_lt (Nat.lt_of_lt_of_le hx (Nat.pow_le_pow_right (by decide) q))]; exact Nat.two_pow_pos _
  refine ⟨?_, e2⟩
  have e3 : 2 ^ (32 - n) ≤ 2 ^ 31 := Nat.pow_le_pow_right (by decide) (by omega)
  rw [Int32.toInt, e, BitVec.toInt_eq_toNat_of_lt (by rw [BitVec.toNat_ushiftRight]; omega), BitVec.toNat_ushiftRight]
theorem own_lit (a : Int32) (n : Int) (b : Int32) (h : a.toInt = n) (hb : b.toInt = n) : a = b := Int32.toInt_inj.mp (h.trans hb.symm)
theorem own_four (a : Int32) (h0 : 0 ≤ a.toInt) (h1 : a.toInt < 4) : a = 0 ∨ a = 1 ∨ a = 2 ∨ a = 3 := by
  have q : a.toInt = 0 ∨ a.toInt = 1 ∨ a.toInt = 2 ∨ a.toInt = 3 := by omega
  rcases q with q | q | q | q
  · exact Or.inl (own_lit _ _ _ q rfl)
  · exact Or.inr (Or.inl (own_lit _ _ _ q rfl))
  · exact Or.inr (Or.inr (Or.inl (own_lit _ _ _ q rfl)))
  · exact Or.inr (Or.inr (Or.inr (own_lit _ _ _ q rfl)))
theorem own_byte (a : Int32) (h0 : 0 ≤ a.toInt) (h1 : a.toInt < 128) : a.toInt8.toInt32 = a := by
  apply Int32.toInt_inj.mp
  rw [Int8.toInt_toInt32, Int32.toInt_toInt8, Int.bmod_def]; split <;> omega
theorem own_asym {x y : Int32} (h : x < y) : ¬ (y < x) := by rw [Int32.lt_iff_toInt_lt] at h ⊢; omega
theorem own_neL {x y : Int32} (h : x < y) : ¬ (y = x) := by rintro rfl; exact Int32.lt_irrefl h
theorem own_neR {x y : Int32} (h : x < y) : ¬ (x = y) := by rintro rfl; exact Int32.lt_irrefl h
theorem own_trI {x y z : Int32} (h : x < y) (k : y < z) : x < z := by rw [Int32.lt_iff_toInt_lt] at h k ⊢; omega
theorem own_tri (x q : Int32) : x < q ∨ x = q ∨ q < x := by
  rcases Int.lt_trichotomy x.toInt q.toInt with h | h | h
  · exact Or.inl (Int32.lt_iff_toInt_lt.mpr h)
  · exact Or.inr (Or.inl (Int32.toInt_inj.mp h))
  · exact Or.inr (Or.inr (Int32.lt_iff_toInt_lt.mpr h))
theorem own_gap (p x : Int32) (h : x = (1 : Int32) + (p &&& (255 : Int32))) : 1 ≤ x.toInt ∧ x.toInt ≤ 256 := by
  have q := own_mask0 p 255 (by decide)
  have q' : 0 ≤ (p &&& (255 : Int32)).toInt ∧ (p &&& (255 : Int32)).toInt ≤ 255 := q
  have e1 : (1 : Int32).toInt = 1 := rfl
  rw [h, own_addI _ _ (by omega) (by omega), e1]; omega
theorem own_min0 (f x : Int32) (h : x = (if (2147483135 : Int32) < f then (2147483135 : Int32) else f)) : x.toInt ≤ 2147483135 := by
  have e : (2147483135 : Int32).toInt = 2147483135 := rfl
  rw [h]
  split
  · rw [e]; omega
  · rename_i k
    rw [Int32.lt_iff_toInt_lt, e] at k; omega
theorem own_inc (x g y : Int32) (n : Int) (hn : n ≤ 2147483391) (hx : x.toInt ≤ n) (hg : 1 ≤ g.toInt ∧ g.toInt ≤ 256) (h : y = x + g) : x < y ∧ y.toInt ≤ n + 256 := by
  have l := Int32.le_toInt x
  have e : y.toInt = x.toInt + g.toInt := by rw [h, own_addI _ _ (by omega) (by omega)]
  rw [Int32.lt_iff_toInt_lt]; omega
theorem own_and3 (p x : Int32) (h : x = (p &&& (3 : Int32))) : x = (0 : Int32) ∨ x = (1 : Int32) ∨ x = (2 : Int32) ∨ x = (3 : Int32) := by
  have q := own_mask0 p 3 (by decide)
  have q' : 0 ≤ x.toInt ∧ x.toInt ≤ 3 := by rw [h]; exact q
  exact own_four x q'.1 (by omega)
theorem d2_0 : decode prog_10_method_1_code 0 = .ok (.aload_n 0, 1) := by decide +kernel
theorem d2_1 : decode prog_10_method_1_code 1 = .ok (.invokespecial 1, 3) := by decide +kernel
theorem d2_4 : decode prog_10_method_1_code 4 = .ok (.aload_n 0, 1) := by decide +kernel
theorem d2_5 : decode prog_10_method_1_code 5 = .ok (.bipush 8, 2) := by decide +kernel
theorem d2_7 : decode prog_10_method_1_code 7 = .ok (.newarray .int, 2) := by decide +kernel
theorem d2_9 : decode prog_10_method_1_code 9 = .ok (.putfield 7, 3) := by decide +kernel
theorem d2_12 : decode prog_10_method_1_code 12 = .ok (.aload_n 0, 1) := by decide +kernel
theorem d2_13 : decode prog_10_method_1_code 13 = .ok (.bipush 8, 2) := by decide +kernel
theorem d2_15 : decode prog_10_method_1_code 15 = .ok (.newarray .long, 2) := by decide +kernel
theorem d2_17 : decode prog_10_method_1_code 17 = .ok (.putfield 13, 3) := by decide +kernel
theorem d2_20 : decode prog_10_method_1_code 20 = .ok (.return_, 1) := by decide +kernel
theorem pn_2 : plainName "com/example/net_reducer/netreducer/analysis/Marking" = true := by first | (simp [plainName, overriddenIn]; done) | decide +kernel
theorem ef_2 (m : MethodId) (x0 : Addr) : entryFrame m #[(.ref x0)] 1 = mkF m 0 #[.val (.ref x0)] [] := by first | (simp [entryFrame, mkF, argsToLocals, Value.category]; done) | rfl
def Q2 (Z : State) (a1 : Addr) (u0 : Value) (u1 : Value) (h0 : Heap) (n0 : Nat) (v : Option Value) (h : Heap) (L : List Loc) : Prop := ∃ (b1 : Addr) (b2 : Addr) (k1 : ClassId) (k2 : ClassId), v = none ∧ Fr n0 L ∧ Keep h0 h [a1] ∧ Exa Z h a1 "com/example/net_reducer/netreducer/analysis/Marking" ∧ Fld Z h a1 "com/example/net_reducer/netreducer/analysis/Marking" "places" "[I" (.ref b1) ∧ Fld Z h a1 "com/example/net_reducer/netreducer/analysis/Marking" "tokens" "[J" (.ref b2) ∧ Fld Z h a1 "com/example/net_reducer/netreducer/analysis/Marking" "size" "I" (.int (0 : Int32)) ∧ Arv Z h b1 k1 .int (8 : Int32) [(.int (0 : Int32)), (.int (0 : Int32)), (.int (0 : Int32)), (.int (0 : Int32)), (.int (0 : Int32)), (.int (0 : Int32)), (.int (0 : Int32)), (.int (0 : Int32))] (.int (0 : Int32)) ∧ Arv Z h b2 k2 .long (8 : Int32) [(.long (0 : Int64)), (.long (0 : Int64)), (.long (0 : Int64)), (.long (0 : Int64)), (.long (0 : Int64)), (.long (0 : Int64)), (.long (0 : Int64)), (.long (0 : Int64))] (.long (0 : Int64)) ∧ h0.size ≤ b1 ∧ h0.size ≤ b2 ∧ a1 ≠ b1 ∧ a1 ≠ b2 ∧ b1 ≠ b2
set_option maxRecDepth 65536 in
set_option maxHeartbeats 40000000 in
theorem rm2 (l : Launch) (Z : State) (a0 : Array Value) (hw : ∀ d ∈ tables_1, d.before a0 Z = true) (ws : List Jvm.Cond) (a1 : Addr) (u0 : Value) (u1 : Value) (h0 : Heap) (n0 : Nat) (Z0 : n0 ≤ h0.size) (E_a1 : Exa Z h0 a1 "com/example/net_reducer/netreducer/analysis/Marking") (F_places_a1 : Fld Z h0 a1 "com/example/net_reducer/netreducer/analysis/Marking" "places" "[I" u0) (F_tokens_a1 : Fld Z h0 a1 "com/example/net_reducer/netreducer/analysis/Marking" "tokens" "[J" u1) (F_size_a1 : Fld Z h0 a1 "com/example/net_reducer/netreducer/analysis/Marking" "size" "I" (.int (0 : Int32))) (g_a1 : n0 ≤ a1) :
    MetFree l (⟨"com/example/net_reducer/netreducer/analysis/Marking", "<init>", "()V"⟩ : MethodName) (head1 (Jvm.Cond.code (⟨"com/example/net_reducer/netreducer/analysis/Marking", "<init>", "()V"⟩ : MethodName) prog_10_method_1_code 1 none :: ws) ({ frames := 1, cells := 2, slots := 16, locals := 12 } : Room)) (fun a U => a = #[(.ref a1)] ∧ Z.Warmed39 U.vm ∧ U.heap = h0) (fun _ _ _ _ _ => True) (fun _ U o U' => ∃ v L, o = .returned v ∧ Q2 Z a1 u0 u1 h0 n0 v U'.heap L ∧ FrameEnd U o U' L ({ frames := 1, cells := 2, slots := 16, locals := 12 } : Room).cells ({ frames := 1, cells := 2, slots := 16, locals := 12 } : Room).slots) := by
  refine MetFree.of_bodySF (plainFor_of_name pn_2) hisR ?_
  intro p e s m args below meth c s₁ Bd hml0 hP hK
  obtain ⟨rfl, hZ, hh⟩ := hP
  have hx := Bd.exec
  have hby := Bd.bytes
  have hml : c.maxLocals = 1 := hml0
  have hown : s.vm.findClass "com/example/net_reducer/netreducer/analysis/Marking" = some m.cls := findClass_of_methodNamed Bd.named
  have hnm := (name_of_methodNamed Bd.named Bd.method).1
  have hret := Bd.returns
  have hlk : meth.locks = false := BodyLoose.notSynchronized Bd
  have X0 : Stand p l e ({ frames := 1, cells := 2, slots := 16, locals := 12 } : Room) s m #[(.ref a1)] below meth c s₁ [] 0 0 := Stand.of_body Bd
  have e0 : s₁.heap = h0 := by rw [← hh, Bd.state]; rfl
  have N0 := Fr.nil n0
  have W := fun (k : Nat) {d : Jvm.Cond} (h : tables_1[k]? = some d) => hw d (List.mem_of_getElem? h)
  have K0 : Keep h0 h0 [a1] := Keep.refl _ _
  refine own_start (ef_2 m a1) ?_
  show own_Run p e below _ s₁ (mkF m 0 #[.val (.ref a1)] [])
  refine own_go (fun _ k => XS.aloadN X0.here hx rfl (hb hby d2_0) rfl rfl k) ?_
  show own_Run p e below _ s₁ (mkF m 1 #[.val (.ref a1)] [(.ref a1)])
  obtain ⟨T1, X1, e1, st1⟩ := initO X0 hx hZ hown (W 11 rfl) (W 12 rfl) (W 13 rfl) e0 (g := (mkF m 1 #[.val (.ref a1)] [(.ref a1)])) rfl (by rw [hml]; rfl) rfl (hb hby d2_1) (by decide) (W := 0) (by show 2 * 0 + _ ≤ _; exact Nat.le_of_eq rfl) (by decide)
  refine own_go st1 ?_
  show own_Run p e below _ T1 (mkF m 4 #[.val (.ref a1)] [])
  refine own_go (fun _ k => XS.aloadN X1.here hx rfl (hb hby d2_4) rfl rfl k) ?_
  refine own_go (fun _ k => XS.bipush X1.here hx rfl (hb hby d2_5) k) ?_
  show own_Run p e below _ T1 (mkF m 7 #[.val (.ref a1)] [(.int (8 : Int32)), (.ref a1)])
  obtain ⟨T2, h2, k2, X2, e2, E2, A2, st2⟩ := newP X1 hx hZ (W 14 rfl) e1 (g := (mkF m 7 #[.val (.ref a1)] [(.int (8 : Int32)), (.ref a1)])) rfl (hb hby d2_7) rfl (by decide) (cap := 8) (by decide) (by decide) (by decide) (by decide)
  refine own_go st2 ?_
  obtain ⟨b2, g2⟩ : ∃ z, z = h0.size := ⟨_, rfl⟩
  rw [← g2] at A2
  rw [← g2]
  show own_Run p e below _ T2 (mkF m 9 #[.val (.ref a1)] [(.ref b2), (.ref a1)])
  have ne_a1_b2 : a1 ≠ b2 := Nat.ne_of_lt (Nat.lt_of_lt_of_eq E_a1.lt g2.symm)
  have g_b2 : n0 ≤ b2 := Nat.le_trans Z0 (Nat.le_of_eq g2.symm)
  have sz_b2 : h0.size ≤ b2 := Nat.le_trans K0.1 (Nat.le_of_eq g2.symm)
  have Z0_c3 := Nat.le_trans Z0 E2.1
  have K0_c3 := K0.ext E2
  have E_a1_c3 := E_a1.ext E2
  have F_places_a1_c3 := F_places_a1.ext E2
  have F_tokens_a1_c3 := F_tokens_a1.ext E2
  have F_size_a1_c3 := F_size_a1.ext E2
  have V_b2 : Arv Z h2 b2 k2 .int (8 : Int32) [(.int (0 : Int32)), (.int (0 : Int32)), (.int (0 : Int32)), (.int (0 : Int32)), (.int (0 : Int32)), (.int (0 : Int32)), (.int (0 : Int32)), (.int (0 : Int32))] (.int (0 : Int32)) := (Arv.new A2 (by decide)).pad (pad_rep [] (.int (0 : Int32)) 8)
  obtain ⟨T4, h4, X4, e4, W4, st4⟩ := putF X2 hx hZ hown (host := "") (Or.inl (W 15 rfl)) Via.refl e2 F_places_a1_c3 E_a1_c3 (Or.inl (W 16 rfl)) (W 6 rfl) (ty := (.array .int)) (by decide) rfl rfl (g := (mkF m 9 #[.val (.ref a1)] [(.ref b2), (.ref a1)])) rfl rfl (hb hby d2_9)
  refine own_go st4 ?_
  show own_Run p e below _ T4 (mkF m 12 #[.val (.ref a1)] [])
  have Z0_c5 := Nat.le_trans Z0_c3 (Keep.of_wr W4).1
  have K0_c5 := K0_c3.wr W4 (Or.inl (List.mem_of_getElem? (i := 0) rfl))
  have E_a1_c5 := E_a1_c3.wr W4
  have F_tokens_a1_c5 := F_tokens_a1_c3.other W4 (Or.inr (slot_ne (Or.inl (W 19 rfl)) (Or.inl (W 16 rfl)) (by decide) (t := (.array .long)) (t' := (.array .int)) (by decide) (by decide)))
  have F_size_a1_c5 := F_size_a1_c3.other W4 (Or.inr (slot_ne (Or.inl (W 26 rfl)) (Or.inl (W 16 rfl)) (by decide) (t := .int) (t' := (.array .int)) (by decide) (by decide)))
  have V_b2_c5 := V_b2.other W4 (Ne.symm ne_a1_b2)
  have F_places_a1_c4 : Fld Z h4 a1 "com/example/net_reducer/netreducer/analysis/Marking" "places" "[I" (.ref b2) := F_places_a1_c3.same W4
  have N4 := Fr.snoc X4 N0 g_a1
  refine own_go (fun _ k => XS.aloadN X4.here hx rfl (hb hby d2_12) rfl rfl k) ?_
  refine own_go (fun _ k => XS.bipush X4.here hx rfl (hb hby d2_13) k) ?_
  show own_Run p e below _ T4 (mkF m 15 #[.val (.ref a1)] [(.int (8 : Int32)), (.ref a1)])
  obtain ⟨T6, h6, k6, X6, e6, E6, A6, st6⟩ := newP X4 hx hZ (W 17 rfl) e4 (g := (mkF m 15 #[.val (.ref a1)] [(.int (8 : Int32)), (.ref a1)])) rfl (hb hby d2_15) rfl (by decide) (cap := 8) (by decide) (by decide) (by decide) (by decide)
  refine own_go st6 ?_
  obtain ⟨b6, g6⟩ : ∃ z, z = h4.size := ⟨_, rfl⟩
  rw [← g6] at A6
  rw [← g6]
  show own_Run p e below _ T6 (mkF m 17 #[.val (.ref a1)] [(.ref b6), (.ref a1)])
  have ne_a1_b6 : a1 ≠ b6 := Nat.ne_of_lt (Nat.lt_of_lt_of_eq E_a1_c5.lt g6.symm)
  have ne_b2_b6 : b2 ≠ b6 := Nat.ne_of_lt (Nat.lt_of_lt_of_eq V_b2_c5.lt g6.symm)
  have g_b6 : n0 ≤ b6 := Nat.le_trans Z0_c5 (Nat.le_of_eq g6.symm)
  have sz_b6 : h0.size ≤ b6 := Nat.le_trans K0_c5.1 (Nat.le_of_eq g6.symm)
  have Z0_c7 := Nat.le_trans Z0_c5 E6.1
  have K0_c7 := K0_c5.ext E6
  have E_a1_c7 := E_a1_c5.ext E6
  have F_tokens_a1_c7 := F_tokens_a1_c5.ext E6
  have F_size_a1_c7 := F_size_a1_c5.ext E6
  have V_b2_c7 := V_b2_c5.ext E6
  have F_places_a1_c7 := F_places_a1_c4.ext E6
  have V_b6 : Arv Z h6 b6 k6 .long (8 : Int32) [(.long (0 : Int64)), (.long (0 : Int64)), (.long (0 : Int64)), (.long (0 : Int64)), (.long (0 : Int64)), (.long (0 : Int64)), (.long (0 : Int64)), (.long (0 : Int64))] (.long (0 : Int64)) := (Arv.new A6 (by decide)).pad (pad_rep [] (.long (0 : Int64)) 8)
  obtain ⟨T8, h8, X8, e8, W8, st8⟩ := putF X6 hx hZ hown (host := "") (Or.inl (W 18 rfl)) Via.refl e6 F_tokens_a1_c7 E_a1_c7 (Or.inl (W 19 rfl)) (W 6 rfl) (ty := (.array .long)) (by decide) rfl rfl (g := (mkF m 17 #[.val (.ref a1)] [(.ref b6), (.ref a1)])) rfl rfl (hb hby d2_17)
  refine own_go st8 ?_
  show own_Run p e below _ T8 (mkF m 20 #[.val (.ref a1)] [])
  have Z0_c9 := Nat.le_trans Z0_c7 (Keep.of_wr W8).1
  have K0_c9 := K0_c7.wr W8 (Or.inl (List.mem_of_getElem? (i := 0) rfl))
  have E_a1_c9 := E_a1_c7.wr W8
  have F_size_a1_c9 := F_size_a1_c7.other W8 (Or.inr (slot_ne (Or.inl (W 26 rfl)) (Or.inl (W 19 rfl)) (by decide) (t := .int) (t' := (.array .long)) (by decide) (by decide)))
  have V_b2_c9 := V_b2_c7.other W8 (Ne.symm ne_a1_b2)
  have F_places_a1_c9 := F_places_a1_c7.other W8 (Or.inr (slot_ne (Or.inl (W 16 rfl)) (Or.inl (W 19 rfl)) (by decide) (t := (.array .int)) (t' := (.array .long)) (by decide) (by decide)))
  have V_b6_c9 := V_b6.other W8 (Ne.symm ne_a1_b6)
  have F_tokens_a1_c8 : Fld Z h8 a1 "com/example/net_reducer/netreducer/analysis/Marking" "tokens" "[J" (.ref b6) := F_tokens_a1_c7.same W8
  have N8 := Fr.snoc X8 N4 g_a1
  refine own_done (Q := fun v h L => Q2 Z a1 u0 u1 h0 n0 v h L) (v := none) X8 (fun _ => rfl) hlk (fun fs hr => X8.returnOut hx hret (hb hby d2_20) hr) ?_ (by decide) (by decide)
  show Q2 Z a1 u0 u1 h0 n0 _ T8.heap _
  rw [e8]
  exact ⟨b2, b6, k2, k6, rfl, N8, K0_c9, E_a1_c9, F_places_a1_c9, F_tokens_a1_c8, F_size_a1_c9, V_b2_c9, V_b6_c9, sz_b2, sz_b6, ne_a1_b2, ne_a1_b6, ne_b2_b6⟩
theorem d4_0 : decode prog_10_method_7_code 0 = .ok (.aload_n 0, 1) := by decide +kernel
theorem d4_1 : decode prog_10_method_7_code 1 = .ok (.getfield 17, 3) := by decide +kernel
theorem d4_4 : decode prog_10_method_7_code 4 = .ok (.aload_n 0, 1) := by decide +kernel
theorem d4_5 : decode prog_10_method_7_code 5 = .ok (.getfield 7, 3) := by decide +kernel
theorem d4_8 : decode prog_10_method_7_code 8 = .ok (.arraylength, 1) := by decide +kernel
theorem d4_9 : decode prog_10_method_7_code 9 = .ok (.if_icmp .ne 37, 3) := by decide +kernel
theorem d4_12 : decode prog_10_method_7_code 12 = .ok (.aload_n 0, 1) := by decide +kernel
theorem d4_13 : decode prog_10_method_7_code 13 = .ok (.aload_n 0, 1) := by decide +kernel
theorem d4_14 : decode prog_10_method_7_code 14 = .ok (.getfield 7, 3) := by decide +kernel
theorem d4_17 : decode prog_10_method_7_code 17 = .ok (.iconst 2, 1) := by decide +kernel
theorem d4_18 : decode prog_10_method_7_code 18 = .ok (.aload_n 0, 1) := by decide +kernel
theorem d4_19 : decode prog_10_method_7_code 19 = .ok (.getfield 17, 3) := by decide +kernel
theorem d4_22 : decode prog_10_method_7_code 22 = .ok (.imul, 1) := by decide +kernel
theorem d4_23 : decode prog_10_method_7_code 23 = .ok (.invokestatic 27, 3) := by decide +kernel
theorem d4_26 : decode prog_10_method_7_code 26 = .ok (.putfield 7, 3) := by decide +kernel
theorem d4_29 : decode prog_10_method_7_code 29 = .ok (.aload_n 0, 1) := by decide +kernel
theorem d4_30 : decode prog_10_method_7_code 30 = .ok (.aload_n 0, 1) := by decide +kernel
theorem d4_31 : decode prog_10_method_7_code 31 = .ok (.getfield 13, 3) := by decide +kernel
theorem d4_34 : decode prog_10_method_7_code 34 = .ok (.iconst 2, 1) := by decide +kernel
theorem d4_35 : decode prog_10_method_7_code 35 = .ok (.aload_n 0, 1) := by decide +kernel
theorem d4_36 : decode prog_10_method_7_code 36 = .ok (.getfield 17, 3) := by decide +kernel
theorem d4_39 : decode prog_10_method_7_code 39 = .ok (.imul, 1) := by decide +kernel
theorem d4_40 : decode prog_10_method_7_code 40 = .ok (.invokestatic 31, 3) := by decide +kernel
theorem d4_43 : decode prog_10_method_7_code 43 = .ok (.putfield 13, 3) := by decide +kernel
theorem d4_46 : decode prog_10_method_7_code 46 = .ok (.aload_n 0, 1) := by decide +kernel
theorem d4_47 : decode prog_10_method_7_code 47 = .ok (.getfield 7, 3) := by decide +kernel
theorem d4_50 : decode prog_10_method_7_code 50 = .ok (.aload_n 0, 1) := by decide +kernel
theorem d4_51 : decode prog_10_method_7_code 51 = .ok (.getfield 17, 3) := by decide +kernel
theorem d4_54 : decode prog_10_method_7_code 54 = .ok (.iload_n 1, 1) := by decide +kernel
theorem d4_55 : decode prog_10_method_7_code 55 = .ok (.iastore, 1) := by decide +kernel
theorem d4_56 : decode prog_10_method_7_code 56 = .ok (.aload_n 0, 1) := by decide +kernel
theorem d4_57 : decode prog_10_method_7_code 57 = .ok (.getfield 13, 3) := by decide +kernel
theorem d4_60 : decode prog_10_method_7_code 60 = .ok (.aload_n 0, 1) := by decide +kernel
theorem d4_61 : decode prog_10_method_7_code 61 = .ok (.getfield 17, 3) := by decide +kernel
theorem d4_64 : decode prog_10_method_7_code 64 = .ok (.lload_n 2, 1) := by decide +kernel
theorem d4_65 : decode prog_10_method_7_code 65 = .ok (.lastore, 1) := by decide +kernel
theorem d4_66 : decode prog_10_method_7_code 66 = .ok (.aload_n 0, 1) := by decide +kernel
theorem d4_67 : decode prog_10_method_7_code 67 = .ok (.dup, 1) := by decide +kernel
theorem d4_68 : decode prog_10_method_7_code 68 = .ok (.getfield 17, 3) := by decide +kernel
theorem d4_71 : decode prog_10_method_7_code 71 = .ok (.iconst 1, 1) := by decide +kernel
theorem d4_72 : decode prog_10_method_7_code 72 = .ok (.iadd, 1) := by decide +kernel
theorem d4_73 : decode prog_10_method_7_code 73 = .ok (.putfield 17, 3) := by decide +kernel
theorem d4_76 : decode prog_10_method_7_code 76 = .ok (.return_, 1) := by decide +kernel
theorem pn_4 : plainName "com/example/net_reducer/netreducer/analysis/Marking" = true := by first | (simp [plainName, overriddenIn]; done) | decide +kernel
theorem ef_4 (m : MethodId) (x0 : Addr) (x1 : Int32) (x2 : Int64) : entryFrame m #[(.ref x0), (.int x1), (.long x2)] 4 = mkF m 0 #[.val (.ref x0), .val (.int x1), .val (.long x2), .second] [] := by first | (simp [entryFrame, mkF, argsToLocals, Value.category]; done) | rfl
def Q4c0 (Z : State) (a1 : Addr) (p2 : Int32) (q3 : Int64) (b1 : Addr) (b2 : Addr) (k1 : ClassId) (k2 : ClassId) (x0 : Int32) (x1 : Int32) (x2 : Int32) (x3 : Int32) (x4 : Int32) (x5 : Int32) (x6 : Int32) (x7 : Int32) (t0 : Int64) (t1 : Int64) (t2 : Int64) (t3 : Int64) (t4 : Int64) (t5 : Int64) (t6 : Int64) (t7 : Int64) (h0 : Heap) (n0 : Nat) (v : Option Value) (h : Heap) (L : List Loc) : Prop := v = none ∧ Fr n0 L ∧ Keep h0 h [a1, b1, b2] ∧ Exa Z h a1 "com/example/net_reducer/netreducer/analysis/Marking" ∧ Fld Z h a1 "com/example/net_reducer/netreducer/analysis/Marking" "places" "[I" (.ref b1) ∧ Fld Z h a1 "com/example/net_reducer/netreducer/analysis/Marking" "tokens" "[J" (.ref b2) ∧ Fld Z h a1 "com/example/net_reducer/netreducer/analysis/Marking" "size" "I" (.int (1 : Int32)) ∧ Arv Z h b1 k1 .int (8 : Int32) [(.int p2), (.int x1), (.int x2), (.int x3), (.int x4), (.int x5), (.int x6), (.int x7)] (.int (0 : Int32)) ∧ Arv Z h b2 k2 .long (8 : Int32) [(.long q3), (.long t1), (.long t2), (.long t3), (.long t4), (.long t5), (.long t6), (.long t7)] (.long (0 : Int64))
set_option maxRecDepth 65536 in
set_option maxHeartbeats 40000000 in
theorem rm4c0 (l : Launch) (Z : State) (a0 : Array Value) (hw : ∀ d ∈ tables_1, d.before a0 Z = true) (ws : List Jvm.Cond) (a1 : Addr) (p2 : Int32) (q3 : Int64) (b1 : Addr) (b2 : Addr) (k1 : ClassId) (k2 : ClassId) (x0 : Int32) (x1 : Int32) (x2 : Int32) (x3 : Int32) (x4 : Int32) (x5 : Int32) (x6 : Int32) (x7 : Int32) (t0 : Int64) (t1 : Int64) (t2 : Int64) (t3 : Int64) (t4 : Int64) (t5 : Int64) (t6 : Int64) (t7 : Int64) (h0 : Heap) (n0 : Nat) (Z0 : n0 ≤ h0.size) (E_a1 : Exa Z h0 a1 "com/example/net_reducer/netreducer/analysis/Marking") (F_places_a1 : Fld Z h0 a1 "com/example/net_reducer/netreducer/analysis/Marking" "places" "[I" (.ref b1)) (F_tokens_a1 : Fld Z h0 a1 "com/example/net_reducer/netreducer/analysis/Marking" "tokens" "[J" (.ref b2)) (F_size_a1 : Fld Z h0 a1 "com/example/net_reducer/netreducer/analysis/Marking" "size" "I" (.int (0 : Int32))) (V_b1 : Arv Z h0 b1 k1 .int (8 : Int32) [(.int x0), (.int x1), (.int x2), (.int x3), (.int x4), (.int x5), (.int x6), (.int x7)] (.int (0 : Int32))) (V_b2 : Arv Z h0 b2 k2 .long (8 : Int32) [(.long t0), (.long t1), (.long t2), (.long t3), (.long t4), (.long t5), (.long t6), (.long t7)] (.long (0 : Int64))) (g_a1 : n0 ≤ a1) (g_b1 : n0 ≤ b1) (g_b2 : n0 ≤ b2) (ne_a1_b1 : a1 ≠ b1) (ne_a1_b2 : a1 ≠ b2) (ne_b1_b2 : b1 ≠ b2) :
    MetFree l (⟨"com/example/net_reducer/netreducer/analysis/Marking", "add", "(IJ)V"⟩ : MethodName) (head1 (Jvm.Cond.code (⟨"com/example/net_reducer/netreducer/analysis/Marking", "add", "(IJ)V"⟩ : MethodName) prog_10_method_7_code 4 none :: ws) ({ frames := 0, cells := 0, slots := 0, locals := 0 } : Room)) (fun a U => a = #[(.ref a1), (.int p2), (.long q3)] ∧ Z.Warmed39 U.vm ∧ U.heap = h0) (fun _ _ _ _ _ => True) (fun _ U o U' => ∃ v L, o = .returned v ∧ Q4c0 Z a1 p2 q3 b1 b2 k1 k2 x0 x1 x2 x3 x4 x5 x6 x7 t0 t1 t2 t3 t4 t5 t6 t7 h0 n0 v U'.heap L ∧ FrameEnd U o U' L ({ frames := 0, cells := 0, slots := 0, locals := 0 } : Room).cells ({ frames := 0, cells := 0, slots := 0, locals := 0 } : Room).slots) := by
  refine MetFree.of_bodySF (plainFor_of_name pn_4) hisR ?_
  intro p e s m args below meth c s₁ Bd hml0 hP hK
  obtain ⟨rfl, hZ, hh⟩ := hP
  have hx := Bd.exec
  have hby := Bd.bytes
  have hml : c.maxLocals = 4 := hml0
  have hown : s.vm.findClass "com/example/net_reducer/netreducer/analysis/Marking" = some m.cls := findClass_of_methodNamed Bd.named
  have hnm := (name_of_methodNamed Bd.named Bd.method).1
  have hret := Bd.returns
  have hlk : meth.locks = false := BodyLoose.notSynchronized Bd
  have X0 : Stand p l e ({ frames := 0, cells := 0, slots := 0, locals := 0 } : Room) s m #[(.ref a1), (.int p2), (.long q3)] below meth c s₁ [] 0 0 := Stand.of_body Bd
  have e0 : s₁.heap = h0 := by rw [← hh, Bd.state]; rfl
  have N0 := Fr.nil n0
  have W := fun (k : Nat) {d : Jvm.Cond} (h : tables_1[k]? = some d) => hw d (List.mem_of_getElem? h)
  have K0 : Keep h0 h0 [a1, b1, b2] := Keep.refl _ _
  refine own_start (ef_4 m a1 p2 q3) ?_
  show own_Run p e below _ s₁ (mkF m 0 #[.val (.ref a1), .val (.int p2), .val (.long q3), .second] [])
  refine own_go (fun _ k => XS.aloadN X0.here hx rfl (hb hby d4_0) rfl rfl k) ?_
  show own_Run p e below _ s₁ (mkF m 1 #[.val (.ref a1), .val (.int p2), .val (.long q3), .second] [(.ref a1)])
  obtain ⟨T10, X10, e10, st10⟩ := getF X0 hx hZ hown (host := "") (Or.inl (W 25 rfl)) Via.refl e0 F_size_a1 (g := (mkF m 1 #[.val (.ref a1), .val (.int p2), .val (.long q3), .second] [(.ref a1)])) rfl rfl (hb hby d4_1)
  refine own_go st10 ?_
  show own_Run p e below _ T10 (mkF m 4 #[.val (.ref a1), .val (.int p2), .val (.long q3), .second] [(.int (0 : Int32))])
  refine own_go (fun _ k => XS.aloadN X10.here hx rfl (hb hby d4_4) rfl rfl k) ?_
  show own_Run p e below _ T10 (mkF m 5 #[.val (.ref a1), .val (.int p2), .val (.long q3), .second] [(.ref a1), (.int (0 : Int32))])
  obtain ⟨T11, X11, e11, st11⟩ := getF X10 hx hZ hown (host := "") (Or.inl (W 15 rfl)) Via.refl e10 F_places_a1 (g := (mkF m 5 #[.val (.ref a1), .val (.int p2), .val (.long q3), .second] [(.ref a1), (.int (0 : Int32))])) rfl rfl (hb hby d4_5)
  refine own_go st11 ?_
  show own_Run p e below _ T11 (mkF m 8 #[.val (.ref a1), .val (.int p2), .val (.long q3), .second] [(.ref b1), (.int (0 : Int32))])
  obtain ⟨cl12, Ar12, q12, S12, N12, H12, G12⟩ := id V_b1
  refine own_go (X11.arraylength hx (by rw [e11]; exact Ar12.1) (State.isArrayOf_alike hZ.alike Ar12.2.1) (g := (mkF m 8 #[.val (.ref a1), .val (.int p2), .val (.long q3), .second] [(.ref b1), (.int (0 : Int32))])) rfl rfl (hb hby d4_8)) ?_
  rw [len_of S12 N12]
  show own_Run p e below _ T11 (mkF m 9 #[.val (.ref a1), .val (.int p2), .val (.long q3), .second] [(.int (8 : Int32)), (.int (0 : Int32))])
  refine own_go (fun _ k => XS.icmpYes X11.here hx rfl (pc0 := 9) (pc' := 46) rfl (hb hby d4_9) rfl (feq (by decide : ¬ ((0 : Int32) = (8 : Int32)))).2 (by decide) (by decide) k) ?_
  show own_Run p e below _ T11 (mkF m 46 #[.val (.ref a1), .val (.int p2), .val (.long q3), .second] [])
  refine own_go (fun _ k => XS.aloadN X11.here hx rfl (hb hby d4_46) rfl rfl k) ?_
  show own_Run p e below _ T11 (mkF m 47 #[.val (.ref a1), .val (.int p2), .val (.long q3), .second] [(.ref a1)])
  obtain ⟨T13, X13, e13, st13⟩ := getF X11 hx hZ hown (host := "") (Or.inl (W 15 rfl)) Via.refl e11 F_places_a1 (g := (mkF m 47 #[.val (.ref a1), .val (.int p2), .val (.long q3), .second] [(.ref a1)])) rfl rfl (hb hby d4_47)
  refine own_go st13 ?_
  show own_Run p e below _ T13 (mkF m 50 #[.val (.ref a1), .val (.int p2), .val (.long q3), .second] [(.ref b1)])
  refine own_go (fun _ k => XS.aloadN X13.here hx rfl (hb hby d4_50) rfl rfl k) ?_
  show own_Run p e below _ T13 (mkF m 51 #[.val (.ref a1), .val (.int p2), .val (.long q3), .second] [(.ref a1), (.ref b1)])
  obtain ⟨T14, X14, e14, st14⟩ := getF X13 hx hZ hown (host := "") (Or.inl (W 25 rfl)) Via.refl e13 F_size_a1 (g := (mkF m 51 #[.val (.ref a1), .val (.int p2), .val (.long q3), .second] [(.ref a1), (.ref b1)])) rfl rfl (hb hby d4_51)
  refine own_go st14 ?_
  show own_Run p e below _ T14 (mkF m 54 #[.val (.ref a1), .val (.int p2), .val (.long q3), .second] [(.int (0 : Int32)), (.ref b1)])
  refine own_go (fun _ k => XS.iloadN X14.here hx rfl (hb hby d4_54) rfl k) ?_
  show own_Run p e below _ T14 (mkF m 55 #[.val (.ref a1), .val (.int p2), .val (.long q3), .second] [(.int p2), (.int (0 : Int32)), (.ref b1)])
  obtain ⟨cl15, Ar15, q15, S15, N15, H15, G15⟩ := id V_b1
  have hin15 : ¬ ((0 : Int32) < 0 ∨ cl15.slots.size ≤ ((0 : Int32)).toNatClampNeg) := inb_of S15 ⟨by decide, by decide⟩
  obtain ⟨T16, h16, X16, e16, W16, st16⟩ := stI X14 hx hZ e14 Ar15 (j := (0 : Int32)) hin15 (g := (mkF m 55 #[.val (.ref a1), .val (.int p2), .val (.long q3), .second] [(.int p2), (.int (0 : Int32)), (.ref b1)])) rfl rfl (hb hby d4_55)
  refine own_go st16 ?_
  show own_Run p e below _ T16 (mkF m 56 #[.val (.ref a1), .val (.int p2), .val (.long q3), .second] [])
  have Z0_c17 := Nat.le_trans Z0 (Keep.of_wr W16).1
  have K0_c17 := K0.wr W16 (Or.inl (List.mem_of_getElem? (i := 1) rfl))
  have E_a1_c17 := E_a1.wr W16
  have F_places_a1_c17 := F_places_a1.other W16 (Or.inl ne_a1_b1)
  have F_tokens_a1_c17 := F_tokens_a1.other W16 (Or.inl ne_a1_b1)
  have F_size_a1_c17 := F_size_a1.other W16 (Or.inl ne_a1_b1)
  have V_b2_c17 := V_b2.other W16 (Ne.symm ne_b1_b2)
  have V_b1_c16 : Arv Z h16 b1 k1 .int (8 : Int32) [(.int p2), (.int x1), (.int x2), (.int x3), (.int x4), (.int x5), (.int x6), (.int x7)] (.int (0 : Int32)) := Arv.set Ar15 q15 S15 N15 H15 G15 rfl W16 0 rfl (Nat.le_of_ble_eq_true rfl)
  have N16 := Fr.snoc X16 N0 g_b1
  refine own_go (fun _ k => XS.aloadN X16.here hx rfl (hb hby d4_56) rfl rfl k) ?_
  show own_Run p e below _ T16 (mkF m 57 #[.val (.ref a1), .val (.int p2), .val (.long q3), .second] [(.ref a1)])
  obtain ⟨T18, X18, e18, st18⟩ := getF X16 hx hZ hown (host := "") (Or.inl (W 18 rfl)) Via.refl e16 F_tokens_a1_c17 (g := (mkF m 57 #[.val (.ref a1), .val (.int p2), .val (.long q3), .second] [(.ref a1)])) rfl rfl (hb hby d4_57)
  refine own_go st18 ?_
  show own_Run p e below _ T18 (mkF m 60 #[.val (.ref a1), .val (.int p2), .val (.long q3), .second] [(.ref b2)])
  refine own_go (fun _ k => XS.aloadN X18.here hx rfl (hb hby d4_60) rfl rfl k) ?_
  show own_Run p e below _ T18 (mkF m 61 #[.val (.ref a1), .val (.int p2), .val (.long q3), .second] [(.ref a1), (.ref b2)])
  obtain ⟨T19, X19, e19, st19⟩ := getF X18 hx hZ hown (host := "") (Or.inl (W 25 rfl)) Via.refl e18 F_size_a1_c17 (g := (mkF m 61 #[.val (.ref a1), .val (.int p2), .val (.long q3), .second] [(.ref a1), (.ref b2)])) rfl rfl (hb hby d4_61)
  refine own_go st19 ?_
  show own_Run p e below _ T19 (mkF m 64 #[.val (.ref a1), .val (.int p2), .val (.long q3), .second] [(.int (0 : Int32)), (.ref b2)])
  refine own_go (fun _ k => XS.lloadN X19.here hx rfl (hb hby d4_64) rfl k) ?_
  show own_Run p e below _ T19 (mkF m 65 #[.val (.ref a1), .val (.int p2), .val (.long q3), .second] [(.long q3), (.int (0 : Int32)), (.ref b2)])
  obtain ⟨cl20, Ar20, q20, S20, N20, H20, G20⟩ := id V_b2_c17
  have hin20 : ¬ ((0 : Int32) < 0 ∨ cl20.slots.size ≤ ((0 : Int32)).toNatClampNeg) := inb_of S20 ⟨by decide, by decide⟩
  obtain ⟨T21, h21, X21, e21, W21, st21⟩ := stJ X19 hx hZ e19 Ar20 (j := (0 : Int32)) hin20 (g := (mkF m 65 #[.val (.ref a1), .val (.int p2), .val (.long q3), .second] [(.long q3), (.int (0 : Int32)), (.ref b2)])) rfl rfl (hb hby d4_65)
  refine own_go st21 ?_
  show own_Run p e below _ T21 (mkF m 66 #[.val (.ref a1), .val (.int p2), .val (.long q3), .second] [])
  have Z0_c22 := Nat.le_trans Z0_c17 (Keep.of_wr W21).1
  have K0_c22 := K0_c17.wr W21 (Or.inl (List.mem_of_getElem? (i := 2) rfl))
  have E_a1_c22 := E_a1_c17.wr W21
  have F_places_a1_c22 := F_places_a1_c17.other W21 (Or.inl ne_a1_b2)
  have F_tokens_a1_c22 := F_tokens_a1_c17.other W21 (Or.inl ne_a1_b2)
  have F_size_a1_c22 := F_size_a1_c17.other W21 (Or.inl ne_a1_b2)
  have V_b1_c22 := V_b1_c16.other W21 ne_b1_b2
  have V_b2_c21 : Arv Z h21 b2 k2 .long (8 : Int32) [(.long q3), (.long t1), (.long t2), (.long t3), (.long t4), (.long t5), (.long t6), (.long t7)] (.long (0 : Int64)) := Arv.set Ar20 q20 S20 N20 H20 G20 rfl W21 0 rfl (Nat.le_of_ble_eq_true rfl)
  have N21 := Fr.snoc X21 N16 g_b2
  refine own_go (fun _ k => XS.aloadN X21.here hx rfl (hb hby d4_66) rfl rfl k) ?_
  refine own_go (fun _ k => XS.dup X21.here hx rfl (hb hby d4_67) rfl rfl k) ?_
  show own_Run p e below _ T21 (mkF m 68 #[.val (.ref a1), .val (.int p2), .val (.long q3), .second] [(.ref a1), (.ref a1)])
  obtain ⟨T23, X23, e23, st23⟩ := getF X21 hx hZ hown (host := "") (Or.inl (W 25 rfl)) Via.refl e21 F_size_a1_c22 (g := (mkF m 68 #[.val (.ref a1), .val (.int p2), .val (.long q3), .second] [(.ref a1), (.ref a1)])) rfl rfl (hb hby d4_68)
  refine own_go st23 ?_
  show own_Run p e below _ T23 (mkF m 71 #[.val (.ref a1), .val (.int p2), .val (.long q3), .second] [(.int (0 : Int32)), (.ref a1)])
  refine own_go (fun _ k => XS.iconst X23.here hx rfl (hb hby d4_71) k) ?_
  refine own_go (fun _ k => XS.iadd X23.here hx rfl (hb hby d4_72) rfl k) ?_
  show own_Run p e below _ T23 (mkF m 73 #[.val (.ref a1), .val (.int p2), .val (.long q3), .second] [(.int ((0 : Int32) + (1 : Int32))), (.ref a1)])
  rw [show ((0 : Int32) + (1 : Int32)) = (1 : Int32) by decide]
  show own_Run p e below _ T23 (mkF m 73 #[.val (.ref a1), .val (.int p2), .val (.long q3), .second] [(.int (1 : Int32)), (.ref a1)])
  obtain ⟨T24, h24, X24, e24, W24, st24⟩ := putF X23 hx hZ hown (host := "") (Or.inl (W 25 rfl)) Via.refl e23 F_size_a1_c22 E_a1_c22 (Or.inl (W 26 rfl)) (W 6 rfl) (ty := .int) (by decide) rfl rfl (g := (mkF m 73 #[.val (.ref a1), .val (.int p2), .val (.long q3), .second] [(.int (1 : Int32)), (.ref a1)])) rfl rfl (hb hby d4_73)
  refine own_go st24 ?_
  show own_Run p e below _ T24 (mkF m 76 #[.val (.ref a1), .val (.int p2), .val (.long q3), .second] [])
  have Z0_c25 := Nat.le_trans Z0_c22 (Keep.of_wr W24).1
  have K0_c25 := K0_c22.wr W24 (Or.inl (List.mem_of_getElem? (i := 0) rfl))
  have E_a1_c25 := E_a1_c22.wr W24
  have F_places_a1_c25 := F_places_a1_c22.other W24 (Or.inr (slot_ne (Or.inl (W 16 rfl)) (Or.inl (W 26 rfl)) (by decide) (t := (.array .int)) (t' := .int) (by decide) (by decide)))
  have F_tokens_a1_c25 := F_tokens_a1_c22.other W24 (Or.inr (slot_ne (Or.inl (W 19 rfl)) (Or.inl (W 26 rfl)) (by decide) (t := (.array .long)) (t' := .int) (by decide) (by decide)))
  have V_b1_c25 := V_b1_c22.other W24 (Ne.symm ne_a1_b1)
  have V_b2_c25 := V_b2_c21.other W24 (Ne.symm ne_a1_b2)
  have F_size_a1_c24 : Fld Z h24 a1 "com/example/net_reducer/netreducer/analysis/Marking" "size" "I" (.int (1 : Int32)) := F_size_a1_c22.same W24
  have N24 := Fr.snoc X24 N21 g_a1
  refine own_done (Q := fun v h L => Q4c0 Z a1 p2 q3 b1 b2 k1 k2 x0 x1 x2 x3 x4 x5 x6 x7 t0 t1 t2 t3 t4 t5 t6 t7 h0 n0 v h L) (v := none) X24 (fun _ => rfl) hlk (fun fs hr => X24.returnOut hx hret (hb hby d4_76) hr) ?_ (by decide) (by decide)
  show Q4c0 Z a1 p2 q3 b1 b2 k1 k2 x0 x1 x2 x3 x4 x5 x6 x7 t0 t1 t2 t3 t4 t5 t6 t7 h0 n0 _ T24.heap _
  rw [e24]
  exact ⟨rfl, N24, K0_c25, E_a1_c25, F_places_a1_c25, F_tokens_a1_c25, F_size_a1_c24, V_b1_c25, V_b2_c25⟩
def Q4c1 (Z : State) (a1 : Addr) (p2 : Int32) (q3 : Int64) (b1 : Addr) (b2 : Addr) (k1 : ClassId) (k2 : ClassId) (x0 : Int32) (x1 : Int32) (x2 : Int32) (x3 : Int32) (x4 : Int32) (x5 : Int32) (x6 : Int32) (x7 : Int32) (t0 : Int64) (t1 : Int64) (t2 : Int64) (t3 : Int64) (t4 : Int64) (t5 : Int64) (t6 : Int64) (t7 : Int64) (h0 : Heap) (n0 : Nat) (v : Option Value) (h : Heap) (L : List Loc) : Prop := v = none ∧ Fr n0 L ∧ Keep h0 h [a1, b1, b2] ∧ Exa Z h a1 "com/example/net_reducer/netreducer/analysis/Marking" ∧ Fld Z h a1 "com/example/net_reducer/netreducer/analysis/Marking" "places" "[I" (.ref b1) ∧ Fld Z h a1 "com/example/net_reducer/netreducer/analysis/Marking" "tokens" "[J" (.ref b2) ∧ Fld Z h a1 "com/example/net_reducer/netreducer/analysis/Marking" "size" "I" (.int (2 : Int32)) ∧ Arv Z h b1 k1 .int (8 : Int32) [(.int x0), (.int p2), (.int x2), (.int x3), (.int x4), (.int x5), (.int x6), (.int x7)] (.int (0 : Int32)) ∧ Arv Z h b2 k2 .long (8 : Int32) [(.long t0), (.long q3), (.long t2), (.long t3), (.long t4), (.long t5), (.long t6), (.long t7)] (.long (0 : Int64))
set_option maxRecDepth 65536 in
set_option maxHeartbeats 40000000 in
theorem rm4c1 (l : Launch) (Z : State) (a0 : Array Value) (hw : ∀ d ∈ tables_1, d.before a0 Z = true) (ws : List Jvm.Cond) (a1 : Addr) (p2 : Int32) (q3 : Int64) (b1 : Addr) (b2 : Addr) (k1 : ClassId) (k2 : ClassId) (x0 : Int32) (x1 : Int32) (x2 : Int32) (x3 : Int32) (x4 : Int32) (x5 : Int32) (x6 : Int32) (x7 : Int32) (t0 : Int64) (t1 : Int64) (t2 : Int64) (t3 : Int64) (t4 : Int64) (t5 : Int64) (t6 : Int64) (t7 : Int64) (h0 : Heap) (n0 : Nat) (Z0 : n0 ≤ h0.size) (E_a1 : Exa Z h0 a1 "com/example/net_reducer/netreducer/analysis/Marking") (F_places_a1 : Fld Z h0 a1 "com/example/net_reducer/netreducer/analysis/Marking" "places" "[I" (.ref b1)) (F_tokens_a1 : Fld Z h0 a1 "com/example/net_reducer/netreducer/analysis/Marking" "tokens" "[J" (.ref b2)) (F_size_a1 : Fld Z h0 a1 "com/example/net_reducer/netreducer/analysis/Marking" "size" "I" (.int (1 : Int32))) (V_b1 : Arv Z h0 b1 k1 .int (8 : Int32) [(.int x0), (.int x1), (.int x2), (.int x3), (.int x4), (.int x5), (.int x6), (.int x7)] (.int (0 : Int32))) (V_b2 : Arv Z h0 b2 k2 .long (8 : Int32) [(.long t0), (.long t1), (.long t2), (.long t3), (.long t4), (.long t5), (.long t6), (.long t7)] (.long (0 : Int64))) (g_a1 : n0 ≤ a1) (g_b1 : n0 ≤ b1) (g_b2 : n0 ≤ b2) (ne_a1_b1 : a1 ≠ b1) (ne_a1_b2 : a1 ≠ b2) (ne_b1_b2 : b1 ≠ b2) :
    MetFree l (⟨"com/example/net_reducer/netreducer/analysis/Marking", "add", "(IJ)V"⟩ : MethodName) (head1 (Jvm.Cond.code (⟨"com/example/net_reducer/netreducer/analysis/Marking", "add", "(IJ)V"⟩ : MethodName) prog_10_method_7_code 4 none :: ws) ({ frames := 0, cells := 0, slots := 0, locals := 0 } : Room)) (fun a U => a = #[(.ref a1), (.int p2), (.long q3)] ∧ Z.Warmed39 U.vm ∧ U.heap = h0) (fun _ _ _ _ _ => True) (fun _ U o U' => ∃ v L, o = .returned v ∧ Q4c1 Z a1 p2 q3 b1 b2 k1 k2 x0 x1 x2 x3 x4 x5 x6 x7 t0 t1 t2 t3 t4 t5 t6 t7 h0 n0 v U'.heap L ∧ FrameEnd U o U' L ({ frames := 0, cells := 0, slots := 0, locals := 0 } : Room).cells ({ frames := 0, cells := 0, slots := 0, locals := 0 } : Room).slots) := by
  refine MetFree.of_bodySF (plainFor_of_name pn_4) hisR ?_
  intro p e s m args below meth c s₁ Bd hml0 hP hK
  obtain ⟨rfl, hZ, hh⟩ := hP
  have hx := Bd.exec
  have hby := Bd.bytes
  have hml : c.maxLocals = 4 := hml0
  have hown : s.vm.findClass "com/example/net_reducer/netreducer/analysis/Marking" = some m.cls := findClass_of_methodNamed Bd.named
  have hnm := (name_of_methodNamed Bd.named Bd.method).1
  have hret := Bd.returns
  have hlk : meth.locks = false := BodyLoose.notSynchronized Bd
  have X0 : Stand p l e ({ frames := 0, cells := 0, slots := 0, locals := 0 } : Room) s m #[(.ref a1), (.int p2), (.long q3)] below meth c s₁ [] 0 0 := Stand.of_body Bd
  have e0 : s₁.heap = h0 := by rw [← hh, Bd.state]; rfl
  have N0 := Fr.nil n0
  have W := fun (k : Nat) {d : Jvm.Cond} (h : tables_1[k]? = some d) => hw d (List.mem_of_getElem? h)
  have K0 : Keep h0 h0 [a1, b1, b2] := Keep.refl _ _
  refine own_start (ef_4 m a1 p2 q3) ?_
  show own_Run p e below _ s₁ (mkF m 0 #[.val (.ref a1), .val (.int p2), .val (.long q3), .second] [])
  refine own_go (fun _ k => XS.aloadN X0.here hx rfl (hb hby d4_0) rfl rfl k) ?_
  show own_Run p e below _ s₁ (mkF m 1 #[.val (.ref a1), .val (.int p2), .val (.long q3), .second] [(.ref a1)])
  obtain ⟨T26, X26, e26, st26⟩ := getF X0 hx hZ hown (host := "") (Or.inl (W 25 rfl)) Via.refl e0 F_size_a1 (g := (mkF m 1 #[.val (.ref a1), .val (.int p2), .val (.long q3), .second] [(.ref a1)])) rfl rfl (hb hby d4_1)
  refine own_go st26 ?_
  show own_Run p e below _ T26 (mkF m 4 #[.val (.ref a1), .val (.int p2), .val (.long q3), .second] [(.int (1 : Int32))])
  refine own_go (fun _ k => XS.aloadN X26.here hx rfl (hb hby d4_4) rfl rfl k) ?_
  show own_Run p e below _ T26 (mkF m 5 #[.val (.ref a1), .val (.int p2), .val (.long q3), .second] [(.ref a1), (.int (1 : Int32))])
  obtain ⟨T27, X27, e27, st27⟩ := getF X26 hx hZ hown (host := "") (Or.inl (W 15 rfl)) Via.refl e26 F_places_a1 (g := (mkF m 5 #[.val (.ref a1), .val (.int p2), .val (.long q3), .second] [(.ref a1), (.int (1 : Int32))])) rfl rfl (hb hby d4_5)
  refine own_go st27 ?_
  show own_Run p e below _ T27 (mkF m 8 #[.val (.ref a1), .val (.int p2), .val (.long q3), .second] [(.ref b1), (.int (1 : Int32))])
  obtain ⟨cl28, Ar28, q28, S28, N28, H28, G28⟩ := id V_b1
  refine own_go (X27.arraylength hx (by rw [e27]; exact Ar28.1) (State.isArrayOf_alike hZ.alike Ar28.2.1) (g := (mkF m 8 #[.val (.ref a1), .val (.int p2), .val (.long q3), .second] [(.ref b1), (.int (1 : Int32))])) rfl rfl (hb hby d4_8)) ?_
  rw [len_of S28 N28]
  show own_Run p e below _ T27 (mkF m 9 #[.val (.ref a1), .val (.int p2), .val (.long q3), .second] [(.int (8 : Int32)), (.int (1 : Int32))])
  refine own_go (fun _ k => XS.icmpYes X27.here hx rfl (pc0 := 9) (pc' := 46) rfl (hb hby d4_9) rfl (feq (by decide : ¬ ((1 : Int32) = (8 : Int32)))).2 (by decide) (by decide) k) ?_
  show own_Run p e below _ T27 (mkF m 46 #[.val (.ref a1), .val (.int p2), .val (.long q3), .second] [])
  refine own_go (fun _ k => XS.aloadN X27.here hx rfl (hb hby d4_46) rfl rfl k) ?_
  show own_Run p e below _ T27 (mkF m 47 #[.val (.ref a1), .val (.int p2), .val (.long q3), .second] [(.ref a1)])
  obtain ⟨T29, X29, e29, st29⟩ := getF X27 hx hZ hown (host := "") (Or.inl (W 15 rfl)) Via.refl e27 F_places_a1 (g := (mkF m 47 #[.val (.ref a1), .val (.int p2), .val (.long q3), .second] [(.ref a1)])) rfl rfl (hb hby d4_47)
  refine own_go st29 ?_
  show own_Run p e below _ T29 (mkF m 50 #[.val (.ref a1), .val (.int p2), .val (.long q3), .second] [(.ref b1)])
  refine own_go (fun _ k => XS.aloadN X29.here hx rfl (hb hby d4_50) rfl rfl k) ?_
  show own_Run p e below _ T29 (mkF m 51 #[.val (.ref a1), .val (.int p2), .val (.long q3), .second] [(.ref a1), (.ref b1)])
  obtain ⟨T30, X30, e30, st30⟩ := getF X29 hx hZ hown (host := "") (Or.inl (W 25 rfl)) Via.refl e29 F_size_a1 (g := (mkF m 51 #[.val (.ref a1), .val (.int p2), .val (.long q3), .second] [(.ref a1), (.ref b1)])) rfl rfl (hb hby d4_51)
  refine own_go st30 ?_
  show own_Run p e below _ T30 (mkF m 54 #[.val (.ref a1), .val (.int p2), .val (.long q3), .second] [(.int (1 : Int32)), (.ref b1)])
  refine own_go (fun _ k => XS.iloadN X30.here hx rfl (hb hby d4_54) rfl k) ?_
  show own_Run p e below _ T30 (mkF m 55 #[.val (.ref a1), .val (.int p2), .val (.long q3), .second] [(.int p2), (.int (1 : Int32)), (.ref b1)])
  obtain ⟨cl31, Ar31, q31, S31, N31, H31, G31⟩ := id V_b1
  have hin31 : ¬ ((1 : Int32) < 0 ∨ cl31.slots.size ≤ ((1 : Int32)).toNatClampNeg) := inb_of S31 ⟨by decide, by decide⟩
  obtain ⟨T32, h32, X32, e32, W32, st32⟩ := stI X30 hx hZ e30 Ar31 (j := (1 : Int32)) hin31 (g := (mkF m 55 #[.val (.ref a1), .val (.int p2), .val (.long q3), .second] [(.int p2), (.int (1 : Int32)), (.ref b1)])) rfl rfl (hb hby d4_55)
  refine own_go st32 ?_
  show own_Run p e below _ T32 (mkF m 56 #[.val (.ref a1), .val (.int p2), .val (.long q3), .second] [])
  have Z0_c33 := Nat.le_trans Z0 (Keep.of_wr W32).1
  have K0_c33 := K0.wr W32 (Or.inl (List.mem_of_getElem? (i := 1) rfl))
  have E_a1_c33 := E_a1.wr W32
  have F_places_a1_c33 := F_places_a1.other W32 (Or.inl ne_a1_b1)
  have F_tokens_a1_c33 := F_tokens_a1.other W32 (Or.inl ne_a1_b1)
  have F_size_a1_c33 := F_size_a1.other W32 (Or.inl ne_a1_b1)
  have V_b2_c33 := V_b2.other W32 (Ne.symm ne_b1_b2)
  have V_b1_c32 : Arv Z h32 b1 k1 .int (8 : Int32) [(.int x0), (.int p2), (.int x2), (.int x3), (.int x4), (.int x5), (.int x6), (.int x7)] (.int (0 : Int32)) := Arv.set Ar31 q31 S31 N31 H31 G31 rfl W32 1 rfl (Nat.le_of_ble_eq_true rfl)
  have N32 := Fr.snoc X32 N0 g_b1
  refine own_go (fun _ k => XS.aloadN X32.here hx rfl (hb hby d4_56) rfl rfl k) ?_
  show own_Run p e below _ T32 (mkF m 57 #[.val (.ref a1), .val (.int p2), .val (.long q3), .second] [(.ref a1)])
  obtain ⟨T34, X34, e34, st34⟩ := getF X32 hx hZ hown (host := "") (Or.inl (W 18 rfl)) Via.refl e32 F_tokens_a1_c33 (g := (mkF m 57 #[.val (.ref a1), .val (.int p2), .val (.long q3), .second] [(.ref a1)])) rfl rfl (hb hby d4_57)
  refine own_go st34 ?_
  show own_Run p e below _ T34 (mkF m 60 #[.val (.ref a1), .val (.int p2), .val (.long q3), .second] [(.ref b2)])
  refine own_go (fun _ k => XS.aloadN X34.here hx rfl (hb hby d4_60) rfl rfl k) ?_
  show own_Run p e below _ T34 (mkF m 61 #[.val (.ref a1), .val (.int p2), .val (.long q3), .second] [(.ref a1), (.ref b2)])
  obtain ⟨T35, X35, e35, st35⟩ := getF X34 hx hZ hown (host := "") (Or.inl (W 25 rfl)) Via.refl e34 F_size_a1_c33 (g := (mkF m 61 #[.val (.ref a1), .val (.int p2), .val (.long q3), .second] [(.ref a1), (.ref b2)])) rfl rfl (hb hby d4_61)
  refine own_go st35 ?_
  show own_Run p e below _ T35 (mkF m 64 #[.val (.ref a1), .val (.int p2), .val (.long q3), .second] [(.int (1 : Int32)), (.ref b2)])
  refine own_go (fun _ k => XS.lloadN X35.here hx rfl (hb hby d4_64) rfl k) ?_
  show own_Run p e below _ T35 (mkF m 65 #[.val (.ref a1), .val (.int p2), .val (.long q3), .second] [(.long q3), (.int (1 : Int32)), (.ref b2)])
  obtain ⟨cl36, Ar36, q36, S36, N36, H36, G36⟩ := id V_b2_c33
  have hin36 : ¬ ((1 : Int32) < 0 ∨ cl36.slots.size ≤ ((1 : Int32)).toNatClampNeg) := inb_of S36 ⟨by decide, by decide⟩
  obtain ⟨T37, h37, X37, e37, W37, st37⟩ := stJ X35 hx hZ e35 Ar36 (j := (1 : Int32)) hin36 (g := (mkF m 65 #[.val (.ref a1), .val (.int p2), .val (.long q3), .second] [(.long q3), (.int (1 : Int32)), (.ref b2)])) rfl rfl (hb hby d4_65)
  refine own_go st37 ?_
  show own_Run p e below _ T37 (mkF m 66 #[.val (.ref a1), .val (.int p2), .val (.long q3), .second] [])
  have Z0_c38 := Nat.le_trans Z0_c33 (Keep.of_wr W37).1
  have K0_c38 := K0_c33.wr W37 (Or.inl (List.mem_of_getElem? (i := 2) rfl))
  have E_a1_c38 := E_a1_c33.wr W37
  have F_places_a1_c38 := F_places_a1_c33.other W37 (Or.inl ne_a1_b2)
  have F_tokens_a1_c38 := F_tokens_a1_c33.other W37 (Or.inl ne_a1_b2)
  have F_size_a1_c38 := F_size_a1_c33.other W37 (Or.inl ne_a1_b2)
  have V_b1_c38 := V_b1_c32.other W37 ne_b1_b2
  have V_b2_c37 : Arv Z h37 b2 k2 .long (8 : Int32) [(.long t0), (.long q3), (.long t2), (.long t3), (.long t4), (.long t5), (.long t6), (.long t7)] (.long (0 : Int64)) := Arv.set Ar36 q36 S36 N36 H36 G36 rfl W37 1 rfl (Nat.le_of_ble_eq_true rfl)
  have N37 := Fr.snoc X37 N32 g_b2
  refine own_go (fun _ k => XS.aloadN X37.here hx rfl (hb hby d4_66) rfl rfl k) ?_
  refine own_go (fun _ k => XS.dup X37.here hx rfl (hb hby d4_67) rfl rfl k) ?_
  show own_Run p e below _ T37 (mkF m 68 #[.val (.ref a1), .val (.int p2), .val (.long q3), .second] [(.ref a1), (.ref a1)])
  obtain ⟨T39, X39, e39, st39⟩ := getF X37 hx hZ hown (host := "") (Or.inl (W 25 rfl)) Via.refl e37 F_size_a1_c38 (g := (mkF m 68 #[.val (.ref a1), .val (.int p2), .val (.long q3), .second] [(.ref a1), (.ref a1)])) rfl rfl (hb hby d4_68)
  refine own_go st39 ?_
  show own_Run p e below _ T39 (mkF m 71 #[.val (.ref a1), .val (.int p2), .val (.long q3), .second] [(.int (1 : Int32)), (.ref a1)])
  refine own_go (fun _ k => XS.iconst X39.here hx rfl (hb hby d4_71) k) ?_
  refine own_go (fun _ k => XS.iadd X39.here hx rfl (hb hby d4_72) rfl k) ?_
  show own_Run p e below _ T39 (mkF m 73 #[.val (.ref a1), .val (.int p2), .val (.long q3), .second] [(.int ((1 : Int32) + (1 : Int32))), (.ref a1)])
  rw [show ((1 : Int32) + (1 : Int32)) = (2 : Int32) by decide]
  show own_Run p e below _ T39 (mkF m 73 #[.val (.ref a1), .val (.int p2), .val (.long q3), .second] [(.int (2 : Int32)), (.ref a1)])
  obtain ⟨T40, h40, X40, e40, W40, st40⟩ := putF X39 hx hZ hown (host := "") (Or.inl (W 25 rfl)) Via.refl e39 F_size_a1_c38 E_a1_c38 (Or.inl (W 26 rfl)) (W 6 rfl) (ty := .int) (by decide) rfl rfl (g := (mkF m 73 #[.val (.ref a1), .val (.int p2), .val (.long q3), .second] [(.int (2 : Int32)), (.ref a1)])) rfl rfl (hb hby d4_73)
  refine own_go st40 ?_
  show own_Run p e below _ T40 (mkF m 76 #[.val (.ref a1), .val (.int p2), .val (.long q3), .second] [])
  have Z0_c41 := Nat.le_trans Z0_c38 (Keep.of_wr W40).1
  have K0_c41 := K0_c38.wr W40 (Or.inl (List.mem_of_getElem? (i := 0) rfl))
  have E_a1_c41 := E_a1_c38.wr W40
  have F_places_a1_c41 := F_places_a1_c38.other W40 (Or.inr (slot_ne (Or.inl (W 16 rfl)) (Or.inl (W 26 rfl)) (by decide) (t := (.array .int)) (t' := .int) (by decide) (by decide)))
  have F_tokens_a1_c41 := F_tokens_a1_c38.other W40 (Or.inr (slot_ne (Or.inl (W 19 rfl)) (Or.inl (W 26 rfl)) (by decide) (t := (.array .long)) (t' := .int) (by decide) (by decide)))
  have V_b1_c41 := V_b1_c38.other W40 (Ne.symm ne_a1_b1)
  have V_b2_c41 := V_b2_c37.other W40 (Ne.symm ne_a1_b2)
  have F_size_a1_c40 : Fld Z h40 a1 "com/example/net_reducer/netreducer/analysis/Marking" "size" "I" (.int (2 : Int32)) := F_size_a1_c38.same W40
  have N40 := Fr.snoc X40 N37 g_a1
  refine own_done (Q := fun v h L => Q4c1 Z a1 p2 q3 b1 b2 k1 k2 x0 x1 x2 x3 x4 x5 x6 x7 t0 t1 t2 t3 t4 t5 t6 t7 h0 n0 v h L) (v := none) X40 (fun _ => rfl) hlk (fun fs hr => X40.returnOut hx hret (hb hby d4_76) hr) ?_ (by decide) (by decide)
  show Q4c1 Z a1 p2 q3 b1 b2 k1 k2 x0 x1 x2 x3 x4 x5 x6 x7 t0 t1 t2 t3 t4 t5 t6 t7 h0 n0 _ T40.heap _
  rw [e40]
  exact ⟨rfl, N40, K0_c41, E_a1_c41, F_places_a1_c41, F_tokens_a1_c41, F_size_a1_c40, V_b1_c41, V_b2_c41⟩
def Q4c2 (Z : State) (a1 : Addr) (p2 : Int32) (q3 : Int64) (b1 : Addr) (b2 : Addr) (k1 : ClassId) (k2 : ClassId) (x0 : Int32) (x1 : Int32) (x2 : Int32) (x3 : Int32) (x4 : Int32) (x5 : Int32) (x6 : Int32) (x7 : Int32) (t0 : Int64) (t1 : Int64) (t2 : Int64) (t3 : Int64) (t4 : Int64) (t5 : Int64) (t6 : Int64) (t7 : Int64) (h0 : Heap) (n0 : Nat) (v : Option Value) (h : Heap) (L : List Loc) : Prop := v = none ∧ Fr n0 L ∧ Keep h0 h [a1, b1, b2] ∧ Exa Z h a1 "com/example/net_reducer/netreducer/analysis/Marking" ∧ Fld Z h a1 "com/example/net_reducer/netreducer/analysis/Marking" "places" "[I" (.ref b1) ∧ Fld Z h a1 "com/example/net_reducer/netreducer/analysis/Marking" "tokens" "[J" (.ref b2) ∧ Fld Z h a1 "com/example/net_reducer/netreducer/analysis/Marking" "size" "I" (.int (3 : Int32)) ∧ Arv Z h b1 k1 .int (8 : Int32) [(.int x0), (.int x1), (.int p2), (.int x3), (.int x4), (.int x5), (.int x6), (.int x7)] (.int (0 : Int32)) ∧ Arv Z h b2 k2 .long (8 : Int32) [(.long t0), (.long t1), (.long q3), (.long t3), (.long t4), (.long t5), (.long t6), (.long t7)] (.long (0 : Int64))
set_option maxRecDepth 65536 in
set_option maxHeartbeats 40000000 in
theorem rm4c2 (l : Launch) (Z : State) (a0 : Array Value) (hw : ∀ d ∈ tables_1, d.before a0 Z = true) (ws : List Jvm.Cond) (a1 : Addr) (p2 : Int32) (q3 : Int64) (b1 : Addr) (b2 : Addr) (k1 : ClassId) (k2 : ClassId) (x0 : Int32) (x1 : Int32) (x2 : Int32) (x3 : Int32) (x4 : Int32) (x5 : Int32) (x6 : Int32) (x7 : Int32) (t0 : Int64) (t1 : Int64) (t2 : Int64) (t3 : Int64) (t4 : Int64) (t5 : Int64) (t6 : Int64) (t7 : Int64) (h0 : Heap) (n0 : Nat) (Z0 : n0 ≤ h0.size) (E_a1 : Exa Z h0 a1 "com/example/net_reducer/netreducer/analysis/Marking") (F_places_a1 : Fld Z h0 a1 "com/example/net_reducer/netreducer/analysis/Marking" "places" "[I" (.ref b1)) (F_tokens_a1 : Fld Z h0 a1 "com/example/net_reducer/netreducer/analysis/Marking" "tokens" "[J" (.ref b2)) (F_size_a1 : Fld Z h0 a1 "com/example/net_reducer/netreducer/analysis/Marking" "size" "I" (.int (2 : Int32))) (V_b1 : Arv Z h0 b1 k1 .int (8 : Int32) [(.int x0), (.int x1), (.int x2), (.int x3), (.int x4), (.int x5), (.int x6), (.int x7)] (.int (0 : Int32))) (V_b2 : Arv Z h0 b2 k2 .long (8 : Int32) [(.long t0), (.long t1), (.long t2), (.long t3), (.long t4), (.long t5), (.long t6), (.long t7)] (.long (0 : Int64))) (g_a1 : n0 ≤ a1) (g_b1 : n0 ≤ b1) (g_b2 : n0 ≤ b2) (ne_a1_b1 : a1 ≠ b1) (ne_a1_b2 : a1 ≠ b2) (ne_b1_b2 : b1 ≠ b2) :
    MetFree l (⟨"com/example/net_reducer/netreducer/analysis/Marking", "add", "(IJ)V"⟩ : MethodName) (head1 (Jvm.Cond.code (⟨"com/example/net_reducer/netreducer/analysis/Marking", "add", "(IJ)V"⟩ : MethodName) prog_10_method_7_code 4 none :: ws) ({ frames := 0, cells := 0, slots := 0, locals := 0 } : Room)) (fun a U => a = #[(.ref a1), (.int p2), (.long q3)] ∧ Z.Warmed39 U.vm ∧ U.heap = h0) (fun _ _ _ _ _ => True) (fun _ U o U' => ∃ v L, o = .returned v ∧ Q4c2 Z a1 p2 q3 b1 b2 k1 k2 x0 x1 x2 x3 x4 x5 x6 x7 t0 t1 t2 t3 t4 t5 t6 t7 h0 n0 v U'.heap L ∧ FrameEnd U o U' L ({ frames := 0, cells := 0, slots := 0, locals := 0 } : Room).cells ({ frames := 0, cells := 0, slots := 0, locals := 0 } : Room).slots) := by
  refine MetFree.of_bodySF (plainFor_of_name pn_4) hisR ?_
  intro p e s m args below meth c s₁ Bd hml0 hP hK
  obtain ⟨rfl, hZ, hh⟩ := hP
  have hx := Bd.exec
  have hby := Bd.bytes
  have hml : c.maxLocals = 4 := hml0
  have hown : s.vm.findClass "com/example/net_reducer/netreducer/analysis/Marking" = some m.cls := findClass_of_methodNamed Bd.named
  have hnm := (name_of_methodNamed Bd.named Bd.method).1
  have hret := Bd.returns
  have hlk : meth.locks = false := BodyLoose.notSynchronized Bd
  have X0 : Stand p l e ({ frames := 0, cells := 0, slots := 0, locals := 0 } : Room) s m #[(.ref a1), (.int p2), (.long q3)] below meth c s₁ [] 0 0 := Stand.of_body Bd
  have e0 : s₁.heap = h0 := by rw [← hh, Bd.state]; rfl
  have N0 := Fr.nil n0
  have W := fun (k : Nat) {d : Jvm.Cond} (h : tables_1[k]? = some d) => hw d (List.mem_of_getElem? h)
  have K0 : Keep h0 h0 [a1, b1, b2] := Keep.refl _ _
  refine own_start (ef_4 m a1 p2 q3) ?_
  show own_Run p e below _ s₁ (mkF m 0 #[.val (.ref a1), .val (.int p2), .val (.long q3), .second] [])
  refine own_go (fun _ k => XS.aloadN X0.here hx rfl (hb hby d4_0) rfl rfl k) ?_
  show own_Run p e below _ s₁ (mkF m 1 #[.val (.ref a1), .val (.int p2), .val (.long q3), .second] [(.ref a1)])
  obtain ⟨T42, X42, e42, st42⟩ := getF X0 hx hZ hown (host := "") (Or.inl (W 25 rfl)) Via.refl e0 F_size_a1 (g := (mkF m 1 #[.val (.ref a1), .val (.int p2), .val (.long q3), .second] [(.ref a1)])) rfl rfl (hb hby d4_1)
  refine own_go st42 ?_
  show own_Run p e below _ T42 (mkF m 4 #[.val (.ref a1), .val (.int p2), .val (.long q3), .second] [(.int (2 : Int32))])
  refine own_go (fun _ k => XS.aloadN X42.here hx rfl (hb hby d4_4) rfl rfl k) ?_
  show own_Run p e below _ T42 (mkF m 5 #[.val (.ref a1), .val (.int p2), .val (.long q3), .second] [(.ref a1), (.int (2 : Int32))])
  obtain ⟨T43, X43, e43, st43⟩ := getF X42 hx hZ hown (host := "") (Or.inl (W 15 rfl)) Via.refl e42 F_places_a1 (g := (mkF m 5 #[.val (.ref a1), .val (.int p2), .val (.long q3), .second] [(.ref a1), (.int (2 : Int32))])) rfl rfl (hb hby d4_5)
  refine own_go st43 ?_
  show own_Run p e below _ T43 (mkF m 8 #[.val (.ref a1), .val (.int p2), .val (.long q3), .second] [(.ref b1), (.int (2 : Int32))])
  obtain ⟨cl44, Ar44, q44, S44, N44, H44, G44⟩ := id V_b1
  refine own_go (X43.arraylength hx (by rw [e43]; exact Ar44.1) (State.isArrayOf_alike hZ.alike Ar44.2.1) (g := (mkF m 8 #[.val (.ref a1), .val (.int p2), .val (.long q3), .second] [(.ref b1), (.int (2 : Int32))])) rfl rfl (hb hby d4_8)) ?_
  rw [len_of S44 N44]
  show own_Run p e below _ T43 (mkF m 9 #[.val (.ref a1), .val (.int p2), .val (.long q3), .second] [(.int (8 : Int32)), (.int (2 : Int32))])
  refine own_go (fun _ k => XS.icmpYes X43.here hx rfl (pc0 := 9) (pc' := 46) rfl (hb hby d4_9) rfl (feq (by decide : ¬ ((2 : Int32) = (8 : Int32)))).2 (by decide) (by decide) k) ?_
  show own_Run p e below _ T43 (mkF m 46 #[.val (.ref a1), .val (.int p2), .val (.long q3), .second] [])
  refine own_go (fun _ k => XS.aloadN X43.here hx rfl (hb hby d4_46) rfl rfl k) ?_
  show own_Run p e below _ T43 (mkF m 47 #[.val (.ref a1), .val (.int p2), .val (.long q3), .second] [(.ref a1)])
  obtain ⟨T45, X45, e45, st45⟩ := getF X43 hx hZ hown (host := "") (Or.inl (W 15 rfl)) Via.refl e43 F_places_a1 (g := (mkF m 47 #[.val (.ref a1), .val (.int p2), .val (.long q3), .second] [(.ref a1)])) rfl rfl (hb hby d4_47)
  refine own_go st45 ?_
  show own_Run p e below _ T45 (mkF m 50 #[.val (.ref a1), .val (.int p2), .val (.long q3), .second] [(.ref b1)])
  refine own_go (fun _ k => XS.aloadN X45.here hx rfl (hb hby d4_50) rfl rfl k) ?_
  show own_Run p e below _ T45 (mkF m 51 #[.val (.ref a1), .val (.int p2), .val (.long q3), .second] [(.ref a1), (.ref b1)])
  obtain ⟨T46, X46, e46, st46⟩ := getF X45 hx hZ hown (host := "") (Or.inl (W 25 rfl)) Via.refl e45 F_size_a1 (g := (mkF m 51 #[.val (.ref a1), .val (.int p2), .val (.long q3), .second] [(.ref a1), (.ref b1)])) rfl rfl (hb hby d4_51)
  refine own_go st46 ?_
  show own_Run p e below _ T46 (mkF m 54 #[.val (.ref a1), .val (.int p2), .val (.long q3), .second] [(.int (2 : Int32)), (.ref b1)])
  refine own_go (fun _ k => XS.iloadN X46.here hx rfl (hb hby d4_54) rfl k) ?_
  show own_Run p e below _ T46 (mkF m 55 #[.val (.ref a1), .val (.int p2), .val (.long q3), .second] [(.int p2), (.int (2 : Int32)), (.ref b1)])
  obtain ⟨cl47, Ar47, q47, S47, N47, H47, G47⟩ := id V_b1
  have hin47 : ¬ ((2 : Int32) < 0 ∨ cl47.slots.size ≤ ((2 : Int32)).toNatClampNeg) := inb_of S47 ⟨by decide, by decide⟩
  obtain ⟨T48, h48, X48, e48, W48, st48⟩ := stI X46 hx hZ e46 Ar47 (j := (2 : Int32)) hin47 (g := (mkF m 55 #[.val (.ref a1), .val (.int p2), .val (.long q3), .second] [(.int p2), (.int (2 : Int32)), (.ref b1)])) rfl rfl (hb hby d4_55)
  refine own_go st48 ?_
  show own_Run p e below _ T48 (mkF m 56 #[.val (.ref a1), .val (.int p2), .val (.long q3), .second] [])
  have Z0_c49 := Nat.le_trans Z0 (Keep.of_wr W48).1
  have K0_c49 := K0.wr W48 (Or.inl (List.mem_of_getElem? (i := 1) rfl))
  have E_a1_c49 := E_a1.wr W48
  have F_places_a1_c49 := F_places_a1.other W48 (Or.inl ne_a1_b1)
  have F_tokens_a1_c49 := F_tokens_a1.other W48 (Or.inl ne_a1_b1)
  have F_size_a1_c49 := F_size_a1.other W48 (Or.inl ne_a1_b1)
  have V_b2_c49 := V_b2.other W48 (Ne.symm ne_b1_b2)
  have V_b1_c48 : Arv Z h48 b1 k1 .int (8 : Int32) [(.int x0), (.int x1), (.int p2), (.int x3), (.int x4), (.int x5), (.int x6), (.int x7)] (.int (0 : Int32)) := Arv.set Ar47 q47 S47 N47 H47 G47 rfl W48 2 rfl (Nat.le_of_ble_eq_true rfl)
  have N48 := Fr.snoc X48 N0 g_b1
  refine own_go (fun _ k => XS.aloadN X48.here hx rfl (hb hby d4_56) rfl rfl k) ?_
  show own_Run p e below _ T48 (mkF m 57 #[.val (.ref a1), .val (.int p2), .val (.long q3), .second] [(.ref a1)])
  obtain ⟨T50, X50, e50, st50⟩ := getF X48 hx hZ hown (host := "") (Or.inl (W 18 rfl)) Via.refl e48 F_tokens_a1_c49 (g := (mkF m 57 #[.val (.ref a1), .val (.int p2), .val (.long q3), .second] [(.ref a1)])) rfl rfl (hb hby d4_57)
  refine own_go st50 ?_
  show own_Run p e below _ T50 (mkF m 60 #[.val (.ref a1), .val (.int p2), .val (.long q3), .second] [(.ref b2)])
  refine own_go (fun _ k => XS.aloadN X50.here hx rfl (hb hby d4_60) rfl rfl k) ?_
  show own_Run p e below _ T50 (mkF m 61 #[.val (.ref a1), .val (.int p2), .val (.long q3), .second] [(.ref a1), (.ref b2)])
  obtain ⟨T51, X51, e51, st51⟩ := getF X50 hx hZ hown (host := "") (Or.inl (W 25 rfl)) Via.refl e50 F_size_a1_c49 (g := (mkF m 61 #[.val (.ref a1), .val (.int p2), .val (.long q3), .second] [(.ref a1), (.ref b2)])) rfl rfl (hb hby d4_61)
  refine own_go st51 ?_
  show own_Run p e below _ T51 (mkF m 64 #[.val (.ref a1), .val (.int p2), .val (.long q3), .second] [(.int (2 : Int32)), (.ref b2)])
  refine own_go (fun _ k => XS.lloadN X51.here hx rfl (hb hby d4_64) rfl k) ?_
  show own_Run p e below _ T51 (mkF m 65 #[.val (.ref a1), .val (.int p2), .val (.long q3), .second] [(.long q3), (.int (2 : Int32)), (.ref b2)])
  obtain ⟨cl52, Ar52, q52, S52, N52, H52, G52⟩ := id V_b2_c49
  have hin52 : ¬ ((2 : Int32) < 0 ∨ cl52.slots.size ≤ ((2 : Int32)).toNatClampNeg) := inb_of S52 ⟨by decide, by decide⟩
  obtain ⟨T53, h53, X53, e53, W53, st53⟩ := stJ X51 hx hZ e51 Ar52 (j := (2 : Int32)) hin52 (g := (mkF m 65 #[.val (.ref a1), .val (.int p2), .val (.long q3), .second] [(.long q3), (.int (2 : Int32)), (.ref b2)])) rfl rfl (hb hby d4_65)
  refine own_go st53 ?_
  show own_Run p e below _ T53 (mkF m 66 #[.val (.ref a1), .val (.int p2), .val (.long q3), .second] [])
  have Z0_c54 := Nat.le_trans Z0_c49 (Keep.of_wr W53).1
  have K0_c54 := K0_c49.wr W53 (Or.inl (List.mem_of_getElem? (i := 2) rfl))
  have E_a1_c54 := E_a1_c49.wr W53
  have F_places_a1_c54 := F_places_a1_c49.other W53 (Or.inl ne_a1_b2)
  have F_tokens_a1_c54 := F_tokens_a1_c49.other W53 (Or.inl ne_a1_b2)
  have F_size_a1_c54 := F_size_a1_c49.other W53 (Or.inl ne_a1_b2)
  have V_b1_c54 := V_b1_c48.other W53 ne_b1_b2
  have V_b2_c53 : Arv Z h53 b2 k2 .long (8 : Int32) [(.long t0), (.long t1), (.long q3), (.long t3), (.long t4), (.long t5), (.long t6), (.long t7)] (.long (0 : Int64)) := Arv.set Ar52 q52 S52 N52 H52 G52 rfl W53 2 rfl (Nat.le_of_ble_eq_true rfl)
  have N53 := Fr.snoc X53 N48 g_b2
  refine own_go (fun _ k => XS.aloadN X53.here hx rfl (hb hby d4_66) rfl rfl k) ?_
  refine own_go (fun _ k => XS.dup X53.here hx rfl (hb hby d4_67) rfl rfl k) ?_
  show own_Run p e below _ T53 (mkF m 68 #[.val (.ref a1), .val (.int p2), .val (.long q3), .second] [(.ref a1), (.ref a1)])
  obtain ⟨T55, X55, e55, st55⟩ := getF X53 hx hZ hown (host := "") (Or.inl (W 25 rfl)) Via.refl e53 F_size_a1_c54 (g := (mkF m 68 #[.val (.ref a1), .val (.int p2), .val (.long q3), .second] [(.ref a1), (.ref a1)])) rfl rfl (hb hby d4_68)
  refine own_go st55 ?_
  show own_Run p e below _ T55 (mkF m 71 #[.val (.ref a1), .val (.int p2), .val (.long q3), .second] [(.int (2 : Int32)), (.ref a1)])
  refine own_go (fun _ k => XS.iconst X55.here hx rfl (hb hby d4_71) k) ?_
  refine own_go (fun _ k => XS.iadd X55.here hx rfl (hb hby d4_72) rfl k) ?_
  show own_Run p e below _ T55 (mkF m 73 #[.val (.ref a1), .val (.int p2), .val (.long q3), .second] [(.int ((2 : Int32) + (1 : Int32))), (.ref a1)])
  rw [show ((2 : Int32) + (1 : Int32)) = (3 : Int32) by decide]
  show own_Run p e below _ T55 (mkF m 73 #[.val (.ref a1), .val (.int p2), .val (.long q3), .second] [(.int (3 : Int32)), (.ref a1)])
  obtain ⟨T56, h56, X56, e56, W56, st56⟩ := putF X55 hx hZ hown (host := "") (Or.inl (W 25 rfl)) Via.refl e55 F_size_a1_c54 E_a1_c54 (Or.inl (W 26 rfl)) (W 6 rfl) (ty := .int) (by decide) rfl rfl (g := (mkF m 73 #[.val (.ref a1), .val (.int p2), .val (.long q3), .second] [(.int (3 : Int32)), (.ref a1)])) rfl rfl (hb hby d4_73)
  refine own_go st56 ?_
  show own_Run p e below _ T56 (mkF m 76 #[.val (.ref a1), .val (.int p2), .val (.long q3), .second] [])
  have Z0_c57 := Nat.le_trans Z0_c54 (Keep.of_wr W56).1
  have K0_c57 := K0_c54.wr W56 (Or.inl (List.mem_of_getElem? (i := 0) rfl))
  have E_a1_c57 := E_a1_c54.wr W56
  have F_places_a1_c57 := F_places_a1_c54.other W56 (Or.inr (slot_ne (Or.inl (W 16 rfl)) (Or.inl (W 26 rfl)) (by decide) (t := (.array .int)) (t' := .int) (by decide) (by decide)))
  have F_tokens_a1_c57 := F_tokens_a1_c54.other W56 (Or.inr (slot_ne (Or.inl (W 19 rfl)) (Or.inl (W 26 rfl)) (by decide) (t := (.array .long)) (t' := .int) (by decide) (by decide)))
  have V_b1_c57 := V_b1_c54.other W56 (Ne.symm ne_a1_b1)
  have V_b2_c57 := V_b2_c53.other W56 (Ne.symm ne_a1_b2)
  have F_size_a1_c56 : Fld Z h56 a1 "com/example/net_reducer/netreducer/analysis/Marking" "size" "I" (.int (3 : Int32)) := F_size_a1_c54.same W56
  have N56 := Fr.snoc X56 N53 g_a1
  refine own_done (Q := fun v h L => Q4c2 Z a1 p2 q3 b1 b2 k1 k2 x0 x1 x2 x3 x4 x5 x6 x7 t0 t1 t2 t3 t4 t5 t6 t7 h0 n0 v h L) (v := none) X56 (fun _ => rfl) hlk (fun fs hr => X56.returnOut hx hret (hb hby d4_76) hr) ?_ (by decide) (by decide)
  show Q4c2 Z a1 p2 q3 b1 b2 k1 k2 x0 x1 x2 x3 x4 x5 x6 x7 t0 t1 t2 t3 t4 t5 t6 t7 h0 n0 _ T56.heap _
  rw [e56]
  exact ⟨rfl, N56, K0_c57, E_a1_c57, F_places_a1_c57, F_tokens_a1_c57, F_size_a1_c56, V_b1_c57, V_b2_c57⟩
theorem d1_0 : decode jdk_29_method_69_code 0 = .ok (.iload_n 0, 1) := by decide +kernel
theorem d1_1 : decode jdk_29_method_69_code 1 = .ok (.iload_n 1, 1) := by decide +kernel
theorem d1_2 : decode jdk_29_method_69_code 2 = .ok (.if_icmp .gt 7, 3) := by decide +kernel
theorem d1_5 : decode jdk_29_method_69_code 5 = .ok (.iload_n 0, 1) := by decide +kernel
theorem d1_6 : decode jdk_29_method_69_code 6 = .ok (.goto 4, 3) := by decide +kernel
theorem d1_9 : decode jdk_29_method_69_code 9 = .ok (.iload_n 1, 1) := by decide +kernel
theorem d1_10 : decode jdk_29_method_69_code 10 = .ok (.ireturn, 1) := by decide +kernel
theorem ef_1 (m : MethodId) (x0 : Int32) (x1 : Int32) : entryFrame m #[(.int x0), (.int x1)] 2 = mkF m 0 #[.val (.int x0), .val (.int x1)] [] := by first | (simp [entryFrame, mkF, argsToLocals, Value.category]; done) | rfl
def Q1 (Z : State) (p1 : Int32) (p2 : Int32) (h0 : Heap) (n0 : Nat) (v : Option Value) (h : Heap) (L : List Loc) : Prop := v = some (.int (if p2 < p1 then p2 else p1)) ∧ Fr n0 L ∧ h = h0
set_option maxRecDepth 65536 in
set_option maxHeartbeats 40000000 in
theorem rm1 (l : Launch) (Z : State) (a0 : Array Value) (hw : ∀ d ∈ tables_1, d.before a0 Z = true) (ws : List Jvm.Cond) (p1 : Int32) (p2 : Int32) (h0 : Heap) (n0 : Nat) (Z0 : n0 ≤ h0.size) :
    MetFree l (⟨"java/lang/Math", "min", "(II)I"⟩ : MethodName) (head1 (Jvm.Cond.code (⟨"java/lang/Math", "min", "(II)I"⟩ : MethodName) jdk_29_method_69_code 2 (some .int) :: ws) ({ frames := 0, cells := 0, slots := 0, locals := 0 } : Room)) (fun a U => a = #[(.int p1), (.int p2)] ∧ Z.Warmed39 U.vm ∧ U.heap = h0) (fun _ _ _ _ _ => True) (fun _ U o U' => ∃ v L, o = .returned v ∧ Q1 Z p1 p2 h0 n0 v U'.heap L ∧ FrameEnd U o U' L ({ frames := 0, cells := 0, slots := 0, locals := 0 } : Room).cells ({ frames := 0, cells := 0, slots := 0, locals := 0 } : Room).slots) := by
  refine MetFree.of_bodySF (Jvm.Free.JP.mathPlain rfl (by decide +kernel)) hisR ?_
  intro p e s m args below meth c s₁ Bd hml0 hP hK
  obtain ⟨rfl, hZ, hh⟩ := hP
  have hx := Bd.exec
  have hby := Bd.bytes
  have hml : c.maxLocals = 2 := hml0
  have hown : s.vm.findClass "java/lang/Math" = some m.cls := findClass_of_methodNamed Bd.named
  have hnm := (name_of_methodNamed Bd.named Bd.method).1
  have hret := Bd.returns
  have hlk : meth.locks = false := BodyLoose.notSynchronized Bd
  have X0 : Stand p l e ({ frames := 0, cells := 0, slots := 0, locals := 0 } : Room) s m #[(.int p1), (.int p2)] below meth c s₁ [] 0 0 := Stand.of_body Bd
  have e0 : s₁.heap = h0 := by rw [← hh, Bd.state]; rfl
  have N0 := Fr.nil n0
  have W := fun (k : Nat) {d : Jvm.Cond} (h : tables_1[k]? = some d) => hw d (List.mem_of_getElem? h)
  have K0 : Keep h0 h0 [] := Keep.refl _ _
  refine own_start (ef_1 m p1 p2) ?_
  show own_Run p e below _ s₁ (mkF m 0 #[.val (.int p1), .val (.int p2)] [])
  refine own_go (fun _ k => XS.iloadN X0.here hx rfl (hb hby d1_0) rfl k) ?_
  refine own_go (fun _ k => XS.iloadN X0.here hx rfl (hb hby d1_1) rfl k) ?_
  show own_Run p e below _ s₁ (mkF m 2 #[.val (.int p1), .val (.int p2)] [(.int p2), (.int p1)])
  by_cases hc2_58 : p2 < p1
  · refine own_go (fun _ k => XS.icmpYes X0.here hx rfl (pc0 := 2) (pc' := 9) rfl (hb hby d1_2) rfl (tlt hc2_58).2.2.1 (by decide) (by decide) k) ?_
    show own_Run p e below _ s₁ (mkF m 9 #[.val (.int p1), .val (.int p2)] [])
    refine own_go (fun _ k => XS.iloadN X0.here hx rfl (hb hby d1_9) rfl k) ?_
    show own_Run p e below _ s₁ (mkF m 10 #[.val (.int p1), .val (.int p2)] [(.int p2)])
    refine own_done (Q := fun v h L => Q1 Z p1 p2 h0 n0 v h L) (v := (some (.int p2))) X0 (fun h => by rw [hret] at h; cases h) hlk (fun fs hr => own_retI X0 hx hret (hb hby d1_10) hr) ?_ (by decide) (by decide)
    show Q1 Z p1 p2 h0 n0 _ s₁.heap _
    rw [e0]
    exact ⟨by rw [if_pos hc2_58], N0, rfl⟩
  · refine own_go (fun _ k => XS.icmpNo X0.here hx rfl (hb hby d1_2) rfl (flt hc2_58).2.2.1 k) ?_
    show own_Run p e below _ s₁ (mkF m 5 #[.val (.int p1), .val (.int p2)] [])
    refine own_go (fun _ k => XS.iloadN X0.here hx rfl (hb hby d1_5) rfl k) ?_
    refine own_go (fun _ k => XS.goto X0.here hx rfl (pc0 := 6) (pc' := 10) rfl (hb hby d1_6) (by decide) (by decide) k) ?_
    show own_Run p e below _ s₁ (mkF m 10 #[.val (.int p1), .val (.int p2)] [(.int p1)])
    refine own_done (Q := fun v h L => Q1 Z p1 p2 h0 n0 v h L) (v := (some (.int p1))) X0 (fun h => by rw [hret] at h; cases h) hlk (fun fs hr => own_retI X0 hx hret (hb hby d1_10) hr) ?_ (by decide) (by decide)
    show Q1 Z p1 p2 h0 n0 _ s₁.heap _
    rw [e0]
    exact ⟨by rw [if_neg hc2_58], N0, rfl⟩
theorem d7_0 : decode jdk_65_method_30_code 0 = .ok (.iload_n 1, 1) := by decide +kernel
theorem d7_1 : decode jdk_65_method_30_code 1 = .ok (.iload_n 2, 1) := by decide +kernel
theorem d7_2 : decode jdk_65_method_30_code 2 = .ok (.if_icmp .le 44, 3) := by decide +kernel
theorem d7_5 : decode jdk_65_method_30_code 5 = .ok (.new 43, 3) := by decide +kernel
theorem d7_8 : decode jdk_65_method_30_code 8 = .ok (.dup, 1) := by decide +kernel
theorem d7_9 : decode jdk_65_method_30_code 9 = .ok (.new 45, 3) := by decide +kernel
theorem d7_12 : decode jdk_65_method_30_code 12 = .ok (.dup, 1) := by decide +kernel
theorem d7_13 : decode jdk_65_method_30_code 13 = .ok (.invokespecial 47, 3) := by decide +kernel
theorem d7_16 : decode jdk_65_method_30_code 16 = .ok (.ldc 48, 2) := by decide +kernel
theorem d7_18 : decode jdk_65_method_30_code 18 = .ok (.invokevirtual 50, 3) := by decide +kernel
theorem d7_21 : decode jdk_65_method_30_code 21 = .ok (.iload_n 1, 1) := by decide +kernel
theorem d7_22 : decode jdk_65_method_30_code 22 = .ok (.invokevirtual 54, 3) := by decide +kernel
theorem d7_25 : decode jdk_65_method_30_code 25 = .ok (.ldc 57, 2) := by decide +kernel
theorem d7_27 : decode jdk_65_method_30_code 27 = .ok (.invokevirtual 50, 3) := by decide +kernel
theorem d7_30 : decode jdk_65_method_30_code 30 = .ok (.iload_n 2, 1) := by decide +kernel
theorem d7_31 : decode jdk_65_method_30_code 31 = .ok (.invokevirtual 54, 3) := by decide +kernel
theorem d7_34 : decode jdk_65_method_30_code 34 = .ok (.ldc 59, 2) := by decide +kernel
theorem d7_36 : decode jdk_65_method_30_code 36 = .ok (.invokevirtual 50, 3) := by decide +kernel
theorem d7_39 : decode jdk_65_method_30_code 39 = .ok (.invokevirtual 61, 3) := by decide +kernel
theorem d7_42 : decode jdk_65_method_30_code 42 = .ok (.invokespecial 65, 3) := by decide +kernel
theorem d7_45 : decode jdk_65_method_30_code 45 = .ok (.athrow, 1) := by decide +kernel
theorem d7_46 : decode jdk_65_method_30_code 46 = .ok (.iload_n 1, 1) := by decide +kernel
theorem d7_47 : decode jdk_65_method_30_code 47 = .ok (.ifCond .ge 12, 3) := by decide +kernel
theorem d7_50 : decode jdk_65_method_30_code 50 = .ok (.new 68, 3) := by decide +kernel
theorem d7_53 : decode jdk_65_method_30_code 53 = .ok (.dup, 1) := by decide +kernel
theorem d7_54 : decode jdk_65_method_30_code 54 = .ok (.iload_n 1, 1) := by decide +kernel
theorem d7_55 : decode jdk_65_method_30_code 55 = .ok (.invokespecial 70, 3) := by decide +kernel
theorem d7_58 : decode jdk_65_method_30_code 58 = .ok (.athrow, 1) := by decide +kernel
theorem d7_59 : decode jdk_65_method_30_code 59 = .ok (.iload_n 2, 1) := by decide +kernel
theorem d7_60 : decode jdk_65_method_30_code 60 = .ok (.iload_n 0, 1) := by decide +kernel
theorem d7_61 : decode jdk_65_method_30_code 61 = .ok (.if_icmp .le 12, 3) := by decide +kernel
theorem d7_64 : decode jdk_65_method_30_code 64 = .ok (.new 68, 3) := by decide +kernel
theorem d7_67 : decode jdk_65_method_30_code 67 = .ok (.dup, 1) := by decide +kernel
theorem d7_68 : decode jdk_65_method_30_code 68 = .ok (.iload_n 2, 1) := by decide +kernel
theorem d7_69 : decode jdk_65_method_30_code 69 = .ok (.invokespecial 70, 3) := by decide +kernel
theorem d7_72 : decode jdk_65_method_30_code 72 = .ok (.athrow, 1) := by decide +kernel
theorem d7_73 : decode jdk_65_method_30_code 73 = .ok (.return_, 1) := by decide +kernel
theorem pn_7 : plainName "java/util/Arrays" = true := by first | (simp [plainName, overriddenIn]; done) | decide +kernel
theorem ef_7 (m : MethodId) (x0 : Int32) (x1 : Int32) (x2 : Int32) : entryFrame m #[(.int x0), (.int x1), (.int x2)] 3 = mkF m 0 #[.val (.int x0), .val (.int x1), .val (.int x2)] [] := by first | (simp [entryFrame, mkF, argsToLocals, Value.category]; done) | rfl
def Q7 (Z : State) (p1 : Int32) (p2 : Int32) (p3 : Int32) (h0 : Heap) (n0 : Nat) (v : Option Value) (h : Heap) (L : List Loc) : Prop := v = none ∧ Fr n0 L ∧ h = h0
set_option maxRecDepth 65536 in
set_option maxHeartbeats 40000000 in
theorem rm7 (l : Launch) (Z : State) (a0 : Array Value) (hw : ∀ d ∈ tables_1, d.before a0 Z = true) (ws : List Jvm.Cond) (p1 : Int32) (p2 : Int32) (p3 : Int32) (h0 : Heap) (n0 : Nat) (Z0 : n0 ≤ h0.size) (h1 : ¬ (p3 < p2)) (h2 : ¬ (p2 < (0 : Int32))) (h3 : ¬ (p1 < p3)) :
    MetFree l (⟨"java/util/Arrays", "rangeCheck", "(III)V"⟩ : MethodName) (head1 (Jvm.Cond.code (⟨"java/util/Arrays", "rangeCheck", "(III)V"⟩ : MethodName) jdk_65_method_30_code 3 none :: ws) ({ frames := 0, cells := 0, slots := 0, locals := 0 } : Room)) (fun a U => a = #[(.int p1), (.int p2), (.int p3)] ∧ Z.Warmed39 U.vm ∧ U.heap = h0) (fun _ _ _ _ _ => True) (fun _ U o U' => ∃ v L, o = .returned v ∧ Q7 Z p1 p2 p3 h0 n0 v U'.heap L ∧ FrameEnd U o U' L ({ frames := 0, cells := 0, slots := 0, locals := 0 } : Room).cells ({ frames := 0, cells := 0, slots := 0, locals := 0 } : Room).slots) := by
  refine MetFree.of_bodySF (plainFor_of_name pn_7) hisR ?_
  intro p e s m args below meth c s₁ Bd hml0 hP hK
  obtain ⟨rfl, hZ, hh⟩ := hP
  have hx := Bd.exec
  have hby := Bd.bytes
  have hml : c.maxLocals = 3 := hml0
  have hown : s.vm.findClass "java/util/Arrays" = some m.cls := findClass_of_methodNamed Bd.named
  have hnm := (name_of_methodNamed Bd.named Bd.method).1
  have hret := Bd.returns
  have hlk : meth.locks = false := BodyLoose.notSynchronized Bd
  have X0 : Stand p l e ({ frames := 0, cells := 0, slots := 0, locals := 0 } : Room) s m #[(.int p1), (.int p2), (.int p3)] below meth c s₁ [] 0 0 := Stand.of_body Bd
  have e0 : s₁.heap = h0 := by rw [← hh, Bd.state]; rfl
  have N0 := Fr.nil n0
  have W := fun (k : Nat) {d : Jvm.Cond} (h : tables_1[k]? = some d) => hw d (List.mem_of_getElem? h)
  have K0 : Keep h0 h0 [] := Keep.refl _ _
  refine own_start (ef_7 m p1 p2 p3) ?_
  show own_Run p e below _ s₁ (mkF m 0 #[.val (.int p1), .val (.int p2), .val (.int p3)] [])
  refine own_go (fun _ k => XS.iloadN X0.here hx rfl (hb hby d7_0) rfl k) ?_
  refine own_go (fun _ k => XS.iloadN X0.here hx rfl (hb hby d7_1) rfl k) ?_
  show own_Run p e below _ s₁ (mkF m 2 #[.val (.int p1), .val (.int p2), .val (.int p3)] [(.int p3), (.int p2)])
  refine own_go (fun _ k => XS.icmpYes X0.here hx rfl (pc0 := 2) (pc' := 46) rfl (hb hby d7_2) rfl (flt h1).2.2.2 (by decide) (by decide) k) ?_
  show own_Run p e below _ s₁ (mkF m 46 #[.val (.int p1), .val (.int p2), .val (.int p3)] [])
  refine own_go (fun _ k => XS.iloadN X0.here hx rfl (hb hby d7_46) rfl k) ?_
  show own_Run p e below _ s₁ (mkF m 47 #[.val (.int p1), .val (.int p2), .val (.int p3)] [(.int p2)])
  refine own_go (fun _ k => XS.ifYes X0.here hx rfl (pc0 := 47) (pc' := 59) rfl (hb hby d7_47) rfl ((if0 _ _).trans (flt h2).2.1) (by decide) (by decide) k) ?_
  show own_Run p e below _ s₁ (mkF m 59 #[.val (.int p1), .val (.int p2), .val (.int p3)] [])
  refine own_go (fun _ k => XS.iloadN X0.here hx rfl (hb hby d7_59) rfl k) ?_
  refine own_go (fun _ k => XS.iloadN X0.here hx rfl (hb hby d7_60) rfl k) ?_
  show own_Run p e below _ s₁ (mkF m 61 #[.val (.int p1), .val (.int p2), .val (.int p3)] [(.int p1), (.int p3)])
  refine own_go (fun _ k => XS.icmpYes X0.here hx rfl (pc0 := 61) (pc' := 73) rfl (hb hby d7_61) rfl (flt h3).2.2.2 (by decide) (by decide) k) ?_
  show own_Run p e below _ s₁ (mkF m 73 #[.val (.int p1), .val (.int p2), .val (.int p3)] [])
  refine own_done (Q := fun v h L => Q7 Z p1 p2 p3 h0 n0 v h L) (v := none) X0 (fun _ => rfl) hlk (fun fs hr => X0.returnOut hx hret (hb hby d7_73) hr) ?_ (by decide) (by decide)
  show Q7 Z p1 p2 p3 h0 n0 _ s₁.heap _
  rw [e0]
  exact ⟨rfl, N0, rfl⟩
theorem d8_0 : decode jdk_65_method_59_code 0 = .ok (.iload_n 1, 1) := by decide +kernel
theorem d8_1 : decode jdk_65_method_59_code 1 = .ok (.istore 4, 2) := by decide +kernel
theorem d8_3 : decode jdk_65_method_59_code 3 = .ok (.iload_n 2, 1) := by decide +kernel
theorem d8_4 : decode jdk_65_method_59_code 4 = .ok (.iconst 1, 1) := by decide +kernel
theorem d8_5 : decode jdk_65_method_59_code 5 = .ok (.isub, 1) := by decide +kernel
theorem d8_6 : decode jdk_65_method_59_code 6 = .ok (.istore 5, 2) := by decide +kernel
theorem d8_8 : decode jdk_65_method_59_code 8 = .ok (.iload 4, 2) := by decide +kernel
theorem d8_10 : decode jdk_65_method_59_code 10 = .ok (.iload 5, 2) := by decide +kernel
theorem d8_12 : decode jdk_65_method_59_code 12 = .ok (.if_icmp .gt 54, 3) := by decide +kernel
theorem d8_15 : decode jdk_65_method_59_code 15 = .ok (.iload 4, 2) := by decide +kernel
theorem d8_17 : decode jdk_65_method_59_code 17 = .ok (.iload 5, 2) := by decide +kernel
theorem d8_19 : decode jdk_65_method_59_code 19 = .ok (.iadd, 1) := by decide +kernel
theorem d8_20 : decode jdk_65_method_59_code 20 = .ok (.iconst 1, 1) := by decide +kernel
theorem d8_21 : decode jdk_65_method_59_code 21 = .ok (.iushr, 1) := by decide +kernel
theorem d8_22 : decode jdk_65_method_59_code 22 = .ok (.istore 6, 2) := by decide +kernel
theorem d8_24 : decode jdk_65_method_59_code 24 = .ok (.aload_n 0, 1) := by decide +kernel
theorem d8_25 : decode jdk_65_method_59_code 25 = .ok (.iload 6, 2) := by decide +kernel
theorem d8_27 : decode jdk_65_method_59_code 27 = .ok (.iaload, 1) := by decide +kernel
theorem d8_28 : decode jdk_65_method_59_code 28 = .ok (.istore 7, 2) := by decide +kernel
theorem d8_30 : decode jdk_65_method_59_code 30 = .ok (.iload 7, 2) := by decide +kernel
theorem d8_32 : decode jdk_65_method_59_code 32 = .ok (.iload_n 3, 1) := by decide +kernel
theorem d8_33 : decode jdk_65_method_59_code 33 = .ok (.if_icmp .ge 12, 3) := by decide +kernel
theorem d8_36 : decode jdk_65_method_59_code 36 = .ok (.iload 6, 2) := by decide +kernel
theorem d8_38 : decode jdk_65_method_59_code 38 = .ok (.iconst 1, 1) := by decide +kernel
theorem d8_39 : decode jdk_65_method_59_code 39 = .ok (.iadd, 1) := by decide +kernel
theorem d8_40 : decode jdk_65_method_59_code 40 = .ok (.istore 4, 2) := by decide +kernel
theorem d8_42 : decode jdk_65_method_59_code 42 = .ok (.goto 21, 3) := by decide +kernel
theorem d8_45 : decode jdk_65_method_59_code 45 = .ok (.iload 7, 2) := by decide +kernel
theorem d8_47 : decode jdk_65_method_59_code 47 = .ok (.iload_n 3, 1) := by decide +kernel
theorem d8_48 : decode jdk_65_method_59_code 48 = .ok (.if_icmp .le 12, 3) := by decide +kernel
theorem d8_51 : decode jdk_65_method_59_code 51 = .ok (.iload 6, 2) := by decide +kernel
theorem d8_53 : decode jdk_65_method_59_code 53 = .ok (.iconst 1, 1) := by decide +kernel
theorem d8_54 : decode jdk_65_method_59_code 54 = .ok (.isub, 1) := by decide +kernel
theorem d8_55 : decode jdk_65_method_59_code 55 = .ok (.istore 5, 2) := by decide +kernel
theorem d8_57 : decode jdk_65_method_59_code 57 = .ok (.goto 6, 3) := by decide +kernel
theorem d8_60 : decode jdk_65_method_59_code 60 = .ok (.iload 6, 2) := by decide +kernel
theorem d8_62 : decode jdk_65_method_59_code 62 = .ok (.ireturn, 1) := by decide +kernel
theorem d8_63 : decode jdk_65_method_59_code 63 = .ok (.goto (-55), 3) := by decide +kernel
theorem d8_66 : decode jdk_65_method_59_code 66 = .ok (.iload 4, 2) := by decide +kernel
theorem d8_68 : decode jdk_65_method_59_code 68 = .ok (.iconst 1, 1) := by decide +kernel
theorem d8_69 : decode jdk_65_method_59_code 69 = .ok (.iadd, 1) := by decide +kernel
theorem d8_70 : decode jdk_65_method_59_code 70 = .ok (.ineg, 1) := by decide +kernel
theorem d8_71 : decode jdk_65_method_59_code 71 = .ok (.ireturn, 1) := by decide +kernel
theorem pn_8 : plainName "java/util/Arrays" = true := by first | (simp [plainName, overriddenIn]; done) | decide +kernel
theorem ef_8 (m : MethodId) (x0 : Addr) (x1 : Int32) (x2 : Int32) (x3 : Int32) : entryFrame m #[(.ref x0), (.int x1), (.int x2), (.int x3)] 8 = mkF m 0 #[.val (.ref x0), .val (.int x1), .val (.int x2), .val (.int x3), .unset, .unset, .unset, .unset] [] := by first | (simp [entryFrame, mkF, argsToLocals, Value.category]; done) | rfl
def Q8n0 (Z : State) (a1 : Addr) (p4 : Int32) (k1 : ClassId) (x0 : Int32) (x1 : Int32) (x2 : Int32) (x3 : Int32) (x4 : Int32) (x5 : Int32) (x6 : Int32) (x7 : Int32) (r : Int32) (h0 : Heap) (n0 : Nat) (v : Option Value) (h : Heap) (L : List Loc) : Prop := v = some (.int r) ∧ Fr n0 L ∧ h = h0
set_option maxRecDepth 65536 in
set_option maxHeartbeats 40000000 in
theorem rm8n0 (l : Launch) (Z : State) (a0 : Array Value) (hw : ∀ d ∈ tables_1, d.before a0 Z = true) (ws : List Jvm.Cond) (a1 : Addr) (p4 : Int32) (k1 : ClassId) (x0 : Int32) (x1 : Int32) (x2 : Int32) (x3 : Int32) (x4 : Int32) (x5 : Int32) (x6 : Int32) (x7 : Int32) (r : Int32) (h0 : Heap) (n0 : Nat) (Z0 : n0 ≤ h0.size) (V_a1 : Arv Z h0 a1 k1 .int (8 : Int32) [(.int x0), (.int x1), (.int x2), (.int x3), (.int x4), (.int x5), (.int x6), (.int x7)] (.int (0 : Int32))) (hp : (r = (-1 : Int32))) :
    MetFree l (⟨"java/util/Arrays", "binarySearch0", "([IIII)I"⟩ : MethodName) (head1 (Jvm.Cond.code (⟨"java/util/Arrays", "binarySearch0", "([IIII)I"⟩ : MethodName) jdk_65_method_59_code 8 (some .int) :: ws) ({ frames := 0, cells := 0, slots := 0, locals := 0 } : Room)) (fun a U => a = #[(.ref a1), (.int (0 : Int32)), (.int (0 : Int32)), (.int p4)] ∧ Z.Warmed39 U.vm ∧ U.heap = h0) (fun _ _ _ _ _ => True) (fun _ U o U' => ∃ v L, o = .returned v ∧ Q8n0 Z a1 p4 k1 x0 x1 x2 x3 x4 x5 x6 x7 r h0 n0 v U'.heap L ∧ FrameEnd U o U' L ({ frames := 0, cells := 0, slots := 0, locals := 0 } : Room).cells ({ frames := 0, cells := 0, slots := 0, locals := 0 } : Room).slots) := by
  refine MetFree.of_bodySF (plainFor_of_name pn_8) hisR ?_
  intro p e s m args below meth c s₁ Bd hml0 hP hK
  obtain ⟨rfl, hZ, hh⟩ := hP
  have hx := Bd.exec
  have hby := Bd.bytes
  have hml : c.maxLocals = 8 := hml0
  have hown : s.vm.findClass "java/util/Arrays" = some m.cls := findClass_of_methodNamed Bd.named
  have hnm := (name_of_methodNamed Bd.named Bd.method).1
  have hret := Bd.returns
  have hlk : meth.locks = false := BodyLoose.notSynchronized Bd
  have X0 : Stand p l e ({ frames := 0, cells := 0, slots := 0, locals := 0 } : Room) s m #[(.ref a1), (.int (0 : Int32)), (.int (0 : Int32)), (.int p4)] below meth c s₁ [] 0 0 := Stand.of_body Bd
  have e0 : s₁.heap = h0 := by rw [← hh, Bd.state]; rfl
  have N0 := Fr.nil n0
  have W := fun (k : Nat) {d : Jvm.Cond} (h : tables_1[k]? = some d) => hw d (List.mem_of_getElem? h)
  have K0 : Keep h0 h0 [] := Keep.refl _ _
  refine own_start (ef_8 m a1 (0 : Int32) (0 : Int32) p4) ?_
  show own_Run p e below _ s₁ (mkF m 0 #[.val (.ref a1), .val (.int (0 : Int32)), .val (.int (0 : Int32)), .val (.int p4), .unset, .unset, .unset, .unset] [])
  rcases hp with rfl
  · show own_Run p e below _ s₁ (mkF m 0 #[.val (.ref a1), .val (.int (0 : Int32)), .val (.int (0 : Int32)), .val (.int p4), .unset, .unset, .unset, .unset] [])
    refine own_go (fun _ k => XS.iloadN X0.here hx rfl (hb hby d8_0) rfl k) ?_
    refine own_go (fun _ k => XS.istore X0.here hx rfl (hb hby d8_1) rfl (l' := #[.val (.ref a1), .val (.int (0 : Int32)), .val (.int (0 : Int32)), .val (.int p4), .val (.int (0 : Int32)), .unset, .unset, .unset]) rfl k) ?_
    refine own_go (fun _ k => XS.iloadN X0.here hx rfl (hb hby d8_3) rfl k) ?_
    refine own_go (fun _ k => XS.iconst X0.here hx rfl (hb hby d8_4) k) ?_
    show own_Run p e below _ s₁ (mkF m 5 #[.val (.ref a1), .val (.int (0 : Int32)), .val (.int (0 : Int32)), .val (.int p4), .val (.int (0 : Int32)), .unset, .unset, .unset] [(.int (1 : Int32)), (.int (0 : Int32))])
    refine own_go (fun _ k => XS.isub X0.here hx rfl (hb hby d8_5) rfl k) ?_
    show own_Run p e below _ s₁ (mkF m 6 #[.val (.ref a1), .val (.int (0 : Int32)), .val (.int (0 : Int32)), .val (.int p4), .val (.int (0 : Int32)), .unset, .unset, .unset] [(.int ((0 : Int32) - (1 : Int32)))])
    rw [show ((0 : Int32) - (1 : Int32)) = (-1 : Int32) by decide]
    show own_Run p e below _ s₁ (mkF m 6 #[.val (.ref a1), .val (.int (0 : Int32)), .val (.int (0 : Int32)), .val (.int p4), .val (.int (0 : Int32)), .unset, .unset, .unset] [(.int (-1 : Int32))])
    refine own_go (fun _ k => XS.istore X0.here hx rfl (hb hby d8_6) rfl (l' := #[.val (.ref a1), .val (.int (0 : Int32)), .val (.int (0 : Int32)), .val (.int p4), .val (.int (0 : Int32)), .val (.int (-1 : Int32)), .unset, .unset]) rfl k) ?_
    refine own_go (fun _ k => XS.iload X0.here hx rfl (hb hby d8_8) rfl k) ?_
    refine own_go (fun _ k => XS.iload X0.here hx rfl (hb hby d8_10) rfl k) ?_
    show own_Run p e below _ s₁ (mkF m 12 #[.val (.ref a1), .val (.int (0 : Int32)), .val (.int (0 : Int32)), .val (.int p4), .val (.int (0 : Int32)), .val (.int (-1 : Int32)), .unset, .unset] [(.int (-1 : Int32)), (.int (0 : Int32))])
    refine own_go (fun _ k => XS.icmpYes X0.here hx rfl (pc0 := 12) (pc' := 66) rfl (hb hby d8_12) rfl (tlt (by decide : (-1 : Int32) < (0 : Int32))).2.2.1 (by decide) (by decide) k) ?_
    show own_Run p e below _ s₁ (mkF m 66 #[.val (.ref a1), .val (.int (0 : Int32)), .val (.int (0 : Int32)), .val (.int p4), .val (.int (0 : Int32)), .val (.int (-1 : Int32)), .unset, .unset] [])
    refine own_go (fun _ k => XS.iload X0.here hx rfl (hb hby d8_66) rfl k) ?_
    refine own_go (fun _ k => XS.iconst X0.here hx rfl (hb hby d8_68) k) ?_
    refine own_go (fun _ k => XS.iadd X0.here hx rfl (hb hby d8_69) rfl k) ?_
    show own_Run p e below _ s₁ (mkF m 70 #[.val (.ref a1), .val (.int (0 : Int32)), .val (.int (0 : Int32)), .val (.int p4), .val (.int (0 : Int32)), .val (.int (-1 : Int32)), .unset, .unset] [(.int ((0 : Int32) + (1 : Int32)))])
    rw [show ((0 : Int32) + (1 : Int32)) = (1 : Int32) by decide]
    show own_Run p e below _ s₁ (mkF m 70 #[.val (.ref a1), .val (.int (0 : Int32)), .val (.int (0 : Int32)), .val (.int p4), .val (.int (0 : Int32)), .val (.int (-1 : Int32)), .unset, .unset] [(.int (1 : Int32))])
    refine own_go (fun _ k => XS.ineg X0.here hx rfl (hb hby d8_70) rfl k) ?_
    show own_Run p e below _ s₁ (mkF m 71 #[.val (.ref a1), .val (.int (0 : Int32)), .val (.int (0 : Int32)), .val (.int p4), .val (.int (0 : Int32)), .val (.int (-1 : Int32)), .unset, .unset] [(.int (-(1 : Int32)))])
    rw [show (-(1 : Int32)) = (-1 : Int32) by decide]
    show own_Run p e below _ s₁ (mkF m 71 #[.val (.ref a1), .val (.int (0 : Int32)), .val (.int (0 : Int32)), .val (.int p4), .val (.int (0 : Int32)), .val (.int (-1 : Int32)), .unset, .unset] [(.int (-1 : Int32))])
    refine own_done (Q := fun v h L => Q8n0 Z a1 p4 k1 x0 x1 x2 x3 x4 x5 x6 x7 (-1 : Int32) h0 n0 v h L) (v := (some (.int (-1 : Int32)))) X0 (fun h => by rw [hret] at h; cases h) hlk (fun fs hr => own_retI X0 hx hret (hb hby d8_71) hr) ?_ (by decide) (by decide)
    show Q8n0 Z a1 p4 k1 x0 x1 x2 x3 x4 x5 x6 x7 (-1 : Int32) h0 n0 _ s₁.heap _
    rw [e0]
    exact ⟨rfl, N0, rfl⟩
theorem d6_0 : decode jdk_65_method_58_code 0 = .ok (.aload_n 0, 1) := by decide +kernel
theorem d6_1 : decode jdk_65_method_58_code 1 = .ok (.arraylength, 1) := by decide +kernel
theorem d6_2 : decode jdk_65_method_58_code 2 = .ok (.iload_n 1, 1) := by decide +kernel
theorem d6_3 : decode jdk_65_method_58_code 3 = .ok (.iload_n 2, 1) := by decide +kernel
theorem d6_4 : decode jdk_65_method_58_code 4 = .ok (.invokestatic 13, 3) := by decide +kernel
theorem d6_7 : decode jdk_65_method_58_code 7 = .ok (.aload_n 0, 1) := by decide +kernel
theorem d6_8 : decode jdk_65_method_58_code 8 = .ok (.iload_n 1, 1) := by decide +kernel
theorem d6_9 : decode jdk_65_method_58_code 9 = .ok (.iload_n 2, 1) := by decide +kernel
theorem d6_10 : decode jdk_65_method_58_code 10 = .ok (.iload_n 3, 1) := by decide +kernel
theorem d6_11 : decode jdk_65_method_58_code 11 = .ok (.invokestatic 209, 3) := by decide +kernel
theorem d6_14 : decode jdk_65_method_58_code 14 = .ok (.ireturn, 1) := by decide +kernel
theorem pn_6 : plainName "java/util/Arrays" = true := by first | (simp [plainName, overriddenIn]; done) | decide +kernel
theorem ef_6 (m : MethodId) (x0 : Addr) (x1 : Int32) (x2 : Int32) (x3 : Int32) : entryFrame m #[(.ref x0), (.int x1), (.int x2), (.int x3)] 4 = mkF m 0 #[.val (.ref x0), .val (.int x1), .val (.int x2), .val (.int x3)] [] := by first | (simp [entryFrame, mkF, argsToLocals, Value.category]; done) | rfl
theorem pd_1 : parseMethodDescriptor "(III)V" = some ⟨[.int, .int, .int], none⟩ := by decide +kernel
theorem pd_2 : parseMethodDescriptor "([IIII)I" = some ⟨[(.array .int), .int, .int, .int], some .int⟩ := by decide +kernel
def Q6n0 (Z : State) (a1 : Addr) (p4 : Int32) (k1 : ClassId) (x0 : Int32) (x1 : Int32) (x2 : Int32) (x3 : Int32) (x4 : Int32) (x5 : Int32) (x6 : Int32) (x7 : Int32) (r : Int32) (h0 : Heap) (n0 : Nat) (v : Option Value) (h : Heap) (L : List Loc) : Prop := v = some (.int r) ∧ Fr n0 L ∧ h = h0
set_option maxRecDepth 65536 in
set_option maxHeartbeats 40000000 in
theorem rm6n0 (l : Launch) (Z : State) (a0 : Array Value) (hw : ∀ d ∈ tables_1, d.before a0 Z = true) (ws : List Jvm.Cond) (a1 : Addr) (p4 : Int32) (k1 : ClassId) (x0 : Int32) (x1 : Int32) (x2 : Int32) (x3 : Int32) (x4 : Int32) (x5 : Int32) (x6 : Int32) (x7 : Int32) (r : Int32) (h0 : Heap) (n0 : Nat) (Z0 : n0 ≤ h0.size) (V_a1 : Arv Z h0 a1 k1 .int (8 : Int32) [(.int x0), (.int x1), (.int x2), (.int x3), (.int x4), (.int x5), (.int x6), (.int x7)] (.int (0 : Int32))) (hp : (r = (-1 : Int32))) :
    MetFree l (⟨"java/util/Arrays", "binarySearch", "([IIII)I"⟩ : MethodName) (head1 (Jvm.Cond.code (⟨"java/util/Arrays", "binarySearch", "([IIII)I"⟩ : MethodName) jdk_65_method_58_code 4 (some .int) :: ws) ({ frames := 1, cells := 0, slots := 0, locals := 20 } : Room)) (fun a U => a = #[(.ref a1), (.int (0 : Int32)), (.int (0 : Int32)), (.int p4)] ∧ Z.Warmed39 U.vm ∧ U.heap = h0) (fun _ _ _ _ _ => True) (fun _ U o U' => ∃ v L, o = .returned v ∧ Q6n0 Z a1 p4 k1 x0 x1 x2 x3 x4 x5 x6 x7 r h0 n0 v U'.heap L ∧ FrameEnd U o U' L ({ frames := 1, cells := 0, slots := 0, locals := 20 } : Room).cells ({ frames := 1, cells := 0, slots := 0, locals := 20 } : Room).slots) := by
  refine MetFree.of_bodySF (plainFor_of_name pn_6) hisR ?_
  intro p e s m args below meth c s₁ Bd hml0 hP hK
  obtain ⟨rfl, hZ, hh⟩ := hP
  have hx := Bd.exec
  have hby := Bd.bytes
  have hml : c.maxLocals = 4 := hml0
  have hown : s.vm.findClass "java/util/Arrays" = some m.cls := findClass_of_methodNamed Bd.named
  have hnm := (name_of_methodNamed Bd.named Bd.method).1
  have hret := Bd.returns
  have hlk : meth.locks = false := BodyLoose.notSynchronized Bd
  have X0 : Stand p l e ({ frames := 1, cells := 0, slots := 0, locals := 20 } : Room) s m #[(.ref a1), (.int (0 : Int32)), (.int (0 : Int32)), (.int p4)] below meth c s₁ [] 0 0 := Stand.of_body Bd
  have e0 : s₁.heap = h0 := by rw [← hh, Bd.state]; rfl
  have N0 := Fr.nil n0
  have W := fun (k : Nat) {d : Jvm.Cond} (h : tables_1[k]? = some d) => hw d (List.mem_of_getElem? h)
  have K0 : Keep h0 h0 [] := Keep.refl _ _
  refine own_start (ef_6 m a1 (0 : Int32) (0 : Int32) p4) ?_
  show own_Run p e below _ s₁ (mkF m 0 #[.val (.ref a1), .val (.int (0 : Int32)), .val (.int (0 : Int32)), .val (.int p4)] [])
  refine own_go (fun _ k => XS.aloadN X0.here hx rfl (hb hby d6_0) rfl rfl k) ?_
  show own_Run p e below _ s₁ (mkF m 1 #[.val (.ref a1), .val (.int (0 : Int32)), .val (.int (0 : Int32)), .val (.int p4)] [(.ref a1)])
  obtain ⟨cl59, Ar59, q59, S59, N59, H59, G59⟩ := id V_a1
  refine own_go (X0.arraylength hx (by rw [e0]; exact Ar59.1) (State.isArrayOf_alike hZ.alike Ar59.2.1) (g := (mkF m 1 #[.val (.ref a1), .val (.int (0 : Int32)), .val (.int (0 : Int32)), .val (.int p4)] [(.ref a1)])) rfl rfl (hb hby d6_1)) ?_
  rw [len_of S59 N59]
  show own_Run p e below _ s₁ (mkF m 2 #[.val (.ref a1), .val (.int (0 : Int32)), .val (.int (0 : Int32)), .val (.int p4)] [(.int (8 : Int32))])
  refine own_go (fun _ k => XS.iloadN X0.here hx rfl (hb hby d6_2) rfl k) ?_
  refine own_go (fun _ k => XS.iloadN X0.here hx rfl (hb hby d6_3) rfl k) ?_
  show own_Run p e below _ s₁ (mkF m 4 #[.val (.ref a1), .val (.int (0 : Int32)), .val (.int (0 : Int32)), .val (.int p4)] [(.int (0 : Int32)), (.int (0 : Int32)), (.int (8 : Int32))])
  obtain ⟨_, _, ⟨T60, L60, k60, n60⟩, -, X60, ⟨Lc60, hQ60, l60, y60, z60⟩, st60⟩ := Jvm.LawKit.callS X0 hx (y := (⟨"java/util/Arrays", "rangeCheck", "(III)V"⟩ : MethodName)) hown (mvT hZ (W 36 rfl)) (mvT hZ (W 37 rfl)) (mvT hZ (W 34 rfl)) (mvT hZ (W 38 rfl)) (by decide) (backOf (W := 0) (rm7 l Z a0 hw [] (8 : Int32) (0 : Int32) (0 : Int32) h0 n0 Z0 (by decide) (by decide) (by decide)) hZ (W 38 rfl) (W 34 rfl) (by decide) (by decide)) (g := (mkF m 4 #[.val (.ref a1), .val (.int (0 : Int32)), .val (.int (0 : Int32)), .val (.int p4)] [(.int (0 : Int32)), (.int (0 : Int32)), (.int (8 : Int32))])) rfl (by rw [hml]; rfl) (argsL := [(.int (8 : Int32)), (.int (0 : Int32)), (.int (0 : Int32))]) (rest := []) (lenOf pd_1 rfl) rfl (by show 2 * 0 + _ ≤ _; exact Nat.le_of_eq rfl) (hb hby d6_4) (fun _ _ => ⟨rfl, e0, (by decide : 0 + 0 ≤ _), (by decide : 0 + 0 ≤ _)⟩)
  dsimp only [Pt.U, Pt.locs, Pt.cells, Pt.slots] at X60 l60 y60 z60 st60 hQ60
  subst l60 y60 z60
  obtain ⟨rfl, N60q, e60⟩ := hQ60
  have N60 := Fr.app N0 N60q
  refine own_go st60 ?_
  show own_Run p e below _ T60 (mkF m 7 #[.val (.ref a1), .val (.int (0 : Int32)), .val (.int (0 : Int32)), .val (.int p4)] [])
  refine own_go (fun _ k => XS.aloadN X60.here hx rfl (hb hby d6_7) rfl rfl k) ?_
  refine own_go (fun _ k => XS.iloadN X60.here hx rfl (hb hby d6_8) rfl k) ?_
  refine own_go (fun _ k => XS.iloadN X60.here hx rfl (hb hby d6_9) rfl k) ?_
  refine own_go (fun _ k => XS.iloadN X60.here hx rfl (hb hby d6_10) rfl k) ?_
  show own_Run p e below _ T60 (mkF m 11 #[.val (.ref a1), .val (.int (0 : Int32)), .val (.int (0 : Int32)), .val (.int p4)] [(.int p4), (.int (0 : Int32)), (.int (0 : Int32)), (.ref a1)])
  obtain ⟨_, _, ⟨T61, L61, k61, n61⟩, -, X61, ⟨Lc61, hQ61, l61, y61, z61⟩, st61⟩ := Jvm.LawKit.callS X60 hx (y := (⟨"java/util/Arrays", "binarySearch0", "([IIII)I"⟩ : MethodName)) hown (mvT hZ (W 39 rfl)) (mvT hZ (W 40 rfl)) (mvT hZ (W 34 rfl)) (mvT hZ (W 41 rfl)) (by decide) (backOf (W := 0) (rm8n0 l Z a0 hw [] a1 p4 k1 x0 x1 x2 x3 x4 x5 x6 x7 r h0 n0 Z0 V_a1 (hp)) hZ (W 41 rfl) (W 34 rfl) (by decide) (by decide)) (g := (mkF m 11 #[.val (.ref a1), .val (.int (0 : Int32)), .val (.int (0 : Int32)), .val (.int p4)] [(.int p4), (.int (0 : Int32)), (.int (0 : Int32)), (.ref a1)])) rfl (by rw [hml]; rfl) (argsL := [(.ref a1), (.int (0 : Int32)), (.int (0 : Int32)), (.int p4)]) (rest := []) (lenOf pd_2 rfl) rfl (by show 2 * 0 + _ ≤ _; exact Nat.le_of_eq rfl) (hb hby d6_11) (fun _ _ => ⟨rfl, e60, (by decide : 0 + 0 ≤ _), (by decide : 0 + 0 ≤ _)⟩)
  dsimp only [Pt.U, Pt.locs, Pt.cells, Pt.slots] at X61 l61 y61 z61 st61 hQ61
  subst l61 y61 z61
  obtain ⟨rfl, N61q, e61⟩ := hQ61
  have N61 := Fr.app N60 N61q
  refine own_go st61 ?_
  show own_Run p e below _ T61 (mkF m 14 #[.val (.ref a1), .val (.int (0 : Int32)), .val (.int (0 : Int32)), .val (.int p4)] [(.int r)])
  refine own_done (Q := fun v h L => Q6n0 Z a1 p4 k1 x0 x1 x2 x3 x4 x5 x6 x7 r h0 n0 v h L) (v := (some (.int r))) X61 (fun h => by rw [hret] at h; cases h) hlk (fun fs hr => own_retI X61 hx hret (hb hby d6_14) hr) ?_ (by decide) (by decide)
  show Q6n0 Z a1 p4 k1 x0 x1 x2 x3 x4 x5 x6 x7 r h0 n0 _ T61.heap _
  rw [e61]
  exact ⟨rfl, N61, rfl⟩
theorem d5_0 : decode prog_10_method_5_code 0 = .ok (.aload_n 0, 1) := by decide +kernel
theorem d5_1 : decode prog_10_method_5_code 1 = .ok (.getfield 7, 3) := by decide +kernel
theorem d5_4 : decode prog_10_method_5_code 4 = .ok (.iconst 0, 1) := by decide +kernel
theorem d5_5 : decode prog_10_method_5_code 5 = .ok (.aload_n 0, 1) := by decide +kernel
theorem d5_6 : decode prog_10_method_5_code 6 = .ok (.getfield 17, 3) := by decide +kernel
theorem d5_9 : decode prog_10_method_5_code 9 = .ok (.iload_n 1, 1) := by decide +kernel
theorem d5_10 : decode prog_10_method_5_code 10 = .ok (.invokestatic 21, 3) := by decide +kernel
theorem d5_13 : decode prog_10_method_5_code 13 = .ok (.istore_n 2, 1) := by decide +kernel
theorem d5_14 : decode prog_10_method_5_code 14 = .ok (.iload_n 2, 1) := by decide +kernel
theorem d5_15 : decode prog_10_method_5_code 15 = .ok (.ifCond .ge 7, 3) := by decide +kernel
theorem d5_18 : decode prog_10_method_5_code 18 = .ok (.lconst 0, 1) := by decide +kernel
theorem d5_19 : decode prog_10_method_5_code 19 = .ok (.goto 9, 3) := by decide +kernel
theorem d5_22 : decode prog_10_method_5_code 22 = .ok (.aload_n 0, 1) := by decide +kernel
theorem d5_23 : decode prog_10_method_5_code 23 = .ok (.getfield 13, 3) := by decide +kernel
theorem d5_26 : decode prog_10_method_5_code 26 = .ok (.iload_n 2, 1) := by decide +kernel
theorem d5_27 : decode prog_10_method_5_code 27 = .ok (.laload, 1) := by decide +kernel
theorem d5_28 : decode prog_10_method_5_code 28 = .ok (.lreturn, 1) := by decide +kernel
theorem pn_5 : plainName "com/example/net_reducer/netreducer/analysis/Marking" = true := by first | (simp [plainName, overriddenIn]; done) | decide +kernel
theorem ef_5 (m : MethodId) (x0 : Addr) (x1 : Int32) : entryFrame m #[(.ref x0), (.int x1)] 3 = mkF m 0 #[.val (.ref x0), .val (.int x1), .unset] [] := by first | (simp [entryFrame, mkF, argsToLocals, Value.category]; done) | rfl
def Q5n0 (Z : State) (a1 : Addr) (p2 : Int32) (b1 : Addr) (b2 : Addr) (k1 : ClassId) (k2 : ClassId) (x0 : Int32) (x1 : Int32) (x2 : Int32) (x3 : Int32) (x4 : Int32) (x5 : Int32) (x6 : Int32) (x7 : Int32) (t0 : Int64) (t1 : Int64) (t2 : Int64) (t3 : Int64) (t4 : Int64) (t5 : Int64) (t6 : Int64) (t7 : Int64) (r : Int64) (h0 : Heap) (n0 : Nat) (v : Option Value) (h : Heap) (L : List Loc) : Prop := v = some (.long r) ∧ Fr n0 L ∧ h = h0
set_option maxRecDepth 65536 in
set_option maxHeartbeats 40000000 in
theorem rm5n0 (l : Launch) (Z : State) (a0 : Array Value) (hw : ∀ d ∈ tables_1, d.before a0 Z = true) (ws : List Jvm.Cond) (a1 : Addr) (p2 : Int32) (b1 : Addr) (b2 : Addr) (k1 : ClassId) (k2 : ClassId) (x0 : Int32) (x1 : Int32) (x2 : Int32) (x3 : Int32) (x4 : Int32) (x5 : Int32) (x6 : Int32) (x7 : Int32) (t0 : Int64) (t1 : Int64) (t2 : Int64) (t3 : Int64) (t4 : Int64) (t5 : Int64) (t6 : Int64) (t7 : Int64) (r : Int64) (h0 : Heap) (n0 : Nat) (Z0 : n0 ≤ h0.size) (E_a1 : Exa Z h0 a1 "com/example/net_reducer/netreducer/analysis/Marking") (F_places_a1 : Fld Z h0 a1 "com/example/net_reducer/netreducer/analysis/Marking" "places" "[I" (.ref b1)) (F_tokens_a1 : Fld Z h0 a1 "com/example/net_reducer/netreducer/analysis/Marking" "tokens" "[J" (.ref b2)) (F_size_a1 : Fld Z h0 a1 "com/example/net_reducer/netreducer/analysis/Marking" "size" "I" (.int (0 : Int32))) (V_b1 : Arv Z h0 b1 k1 .int (8 : Int32) [(.int x0), (.int x1), (.int x2), (.int x3), (.int x4), (.int x5), (.int x6), (.int x7)] (.int (0 : Int32))) (V_b2 : Arv Z h0 b2 k2 .long (8 : Int32) [(.long t0), (.long t1), (.long t2), (.long t3), (.long t4), (.long t5), (.long t6), (.long t7)] (.long (0 : Int64))) (hp : (r = (0 : Int64))) :
    MetFree l (⟨"com/example/net_reducer/netreducer/analysis/Marking", "tokensOn", "(I)J"⟩ : MethodName) (head1 (Jvm.Cond.code (⟨"com/example/net_reducer/netreducer/analysis/Marking", "tokensOn", "(I)J"⟩ : MethodName) prog_10_method_5_code 3 (some .long) :: ws) ({ frames := 2, cells := 0, slots := 0, locals := 40 } : Room)) (fun a U => a = #[(.ref a1), (.int p2)] ∧ Z.Warmed39 U.vm ∧ U.heap = h0) (fun _ _ _ _ _ => True) (fun _ U o U' => ∃ v L, o = .returned v ∧ Q5n0 Z a1 p2 b1 b2 k1 k2 x0 x1 x2 x3 x4 x5 x6 x7 t0 t1 t2 t3 t4 t5 t6 t7 r h0 n0 v U'.heap L ∧ FrameEnd U o U' L ({ frames := 2, cells := 0, slots := 0, locals := 40 } : Room).cells ({ frames := 2, cells := 0, slots := 0, locals := 40 } : Room).slots) := by
  refine MetFree.of_bodySF (plainFor_of_name pn_5) hisR ?_
  intro p e s m args below meth c s₁ Bd hml0 hP hK
  obtain ⟨rfl, hZ, hh⟩ := hP
  have hx := Bd.exec
  have hby := Bd.bytes
  have hml : c.maxLocals = 3 := hml0
  have hown : s.vm.findClass "com/example/net_reducer/netreducer/analysis/Marking" = some m.cls := findClass_of_methodNamed Bd.named
  have hnm := (name_of_methodNamed Bd.named Bd.method).1
  have hret := Bd.returns
  have hlk : meth.locks = false := BodyLoose.notSynchronized Bd
  have X0 : Stand p l e ({ frames := 2, cells := 0, slots := 0, locals := 40 } : Room) s m #[(.ref a1), (.int p2)] below meth c s₁ [] 0 0 := Stand.of_body Bd
  have e0 : s₁.heap = h0 := by rw [← hh, Bd.state]; rfl
  have N0 := Fr.nil n0
  have W := fun (k : Nat) {d : Jvm.Cond} (h : tables_1[k]? = some d) => hw d (List.mem_of_getElem? h)
  have K0 : Keep h0 h0 [] := Keep.refl _ _
  refine own_start (ef_5 m a1 p2) ?_
  show own_Run p e below _ s₁ (mkF m 0 #[.val (.ref a1), .val (.int p2), .unset] [])
  rcases hp with rfl
  · show own_Run p e below _ s₁ (mkF m 0 #[.val (.ref a1), .val (.int p2), .unset] [])
    refine own_go (fun _ k => XS.aloadN X0.here hx rfl (hb hby d5_0) rfl rfl k) ?_
    show own_Run p e below _ s₁ (mkF m 1 #[.val (.ref a1), .val (.int p2), .unset] [(.ref a1)])
    obtain ⟨T62, X62, e62, st62⟩ := getF X0 hx hZ hown (host := "") (Or.inl (W 15 rfl)) Via.refl e0 F_places_a1 (g := (mkF m 1 #[.val (.ref a1), .val (.int p2), .unset] [(.ref a1)])) rfl rfl (hb hby d5_1)
    refine own_go st62 ?_
    show own_Run p e below _ T62 (mkF m 4 #[.val (.ref a1), .val (.int p2), .unset] [(.ref b1)])
    refine own_go (fun _ k => XS.iconst X62.here hx rfl (hb hby d5_4) k) ?_
    refine own_go (fun _ k => XS.aloadN X62.here hx rfl (hb hby d5_5) rfl rfl k) ?_
    show own_Run p e below _ T62 (mkF m 6 #[.val (.ref a1), .val (.int p2), .unset] [(.ref a1), (.int (0 : Int32)), (.ref b1)])
    obtain ⟨T63, X63, e63, st63⟩ := getF X62 hx hZ hown (host := "") (Or.inl (W 25 rfl)) Via.refl e62 F_size_a1 (g := (mkF m 6 #[.val (.ref a1), .val (.int p2), .unset] [(.ref a1), (.int (0 : Int32)), (.ref b1)])) rfl rfl (hb hby d5_6)
    refine own_go st63 ?_
    show own_Run p e below _ T63 (mkF m 9 #[.val (.ref a1), .val (.int p2), .unset] [(.int (0 : Int32)), (.int (0 : Int32)), (.ref b1)])
    refine own_go (fun _ k => XS.iloadN X63.here hx rfl (hb hby d5_9) rfl k) ?_
    show own_Run p e below _ T63 (mkF m 10 #[.val (.ref a1), .val (.int p2), .unset] [(.int p2), (.int (0 : Int32)), (.int (0 : Int32)), (.ref b1)])
    obtain ⟨_, _, ⟨T64, L64, k64, n64⟩, -, X64, ⟨Lc64, hQ64, l64, y64, z64⟩, st64⟩ := Jvm.LawKit.callS X63 hx (y := (⟨"java/util/Arrays", "binarySearch", "([IIII)I"⟩ : MethodName)) hown (mvT hZ (W 32 rfl)) (mvT hZ (W 33 rfl)) (mvT hZ (W 34 rfl)) (mvT hZ (W 35 rfl)) (by decide) (backOf (W := 0) (rm6n0 l Z a0 hw [] b1 p2 k1 x0 x1 x2 x3 x4 x5 x6 x7 (-1 : Int32) h0 n0 Z0 V_b1 (rfl)) hZ (W 35 rfl) (W 34 rfl) (by decide) (by decide)) (g := (mkF m 10 #[.val (.ref a1), .val (.int p2), .unset] [(.int p2), (.int (0 : Int32)), (.int (0 : Int32)), (.ref b1)])) rfl (by rw [hml]; rfl) (argsL := [(.ref b1), (.int (0 : Int32)), (.int (0 : Int32)), (.int p2)]) (rest := []) (lenOf pd_2 rfl) rfl (by show 2 * 0 + _ ≤ _; exact Nat.le_of_eq rfl) (hb hby d5_10) (fun _ _ => ⟨rfl, e63, (by decide : 0 + 0 ≤ _), (by decide : 0 + 0 ≤ _)⟩)
    dsimp only [Pt.U, Pt.locs, Pt.cells, Pt.slots] at X64 l64 y64 z64 st64 hQ64
    subst l64 y64 z64
    obtain ⟨rfl, N64q, e64⟩ := hQ64
    have N64 := Fr.app N0 N64q
    refine own_go st64 ?_
    show own_Run p e below _ T64 (mkF m 13 #[.val (.ref a1), .val (.int p2), .unset] [(.int (-1 : Int32))])
    refine own_go (fun _ k => XS.istoreN X64.here hx rfl (hb hby d5_13) rfl (l' := #[.val (.ref a1), .val (.int p2), .val (.int (-1 : Int32))]) rfl k) ?_
    refine own_go (fun _ k => XS.iloadN X64.here hx rfl (hb hby d5_14) rfl k) ?_
    show own_Run p e below _ T64 (mkF m 15 #[.val (.ref a1), .val (.int p2), .val (.int (-1 : Int32))] [(.int (-1 : Int32))])
    refine own_go (fun _ k => XS.ifNo X64.here hx rfl (hb hby d5_15) rfl ((if0 _ _).trans (tlt (by decide : (-1 : Int32) < (0 : Int32))).2.1) k) ?_
    show own_Run p e below _ T64 (mkF m 18 #[.val (.ref a1), .val (.int p2), .val (.int (-1 : Int32))] [])
    refine own_go (fun _ k => XS.lconst X64.here hx rfl (hb hby d5_18) k) ?_
    refine own_go (fun _ k => XS.goto X64.here hx rfl (pc0 := 19) (pc' := 28) rfl (hb hby d5_19) (by decide) (by decide) k) ?_
    show own_Run p e below _ T64 (mkF m 28 #[.val (.ref a1), .val (.int p2), .val (.int (-1 : Int32))] [(.long (0 : Int64))])
    refine own_done (Q := fun v h L => Q5n0 Z a1 p2 b1 b2 k1 k2 x0 x1 x2 x3 x4 x5 x6 x7 t0 t1 t2 t3 t4 t5 t6 t7 (0 : Int64) h0 n0 v h L) (v := (some (.long (0 : Int64)))) X64 (fun h => by rw [hret] at h; cases h) hlk (fun fs hr => own_retL X64 hx hret (hb hby d5_28) hr) ?_ (by decide) (by decide)
    show Q5n0 Z a1 p2 b1 b2 k1 k2 x0 x1 x2 x3 x4 x5 x6 x7 t0 t1 t2 t3 t4 t5 t6 t7 (0 : Int64) h0 n0 _ T64.heap _
    rw [e64]
    exact ⟨rfl, N64, rfl⟩
def Q8n1 (Z : State) (a1 : Addr) (p4 : Int32) (k1 : ClassId) (x0 : Int32) (x1 : Int32) (x2 : Int32) (x3 : Int32) (x4 : Int32) (x5 : Int32) (x6 : Int32) (x7 : Int32) (r : Int32) (h0 : Heap) (n0 : Nat) (v : Option Value) (h : Heap) (L : List Loc) : Prop := v = some (.int r) ∧ Fr n0 L ∧ h = h0
set_option maxRecDepth 65536 in
set_option maxHeartbeats 40000000 in
theorem rm8n1 (l : Launch) (Z : State) (a0 : Array Value) (hw : ∀ d ∈ tables_1, d.before a0 Z = true) (ws : List Jvm.Cond) (a1 : Addr) (p4 : Int32) (k1 : ClassId) (x0 : Int32) (x1 : Int32) (x2 : Int32) (x3 : Int32) (x4 : Int32) (x5 : Int32) (x6 : Int32) (x7 : Int32) (r : Int32) (h0 : Heap) (n0 : Nat) (Z0 : n0 ≤ h0.size) (V_a1 : Arv Z h0 a1 k1 .int (8 : Int32) [(.int x0), (.int x1), (.int x2), (.int x3), (.int x4), (.int x5), (.int x6), (.int x7)] (.int (0 : Int32))) (hp : (x0 = p4 ∧ r = (0 : Int32)) ∨ (p4 < x0 ∧ r = (-1 : Int32)) ∨ (x0 < p4 ∧ r = (-2 : Int32))) :
    MetFree l (⟨"java/util/Arrays", "binarySearch0", "([IIII)I"⟩ : MethodName) (head1 (Jvm.Cond.code (⟨"java/util/Arrays", "binarySearch0", "([IIII)I"⟩ : MethodName) jdk_65_method_59_code 8 (some .int) :: ws) ({ frames := 0, cells := 0, slots := 0, locals := 0 } : Room)) (fun a U => a = #[(.ref a1), (.int (0 : Int32)), (.int (1 : Int32)), (.int p4)] ∧ Z.Warmed39 U.vm ∧ U.heap = h0) (fun _ _ _ _ _ => True) (fun _ U o U' => ∃ v L, o = .returned v ∧ Q8n1 Z a1 p4 k1 x0 x1 x2 x3 x4 x5 x6 x7 r h0 n0 v U'.heap L ∧ FrameEnd U o U' L ({ frames := 0, cells := 0, slots := 0, locals := 0 } : Room).cells ({ frames := 0, cells := 0, slots := 0, locals := 0 } : Room).slots) := by
  refine MetFree.of_bodySF (plainFor_of_name pn_8) hisR ?_
  intro p e s m args below meth c s₁ Bd hml0 hP hK
  obtain ⟨rfl, hZ, hh⟩ := hP
  have hx := Bd.exec
  have hby := Bd.bytes
  have hml : c.maxLocals = 8 := hml0
  have hown : s.vm.findClass "java/util/Arrays" = some m.cls := findClass_of_methodNamed Bd.named
  have hnm := (name_of_methodNamed Bd.named Bd.method).1
  have hret := Bd.returns
  have hlk : meth.locks = false := BodyLoose.notSynchronized Bd
  have X0 : Stand p l e ({ frames := 0, cells := 0, slots := 0, locals := 0 } : Room) s m #[(.ref a1), (.int (0 : Int32)), (.int (1 : Int32)), (.int p4)] below meth c s₁ [] 0 0 := Stand.of_body Bd
  have e0 : s₁.heap = h0 := by rw [← hh, Bd.state]; rfl
  have N0 := Fr.nil n0
  have W := fun (k : Nat) {d : Jvm.Cond} (h : tables_1[k]? = some d) => hw d (List.mem_of_getElem? h)
  have K0 : Keep h0 h0 [] := Keep.refl _ _
  refine own_start (ef_8 m a1 (0 : Int32) (1 : Int32) p4) ?_
  show own_Run p e below _ s₁ (mkF m 0 #[.val (.ref a1), .val (.int (0 : Int32)), .val (.int (1 : Int32)), .val (.int p4), .unset, .unset, .unset, .unset] [])
  rcases hp with ⟨hz0, rfl⟩ | ⟨hz0, rfl⟩ | ⟨hz0, rfl⟩
  · show own_Run p e below _ s₁ (mkF m 0 #[.val (.ref a1), .val (.int (0 : Int32)), .val (.int (1 : Int32)), .val (.int p4), .unset, .unset, .unset, .unset] [])
    refine own_go (fun _ k => XS.iloadN X0.here hx rfl (hb hby d8_0) rfl k) ?_
    refine own_go (fun _ k => XS.istore X0.here hx rfl (hb hby d8_1) rfl (l' := #[.val (.ref a1), .val (.int (0 : Int32)), .val (.int (1 : Int32)), .val (.int p4), .val (.int (0 : Int32)), .unset, .unset, .unset]) rfl k) ?_
    refine own_go (fun _ k => XS.iloadN X0.here hx rfl (hb hby d8_3) rfl k) ?_
    refine own_go (fun _ k => XS.iconst X0.here hx rfl (hb hby d8_4) k) ?_
    show own_Run p e below _ s₁ (mkF m 5 #[.val (.ref a1), .val (.int (0 : Int32)), .val (.int (1 : Int32)), .val (.int p4), .val (.int (0 : Int32)), .unset, .unset, .unset] [(.int (1 : Int32)), (.int (1 : Int32))])
    refine own_go (fun _ k => XS.isub X0.here hx rfl (hb hby d8_5) rfl k) ?_
    show own_Run p e below _ s₁ (mkF m 6 #[.val (.ref a1), .val (.int (0 : Int32)), .val (.int (1 : Int32)), .val (.int p4), .val (.int (0 : Int32)), .unset, .unset, .unset] [(.int ((1 : Int32) - (1 : Int32)))])
    rw [show ((1 : Int32) - (1 : Int32)) = (0 : Int32) by decide]
    show own_Run p e below _ s₁ (mkF m 6 #[.val (.ref a1), .val (.int (0 : Int32)), .val (.int (1 : Int32)), .val (.int p4), .val (.int (0 : Int32)), .unset, .unset, .unset] [(.int (0 : Int32))])
    refine own_go (fun _ k => XS.istore X0.here hx rfl (hb hby d8_6) rfl (l' := #[.val (.ref a1), .val (.int (0 : Int32)), .val (.int (1 : Int32)), .val (.int p4), .val (.int (0 : Int32)), .val (.int (0 : Int32)), .unset, .unset]) rfl k) ?_
    refine own_go (fun _ k => XS.iload X0.here hx rfl (hb hby d8_8) rfl k) ?_
    refine own_go (fun _ k => XS.iload X0.here hx rfl (hb hby d8_10) rfl k) ?_
    show own_Run p e below _ s₁ (mkF m 12 #[.val (.ref a1), .val (.int (0 : Int32)), .val (.int (1 : Int32)), .val (.int p4), .val (.int (0 : Int32)), .val (.int (0 : Int32)), .unset, .unset] [(.int (0 : Int32)), (.int (0 : Int32))])
    refine own_go (fun _ k => XS.icmpNo X0.here hx rfl (hb hby d8_12) rfl (flt (by decide : ¬ ((0 : Int32) < (0 : Int32)))).2.2.1 k) ?_
    show own_Run p e below _ s₁ (mkF m 15 #[.val (.ref a1), .val (.int (0 : Int32)), .val (.int (1 : Int32)), .val (.int p4), .val (.int (0 : Int32)), .val (.int (0 : Int32)), .unset, .unset] [])
    refine own_go (fun _ k => XS.iload X0.here hx rfl (hb hby d8_15) rfl k) ?_
    refine own_go (fun _ k => XS.iload X0.here hx rfl (hb hby d8_17) rfl k) ?_
    refine own_go (fun _ k => XS.iadd X0.here hx rfl (hb hby d8_19) rfl k) ?_
    show own_Run p e below _ s₁ (mkF m 20 #[.val (.ref a1), .val (.int (0 : Int32)), .val (.int (1 : Int32)), .val (.int p4), .val (.int (0 : Int32)), .val (.int (0 : Int32)), .unset, .unset] [(.int ((0 : Int32) + (0 : Int32)))])
    rw [show ((0 : Int32) + (0 : Int32)) = (0 : Int32) by decide]
    show own_Run p e below _ s₁ (mkF m 20 #[.val (.ref a1), .val (.int (0 : Int32)), .val (.int (1 : Int32)), .val (.int p4), .val (.int (0 : Int32)), .val (.int (0 : Int32)), .unset, .unset] [(.int (0 : Int32))])
    refine own_go (fun _ k => XS.iconst X0.here hx rfl (hb hby d8_20) k) ?_
    refine own_go (fun _ k => XS.iushr X0.here hx rfl (hb hby d8_21) rfl k) ?_
    show own_Run p e below _ s₁ (mkF m 22 #[.val (.ref a1), .val (.int (0 : Int32)), .val (.int (1 : Int32)), .val (.int p4), .val (.int (0 : Int32)), .val (.int (0 : Int32)), .unset, .unset] [(.int (((0 : Int32).toUInt32 >>> ((1 : Int32) &&& 31).toUInt32).toInt32))])
    rw [show (((0 : Int32).toUInt32 >>> ((1 : Int32) &&& 31).toUInt32).toInt32) = (0 : Int32) by decide]
    show own_Run p e below _ s₁ (mkF m 22 #[.val (.ref a1), .val (.int (0 : Int32)), .val (.int (1 : Int32)), .val (.int p4), .val (.int (0 : Int32)), .val (.int (0 : Int32)), .unset, .unset] [(.int (0 : Int32))])
    refine own_go (fun _ k => XS.istore X0.here hx rfl (hb hby d8_22) rfl (l' := #[.val (.ref a1), .val (.int (0 : Int32)), .val (.int (1 : Int32)), .val (.int p4), .val (.int (0 : Int32)), .val (.int (0 : Int32)), .val (.int (0 : Int32)), .unset]) rfl k) ?_
    refine own_go (fun _ k => XS.aloadN X0.here hx rfl (hb hby d8_24) rfl rfl k) ?_
    refine own_go (fun _ k => XS.iload X0.here hx rfl (hb hby d8_25) rfl k) ?_
    show own_Run p e below _ s₁ (mkF m 27 #[.val (.ref a1), .val (.int (0 : Int32)), .val (.int (1 : Int32)), .val (.int p4), .val (.int (0 : Int32)), .val (.int (0 : Int32)), .val (.int (0 : Int32)), .unset] [(.int (0 : Int32)), (.ref a1)])
    obtain ⟨cl65, Ar65, q65, S65, N65, H65, G65⟩ := id V_a1
    have hin65 : ¬ ((0 : Int32) < 0 ∨ cl65.slots.size ≤ ((0 : Int32)).toNatClampNeg) := inb_of S65 ⟨by decide, by decide⟩
    refine own_go (X0.iaload hx (j := (0 : Int32)) (v := (.int x0)) (by rw [e0]; exact Ar65.1) (State.isArrayOf_alike hZ.alike Ar65.2.1) Ar65.2.2 hin65 (H65.at hin65 rfl) (g := (mkF m 27 #[.val (.ref a1), .val (.int (0 : Int32)), .val (.int (1 : Int32)), .val (.int p4), .val (.int (0 : Int32)), .val (.int (0 : Int32)), .val (.int (0 : Int32)), .unset] [(.int (0 : Int32)), (.ref a1)])) rfl rfl (hb hby d8_27)) ?_
    show own_Run p e below _ s₁ (mkF m 28 #[.val (.ref a1), .val (.int (0 : Int32)), .val (.int (1 : Int32)), .val (.int p4), .val (.int (0 : Int32)), .val (.int (0 : Int32)), .val (.int (0 : Int32)), .unset] [(.int x0)])
    refine own_go (fun _ k => XS.istore X0.here hx rfl (hb hby d8_28) rfl (l' := #[.val (.ref a1), .val (.int (0 : Int32)), .val (.int (1 : Int32)), .val (.int p4), .val (.int (0 : Int32)), .val (.int (0 : Int32)), .val (.int (0 : Int32)), .val (.int x0)]) rfl k) ?_
    refine own_go (fun _ k => XS.iload X0.here hx rfl (hb hby d8_30) rfl k) ?_
    refine own_go (fun _ k => XS.iloadN X0.here hx rfl (hb hby d8_32) rfl k) ?_
    show own_Run p e below _ s₁ (mkF m 33 #[.val (.ref a1), .val (.int (0 : Int32)), .val (.int (1 : Int32)), .val (.int p4), .val (.int (0 : Int32)), .val (.int (0 : Int32)), .val (.int (0 : Int32)), .val (.int x0)] [(.int p4), (.int x0)])
    refine own_go (fun _ k => XS.icmpYes X0.here hx rfl (pc0 := 33) (pc' := 45) rfl (hb hby d8_33) rfl (flt (by rw [hz0]; exact Int32.lt_irrefl : ¬ (x0 < p4))).2.1 (by decide) (by decide) k) ?_
    show own_Run p e below _ s₁ (mkF m 45 #[.val (.ref a1), .val (.int (0 : Int32)), .val (.int (1 : Int32)), .val (.int p4), .val (.int (0 : Int32)), .val (.int (0 : Int32)), .val (.int (0 : Int32)), .val (.int x0)] [])
    refine own_go (fun _ k => XS.iload X0.here hx rfl (hb hby d8_45) rfl k) ?_
    refine own_go (fun _ k => XS.iloadN X0.here hx rfl (hb hby d8_47) rfl k) ?_
    show own_Run p e below _ s₁ (mkF m 48 #[.val (.ref a1), .val (.int (0 : Int32)), .val (.int (1 : Int32)), .val (.int p4), .val (.int (0 : Int32)), .val (.int (0 : Int32)), .val (.int (0 : Int32)), .val (.int x0)] [(.int p4), (.int x0)])
    refine own_go (fun _ k => XS.icmpYes X0.here hx rfl (pc0 := 48) (pc' := 60) rfl (hb hby d8_48) rfl (flt (by rw [hz0]; exact Int32.lt_irrefl : ¬ (p4 < x0))).2.2.2 (by decide) (by decide) k) ?_
    show own_Run p e below _ s₁ (mkF m 60 #[.val (.ref a1), .val (.int (0 : Int32)), .val (.int (1 : Int32)), .val (.int p4), .val (.int (0 : Int32)), .val (.int (0 : Int32)), .val (.int (0 : Int32)), .val (.int x0)] [])
    refine own_go (fun _ k => XS.iload X0.here hx rfl (hb hby d8_60) rfl k) ?_
    show own_Run p e below _ s₁ (mkF m 62 #[.val (.ref a1), .val (.int (0 : Int32)), .val (.int (1 : Int32)), .val (.int p4), .val (.int (0 : Int32)), .val (.int (0 : Int32)), .val (.int (0 : Int32)), .val (.int x0)] [(.int (0 : Int32))])
    refine own_done (Q := fun v h L => Q8n1 Z a1 p4 k1 x0 x1 x2 x3 x4 x5 x6 x7 (0 : Int32) h0 n0 v h L) (v := (some (.int (0 : Int32)))) X0 (fun h => by rw [hret] at h; cases h) hlk (fun fs hr => own_retI X0 hx hret (hb hby d8_62) hr) ?_ (by decide) (by decide)
    show Q8n1 Z a1 p4 k1 x0 x1 x2 x3 x4 x5 x6 x7 (0 : Int32) h0 n0 _ s₁.heap _
    rw [e0]
    exact ⟨rfl, N0, rfl⟩
  · show own_Run p e below _ s₁ (mkF m 0 #[.val (.ref a1), .val (.int (0 : Int32)), .val (.int (1 : Int32)), .val (.int p4), .unset, .unset, .unset, .unset] [])
    refine own_go (fun _ k => XS.iloadN X0.here hx rfl (hb hby d8_0) rfl k) ?_
    refine own_go (fun _ k => XS.istore X0.here hx rfl (hb hby d8_1) rfl (l' := #[.val (.ref a1), .val (.int (0 : Int32)), .val (.int (1 : Int32)), .val (.int p4), .val (.int (0 : Int32)), .unset, .unset, .unset]) rfl k) ?_
    refine own_go (fun _ k => XS.iloadN X0.here hx rfl (hb hby d8_3) rfl k) ?_
    refine own_go (fun _ k => XS.iconst X0.here hx rfl (hb hby d8_4) k) ?_
    show own_Run p e below _ s₁ (mkF m 5 #[.val (.ref a1), .val (.int (0 : Int32)), .val (.int (1 : Int32)), .val (.int p4), .val (.int (0 : Int32)), .unset, .unset, .unset] [(.int (1 : Int32)), (.int (1 : Int32))])
    refine own_go (fun _ k => XS.isub X0.here hx rfl (hb hby d8_5) rfl k) ?_
    show own_Run p e below _ s₁ (mkF m 6 #[.val (.ref a1), .val (.int (0 : Int32)), .val (.int (1 : Int32)), .val (.int p4), .val (.int (0 : Int32)), .unset, .unset, .unset] [(.int ((1 : Int32) - (1 : Int32)))])
    rw [show ((1 : Int32) - (1 : Int32)) = (0 : Int32) by decide]
    show own_Run p e below _ s₁ (mkF m 6 #[.val (.ref a1), .val (.int (0 : Int32)), .val (.int (1 : Int32)), .val (.int p4), .val (.int (0 : Int32)), .unset, .unset, .unset] [(.int (0 : Int32))])
    refine own_go (fun _ k => XS.istore X0.here hx rfl (hb hby d8_6) rfl (l' := #[.val (.ref a1), .val (.int (0 : Int32)), .val (.int (1 : Int32)), .val (.int p4), .val (.int (0 : Int32)), .val (.int (0 : Int32)), .unset, .unset]) rfl k) ?_
    refine own_go (fun _ k => XS.iload X0.here hx rfl (hb hby d8_8) rfl k) ?_
    refine own_go (fun _ k => XS.iload X0.here hx rfl (hb hby d8_10) rfl k) ?_
    show own_Run p e below _ s₁ (mkF m 12 #[.val (.ref a1), .val (.int (0 : Int32)), .val (.int (1 : Int32)), .val (.int p4), .val (.int (0 : Int32)), .val (.int (0 : Int32)), .unset, .unset] [(.int (0 : Int32)), (.int (0 : Int32))])
    refine own_go (fun _ k => XS.icmpNo X0.here hx rfl (hb hby d8_12) rfl (flt (by decide : ¬ ((0 : Int32) < (0 : Int32)))).2.2.1 k) ?_
    show own_Run p e below _ s₁ (mkF m 15 #[.val (.ref a1), .val (.int (0 : Int32)), .val (.int (1 : Int32)), .val (.int p4), .val (.int (0 : Int32)), .val (.int (0 : Int32)), .unset, .unset] [])
    refine own_go (fun _ k => XS.iload X0.here hx rfl (hb hby d8_15) rfl k) ?_
    refine own_go (fun _ k => XS.iload X0.here hx rfl (hb hby d8_17) rfl k) ?_
    refine own_go (fun _ k => XS.iadd X0.here hx rfl (hb hby d8_19) rfl k) ?_
    show own_Run p e below _ s₁ (mkF m 20 #[.val (.ref a1), .val (.int (0 : Int32)), .val (.int (1 : Int32)), .val (.int p4), .val (.int (0 : Int32)), .val (.int (0 : Int32)), .unset, .unset] [(.int ((0 : Int32) + (0 : Int32)))])
    rw [show ((0 : Int32) + (0 : Int32)) = (0 : Int32) by decide]
    show own_Run p e below _ s₁ (mkF m 20 #[.val (.ref a1), .val (.int (0 : Int32)), .val (.int (1 : Int32)), .val (.int p4), .val (.int (0 : Int32)), .val (.int (0 : Int32)), .unset, .unset] [(.int (0 : Int32))])
    refine own_go (fun _ k => XS.iconst X0.here hx rfl (hb hby d8_20) k) ?_
    refine own_go (fun _ k => XS.iushr X0.here hx rfl (hb hby d8_21) rfl k) ?_
    show own_Run p e below _ s₁ (mkF m 22 #[.val (.ref a1), .val (.int (0 : Int32)), .val (.int (1 : Int32)), .val (.int p4), .val (.int (0 : Int32)), .val (.int (0 : Int32)), .unset, .unset] [(.int (((0 : Int32).toUInt32 >>> ((1 : Int32) &&& 31).toUInt32).toInt32))])
    rw [show (((0 : Int32).toUInt32 >>> ((1 : Int32) &&& 31).toUInt32).toInt32) = (0 : Int32) by decide]
    show own_Run p e below _ s₁ (mkF m 22 #[.val (.ref a1), .val (.int (0 : Int32)), .val (.int (1 : Int32)), .val (.int p4), .val (.int (0 : Int32)), .val (.int (0 : Int32)), .unset, .unset] [(.int (0 : Int32))])
    refine own_go (fun _ k => XS.istore X0.here hx rfl (hb hby d8_22) rfl (l' := #[.val (.ref a1), .val (.int (0 : Int32)), .val (.int (1 : Int32)), .val (.int p4), .val (.int (0 : Int32)), .val (.int (0 : Int32)), .val (.int (0 : Int32)), .unset]) rfl k) ?_
    refine own_go (fun _ k => XS.aloadN X0.here hx rfl (hb hby d8_24) rfl rfl k) ?_
    refine own_go (fun _ k => XS.iload X0.here hx rfl (hb hby d8_25) rfl k) ?_
    show own_Run p e below _ s₁ (mkF m 27 #[.val (.ref a1), .val (.int (0 : Int32)), .val (.int (1 : Int32)), .val (.int p4), .val (.int (0 : Int32)), .val (.int (0 : Int32)), .val (.int (0 : Int32)), .unset] [(.int (0 : Int32)), (.ref a1)])
    obtain ⟨cl66, Ar66, q66, S66, N66, H66, G66⟩ := id V_a1
    have hin66 : ¬ ((0 : Int32) < 0 ∨ cl66.slots.size ≤ ((0 : Int32)).toNatClampNeg) := inb_of S66 ⟨by decide, by decide⟩
    refine own_go (X0.iaload hx (j := (0 : Int32)) (v := (.int x0)) (by rw [e0]; exact Ar66.1) (State.isArrayOf_alike hZ.alike Ar66.2.1) Ar66.2.2 hin66 (H66.at hin66 rfl) (g := (mkF m 27 #[.val (.ref a1), .val (.int (0 : Int32)), .val (.int (1 : Int32)), .val (.int p4), .val (.int (0 : Int32)), .val (.int (0 : Int32)), .val (.int (0 : Int32)), .unset] [(.int (0 : Int32)), (.ref a1)])) rfl rfl (hb hby d8_27)) ?_
    show own_Run p e below _ s₁ (mkF m 28 #[.val (.ref a1), .val (.int (0 : Int32)), .val (.int (1 : Int32)), .val (.int p4), .val (.int (0 : Int32)), .val (.int (0 : Int32)), .val (.int (0 : Int32)), .unset] [(.int x0)])
    refine own_go (fun _ k => XS.istore X0.here hx rfl (hb hby d8_28) rfl (l' := #[.val (.ref a1), .val (.int (0 : Int32)), .val (.int (1 : Int32)), .val (.int p4), .val (.int (0 : Int32)), .val (.int (0 : Int32)), .val (.int (0 : Int32)), .val (.int x0)]) rfl k) ?_
    refine own_go (fun _ k => XS.iload X0.here hx rfl (hb hby d8_30) rfl k) ?_
    refine own_go (fun _ k => XS.iloadN X0.here hx rfl (hb hby d8_32) rfl k) ?_
    show own_Run p e below _ s₁ (mkF m 33 #[.val (.ref a1), .val (.int (0 : Int32)), .val (.int (1 : Int32)), .val (.int p4), .val (.int (0 : Int32)), .val (.int (0 : Int32)), .val (.int (0 : Int32)), .val (.int x0)] [(.int p4), (.int x0)])
    refine own_go (fun _ k => XS.icmpYes X0.here hx rfl (pc0 := 33) (pc' := 45) rfl (hb hby d8_33) rfl (flt (own_asym hz0 : ¬ (x0 < p4))).2.1 (by decide) (by decide) k) ?_
    show own_Run p e below _ s₁ (mkF m 45 #[.val (.ref a1), .val (.int (0 : Int32)), .val (.int (1 : Int32)), .val (.int p4), .val (.int (0 : Int32)), .val (.int (0 : Int32)), .val (.int (0 : Int32)), .val (.int x0)] [])
    refine own_go (fun _ k => XS.iload X0.here hx rfl (hb hby d8_45) rfl k) ?_
    refine own_go (fun _ k => XS.iloadN X0.here hx rfl (hb hby d8_47) rfl k) ?_
    show own_Run p e below _ s₁ (mkF m 48 #[.val (.ref a1), .val (.int (0 : Int32)), .val (.int (1 : Int32)), .val (.int p4), .val (.int (0 : Int32)), .val (.int (0 : Int32)), .val (.int (0 : Int32)), .val (.int x0)] [(.int p4), (.int x0)])
    refine own_go (fun _ k => XS.icmpNo X0.here hx rfl (hb hby d8_48) rfl (tlt hz0).2.2.2 k) ?_
    show own_Run p e below _ s₁ (mkF m 51 #[.val (.ref a1), .val (.int (0 : Int32)), .val (.int (1 : Int32)), .val (.int p4), .val (.int (0 : Int32)), .val (.int (0 : Int32)), .val (.int (0 : Int32)), .val (.int x0)] [])
    refine own_go (fun _ k => XS.iload X0.here hx rfl (hb hby d8_51) rfl k) ?_
    refine own_go (fun _ k => XS.iconst X0.here hx rfl (hb hby d8_53) k) ?_
    refine own_go (fun _ k => XS.isub X0.here hx rfl (hb hby d8_54) rfl k) ?_
    show own_Run p e below _ s₁ (mkF m 55 #[.val (.ref a1), .val (.int (0 : Int32)), .val (.int (1 : Int32)), .val (.int p4), .val (.int (0 : Int32)), .val (.int (0 : Int32)), .val (.int (0 : Int32)), .val (.int x0)] [(.int ((0 : Int32) - (1 : Int32)))])
    rw [show ((0 : Int32) - (1 : Int32)) = (-1 : Int32) by decide]
    show own_Run p e below _ s₁ (mkF m 55 #[.val (.ref a1), .val (.int (0 : Int32)), .val (.int (1 : Int32)), .val (.int p4), .val (.int (0 : Int32)), .val (.int (0 : Int32)), .val (.int (0 : Int32)), .val (.int x0)] [(.int (-1 : Int32))])
    refine own_go (fun _ k => XS.istore X0.here hx rfl (hb hby d8_55) rfl (l' := #[.val (.ref a1), .val (.int (0 : Int32)), .val (.int (1 : Int32)), .val (.int p4), .val (.int (0 : Int32)), .val (.int (-1 : Int32)), .val (.int (0 : Int32)), .val (.int x0)]) rfl k) ?_
    refine own_go (fun _ k => XS.goto X0.here hx rfl (pc0 := 57) (pc' := 63) rfl (hb hby d8_57) (by decide) (by decide) k) ?_
    refine own_go (fun _ k => XS.goto X0.here hx rfl (pc0 := 63) (pc' := 8) rfl (hb hby d8_63) (by decide) (by decide) k) ?_
    refine own_go (fun _ k => XS.iload X0.here hx rfl (hb hby d8_8) rfl k) ?_
    show own_Run p e below _ s₁ (mkF m 10 #[.val (.ref a1), .val (.int (0 : Int32)), .val (.int (1 : Int32)), .val (.int p4), .val (.int (0 : Int32)), .val (.int (-1 : Int32)), .val (.int (0 : Int32)), .val (.int x0)] [(.int (0 : Int32))])
    refine own_go (fun _ k => XS.iload X0.here hx rfl (hb hby d8_10) rfl k) ?_
    show own_Run p e below _ s₁ (mkF m 12 #[.val (.ref a1), .val (.int (0 : Int32)), .val (.int (1 : Int32)), .val (.int p4), .val (.int (0 : Int32)), .val (.int (-1 : Int32)), .val (.int (0 : Int32)), .val (.int x0)] [(.int (-1 : Int32)), (.int (0 : Int32))])
    refine own_go (fun _ k => XS.icmpYes X0.here hx rfl (pc0 := 12) (pc' := 66) rfl (hb hby d8_12) rfl (tlt (by decide : (-1 : Int32) < (0 : Int32))).2.2.1 (by decide) (by decide) k) ?_
    show own_Run p e below _ s₁ (mkF m 66 #[.val (.ref a1), .val (.int (0 : Int32)), .val (.int (1 : Int32)), .val (.int p4), .val (.int (0 : Int32)), .val (.int (-1 : Int32)), .val (.int (0 : Int32)), .val (.int x0)] [])
    refine own_go (fun _ k => XS.iload X0.here hx rfl (hb hby d8_66) rfl k) ?_
    refine own_go (fun _ k => XS.iconst X0.here hx rfl (hb hby d8_68) k) ?_
    refine own_go (fun _ k => XS.iadd X0.here hx rfl (hb hby d8_69) rfl k) ?_
    show own_Run p e below _ s₁ (mkF m 70 #[.val (.ref a1), .val (.int (0 : Int32)), .val (.int (1 : Int32)), .val (.int p4), .val (.int (0 : Int32)), .val (.int (-1 : Int32)), .val (.int (0 : Int32)), .val (.int x0)] [(.int ((0 : Int32) + (1 : Int32)))])
    rw [show ((0 : Int32) + (1 : Int32)) = (1 : Int32) by decide]
    show own_Run p e below _ s₁ (mkF m 70 #[.val (.ref a1), .val (.int (0 : Int32)), .val (.int (1 : Int32)), .val (.int p4), .val (.int (0 : Int32)), .val (.int (-1 : Int32)), .val (.int (0 : Int32)), .val (.int x0)] [(.int (1 : Int32))])
    refine own_go (fun _ k => XS.ineg X0.here hx rfl (hb hby d8_70) rfl k) ?_
    show own_Run p e below _ s₁ (mkF m 71 #[.val (.ref a1), .val (.int (0 : Int32)), .val (.int (1 : Int32)), .val (.int p4), .val (.int (0 : Int32)), .val (.int (-1 : Int32)), .val (.int (0 : Int32)), .val (.int x0)] [(.int (-(1 : Int32)))])
    rw [show (-(1 : Int32)) = (-1 : Int32) by decide]
    show own_Run p e below _ s₁ (mkF m 71 #[.val (.ref a1), .val (.int (0 : Int32)), .val (.int (1 : Int32)), .val (.int p4), .val (.int (0 : Int32)), .val (.int (-1 : Int32)), .val (.int (0 : Int32)), .val (.int x0)] [(.int (-1 : Int32))])
    refine own_done (Q := fun v h L => Q8n1 Z a1 p4 k1 x0 x1 x2 x3 x4 x5 x6 x7 (-1 : Int32) h0 n0 v h L) (v := (some (.int (-1 : Int32)))) X0 (fun h => by rw [hret] at h; cases h) hlk (fun fs hr => own_retI X0 hx hret (hb hby d8_71) hr) ?_ (by decide) (by decide)
    show Q8n1 Z a1 p4 k1 x0 x1 x2 x3 x4 x5 x6 x7 (-1 : Int32) h0 n0 _ s₁.heap _
    rw [e0]
    exact ⟨rfl, N0, rfl⟩
  · show own_Run p e below _ s₁ (mkF m 0 #[.val (.ref a1), .val (.int (0 : Int32)), .val (.int (1 : Int32)), .val (.int p4), .unset, .unset, .unset, .unset] [])
    refine own_go (fun _ k => XS.iloadN X0.here hx rfl (hb hby d8_0) rfl k) ?_
    refine own_go (fun _ k => XS.istore X0.here hx rfl (hb hby d8_1) rfl (l' := #[.val (.ref a1), .val (.int (0 : Int32)), .val (.int (1 : Int32)), .val (.int p4), .val (.int (0 : Int32)), .unset, .unset, .unset]) rfl k) ?_
    refine own_go (fun _ k => XS.iloadN X0.here hx rfl (hb hby d8_3) rfl k) ?_
    refine own_go (fun _ k => XS.iconst X0.here hx rfl (hb hby d8_4) k) ?_
    show own_Run p e below _ s₁ (mkF m 5 #[.val (.ref a1), .val (.int (0 : Int32)), .val (.int (1 : Int32)), .val (.int p4), .val (.int (0 : Int32)), .unset, .unset, .unset] [(.int (1 : Int32)), (.int (1 : Int32))])
    refine own_go (fun _ k => XS.isub X0.here hx rfl (hb hby d8_5) rfl k) ?_
    show own_Run p e below _ s₁ (mkF m 6 #[.val (.ref a1), .val (.int (0 : Int32)), .val (.int (1 : Int32)), .val (.int p4), .val (.int (0 : Int32)), .unset, .unset, .unset] [(.int ((1 : Int32) - (1 : Int32)))])
    rw [show ((1 : Int32) - (1 : Int32)) = (0 : Int32) by decide]
    show own_Run p e below _ s₁ (mkF m 6 #[.val (.ref a1), .val (.int (0 : Int32)), .val (.int (1 : Int32)), .val (.int p4), .val (.int (0 : Int32)), .unset, .unset, .unset] [(.int (0 : Int32))])
    refine own_go (fun _ k => XS.istore X0.here hx rfl (hb hby d8_6) rfl (l' := #[.val (.ref a1), .val (.int (0 : Int32)), .val (.int (1 : Int32)), .val (.int p4), .val (.int (0 : Int32)), .val (.int (0 : Int32)), .unset, .unset]) rfl k) ?_
    refine own_go (fun _ k => XS.iload X0.here hx rfl (hb hby d8_8) rfl k) ?_
    refine own_go (fun _ k => XS.iload X0.here hx rfl (hb hby d8_10) rfl k) ?_
    show own_Run p e below _ s₁ (mkF m 12 #[.val (.ref a1), .val (.int (0 : Int32)), .val (.int (1 : Int32)), .val (.int p4), .val (.int (0 : Int32)), .val (.int (0 : Int32)), .unset, .unset] [(.int (0 : Int32)), (.int (0 : Int32))])
    refine own_go (fun _ k => XS.icmpNo X0.here hx rfl (hb hby d8_12) rfl (flt (by decide : ¬ ((0 : Int32) < (0 : Int32)))).2.2.1 k) ?_
    show own_Run p e below _ s₁ (mkF m 15 #[.val (.ref a1), .val (.int (0 : Int32)), .val (.int (1 : Int32)), .val (.int p4), .val (.int (0 : Int32)), .val (.int (0 : Int32)), .unset, .unset] [])
    refine own_go (fun _ k => XS.iload X0.here hx rfl (hb hby d8_15) rfl k) ?_
    refine own_go (fun _ k => XS.iload X0.here hx rfl (hb hby d8_17) rfl k) ?_
    refine own_go (fun _ k => XS.iadd X0.here hx rfl (hb hby d8_19) rfl k) ?_
    show own_Run p e below _ s₁ (mkF m 20 #[.val (.ref a1), .val (.int (0 : Int32)), .val (.int (1 : Int32)), .val (.int p4), .val (.int (0 : Int32)), .val (.int (0 : Int32)), .unset, .unset] [(.int ((0 : Int32) + (0 : Int32)))])
    rw [show ((0 : Int32) + (0 : Int32)) = (0 : Int32) by decide]
    show own_Run p e below _ s₁ (mkF m 20 #[.val (.ref a1), .val (.int (0 : Int32)), .val (.int (1 : Int32)), .val (.int p4), .val (.int (0 : Int32)), .val (.int (0 : Int32)), .unset, .unset] [(.int (0 : Int32))])
    refine own_go (fun _ k => XS.iconst X0.here hx rfl (hb hby d8_20) k) ?_
    refine own_go (fun _ k => XS.iushr X0.here hx rfl (hb hby d8_21) rfl k) ?_
    show own_Run p e below _ s₁ (mkF m 22 #[.val (.ref a1), .val (.int (0 : Int32)), .val (.int (1 : Int32)), .val (.int p4), .val (.int (0 : Int32)), .val (.int (0 : Int32)), .unset, .unset] [(.int (((0 : Int32).toUInt32 >>> ((1 : Int32) &&& 31).toUInt32).toInt32))])
    rw [show (((0 : Int32).toUInt32 >>> ((1 : Int32) &&& 31).toUInt32).toInt32) = (0 : Int32) by decide]
    show own_Run p e below _ s₁ (mkF m 22 #[.val (.ref a1), .val (.int (0 : Int32)), .val (.int (1 : Int32)), .val (.int p4), .val (.int (0 : Int32)), .val (.int (0 : Int32)), .unset, .unset] [(.int (0 : Int32))])
    refine own_go (fun _ k => XS.istore X0.here hx rfl (hb hby d8_22) rfl (l' := #[.val (.ref a1), .val (.int (0 : Int32)), .val (.int (1 : Int32)), .val (.int p4), .val (.int (0 : Int32)), .val (.int (0 : Int32)), .val (.int (0 : Int32)), .unset]) rfl k) ?_
    refine own_go (fun _ k => XS.aloadN X0.here hx rfl (hb hby d8_24) rfl rfl k) ?_
    refine own_go (fun _ k => XS.iload X0.here hx rfl (hb hby d8_25) rfl k) ?_
    show own_Run p e below _ s₁ (mkF m 27 #[.val (.ref a1), .val (.int (0 : Int32)), .val (.int (1 : Int32)), .val (.int p4), .val (.int (0 : Int32)), .val (.int (0 : Int32)), .val (.int (0 : Int32)), .unset] [(.int (0 : Int32)), (.ref a1)])
    obtain ⟨cl67, Ar67, q67, S67, N67, H67, G67⟩ := id V_a1
    have hin67 : ¬ ((0 : Int32) < 0 ∨ cl67.slots.size ≤ ((0 : Int32)).toNatClampNeg) := inb_of S67 ⟨by decide, by decide⟩
    refine own_go (X0.iaload hx (j := (0 : Int32)) (v := (.int x0)) (by rw [e0]; exact Ar67.1) (State.isArrayOf_alike hZ.alike Ar67.2.1) Ar67.2.2 hin67 (H67.at hin67 rfl) (g := (mkF m 27 #[.val (.ref a1), .val (.int (0 : Int32)), .val (.int (1 : Int32)), .val (.int p4), .val (.int (0 : Int32)), .val (.int (0 : Int32)), .val (.int (0 : Int32)), .unset] [(.int (0 : Int32)), (.ref a1)])) rfl rfl (hb hby d8_27)) ?_
    show own_Run p e below _ s₁ (mkF m 28 #[.val (.ref a1), .val (.int (0 : Int32)), .val (.int (1 : Int32)), .val (.int p4), .val (.int (0 : Int32)), .val (.int (0 : Int32)), .val (.int (0 : Int32)), .unset] [(.int x0)])
    refine own_go (fun _ k => XS.istore X0.here hx rfl (hb hby d8_28) rfl (l' := #[.val (.ref a1), .val (.int (0 : Int32)), .val (.int (1 : Int32)), .val (.int p4), .val (.int (0 : Int32)), .val (.int (0 : Int32)), .val (.int (0 : Int32)), .val (.int x0)]) rfl k) ?_
    refine own_go (fun _ k => XS.iload X0.here hx rfl (hb hby d8_30) rfl k) ?_
    refine own_go (fun _ k => XS.iloadN X0.here hx rfl (hb hby d8_32) rfl k) ?_
    show own_Run p e below _ s₁ (mkF m 33 #[.val (.ref a1), .val (.int (0 : Int32)), .val (.int (1 : Int32)), .val (.int p4), .val (.int (0 : Int32)), .val (.int (0 : Int32)), .val (.int (0 : Int32)), .val (.int x0)] [(.int p4), (.int x0)])
    refine own_go (fun _ k => XS.icmpNo X0.here hx rfl (hb hby d8_33) rfl (tlt hz0).2.1 k) ?_
    show own_Run p e below _ s₁ (mkF m 36 #[.val (.ref a1), .val (.int (0 : Int32)), .val (.int (1 : Int32)), .val (.int p4), .val (.int (0 : Int32)), .val (.int (0 : Int32)), .val (.int (0 : Int32)), .val (.int x0)] [])
    refine own_go (fun _ k => XS.iload X0.here hx rfl (hb hby d8_36) rfl k) ?_
    refine own_go (fun _ k => XS.iconst X0.here hx rfl (hb hby d8_38) k) ?_
    refine own_go (fun _ k => XS.iadd X0.here hx rfl (hb hby d8_39) rfl k) ?_
    show own_Run p e below _ s₁ (mkF m 40 #[.val (.ref a1), .val (.int (0 : Int32)), .val (.int (1 : Int32)), .val (.int p4), .val (.int (0 : Int32)), .val (.int (0 : Int32)), .val (.int (0 : Int32)), .val (.int x0)] [(.int ((0 : Int32) + (1 : Int32)))])
    rw [show ((0 : Int32) + (1 : Int32)) = (1 : Int32) by decide]
    show own_Run p e below _ s₁ (mkF m 40 #[.val (.ref a1), .val (.int (0 : Int32)), .val (.int (1 : Int32)), .val (.int p4), .val (.int (0 : Int32)), .val (.int (0 : Int32)), .val (.int (0 : Int32)), .val (.int x0)] [(.int (1 : Int32))])
    refine own_go (fun _ k => XS.istore X0.here hx rfl (hb hby d8_40) rfl (l' := #[.val (.ref a1), .val (.int (0 : Int32)), .val (.int (1 : Int32)), .val (.int p4), .val (.int (1 : Int32)), .val (.int (0 : Int32)), .val (.int (0 : Int32)), .val (.int x0)]) rfl k) ?_
    refine own_go (fun _ k => XS.goto X0.here hx rfl (pc0 := 42) (pc' := 63) rfl (hb hby d8_42) (by decide) (by decide) k) ?_
    refine own_go (fun _ k => XS.goto X0.here hx rfl (pc0 := 63) (pc' := 8) rfl (hb hby d8_63) (by decide) (by decide) k) ?_
    refine own_go (fun _ k => XS.iload X0.here hx rfl (hb hby d8_8) rfl k) ?_
    show own_Run p e below _ s₁ (mkF m 10 #[.val (.ref a1), .val (.int (0 : Int32)), .val (.int (1 : Int32)), .val (.int p4), .val (.int (1 : Int32)), .val (.int (0 : Int32)), .val (.int (0 : Int32)), .val (.int x0)] [(.int (1 : Int32))])
    refine own_go (fun _ k => XS.iload X0.here hx rfl (hb hby d8_10) rfl k) ?_
    show own_Run p e below _ s₁ (mkF m 12 #[.val (.ref a1), .val (.int (0 : Int32)), .val (.int (1 : Int32)), .val (.int p4), .val (.int (1 : Int32)), .val (.int (0 : Int32)), .val (.int (0 : Int32)), .val (.int x0)] [(.int (0 : Int32)), (.int (1 : Int32))])
    refine own_go (fun _ k => XS.icmpYes X0.here hx rfl (pc0 := 12) (pc' := 66) rfl (hb hby d8_12) rfl (tlt (by decide : (0 : Int32) < (1 : Int32))).2.2.1 (by decide) (by decide) k) ?_
    show own_Run p e below _ s₁ (mkF m 66 #[.val (.ref a1), .val (.int (0 : Int32)), .val (.int (1 : Int32)), .val (.int p4), .val (.int (1 : Int32)), .val (.int (0 : Int32)), .val (.int (0 : Int32)), .val (.int x0)] [])
    refine own_go (fun _ k => XS.iload X0.here hx rfl (hb hby d8_66) rfl k) ?_
    refine own_go (fun _ k => XS.iconst X0.here hx rfl (hb hby d8_68) k) ?_
    refine own_go (fun _ k => XS.iadd X0.here hx rfl (hb hby d8_69) rfl k) ?_
    show own_Run p e below _ s₁ (mkF m 70 #[.val (.ref a1), .val (.int (0 : Int32)), .val (.int (1 : Int32)), .val (.int p4), .val (.int (1 : Int32)), .val (.int (0 : Int32)), .val (.int (0 : Int32)), .val (.int x0)] [(.int ((1 : Int32) + (1 : Int32)))])
    rw [show ((1 : Int32) + (1 : Int32)) = (2 : Int32) by decide]
    show own_Run p e below _ s₁ (mkF m 70 #[.val (.ref a1), .val (.int (0 : Int32)), .val (.int (1 : Int32)), .val (.int p4), .val (.int (1 : Int32)), .val (.int (0 : Int32)), .val (.int (0 : Int32)), .val (.int x0)] [(.int (2 : Int32))])
    refine own_go (fun _ k => XS.ineg X0.here hx rfl (hb hby d8_70) rfl k) ?_
    show own_Run p e below _ s₁ (mkF m 71 #[.val (.ref a1), .val (.int (0 : Int32)), .val (.int (1 : Int32)), .val (.int p4), .val (.int (1 : Int32)), .val (.int (0 : Int32)), .val (.int (0 : Int32)), .val (.int x0)] [(.int (-(2 : Int32)))])
    rw [show (-(2 : Int32)) = (-2 : Int32) by decide]
    show own_Run p e below _ s₁ (mkF m 71 #[.val (.ref a1), .val (.int (0 : Int32)), .val (.int (1 : Int32)), .val (.int p4), .val (.int (1 : Int32)), .val (.int (0 : Int32)), .val (.int (0 : Int32)), .val (.int x0)] [(.int (-2 : Int32))])
    refine own_done (Q := fun v h L => Q8n1 Z a1 p4 k1 x0 x1 x2 x3 x4 x5 x6 x7 (-2 : Int32) h0 n0 v h L) (v := (some (.int (-2 : Int32)))) X0 (fun h => by rw [hret] at h; cases h) hlk (fun fs hr => own_retI X0 hx hret (hb hby d8_71) hr) ?_ (by decide) (by decide)
    show Q8n1 Z a1 p4 k1 x0 x1 x2 x3 x4 x5 x6 x7 (-2 : Int32) h0 n0 _ s₁.heap _
    rw [e0]
    exact ⟨rfl, N0, rfl⟩
def Q6n1 (Z : State) (a1 : Addr) (p4 : Int32) (k1 : ClassId) (x0 : Int32) (x1 : Int32) (x2 : Int32) (x3 : Int32) (x4 : Int32) (x5 : Int32) (x6 : Int32) (x7 : Int32) (r : Int32) (h0 : Heap) (n0 : Nat) (v : Option Value) (h : Heap) (L : List Loc) : Prop := v = some (.int r) ∧ Fr n0 L ∧ h = h0
set_option maxRecDepth 65536 in
set_option maxHeartbeats 40000000 in
theorem rm6n1 (l : Launch) (Z : State) (a0 : Array Value) (hw : ∀ d ∈ tables_1, d.before a0 Z = true) (ws : List Jvm.Cond) (a1 : Addr) (p4 : Int32) (k1 : ClassId) (x0 : Int32) (x1 : Int32) (x2 : Int32) (x3 : Int32) (x4 : Int32) (x5 : Int32) (x6 : Int32) (x7 : Int32) (r : Int32) (h0 : Heap) (n0 : Nat) (Z0 : n0 ≤ h0.size) (V_a1 : Arv Z h0 a1 k1 .int (8 : Int32) [(.int x0), (.int x1), (.int x2), (.int x3), (.int x4), (.int x5), (.int x6), (.int x7)] (.int (0 : Int32))) (hp : (x0 = p4 ∧ r = (0 : Int32)) ∨ (p4 < x0 ∧ r = (-1 : Int32)) ∨ (x0 < p4 ∧ r = (-2 : Int32))) :
    MetFree l (⟨"java/util/Arrays", "binarySearch", "([IIII)I"⟩ : MethodName) (head1 (Jvm.Cond.code (⟨"java/util/Arrays", "binarySearch", "([IIII)I"⟩ : MethodName) jdk_65_method_58_code 4 (some .int) :: ws) ({ frames := 1, cells := 0, slots := 0, locals := 20 } : Room)) (fun a U => a = #[(.ref a1), (.int (0 : Int32)), (.int (1 : Int32)), (.int p4)] ∧ Z.Warmed39 U.vm ∧ U.heap = h0) (fun _ _ _ _ _ => True) (fun _ U o U' => ∃ v L, o = .returned v ∧ Q6n1 Z a1 p4 k1 x0 x1 x2 x3 x4 x5 x6 x7 r h0 n0 v U'.heap L ∧ FrameEnd U o U' L ({ frames := 1, cells := 0, slots := 0, locals := 20 } : Room).cells ({ frames := 1, cells := 0, slots := 0, locals := 20 } : Room).slots) := by
  refine MetFree.of_bodySF (plainFor_of_name pn_6) hisR ?_
  intro p e s m args below meth c s₁ Bd hml0 hP hK
  obtain ⟨rfl, hZ, hh⟩ := hP
  have hx := Bd.exec
  have hby := Bd.bytes
  have hml : c.maxLocals = 4 := hml0
  have hown : s.vm.findClass "java/util/Arrays" = some m.cls := findClass_of_methodNamed Bd.named
  have hnm := (name_of_methodNamed Bd.named Bd.method).1
  have hret := Bd.returns
  have hlk : meth.locks = false := BodyLoose.notSynchronized Bd
  have X0 : Stand p l e ({ frames := 1, cells := 0, slots := 0, locals := 20 } : Room) s m #[(.ref a1), (.int (0 : Int32)), (.int (1 : Int32)), (.int p4)] below meth c s₁ [] 0 0 := Stand.of_body Bd
  have e0 : s₁.heap = h0 := by rw [← hh, Bd.state]; rfl
  have N0 := Fr.nil n0
  have W := fun (k : Nat) {d : Jvm.Cond} (h : tables_1[k]? = some d) => hw d (List.mem_of_getElem? h)
  have K0 : Keep h0 h0 [] := Keep.refl _ _
  refine own_start (ef_6 m a1 (0 : Int32) (1 : Int32) p4) ?_
  show own_Run p e below _ s₁ (mkF m 0 #[.val (.ref a1), .val (.int (0 : Int32)), .val (.int (1 : Int32)), .val (.int p4)] [])
  refine own_go (fun _ k => XS.aloadN X0.here hx rfl (hb hby d6_0) rfl rfl k) ?_
  show own_Run p e below _ s₁ (mkF m 1 #[.val (.ref a1), .val (.int (0 : Int32)), .val (.int (1 : Int32)), .val (.int p4)] [(.ref a1)])
  obtain ⟨cl68, Ar68, q68, S68, N68, H68, G68⟩ := id V_a1
  refine own_go (X0.arraylength hx (by rw [e0]; exact Ar68.1) (State.isArrayOf_alike hZ.alike Ar68.2.1) (g := (mkF m 1 #[.val (.ref a1), .val (.int (0 : Int32)), .val (.int (1 : Int32)), .val (.int p4)] [(.ref a1)])) rfl rfl (hb hby d6_1)) ?_
  rw [len_of S68 N68]
  show own_Run p e below _ s₁ (mkF m 2 #[.val (.ref a1), .val (.int (0 : Int32)), .val (.int (1 : Int32)), .val (.int p4)] [(.int (8 : Int32))])
  refine own_go (fun _ k => XS.iloadN X0.here hx rfl (hb hby d6_2) rfl k) ?_
  refine own_go (fun _ k => XS.iloadN X0.here hx rfl (hb hby d6_3) rfl k) ?_
  show own_Run p e below _ s₁ (mkF m 4 #[.val (.ref a1), .val (.int (0 : Int32)), .val (.int (1 : Int32)), .val (.int p4)] [(.int (1 : Int32)), (.int (0 : Int32)), (.int (8 : Int32))])
  obtain ⟨_, _, ⟨T69, L69, k69, n69⟩, -, X69, ⟨Lc69, hQ69, l69, y69, z69⟩, st69⟩ := Jvm.LawKit.callS X0 hx (y := (⟨"java/util/Arrays", "rangeCheck", "(III)V"⟩ : MethodName)) hown (mvT hZ (W 36 rfl)) (mvT hZ (W 37 rfl)) (mvT hZ (W 34 rfl)) (mvT hZ (W 38 rfl)) (by decide) (backOf (W := 0) (rm7 l Z a0 hw [] (8 : Int32) (0 : Int32) (1 : Int32) h0 n0 Z0 (by decide) (by decide) (by decide)) hZ (W 38 rfl) (W 34 rfl) (by decide) (by decide)) (g := (mkF m 4 #[.val (.ref a1), .val (.int (0 : Int32)), .val (.int (1 : Int32)), .val (.int p4)] [(.int (1 : Int32)), (.int (0 : Int32)), (.int (8 : Int32))])) rfl (by rw [hml]; rfl) (argsL := [(.int (8 : Int32)), (.int (0 : Int32)), (.int (1 : Int32))]) (rest := []) (lenOf pd_1 rfl) rfl (by show 2 * 0 + _ ≤ _; exact Nat.le_of_eq rfl) (hb hby d6_4) (fun _ _ => ⟨rfl, e0, (by decide : 0 + 0 ≤ _), (by decide : 0 + 0 ≤ _)⟩)
  dsimp only [Pt.U, Pt.locs, Pt.cells, Pt.slots] at X69 l69 y69 z69 st69 hQ69
  subst l69 y69 z69
  obtain ⟨rfl, N69q, e69⟩ := hQ69
  have N69 := Fr.app N0 N69q
  refine own_go st69 ?_
  show own_Run p e below _ T69 (mkF m 7 #[.val (.ref a1), .val (.int (0 : Int32)), .val (.int (1 : Int32)), .val (.int p4)] [])
  refine own_go (fun _ k => XS.aloadN X69.here hx rfl (hb hby d6_7) rfl rfl k) ?_
  refine own_go (fun _ k => XS.iloadN X69.here hx rfl (hb hby d6_8) rfl k) ?_
  refine own_go (fun _ k => XS.iloadN X69.here hx rfl (hb hby d6_9) rfl k) ?_
  refine own_go (fun _ k => XS.iloadN X69.here hx rfl (hb hby d6_10) rfl k) ?_
  show own_Run p e below _ T69 (mkF m 11 #[.val (.ref a1), .val (.int (0 : Int32)), .val (.int (1 : Int32)), .val (.int p4)] [(.int p4), (.int (1 : Int32)), (.int (0 : Int32)), (.ref a1)])
  obtain ⟨_, _, ⟨T70, L70, k70, n70⟩, -, X70, ⟨Lc70, hQ70, l70, y70, z70⟩, st70⟩ := Jvm.LawKit.callS X69 hx (y := (⟨"java/util/Arrays", "binarySearch0", "([IIII)I"⟩ : MethodName)) hown (mvT hZ (W 39 rfl)) (mvT hZ (W 40 rfl)) (mvT hZ (W 34 rfl)) (mvT hZ (W 41 rfl)) (by decide) (backOf (W := 0) (rm8n1 l Z a0 hw [] a1 p4 k1 x0 x1 x2 x3 x4 x5 x6 x7 r h0 n0 Z0 V_a1 (hp)) hZ (W 41 rfl) (W 34 rfl) (by decide) (by decide)) (g := (mkF m 11 #[.val (.ref a1), .val (.int (0 : Int32)), .val (.int (1 : Int32)), .val (.int p4)] [(.int p4), (.int (1 : Int32)), (.int (0 : Int32)), (.ref a1)])) rfl (by rw [hml]; rfl) (argsL := [(.ref a1), (.int (0 : Int32)), (.int (1 : Int32)), (.int p4)]) (rest := []) (lenOf pd_2 rfl) rfl (by show 2 * 0 + _ ≤ _; exact Nat.le_of_eq rfl) (hb hby d6_11) (fun _ _ => ⟨rfl, e69, (by decide : 0 + 0 ≤ _), (by decide : 0 + 0 ≤ _)⟩)
  dsimp only [Pt.U, Pt.locs, Pt.cells, Pt.slots] at X70 l70 y70 z70 st70 hQ70
  subst l70 y70 z70
  obtain ⟨rfl, N70q, e70⟩ := hQ70
  have N70 := Fr.app N69 N70q
  refine own_go st70 ?_
  show own_Run p e below _ T70 (mkF m 14 #[.val (.ref a1), .val (.int (0 : Int32)), .val (.int (1 : Int32)), .val (.int p4)] [(.int r)])
  refine own_done (Q := fun v h L => Q6n1 Z a1 p4 k1 x0 x1 x2 x3 x4 x5 x6 x7 r h0 n0 v h L) (v := (some (.int r))) X70 (fun h => by rw [hret] at h; cases h) hlk (fun fs hr => own_retI X70 hx hret (hb hby d6_14) hr) ?_ (by decide) (by decide)
  show Q6n1 Z a1 p4 k1 x0 x1 x2 x3 x4 x5 x6 x7 r h0 n0 _ T70.heap _
  rw [e70]
  exact ⟨rfl, N70, rfl⟩
def Q5n1 (Z : State) (a1 : Addr) (p2 : Int32) (b1 : Addr) (b2 : Addr) (k1 : ClassId) (k2 : ClassId) (x0 : Int32) (x1 : Int32) (x2 : Int32) (x3 : Int32) (x4 : Int32) (x5 : Int32) (x6 : Int32) (x7 : Int32) (t0 : Int64) (t1 : Int64) (t2 : Int64) (t3 : Int64) (t4 : Int64) (t5 : Int64) (t6 : Int64) (t7 : Int64) (r : Int64) (h0 : Heap) (n0 : Nat) (v : Option Value) (h : Heap) (L : List Loc) : Prop := v = some (.long r) ∧ Fr n0 L ∧ h = h0
set_option maxRecDepth 65536 in
set_option maxHeartbeats 40000000 in
theorem rm5n1 (l : Launch) (Z : State) (a0 : Array Value) (hw : ∀ d ∈ tables_1, d.before a0 Z = true) (ws : List Jvm.Cond) (a1 : Addr) (p2 : Int32) (b1 : Addr) (b2 : Addr) (k1 : ClassId) (k2 : ClassId) (x0 : Int32) (x1 : Int32) (x2 : Int32) (x3 : Int32) (x4 : Int32) (x5 : Int32) (x6 : Int32) (x7 : Int32) (t0 : Int64) (t1 : Int64) (t2 : Int64) (t3 : Int64) (t4 : Int64) (t5 : Int64) (t6 : Int64) (t7 : Int64) (r : Int64) (h0 : Heap) (n0 : Nat) (Z0 : n0 ≤ h0.size) (E_a1 : Exa Z h0 a1 "com/example/net_reducer/netreducer/analysis/Marking") (F_places_a1 : Fld Z h0 a1 "com/example/net_reducer/netreducer/analysis/Marking" "places" "[I" (.ref b1)) (F_tokens_a1 : Fld Z h0 a1 "com/example/net_reducer/netreducer/analysis/Marking" "tokens" "[J" (.ref b2)) (F_size_a1 : Fld Z h0 a1 "com/example/net_reducer/netreducer/analysis/Marking" "size" "I" (.int (1 : Int32))) (V_b1 : Arv Z h0 b1 k1 .int (8 : Int32) [(.int x0), (.int x1), (.int x2), (.int x3), (.int x4), (.int x5), (.int x6), (.int x7)] (.int (0 : Int32))) (V_b2 : Arv Z h0 b2 k2 .long (8 : Int32) [(.long t0), (.long t1), (.long t2), (.long t3), (.long t4), (.long t5), (.long t6), (.long t7)] (.long (0 : Int64))) (hp : (x0 = p2 ∧ t0 = r) ∨ (p2 < x0 ∧ r = (0 : Int64)) ∨ (x0 < p2 ∧ r = (0 : Int64))) :
    MetFree l (⟨"com/example/net_reducer/netreducer/analysis/Marking", "tokensOn", "(I)J"⟩ : MethodName) (head1 (Jvm.Cond.code (⟨"com/example/net_reducer/netreducer/analysis/Marking", "tokensOn", "(I)J"⟩ : MethodName) prog_10_method_5_code 3 (some .long) :: ws) ({ frames := 2, cells := 0, slots := 0, locals := 40 } : Room)) (fun a U => a = #[(.ref a1), (.int p2)] ∧ Z.Warmed39 U.vm ∧ U.heap = h0) (fun _ _ _ _ _ => True) (fun _ U o U' => ∃ v L, o = .returned v ∧ Q5n1 Z a1 p2 b1 b2 k1 k2 x0 x1 x2 x3 x4 x5 x6 x7 t0 t1 t2 t3 t4 t5 t6 t7 r h0 n0 v U'.heap L ∧ FrameEnd U o U' L ({ frames := 2, cells := 0, slots := 0, locals := 40 } : Room).cells ({ frames := 2, cells := 0, slots := 0, locals := 40 } : Room).slots) := by
  refine MetFree.of_bodySF (plainFor_of_name pn_5) hisR ?_
  intro p e s m args below meth c s₁ Bd hml0 hP hK
  obtain ⟨rfl, hZ, hh⟩ := hP
  have hx := Bd.exec
  have hby := Bd.bytes
  have hml : c.maxLocals = 3 := hml0
  have hown : s.vm.findClass "com/example/net_reducer/netreducer/analysis/Marking" = some m.cls := findClass_of_methodNamed Bd.named
  have hnm := (name_of_methodNamed Bd.named Bd.method).1
  have hret := Bd.returns
  have hlk : meth.locks = false := BodyLoose.notSynchronized Bd
  have X0 : Stand p l e ({ frames := 2, cells := 0, slots := 0, locals := 40 } : Room) s m #[(.ref a1), (.int p2)] below meth c s₁ [] 0 0 := Stand.of_body Bd
  have e0 : s₁.heap = h0 := by rw [← hh, Bd.state]; rfl
  have N0 := Fr.nil n0
  have W := fun (k : Nat) {d : Jvm.Cond} (h : tables_1[k]? = some d) => hw d (List.mem_of_getElem? h)
  have K0 : Keep h0 h0 [] := Keep.refl _ _
  refine own_start (ef_5 m a1 p2) ?_
  show own_Run p e below _ s₁ (mkF m 0 #[.val (.ref a1), .val (.int p2), .unset] [])
  rcases hp with ⟨hz0, rfl⟩ | ⟨hz0, rfl⟩ | ⟨hz0, rfl⟩
  · show own_Run p e below _ s₁ (mkF m 0 #[.val (.ref a1), .val (.int p2), .unset] [])
    refine own_go (fun _ k => XS.aloadN X0.here hx rfl (hb hby d5_0) rfl rfl k) ?_
    show own_Run p e below _ s₁ (mkF m 1 #[.val (.ref a1), .val (.int p2), .unset] [(.ref a1)])
    obtain ⟨T71, X71, e71, st71⟩ := getF X0 hx hZ hown (host := "") (Or.inl (W 15 rfl)) Via.refl e0 F_places_a1 (g := (mkF m 1 #[.val (.ref a1), .val (.int p2), .unset] [(.ref a1)])) rfl rfl (hb hby d5_1)
    refine own_go st71 ?_
    show own_Run p e below _ T71 (mkF m 4 #[.val (.ref a1), .val (.int p2), .unset] [(.ref b1)])
    refine own_go (fun _ k => XS.iconst X71.here hx rfl (hb hby d5_4) k) ?_
    refine own_go (fun _ k => XS.aloadN X71.here hx rfl (hb hby d5_5) rfl rfl k) ?_
    show own_Run p e below _ T71 (mkF m 6 #[.val (.ref a1), .val (.int p2), .unset] [(.ref a1), (.int (0 : Int32)), (.ref b1)])
    obtain ⟨T72, X72, e72, st72⟩ := getF X71 hx hZ hown (host := "") (Or.inl (W 25 rfl)) Via.refl e71 F_size_a1 (g := (mkF m 6 #[.val (.ref a1), .val (.int p2), .unset] [(.ref a1), (.int (0 : Int32)), (.ref b1)])) rfl rfl (hb hby d5_6)
    refine own_go st72 ?_
    show own_Run p e below _ T72 (mkF m 9 #[.val (.ref a1), .val (.int p2), .unset] [(.int (1 : Int32)), (.int (0 : Int32)), (.ref b1)])
    refine own_go (fun _ k => XS.iloadN X72.here hx rfl (hb hby d5_9) rfl k) ?_
    show own_Run p e below _ T72 (mkF m 10 #[.val (.ref a1), .val (.int p2), .unset] [(.int p2), (.int (1 : Int32)), (.int (0 : Int32)), (.ref b1)])
    obtain ⟨_, _, ⟨T73, L73, k73, n73⟩, -, X73, ⟨Lc73, hQ73, l73, y73, z73⟩, st73⟩ := Jvm.LawKit.callS X72 hx (y := (⟨"java/util/Arrays", "binarySearch", "([IIII)I"⟩ : MethodName)) hown (mvT hZ (W 32 rfl)) (mvT hZ (W 33 rfl)) (mvT hZ (W 34 rfl)) (mvT hZ (W 35 rfl)) (by decide) (backOf (W := 0) (rm6n1 l Z a0 hw [] b1 p2 k1 x0 x1 x2 x3 x4 x5 x6 x7 (0 : Int32) h0 n0 Z0 V_b1 (Or.inl ⟨hz0, rfl⟩)) hZ (W 35 rfl) (W 34 rfl) (by decide) (by decide)) (g := (mkF m 10 #[.val (.ref a1), .val (.int p2), .unset] [(.int p2), (.int (1 : Int32)), (.int (0 : Int32)), (.ref b1)])) rfl (by rw [hml]; rfl) (argsL := [(.ref b1), (.int (0 : Int32)), (.int (1 : Int32)), (.int p2)]) (rest := []) (lenOf pd_2 rfl) rfl (by show 2 * 0 + _ ≤ _; exact Nat.le_of_eq rfl) (hb hby d5_10) (fun _ _ => ⟨rfl, e72, (by decide : 0 + 0 ≤ _), (by decide : 0 + 0 ≤ _)⟩)
    dsimp only [Pt.U, Pt.locs, Pt.cells, Pt.slots] at X73 l73 y73 z73 st73 hQ73
    subst l73 y73 z73
    obtain ⟨rfl, N73q, e73⟩ := hQ73
    have N73 := Fr.app N0 N73q
    refine own_go st73 ?_
    show own_Run p e below _ T73 (mkF m 13 #[.val (.ref a1), .val (.int p2), .unset] [(.int (0 : Int32))])
    refine own_go (fun _ k => XS.istoreN X73.here hx rfl (hb hby d5_13) rfl (l' := #[.val (.ref a1), .val (.int p2), .val (.int (0 : Int32))]) rfl k) ?_
    refine own_go (fun _ k => XS.iloadN X73.here hx rfl (hb hby d5_14) rfl k) ?_
    show own_Run p e below _ T73 (mkF m 15 #[.val (.ref a1), .val (.int p2), .val (.int (0 : Int32))] [(.int (0 : Int32))])
    refine own_go (fun _ k => XS.ifYes X73.here hx rfl (pc0 := 15) (pc' := 22) rfl (hb hby d5_15) rfl ((if0 _ _).trans (flt (by decide : ¬ ((0 : Int32) < (0 : Int32)))).2.1) (by decide) (by decide) k) ?_
    show own_Run p e below _ T73 (mkF m 22 #[.val (.ref a1), .val (.int p2), .val (.int (0 : Int32))] [])
    refine own_go (fun _ k => XS.aloadN X73.here hx rfl (hb hby d5_22) rfl rfl k) ?_
    show own_Run p e below _ T73 (mkF m 23 #[.val (.ref a1), .val (.int p2), .val (.int (0 : Int32))] [(.ref a1)])
    obtain ⟨T74, X74, e74, st74⟩ := getF X73 hx hZ hown (host := "") (Or.inl (W 18 rfl)) Via.refl e73 F_tokens_a1 (g := (mkF m 23 #[.val (.ref a1), .val (.int p2), .val (.int (0 : Int32))] [(.ref a1)])) rfl rfl (hb hby d5_23)
    refine own_go st74 ?_
    show own_Run p e below _ T74 (mkF m 26 #[.val (.ref a1), .val (.int p2), .val (.int (0 : Int32))] [(.ref b2)])
    refine own_go (fun _ k => XS.iloadN X74.here hx rfl (hb hby d5_26) rfl k) ?_
    show own_Run p e below _ T74 (mkF m 27 #[.val (.ref a1), .val (.int p2), .val (.int (0 : Int32))] [(.int (0 : Int32)), (.ref b2)])
    obtain ⟨cl75, Ar75, q75, S75, N75, H75, G75⟩ := id V_b2
    have hin75 : ¬ ((0 : Int32) < 0 ∨ cl75.slots.size ≤ ((0 : Int32)).toNatClampNeg) := inb_of S75 ⟨by decide, by decide⟩
    refine own_go (X74.laload hx (j := (0 : Int32)) (v := (.long t0)) (by rw [e74]; exact Ar75.1) (State.isArrayOf_alike hZ.alike Ar75.2.1) Ar75.2.2 hin75 (H75.at hin75 rfl) (g := (mkF m 27 #[.val (.ref a1), .val (.int p2), .val (.int (0 : Int32))] [(.int (0 : Int32)), (.ref b2)])) rfl rfl (hb hby d5_27)) ?_
    show own_Run p e below _ T74 (mkF m 28 #[.val (.ref a1), .val (.int p2), .val (.int (0 : Int32))] [(.long t0)])
    refine own_done (Q := fun v h L => Q5n1 Z a1 p2 b1 b2 k1 k2 x0 x1 x2 x3 x4 x5 x6 x7 t0 t1 t2 t3 t4 t5 t6 t7 t0 h0 n0 v h L) (v := (some (.long t0))) X74 (fun h => by rw [hret] at h; cases h) hlk (fun fs hr => own_retL X74 hx hret (hb hby d5_28) hr) ?_ (by decide) (by decide)
    show Q5n1 Z a1 p2 b1 b2 k1 k2 x0 x1 x2 x3 x4 x5 x6 x7 t0 t1 t2 t3 t4 t5 t6 t7 t0 h0 n0 _ T74.heap _
    rw [e74]
    exact ⟨rfl, N73, rfl⟩
  · show own_Run p e below _ s₁ (mkF m 0 #[.val (.ref a1), .val (.int p2), .unset] [])
    refine own_go (fun _ k => XS.aloadN X0.here hx rfl (hb hby d5_0) rfl rfl k) ?_
    show own_Run p e below _ s₁ (mkF m 1 #[.val (.ref a1), .val (.int p2), .unset] [(.ref a1)])
    obtain ⟨T76, X76, e76, st76⟩ := getF X0 hx hZ hown (host := "") (Or.inl (W 15 rfl)) Via.refl e0 F_places_a1 (g := (mkF m 1 #[.val (.ref a1), .val (.int p2), .unset] [(.ref a1)])) rfl rfl (hb hby d5_1)
    refine own_go st76 ?_
    show own_Run p e below _ T76 (mkF m 4 #[.val (.ref a1), .val (.int p2), .unset] [(.ref b1)])
    refine own_go (fun _ k => XS.iconst X76.here hx rfl (hb hby d5_4) k) ?_
    refine own_go (fun _ k => XS.aloadN X76.here hx rfl (hb hby d5_5) rfl rfl k) ?_
    show own_Run p e below _ T76 (mkF m 6 #[.val (.ref a1), .val (.int p2), .unset] [(.ref a1), (.int (0 : Int32)), (.ref b1)])
    obtain ⟨T77, X77, e77, st77⟩ := getF X76 hx hZ hown (host := "") (Or.inl (W 25 rfl)) Via.refl e76 F_size_a1 (g := (mkF m 6 #[.val (.ref a1), .val (.int p2), .unset] [(.ref a1), (.int (0 : Int32)), (.ref b1)])) rfl rfl (hb hby d5_6)
    refine own_go st77 ?_
    show own_Run p e below _ T77 (mkF m 9 #[.val (.ref a1), .val (.int p2), .unset] [(.int (1 : Int32)), (.int (0 : Int32)), (.ref b1)])
    refine own_go (fun _ k => XS.iloadN X77.here hx rfl (hb hby d5_9) rfl k) ?_
    show own_Run p e below _ T77 (mkF m 10 #[.val (.ref a1), .val (.int p2), .unset] [(.int p2), (.int (1 : Int32)), (.int (0 : Int32)), (.ref b1)])
    obtain ⟨_, _, ⟨T78, L78, k78, n78⟩, -, X78, ⟨Lc78, hQ78, l78, y78, z78⟩, st78⟩ := Jvm.LawKit.callS X77 hx (y := (⟨"java/util/Arrays", "binarySearch", "([IIII)I"⟩ : MethodName)) hown (mvT hZ (W 32 rfl)) (mvT hZ (W 33 rfl)) (mvT hZ (W 34 rfl)) (mvT hZ (W 35 rfl)) (by decide) (backOf (W := 0) (rm6n1 l Z a0 hw [] b1 p2 k1 x0 x1 x2 x3 x4 x5 x6 x7 (-1 : Int32) h0 n0 Z0 V_b1 (Or.inr (Or.inl ⟨hz0, rfl⟩))) hZ (W 35 rfl) (W 34 rfl) (by decide) (by decide)) (g := (mkF m 10 #[.val (.ref a1), .val (.int p2), .unset] [(.int p2), (.int (1 : Int32)), (.int (0 : Int32)), (.ref b1)])) rfl (by rw [hml]; rfl) (argsL := [(.ref b1), (.int (0 : Int32)), (.int (1 : Int32)), (.int p2)]) (rest := []) (lenOf pd_2 rfl) rfl (by show 2 * 0 + _ ≤ _; exact Nat.le_of_eq rfl) (hb hby d5_10) (fun _ _ => ⟨rfl, e77, (by decide : 0 + 0 ≤ _), (by decide : 0 + 0 ≤ _)⟩)
    dsimp only [Pt.U, Pt.locs, Pt.cells, Pt.slots] at X78 l78 y78 z78 st78 hQ78
    subst l78 y78 z78
    obtain ⟨rfl, N78q, e78⟩ := hQ78
    have N78 := Fr.app N0 N78q
    refine own_go st78 ?_
    show own_Run p e below _ T78 (mkF m 13 #[.val (.ref a1), .val (.int p2), .unset] [(.int (-1 : Int32))])
    refine own_go (fun _ k => XS.istoreN X78.here hx rfl (hb hby d5_13) rfl (l' := #[.val (.ref a1), .val (.int p2), .val (.int (-1 : Int32))]) rfl k) ?_
    refine own_go (fun _ k => XS.iloadN X78.here hx rfl (hb hby d5_14) rfl k) ?_
    show own_Run p e below _ T78 (mkF m 15 #[.val (.ref a1), .val (.int p2), .val (.int (-1 : Int32))] [(.int (-1 : Int32))])
    refine own_go (fun _ k => XS.ifNo X78.here hx rfl (hb hby d5_15) rfl ((if0 _ _).trans (tlt (by decide : (-1 : Int32) < (0 : Int32))).2.1) k) ?_
    show own_Run p e below _ T78 (mkF m 18 #[.val (.ref a1), .val (.int p2), .val (.int (-1 : Int32))] [])
    refine own_go (fun _ k => XS.lconst X78.here hx rfl (hb hby d5_18) k) ?_
    refine own_go (fun _ k => XS.goto X78.here hx rfl (pc0 := 19) (pc' := 28) rfl (hb hby d5_19) (by decide) (by decide) k) ?_
    show own_Run p e below _ T78 (mkF m 28 #[.val (.ref a1), .val (.int p2), .val (.int (-1 : Int32))] [(.long (0 : Int64))])
    refine own_done (Q := fun v h L => Q5n1 Z a1 p2 b1 b2 k1 k2 x0 x1 x2 x3 x4 x5 x6 x7 t0 t1 t2 t3 t4 t5 t6 t7 (0 : Int64) h0 n0 v h L) (v := (some (.long (0 : Int64)))) X78 (fun h => by rw [hret] at h; cases h) hlk (fun fs hr => own_retL X78 hx hret (hb hby d5_28) hr) ?_ (by decide) (by decide)
    show Q5n1 Z a1 p2 b1 b2 k1 k2 x0 x1 x2 x3 x4 x5 x6 x7 t0 t1 t2 t3 t4 t5 t6 t7 (0 : Int64) h0 n0 _ T78.heap _
    rw [e78]
    exact ⟨rfl, N78, rfl⟩
  · show own_Run p e below _ s₁ (mkF m 0 #[.val (.ref a1), .val (.int p2), .unset] [])
    refine own_go (fun _ k => XS.aloadN X0.here hx rfl (hb hby d5_0) rfl rfl k) ?_
    show own_Run p e below _ s₁ (mkF m 1 #[.val (.ref a1), .val (.int p2), .unset] [(.ref a1)])
    obtain ⟨T79, X79, e79, st79⟩ := getF X0 hx hZ hown (host := "") (Or.inl (W 15 rfl)) Via.refl e0 F_places_a1 (g := (mkF m 1 #[.val (.ref a1), .val (.int p2), .unset] [(.ref a1)])) rfl rfl (hb hby d5_1)
    refine own_go st79 ?_
    show own_Run p e below _ T79 (mkF m 4 #[.val (.ref a1), .val (.int p2), .unset] [(.ref b1)])
    refine own_go (fun _ k => XS.iconst X79.here hx rfl (hb hby d5_4) k) ?_
    refine own_go (fun _ k => XS.aloadN X79.here hx rfl (hb hby d5_5) rfl rfl k) ?_
    show own_Run p e below _ T79 (mkF m 6 #[.val (.ref a1), .val (.int p2), .unset] [(.ref a1), (.int (0 : Int32)), (.ref b1)])
    obtain ⟨T80, X80, e80, st80⟩ := getF X79 hx hZ hown (host := "") (Or.inl (W 25 rfl)) Via.refl e79 F_size_a1 (g := (mkF m 6 #[.val (.ref a1), .val (.int p2), .unset] [(.ref a1), (.int (0 : Int32)), (.ref b1)])) rfl rfl (hb hby d5_6)
    refine own_go st80 ?_
    show own_Run p e below _ T80 (mkF m 9 #[.val (.ref a1), .val (.int p2), .unset] [(.int (1 : Int32)), (.int (0 : Int32)), (.ref b1)])
    refine own_go (fun _ k => XS.iloadN X80.here hx rfl (hb hby d5_9) rfl k) ?_
    show own_Run p e below _ T80 (mkF m 10 #[.val (.ref a1), .val (.int p2), .unset] [(.int p2), (.int (1 : Int32)), (.int (0 : Int32)), (.ref b1)])
    obtain ⟨_, _, ⟨T81, L81, k81, n81⟩, -, X81, ⟨Lc81, hQ81, l81, y81, z81⟩, st81⟩ := Jvm.LawKit.callS X80 hx (y := (⟨"java/util/Arrays", "binarySearch", "([IIII)I"⟩ : MethodName)) hown (mvT hZ (W 32 rfl)) (mvT hZ (W 33 rfl)) (mvT hZ (W 34 rfl)) (mvT hZ (W 35 rfl)) (by decide) (backOf (W := 0) (rm6n1 l Z a0 hw [] b1 p2 k1 x0 x1 x2 x3 x4 x5 x6 x7 (-2 : Int32) h0 n0 Z0 V_b1 (Or.inr (Or.inr (⟨hz0, rfl⟩)))) hZ (W 35 rfl) (W 34 rfl) (by decide) (by decide)) (g := (mkF m 10 #[.val (.ref a1), .val (.int p2), .unset] [(.int p2), (.int (1 : Int32)), (.int (0 : Int32)), (.ref b1)])) rfl (by rw [hml]; rfl) (argsL := [(.ref b1), (.int (0 : Int32)), (.int (1 : Int32)), (.int p2)]) (rest := []) (lenOf pd_2 rfl) rfl (by show 2 * 0 + _ ≤ _; exact Nat.le_of_eq rfl) (hb hby d5_10) (fun _ _ => ⟨rfl, e80, (by decide : 0 + 0 ≤ _), (by decide : 0 + 0 ≤ _)⟩)
    dsimp only [Pt.U, Pt.locs, Pt.cells, Pt.slots] at X81 l81 y81 z81 st81 hQ81
    subst l81 y81 z81
    obtain ⟨rfl, N81q, e81⟩ := hQ81
    have N81 := Fr.app N0 N81q
    refine own_go st81 ?_
    show own_Run p e below _ T81 (mkF m 13 #[.val (.ref a1), .val (.int p2), .unset] [(.int (-2 : Int32))])
    refine own_go (fun _ k => XS.istoreN X81.here hx rfl (hb hby d5_13) rfl (l' := #[.val (.ref a1), .val (.int p2), .val (.int (-2 : Int32))]) rfl k) ?_
    refine own_go (fun _ k => XS.iloadN X81.here hx rfl (hb hby d5_14) rfl k) ?_
    show own_Run p e below _ T81 (mkF m 15 #[.val (.ref a1), .val (.int p2), .val (.int (-2 : Int32))] [(.int (-2 : Int32))])
    refine own_go (fun _ k => XS.ifNo X81.here hx rfl (hb hby d5_15) rfl ((if0 _ _).trans (tlt (by decide : (-2 : Int32) < (0 : Int32))).2.1) k) ?_
    show own_Run p e below _ T81 (mkF m 18 #[.val (.ref a1), .val (.int p2), .val (.int (-2 : Int32))] [])
    refine own_go (fun _ k => XS.lconst X81.here hx rfl (hb hby d5_18) k) ?_
    refine own_go (fun _ k => XS.goto X81.here hx rfl (pc0 := 19) (pc' := 28) rfl (hb hby d5_19) (by decide) (by decide) k) ?_
    show own_Run p e below _ T81 (mkF m 28 #[.val (.ref a1), .val (.int p2), .val (.int (-2 : Int32))] [(.long (0 : Int64))])
    refine own_done (Q := fun v h L => Q5n1 Z a1 p2 b1 b2 k1 k2 x0 x1 x2 x3 x4 x5 x6 x7 t0 t1 t2 t3 t4 t5 t6 t7 (0 : Int64) h0 n0 v h L) (v := (some (.long (0 : Int64)))) X81 (fun h => by rw [hret] at h; cases h) hlk (fun fs hr => own_retL X81 hx hret (hb hby d5_28) hr) ?_ (by decide) (by decide)
    show Q5n1 Z a1 p2 b1 b2 k1 k2 x0 x1 x2 x3 x4 x5 x6 x7 t0 t1 t2 t3 t4 t5 t6 t7 (0 : Int64) h0 n0 _ T81.heap _
    rw [e81]
    exact ⟨rfl, N81, rfl⟩
def Q8n2 (Z : State) (a1 : Addr) (p4 : Int32) (k1 : ClassId) (x0 : Int32) (x1 : Int32) (x2 : Int32) (x3 : Int32) (x4 : Int32) (x5 : Int32) (x6 : Int32) (x7 : Int32) (r : Int32) (h0 : Heap) (n0 : Nat) (v : Option Value) (h : Heap) (L : List Loc) : Prop := v = some (.int r) ∧ Fr n0 L ∧ h = h0
set_option maxRecDepth 65536 in
set_option maxHeartbeats 40000000 in
theorem rm8n2 (l : Launch) (Z : State) (a0 : Array Value) (hw : ∀ d ∈ tables_1, d.before a0 Z = true) (ws : List Jvm.Cond) (a1 : Addr) (p4 : Int32) (k1 : ClassId) (x0 : Int32) (x1 : Int32) (x2 : Int32) (x3 : Int32) (x4 : Int32) (x5 : Int32) (x6 : Int32) (x7 : Int32) (r : Int32) (h0 : Heap) (n0 : Nat) (Z0 : n0 ≤ h0.size) (V_a1 : Arv Z h0 a1 k1 .int (8 : Int32) [(.int x0), (.int x1), (.int x2), (.int x3), (.int x4), (.int x5), (.int x6), (.int x7)] (.int (0 : Int32))) (hp : (x0 = p4 ∧ p4 < x1 ∧ r = (0 : Int32)) ∨ (p4 < x0 ∧ p4 < x1 ∧ r = (-1 : Int32)) ∨ (x0 < p4 ∧ x1 = p4 ∧ r = (1 : Int32)) ∨ (x0 < p4 ∧ p4 < x1 ∧ r = (-2 : Int32)) ∨ (x0 < p4 ∧ x1 < p4 ∧ r = (-3 : Int32))) :
    MetFree l (⟨"java/util/Arrays", "binarySearch0", "([IIII)I"⟩ : MethodName) (head1 (Jvm.Cond.code (⟨"java/util/Arrays", "binarySearch0", "([IIII)I"⟩ : MethodName) jdk_65_method_59_code 8 (some .int) :: ws) ({ frames := 0, cells := 0, slots := 0, locals := 0 } : Room)) (fun a U => a = #[(.ref a1), (.int (0 : Int32)), (.int (2 : Int32)), (.int p4)] ∧ Z.Warmed39 U.vm ∧ U.heap = h0) (fun _ _ _ _ _ => True) (fun _ U o U' => ∃ v L, o = .returned v ∧ Q8n2 Z a1 p4 k1 x0 x1 x2 x3 x4 x5 x6 x7 r h0 n0 v U'.heap L ∧ FrameEnd U o U' L ({ frames := 0, cells := 0, slots := 0, locals := 0 } : Room).cells ({ frames := 0, cells := 0, slots := 0, locals := 0 } : Room).slots) := by
  refine MetFree.of_bodySF (plainFor_of_name pn_8) hisR ?_
  intro p e s m args below meth c s₁ Bd hml0 hP hK
  obtain ⟨rfl, hZ, hh⟩ := hP
  have hx := Bd.exec
  have hby := Bd.bytes
  have hml : c.maxLocals = 8 := hml0
  have hown : s.vm.findClass "java/util/Arrays" = some m.cls := findClass_of_methodNamed Bd.named
  have hnm := (name_of_methodNamed Bd.named Bd.method).1
  have hret := Bd.returns
  have hlk : meth.locks = false := BodyLoose.notSynchronized Bd
  have X0 : Stand p l e ({ frames := 0, cells := 0, slots := 0, locals := 0 } : Room) s m #[(.ref a1), (.int (0 : Int32)), (.int (2 : Int32)), (.int p4)] below meth c s₁ [] 0 0 := Stand.of_body Bd
  have e0 : s₁.heap = h0 := by rw [← hh, Bd.state]; rfl
  have N0 := Fr.nil n0
  have W := fun (k : Nat) {d : Jvm.Cond} (h : tables_1[k]? = some d) => hw d (List.mem_of_getElem? h)
  have K0 : Keep h0 h0 [] := Keep.refl _ _
  refine own_start (ef_8 m a1 (0 : Int32) (2 : Int32) p4) ?_
  show own_Run p e below _ s₁ (mkF m 0 #[.val (.ref a1), .val (.int (0 : Int32)), .val (.int (2 : Int32)), .val (.int p4), .unset, .unset, .unset, .unset] [])
  rcases hp with ⟨hz0, hz1, rfl⟩ | ⟨hz0, hz1, rfl⟩ | ⟨hz0, hz1, rfl⟩ | ⟨hz0, hz1, rfl⟩ | ⟨hz0, hz1, rfl⟩
  · show own_Run p e below _ s₁ (mkF m 0 #[.val (.ref a1), .val (.int (0 : Int32)), .val (.int (2 : Int32)), .val (.int p4), .unset, .unset, .unset, .unset] [])
    refine own_go (fun _ k => XS.iloadN X0.here hx rfl (hb hby d8_0) rfl k) ?_
    refine own_go (fun _ k => XS.istore X0.here hx rfl (hb hby d8_1) rfl (l' := #[.val (.ref a1), .val (.int (0 : Int32)), .val (.int (2 : Int32)), .val (.int p4), .val (.int (0 : Int32)), .unset, .unset, .unset]) rfl k) ?_
    refine own_go (fun _ k => XS.iloadN X0.here hx rfl (hb hby d8_3) rfl k) ?_
    refine own_go (fun _ k => XS.iconst X0.here hx rfl (hb hby d8_4) k) ?_
    show own_Run p e below _ s₁ (mkF m 5 #[.val (.ref a1), .val (.int (0 : Int32)), .val (.int (2 : Int32)), .val (.int p4), .val (.int (0 : Int32)), .unset, .unset, .unset] [(.int (1 : Int32)), (.int (2 : Int32))])
    refine own_go (fun _ k => XS.isub X0.here hx rfl (hb hby d8_5) rfl k) ?_
    show own_Run p e below _ s₁ (mkF m 6 #[.val (.ref a1), .val (.int (0 : Int32)), .val (.int (2 : Int32)), .val (.int p4), .val (.int (0 : Int32)), .unset, .unset, .unset] [(.int ((2 : Int32) - (1 : Int32)))])
    rw [show ((2 : Int32) - (1 : Int32)) = (1 : Int32) by decide]
    show own_Run p e below _ s₁ (mkF m 6 #[.val (.ref a1), .val (.int (0 : Int32)), .val (.int (2 : Int32)), .val (.int p4), .val (.int (0 : Int32)), .unset, .unset, .unset] [(.int (1 : Int32))])
    refine own_go (fun _ k => XS.istore X0.here hx rfl (hb hby d8_6) rfl (l' := #[.val (.ref a1), .val (.int (0 : Int32)), .val (.int (2 : Int32)), .val (.int p4), .val (.int (0 : Int32)), .val (.int (1 : Int32)), .unset, .unset]) rfl k) ?_
    refine own_go (fun _ k => XS.iload X0.here hx rfl (hb hby d8_8) rfl k) ?_
    refine own_go (fun _ k => XS.iload X0.here hx rfl (hb hby d8_10) rfl k) ?_
    show own_Run p e below _ s₁ (mkF m 12 #[.val (.ref a1), .val (.int (0 : Int32)), .val (.int (2 : Int32)), .val (.int p4), .val (.int (0 : Int32)), .val (.int (1 : Int32)), .unset, .unset] [(.int (1 : Int32)), (.int (0 : Int32))])
    refine own_go (fun _ k => XS.icmpNo X0.here hx rfl (hb hby d8_12) rfl (flt (by decide : ¬ ((1 : Int32) < (0 : Int32)))).2.2.1 k) ?_
    show own_Run p e below _ s₁ (mkF m 15 #[.val (.ref a1), .val (.int (0 : Int32)), .val (.int (2 : Int32)), .val (.int p4), .val (.int (0 : Int32)), .val (.int (1 : Int32)), .unset, .unset] [])
    refine own_go (fun _ k => XS.iload X0.here hx rfl (hb hby d8_15) rfl k) ?_
    refine own_go (fun _ k => XS.iload X0.here hx rfl (hb hby d8_17) rfl k) ?_
    refine own_go (fun _ k => XS.iadd X0.here hx rfl (hb hby d8_19) rfl k) ?_
    show own_Run p e below _ s₁ (mkF m 20 #[.val (.ref a1), .val (.int (0 : Int32)), .val (.int (2 : Int32)), .val (.int p4), .val (.int (0 : Int32)), .val (.int (1 : Int32)), .unset, .unset] [(.int ((0 : Int32) + (1 : Int32)))])
    rw [show ((0 : Int32) + (1 : Int32)) = (1 : Int32) by decide]
    show own_Run p e below _ s₁ (mkF m 20 #[.val (.ref a1), .val (.int (0 : Int32)), .val (.int (2 : Int32)), .val (.int p4), .val (.int (0 : Int32)), .val (.int (1 : Int32)), .unset, .unset] [(.int (1 : Int32))])
    refine own_go (fun _ k => XS.iconst X0.here hx rfl (hb hby d8_20) k) ?_
    refine own_go (fun _ k => XS.iushr X0.here hx rfl (hb hby d8_21) rfl k) ?_
    show own_Run p e below _ s₁ (mkF m 22 #[.val (.ref a1), .val (.int (0 : Int32)), .val (.int (2 : Int32)), .val (.int p4), .val (.int (0 : Int32)), .val (.int (1 : Int32)), .unset, .unset] [(.int (((1 : Int32).toUInt32 >>> ((1 : Int32) &&& 31).toUInt32).toInt32))])
    rw [show (((1 : Int32).toUInt32 >>> ((1 : Int32) &&& 31).toUInt32).toInt32) = (0 : Int32) by decide]
    show own_Run p e below _ s₁ (mkF m 22 #[.val (.ref a1), .val (.int (0 : Int32)), .val (.int (2 : Int32)), .val (.int p4), .val (.int (0 : Int32)), .val (.int (1 : Int32)), .unset, .unset] [(.int (0 : Int32))])
    refine own_go (fun _ k => XS.istore X0.here hx rfl (hb hby d8_22) rfl (l' := #[.val (.ref a1), .val (.int (0 : Int32)), .val (.int (2 : Int32)), .val (.int p4), .val (.int (0 : Int32)), .val (.int (1 : Int32)), .val (.int (0 : Int32)), .unset]) rfl k) ?_
    refine own_go (fun _ k => XS.aloadN X0.here hx rfl (hb hby d8_24) rfl rfl k) ?_
    refine own_go (fun _ k => XS.iload X0.here hx rfl (hb hby d8_25) rfl k) ?_
    show own_Run p e below _ s₁ (mkF m 27 #[.val (.ref a1), .val (.int (0 : Int32)), .val (.int (2 : Int32)), .val (.int p4), .val (.int (0 : Int32)), .val (.int (1 : Int32)), .val (.int (0 : Int32)), .unset] [(.int (0 : Int32)), (.ref a1)])
    obtain ⟨cl82, Ar82, q82, S82, N82, H82, G82⟩ := id V_a1
    have hin82 : ¬ ((0 : Int32) < 0 ∨ cl82.slots.size ≤ ((0 : Int32)).toNatClampNeg) := inb_of S82 ⟨by decide, by decide⟩
    refine own_go (X0.iaload hx (j := (0 : Int32)) (v := (.int x0)) (by rw [e0]; exact Ar82.1) (State.isArrayOf_alike hZ.alike Ar82.2.1) Ar82.2.2 hin82 (H82.at hin82 rfl) (g := (mkF m 27 #[.val (.ref a1), .val (.int (0 : Int32)), .val (.int (2 : Int32)), .val (.int p4), .val (.int (0 : Int32)), .val (.int (1 : Int32)), .val (.int (0 : Int32)), .unset] [(.int (0 : Int32)), (.ref a1)])) rfl rfl (hb hby d8_27)) ?_
    show own_Run p e below _ s₁ (mkF m 28 #[.val (.ref a1), .val (.int (0 : Int32)), .val (.int (2 : Int32)), .val (.int p4), .val (.int (0 : Int32)), .val (.int (1 : Int32)), .val (.int (0 : Int32)), .unset] [(.int x0)])
    refine own_go (fun _ k => XS.istore X0.here hx rfl (hb hby d8_28) rfl (l' := #[.val (.ref a1), .val (.int (0 : Int32)), .val (.int (2 : Int32)), .val (.int p4), .val (.int (0 : Int32)), .val (.int (1 : Int32)), .val (.int (0 : Int32)), .val (.int x0)]) rfl k) ?_
    refine own_go (fun _ k => XS.iload X0.here hx rfl (hb hby d8_30) rfl k) ?_
    refine own_go (fun _ k => XS.iloadN X0.here hx rfl (hb hby d8_32) rfl k) ?_
    show own_Run p e below _ s₁ (mkF m 33 #[.val (.ref a1), .val (.int (0 : Int32)), .val (.int (2 : Int32)), .val (.int p4), .val (.int (0 : Int32)), .val (.int (1 : Int32)), .val (.int (0 : Int32)), .val (.int x0)] [(.int p4), (.int x0)])
    refine own_go (fun _ k => XS.icmpYes X0.here hx rfl (pc0 := 33) (pc' := 45) rfl (hb hby d8_33) rfl (flt (by rw [hz0]; exact Int32.lt_irrefl : ¬ (x0 < p4))).2.1 (by decide) (by decide) k) ?_
    show own_Run p e below _ s₁ (mkF m 45 #[.val (.ref a1), .val (.int (0 : Int32)), .val (.int (2 : Int32)), .val (.int p4), .val (.int (0 : Int32)), .val (.int (1 : Int32)), .val (.int (0 : Int32)), .val (.int x0)] [])
    refine own_go (fun _ k => XS.iload X0.here hx rfl (hb hby d8_45) rfl k) ?_
    refine own_go (fun _ k => XS.iloadN X0.here hx rfl (hb hby d8_47) rfl k) ?_
    show own_Run p e below _ s₁ (mkF m 48 #[.val (.ref a1), .val (.int (0 : Int32)), .val (.int (2 : Int32)), .val (.int p4), .val (.int (0 : Int32)), .val (.int (1 : Int32)), .val (.int (0 : Int32)), .val (.int x0)] [(.int p4), (.int x0)])
    refine own_go (fun _ k => XS.icmpYes X0.here hx rfl (pc0 := 48) (pc' := 60) rfl (hb hby d8_48) rfl (flt (by rw [hz0]; exact Int32.lt_irrefl : ¬ (p4 < x0))).2.2.2 (by decide) (by decide) k) ?_
    show own_Run p e below _ s₁ (mkF m 60 #[.val (.ref a1), .val (.int (0 : Int32)), .val (.int (2 : Int32)), .val (.int p4), .val (.int (0 : Int32)), .val (.int (1 : Int32)), .val (.int (0 : Int32)), .val (.int x0)] [])
    refine own_go (fun _ k => XS.iload X0.here hx rfl (hb hby d8_60) rfl k) ?_
    show own_Run p e below _ s₁ (mkF m 62 #[.val (.ref a1), .val (.int (0 : Int32)), .val (.int (2 : Int32)), .val (.int p4), .val (.int (0 : Int32)), .val (.int (1 : Int32)), .val (.int (0 : Int32)), .val (.int x0)] [(.int (0 : Int32))])
    refine own_done (Q := fun v h L => Q8n2 Z a1 p4 k1 x0 x1 x2 x3 x4 x5 x6 x7 (0 : Int32) h0 n0 v h L) (v := (some (.int (0 : Int32)))) X0 (fun h => by rw [hret] at h; cases h) hlk (fun fs hr => own_retI X0 hx hret (hb hby d8_62) hr) ?_ (by decide) (by decide)
    show Q8n2 Z a1 p4 k1 x0 x1 x2 x3 x4 x5 x6 x7 (0 : Int32) h0 n0 _ s₁.heap _
    rw [e0]
    exact ⟨rfl, N0, rfl⟩
  · show own_Run p e below _ s₁ (mkF m 0 #[.val (.ref a1), .val (.int (0 : Int32)), .val (.int (2 : Int32)), .val (.int p4), .unset, .unset, .unset, .unset] [])
    refine own_go (fun _ k => XS.iloadN X0.here hx rfl (hb hby d8_0) rfl k) ?_
    refine own_go (fun _ k => XS.istore X0.here hx rfl (hb hby d8_1) rfl (l' := #[.val (.ref a1), .val (.int (0 : Int32)), .val (.int (2 : Int32)), .val (.int p4), .val (.int (0 : Int32)), .unset, .unset, .unset]) rfl k) ?_
    refine own_go (fun _ k => XS.iloadN X0.here hx rfl (hb hby d8_3) rfl k) ?_
    refine own_go (fun _ k => XS.iconst X0.here hx rfl (hb hby d8_4) k) ?_
    show own_Run p e below _ s₁ (mkF m 5 #[.val (.ref a1), .val (.int (0 : Int32)), .val (.int (2 : Int32)), .val (.int p4), .val (.int (0 : Int32)), .unset, .unset, .unset] [(.int (1 : Int32)), (.int (2 : Int32))])
    refine own_go (fun _ k => XS.isub X0.here hx rfl (hb hby d8_5) rfl k) ?_
    show own_Run p e below _ s₁ (mkF m 6 #[.val (.ref a1), .val (.int (0 : Int32)), .val (.int (2 : Int32)), .val (.int p4), .val (.int (0 : Int32)), .unset, .unset, .unset] [(.int ((2 : Int32) - (1 : Int32)))])
    rw [show ((2 : Int32) - (1 : Int32)) = (1 : Int32) by decide]
    show own_Run p e below _ s₁ (mkF m 6 #[.val (.ref a1), .val (.int (0 : Int32)), .val (.int (2 : Int32)), .val (.int p4), .val (.int (0 : Int32)), .unset, .unset, .unset] [(.int (1 : Int32))])
    refine own_go (fun _ k => XS.istore X0.here hx rfl (hb hby d8_6) rfl (l' := #[.val (.ref a1), .val (.int (0 : Int32)), .val (.int (2 : Int32)), .val (.int p4), .val (.int (0 : Int32)), .val (.int (1 : Int32)), .unset, .unset]) rfl k) ?_
    refine own_go (fun _ k => XS.iload X0.here hx rfl (hb hby d8_8) rfl k) ?_
    refine own_go (fun _ k => XS.iload X0.here hx rfl (hb hby d8_10) rfl k) ?_
    show own_Run p e below _ s₁ (mkF m 12 #[.val (.ref a1), .val (.int (0 : Int32)), .val (.int (2 : Int32)), .val (.int p4), .val (.int (0 : Int32)), .val (.int (1 : Int32)), .unset, .unset] [(.int (1 : Int32)), (.int (0 : Int32))])
    refine own_go (fun _ k => XS.icmpNo X0.here hx rfl (hb hby d8_12) rfl (flt (by decide : ¬ ((1 : Int32) < (0 : Int32)))).2.2.1 k) ?_
    show own_Run p e below _ s₁ (mkF m 15 #[.val (.ref a1), .val (.int (0 : Int32)), .val (.int (2 : Int32)), .val (.int p4), .val (.int (0 : Int32)), .val (.int (1 : Int32)), .unset, .unset] [])
    refine own_go (fun _ k => XS.iload X0.here hx rfl (hb hby d8_15) rfl k) ?_
    refine own_go (fun _ k => XS.iload X0.here hx rfl (hb hby d8_17) rfl k) ?_
    refine own_go (fun _ k => XS.iadd X0.here hx rfl (hb hby d8_19) rfl k) ?_
    show own_Run p e below _ s₁ (mkF m 20 #[.val (.ref a1), .val (.int (0 : Int32)), .val (.int (2 : Int32)), .val (.int p4), .val (.int (0 : Int32)), .val (.int (1 : Int32)), .unset, .unset] [(.int ((0 : Int32) + (1 : Int32)))])
    rw [show ((0 : Int32) + (1 : Int32)) = (1 : Int32) by decide]
    show own_Run p e below _ s₁ (mkF m 20 #[.val (.ref a1), .val (.int (0 : Int32)), .val (.int (2 : Int32)), .val (.int p4), .val (.int (0 : Int32)), .val (.int (1 : Int32)), .unset, .unset] [(.int (1 : Int32))])
    refine own_go (fun _ k => XS.iconst X0.here hx rfl (hb hby d8_20) k) ?_
    refine own_go (fun _ k => XS.iushr X0.here hx rfl (hb hby d8_21) rfl k) ?_
    show own_Run p e below _ s₁ (mkF m 22 #[.val (.ref a1), .val (.int (0 : Int32)), .val (.int (2 : Int32)), .val (.int p4), .val (.int (0 : Int32)), .val (.int (1 : Int32)), .unset, .unset] [(.int (((1 : Int32).toUInt32 >>> ((1 : Int32) &&& 31).toUInt32).toInt32))])
    rw [show (((1 : Int32).toUInt32 >>> ((1 : Int32) &&& 31).toUInt32).toInt32) = (0 : Int32) by decide]
    show own_Run p e below _ s₁ (mkF m 22 #[.val (.ref a1), .val (.int (0 : Int32)), .val (.int (2 : Int32)), .val (.int p4), .val (.int (0 : Int32)), .val (.int (1 : Int32)), .unset, .unset] [(.int (0 : Int32))])
    refine own_go (fun _ k => XS.istore X0.here hx rfl (hb hby d8_22) rfl (l' := #[.val (.ref a1), .val (.int (0 : Int32)), .val (.int (2 : Int32)), .val (.int p4), .val (.int (0 : Int32)), .val (.int (1 : Int32)), .val (.int (0 : Int32)), .unset]) rfl k) ?_
    refine own_go (fun _ k => XS.aloadN X0.here hx rfl (hb hby d8_24) rfl rfl k) ?_
    refine own_go (fun _ k => XS.iload X0.here hx rfl (hb hby d8_25) rfl k) ?_
    show own_Run p e below _ s₁ (mkF m 27 #[.val (.ref a1), .val (.int (0 : Int32)), .val (.int (2 : Int32)), .val (.int p4), .val (.int (0 : Int32)), .val (.int (1 : Int32)), .val (.int (0 : Int32)), .unset] [(.int (0 : Int32)), (.ref a1)])
    obtain ⟨cl83, Ar83, q83, S83, N83, H83, G83⟩ := id V_a1
    have hin83 : ¬ ((0 : Int32) < 0 ∨ cl83.slots.size ≤ ((0 : Int32)).toNatClampNeg) := inb_of S83 ⟨by decide, by decide⟩
    refine own_go (X0.iaload hx (j := (0 : Int32)) (v := (.int x0)) (by rw [e0]; exact Ar83.1) (State.isArrayOf_alike hZ.alike Ar83.2.1) Ar83.2.2 hin83 (H83.at hin83 rfl) (g := (mkF m 27 #[.val (.ref a1), .val (.int (0 : Int32)), .val (.int (2 : Int32)), .val (.int p4), .val (.int (0 : Int32)), .val (.int (1 : Int32)), .val (.int (0 : Int32)), .unset] [(.int (0 : Int32)), (.ref a1)])) rfl rfl (hb hby d8_27)) ?_
    show own_Run p e below _ s₁ (mkF m 28 #[.val (.ref a1), .val (.int (0 : Int32)), .val (.int (2 : Int32)), .val (.int p4), .val (.int (0 : Int32)), .val (.int (1 : Int32)), .val (.int (0 : Int32)), .unset] [(.int x0)])
    refine own_go (fun _ k => XS.istore X0.here hx rfl (hb hby d8_28) rfl (l' := #[.val (.ref a1), .val (.int (0 : Int32)), .val (.int (2 : Int32)), .val (.int p4), .val (.int (0 : Int32)), .val (.int (1 : Int32)), .val (.int (0 : Int32)), .val (.int x0)]) rfl k) ?_
    refine own_go (fun _ k => XS.iload X0.here hx rfl (hb hby d8_30) rfl k) ?_
    refine own_go (fun _ k => XS.iloadN X0.here hx rfl (hb hby d8_32) rfl k) ?_
    show own_Run p e below _ s₁ (mkF m 33 #[.val (.ref a1), .val (.int (0 : Int32)), .val (.int (2 : Int32)), .val (.int p4), .val (.int (0 : Int32)), .val (.int (1 : Int32)), .val (.int (0 : Int32)), .val (.int x0)] [(.int p4), (.int x0)])
    refine own_go (fun _ k => XS.icmpYes X0.here hx rfl (pc0 := 33) (pc' := 45) rfl (hb hby d8_33) rfl (flt (own_asym hz0 : ¬ (x0 < p4))).2.1 (by decide) (by decide) k) ?_
    show own_Run p e below _ s₁ (mkF m 45 #[.val (.ref a1), .val (.int (0 : Int32)), .val (.int (2 : Int32)), .val (.int p4), .val (.int (0 : Int32)), .val (.int (1 : Int32)), .val (.int (0 : Int32)), .val (.int x0)] [])
    refine own_go (fun _ k => XS.iload X0.here hx rfl (hb hby d8_45) rfl k) ?_
    refine own_go (fun _ k => XS.iloadN X0.here hx rfl (hb hby d8_47) rfl k) ?_
    show own_Run p e below _ s₁ (mkF m 48 #[.val (.ref a1), .val (.int (0 : Int32)), .val (.int (2 : Int32)), .val (.int p4), .val (.int (0 : Int32)), .val (.int (1 : Int32)), .val (.int (0 : Int32)), .val (.int x0)] [(.int p4), (.int x0)])
    refine own_go (fun _ k => XS.icmpNo X0.here hx rfl (hb hby d8_48) rfl (tlt hz0).2.2.2 k) ?_
    show own_Run p e below _ s₁ (mkF m 51 #[.val (.ref a1), .val (.int (0 : Int32)), .val (.int (2 : Int32)), .val (.int p4), .val (.int (0 : Int32)), .val (.int (1 : Int32)), .val (.int (0 : Int32)), .val (.int x0)] [])
    refine own_go (fun _ k => XS.iload X0.here hx rfl (hb hby d8_51) rfl k) ?_
    refine own_go (fun _ k => XS.iconst X0.here hx rfl (hb hby d8_53) k) ?_
    refine own_go (fun _ k => XS.isub X0.here hx rfl (hb hby d8_54) rfl k) ?_
    show own_Run p e below _ s₁ (mkF m 55 #[.val (.ref a1), .val (.int (0 : Int32)), .val (.int (2 : Int32)), .val (.int p4), .val (.int (0 : Int32)), .val (.int (1 : Int32)), .val (.int (0 : Int32)), .val (.int x0)] [(.int ((0 : Int32) - (1 : Int32)))])
    rw [show ((0 : Int32) - (1 : Int32)) = (-1 : Int32) by decide]
    show own_Run p e below _ s₁ (mkF m 55 #[.val (.ref a1), .val (.int (0 : Int32)), .val (.int (2 : Int32)), .val (.int p4), .val (.int (0 : Int32)), .val (.int (1 : Int32)), .val (.int (0 : Int32)), .val (.int x0)] [(.int (-1 : Int32))])
    refine own_go (fun _ k => XS.istore X0.here hx rfl (hb hby d8_55) rfl (l' := #[.val (.ref a1), .val (.int (0 : Int32)), .val (.int (2 : Int32)), .val (.int p4), .val (.int (0 : Int32)), .val (.int (-1 : Int32)), .val (.int (0 : Int32)), .val (.int x0)]) rfl k) ?_
    refine own_go (fun _ k => XS.goto X0.here hx rfl (pc0 := 57) (pc' := 63) rfl (hb hby d8_57) (by decide) (by decide) k) ?_
    refine own_go (fun _ k => XS.goto X0.here hx rfl (pc0 := 63) (pc' := 8) rfl (hb hby d8_63) (by decide) (by decide) k) ?_
    refine own_go (fun _ k => XS.iload X0.here hx rfl (hb hby d8_8) rfl k) ?_
    show own_Run p e below _ s₁ (mkF m 10 #[.val (.ref a1), .val (.int (0 : Int32)), .val (.int (2 : Int32)), .val (.int p4), .val (.int (0 : Int32)), .val (.int (-1 : Int32)), .val (.int (0 : Int32)), .val (.int x0)] [(.int (0 : Int32))])
    refine own_go (fun _ k => XS.iload X0.here hx rfl (hb hby d8_10) rfl k) ?_
    show own_Run p e below _ s₁ (mkF m 12 #[.val (.ref a1), .val (.int (0 : Int32)), .val (.int (2 : Int32)), .val (.int p4), .val (.int (0 : Int32)), .val (.int (-1 : Int32)), .val (.int (0 : Int32)), .val (.int x0)] [(.int (-1 : Int32)), (.int (0 : Int32))])
    refine own_go (fun _ k => XS.icmpYes X0.here hx rfl (pc0 := 12) (pc' := 66) rfl (hb hby d8_12) rfl (tlt (by decide : (-1 : Int32) < (0 : Int32))).2.2.1 (by decide) (by decide) k) ?_
    show own_Run p e below _ s₁ (mkF m 66 #[.val (.ref a1), .val (.int (0 : Int32)), .val (.int (2 : Int32)), .val (.int p4), .val (.int (0 : Int32)), .val (.int (-1 : Int32)), .val (.int (0 : Int32)), .val (.int x0)] [])
    refine own_go (fun _ k => XS.iload X0.here hx rfl (hb hby d8_66) rfl k) ?_
    refine own_go (fun _ k => XS.iconst X0.here hx rfl (hb hby d8_68) k) ?_
    refine own_go (fun _ k => XS.iadd X0.here hx rfl (hb hby d8_69) rfl k) ?_
    show own_Run p e below _ s₁ (mkF m 70 #[.val (.ref a1), .val (.int (0 : Int32)), .val (.int (2 : Int32)), .val (.int p4), .val (.int (0 : Int32)), .val (.int (-1 : Int32)), .val (.int (0 : Int32)), .val (.int x0)] [(.int ((0 : Int32) + (1 : Int32)))])
    rw [show ((0 : Int32) + (1 : Int32)) = (1 : Int32) by decide]
    show own_Run p e below _ s₁ (mkF m 70 #[.val (.ref a1), .val (.int (0 : Int32)), .val (.int (2 : Int32)), .val (.int p4), .val (.int (0 : Int32)), .val (.int (-1 : Int32)), .val (.int (0 : Int32)), .val (.int x0)] [(.int (1 : Int32))])
    refine own_go (fun _ k => XS.ineg X0.here hx rfl (hb hby d8_70) rfl k) ?_
    show own_Run p e below _ s₁ (mkF m 71 #[.val (.ref a1), .val (.int (0 : Int32)), .val (.int (2 : Int32)), .val (.int p4), .val (.int (0 : Int32)), .val (.int (-1 : Int32)), .val (.int (0 : Int32)), .val (.int x0)] [(.int (-(1 : Int32)))])
    rw [show (-(1 : Int32)) = (-1 : Int32) by decide]
    show own_Run p e below _ s₁ (mkF m 71 #[.val (.ref a1), .val (.int (0 : Int32)), .val (.int (2 : Int32)), .val (.int p4), .val (.int (0 : Int32)), .val (.int (-1 : Int32)), .val (.int (0 : Int32)), .val (.int x0)] [(.int (-1 : Int32))])
    refine own_done (Q := fun v h L => Q8n2 Z a1 p4 k1 x0 x1 x2 x3 x4 x5 x6 x7 (-1 : Int32) h0 n0 v h L) (v := (some (.int (-1 : Int32)))) X0 (fun h => by rw [hret] at h; cases h) hlk (fun fs hr => own_retI X0 hx hret (hb hby d8_71) hr) ?_ (by decide) (by decide)
    show Q8n2 Z a1 p4 k1 x0 x1 x2 x3 x4 x5 x6 x7 (-1 : Int32) h0 n0 _ s₁.heap _
    rw [e0]
    exact ⟨rfl, N0, rfl⟩
  · show own_Run p e below _ s₁ (mkF m 0 #[.val (.ref a1), .val (.int (0 : Int32)), .val (.int (2 : Int32)), .val (.int p4), .unset, .unset, .unset, .unset] [])
    refine own_go (fun _ k => XS.iloadN X0.here hx rfl (hb hby d8_0) rfl k) ?_
    refine own_go (fun _ k => XS.istore X0.here hx rfl (hb hby d8_1) rfl (l' := #[.val (.ref a1), .val (.int (0 : Int32)), .val (.int (2 : Int32)), .val (.int p4), .val (.int (0 : Int32)), .unset, .unset, .unset]) rfl k) ?_
    refine own_go (fun _ k => XS.iloadN X0.here hx rfl (hb hby d8_3) rfl k) ?_
    refine own_go (fun _ k => XS.iconst X0.here hx rfl (hb hby d8_4) k) ?_
    show own_Run p e below _ s₁ (mkF m 5 #[.val (.ref a1), .val (.int (0 : Int32)), .val (.int (2 : Int32)), .val (.int p4), .val (.int (0 : Int32)), .unset, .unset, .unset] [(.int (1 : Int32)), (.int (2 : Int32))])
    refine own_go (fun _ k => XS.isub X0.here hx rfl (hb hby d8_5) rfl k) ?_
    show own_Run p e below _ s₁ (mkF m 6 #[.val (.ref a1), .val (.int (0 : Int32)), .val (.int (2 : Int32)), .val (.int p4), .val (.int (0 : Int32)), .unset, .unset, .unset] [(.int ((2 : Int32) - (1 : Int32)))])
    rw [show ((2 : Int32) - (1 : Int32)) = (1 : Int32) by decide]
    show own_Run p e below _ s₁ (mkF m 6 #[.val (.ref a1), .val (.int (0 : Int32)), .val (.int (2 : Int32)), .val (.int p4), .val (.int (0 : Int32)), .unset, .unset, .unset] [(.int (1 : Int32))])
    refine own_go (fun _ k => XS.istore X0.here hx rfl (hb hby d8_6) rfl (l' := #[.val (.ref a1), .val (.int (0 : Int32)), .val (.int (2 : Int32)), .val (.int p4), .val (.int (0 : Int32)), .val (.int (1 : Int32)), .unset, .unset]) rfl k) ?_
    refine own_go (fun _ k => XS.iload X0.here hx rfl (hb hby d8_8) rfl k) ?_
    refine own_go (fun _ k => XS.iload X0.here hx rfl (hb hby d8_10) rfl k) ?_
    show own_Run p e below _ s₁ (mkF m 12 #[.val (.ref a1), .val (.int (0 : Int32)), .val (.int (2 : Int32)), .val (.int p4), .val (.int (0 : Int32)), .val (.int (1 : Int32)), .unset, .unset] [(.int (1 : Int32)), (.int (0 : Int32))])
    refine own_go (fun _ k => XS.icmpNo X0.here hx rfl (hb hby d8_12) rfl (flt (by decide : ¬ ((1 : Int32) < (0 : Int32)))).2.2.1 k) ?_
    show own_Run p e below _ s₁ (mkF m 15 #[.val (.ref a1), .val (.int (0 : Int32)), .val (.int (2 : Int32)), .val (.int p4), .val (.int (0 : Int32)), .val (.int (1 : Int32)), .unset, .unset] [])
    refine own_go (fun _ k => XS.iload X0.here hx rfl (hb hby d8_15) rfl k) ?_
    refine own_go (fun _ k => XS.iload X0.here hx rfl (hb hby d8_17) rfl k) ?_
    refine own_go (fun _ k => XS.iadd X0.here hx rfl (hb hby d8_19) rfl k) ?_
    show own_Run p e below _ s₁ (mkF m 20 #[.val (.ref a1), .val (.int (0 : Int32)), .val (.int (2 : Int32)), .val (.int p4), .val (.int (0 : Int32)), .val (.int (1 : Int32)), .unset, .unset] [(.int ((0 : Int32) + (1 : Int32)))])
    rw [show ((0 : Int32) + (1 : Int32)) = (1 : Int32) by decide]
    show own_Run p e below _ s₁ (mkF m 20 #[.val (.ref a1), .val (.int (0 : Int32)), .val (.int (2 : Int32)), .val (.int p4), .val (.int (0 : Int32)), .val (.int (1 : Int32)), .unset, .unset] [(.int (1 : Int32))])
    refine own_go (fun _ k => XS.iconst X0.here hx rfl (hb hby d8_20) k) ?_
    refine own_go (fun _ k => XS.iushr X0.here hx rfl (hb hby d8_21) rfl k) ?_
    show own_Run p e below _ s₁ (mkF m 22 #[.val (.ref a1), .val (.int (0 : Int32)), .val (.int (2 : Int32)), .val (.int p4), .val (.int (0 : Int32)), .val (.int (1 : Int32)), .unset, .unset] [(.int (((1 : Int32).toUInt32 >>> ((1 : Int32) &&& 31).toUInt32).toInt32))])
    rw [show (((1 : Int32).toUInt32 >>> ((1 : Int32) &&& 31).toUInt32).toInt32) = (0 : Int32) by decide]
    show own_Run p e below _ s₁ (mkF m 22 #[.val (.ref a1), .val (.int (0 : Int32)), .val (.int (2 : Int32)), .val (.int p4), .val (.int (0 : Int32)), .val (.int (1 : Int32)), .unset, .unset] [(.int (0 : Int32))])
    refine own_go (fun _ k => XS.istore X0.here hx rfl (hb hby d8_22) rfl (l' := #[.val (.ref a1), .val (.int (0 : Int32)), .val (.int (2 : Int32)), .val (.int p4), .val (.int (0 : Int32)), .val (.int (1 : Int32)), .val (.int (0 : Int32)), .unset]) rfl k) ?_
    refine own_go (fun _ k => XS.aloadN X0.here hx rfl (hb hby d8_24) rfl rfl k) ?_
    refine own_go (fun _ k => XS.iload X0.here hx rfl (hb hby d8_25) rfl k) ?_
    show own_Run p e below _ s₁ (mkF m 27 #[.val (.ref a1), .val (.int (0 : Int32)), .val (.int (2 : Int32)), .val (.int p4), .val (.int (0 : Int32)), .val (.int (1 : Int32)), .val (.int (0 : Int32)), .unset] [(.int (0 : Int32)), (.ref a1)])
    obtain ⟨cl84, Ar84, q84, S84, N84, H84, G84⟩ := id V_a1
    have hin84 : ¬ ((0 : Int32) < 0 ∨ cl84.slots.size ≤ ((0 : Int32)).toNatClampNeg) := inb_of S84 ⟨by decide, by decide⟩
    refine own_go (X0.iaload hx (j := (0 : Int32)) (v := (.int x0)) (by rw [e0]; exact Ar84.1) (State.isArrayOf_alike hZ.alike Ar84.2.1) Ar84.2.2 hin84 (H84.at hin84 rfl) (g := (mkF m 27 #[.val (.ref a1), .val (.int (0 : Int32)), .val (.int (2 : Int32)), .val (.int p4), .val (.int (0 : Int32)), .val (.int (1 : Int32)), .val (.int (0 : Int32)), .unset] [(.int (0 : Int32)), (.ref a1)])) rfl rfl (hb hby d8_27)) ?_
    show own_Run p e below _ s₁ (mkF m 28 #[.val (.ref a1), .val (.int (0 : Int32)), .val (.int (2 : Int32)), .val (.int p4), .val (.int (0 : Int32)), .val (.int (1 : Int32)), .val (.int (0 : Int32)), .unset] [(.int x0)])
    refine own_go (fun _ k => XS.istore X0.here hx rfl (hb hby d8_28) rfl (l' := #[.val (.ref a1), .val (.int (0 : Int32)), .val (.int (2 : Int32)), .val (.int p4), .val (.int (0 : Int32)), .val (.int (1 : Int32)), .val (.int (0 : Int32)), .val (.int x0)]) rfl k) ?_
    refine own_go (fun _ k => XS.iload X0.here hx rfl (hb hby d8_30) rfl k) ?_
    refine own_go (fun _ k => XS.iloadN X0.here hx rfl (hb hby d8_32) rfl k) ?_
    show own_Run p e below _ s₁ (mkF m 33 #[.val (.ref a1), .val (.int (0 : Int32)), .val (.int (2 : Int32)), .val (.int p4), .val (.int (0 : Int32)), .val (.int (1 : Int32)), .val (.int (0 : Int32)), .val (.int x0)] [(.int p4), (.int x0)])
    refine own_go (fun _ k => XS.icmpNo X0.here hx rfl (hb hby d8_33) rfl (tlt hz0).2.1 k) ?_
    show own_Run p e below _ s₁ (mkF m 36 #[.val (.ref a1), .val (.int (0 : Int32)), .val (.int (2 : Int32)), .val (.int p4), .val (.int (0 : Int32)), .val (.int (1 : Int32)), .val (.int (0 : Int32)), .val (.int x0)] [])
    refine own_go (fun _ k => XS.iload X0.here hx rfl (hb hby d8_36) rfl k) ?_
    refine own_go (fun _ k => XS.iconst X0.here hx rfl (hb hby d8_38) k) ?_
    refine own_go (fun _ k => XS.iadd X0.here hx rfl (hb hby d8_39) rfl k) ?_
    show own_Run p e below _ s₁ (mkF m 40 #[.val (.ref a1), .val (.int (0 : Int32)), .val (.int (2 : Int32)), .val (.int p4), .val (.int (0 : Int32)), .val (.int (1 : Int32)), .val (.int (0 : Int32)), .val (.int x0)] [(.int ((0 : Int32) + (1 : Int32)))])
    rw [show ((0 : Int32) + (1 : Int32)) = (1 : Int32) by decide]
    show own_Run p e below _ s₁ (mkF m 40 #[.val (.ref a1), .val (.int (0 : Int32)), .val (.int (2 : Int32)), .val (.int p4), .val (.int (0 : Int32)), .val (.int (1 : Int32)), .val (.int (0 : Int32)), .val (.int x0)] [(.int (1 : Int32))])
    refine own_go (fun _ k => XS.istore X0.here hx rfl (hb hby d8_40) rfl (l' := #[.val (.ref a1), .val (.int (0 : Int32)), .val (.int (2 : Int32)), .val (.int p4), .val (.int (1 : Int32)), .val (.int (1 : Int32)), .val (.int (0 : Int32)), .val (.int x0)]) rfl k) ?_
    refine own_go (fun _ k => XS.goto X0.here hx rfl (pc0 := 42) (pc' := 63) rfl (hb hby d8_42) (by decide) (by decide) k) ?_
    refine own_go (fun _ k => XS.goto X0.here hx rfl (pc0 := 63) (pc' := 8) rfl (hb hby d8_63) (by decide) (by decide) k) ?_
    refine own_go (fun _ k => XS.iload X0.here hx rfl (hb hby d8_8) rfl k) ?_
    show own_Run p e below _ s₁ (mkF m 10 #[.val (.ref a1), .val (.int (0 : Int32)), .val (.int (2 : Int32)), .val (.int p4), .val (.int (1 : Int32)), .val (.int (1 : Int32)), .val (.int (0 : Int32)), .val (.int x0)] [(.int (1 : Int32))])
    refine own_go (fun _ k => XS.iload X0.here hx rfl (hb hby d8_10) rfl k) ?_
    show own_Run p e below _ s₁ (mkF m 12 #[.val (.ref a1), .val (.int (0 : Int32)), .val (.int (2 : Int32)), .val (.int p4), .val (.int (1 : Int32)), .val (.int (1 : Int32)), .val (.int (0 : Int32)), .val (.int x0)] [(.int (1 : Int32)), (.int (1 : Int32))])
    refine own_go (fun _ k => XS.icmpNo X0.here hx rfl (hb hby d8_12) rfl (flt (by decide : ¬ ((1 : Int32) < (1 : Int32)))).2.2.1 k) ?_
    show own_Run p e below _ s₁ (mkF m 15 #[.val (.ref a1), .val (.int (0 : Int32)), .val (.int (2 : Int32)), .val (.int p4), .val (.int (1 : Int32)), .val (.int (1 : Int32)), .val (.int (0 : Int32)), .val (.int x0)] [])
    refine own_go (fun _ k => XS.iload X0.here hx rfl (hb hby d8_15) rfl k) ?_
    refine own_go (fun _ k => XS.iload X0.here hx rfl (hb hby d8_17) rfl k) ?_
    refine own_go (fun _ k => XS.iadd X0.here hx rfl (hb hby d8_19) rfl k) ?_
    show own_Run p e below _ s₁ (mkF m 20 #[.val (.ref a1), .val (.int (0 : Int32)), .val (.int (2 : Int32)), .val (.int p4), .val (.int (1 : Int32)), .val (.int (1 : Int32)), .val (.int (0 : Int32)), .val (.int x0)] [(.int ((1 : Int32) + (1 : Int32)))])
    rw [show ((1 : Int32) + (1 : Int32)) = (2 : Int32) by decide]
    show own_Run p e below _ s₁ (mkF m 20 #[.val (.ref a1), .val (.int (0 : Int32)), .val (.int (2 : Int32)), .val (.int p4), .val (.int (1 : Int32)), .val (.int (1 : Int32)), .val (.int (0 : Int32)), .val (.int x0)] [(.int (2 : Int32))])
    refine own_go (fun _ k => XS.iconst X0.here hx rfl (hb hby d8_20) k) ?_
    refine own_go (fun _ k => XS.iushr X0.here hx rfl (hb hby d8_21) rfl k) ?_
    show own_Run p e below _ s₁ (mkF m 22 #[.val (.ref a1), .val (.int (0 : Int32)), .val (.int (2 : Int32)), .val (.int p4), .val (.int (1 : Int32)), .val (.int (1 : Int32)), .val (.int (0 : Int32)), .val (.int x0)] [(.int (((2 : Int32).toUInt32 >>> ((1 : Int32) &&& 31).toUInt32).toInt32))])
    rw [show (((2 : Int32).toUInt32 >>> ((1 : Int32) &&& 31).toUInt32).toInt32) = (1 : Int32) by decide]
    show own_Run p e below _ s₁ (mkF m 22 #[.val (.ref a1), .val (.int (0 : Int32)), .val (.int (2 : Int32)), .val (.int p4), .val (.int (1 : Int32)), .val (.int (1 : Int32)), .val (.int (0 : Int32)), .val (.int x0)] [(.int (1 : Int32))])
    refine own_go (fun _ k => XS.istore X0.here hx rfl (hb hby d8_22) rfl (l' := #[.val (.ref a1), .val (.int (0 : Int32)), .val (.int (2 : Int32)), .val (.int p4), .val (.int (1 : Int32)), .val (.int (1 : Int32)), .val (.int (1 : Int32)), .val (.int x0)]) rfl k) ?_
    refine own_go (fun _ k => XS.aloadN X0.here hx rfl (hb hby d8_24) rfl rfl k) ?_
    refine own_go (fun _ k => XS.iload X0.here hx rfl (hb hby d8_25) rfl k) ?_
    show own_Run p e below _ s₁ (mkF m 27 #[.val (.ref a1), .val (.int (0 : Int32)), .val (.int (2 : Int32)), .val (.int p4), .val (.int (1 : Int32)), .val (.int (1 : Int32)), .val (.int (1 : Int32)), .val (.int x0)] [(.int (1 : Int32)), (.ref a1)])
    obtain ⟨cl85, Ar85, q85, S85, N85, H85, G85⟩ := id V_a1
    have hin85 : ¬ ((1 : Int32) < 0 ∨ cl85.slots.size ≤ ((1 : Int32)).toNatClampNeg) := inb_of S85 ⟨by decide, by decide⟩
    refine own_go (X0.iaload hx (j := (1 : Int32)) (v := (.int x1)) (by rw [e0]; exact Ar85.1) (State.isArrayOf_alike hZ.alike Ar85.2.1) Ar85.2.2 hin85 (H85.at hin85 rfl) (g := (mkF m 27 #[.val (.ref a1), .val (.int (0 : Int32)), .val (.int (2 : Int32)), .val (.int p4), .val (.int (1 : Int32)), .val (.int (1 : Int32)), .val (.int (1 : Int32)), .val (.int x0)] [(.int (1 : Int32)), (.ref a1)])) rfl rfl (hb hby d8_27)) ?_
    show own_Run p e below _ s₁ (mkF m 28 #[.val (.ref a1), .val (.int (0 : Int32)), .val (.int (2 : Int32)), .val (.int p4), .val (.int (1 : Int32)), .val (.int (1 : Int32)), .val (.int (1 : Int32)), .val (.int x0)] [(.int x1)])
    refine own_go (fun _ k => XS.istore X0.here hx rfl (hb hby d8_28) rfl (l' := #[.val (.ref a1), .val (.int (0 : Int32)), .val (.int (2 : Int32)), .val (.int p4), .val (.int (1 : Int32)), .val (.int (1 : Int32)), .val (.int (1 : Int32)), .val (.int x1)]) rfl k) ?_
    refine own_go (fun _ k => XS.iload X0.here hx rfl (hb hby d8_30) rfl k) ?_
    refine own_go (fun _ k => XS.iloadN X0.here hx rfl (hb hby d8_32) rfl k) ?_
    show own_Run p e below _ s₁ (mkF m 33 #[.val (.ref a1), .val (.int (0 : Int32)), .val (.int (2 : Int32)), .val (.int p4), .val (.int (1 : Int32)), .val (.int (1 : Int32)), .val (.int (1 : Int32)), .val (.int x1)] [(.int p4), (.int x1)])
    refine own_go (fun _ k => XS.icmpYes X0.here hx rfl (pc0 := 33) (pc' := 45) rfl (hb hby d8_33) rfl (flt (by rw [hz1]; exact Int32.lt_irrefl : ¬ (x1 < p4))).2.1 (by decide) (by decide) k) ?_
    show own_Run p e below _ s₁ (mkF m 45 #[.val (.ref a1), .val (.int (0 : Int32)), .val (.int (2 : Int32)), .val (.int p4), .val (.int (1 : Int32)), .val (.int (1 : Int32)), .val (.int (1 : Int32)), .val (.int x1)] [])
    refine own_go (fun _ k => XS.iload X0.here hx rfl (hb hby d8_45) rfl k) ?_
    refine own_go (fun _ k => XS.iloadN X0.here hx rfl (hb hby d8_47) rfl k) ?_
    show own_Run p e below _ s₁ (mkF m 48 #[.val (.ref a1), .val (.int (0 : Int32)), .val (.int (2 : Int32)), .val (.int p4), .val (.int (1 : Int32)), .val (.int (1 : Int32)), .val (.int (1 : Int32)), .val (.int x1)] [(.int p4), (.int x1)])
    refine own_go (fun _ k => XS.icmpYes X0.here hx rfl (pc0 := 48) (pc' := 60) rfl (hb hby d8_48) rfl (flt (by rw [hz1]; exact Int32.lt_irrefl : ¬ (p4 < x1))).2.2.2 (by decide) (by decide) k) ?_
    show own_Run p e below _ s₁ (mkF m 60 #[.val (.ref a1), .val (.int (0 : Int32)), .val (.int (2 : Int32)), .val (.int p4), .val (.int (1 : Int32)), .val (.int (1 : Int32)), .val (.int (1 : Int32)), .val (.int x1)] [])
    refine own_go (fun _ k => XS.iload X0.here hx rfl (hb hby d8_60) rfl k) ?_
    show own_Run p e below _ s₁ (mkF m 62 #[.val (.ref a1), .val (.int (0 : Int32)), .val (.int (2 : Int32)), .val (.int p4), .val (.int (1 : Int32)), .val (.int (1 : Int32)), .val (.int (1 : Int32)), .val (.int x1)] [(.int (1 : Int32))])
    refine own_done (Q := fun v h L => Q8n2 Z a1 p4 k1 x0 x1 x2 x3 x4 x5 x6 x7 (1 : Int32) h0 n0 v h L) (v := (some (.int (1 : Int32)))) X0 (fun h => by rw [hret] at h; cases h) hlk (fun fs hr => own_retI X0 hx hret (hb hby d8_62) hr) ?_ (by decide) (by decide)
    show Q8n2 Z a1 p4 k1 x0 x1 x2 x3 x4 x5 x6 x7 (1 : Int32) h0 n0 _ s₁.heap _
    rw [e0]
    exact ⟨rfl, N0, rfl⟩
  · show own_Run p e below _ s₁ (mkF m 0 #[.val (.ref a1), .val (.int (0 : Int32)), .val (.int (2 : Int32)), .val (.int p4), .unset, .unset, .unset, .unset] [])
    refine own_go (fun _ k => XS.iloadN X0.here hx rfl (hb hby d8_0) rfl k) ?_
    refine own_go (fun _ k => XS.istore X0.here hx rfl (hb hby d8_1) rfl (l' := #[.val (.ref a1), .val (.int (0 : Int32)), .val (.int (2 : Int32)), .val (.int p4), .val (.int (0 : Int32)), .unset, .unset, .unset]) rfl k) ?_
    refine own_go (fun _ k => XS.iloadN X0.here hx rfl (hb hby d8_3) rfl k) ?_
    refine own_go (fun _ k => XS.iconst X0.here hx rfl (hb hby d8_4) k) ?_
    show own_Run p e below _ s₁ (mkF m 5 #[.val (.ref a1), .val (.int (0 : Int32)), .val (.int (2 : Int32)), .val (.int p4), .val (.int (0 : Int32)), .unset, .unset, .unset] [(.int (1 : Int32)), (.int (2 : Int32))])
    refine own_go (fun _ k => XS.isub X0.here hx rfl (hb hby d8_5) rfl k) ?_
    show own_Run p e below _ s₁ (mkF m 6 #[.val (.ref a1), .val (.int (0 : Int32)), .val (.int (2 : Int32)), .val (.int p4), .val (.int (0 : Int32)), .unset, .unset, .unset] [(.int ((2 : Int32) - (1 : Int32)))])
    rw [show ((2 : Int32) - (1 : Int32)) = (1 : Int32) by decide]
    show own_Run p e below _ s₁ (mkF m 6 #[.val (.ref a1), .val (.int (0 : Int32)), .val (.int (2 : Int32)), .val (.int p4), .val (.int (0 : Int32)), .unset, .unset, .unset] [(.int (1 : Int32))])
    refine own_go (fun _ k => XS.istore X0.here hx rfl (hb hby d8_6) rfl (l' := #[.val (.ref a1), .val (.int (0 : Int32)), .val (.int (2 : Int32)), .val (.int p4), .val (.int (0 : Int32)), .val (.int (1 : Int32)), .unset, .unset]) rfl k) ?_
    refine own_go (fun _ k => XS.iload X0.here hx rfl (hb hby d8_8) rfl k) ?_
    refine own_go (fun _ k => XS.iload X0.here hx rfl (hb hby d8_10) rfl k) ?_
    show own_Run p e below _ s₁ (mkF m 12 #[.val (.ref a1), .val (.int (0 : Int32)), .val (.int (2 : Int32)), .val (.int p4), .val (.int (0 : Int32)), .val (.int (1 : Int32)), .unset, .unset] [(.int (1 : Int32)), (.int (0 : Int32))])
    refine own_go (fun _ k => XS.icmpNo X0.here hx rfl (hb hby d8_12) rfl (flt (by decide : ¬ ((1 : Int32) < (0 : Int32)))).2.2.1 k) ?_
    show own_Run p e below _ s₁ (mkF m 15 #[.val (.ref a1), .val (.int (0 : Int32)), .val (.int (2 : Int32)), .val (.int p4), .val (.int (0 : Int32)), .val (.int (1 : Int32)), .unset, .unset] [])
    refine own_go (fun _ k => XS.iload X0.here hx rfl (hb hby d8_15) rfl k) ?_
    refine own_go (fun _ k => XS.iload X0.here hx rfl (hb hby d8_17) rfl k) ?_
    refine own_go (fun _ k => XS.iadd X0.here hx rfl (hb hby d8_19) rfl k) ?_
    show own_Run p e below _ s₁ (mkF m 20 #[.val (.ref a1), .val (.int (0 : Int32)), .val (.int (2 : Int32)), .val (.int p4), .val (.int (0 : Int32)), .val (.int (1 : Int32)), .unset, .unset] [(.int ((0 : Int32) + (1 : Int32)))])
    rw [show ((0 : Int32) + (1 : Int32)) = (1 : Int32) by decide]
    show own_Run p e below _ s₁ (mkF m 20 #[.val (.ref a1), .val (.int (0 : Int32)), .val (.int (2 : Int32)), .val (.int p4), .val (.int (0 : Int32)), .val (.int (1 : Int32)), .unset, .unset] [(.int (1 : Int32))])
    refine own_go (fun _ k => XS.iconst X0.here hx rfl (hb hby d8_20) k) ?_
    refine own_go (fun _ k => XS.iushr X0.here hx rfl (hb hby d8_21) rfl k) ?_
    show own_Run p e below _ s₁ (mkF m 22 #[.val (.ref a1), .val (.int (0 : Int32)), .val (.int (2 : Int32)), .val (.int p4), .val (.int (0 : Int32)), .val (.int (1 : Int32)), .unset, .unset] [(.int (((1 : Int32).toUInt32 >>> ((1 : Int32) &&& 31).toUInt32).toInt32))])
    rw [show (((1 : Int32).toUInt32 >>> ((1 : Int32) &&& 31).toUInt32).toInt32) = (0 : Int32) by decide]
    show own_Run p e below _ s₁ (mkF m 22 #[.val (.ref a1), .val (.int (0 : Int32)), .val (.int (2 : Int32)), .val (.int p4), .val (.int (0 : Int32)), .val (.int (1 : Int32)), .unset, .unset] [(.int (0 : Int32))])
    refine own_go (fun _ k => XS.istore X0.here hx rfl (hb hby d8_22) rfl (l' := #[.val (.ref a1), .val (.int (0 : Int32)), .val (.int (2 : Int32)), .val (.int p4), .val (.int (0 : Int32)), .val (.int (1 : Int32)), .val (.int (0 : Int32)), .unset]) rfl k) ?_
    refine own_go (fun _ k => XS.aloadN X0.here hx rfl (hb hby d8_24) rfl rfl k) ?_
    refine own_go (fun _ k => XS.iload X0.here hx rfl (hb hby d8_25) rfl k) ?_
    show own_Run p e below _ s₁ (mkF m 27 #[.val (.ref a1), .val (.int (0 : Int32)), .val (.int (2 : Int32)), .val (.int p4), .val (.int (0 : Int32)), .val (.int (1 : Int32)), .val (.int (0 : Int32)), .unset] [(.int (0 : Int32)), (.ref a1)])
    obtain ⟨cl86, Ar86, q86, S86, N86, H86, G86⟩ := id V_a1
    have hin86 : ¬ ((0 : Int32) < 0 ∨ cl86.slots.size ≤ ((0 : Int32)).toNatClampNeg) := inb_of S86 ⟨by decide, by decide⟩
    refine own_go (X0.iaload hx (j := (0 : Int32)) (v := (.int x0)) (by rw [e0]; exact Ar86.1) (State.isArrayOf_alike hZ.alike Ar86.2.1) Ar86.2.2 hin86 (H86.at hin86 rfl) (g := (mkF m 27 #[.val (.ref a1), .val (.int (0 : Int32)), .val (.int (2 : Int32)), .val (.int p4), .val (.int (0 : Int32)), .val (.int (1 : Int32)), .val (.int (0 : Int32)), .unset] [(.int (0 : Int32)), (.ref a1)])) rfl rfl (hb hby d8_27)) ?_
    show own_Run p e below _ s₁ (mkF m 28 #[.val (.ref a1), .val (.int (0 : Int32)), .val (.int (2 : Int32)), .val (.int p4), .val (.int (0 : Int32)), .val (.int (1 : Int32)), .val (.int (0 : Int32)), .unset] [(.int x0)])
    refine own_go (fun _ k => XS.istore X0.here hx rfl (hb hby d8_28) rfl (l' := #[.val (.ref a1), .val (.int (0 : Int32)), .val (.int (2 : Int32)), .val (.int p4), .val (.int (0 : Int32)), .val (.int (1 : Int32)), .val (.int (0 : Int32)), .val (.int x0)]) rfl k) ?_
    refine own_go (fun _ k => XS.iload X0.here hx rfl (hb hby d8_30) rfl k) ?_
    refine own_go (fun _ k => XS.iloadN X0.here hx rfl (hb hby d8_32) rfl k) ?_
    show own_Run p e below _ s₁ (mkF m 33 #[.val (.ref a1), .val (.int (0 : Int32)), .val (.int (2 : Int32)), .val (.int p4), .val (.int (0 : Int32)), .val (.int (1 : Int32)), .val (.int (0 : Int32)), .val (.int x0)] [(.int p4), (.int x0)])
    refine own_go (fun _ k => XS.icmpNo X0.here hx rfl (hb hby d8_33) rfl (tlt hz0).2.1 k) ?_
    show own_Run p e below _ s₁ (mkF m 36 #[.val (.ref a1), .val (.int (0 : Int32)), .val (.int (2 : Int32)), .val (.int p4), .val (.int (0 : Int32)), .val (.int (1 : Int32)), .val (.int (0 : Int32)), .val (.int x0)] [])
    refine own_go (fun _ k => XS.iload X0.here hx rfl (hb hby d8_36) rfl k) ?_
    refine own_go (fun _ k => XS.iconst X0.here hx rfl (hb hby d8_38) k) ?_
    refine own_go (fun _ k => XS.iadd X0.here hx rfl (hb hby d8_39) rfl k) ?_
    show own_Run p e below _ s₁ (mkF m 40 #[.val (.ref a1), .val (.int (0 : Int32)), .val (.int (2 : Int32)), .val (.int p4), .val (.int (0 : Int32)), .val (.int (1 : Int32)), .val (.int (0 : Int32)), .val (.int x0)] [(.int ((0 : Int32) + (1 : Int32)))])
    rw [show ((0 : Int32) + (1 : Int32)) = (1 : Int32) by decide]
    show own_Run p e below _ s₁ (mkF m 40 #[.val (.ref a1), .val (.int (0 : Int32)), .val (.int (2 : Int32)), .val (.int p4), .val (.int (0 : Int32)), .val (.int (1 : Int32)), .val (.int (0 : Int32)), .val (.int x0)] [(.int (1 : Int32))])
    refine own_go (fun _ k => XS.istore X0.here hx rfl (hb hby d8_40) rfl (l' := #[.val (.ref a1), .val (.int (0 : Int32)), .val (.int (2 : Int32)), .val (.int p4), .val (.int (1 : Int32)), .val (.int (1 : Int32)), .val (.int (0 : Int32)), .val (.int x0)]) rfl k) ?_
    refine own_go (fun _ k => XS.goto X0.here hx rfl (pc0 := 42) (pc' := 63) rfl (hb hby d8_42) (by decide) (by decide) k) ?_
    refine own_go (fun _ k => XS.goto X0.here hx rfl (pc0 := 63) (pc' := 8) rfl (hb hby d8_63) (by decide) (by decide) k) ?_
    refine own_go (fun _ k => XS.iload X0.here hx rfl (hb hby d8_8) rfl k) ?_
    show own_Run p e below _ s₁ (mkF m 10 #[.val (.ref a1), .val (.int (0 : Int32)), .val (.int (2 : Int32)), .val (.int p4), .val (.int (1 : Int32)), .val (.int (1 : Int32)), .val (.int (0 : Int32)), .val (.int x0)] [(.int (1 : Int32))])
    refine own_go (fun _ k => XS.iload X0.here hx rfl (hb hby d8_10) rfl k) ?_
    show own_Run p e below _ s₁ (mkF m 12 #[.val (.ref a1), .val (.int (0 : Int32)), .val (.int (2 : Int32)), .val (.int p4), .val (.int (1 : Int32)), .val (.int (1 : Int32)), .val (.int (0 : Int32)), .val (.int x0)] [(.int (1 : Int32)), (.int (1 : Int32))])
    refine own_go (fun _ k => XS.icmpNo X0.here hx rfl (hb hby d8_12) rfl (flt (by decide : ¬ ((1 : Int32) < (1 : Int32)))).2.2.1 k) ?_
    show own_Run p e below _ s₁ (mkF m 15 #[.val (.ref a1), .val (.int (0 : Int32)), .val (.int (2 : Int32)), .val (.int p4), .val (.int (1 : Int32)), .val (.int (1 : Int32)), .val (.int (0 : Int32)), .val (.int x0)] [])
    refine own_go (fun _ k => XS.iload X0.here hx rfl (hb hby d8_15) rfl k) ?_
    refine own_go (fun _ k => XS.iload X0.here hx rfl (hb hby d8_17) rfl k) ?_
    refine own_go (fun _ k => XS.iadd X0.here hx rfl (hb hby d8_19) rfl k) ?_
    show own_Run p e below _ s₁ (mkF m 20 #[.val (.ref a1), .val (.int (0 : Int32)), .val (.int (2 : Int32)), .val (.int p4), .val (.int (1 : Int32)), .val (.int (1 : Int32)), .val (.int (0 : Int32)), .val (.int x0)] [(.int ((1 : Int32) + (1 : Int32)))])
    rw [show ((1 : Int32) + (1 : Int32)) = (2 : Int32) by decide]
    show own_Run p e below _ s₁ (mkF m 20 #[.val (.ref a1), .val (.int (0 : Int32)), .val (.int (2 : Int32)), .val (.int p4), .val (.int (1 : Int32)), .val (.int (1 : Int32)), .val (.int (0 : Int32)), .val (.int x0)] [(.int (2 : Int32))])
    refine own_go (fun _ k => XS.iconst X0.here hx rfl (hb hby d8_20) k) ?_
    refine own_go (fun _ k => XS.iushr X0.here hx rfl (hb hby d8_21) rfl k) ?_
    show own_Run p e below _ s₁ (mkF m 22 #[.val (.ref a1), .val (.int (0 : Int32)), .val (.int (2 : Int32)), .val (.int p4), .val (.int (1 : Int32)), .val (.int (1 : Int32)), .val (.int (0 : Int32)), .val (.int x0)] [(.int (((2 : Int32).toUInt32 >>> ((1 : Int32) &&& 31).toUInt32).toInt32))])
    rw [show (((2 : Int32).toUInt32 >>> ((1 : Int32) &&& 31).toUInt32).toInt32) = (1 : Int32) by decide]
    show own_Run p e below _ s₁ (mkF m 22 #[.val (.ref a1), .val (.int (0 : Int32)), .val (.int (2 : Int32)), .val (.int p4), .val (.int (1 : Int32)), .val (.int (1 : Int32)), .val (.int (0 : Int32)), .val (.int x0)] [(.int (1 : Int32))])
    refine own_go (fun _ k => XS.istore X0.here hx rfl (hb hby d8_22) rfl (l' := #[.val (.ref a1), .val (.int (0 : Int32)), .val (.int (2 : Int32)), .val (.int p4), .val (.int (1 : Int32)), .val (.int (1 : Int32)), .val (.int (1 : Int32)), .val (.int x0)]) rfl k) ?_
    refine own_go (fun _ k => XS.aloadN X0.here hx rfl (hb hby d8_24) rfl rfl k) ?_
    refine own_go (fun _ k => XS.iload X0.here hx rfl (hb hby d8_25) rfl k) ?_
    show own_Run p e below _ s₁ (mkF m 27 #[.val (.ref a1), .val (.int (0 : Int32)), .val (.int (2 : Int32)), .val (.int p4), .val (.int (1 : Int32)), .val (.int (1 : Int32)), .val (.int (1 : Int32)), .val (.int x0)] [(.int (1 : Int32)), (.ref a1)])
    obtain ⟨cl87, Ar87, q87, S87, N87, H87, G87⟩ := id V_a1
    have hin87 : ¬ ((1 : Int32) < 0 ∨ cl87.slots.size ≤ ((1 : Int32)).toNatClampNeg) := inb_of S87 ⟨by decide, by decide⟩
    refine own_go (X0.iaload hx (j := (1 : Int32)) (v := (.int x1)) (by rw [e0]; exact Ar87.1) (State.isArrayOf_alike hZ.alike Ar87.2.1) Ar87.2.2 hin87 (H87.at hin87 rfl) (g := (mkF m 27 #[.val (.ref a1), .val (.int (0 : Int32)), .val (.int (2 : Int32)), .val (.int p4), .val (.int (1 : Int32)), .val (.int (1 : Int32)), .val (.int (1 : Int32)), .val (.int x0)] [(.int (1 : Int32)), (.ref a1)])) rfl rfl (hb hby d8_27)) ?_
    show own_Run p e below _ s₁ (mkF m 28 #[.val (.ref a1), .val (.int (0 : Int32)), .val (.int (2 : Int32)), .val (.int p4), .val (.int (1 : Int32)), .val (.int (1 : Int32)), .val (.int (1 : Int32)), .val (.int x0)] [(.int x1)])
    refine own_go (fun _ k => XS.istore X0.here hx rfl (hb hby d8_28) rfl (l' := #[.val (.ref a1), .val (.int (0 : Int32)), .val (.int (2 : Int32)), .val (.int p4), .val (.int (1 : Int32)), .val (.int (1 : Int32)), .val (.int (1 : Int32)), .val (.int x1)]) rfl k) ?_
    refine own_go (fun _ k => XS.iload X0.here hx rfl (hb hby d8_30) rfl k) ?_
    refine own_go (fun _ k => XS.iloadN X0.here hx rfl (hb hby d8_32) rfl k) ?_
    show own_Run p e below _ s₁ (mkF m 33 #[.val (.ref a1), .val (.int (0 : Int32)), .val (.int (2 : Int32)), .val (.int p4), .val (.int (1 : Int32)), .val (.int (1 : Int32)), .val (.int (1 : Int32)), .val (.int x1)] [(.int p4), (.int x1)])
    refine own_go (fun _ k => XS.icmpYes X0.here hx rfl (pc0 := 33) (pc' := 45) rfl (hb hby d8_33) rfl (flt (own_asym hz1 : ¬ (x1 < p4))).2.1 (by decide) (by decide) k) ?_
    show own_Run p e below _ s₁ (mkF m 45 #[.val (.ref a1), .val (.int (0 : Int32)), .val (.int (2 : Int32)), .val (.int p4), .val (.int (1 : Int32)), .val (.int (1 : Int32)), .val (.int (1 : Int32)), .val (.int x1)] [])
    refine own_go (fun _ k => XS.iload X0.here hx rfl (hb hby d8_45) rfl k) ?_
    refine own_go (fun _ k => XS.iloadN X0.here hx rfl (hb hby d8_47) rfl k) ?_
    show own_Run p e below _ s₁ (mkF m 48 #[.val (.ref a1), .val (.int (0 : Int32)), .val (.int (2 : Int32)), .val (.int p4), .val (.int (1 : Int32)), .val (.int (1 : Int32)), .val (.int (1 : Int32)), .val (.int x1)] [(.int p4), (.int x1)])
    refine own_go (fun _ k => XS.icmpNo X0.here hx rfl (hb hby d8_48) rfl (tlt hz1).2.2.2 k) ?_
    show own_Run p e below _ s₁ (mkF m 51 #[.val (.ref a1), .val (.int (0 : Int32)), .val (.int (2 : Int32)), .val (.int p4), .val (.int (1 : Int32)), .val (.int (1 : Int32)), .val (.int (1 : Int32)), .val (.int x1)] [])
    refine own_go (fun _ k => XS.iload X0.here hx rfl (hb hby d8_51) rfl k) ?_
    refine own_go (fun _ k => XS.iconst X0.here hx rfl (hb hby d8_53) k) ?_
    refine own_go (fun _ k => XS.isub X0.here hx rfl (hb hby d8_54) rfl k) ?_
    show own_Run p e below _ s₁ (mkF m 55 #[.val (.ref a1), .val (.int (0 : Int32)), .val (.int (2 : Int32)), .val (.int p4), .val (.int (1 : Int32)), .val (.int (1 : Int32)), .val (.int (1 : Int32)), .val (.int x1)] [(.int ((1 : Int32) - (1 : Int32)))])
    rw [show ((1 : Int32) - (1 : Int32)) = (0 : Int32) by decide]
    show own_Run p e below _ s₁ (mkF m 55 #[.val (.ref a1), .val (.int (0 : Int32)), .val (.int (2 : Int32)), .val (.int p4), .val (.int (1 : Int32)), .val (.int (1 : Int32)), .val (.int (1 : Int32)), .val (.int x1)] [(.int (0 : Int32))])
    refine own_go (fun _ k => XS.istore X0.here hx rfl (hb hby d8_55) rfl (l' := #[.val (.ref a1), .val (.int (0 : Int32)), .val (.int (2 : Int32)), .val (.int p4), .val (.int (1 : Int32)), .val (.int (0 : Int32)), .val (.int (1 : Int32)), .val (.int x1)]) rfl k) ?_
    refine own_go (fun _ k => XS.goto X0.here hx rfl (pc0 := 57) (pc' := 63) rfl (hb hby d8_57) (by decide) (by decide) k) ?_
    refine own_go (fun _ k => XS.goto X0.here hx rfl (pc0 := 63) (pc' := 8) rfl (hb hby d8_63) (by decide) (by decide) k) ?_
    refine own_go (fun _ k => XS.iload X0.here hx rfl (hb hby d8_8) rfl k) ?_
    show own_Run p e below _ s₁ (mkF m 10 #[.val (.ref a1), .val (.int (0 : Int32)), .val (.int (2 : Int32)), .val (.int p4), .val (.int (1 : Int32)), .val (.int (0 : Int32)), .val (.int (1 : Int32)), .val (.int x1)] [(.int (1 : Int32))])
    refine own_go (fun _ k => XS.iload X0.here hx rfl (hb hby d8_10) rfl k) ?_
    show own_Run p e below _ s₁ (mkF m 12 #[.val (.ref a1), .val (.int (0 : Int32)), .val (.int (2 : Int32)), .val (.int p4), .val (.int (1 : Int32)), .val (.int (0 : Int32)), .val (.int (1 : Int32)), .val (.int x1)] [(.int (0 : Int32)), (.int (1 : Int32))])
    refine own_go (fun _ k => XS.icmpYes X0.here hx rfl (pc0 := 12) (pc' := 66) rfl (hb hby d8_12) rfl (tlt (by decide : (0 : Int32) < (1 : Int32))).2.2.1 (by decide) (by decide) k) ?_
    show own_Run p e below _ s₁ (mkF m 66 #[.val (.ref a1), .val (.int (0 : Int32)), .val (.int (2 : Int32)), .val (.int p4), .val (.int (1 : Int32)), .val (.int (0 : Int32)), .val (.int (1 : Int32)), .val (.int x1)] [])
    refine own_go (fun _ k => XS.iload X0.here hx rfl (hb hby d8_66) rfl k) ?_
    refine own_go (fun _ k => XS.iconst X0.here hx rfl (hb hby d8_68) k) ?_
    refine own_go (fun _ k => XS.iadd X0.here hx rfl (hb hby d8_69) rfl k) ?_
    show own_Run p e below _ s₁ (mkF m 70 #[.val (.ref a1), .val (.int (0 : Int32)), .val (.int (2 : Int32)), .val (.int p4), .val (.int (1 : Int32)), .val (.int (0 : Int32)), .val (.int (1 : Int32)), .val (.int x1)] [(.int ((1 : Int32) + (1 : Int32)))])
    rw [show ((1 : Int32) + (1 : Int32)) = (2 : Int32) by decide]
    show own_Run p e below _ s₁ (mkF m 70 #[.val (.ref a1), .val (.int (0 : Int32)), .val (.int (2 : Int32)), .val (.int p4), .val (.int (1 : Int32)), .val (.int (0 : Int32)), .val (.int (1 : Int32)), .val (.int x1)] [(.int (2 : Int32))])
    refine own_go (fun _ k => XS.ineg X0.here hx rfl (hb hby d8_70) rfl k) ?_
    show own_Run p e below _ s₁ (mkF m 71 #[.val (.ref a1), .val (.int (0 : Int32)), .val (.int (2 : Int32)), .val (.int p4), .val (.int (1 : Int32)), .val (.int (0 : Int32)), .val (.int (1 : Int32)), .val (.int x1)] [(.int (-(2 : Int32)))])
    rw [show (-(2 : Int32)) = (-2 : Int32) by decide]
    show own_Run p e below _ s₁ (mkF m 71 #[.val (.ref a1), .val (.int (0 : Int32)), .val (.int (2 : Int32)), .val (.int p4), .val (.int (1 : Int32)), .val (.int (0 : Int32)), .val (.int (1 : Int32)), .val (.int x1)] [(.int (-2 : Int32))])
    refine own_done (Q := fun v h L => Q8n2 Z a1 p4 k1 x0 x1 x2 x3 x4 x5 x6 x7 (-2 : Int32) h0 n0 v h L) (v := (some (.int (-2 : Int32)))) X0 (fun h => by rw [hret] at h; cases h) hlk (fun fs hr => own_retI X0 hx hret (hb hby d8_71) hr) ?_ (by decide) (by decide)
    show Q8n2 Z a1 p4 k1 x0 x1 x2 x3 x4 x5 x6 x7 (-2 : Int32) h0 n0 _ s₁.heap _
    rw [e0]
    exact ⟨rfl, N0, rfl⟩
  · show own_Run p e below _ s₁ (mkF m 0 #[.val (.ref a1), .val (.int (0 : Int32)), .val (.int (2 : Int32)), .val (.int p4), .unset, .unset, .unset, .unset] [])
    refine own_go (fun _ k => XS.iloadN X0.here hx rfl (hb hby d8_0) rfl k) ?_
    refine own_go (fun _ k => XS.istore X0.here hx rfl (hb hby d8_1) rfl (l' := #[.val (.ref a1), .val (.int (0 : Int32)), .val (.int (2 : Int32)), .val (.int p4), .val (.int (0 : Int32)), .unset, .unset, .unset]) rfl k) ?_
    refine own_go (fun _ k => XS.iloadN X0.here hx rfl (hb hby d8_3) rfl k) ?_
    refine own_go (fun _ k => XS.iconst X0.here hx rfl (hb hby d8_4) k) ?_
    show own_Run p e below _ s₁ (mkF m 5 #[.val (.ref a1), .val (.int (0 : Int32)), .val (.int (2 : Int32)), .val (.int p4), .val (.int (0 : Int32)), .unset, .unset, .unset] [(.int (1 : Int32)), (.int (2 : Int32))])
    refine own_go (fun _ k => XS.isub X0.here hx rfl (hb hby d8_5) rfl k) ?_
    show own_Run p e below _ s₁ (mkF m 6 #[.val (.ref a1), .val (.int (0 : Int32)), .val (.int (2 : Int32)), .val (.int p4), .val (.int (0 : Int32)), .unset, .unset, .unset] [(.int ((2 : Int32) - (1 : Int32)))])
    rw [show ((2 : Int32) - (1 : Int32)) = (1 : Int32) by decide]
    show own_Run p e below _ s₁ (mkF m 6 #[.val (.ref a1), .val (.int (0 : Int32)), .val (.int (2 : Int32)), .val (.int p4), .val (.int (0 : Int32)), .unset, .unset, .unset] [(.int (1 : Int32))])
    refine own_go (fun _ k => XS.istore X0.here hx rfl (hb hby d8_6) rfl (l' := #[.val (.ref a1), .val (.int (0 : Int32)), .val (.int (2 : Int32)), .val (.int p4), .val (.int (0 : Int32)), .val (.int (1 : Int32)), .unset, .unset]) rfl k) ?_
    refine own_go (fun _ k => XS.iload X0.here hx rfl (hb hby d8_8) rfl k) ?_
    refine own_go (fun _ k => XS.iload X0.here hx rfl (hb hby d8_10) rfl k) ?_
    show own_Run p e below _ s₁ (mkF m 12 #[.val (.ref a1), .val (.int (0 : Int32)), .val (.int (2 : Int32)), .val (.int p4), .val (.int (0 : Int32)), .val (.int (1 : Int32)), .unset, .unset] [(.int (1 : Int32)), (.int (0 : Int32))])
    refine own_go (fun _ k => XS.icmpNo X0.here hx rfl (hb hby d8_12) rfl (flt (by decide : ¬ ((1 : Int32) < (0 : Int32)))).2.2.1 k) ?_
    show own_Run p e below _ s₁ (mkF m 15 #[.val (.ref a1), .val (.int (0 : Int32)), .val (.int (2 : Int32)), .val (.int p4), .val (.int (0 : Int32)), .val (.int (1 : Int32)), .unset, .unset] [])
    refine own_go (fun _ k => XS.iload X0.here hx rfl (hb hby d8_15) rfl k) ?_
    refine own_go (fun _ k => XS.iload X0.here hx rfl (hb hby d8_17) rfl k) ?_
    refine own_go (fun _ k => XS.iadd X0.here hx rfl (hb hby d8_19) rfl k) ?_
    show own_Run p e below _ s₁ (mkF m 20 #[.val (.ref a1), .val (.int (0 : Int32)), .val (.int (2 : Int32)), .val (.int p4), .val (.int (0 : Int32)), .val (.int (1 : Int32)), .unset, .unset] [(.int ((0 : Int32) + (1 : Int32)))])
    rw [show ((0 : Int32) + (1 : Int32)) = (1 : Int32) by decide]
    show own_Run p e below _ s₁ (mkF m 20 #[.val (.ref a1), .val (.int (0 : Int32)), .val (.int (2 : Int32)), .val (.int p4), .val (.int (0 : Int32)), .val (.int (1 : Int32)), .unset, .unset] [(.int (1 : Int32))])
    refine own_go (fun _ k => XS.iconst X0.here hx rfl (hb hby d8_20) k) ?_
    refine own_go (fun _ k => XS.iushr X0.here hx rfl (hb hby d8_21) rfl k) ?_
    show own_Run p e below _ s₁ (mkF m 22 #[.val (.ref a1), .val (.int (0 : Int32)), .val (.int (2 : Int32)), .val (.int p4), .val (.int (0 : Int32)), .val (.int (1 : Int32)), .unset, .unset] [(.int (((1 : Int32).toUInt32 >>> ((1 : Int32) &&& 31).toUInt32).toInt32))])
    rw [show (((1 : Int32).toUInt32 >>> ((1 : Int32) &&& 31).toUInt32).toInt32) = (0 : Int32) by decide]
    show own_Run p e below _ s₁ (mkF m 22 #[.val (.ref a1), .val (.int (0 : Int32)), .val (.int (2 : Int32)), .val (.int p4), .val (.int (0 : Int32)), .val (.int (1 : Int32)), .unset, .unset] [(.int (0 : Int32))])
    refine own_go (fun _ k => XS.istore X0.here hx rfl (hb hby d8_22) rfl (l' := #[.val (.ref a1), .val (.int (0 : Int32)), .val (.int (2 : Int32)), .val (.int p4), .val (.int (0 : Int32)), .val (.int (1 : Int32)), .val (.int (0 : Int32)), .unset]) rfl k) ?_
    refine own_go (fun _ k => XS.aloadN X0.here hx rfl (hb hby d8_24) rfl rfl k) ?_
    refine own_go (fun _ k => XS.iload X0.here hx rfl (hb hby d8_25) rfl k) ?_
    show own_Run p e below _ s₁ (mkF m 27 #[.val (.ref a1), .val (.int (0 : Int32)), .val (.int (2 : Int32)), .val (.int p4), .val (.int (0 : Int32)), .val (.int (1 : Int32)), .val (.int (0 : Int32)), .unset] [(.int (0 : Int32)), (.ref a1)])
    obtain ⟨cl88, Ar88, q88, S88, N88, H88, G88⟩ := id V_a1
    have hin88 : ¬ ((0 : Int32) < 0 ∨ cl88.slots.size ≤ ((0 : Int32)).toNatClampNeg) := inb_of S88 ⟨by decide, by decide⟩
    refine own_go (X0.iaload hx (j := (0 : Int32)) (v := (.int x0)) (by rw [e0]; exact Ar88.1) (State.isArrayOf_alike hZ.alike Ar88.2.1) Ar88.2.2 hin88 (H88.at hin88 rfl) (g := (mkF m 27 #[.val (.ref a1), .val (.int (0 : Int32)), .val (.int (2 : Int32)), .val (.int p4), .val (.int (0 : Int32)), .val (.int (1 : Int32)), .val (.int (0 : Int32)), .unset] [(.int (0 : Int32)), (.ref a1)])) rfl rfl (hb hby d8_27)) ?_
    show own_Run p e below _ s₁ (mkF m 28 #[.val (.ref a1), .val (.int (0 : Int32)), .val (.int (2 : Int32)), .val (.int p4), .val (.int (0 : Int32)), .val (.int (1 : Int32)), .val (.int (0 : Int32)), .unset] [(.int x0)])
    refine own_go (fun _ k => XS.istore X0.here hx rfl (hb hby d8_28) rfl (l' := #[.val (.ref a1), .val (.int (0 : Int32)), .val (.int (2 : Int32)), .val (.int p4), .val (.int (0 : Int32)), .val (.int (1 : Int32)), .val (.int (0 : Int32)), .val (.int x0)]) rfl k) ?_
    refine own_go (fun _ k => XS.iload X0.here hx rfl (hb hby d8_30) rfl k) ?_
    refine own_go (fun _ k => XS.iloadN X0.here hx rfl (hb hby d8_32) rfl k) ?_
    show own_Run p e below _ s₁ (mkF m 33 #[.val (.ref a1), .val (.int (0 : Int32)), .val (.int (2 : Int32)), .val (.int p4), .val (.int (0 : Int32)), .val (.int (1 : Int32)), .val (.int (0 : Int32)), .val (.int x0)] [(.int p4), (.int x0)])
    refine own_go (fun _ k => XS.icmpNo X0.here hx rfl (hb hby d8_33) rfl (tlt hz0).2.1 k) ?_
    show own_Run p e below _ s₁ (mkF m 36 #[.val (.ref a1), .val (.int (0 : Int32)), .val (.int (2 : Int32)), .val (.int p4), .val (.int (0 : Int32)), .val (.int (1 : Int32)), .val (.int (0 : Int32)), .val (.int x0)] [])
    refine own_go (fun _ k => XS.iload X0.here hx rfl (hb hby d8_36) rfl k) ?_
    refine own_go (fun _ k => XS.iconst X0.here hx rfl (hb hby d8_38) k) ?_
    refine own_go (fun _ k => XS.iadd X0.here hx rfl (hb hby d8_39) rfl k) ?_
    show own_Run p e below _ s₁ (mkF m 40 #[.val (.ref a1), .val (.int (0 : Int32)), .val (.int (2 : Int32)), .val (.int p4), .val (.int (0 : Int32)), .val (.int (1 : Int32)), .val (.int (0 : Int32)), .val (.int x0)] [(.int ((0 : Int32) + (1 : Int32)))])
    rw [show ((0 : Int32) + (1 : Int32)) = (1 : Int32) by decide]
    show own_Run p e below _ s₁ (mkF m 40 #[.val (.ref a1), .val (.int (0 : Int32)), .val (.int (2 : Int32)), .val (.int p4), .val (.int (0 : Int32)), .val (.int (1 : Int32)), .val (.int (0 : Int32)), .val (.int x0)] [(.int (1 : Int32))])
    refine own_go (fun _ k => XS.istore X0.here hx rfl (hb hby d8_40) rfl (l' := #[.val (.ref a1), .val (.int (0 : Int32)), .val (.int (2 : Int32)), .val (.int p4), .val (.int (1 : Int32)), .val (.int (1 : Int32)), .val (.int (0 : Int32)), .val (.int x0)]) rfl k) ?_
    refine own_go (fun _ k => XS.goto X0.here hx rfl (pc0 := 42) (pc' := 63) rfl (hb hby d8_42) (by decide) (by decide) k) ?_
    refine own_go (fun _ k => XS.goto X0.here hx rfl (pc0 := 63) (pc' := 8) rfl (hb hby d8_63) (by decide) (by decide) k) ?_
    refine own_go (fun _ k => XS.iload X0.here hx rfl (hb hby d8_8) rfl k) ?_
    show own_Run p e below _ s₁ (mkF m 10 #[.val (.ref a1), .val (.int (0 : Int32)), .val (.int (2 : Int32)), .val (.int p4), .val (.int (1 : Int32)), .val (.int (1 : Int32)), .val (.int (0 : Int32)), .val (.int x0)] [(.int (1 : Int32))])
    refine own_go (fun _ k => XS.iload X0.here hx rfl (hb hby d8_10) rfl k) ?_
    show own_Run p e below _ s₁ (mkF m 12 #[.val (.ref a1), .val (.int (0 : Int32)), .val (.int (2 : Int32)), .val (.int p4), .val (.int (1 : Int32)), .val (.int (1 : Int32)), .val (.int (0 : Int32)), .val (.int x0)] [(.int (1 : Int32)), (.int (1 : Int32))])
    refine own_go (fun _ k => XS.icmpNo X0.here hx rfl (hb hby d8_12) rfl (flt (by decide : ¬ ((1 : Int32) < (1 : Int32)))).2.2.1 k) ?_
    show own_Run p e below _ s₁ (mkF m 15 #[.val (.ref a1), .val (.int (0 : Int32)), .val (.int (2 : Int32)), .val (.int p4), .val (.int (1 : Int32)), .val (.int (1 : Int32)), .val (.int (0 : Int32)), .val (.int x0)] [])
    refine own_go (fun _ k => XS.iload X0.here hx rfl (hb hby d8_15) rfl k) ?_
    refine own_go (fun _ k => XS.iload X0.here hx rfl (hb hby d8_17) rfl k) ?_
    refine own_go (fun _ k => XS.iadd X0.here hx rfl (hb hby d8_19) rfl k) ?_
    show own_Run p e below _ s₁ (mkF m 20 #[.val (.ref a1), .val (.int (0 : Int32)), .val (.int (2 : Int32)), .val (.int p4), .val (.int (1 : Int32)), .val (.int (1 : Int32)), .val (.int (0 : Int32)), .val (.int x0)] [(.int ((1 : Int32) + (1 : Int32)))])
    rw [show ((1 : Int32) + (1 : Int32)) = (2 : Int32) by decide]
    show own_Run p e below _ s₁ (mkF m 20 #[.val (.ref a1), .val (.int (0 : Int32)), .val (.int (2 : Int32)), .val (.int p4), .val (.int (1 : Int32)), .val (.int (1 : Int32)), .val (.int (0 : Int32)), .val (.int x0)] [(.int (2 : Int32))])
    refine own_go (fun _ k => XS.iconst X0.here hx rfl (hb hby d8_20) k) ?_
    refine own_go (fun _ k => XS.iushr X0.here hx rfl (hb hby d8_21) rfl k) ?_
    show own_Run p e below _ s₁ (mkF m 22 #[.val (.ref a1), .val (.int (0 : Int32)), .val (.int (2 : Int32)), .val (.int p4), .val (.int (1 : Int32)), .val (.int (1 : Int32)), .val (.int (0 : Int32)), .val (.int x0)] [(.int (((2 : Int32).toUInt32 >>> ((1 : Int32) &&& 31).toUInt32).toInt32))])
    rw [show (((2 : Int32).toUInt32 >>> ((1 : Int32) &&& 31).toUInt32).toInt32) = (1 : Int32) by decide]
    show own_Run p e below _ s₁ (mkF m 22 #[.val (.ref a1), .val (.int (0 : Int32)), .val (.int (2 : Int32)), .val (.int p4), .val (.int (1 : Int32)), .val (.int (1 : Int32)), .val (.int (0 : Int32)), .val (.int x0)] [(.int (1 : Int32))])
    refine own_go (fun _ k => XS.istore X0.here hx rfl (hb hby d8_22) rfl (l' := #[.val (.ref a1), .val (.int (0 : Int32)), .val (.int (2 : Int32)), .val (.int p4), .val (.int (1 : Int32)), .val (.int (1 : Int32)), .val (.int (1 : Int32)), .val (.int x0)]) rfl k) ?_
    refine own_go (fun _ k => XS.aloadN X0.here hx rfl (hb hby d8_24) rfl rfl k) ?_
    refine own_go (fun _ k => XS.iload X0.here hx rfl (hb hby d8_25) rfl k) ?_
    show own_Run p e below _ s₁ (mkF m 27 #[.val (.ref a1), .val (.int (0 : Int32)), .val (.int (2 : Int32)), .val (.int p4), .val (.int (1 : Int32)), .val (.int (1 : Int32)), .val (.int (1 : Int32)), .val (.int x0)] [(.int (1 : Int32)), (.ref a1)])
    obtain ⟨cl89, Ar89, q89, S89, N89, H89, G89⟩ := id V_a1
    have hin89 : ¬ ((1 : Int32) < 0 ∨ cl89.slots.size ≤ ((1 : Int32)).toNatClampNeg) := inb_of S89 ⟨by decide, by decide⟩
    refine own_go (X0.iaload hx (j := (1 : Int32)) (v := (.int x1)) (by rw [e0]; exact Ar89.1) (State.isArrayOf_alike hZ.alike Ar89.2.1) Ar89.2.2 hin89 (H89.at hin89 rfl) (g := (mkF m 27 #[.val (.ref a1), .val (.int (0 : Int32)), .val (.int (2 : Int32)), .val (.int p4), .val (.int (1 : Int32)), .val (.int (1 : Int32)), .val (.int (1 : Int32)), .val (.int x0)] [(.int (1 : Int32)), (.ref a1)])) rfl rfl (hb hby d8_27)) ?_
    show own_Run p e below _ s₁ (mkF m 28 #[.val (.ref a1), .val (.int (0 : Int32)), .val (.int (2 : Int32)), .val (.int p4), .val (.int (1 : Int32)), .val (.int (1 : Int32)), .val (.int (1 : Int32)), .val (.int x0)] [(.int x1)])
    refine own_go (fun _ k => XS.istore X0.here hx rfl (hb hby d8_28) rfl (l' := #[.val (.ref a1), .val (.int (0 : Int32)), .val (.int (2 : Int32)), .val (.int p4), .val (.int (1 : Int32)), .val (.int (1 : Int32)), .val (.int (1 : Int32)), .val (.int x1)]) rfl k) ?_
    refine own_go (fun _ k => XS.iload X0.here hx rfl (hb hby d8_30) rfl k) ?_
    refine own_go (fun _ k => XS.iloadN X0.here hx rfl (hb hby d8_32) rfl k) ?_
    show own_Run p e below _ s₁ (mkF m 33 #[.val (.ref a1), .val (.int (0 : Int32)), .val (.int (2 : Int32)), .val (.int p4), .val (.int (1 : Int32)), .val (.int (1 : Int32)), .val (.int (1 : Int32)), .val (.int x1)] [(.int p4), (.int x1)])
    refine own_go (fun _ k => XS.icmpNo X0.here hx rfl (hb hby d8_33) rfl (tlt hz1).2.1 k) ?_
    show own_Run p e below _ s₁ (mkF m 36 #[.val (.ref a1), .val (.int (0 : Int32)), .val (.int (2 : Int32)), .val (.int p4), .val (.int (1 : Int32)), .val (.int (1 : Int32)), .val (.int (1 : Int32)), .val (.int x1)] [])
    refine own_go (fun _ k => XS.iload X0.here hx rfl (hb hby d8_36) rfl k) ?_
    refine own_go (fun _ k => XS.iconst X0.here hx rfl (hb hby d8_38) k) ?_
    refine own_go (fun _ k => XS.iadd X0.here hx rfl (hb hby d8_39) rfl k) ?_
    show own_Run p e below _ s₁ (mkF m 40 #[.val (.ref a1), .val (.int (0 : Int32)), .val (.int (2 : Int32)), .val (.int p4), .val (.int (1 : Int32)), .val (.int (1 : Int32)), .val (.int (1 : Int32)), .val (.int x1)] [(.int ((1 : Int32) + (1 : Int32)))])
    rw [show ((1 : Int32) + (1 : Int32)) = (2 : Int32) by decide]
    show own_Run p e below _ s₁ (mkF m 40 #[.val (.ref a1), .val (.int (0 : Int32)), .val (.int (2 : Int32)), .val (.int p4), .val (.int (1 : Int32)), .val (.int (1 : Int32)), .val (.int (1 : Int32)), .val (.int x1)] [(.int (2 : Int32))])
    refine own_go (fun _ k => XS.istore X0.here hx rfl (hb hby d8_40) rfl (l' := #[.val (.ref a1), .val (.int (0 : Int32)), .val (.int (2 : Int32)), .val (.int p4), .val (.int (2 : Int32)), .val (.int (1 : Int32)), .val (.int (1 : Int32)), .val (.int x1)]) rfl k) ?_
    refine own_go (fun _ k => XS.goto X0.here hx rfl (pc0 := 42) (pc' := 63) rfl (hb hby d8_42) (by decide) (by decide) k) ?_
    refine own_go (fun _ k => XS.goto X0.here hx rfl (pc0 := 63) (pc' := 8) rfl (hb hby d8_63) (by decide) (by decide) k) ?_
    refine own_go (fun _ k => XS.iload X0.here hx rfl (hb hby d8_8) rfl k) ?_
    show own_Run p e below _ s₁ (mkF m 10 #[.val (.ref a1), .val (.int (0 : Int32)), .val (.int (2 : Int32)), .val (.int p4), .val (.int (2 : Int32)), .val (.int (1 : Int32)), .val (.int (1 : Int32)), .val (.int x1)] [(.int (2 : Int32))])
    refine own_go (fun _ k => XS.iload X0.here hx rfl (hb hby d8_10) rfl k) ?_
    show own_Run p e below _ s₁ (mkF m 12 #[.val (.ref a1), .val (.int (0 : Int32)), .val (.int (2 : Int32)), .val (.int p4), .val (.int (2 : Int32)), .val (.int (1 : Int32)), .val (.int (1 : Int32)), .val (.int x1)] [(.int (1 : Int32)), (.int (2 : Int32))])
    refine own_go (fun _ k => XS.icmpYes X0.here hx rfl (pc0 := 12) (pc' := 66) rfl (hb hby d8_12) rfl (tlt (by decide : (1 : Int32) < (2 : Int32))).2.2.1 (by decide) (by decide) k) ?_
    show own_Run p e below _ s₁ (mkF m 66 #[.val (.ref a1), .val (.int (0 : Int32)), .val (.int (2 : Int32)), .val (.int p4), .val (.int (2 : Int32)), .val (.int (1 : Int32)), .val (.int (1 : Int32)), .val (.int x1)] [])
    refine own_go (fun _ k => XS.iload X0.here hx rfl (hb hby d8_66) rfl k) ?_
    refine own_go (fun _ k => XS.iconst X0.here hx rfl (hb hby d8_68) k) ?_
    refine own_go (fun _ k => XS.iadd X0.here hx rfl (hb hby d8_69) rfl k) ?_
    show own_Run p e below _ s₁ (mkF m 70 #[.val (.ref a1), .val (.int (0 : Int32)), .val (.int (2 : Int32)), .val (.int p4), .val (.int (2 : Int32)), .val (.int (1 : Int32)), .val (.int (1 : Int32)), .val (.int x1)] [(.int ((2 : Int32) + (1 : Int32)))])
    rw [show ((2 : Int32) + (1 : Int32)) = (3 : Int32) by decide]
    show own_Run p e below _ s₁ (mkF m 70 #[.val (.ref a1), .val (.int (0 : Int32)), .val (.int (2 : Int32)), .val (.int p4), .val (.int (2 : Int32)), .val (.int (1 : Int32)), .val (.int (1 : Int32)), .val (.int x1)] [(.int (3 : Int32))])
    refine own_go (fun _ k => XS.ineg X0.here hx rfl (hb hby d8_70) rfl k) ?_
    show own_Run p e below _ s₁ (mkF m 71 #[.val (.ref a1), .val (.int (0 : Int32)), .val (.int (2 : Int32)), .val (.int p4), .val (.int (2 : Int32)), .val (.int (1 : Int32)), .val (.int (1 : Int32)), .val (.int x1)] [(.int (-(3 : Int32)))])
    rw [show (-(3 : Int32)) = (-3 : Int32) by decide]
    show own_Run p e below _ s₁ (mkF m 71 #[.val (.ref a1), .val (.int (0 : Int32)), .val (.int (2 : Int32)), .val (.int p4), .val (.int (2 : Int32)), .val (.int (1 : Int32)), .val (.int (1 : Int32)), .val (.int x1)] [(.int (-3 : Int32))])
    refine own_done (Q := fun v h L => Q8n2 Z a1 p4 k1 x0 x1 x2 x3 x4 x5 x6 x7 (-3 : Int32) h0 n0 v h L) (v := (some (.int (-3 : Int32)))) X0 (fun h => by rw [hret] at h; cases h) hlk (fun fs hr => own_retI X0 hx hret (hb hby d8_71) hr) ?_ (by decide) (by decide)
    show Q8n2 Z a1 p4 k1 x0 x1 x2 x3 x4 x5 x6 x7 (-3 : Int32) h0 n0 _ s₁.heap _
    rw [e0]
    exact ⟨rfl, N0, rfl⟩
def Q6n2 (Z : State) (a1 : Addr) (p4 : Int32) (k1 : ClassId) (x0 : Int32) (x1 : Int32) (x2 : Int32) (x3 : Int32) (x4 : Int32) (x5 : Int32) (x6 : Int32) (x7 : Int32) (r : Int32) (h0 : Heap) (n0 : Nat) (v : Option Value) (h : Heap) (L : List Loc) : Prop := v = some (.int r) ∧ Fr n0 L ∧ h = h0
set_option maxRecDepth 65536 in
set_option maxHeartbeats 40000000 in
theorem rm6n2 (l : Launch) (Z : State) (a0 : Array Value) (hw : ∀ d ∈ tables_1, d.before a0 Z = true) (ws : List Jvm.Cond) (a1 : Addr) (p4 : Int32) (k1 : ClassId) (x0 : Int32) (x1 : Int32) (x2 : Int32) (x3 : Int32) (x4 : Int32) (x5 : Int32) (x6 : Int32) (x7 : Int32) (r : Int32) (h0 : Heap) (n0 : Nat) (Z0 : n0 ≤ h0.size) (V_a1 : Arv Z h0 a1 k1 .int (8 : Int32) [(.int x0), (.int x1), (.int x2), (.int x3), (.int x4), (.int x5), (.int x6), (.int x7)] (.int (0 : Int32))) (hp : (x0 = p4 ∧ p4 < x1 ∧ r = (0 : Int32)) ∨ (p4 < x0 ∧ p4 < x1 ∧ r = (-1 : Int32)) ∨ (x0 < p4 ∧ x1 = p4 ∧ r = (1 : Int32)) ∨ (x0 < p4 ∧ p4 < x1 ∧ r = (-2 : Int32)) ∨ (x0 < p4 ∧ x1 < p4 ∧ r = (-3 : Int32))) :
    MetFree l (⟨"java/util/Arrays", "binarySearch", "([IIII)I"⟩ : MethodName) (head1 (Jvm.Cond.code (⟨"java/util/Arrays", "binarySearch", "([IIII)I"⟩ : MethodName) jdk_65_method_58_code 4 (some .int) :: ws) ({ frames := 1, cells := 0, slots := 0, locals := 20 } : Room)) (fun a U => a = #[(.ref a1), (.int (0 : Int32)), (.int (2 : Int32)), (.int p4)] ∧ Z.Warmed39 U.vm ∧ U.heap = h0) (fun _ _ _ _ _ => True) (fun _ U o U' => ∃ v L, o = .returned v ∧ Q6n2 Z a1 p4 k1 x0 x1 x2 x3 x4 x5 x6 x7 r h0 n0 v U'.heap L ∧ FrameEnd U o U' L ({ frames := 1, cells := 0, slots := 0, locals := 20 } : Room).cells ({ frames := 1, cells := 0, slots := 0, locals := 20 } : Room).slots) := by
  refine MetFree.of_bodySF (plainFor_of_name pn_6) hisR ?_
  intro p e s m args below meth c s₁ Bd hml0 hP hK
  obtain ⟨rfl, hZ, hh⟩ := hP
  have hx := Bd.exec
  have hby := Bd.bytes
  have hml : c.maxLocals = 4 := hml0
  have hown : s.vm.findClass "java/util/Arrays" = some m.cls := findClass_of_methodNamed Bd.named
  have hnm := (name_of_methodNamed Bd.named Bd.method).1
  have hret := Bd.returns
  have hlk : meth.locks = false := BodyLoose.notSynchronized Bd
  have X0 : Stand p l e ({ frames := 1, cells := 0, slots := 0, locals := 20 } : Room) s m #[(.ref a1), (.int (0 : Int32)), (.int (2 : Int32)), (.int p4)] below meth c s₁ [] 0 0 := Stand.of_body Bd
  have e0 : s₁.heap = h0 := by rw [← hh, Bd.state]; rfl
  have N0 := Fr.nil n0
  have W := fun (k : Nat) {d : Jvm.Cond} (h : tables_1[k]? = some d) => hw d (List.mem_of_getElem? h)
  have K0 : Keep h0 h0 [] := Keep.refl _ _
  refine own_start (ef_6 m a1 (0 : Int32) (2 : Int32) p4) ?_
  show own_Run p e below _ s₁ (mkF m 0 #[.val (.ref a1), .val (.int (0 : Int32)), .val (.int (2 : Int32)), .val (.int p4)] [])
  refine own_go (fun _ k => XS.aloadN X0.here hx rfl (hb hby d6_0) rfl rfl k) ?_
  show own_Run p e below _ s₁ (mkF m 1 #[.val (.ref a1), .val (.int (0 : Int32)), .val (.int (2 : Int32)), .val (.int p4)] [(.ref a1)])
  obtain ⟨cl90, Ar90, q90, S90, N90, H90, G90⟩ := id V_a1
  refine own_go (X0.arraylength hx (by rw [e0]; exact Ar90.1) (State.isArrayOf_alike hZ.alike Ar90.2.1) (g := (mkF m 1 #[.val (.ref a1), .val (.int (0 : Int32)), .val (.int (2 : Int32)), .val (.int p4)] [(.ref a1)])) rfl rfl (hb hby d6_1)) ?_
  rw [len_of S90 N90]
  show own_Run p e below _ s₁ (mkF m 2 #[.val (.ref a1), .val (.int (0 : Int32)), .val (.int (2 : Int32)), .val (.int p4)] [(.int (8 : Int32))])
  refine own_go (fun _ k => XS.iloadN X0.here hx rfl (hb hby d6_2) rfl k) ?_
  refine own_go (fun _ k => XS.iloadN X0.here hx rfl (hb hby d6_3) rfl k) ?_
  show own_Run p e below _ s₁ (mkF m 4 #[.val (.ref a1), .val (.int (0 : Int32)), .val (.int (2 : Int32)), .val (.int p4)] [(.int (2 : Int32)), (.int (0 : Int32)), (.int (8 : Int32))])
  obtain ⟨_, _, ⟨T91, L91, k91, n91⟩, -, X91, ⟨Lc91, hQ91, l91, y91, z91⟩, st91⟩ := Jvm.LawKit.callS X0 hx (y := (⟨"java/util/Arrays", "rangeCheck", "(III)V"⟩ : MethodName)) hown (mvT hZ (W 36 rfl)) (mvT hZ (W 37 rfl)) (mvT hZ (W 34 rfl)) (mvT hZ (W 38 rfl)) (by decide) (backOf (W := 0) (rm7 l Z a0 hw [] (8 : Int32) (0 : Int32) (2 : Int32) h0 n0 Z0 (by decide) (by decide) (by decide)) hZ (W 38 rfl) (W 34 rfl) (by decide) (by decide)) (g := (mkF m 4 #[.val (.ref a1), .val (.int (0 : Int32)), .val (.int (2 : Int32)), .val (.int p4)] [(.int (2 : Int32)), (.int (0 : Int32)), (.int (8 : Int32))])) rfl (by rw [hml]; rfl) (argsL := [(.int (8 : Int32)), (.int (0 : Int32)), (.int (2 : Int32))]) (rest := []) (lenOf pd_1 rfl) rfl (by show 2 * 0 + _ ≤ _; exact Nat.le_of_eq rfl) (hb hby d6_4) (fun _ _ => ⟨rfl, e0, (by decide : 0 + 0 ≤ _), (by decide : 0 + 0 ≤ _)⟩)
  dsimp only [Pt.U, Pt.locs, Pt.cells, Pt.slots] at X91 l91 y91 z91 st91 hQ91
  subst l91 y91 z91
  obtain ⟨rfl, N91q, e91⟩ := hQ91
  have N91 := Fr.app N0 N91q
  refine own_go st91 ?_
  show own_Run p e below _ T91 (mkF m 7 #[.val (.ref a1), .val (.int (0 : Int32)), .val (.int (2 : Int32)), .val (.int p4)] [])
  refine own_go (fun _ k => XS.aloadN X91.here hx rfl (hb hby d6_7) rfl rfl k) ?_
  refine own_go (fun _ k => XS.iloadN X91.here hx rfl (hb hby d6_8) rfl k) ?_
  refine own_go (fun _ k => XS.iloadN X91.here hx rfl (hb hby d6_9) rfl k) ?_
  refine own_go (fun _ k => XS.iloadN X91.here hx rfl (hb hby d6_10) rfl k) ?_
  show own_Run p e below _ T91 (mkF m 11 #[.val (.ref a1), .val (.int (0 : Int32)), .val (.int (2 : Int32)), .val (.int p4)] [(.int p4), (.int (2 : Int32)), (.int (0 : Int32)), (.ref a1)])
  obtain ⟨_, _, ⟨T92, L92, k92, n92⟩, -, X92, ⟨Lc92, hQ92, l92, y92, z92⟩, st92⟩ := Jvm.LawKit.callS X91 hx (y := (⟨"java/util/Arrays", "binarySearch0", "([IIII)I"⟩ : MethodName)) hown (mvT hZ (W 39 rfl)) (mvT hZ (W 40 rfl)) (mvT hZ (W 34 rfl)) (mvT hZ (W 41 rfl)) (by decide) (backOf (W := 0) (rm8n2 l Z a0 hw [] a1 p4 k1 x0 x1 x2 x3 x4 x5 x6 x7 r h0 n0 Z0 V_a1 (hp)) hZ (W 41 rfl) (W 34 rfl) (by decide) (by decide)) (g := (mkF m 11 #[.val (.ref a1), .val (.int (0 : Int32)), .val (.int (2 : Int32)), .val (.int p4)] [(.int p4), (.int (2 : Int32)), (.int (0 : Int32)), (.ref a1)])) rfl (by rw [hml]; rfl) (argsL := [(.ref a1), (.int (0 : Int32)), (.int (2 : Int32)), (.int p4)]) (rest := []) (lenOf pd_2 rfl) rfl (by show 2 * 0 + _ ≤ _; exact Nat.le_of_eq rfl) (hb hby d6_11) (fun _ _ => ⟨rfl, e91, (by decide : 0 + 0 ≤ _), (by decide : 0 + 0 ≤ _)⟩)
  dsimp only [Pt.U, Pt.locs, Pt.cells, Pt.slots] at X92 l92 y92 z92 st92 hQ92
  subst l92 y92 z92
  obtain ⟨rfl, N92q, e92⟩ := hQ92
  have N92 := Fr.app N91 N92q
  refine own_go st92 ?_
  show own_Run p e below _ T92 (mkF m 14 #[.val (.ref a1), .val (.int (0 : Int32)), .val (.int (2 : Int32)), .val (.int p4)] [(.int r)])
  refine own_done (Q := fun v h L => Q6n2 Z a1 p4 k1 x0 x1 x2 x3 x4 x5 x6 x7 r h0 n0 v h L) (v := (some (.int r))) X92 (fun h => by rw [hret] at h; cases h) hlk (fun fs hr => own_retI X92 hx hret (hb hby d6_14) hr) ?_ (by decide) (by decide)
  show Q6n2 Z a1 p4 k1 x0 x1 x2 x3 x4 x5 x6 x7 r h0 n0 _ T92.heap _
  rw [e92]
  exact ⟨rfl, N92, rfl⟩
def Q5n2 (Z : State) (a1 : Addr) (p2 : Int32) (b1 : Addr) (b2 : Addr) (k1 : ClassId) (k2 : ClassId) (x0 : Int32) (x1 : Int32) (x2 : Int32) (x3 : Int32) (x4 : Int32) (x5 : Int32) (x6 : Int32) (x7 : Int32) (t0 : Int64) (t1 : Int64) (t2 : Int64) (t3 : Int64) (t4 : Int64) (t5 : Int64) (t6 : Int64) (t7 : Int64) (r : Int64) (h0 : Heap) (n0 : Nat) (v : Option Value) (h : Heap) (L : List Loc) : Prop := v = some (.long r) ∧ Fr n0 L ∧ h = h0
set_option maxRecDepth 65536 in
set_option maxHeartbeats 40000000 in
theorem rm5n2 (l : Launch) (Z : State) (a0 : Array Value) (hw : ∀ d ∈ tables_1, d.before a0 Z = true) (ws : List Jvm.Cond) (a1 : Addr) (p2 : Int32) (b1 : Addr) (b2 : Addr) (k1 : ClassId) (k2 : ClassId) (x0 : Int32) (x1 : Int32) (x2 : Int32) (x3 : Int32) (x4 : Int32) (x5 : Int32) (x6 : Int32) (x7 : Int32) (t0 : Int64) (t1 : Int64) (t2 : Int64) (t3 : Int64) (t4 : Int64) (t5 : Int64) (t6 : Int64) (t7 : Int64) (r : Int64) (h0 : Heap) (n0 : Nat) (Z0 : n0 ≤ h0.size) (E_a1 : Exa Z h0 a1 "com/example/net_reducer/netreducer/analysis/Marking") (F_places_a1 : Fld Z h0 a1 "com/example/net_reducer/netreducer/analysis/Marking" "places" "[I" (.ref b1)) (F_tokens_a1 : Fld Z h0 a1 "com/example/net_reducer/netreducer/analysis/Marking" "tokens" "[J" (.ref b2)) (F_size_a1 : Fld Z h0 a1 "com/example/net_reducer/netreducer/analysis/Marking" "size" "I" (.int (2 : Int32))) (V_b1 : Arv Z h0 b1 k1 .int (8 : Int32) [(.int x0), (.int x1), (.int x2), (.int x3), (.int x4), (.int x5), (.int x6), (.int x7)] (.int (0 : Int32))) (V_b2 : Arv Z h0 b2 k2 .long (8 : Int32) [(.long t0), (.long t1), (.long t2), (.long t3), (.long t4), (.long t5), (.long t6), (.long t7)] (.long (0 : Int64))) (hp : (x0 = p2 ∧ p2 < x1 ∧ t0 = r) ∨ (p2 < x0 ∧ p2 < x1 ∧ r = (0 : Int64)) ∨ (x0 < p2 ∧ x1 = p2 ∧ t1 = r) ∨ (x0 < p2 ∧ p2 < x1 ∧ r = (0 : Int64)) ∨ (x0 < p2 ∧ x1 < p2 ∧ r = (0 : Int64))) :
    MetFree l (⟨"com/example/net_reducer/netreducer/analysis/Marking", "tokensOn", "(I)J"⟩ : MethodName) (head1 (Jvm.Cond.code (⟨"com/example/net_reducer/netreducer/analysis/Marking", "tokensOn", "(I)J"⟩ : MethodName) prog_10_method_5_code 3 (some .long) :: ws) ({ frames := 2, cells := 0, slots := 0, locals := 40 } : Room)) (fun a U => a = #[(.ref a1), (.int p2)] ∧ Z.Warmed39 U.vm ∧ U.heap = h0) (fun _ _ _ _ _ => True) (fun _ U o U' => ∃ v L, o = .returned v ∧ Q5n2 Z a1 p2 b1 b2 k1 k2 x0 x1 x2 x3 x4 x5 x6 x7 t0 t1 t2 t3 t4 t5 t6 t7 r h0 n0 v U'.heap L ∧ FrameEnd U o U' L ({ frames := 2, cells := 0, slots := 0, locals := 40 } : Room).cells ({ frames := 2, cells := 0, slots := 0, locals := 40 } : Room).slots) := by
  refine MetFree.of_bodySF (plainFor_of_name pn_5) hisR ?_
  intro p e s m args below meth c s₁ Bd hml0 hP hK
  obtain ⟨rfl, hZ, hh⟩ := hP
  have hx := Bd.exec
  have hby := Bd.bytes
  have hml : c.maxLocals = 3 := hml0
  have hown : s.vm.findClass "com/example/net_reducer/netreducer/analysis/Marking" = some m.cls := findClass_of_methodNamed Bd.named
  have hnm := (name_of_methodNamed Bd.named Bd.method).1
  have hret := Bd.returns
  have hlk : meth.locks = false := BodyLoose.notSynchronized Bd
  have X0 : Stand p l e ({ frames := 2, cells := 0, slots := 0, locals := 40 } : Room) s m #[(.ref a1), (.int p2)] below meth c s₁ [] 0 0 := Stand.of_body Bd
  have e0 : s₁.heap = h0 := by rw [← hh, Bd.state]; rfl
  have N0 := Fr.nil n0
  have W := fun (k : Nat) {d : Jvm.Cond} (h : tables_1[k]? = some d) => hw d (List.mem_of_getElem? h)
  have K0 : Keep h0 h0 [] := Keep.refl _ _
  refine own_start (ef_5 m a1 p2) ?_
  show own_Run p e below _ s₁ (mkF m 0 #[.val (.ref a1), .val (.int p2), .unset] [])
  rcases hp with ⟨hz0, hz1, rfl⟩ | ⟨hz0, hz1, rfl⟩ | ⟨hz0, hz1, rfl⟩ | ⟨hz0, hz1, rfl⟩ | ⟨hz0, hz1, rfl⟩
  · show own_Run p e below _ s₁ (mkF m 0 #[.val (.ref a1), .val (.int p2), .unset] [])
    refine own_go (fun _ k => XS.aloadN X0.here hx rfl (hb hby d5_0) rfl rfl k) ?_
    show own_Run p e below _ s₁ (mkF m 1 #[.val (.ref a1), .val (.int p2), .unset] [(.ref a1)])
    obtain ⟨T93, X93, e93, st93⟩ := getF X0 hx hZ hown (host := "") (Or.inl (W 15 rfl)) Via.refl e0 F_places_a1 (g := (mkF m 1 #[.val (.ref a1), .val (.int p2), .unset] [(.ref a1)])) rfl rfl (hb hby d5_1)
    refine own_go st93 ?_
    show own_Run p e below _ T93 (mkF m 4 #[.val (.ref a1), .val (.int p2), .unset] [(.ref b1)])
    refine own_go (fun _ k => XS.iconst X93.here hx rfl (hb hby d5_4) k) ?_
    refine own_go (fun _ k => XS.aloadN X93.here hx rfl (hb hby d5_5) rfl rfl k) ?_
    show own_Run p e below _ T93 (mkF m 6 #[.val (.ref a1), .val (.int p2), .unset] [(.ref a1), (.int (0 : Int32)), (.ref b1)])
    obtain ⟨T94, X94, e94, st94⟩ := getF X93 hx hZ hown (host := "") (Or.inl (W 25 rfl)) Via.refl e93 F_size_a1 (g := (mkF m 6 #[.val (.ref a1), .val (.int p2), .unset] [(.ref a1), (.int (0 : Int32)), (.ref b1)])) rfl rfl (hb hby d5_6)
    refine own_go st94 ?_
    show own_Run p e below _ T94 (mkF m 9 #[.val (.ref a1), .val (.int p2), .unset] [(.int (2 : Int32)), (.int (0 : Int32)), (.ref b1)])
    refine own_go (fun _ k => XS.iloadN X94.here hx rfl (hb hby d5_9) rfl k) ?_
    show own_Run p e below _ T94 (mkF m 10 #[.val (.ref a1), .val (.int p2), .unset] [(.int p2), (.int (2 : Int32)), (.int (0 : Int32)), (.ref b1)])
    obtain ⟨_, _, ⟨T95, L95, k95, n95⟩, -, X95, ⟨Lc95, hQ95, l95, y95, z95⟩, st95⟩ := Jvm.LawKit.callS X94 hx (y := (⟨"java/util/Arrays", "binarySearch", "([IIII)I"⟩ : MethodName)) hown (mvT hZ (W 32 rfl)) (mvT hZ (W 33 rfl)) (mvT hZ (W 34 rfl)) (mvT hZ (W 35 rfl)) (by decide) (backOf (W := 0) (rm6n2 l Z a0 hw [] b1 p2 k1 x0 x1 x2 x3 x4 x5 x6 x7 (0 : Int32) h0 n0 Z0 V_b1 (Or.inl ⟨hz0, hz1, rfl⟩)) hZ (W 35 rfl) (W 34 rfl) (by decide) (by decide)) (g := (mkF m 10 #[.val (.ref a1), .val (.int p2), .unset] [(.int p2), (.int (2 : Int32)), (.int (0 : Int32)), (.ref b1)])) rfl (by rw [hml]; rfl) (argsL := [(.ref b1), (.int (0 : Int32)), (.int (2 : Int32)), (.int p2)]) (rest := []) (lenOf pd_2 rfl) rfl (by show 2 * 0 + _ ≤ _; exact Nat.le_of_eq rfl) (hb hby d5_10) (fun _ _ => ⟨rfl, e94, (by decide : 0 + 0 ≤ _), (by decide : 0 + 0 ≤ _)⟩)
    dsimp only [Pt.U, Pt.locs, Pt.cells, Pt.slots] at X95 l95 y95 z95 st95 hQ95
    subst l95 y95 z95
    obtain ⟨rfl, N95q, e95⟩ := hQ95
    have N95 := Fr.app N0 N95q
    refine own_go st95 ?_
    show own_Run p e below _ T95 (mkF m 13 #[.val (.ref a1), .val (.int p2), .unset] [(.int (0 : Int32))])
    refine own_go (fun _ k => XS.istoreN X95.here hx rfl (hb hby d5_13) rfl (l' := #[.val (.ref a1), .val (.int p2), .val (.int (0 : Int32))]) rfl k) ?_
    refine own_go (fun _ k => XS.iloadN X95.here hx rfl (hb hby d5_14) rfl k) ?_
    show own_Run p e below _ T95 (mkF m 15 #[.val (.ref a1), .val (.int p2), .val (.int (0 : Int32))] [(.int (0 : Int32))])
    refine own_go (fun _ k => XS.ifYes X95.here hx rfl (pc0 := 15) (pc' := 22) rfl (hb hby d5_15) rfl ((if0 _ _).trans (flt (by decide : ¬ ((0 : Int32) < (0 : Int32)))).2.1) (by decide) (by decide) k) ?_
    show own_Run p e below _ T95 (mkF m 22 #[.val (.ref a1), .val (.int p2), .val (.int (0 : Int32))] [])
    refine own_go (fun _ k => XS.aloadN X95.here hx rfl (hb hby d5_22) rfl rfl k) ?_
    show own_Run p e below _ T95 (mkF m 23 #[.val (.ref a1), .val (.int p2), .val (.int (0 : Int32))] [(.ref a1)])
    obtain ⟨T96, X96, e96, st96⟩ := getF X95 hx hZ hown (host := "") (Or.inl (W 18 rfl)) Via.refl e95 F_tokens_a1 (g := (mkF m 23 #[.val (.ref a1), .val (.int p2), .val (.int (0 : Int32))] [(.ref a1)])) rfl rfl (hb hby d5_23)
    refine own_go st96 ?_
    show own_Run p e below _ T96 (mkF m 26 #[.val (.ref a1), .val (.int p2), .val (.int (0 : Int32))] [(.ref b2)])
    refine own_go (fun _ k => XS.iloadN X96.here hx rfl (hb hby d5_26) rfl k) ?_
    show own_Run p e below _ T96 (mkF m 27 #[.val (.ref a1), .val (.int p2), .val (.int (0 : Int32))] [(.int (0 : Int32)), (.ref b2)])
    obtain ⟨cl97, Ar97, q97, S97, N97, H97, G97⟩ := id V_b2
    have hin97 : ¬ ((0 : Int32) < 0 ∨ cl97.slots.size ≤ ((0 : Int32)).toNatClampNeg) := inb_of S97 ⟨by decide, by decide⟩
    refine own_go (X96.laload hx (j := (0 : Int32)) (v := (.long t0)) (by rw [e96]; exact Ar97.1) (State.isArrayOf_alike hZ.alike Ar97.2.1) Ar97.2.2 hin97 (H97.at hin97 rfl) (g := (mkF m 27 #[.val (.ref a1), .val (.int p2), .val (.int (0 : Int32))] [(.int (0 : Int32)), (.ref b2)])) rfl rfl (hb hby d5_27)) ?_
    show own_Run p e below _ T96 (mkF m 28 #[.val (.ref a1), .val (.int p2), .val (.int (0 : Int32))] [(.long t0)])
    refine own_done (Q := fun v h L => Q5n2 Z a1 p2 b1 b2 k1 k2 x0 x1 x2 x3 x4 x5 x6 x7 t0 t1 t2 t3 t4 t5 t6 t7 t0 h0 n0 v h L) (v := (some (.long t0))) X96 (fun h => by rw [hret] at h; cases h) hlk (fun fs hr => own_retL X96 hx hret (hb hby d5_28) hr) ?_ (by decide) (by decide)
    show Q5n2 Z a1 p2 b1 b2 k1 k2 x0 x1 x2 x3 x4 x5 x6 x7 t0 t1 t2 t3 t4 t5 t6 t7 t0 h0 n0 _ T96.heap _
    rw [e96]
    exact ⟨rfl, N95, rfl⟩
  · show own_Run p e below _ s₁ (mkF m 0 #[.val (.ref a1), .val (.int p2), .unset] [])
    refine own_go (fun _ k => XS.aloadN X0.here hx rfl (hb hby d5_0) rfl rfl k) ?_
    show own_Run p e below _ s₁ (mkF m 1 #[.val (.ref a1), .val (.int p2), .unset] [(.ref a1)])
    obtain ⟨T98, X98, e98, st98⟩ := getF X0 hx hZ hown (host := "") (Or.inl (W 15 rfl)) Via.refl e0 F_places_a1 (g := (mkF m 1 #[.val (.ref a1), .val (.int p2), .unset] [(.ref a1)])) rfl rfl (hb hby d5_1)
    refine own_go st98 ?_
    show own_Run p e below _ T98 (mkF m 4 #[.val (.ref a1), .val (.int p2), .unset] [(.ref b1)])
    refine own_go (fun _ k => XS.iconst X98.here hx rfl (hb hby d5_4) k) ?_
    refine own_go (fun _ k => XS.aloadN X98.here hx rfl (hb hby d5_5) rfl rfl k) ?_
    show own_Run p e below _ T98 (mkF m 6 #[.val (.ref a1), .val (.int p2), .unset] [(.ref a1), (.int (0 : Int32)), (.ref b1)])
    obtain ⟨T99, X99, e99, st99⟩ := getF X98 hx hZ hown (host := "") (Or.inl (W 25 rfl)) Via.refl e98 F_size_a1 (g := (mkF m 6 #[.val (.ref a1), .val (.int p2), .unset] [(.ref a1), (.int (0 : Int32)), (.ref b1)])) rfl rfl (hb hby d5_6)
    refine own_go st99 ?_
    show own_Run p e below _ T99 (mkF m 9 #[.val (.ref a1), .val (.int p2), .unset] [(.int (2 : Int32)), (.int (0 : Int32)), (.ref b1)])
    refine own_go (fun _ k => XS.iloadN X99.here hx rfl (hb hby d5_9) rfl k) ?_
    show own_Run p e below _ T99 (mkF m 10 #[.val (.ref a1), .val (.int p2), .unset] [(.int p2), (.int (2 : Int32)), (.int (0 : Int32)), (.ref b1)])
    obtain ⟨_, _, ⟨T100, L100, k100, n100⟩, -, X100, ⟨Lc100, hQ100, l100, y100, z100⟩, st100⟩ := Jvm.LawKit.callS X99 hx (y := (⟨"java/util/Arrays", "binarySearch", "([IIII)I"⟩ : MethodName)) hown (mvT hZ (W 32 rfl)) (mvT hZ (W 33 rfl)) (mvT hZ (W 34 rfl)) (mvT hZ (W 35 rfl)) (by decide) (backOf (W := 0) (rm6n2 l Z a0 hw [] b1 p2 k1 x0 x1 x2 x3 x4 x5 x6 x7 (-1 : Int32) h0 n0 Z0 V_b1 (Or.inr (Or.inl ⟨hz0, hz1, rfl⟩))) hZ (W 35 rfl) (W 34 rfl) (by decide) (by decide)) (g := (mkF m 10 #[.val (.ref a1), .val (.int p2), .unset] [(.int p2), (.int (2 : Int32)), (.int (0 : Int32)), (.ref b1)])) rfl (by rw [hml]; rfl) (argsL := [(.ref b1), (.int (0 : Int32)), (.int (2 : Int32)), (.int p2)]) (rest := []) (lenOf pd_2 rfl) rfl (by show 2 * 0 + _ ≤ _; exact Nat.le_of_eq rfl) (hb hby d5_10) (fun _ _ => ⟨rfl, e99, (by decide : 0 + 0 ≤ _), (by decide : 0 + 0 ≤ _)⟩)
    dsimp only [Pt.U, Pt.locs, Pt.cells, Pt.slots] at X100 l100 y100 z100 st100 hQ100
    subst l100 y100 z100
    obtain ⟨rfl, N100q, e100⟩ := hQ100
    have N100 := Fr.app N0 N100q
    refine own_go st100 ?_
    show own_Run p e below _ T100 (mkF m 13 #[.val (.ref a1), .val (.int p2), .unset] [(.int (-1 : Int32))])
    refine own_go (fun _ k => XS.istoreN X100.here hx rfl (hb hby d5_13) rfl (l' := #[.val (.ref a1), .val (.int p2), .val (.int (-1 : Int32))]) rfl k) ?_
    refine own_go (fun _ k => XS.iloadN X100.here hx rfl (hb hby d5_14) rfl k) ?_
    show own_Run p e below _ T100 (mkF m 15 #[.val (.ref a1), .val (.int p2), .val (.int (-1 : Int32))] [(.int (-1 : Int32))])
    refine own_go (fun _ k => XS.ifNo X100.here hx rfl (hb hby d5_15) rfl ((if0 _ _).trans (tlt (by decide : (-1 : Int32) < (0 : Int32))).2.1) k) ?_
    show own_Run p e below _ T100 (mkF m 18 #[.val (.ref a1), .val (.int p2), .val (.int (-1 : Int32))] [])
    refine own_go (fun _ k => XS.lconst X100.here hx rfl (hb hby d5_18) k) ?_
    refine own_go (fun _ k => XS.goto X100.here hx rfl (pc0 := 19) (pc' := 28) rfl (hb hby d5_19) (by decide) (by decide) k) ?_
    show own_Run p e below _ T100 (mkF m 28 #[.val (.ref a1), .val (.int p2), .val (.int (-1 : Int32))] [(.long (0 : Int64))])
    refine own_done (Q := fun v h L => Q5n2 Z a1 p2 b1 b2 k1 k2 x0 x1 x2 x3 x4 x5 x6 x7 t0 t1 t2 t3 t4 t5 t6 t7 (0 : Int64) h0 n0 v h L) (v := (some (.long (0 : Int64)))) X100 (fun h => by rw [hret] at h; cases h) hlk (fun fs hr => own_retL X100 hx hret (hb hby d5_28) hr) ?_ (by decide) (by decide)
    show Q5n2 Z a1 p2 b1 b2 k1 k2 x0 x1 x2 x3 x4 x5 x6 x7 t0 t1 t2 t3 t4 t5 t6 t7 (0 : Int64) h0 n0 _ T100.heap _
    rw [e100]
    exact ⟨rfl, N100, rfl⟩
  · show own_Run p e below _ s₁ (mkF m 0 #[.val (.ref a1), .val (.int p2), .unset] [])
    refine own_go (fun _ k => XS.aloadN X0.here hx rfl (hb hby d5_0) rfl rfl k) ?_
    show own_Run p e below _ s₁ (mkF m 1 #[.val (.ref a1), .val (.int p2), .unset] [(.ref a1)])
    obtain ⟨T101, X101, e101, st101⟩ := getF X0 hx hZ hown (host := "") (Or.inl (W 15 rfl)) Via.refl e0 F_places_a1 (g := (mkF m 1 #[.val (.ref a1), .val (.int p2), .unset] [(.ref a1)])) rfl rfl (hb hby d5_1)
    refine own_go st101 ?_
    show own_Run p e below _ T101 (mkF m 4 #[.val (.ref a1), .val (.int p2), .unset] [(.ref b1)])
    refine own_go (fun _ k => XS.iconst X101.here hx rfl (hb hby d5_4) k) ?_
    refine own_go (fun _ k => XS.aloadN X101.here hx rfl (hb hby d5_5) rfl rfl k) ?_
    show own_Run p e below _ T101 (mkF m 6 #[.val (.ref a1), .val (.int p2), .unset] [(.ref a1), (.int (0 : Int32)), (.ref b1)])
    obtain ⟨T102, X102, e102, st102⟩ := getF X101 hx hZ hown (host := "") (Or.inl (W 25 rfl)) Via.refl e101 F_size_a1 (g := (mkF m 6 #[.val (.ref a1), .val (.int p2), .unset] [(.ref a1), (.int (0 : Int32)), (.ref b1)])) rfl rfl (hb hby d5_6)
    refine own_go st102 ?_
    show own_Run p e below _ T102 (mkF m 9 #[.val (.ref a1), .val (.int p2), .unset] [(.int (2 : Int32)), (.int (0 : Int32)), (.ref b1)])
    refine own_go (fun _ k => XS.iloadN X102.here hx rfl (hb hby d5_9) rfl k) ?_
    show own_Run p e below _ T102 (mkF m 10 #[.val (.ref a1), .val (.int p2), .unset] [(.int p2), (.int (2 : Int32)), (.int (0 : Int32)), (.ref b1)])
    obtain ⟨_, _, ⟨T103, L103, k103, n103⟩, -, X103, ⟨Lc103, hQ103, l103, y103, z103⟩, st103⟩ := Jvm.LawKit.callS X102 hx (y := (⟨"java/util/Arrays", "binarySearch", "([IIII)I"⟩ : MethodName)) hown (mvT hZ (W 32 rfl)) (mvT hZ (W 33 rfl)) (mvT hZ (W 34 rfl)) (mvT hZ (W 35 rfl)) (by decide) (backOf (W := 0) (rm6n2 l Z a0 hw [] b1 p2 k1 x0 x1 x2 x3 x4 x5 x6 x7 (1 : Int32) h0 n0 Z0 V_b1 (Or.inr (Or.inr (Or.inl ⟨hz0, hz1, rfl⟩)))) hZ (W 35 rfl) (W 34 rfl) (by decide) (by decide)) (g := (mkF m 10 #[.val (.ref a1), .val (.int p2), .unset] [(.int p2), (.int (2 : Int32)), (.int (0 : Int32)), (.ref b1)])) rfl (by rw [hml]; rfl) (argsL := [(.ref b1), (.int (0 : Int32)), (.int (2 : Int32)), (.int p2)]) (rest := []) (lenOf pd_2 rfl) rfl (by show 2 * 0 + _ ≤ _; exact Nat.le_of_eq rfl) (hb hby d5_10) (fun _ _ => ⟨rfl, e102, (by decide : 0 + 0 ≤ _), (by decide : 0 + 0 ≤ _)⟩)
    dsimp only [Pt.U, Pt.locs, Pt.cells, Pt.slots] at X103 l103 y103 z103 st103 hQ103
    subst l103 y103 z103
    obtain ⟨rfl, N103q, e103⟩ := hQ103
    have N103 := Fr.app N0 N103q
    refine own_go st103 ?_
    show own_Run p e below _ T103 (mkF m 13 #[.val (.ref a1), .val (.int p2), .unset] [(.int (1 : Int32))])
    refine own_go (fun _ k => XS.istoreN X103.here hx rfl (hb hby d5_13) rfl (l' := #[.val (.ref a1), .val (.int p2), .val (.int (1 : Int32))]) rfl k) ?_
    refine own_go (fun _ k => XS.iloadN X103.here hx rfl (hb hby d5_14) rfl k) ?_
    show own_Run p e below _ T103 (mkF m 15 #[.val (.ref a1), .val (.int p2), .val (.int (1 : Int32))] [(.int (1 : Int32))])
    refine own_go (fun _ k => XS.ifYes X103.here hx rfl (pc0 := 15) (pc' := 22) rfl (hb hby d5_15) rfl ((if0 _ _).trans (flt (by decide : ¬ ((1 : Int32) < (0 : Int32)))).2.1) (by decide) (by decide) k) ?_
    show own_Run p e below _ T103 (mkF m 22 #[.val (.ref a1), .val (.int p2), .val (.int (1 : Int32))] [])
    refine own_go (fun _ k => XS.aloadN X103.here hx rfl (hb hby d5_22) rfl rfl k) ?_
    show own_Run p e below _ T103 (mkF m 23 #[.val (.ref a1), .val (.int p2), .val (.int (1 : Int32))] [(.ref a1)])
    obtain ⟨T104, X104, e104, st104⟩ := getF X103 hx hZ hown (host := "") (Or.inl (W 18 rfl)) Via.refl e103 F_tokens_a1 (g := (mkF m 23 #[.val (.ref a1), .val (.int p2), .val (.int (1 : Int32))] [(.ref a1)])) rfl rfl (hb hby d5_23)
    refine own_go st104 ?_
    show own_Run p e below _ T104 (mkF m 26 #[.val (.ref a1), .val (.int p2), .val (.int (1 : Int32))] [(.ref b2)])
    refine own_go (fun _ k => XS.iloadN X104.here hx rfl (hb hby d5_26) rfl k) ?_
    show own_Run p e below _ T104 (mkF m 27 #[.val (.ref a1), .val (.int p2), .val (.int (1 : Int32))] [(.int (1 : Int32)), (.ref b2)])
    obtain ⟨cl105, Ar105, q105, S105, N105, H105, G105⟩ := id V_b2
    have hin105 : ¬ ((1 : Int32) < 0 ∨ cl105.slots.size ≤ ((1 : Int32)).toNatClampNeg) := inb_of S105 ⟨by decide, by decide⟩
    refine own_go (X104.laload hx (j := (1 : Int32)) (v := (.long t1)) (by rw [e104]; exact Ar105.1) (State.isArrayOf_alike hZ.alike Ar105.2.1) Ar105.2.2 hin105 (H105.at hin105 rfl) (g := (mkF m 27 #[.val (.ref a1), .val (.int p2), .val (.int (1 : Int32))] [(.int (1 : Int32)), (.ref b2)])) rfl rfl (hb hby d5_27)) ?_
    show own_Run p e below _ T104 (mkF m 28 #[.val (.ref a1), .val (.int p2), .val (.int (1 : Int32))] [(.long t1)])
    refine own_done (Q := fun v h L => Q5n2 Z a1 p2 b1 b2 k1 k2 x0 x1 x2 x3 x4 x5 x6 x7 t0 t1 t2 t3 t4 t5 t6 t7 t1 h0 n0 v h L) (v := (some (.long t1))) X104 (fun h => by rw [hret] at h; cases h) hlk (fun fs hr => own_retL X104 hx hret (hb hby d5_28) hr) ?_ (by decide) (by decide)
    show Q5n2 Z a1 p2 b1 b2 k1 k2 x0 x1 x2 x3 x4 x5 x6 x7 t0 t1 t2 t3 t4 t5 t6 t7 t1 h0 n0 _ T104.heap _
    rw [e104]
    exact ⟨rfl, N103, rfl⟩
  · show own_Run p e below _ s₁ (mkF m 0 #[.val (.ref a1), .val (.int p2), .unset] [])
    refine own_go (fun _ k => XS.aloadN X0.here hx rfl (hb hby d5_0) rfl rfl k) ?_
    show own_Run p e below _ s₁ (mkF m 1 #[.val (.ref a1), .val (.int p2), .unset] [(.ref a1)])
    obtain ⟨T106, X106, e106, st106⟩ := getF X0 hx hZ hown (host := "") (Or.inl (W 15 rfl)) Via.refl e0 F_places_a1 (g := (mkF m 1 #[.val (.ref a1), .val (.int p2), .unset] [(.ref a1)])) rfl rfl (hb hby d5_1)
    refine own_go st106 ?_
    show own_Run p e below _ T106 (mkF m 4 #[.val (.ref a1), .val (.int p2), .unset] [(.ref b1)])
    refine own_go (fun _ k => XS.iconst X106.here hx rfl (hb hby d5_4) k) ?_
    refine own_go (fun _ k => XS.aloadN X106.here hx rfl (hb hby d5_5) rfl rfl k) ?_
    show own_Run p e below _ T106 (mkF m 6 #[.val (.ref a1), .val (.int p2), .unset] [(.ref a1), (.int (0 : Int32)), (.ref b1)])
    obtain ⟨T107, X107, e107, st107⟩ := getF X106 hx hZ hown (host := "") (Or.inl (W 25 rfl)) Via.refl e106 F_size_a1 (g := (mkF m 6 #[.val (.ref a1), .val (.int p2), .unset] [(.ref a1), (.int (0 : Int32)), (.ref b1)])) rfl rfl (hb hby d5_6)
    refine own_go st107 ?_
    show own_Run p e below _ T107 (mkF m 9 #[.val (.ref a1), .val (.int p2), .unset] [(.int (2 : Int32)), (.int (0 : Int32)), (.ref b1)])
    refine own_go (fun _ k => XS.iloadN X107.here hx rfl (hb hby d5_9) rfl k) ?_
    show own_Run p e below _ T107 (mkF m 10 #[.val (.ref a1), .val (.int p2), .unset] [(.int p2), (.int (2 : Int32)), (.int (0 : Int32)), (.ref b1)])
    obtain ⟨_, _, ⟨T108, L108, k108, n108⟩, -, X108, ⟨Lc108, hQ108, l108, y108, z108⟩, st108⟩ := Jvm.LawKit.callS X107 hx (y := (⟨"java/util/Arrays", "binarySearch", "([IIII)I"⟩ : MethodName)) hown (mvT hZ (W 32 rfl)) (mvT hZ (W 33 rfl)) (mvT hZ (W 34 rfl)) (mvT hZ (W 35 rfl)) (by decide) (backOf (W := 0) (rm6n2 l Z a0 hw [] b1 p2 k1 x0 x1 x2 x3 x4 x5 x6 x7 (-2 : Int32) h0 n0 Z0 V_b1 (Or.inr (Or.inr (Or.inr (Or.inl ⟨hz0, hz1, rfl⟩))))) hZ (W 35 rfl) (W 34 rfl) (by decide) (by decide)) (g := (mkF m 10 #[.val (.ref a1), .val (.int p2), .unset] [(.int p2), (.int (2 : Int32)), (.int (0 : Int32)), (.ref b1)])) rfl (by rw [hml]; rfl) (argsL := [(.ref b1), (.int (0 : Int32)), (.int (2 : Int32)), (.int p2)]) (rest := []) (lenOf pd_2 rfl) rfl (by show 2 * 0 + _ ≤ _; exact Nat.le_of_eq rfl) (hb hby d5_10) (fun _ _ => ⟨rfl, e107, (by decide : 0 + 0 ≤ _), (by decide : 0 + 0 ≤ _)⟩)
    dsimp only [Pt.U, Pt.locs, Pt.cells, Pt.slots] at X108 l108 y108 z108 st108 hQ108
    subst l108 y108 z108
    obtain ⟨rfl, N108q, e108⟩ := hQ108
    have N108 := Fr.app N0 N108q
    refine own_go st108 ?_
    show own_Run p e below _ T108 (mkF m 13 #[.val (.ref a1), .val (.int p2), .unset] [(.int (-2 : Int32))])
    refine own_go (fun _ k => XS.istoreN X108.here hx rfl (hb hby d5_13) rfl (l' := #[.val (.ref a1), .val (.int p2), .val (.int (-2 : Int32))]) rfl k) ?_
    refine own_go (fun _ k => XS.iloadN X108.here hx rfl (hb hby d5_14) rfl k) ?_
    show own_Run p e below _ T108 (mkF m 15 #[.val (.ref a1), .val (.int p2), .val (.int (-2 : Int32))] [(.int (-2 : Int32))])
    refine own_go (fun _ k => XS.ifNo X108.here hx rfl (hb hby d5_15) rfl ((if0 _ _).trans (tlt (by decide : (-2 : Int32) < (0 : Int32))).2.1) k) ?_
    show own_Run p e below _ T108 (mkF m 18 #[.val (.ref a1), .val (.int p2), .val (.int (-2 : Int32))] [])
    refine own_go (fun _ k => XS.lconst X108.here hx rfl (hb hby d5_18) k) ?_
    refine own_go (fun _ k => XS.goto X108.here hx rfl (pc0 := 19) (pc' := 28) rfl (hb hby d5_19) (by decide) (by decide) k) ?_
    show own_Run p e below _ T108 (mkF m 28 #[.val (.ref a1), .val (.int p2), .val (.int (-2 : Int32))] [(.long (0 : Int64))])
    refine own_done (Q := fun v h L => Q5n2 Z a1 p2 b1 b2 k1 k2 x0 x1 x2 x3 x4 x5 x6 x7 t0 t1 t2 t3 t4 t5 t6 t7 (0 : Int64) h0 n0 v h L) (v := (some (.long (0 : Int64)))) X108 (fun h => by rw [hret] at h; cases h) hlk (fun fs hr => own_retL X108 hx hret (hb hby d5_28) hr) ?_ (by decide) (by decide)
    show Q5n2 Z a1 p2 b1 b2 k1 k2 x0 x1 x2 x3 x4 x5 x6 x7 t0 t1 t2 t3 t4 t5 t6 t7 (0 : Int64) h0 n0 _ T108.heap _
    rw [e108]
    exact ⟨rfl, N108, rfl⟩
  · show own_Run p e below _ s₁ (mkF m 0 #[.val (.ref a1), .val (.int p2), .unset] [])
    refine own_go (fun _ k => XS.aloadN X0.here hx rfl (hb hby d5_0) rfl rfl k) ?_
    show own_Run p e below _ s₁ (mkF m 1 #[.val (.ref a1), .val (.int p2), .unset] [(.ref a1)])
    obtain ⟨T109, X109, e109, st109⟩ := getF X0 hx hZ hown (host := "") (Or.inl (W 15 rfl)) Via.refl e0 F_places_a1 (g := (mkF m 1 #[.val (.ref a1), .val (.int p2), .unset] [(.ref a1)])) rfl rfl (hb hby d5_1)
    refine own_go st109 ?_
    show own_Run p e below _ T109 (mkF m 4 #[.val (.ref a1), .val (.int p2), .unset] [(.ref b1)])
    refine own_go (fun _ k => XS.iconst X109.here hx rfl (hb hby d5_4) k) ?_
    refine own_go (fun _ k => XS.aloadN X109.here hx rfl (hb hby d5_5) rfl rfl k) ?_
    show own_Run p e below _ T109 (mkF m 6 #[.val (.ref a1), .val (.int p2), .unset] [(.ref a1), (.int (0 : Int32)), (.ref b1)])
    obtain ⟨T110, X110, e110, st110⟩ := getF X109 hx hZ hown (host := "") (Or.inl (W 25 rfl)) Via.refl e109 F_size_a1 (g := (mkF m 6 #[.val (.ref a1), .val (.int p2), .unset] [(.ref a1), (.int (0 : Int32)), (.ref b1)])) rfl rfl (hb hby d5_6)
    refine own_go st110 ?_
    show own_Run p e below _ T110 (mkF m 9 #[.val (.ref a1), .val (.int p2), .unset] [(.int (2 : Int32)), (.int (0 : Int32)), (.ref b1)])
    refine own_go (fun _ k => XS.iloadN X110.here hx rfl (hb hby d5_9) rfl k) ?_
    show own_Run p e below _ T110 (mkF m 10 #[.val (.ref a1), .val (.int p2), .unset] [(.int p2), (.int (2 : Int32)), (.int (0 : Int32)), (.ref b1)])
    obtain ⟨_, _, ⟨T111, L111, k111, n111⟩, -, X111, ⟨Lc111, hQ111, l111, y111, z111⟩, st111⟩ := Jvm.LawKit.callS X110 hx (y := (⟨"java/util/Arrays", "binarySearch", "([IIII)I"⟩ : MethodName)) hown (mvT hZ (W 32 rfl)) (mvT hZ (W 33 rfl)) (mvT hZ (W 34 rfl)) (mvT hZ (W 35 rfl)) (by decide) (backOf (W := 0) (rm6n2 l Z a0 hw [] b1 p2 k1 x0 x1 x2 x3 x4 x5 x6 x7 (-3 : Int32) h0 n0 Z0 V_b1 (Or.inr (Or.inr (Or.inr (Or.inr (⟨hz0, hz1, rfl⟩)))))) hZ (W 35 rfl) (W 34 rfl) (by decide) (by decide)) (g := (mkF m 10 #[.val (.ref a1), .val (.int p2), .unset] [(.int p2), (.int (2 : Int32)), (.int (0 : Int32)), (.ref b1)])) rfl (by rw [hml]; rfl) (argsL := [(.ref b1), (.int (0 : Int32)), (.int (2 : Int32)), (.int p2)]) (rest := []) (lenOf pd_2 rfl) rfl (by show 2 * 0 + _ ≤ _; exact Nat.le_of_eq rfl) (hb hby d5_10) (fun _ _ => ⟨rfl, e110, (by decide : 0 + 0 ≤ _), (by decide : 0 + 0 ≤ _)⟩)
    dsimp only [Pt.U, Pt.locs, Pt.cells, Pt.slots] at X111 l111 y111 z111 st111 hQ111
    subst l111 y111 z111
    obtain ⟨rfl, N111q, e111⟩ := hQ111
    have N111 := Fr.app N0 N111q
    refine own_go st111 ?_
    show own_Run p e below _ T111 (mkF m 13 #[.val (.ref a1), .val (.int p2), .unset] [(.int (-3 : Int32))])
    refine own_go (fun _ k => XS.istoreN X111.here hx rfl (hb hby d5_13) rfl (l' := #[.val (.ref a1), .val (.int p2), .val (.int (-3 : Int32))]) rfl k) ?_
    refine own_go (fun _ k => XS.iloadN X111.here hx rfl (hb hby d5_14) rfl k) ?_
    show own_Run p e below _ T111 (mkF m 15 #[.val (.ref a1), .val (.int p2), .val (.int (-3 : Int32))] [(.int (-3 : Int32))])
    refine own_go (fun _ k => XS.ifNo X111.here hx rfl (hb hby d5_15) rfl ((if0 _ _).trans (tlt (by decide : (-3 : Int32) < (0 : Int32))).2.1) k) ?_
    show own_Run p e below _ T111 (mkF m 18 #[.val (.ref a1), .val (.int p2), .val (.int (-3 : Int32))] [])
    refine own_go (fun _ k => XS.lconst X111.here hx rfl (hb hby d5_18) k) ?_
    refine own_go (fun _ k => XS.goto X111.here hx rfl (pc0 := 19) (pc' := 28) rfl (hb hby d5_19) (by decide) (by decide) k) ?_
    show own_Run p e below _ T111 (mkF m 28 #[.val (.ref a1), .val (.int p2), .val (.int (-3 : Int32))] [(.long (0 : Int64))])
    refine own_done (Q := fun v h L => Q5n2 Z a1 p2 b1 b2 k1 k2 x0 x1 x2 x3 x4 x5 x6 x7 t0 t1 t2 t3 t4 t5 t6 t7 (0 : Int64) h0 n0 v h L) (v := (some (.long (0 : Int64)))) X111 (fun h => by rw [hret] at h; cases h) hlk (fun fs hr => own_retL X111 hx hret (hb hby d5_28) hr) ?_ (by decide) (by decide)
    show Q5n2 Z a1 p2 b1 b2 k1 k2 x0 x1 x2 x3 x4 x5 x6 x7 t0 t1 t2 t3 t4 t5 t6 t7 (0 : Int64) h0 n0 _ T111.heap _
    rw [e111]
    exact ⟨rfl, N111, rfl⟩
def Q8n3 (Z : State) (a1 : Addr) (p4 : Int32) (k1 : ClassId) (x0 : Int32) (x1 : Int32) (x2 : Int32) (x3 : Int32) (x4 : Int32) (x5 : Int32) (x6 : Int32) (x7 : Int32) (r : Int32) (h0 : Heap) (n0 : Nat) (v : Option Value) (h : Heap) (L : List Loc) : Prop := v = some (.int r) ∧ Fr n0 L ∧ h = h0
set_option maxRecDepth 65536 in
set_option maxHeartbeats 40000000 in
theorem rm8n3 (l : Launch) (Z : State) (a0 : Array Value) (hw : ∀ d ∈ tables_1, d.before a0 Z = true) (ws : List Jvm.Cond) (a1 : Addr) (p4 : Int32) (k1 : ClassId) (x0 : Int32) (x1 : Int32) (x2 : Int32) (x3 : Int32) (x4 : Int32) (x5 : Int32) (x6 : Int32) (x7 : Int32) (r : Int32) (h0 : Heap) (n0 : Nat) (Z0 : n0 ≤ h0.size) (V_a1 : Arv Z h0 a1 k1 .int (8 : Int32) [(.int x0), (.int x1), (.int x2), (.int x3), (.int x4), (.int x5), (.int x6), (.int x7)] (.int (0 : Int32))) (hp : (x0 = p4 ∧ p4 < x1 ∧ p4 < x2 ∧ r = (0 : Int32)) ∨ (p4 < x0 ∧ p4 < x1 ∧ p4 < x2 ∧ r = (-1 : Int32)) ∨ (x0 < p4 ∧ x1 = p4 ∧ p4 < x2 ∧ r = (1 : Int32)) ∨ (x0 < p4 ∧ p4 < x1 ∧ p4 < x2 ∧ r = (-2 : Int32)) ∨ (x0 < p4 ∧ x1 < p4 ∧ x2 = p4 ∧ r = (2 : Int32)) ∨ (x0 < p4 ∧ x1 < p4 ∧ p4 < x2 ∧ r = (-3 : Int32)) ∨ (x0 < p4 ∧ x1 < p4 ∧ x2 < p4 ∧ r = (-4 : Int32))) :
    MetFree l (⟨"java/util/Arrays", "binarySearch0", "([IIII)I"⟩ : MethodName) (head1 (Jvm.Cond.code (⟨"java/util/Arrays", "binarySearch0", "([IIII)I"⟩ : MethodName) jdk_65_method_59_code 8 (some .int) :: ws) ({ frames := 0, cells := 0, slots := 0, locals := 0 } : Room)) (fun a U => a = #[(.ref a1), (.int (0 : Int32)), (.int (3 : Int32)), (.int p4)] ∧ Z.Warmed39 U.vm ∧ U.heap = h0) (fun _ _ _ _ _ => True) (fun _ U o U' => ∃ v L, o = .returned v ∧ Q8n3 Z a1 p4 k1 x0 x1 x2 x3 x4 x5 x6 x7 r h0 n0 v U'.heap L ∧ FrameEnd U o U' L ({ frames := 0, cells := 0, slots := 0, locals := 0 } : Room).cells ({ frames := 0, cells := 0, slots := 0, locals := 0 } : Room).slots) := by
  refine MetFree.of_bodySF (plainFor_of_name pn_8) hisR ?_
  intro p e s m args below meth c s₁ Bd hml0 hP hK
  obtain ⟨rfl, hZ, hh⟩ := hP
  have hx := Bd.exec
  have hby := Bd.bytes
  have hml : c.maxLocals = 8 := hml0
  have hown : s.vm.findClass "java/util/Arrays" = some m.cls := findClass_of_methodNamed Bd.named
  have hnm := (name_of_methodNamed Bd.named Bd.method).1
  have hret := Bd.returns
  have hlk : meth.locks = false := BodyLoose.notSynchronized Bd
  have X0 : Stand p l e ({ frames := 0, cells := 0, slots := 0, locals := 0 } : Room) s m #[(.ref a1), (.int (0 : Int32)), (.int (3 : Int32)), (.int p4)] below meth c s₁ [] 0 0 := Stand.of_body Bd
  have e0 : s₁.heap = h0 := by rw [← hh, Bd.state]; rfl
  have N0 := Fr.nil n0
  have W := fun (k : Nat) {d : Jvm.Cond} (h : tables_1[k]? = some d) => hw d (List.mem_of_getElem? h)
  have K0 : Keep h0 h0 [] := Keep.refl _ _
  refine own_start (ef_8 m a1 (0 : Int32) (3 : Int32) p4) ?_
  show own_Run p e below _ s₁ (mkF m 0 #[.val (.ref a1), .val (.int (0 : Int32)), .val (.int (3 : Int32)), .val (.int p4), .unset, .unset, .unset, .unset] [])
  rcases hp with ⟨hz0, hz1, hz2, rfl⟩ | ⟨hz0, hz1, hz2, rfl⟩ | ⟨hz0, hz1, hz2, rfl⟩ | ⟨hz0, hz1, hz2, rfl⟩ | ⟨hz0, hz1, hz2, rfl⟩ | ⟨hz0, hz1, hz2, rfl⟩ | ⟨hz0, hz1, hz2, rfl⟩
  · show own_Run p e below _ s₁ (mkF m 0 #[.val (.ref a1), .val (.int (0 : Int32)), .val (.int (3 : Int32)), .val (.int p4), .unset, .unset, .unset, .unset] [])
    refine own_go (fun _ k => XS.iloadN X0.here hx rfl (hb hby d8_0) rfl k) ?_
    refine own_go (fun _ k => XS.istore X0.here hx rfl (hb hby d8_1) rfl (l' := #[.val (.ref a1), .val (.int (0 : Int32)), .val (.int (3 : Int32)), .val (.int p4), .val (.int (0 : Int32)), .unset, .unset, .unset]) rfl k) ?_
    refine own_go (fun _ k => XS.iloadN X0.here hx rfl (hb hby d8_3) rfl k) ?_
    refine own_go (fun _ k => XS.iconst X0.here hx rfl (hb hby d8_4) k) ?_
    show own_Run p e below _ s₁ (mkF m 5 #[.val (.ref a1), .val (.int (0 : Int32)), .val (.int (3 : Int32)), .val (.int p4), .val (.int (0 : Int32)), .unset, .unset, .unset] [(.int (1 : Int32)), (.int (3 : Int32))])
    refine own_go (fun _ k => XS.isub X0.here hx rfl (hb hby d8_5) rfl k) ?_
    show own_Run p e below _ s₁ (mkF m 6 #[.val (.ref a1), .val (.int (0 : Int32)), .val (.int (3 : Int32)), .val (.int p4), .val (.int (0 : Int32)), .unset, .unset, .unset] [(.int ((3 : Int32) - (1 : Int32)))])
    rw [show ((3 : Int32) - (1 : Int32)) = (2 : Int32) by decide]
    show own_Run p e below _ s₁ (mkF m 6 #[.val (.ref a1), .val (.int (0 : Int32)), .val (.int (3 : Int32)), .val (.int p4), .val (.int (0 : Int32)), .unset, .unset, .unset] [(.int (2 : Int32))])
    refine own_go (fun _ k => XS.istore X0.here hx rfl (hb hby d8_6) rfl (l' := #[.val (.ref a1), .val (.int (0 : Int32)), .val (.int (3 : Int32)), .val (.int p4), .val (.int (0 : Int32)), .val (.int (2 : Int32)), .unset, .unset]) rfl k) ?_
    refine own_go (fun _ k => XS.iload X0.here hx rfl (hb hby d8_8) rfl k) ?_
    refine own_go (fun _ k => XS.iload X0.here hx rfl (hb hby d8_10) rfl k) ?_
    show own_Run p e below _ s₁ (mkF m 12 #[.val (.ref a1), .val (.int (0 : Int32)), .val (.int (3 : Int32)), .val (.int p4), .val (.int (0 : Int32)), .val (.int (2 : Int32)), .unset, .unset] [(.int (2 : Int32)), (.int (0 : Int32))])
    refine own_go (fun _ k => XS.icmpNo X0.here hx rfl (hb hby d8_12) rfl (flt (by decide : ¬ ((2 : Int32) < (0 : Int32)))).2.2.1 k) ?_
    show own_Run p e below _ s₁ (mkF m 15 #[.val (.ref a1), .val (.int (0 : Int32)), .val (.int (3 : Int32)), .val (.int p4), .val (.int (0 : Int32)), .val (.int (2 : Int32)), .unset, .unset] [])
    refine own_go (fun _ k => XS.iload X0.here hx rfl (hb hby d8_15) rfl k) ?_
    refine own_go (fun _ k => XS.iload X0.here hx rfl (hb hby d8_17) rfl k) ?_
    refine own_go (fun _ k => XS.iadd X0.here hx rfl (hb hby d8_19) rfl k) ?_
    show own_Run p e below _ s₁ (mkF m 20 #[.val (.ref a1), .val (.int (0 : Int32)), .val (.int (3 : Int32)), .val (.int p4), .val (.int (0 : Int32)), .val (.int (2 : Int32)), .unset, .unset] [(.int ((0 : Int32) + (2 : Int32)))])
    rw [show ((0 : Int32) + (2 : Int32)) = (2 : Int32) by decide]
    show own_Run p e below _ s₁ (mkF m 20 #[.val (.ref a1), .val (.int (0 : Int32)), .val (.int (3 : Int32)), .val (.int p4), .val (.int (0 : Int32)), .val (.int (2 : Int32)), .unset, .unset] [(.int (2 : Int32))])
    refine own_go (fun _ k => XS.iconst X0.here hx rfl (hb hby d8_20) k) ?_
    refine own_go (fun _ k => XS.iushr X0.here hx rfl (hb hby d8_21) rfl k) ?_
    show own_Run p e below _ s₁ (mkF m 22 #[.val (.ref a1), .val (.int (0 : Int32)), .val (.int (3 : Int32)), .val (.int p4), .val (.int (0 : Int32)), .val (.int (2 : Int32)), .unset, .unset] [(.int (((2 : Int32).toUInt32 >>> ((1 : Int32) &&& 31).toUInt32).toInt32))])
    rw [show (((2 : Int32).toUInt32 >>> ((1 : Int32) &&& 31).toUInt32).toInt32) = (1 : Int32) by decide]
    show own_Run p e below _ s₁ (mkF m 22 #[.val (.ref a1), .val (.int (0 : Int32)), .val (.int (3 : Int32)), .val (.int p4), .val (.int (0 : Int32)), .val (.int (2 : Int32)), .unset, .unset] [(.int (1 : Int32))])
    refine own_go (fun _ k => XS.istore X0.here hx rfl (hb hby d8_22) rfl (l' := #[.val (.ref a1), .val (.int (0 : Int32)), .val (.int (3 : Int32)), .val (.int p4), .val (.int (0 : Int32)), .val (.int (2 : Int32)), .val (.int (1 : Int32)), .unset]) rfl k) ?_
    refine own_go (fun _ k => XS.aloadN X0.here hx rfl (hb hby d8_24) rfl rfl k) ?_
    refine own_go (fun _ k => XS.iload X0.here hx rfl (hb hby d8_25) rfl k) ?_
    show own_Run p e below _ s₁ (mkF m 27 #[.val (.ref a1), .val (.int (0 : Int32)), .val (.int (3 : Int32)), .val (.int p4), .val (.int (0 : Int32)), .val (.int (2 : Int32)), .val (.int (1 : Int32)), .unset] [(.int (1 : Int32)), (.ref a1)])
    obtain ⟨cl112, Ar112, q112, S112, N112, H112, G112⟩ := id V_a1
    have hin112 : ¬ ((1 : Int32) < 0 ∨ cl112.slots.size ≤ ((1 : Int32)).toNatClampNeg) := inb_of S112 ⟨by decide, by decide⟩
    refine own_go (X0.iaload hx (j := (1 : Int32)) (v := (.int x1)) (by rw [e0]; exact Ar112.1) (State.isArrayOf_alike hZ.alike Ar112.2.1) Ar112.2.2 hin112 (H112.at hin112 rfl) (g := (mkF m 27 #[.val (.ref a1), .val (.int (0 : Int32)), .val (.int (3 : Int32)), .val (.int p4), .val (.int (0 : Int32)), .val (.int (2 : Int32)), .val (.int (1 : Int32)), .unset] [(.int (1 : Int32)), (.ref a1)])) rfl rfl (hb hby d8_27)) ?_
    show own_Run p e below _ s₁ (mkF m 28 #[.val (.ref a1), .val (.int (0 : Int32)), .val (.int (3 : Int32)), .val (.int p4), .val (.int (0 : Int32)), .val (.int (2 : Int32)), .val (.int (1 : Int32)), .unset] [(.int x1)])
    refine own_go (fun _ k => XS.istore X0.here hx rfl (hb hby d8_28) rfl (l' := #[.val (.ref a1), .val (.int (0 : Int32)), .val (.int (3 : Int32)), .val (.int p4), .val (.int (0 : Int32)), .val (.int (2 : Int32)), .val (.int (1 : Int32)), .val (.int x1)]) rfl k) ?_
    refine own_go (fun _ k => XS.iload X0.here hx rfl (hb hby d8_30) rfl k) ?_
    refine own_go (fun _ k => XS.iloadN X0.here hx rfl (hb hby d8_32) rfl k) ?_
    show own_Run p e below _ s₁ (mkF m 33 #[.val (.ref a1), .val (.int (0 : Int32)), .val (.int (3 : Int32)), .val (.int p4), .val (.int (0 : Int32)), .val (.int (2 : Int32)), .val (.int (1 : Int32)), .val (.int x1)] [(.int p4), (.int x1)])
    refine own_go (fun _ k => XS.icmpYes X0.here hx rfl (pc0 := 33) (pc' := 45) rfl (hb hby d8_33) rfl (flt (own_asym hz1 : ¬ (x1 < p4))).2.1 (by decide) (by decide) k) ?_
    show own_Run p e below _ s₁ (mkF m 45 #[.val (.ref a1), .val (.int (0 : Int32)), .val (.int (3 : Int32)), .val (.int p4), .val (.int (0 : Int32)), .val (.int (2 : Int32)), .val (.int (1 : Int32)), .val (.int x1)] [])
    refine own_go (fun _ k => XS.iload X0.here hx rfl (hb hby d8_45) rfl k) ?_
    refine own_go (fun _ k => XS.iloadN X0.here hx rfl (hb hby d8_47) rfl k) ?_
    show own_Run p e below _ s₁ (mkF m 48 #[.val (.ref a1), .val (.int (0 : Int32)), .val (.int (3 : Int32)), .val (.int p4), .val (.int (0 : Int32)), .val (.int (2 : Int32)), .val (.int (1 : Int32)), .val (.int x1)] [(.int p4), (.int x1)])
    refine own_go (fun _ k => XS.icmpNo X0.here hx rfl (hb hby d8_48) rfl (tlt hz1).2.2.2 k) ?_
    show own_Run p e below _ s₁ (mkF m 51 #[.val (.ref a1), .val (.int (0 : Int32)), .val (.int (3 : Int32)), .val (.int p4), .val (.int (0 : Int32)), .val (.int (2 : Int32)), .val (.int (1 : Int32)), .val (.int x1)] [])
    refine own_go (fun _ k => XS.iload X0.here hx rfl (hb hby d8_51) rfl k) ?_
    refine own_go (fun _ k => XS.iconst X0.here hx rfl (hb hby d8_53) k) ?_
    refine own_go (fun _ k => XS.isub X0.here hx rfl (hb hby d8_54) rfl k) ?_
    show own_Run p e below _ s₁ (mkF m 55 #[.val (.ref a1), .val (.int (0 : Int32)), .val (.int (3 : Int32)), .val (.int p4), .val (.int (0 : Int32)), .val (.int (2 : Int32)), .val (.int (1 : Int32)), .val (.int x1)] [(.int ((1 : Int32) - (1 : Int32)))])
    rw [show ((1 : Int32) - (1 : Int32)) = (0 : Int32) by decide]
    show own_Run p e below _ s₁ (mkF m 55 #[.val (.ref a1), .val (.int (0 : Int32)), .val (.int (3 : Int32)), .val (.int p4), .val (.int (0 : Int32)), .val (.int (2 : Int32)), .val (.int (1 : Int32)), .val (.int x1)] [(.int (0 : Int32))])
    refine own_go (fun _ k => XS.istore X0.here hx rfl (hb hby d8_55) rfl (l' := #[.val (.ref a1), .val (.int (0 : Int32)), .val (.int (3 : Int32)), .val (.int p4), .val (.int (0 : Int32)), .val (.int (0 : Int32)), .val (.int (1 : Int32)), .val (.int x1)]) rfl k) ?_
    refine own_go (fun _ k => XS.goto X0.here hx rfl (pc0 := 57) (pc' := 63) rfl (hb hby d8_57) (by decide) (by decide) k) ?_
    refine own_go (fun _ k => XS.goto X0.here hx rfl (pc0 := 63) (pc' := 8) rfl (hb hby d8_63) (by decide) (by decide) k) ?_
    refine own_go (fun _ k => XS.iload X0.here hx rfl (hb hby d8_8) rfl k) ?_
    show own_Run p e below _ s₁ (mkF m 10 #[.val (.ref a1), .val (.int (0 : Int32)), .val (.int (3 : Int32)), .val (.int p4), .val (.int (0 : Int32)), .val (.int (0 : Int32)), .val (.int (1 : Int32)), .val (.int x1)] [(.int (0 : Int32))])
    refine own_go (fun _ k => XS.iload X0.here hx rfl (hb hby d8_10) rfl k) ?_
    show own_Run p e below _ s₁ (mkF m 12 #[.val (.ref a1), .val (.int (0 : Int32)), .val (.int (3 : Int32)), .val (.int p4), .val (.int (0 : Int32)), .val (.int (0 : Int32)), .val (.int (1 : Int32)), .val (.int x1)] [(.int (0 : Int32)), (.int (0 : Int32))])
    refine own_go (fun _ k => XS.icmpNo X0.here hx rfl (hb hby d8_12) rfl (flt (by decide : ¬ ((0 : Int32) < (0 : Int32)))).2.2.1 k) ?_
    show own_Run p e below _ s₁ (mkF m 15 #[.val (.ref a1), .val (.int (0 : Int32)), .val (.int (3 : Int32)), .val (.int p4), .val (.int (0 : Int32)), .val (.int (0 : Int32)), .val (.int (1 : Int32)), .val (.int x1)] [])
    refine own_go (fun _ k => XS.iload X0.here hx rfl (hb hby d8_15) rfl k) ?_
    refine own_go (fun _ k => XS.iload X0.here hx rfl (hb hby d8_17) rfl k) ?_
    refine own_go (fun _ k => XS.iadd X0.here hx rfl (hb hby d8_19) rfl k) ?_
    show own_Run p e below _ s₁ (mkF m 20 #[.val (.ref a1), .val (.int (0 : Int32)), .val (.int (3 : Int32)), .val (.int p4), .val (.int (0 : Int32)), .val (.int (0 : Int32)), .val (.int (1 : Int32)), .val (.int x1)] [(.int ((0 : Int32) + (0 : Int32)))])
    rw [show ((0 : Int32) + (0 : Int32)) = (0 : Int32) by decide]
    show own_Run p e below _ s₁ (mkF m 20 #[.val (.ref a1), .val (.int (0 : Int32)), .val (.int (3 : Int32)), .val (.int p4), .val (.int (0 : Int32)), .val (.int (0 : Int32)), .val (.int (1 : Int32)), .val (.int x1)] [(.int (0 : Int32))])
    refine own_go (fun _ k => XS.iconst X0.here hx rfl (hb hby d8_20) k) ?_
    refine own_go (fun _ k => XS.iushr X0.here hx rfl (hb hby d8_21) rfl k) ?_
    show own_Run p e below _ s₁ (mkF m 22 #[.val (.ref a1), .val (.int (0 : Int32)), .val (.int (3 : Int32)), .val (.int p4), .val (.int (0 : Int32)), .val (.int (0 : Int32)), .val (.int (1 : Int32)), .val (.int x1)] [(.int (((0 : Int32).toUInt32 >>> ((1 : Int32) &&& 31).toUInt32).toInt32))])
    rw [show (((0 : Int32).toUInt32 >>> ((1 : Int32) &&& 31).toUInt32).toInt32) = (0 : Int32) by decide]
    show own_Run p e below _ s₁ (mkF m 22 #[.val (.ref a1), .val (.int (0 : Int32)), .val (.int (3 : Int32)), .val (.int p4), .val (.int (0 : Int32)), .val (.int (0 : Int32)), .val (.int (1 : Int32)), .val (.int x1)] [(.int (0 : Int32))])
    refine own_go (fun _ k => XS.istore X0.here hx rfl (hb hby d8_22) rfl (l' := #[.val (.ref a1), .val (.int (0 : Int32)), .val (.int (3 : Int32)), .val (.int p4), .val (.int (0 : Int32)), .val (.int (0 : Int32)), .val (.int (0 : Int32)), .val (.int x1)]) rfl k) ?_
    refine own_go (fun _ k => XS.aloadN X0.here hx rfl (hb hby d8_24) rfl rfl k) ?_
    refine own_go (fun _ k => XS.iload X0.here hx rfl (hb hby d8_25) rfl k) ?_
    show own_Run p e below _ s₁ (mkF m 27 #[.val (.ref a1), .val (.int (0 : Int32)), .val (.int (3 : Int32)), .val (.int p4), .val (.int (0 : Int32)), .val (.int (0 : Int32)), .val (.int (0 : Int32)), .val (.int x1)] [(.int (0 : Int32)), (.ref a1)])
    obtain ⟨cl113, Ar113, q113, S113, N113, H113, G113⟩ := id V_a1
    have hin113 : ¬ ((0 : Int32) < 0 ∨ cl113.slots.size ≤ ((0 : Int32)).toNatClampNeg) := inb_of S113 ⟨by decide, by decide⟩
    refine own_go (X0.iaload hx (j := (0 : Int32)) (v := (.int x0)) (by rw [e0]; exact Ar113.1) (State.isArrayOf_alike hZ.alike Ar113.2.1) Ar113.2.2 hin113 (H113.at hin113 rfl) (g := (mkF m 27 #[.val (.ref a1), .val (.int (0 : Int32)), .val (.int (3 : Int32)), .val (.int p4), .val (.int (0 : Int32)), .val (.int (0 : Int32)), .val (.int (0 : Int32)), .val (.int x1)] [(.int (0 : Int32)), (.ref a1)])) rfl rfl (hb hby d8_27)) ?_
    show own_Run p e below _ s₁ (mkF m 28 #[.val (.ref a1), .val (.int (0 : Int32)), .val (.int (3 : Int32)), .val (.int p4), .val (.int (0 : Int32)), .val (.int (0 : Int32)), .val (.int (0 : Int32)), .val (.int x1)] [(.int x0)])
    refine own_go (fun _ k => XS.istore X0.here hx rfl (hb hby d8_28) rfl (l' := #[.val (.ref a1), .val (.int (0 : Int32)), .val (.int (3 : Int32)), .val (.int p4), .val (.int (0 : Int32)), .val (.int (0 : Int32)), .val (.int (0 : Int32)), .val (.int x0)]) rfl k) ?_
    refine own_go (fun _ k => XS.iload X0.here hx rfl (hb hby d8_30) rfl k) ?_
    refine own_go (fun _ k => XS.iloadN X0.here hx rfl (hb hby d8_32) rfl k) ?_
    show own_Run p e below _ s₁ (mkF m 33 #[.val (.ref a1), .val (.int (0 : Int32)), .val (.int (3 : Int32)), .val (.int p4), .val (.int (0 : Int32)), .val (.int (0 : Int32)), .val (.int (0 : Int32)), .val (.int x0)] [(.int p4), (.int x0)])
    refine own_go (fun _ k => XS.icmpYes X0.here hx rfl (pc0 := 33) (pc' := 45) rfl (hb hby d8_33) rfl (flt (by rw [hz0]; exact Int32.lt_irrefl : ¬ (x0 < p4))).2.1 (by decide) (by decide) k) ?_
    show own_Run p e below _ s₁ (mkF m 45 #[.val (.ref a1), .val (.int (0 : Int32)), .val (.int (3 : Int32)), .val (.int p4), .val (.int (0 : Int32)), .val (.int (0 : Int32)), .val (.int (0 : Int32)), .val (.int x0)] [])
    refine own_go (fun _ k => XS.iload X0.here hx rfl (hb hby d8_45) rfl k) ?_
    refine own_go (fun _ k => XS.iloadN X0.here hx rfl (hb hby d8_47) rfl k) ?_
    show own_Run p e below _ s₁ (mkF m 48 #[.val (.ref a1), .val (.int (0 : Int32)), .val (.int (3 : Int32)), .val (.int p4), .val (.int (0 : Int32)), .val (.int (0 : Int32)), .val (.int (0 : Int32)), .val (.int x0)] [(.int p4), (.int x0)])
    refine own_go (fun _ k => XS.icmpYes X0.here hx rfl (pc0 := 48) (pc' := 60) rfl (hb hby d8_48) rfl (flt (by rw [hz0]; exact Int32.lt_irrefl : ¬ (p4 < x0))).2.2.2 (by decide) (by decide) k) ?_
    show own_Run p e below _ s₁ (mkF m 60 #[.val (.ref a1), .val (.int (0 : Int32)), .val (.int (3 : Int32)), .val (.int p4), .val (.int (0 : Int32)), .val (.int (0 : Int32)), .val (.int (0 : Int32)), .val (.int x0)] [])
    refine own_go (fun _ k => XS.iload X0.here hx rfl (hb hby d8_60) rfl k) ?_
    show own_Run p e below _ s₁ (mkF m 62 #[.val (.ref a1), .val (.int (0 : Int32)), .val (.int (3 : Int32)), .val (.int p4), .val (.int (0 : Int32)), .val (.int (0 : Int32)), .val (.int (0 : Int32)), .val (.int x0)] [(.int (0 : Int32))])
    refine own_done (Q := fun v h L => Q8n3 Z a1 p4 k1 x0 x1 x2 x3 x4 x5 x6 x7 (0 : Int32) h0 n0 v h L) (v := (some (.int (0 : Int32)))) X0 (fun h => by rw [hret] at h; cases h) hlk (fun fs hr => own_retI X0 hx hret (hb hby d8_62) hr) ?_ (by decide) (by decide)
    show Q8n3 Z a1 p4 k1 x0 x1 x2 x3 x4 x5 x6 x7 (0 : Int32) h0 n0 _ s₁.heap _
    rw [e0]
    exact ⟨rfl, N0, rfl⟩
  · show own_Run p e below _ s₁ (mkF m 0 #[.val (.ref a1), .val (.int (0 : Int32)), .val (.int (3 : Int32)), .val (.int p4), .unset, .unset, .unset, .unset] [])
    refine own_go (fun _ k => XS.iloadN X0.here hx rfl (hb hby d8_0) rfl k) ?_
    refine own_go (fun _ k => XS.istore X0.here hx rfl (hb hby d8_1) rfl (l' := #[.val (.ref a1), .val (.int (0 : Int32)), .val (.int (3 : Int32)), .val (.int p4), .val (.int (0 : Int32)), .unset, .unset, .unset]) rfl k) ?_
    refine own_go (fun _ k => XS.iloadN X0.here hx rfl (hb hby d8_3) rfl k) ?_
    refine own_go (fun _ k => XS.iconst X0.here hx rfl (hb hby d8_4) k) ?_
    show own_Run p e below _ s₁ (mkF m 5 #[.val (.ref a1), .val (.int (0 : Int32)), .val (.int (3 : Int32)), .val (.int p4), .val (.int (0 : Int32)), .unset, .unset, .unset] [(.int (1 : Int32)), (.int (3 : Int32))])
    refine own_go (fun _ k => XS.isub X0.here hx rfl (hb hby d8_5) rfl k) ?_
    show own_Run p e below _ s₁ (mkF m 6 #[.val (.ref a1), .val (.int (0 : Int32)), .val (.int (3 : Int32)), .val (.int p4), .val (.int (0 : Int32)), .unset, .unset, .unset] [(.int ((3 : Int32) - (1 : Int32)))])
    rw [show ((3 : Int32) - (1 : Int32)) = (2 : Int32) by decide]
    show own_Run p e below _ s₁ (mkF m 6 #[.val (.ref a1), .val (.int (0 : Int32)), .val (.int (3 : Int32)), .val (.int p4), .val (.int (0 : Int32)), .unset, .unset, .unset] [(.int (2 : Int32))])
    refine own_go (fun _ k => XS.istore X0.here hx rfl (hb hby d8_6) rfl (l' := #[.val (.ref a1), .val (.int (0 : Int32)), .val (.int (3 : Int32)), .val (.int p4), .val (.int (0 : Int32)), .val (.int (2 : Int32)), .unset, .unset]) rfl k) ?_
    refine own_go (fun _ k => XS.iload X0.here hx rfl (hb hby d8_8) rfl k) ?_
    refine own_go (fun _ k => XS.iload X0.here hx rfl (hb hby d8_10) rfl k) ?_
    show own_Run p e below _ s₁ (mkF m 12 #[.val (.ref a1), .val (.int (0 : Int32)), .val (.int (3 : Int32)), .val (.int p4), .val (.int (0 : Int32)), .val (.int (2 : Int32)), .unset, .unset] [(.int (2 : Int32)), (.int (0 : Int32))])
    refine own_go (fun _ k => XS.icmpNo X0.here hx rfl (hb hby d8_12) rfl (flt (by decide : ¬ ((2 : Int32) < (0 : Int32)))).2.2.1 k) ?_
    show own_Run p e below _ s₁ (mkF m 15 #[.val (.ref a1), .val (.int (0 : Int32)), .val (.int (3 : Int32)), .val (.int p4), .val (.int (0 : Int32)), .val (.int (2 : Int32)), .unset, .unset] [])
    refine own_go (fun _ k => XS.iload X0.here hx rfl (hb hby d8_15) rfl k) ?_
    refine own_go (fun _ k => XS.iload X0.here hx rfl (hb hby d8_17) rfl k) ?_
    refine own_go (fun _ k => XS.iadd X0.here hx rfl (hb hby d8_19) rfl k) ?_
    show own_Run p e below _ s₁ (mkF m 20 #[.val (.ref a1), .val (.int (0 : Int32)), .val (.int (3 : Int32)), .val (.int p4), .val (.int (0 : Int32)), .val (.int (2 : Int32)), .unset, .unset] [(.int ((0 : Int32) + (2 : Int32)))])
    rw [show ((0 : Int32) + (2 : Int32)) = (2 : Int32) by decide]
    show own_Run p e below _ s₁ (mkF m 20 #[.val (.ref a1), .val (.int (0 : Int32)), .val (.int (3 : Int32)), .val (.int p4), .val (.int (0 : Int32)), .val (.int (2 : Int32)), .unset, .unset] [(.int (2 : Int32))])
    refine own_go (fun _ k => XS.iconst X0.here hx rfl (hb hby d8_20) k) ?_
    refine own_go (fun _ k => XS.iushr X0.here hx rfl (hb hby d8_21) rfl k) ?_
    show own_Run p e below _ s₁ (mkF m 22 #[.val (.ref a1), .val (.int (0 : Int32)), .val (.int (3 : Int32)), .val (.int p4), .val (.int (0 : Int32)), .val (.int (2 : Int32)), .unset, .unset] [(.int (((2 : Int32).toUInt32 >>> ((1 : Int32) &&& 31).toUInt32).toInt32))])
    rw [show (((2 : Int32).toUInt32 >>> ((1 : Int32) &&& 31).toUInt32).toInt32) = (1 : Int32) by decide]
    show own_Run p e below _ s₁ (mkF m 22 #[.val (.ref a1), .val (.int (0 : Int32)), .val (.int (3 : Int32)), .val (.int p4), .val (.int (0 : Int32)), .val (.int (2 : Int32)), .unset, .unset] [(.int (1 : Int32))])
    refine own_go (fun _ k => XS.istore X0.here hx rfl (hb hby d8_22) rfl (l' := #[.val (.ref a1), .val (.int (0 : Int32)), .val (.int (3 : Int32)), .val (.int p4), .val (.int (0 : Int32)), .val (.int (2 : Int32)), .val (.int (1 : Int32)), .unset]) rfl k) ?_
    refine own_go (fun _ k => XS.aloadN X0.here hx rfl (hb hby d8_24) rfl rfl k) ?_
    refine own_go (fun _ k => XS.iload X0.here hx rfl (hb hby d8_25) rfl k) ?_
    show own_Run p e below _ s₁ (mkF m 27 #[.val (.ref a1), .val (.int (0 : Int32)), .val (.int (3 : Int32)), .val (.int p4), .val (.int (0 : Int32)), .val (.int (2 : Int32)), .val (.int (1 : Int32)), .unset] [(.int (1 : Int32)), (.ref a1)])
    obtain ⟨cl114, Ar114, q114, S114, N114, H114, G114⟩ := id V_a1
    have hin114 : ¬ ((1 : Int32) < 0 ∨ cl114.slots.size ≤ ((1 : Int32)).toNatClampNeg) := inb_of S114 ⟨by decide, by decide⟩
    refine own_go (X0.iaload hx (j := (1 : Int32)) (v := (.int x1)) (by rw [e0]; exact Ar114.1) (State.isArrayOf_alike hZ.alike Ar114.2.1) Ar114.2.2 hin114 (H114.at hin114 rfl) (g := (mkF m 27 #[.val (.ref a1), .val (.int (0 : Int32)), .val (.int (3 : Int32)), .val (.int p4), .val (.int (0 : Int32)), .val (.int (2 : Int32)), .val (.int (1 : Int32)), .unset] [(.int (1 : Int32)), (.ref a1)])) rfl rfl (hb hby d8_27)) ?_
    show own_Run p e below _ s₁ (mkF m 28 #[.val (.ref a1), .val (.int (0 : Int32)), .val (.int (3 : Int32)), .val (.int p4), .val (.int (0 : Int32)), .val (.int (2 : Int32)), .val (.int (1 : Int32)), .unset] [(.int x1)])
    refine own_go (fun _ k => XS.istore X0.here hx rfl (hb hby d8_28) rfl (l' := #[.val (.ref a1), .val (.int (0 : Int32)), .val (.int (3 : Int32)), .val (.int p4), .val (.int (0 : Int32)), .val (.int (2 : Int32)), .val (.int (1 : Int32)), .val (.int x1)]) rfl k) ?_
    refine own_go (fun _ k => XS.iload X0.here hx rfl (hb hby d8_30) rfl k) ?_
    refine own_go (fun _ k => XS.iloadN X0.here hx rfl (hb hby d8_32) rfl k) ?_
    show own_Run p e below _ s₁ (mkF m 33 #[.val (.ref a1), .val (.int (0 : Int32)), .val (.int (3 : Int32)), .val (.int p4), .val (.int (0 : Int32)), .val (.int (2 : Int32)), .val (.int (1 : Int32)), .val (.int x1)] [(.int p4), (.int x1)])
    refine own_go (fun _ k => XS.icmpYes X0.here hx rfl (pc0 := 33) (pc' := 45) rfl (hb hby d8_33) rfl (flt (own_asym hz1 : ¬ (x1 < p4))).2.1 (by decide) (by decide) k) ?_
    show own_Run p e below _ s₁ (mkF m 45 #[.val (.ref a1), .val (.int (0 : Int32)), .val (.int (3 : Int32)), .val (.int p4), .val (.int (0 : Int32)), .val (.int (2 : Int32)), .val (.int (1 : Int32)), .val (.int x1)] [])
    refine own_go (fun _ k => XS.iload X0.here hx rfl (hb hby d8_45) rfl k) ?_
    refine own_go (fun _ k => XS.iloadN X0.here hx rfl (hb hby d8_47) rfl k) ?_
    show own_Run p e below _ s₁ (mkF m 48 #[.val (.ref a1), .val (.int (0 : Int32)), .val (.int (3 : Int32)), .val (.int p4), .val (.int (0 : Int32)), .val (.int (2 : Int32)), .val (.int (1 : Int32)), .val (.int x1)] [(.int p4), (.int x1)])
    refine own_go (fun _ k => XS.icmpNo X0.here hx rfl (hb hby d8_48) rfl (tlt hz1).2.2.2 k) ?_
    show own_Run p e below _ s₁ (mkF m 51 #[.val (.ref a1), .val (.int (0 : Int32)), .val (.int (3 : Int32)), .val (.int p4), .val (.int (0 : Int32)), .val (.int (2 : Int32)), .val (.int (1 : Int32)), .val (.int x1)] [])
    refine own_go (fun _ k => XS.iload X0.here hx rfl (hb hby d8_51) rfl k) ?_
    refine own_go (fun _ k => XS.iconst X0.here hx rfl (hb hby d8_53) k) ?_
    refine own_go (fun _ k => XS.isub X0.here hx rfl (hb hby d8_54) rfl k) ?_
    show own_Run p e below _ s₁ (mkF m 55 #[.val (.ref a1), .val (.int (0 : Int32)), .val (.int (3 : Int32)), .val (.int p4), .val (.int (0 : Int32)), .val (.int (2 : Int32)), .val (.int (1 : Int32)), .val (.int x1)] [(.int ((1 : Int32) - (1 : Int32)))])
    rw [show ((1 : Int32) - (1 : Int32)) = (0 : Int32) by decide]
    show own_Run p e below _ s₁ (mkF m 55 #[.val (.ref a1), .val (.int (0 : Int32)), .val (.int (3 : Int32)), .val (.int p4), .val (.int (0 : Int32)), .val (.int (2 : Int32)), .val (.int (1 : Int32)), .val (.int x1)] [(.int (0 : Int32))])
    refine own_go (fun _ k => XS.istore X0.here hx rfl (hb hby d8_55) rfl (l' := #[.val (.ref a1), .val (.int (0 : Int32)), .val (.int (3 : Int32)), .val (.int p4), .val (.int (0 : Int32)), .val (.int (0 : Int32)), .val (.int (1 : Int32)), .val (.int x1)]) rfl k) ?_
    refine own_go (fun _ k => XS.goto X0.here hx rfl (pc0 := 57) (pc' := 63) rfl (hb hby d8_57) (by decide) (by decide) k) ?_
    refine own_go (fun _ k => XS.goto X0.here hx rfl (pc0 := 63) (pc' := 8) rfl (hb hby d8_63) (by decide) (by decide) k) ?_
    refine own_go (fun _ k => XS.iload X0.here hx rfl (hb hby d8_8) rfl k) ?_
    show own_Run p e below _ s₁ (mkF m 10 #[.val (.ref a1), .val (.int (0 : Int32)), .val (.int (3 : Int32)), .val (.int p4), .val (.int (0 : Int32)), .val (.int (0 : Int32)), .val (.int (1 : Int32)), .val (.int x1)] [(.int (0 : Int32))])
    refine own_go (fun _ k => XS.iload X0.here hx rfl (hb hby d8_10) rfl k) ?_
    show own_Run p e below _ s₁ (mkF m 12 #[.val (.ref a1), .val (.int (0 : Int32)), .val (.int (3 : Int32)), .val (.int p4), .val (.int (0 : Int32)), .val (.int (0 : Int32)), .val (.int (1 : Int32)), .val (.int x1)] [(.int (0 : Int32)), (.int (0 : Int32))])
    refine own_go (fun _ k => XS.icmpNo X0.here hx rfl (hb hby d8_12) rfl (flt (by decide : ¬ ((0 : Int32) < (0 : Int32)))).2.2.1 k) ?_
    show own_Run p e below _ s₁ (mkF m 15 #[.val (.ref a1), .val (.int (0 : Int32)), .val (.int (3 : Int32)), .val (.int p4), .val (.int (0 : Int32)), .val (.int (0 : Int32)), .val (.int (1 : Int32)), .val (.int x1)] [])
    refine own_go (fun _ k => XS.iload X0.here hx rfl (hb hby d8_15) rfl k) ?_
    refine own_go (fun _ k => XS.iload X0.here hx rfl (hb hby d8_17) rfl k) ?_
    refine own_go (fun _ k => XS.iadd X0.here hx rfl (hb hby d8_19) rfl k) ?_
    show own_Run p e below _ s₁ (mkF m 20 #[.val (.ref a1), .val (.int (0 : Int32)), .val (.int (3 : Int32)), .val (.int p4), .val (.int (0 : Int32)), .val (.int (0 : Int32)), .val (.int (1 : Int32)), .val (.int x1)] [(.int ((0 : Int32) + (0 : Int32)))])
    rw [show ((0 : Int32) + (0 : Int32)) = (0 : Int32) by decide]
    show own_Run p e below _ s₁ (mkF m 20 #[.val (.ref a1), .val (.int (0 : Int32)), .val (.int (3 : Int32)), .val (.int p4), .val (.int (0 : Int32)), .val (.int (0 : Int32)), .val (.int (1 : Int32)), .val (.int x1)] [(.int (0 : Int32))])
    refine own_go (fun _ k => XS.iconst X0.here hx rfl (hb hby d8_20) k) ?_
    refine own_go (fun _ k => XS.iushr X0.here hx rfl (hb hby d8_21) rfl k) ?_
    show own_Run p e below _ s₁ (mkF m 22 #[.val (.ref a1), .val (.int (0 : Int32)), .val (.int (3 : Int32)), .val (.int p4), .val (.int (0 : Int32)), .val (.int (0 : Int32)), .val (.int (1 : Int32)), .val (.int x1)] [(.int (((0 : Int32).toUInt32 >>> ((1 : Int32) &&& 31).toUInt32).toInt32))])
    rw [show (((0 : Int32).toUInt32 >>> ((1 : Int32) &&& 31).toUInt32).toInt32) = (0 : Int32) by decide]
    show own_Run p e below _ s₁ (mkF m 22 #[.val (.ref a1), .val (.int (0 : Int32)), .val (.int (3 : Int32)), .val (.int p4), .val (.int (0 : Int32)), .val (.int (0 : Int32)), .val (.int (1 : Int32)), .val (.int x1)] [(.int (0 : Int32))])
    refine own_go (fun _ k => XS.istore X0.here hx rfl (hb hby d8_22) rfl (l' := #[.val (.ref a1), .val (.int (0 : Int32)), .val (.int (3 : Int32)), .val (.int p4), .val (.int (0 : Int32)), .val (.int (0 : Int32)), .val (.int (0 : Int32)), .val (.int x1)]) rfl k) ?_
    refine own_go (fun _ k => XS.aloadN X0.here hx rfl (hb hby d8_24) rfl rfl k) ?_
    refine own_go (fun _ k => XS.iload X0.here hx rfl (hb hby d8_25) rfl k) ?_
    show own_Run p e below _ s₁ (mkF m 27 #[.val (.ref a1), .val (.int (0 : Int32)), .val (.int (3 : Int32)), .val (.int p4), .val (.int (0 : Int32)), .val (.int (0 : Int32)), .val (.int (0 : Int32)), .val (.int x1)] [(.int (0 : Int32)), (.ref a1)])
    obtain ⟨cl115, Ar115, q115, S115, N115, H115, G115⟩ := id V_a1
    have hin115 : ¬ ((0 : Int32) < 0 ∨ cl115.slots.size ≤ ((0 : Int32)).toNatClampNeg) := inb_of S115 ⟨by decide, by decide⟩
    refine own_go (X0.iaload hx (j := (0 : Int32)) (v := (.int x0)) (by rw [e0]; exact Ar115.1) (State.isArrayOf_alike hZ.alike Ar115.2.1) Ar115.2.2 hin115 (H115.at hin115 rfl) (g := (mkF m 27 #[.val (.ref a1), .val (.int (0 : Int32)), .val (.int (3 : Int32)), .val (.int p4), .val (.int (0 : Int32)), .val (.int (0 : Int32)), .val (.int (0 : Int32)), .val (.int x1)] [(.int (0 : Int32)), (.ref a1)])) rfl rfl (hb hby d8_27)) ?_
    show own_Run p e below _ s₁ (mkF m 28 #[.val (.ref a1), .val (.int (0 : Int32)), .val (.int (3 : Int32)), .val (.int p4), .val (.int (0 : Int32)), .val (.int (0 : Int32)), .val (.int (0 : Int32)), .val (.int x1)] [(.int x0)])
    refine own_go (fun _ k => XS.istore X0.here hx rfl (hb hby d8_28) rfl (l' := #[.val (.ref a1), .val (.int (0 : Int32)), .val (.int (3 : Int32)), .val (.int p4), .val (.int (0 : Int32)), .val (.int (0 : Int32)), .val (.int (0 : Int32)), .val (.int x0)]) rfl k) ?_
    refine own_go (fun _ k => XS.iload X0.here hx rfl (hb hby d8_30) rfl k) ?_
    refine own_go (fun _ k => XS.iloadN X0.here hx rfl (hb hby d8_32) rfl k) ?_
    show own_Run p e below _ s₁ (mkF m 33 #[.val (.ref a1), .val (.int (0 : Int32)), .val (.int (3 : Int32)), .val (.int p4), .val (.int (0 : Int32)), .val (.int (0 : Int32)), .val (.int (0 : Int32)), .val (.int x0)] [(.int p4), (.int x0)])
    refine own_go (fun _ k => XS.icmpYes X0.here hx rfl (pc0 := 33) (pc' := 45) rfl (hb hby d8_33) rfl (flt (own_asym hz0 : ¬ (x0 < p4))).2.1 (by decide) (by decide) k) ?_
    show own_Run p e below _ s₁ (mkF m 45 #[.val (.ref a1), .val (.int (0 : Int32)), .val (.int (3 : Int32)), .val (.int p4), .val (.int (0 : Int32)), .val (.int (0 : Int32)), .val (.int (0 : Int32)), .val (.int x0)] [])
    refine own_go (fun _ k => XS.iload X0.here hx rfl (hb hby d8_45) rfl k) ?_
    refine own_go (fun _ k => XS.iloadN X0.here hx rfl (hb hby d8_47) rfl k) ?_
    show own_Run p e below _ s₁ (mkF m 48 #[.val (.ref a1), .val (.int (0 : Int32)), .val (.int (3 : Int32)), .val (.int p4), .val (.int (0 : Int32)), .val (.int (0 : Int32)), .val (.int (0 : Int32)), .val (.int x0)] [(.int p4), (.int x0)])
    refine own_go (fun _ k => XS.icmpNo X0.here hx rfl (hb hby d8_48) rfl (tlt hz0).2.2.2 k) ?_
    show own_Run p e below _ s₁ (mkF m 51 #[.val (.ref a1), .val (.int (0 : Int32)), .val (.int (3 : Int32)), .val (.int p4), .val (.int (0 : Int32)), .val (.int (0 : Int32)), .val (.int (0 : Int32)), .val (.int x0)] [])
    refine own_go (fun _ k => XS.iload X0.here hx rfl (hb hby d8_51) rfl k) ?_
    refine own_go (fun _ k => XS.iconst X0.here hx rfl (hb hby d8_53) k) ?_
    refine own_go (fun _ k => XS.isub X0.here hx rfl (hb hby d8_54) rfl k) ?_
    show own_Run p e below _ s₁ (mkF m 55 #[.val (.ref a1), .val (.int (0 : Int32)), .val (.int (3 : Int32)), .val (.int p4), .val (.int (0 : Int32)), .val (.int (0 : Int32)), .val (.int (0 : Int32)), .val (.int x0)] [(.int ((0 : Int32) - (1 : Int32)))])
    rw [show ((0 : Int32) - (1 : Int32)) = (-1 : Int32) by decide]
    show own_Run p e below _ s₁ (mkF m 55 #[.val (.ref a1), .val (.int (0 : Int32)), .val (.int (3 : Int32)), .val (.int p4), .val (.int (0 : Int32)), .val (.int (0 : Int32)), .val (.int (0 : Int32)), .val (.int x0)] [(.int (-1 : Int32))])
    refine own_go (fun _ k => XS.istore X0.here hx rfl (hb hby d8_55) rfl (l' := #[.val (.ref a1), .val (.int (0 : Int32)), .val (.int (3 : Int32)), .val (.int p4), .val (.int (0 : Int32)), .val (.int (-1 : Int32)), .val (.int (0 : Int32)), .val (.int x0)]) rfl k) ?_
    refine own_go (fun _ k => XS.goto X0.here hx rfl (pc0 := 57) (pc' := 63) rfl (hb hby d8_57) (by decide) (by decide) k) ?_
    refine own_go (fun _ k => XS.goto X0.here hx rfl (pc0 := 63) (pc' := 8) rfl (hb hby d8_63) (by decide) (by decide) k) ?_
    refine own_go (fun _ k => XS.iload X0.here hx rfl (hb hby d8_8) rfl k) ?_
    show own_Run p e below _ s₁ (mkF m 10 #[.val (.ref a1), .val (.int (0 : Int32)), .val (.int (3 : Int32)), .val (.int p4), .val (.int (0 : Int32)), .val (.int (-1 : Int32)), .val (.int (0 : Int32)), .val (.int x0)] [(.int (0 : Int32))])
    refine own_go (fun _ k => XS.iload X0.here hx rfl (hb hby d8_10) rfl k) ?_
    show own_Run p e below _ s₁ (mkF m 12 #[.val (.ref a1), .val (.int (0 : Int32)), .val (.int (3 : Int32)), .val (.int p4), .val (.int (0 : Int32)), .val (.int (-1 : Int32)), .val (.int (0 : Int32)), .val (.int x0)] [(.int (-1 : Int32)), (.int (0 : Int32))])
    refine own_go (fun _ k => XS.icmpYes X0.here hx rfl (pc0 := 12) (pc' := 66) rfl (hb hby d8_12) rfl (tlt (by decide : (-1 : Int32) < (0 : Int32))).2.2.1 (by decide) (by decide) k) ?_
    show own_Run p e below _ s₁ (mkF m 66 #[.val (.ref a1), .val (.int (0 : Int32)), .val (.int (3 : Int32)), .val (.int p4), .val (.int (0 : Int32)), .val (.int (-1 : Int32)), .val (.int (0 : Int32)), .val (.int x0)] [])
    refine own_go (fun _ k => XS.iload X0.here hx rfl (hb hby d8_66) rfl k) ?_
    refine own_go (fun _ k => XS.iconst X0.here hx rfl (hb hby d8_68) k) ?_
    refine own_go (fun _ k => XS.iadd X0.here hx rfl (hb hby d8_69) rfl k) ?_
    show own_Run p e below _ s₁ (mkF m 70 #[.val (.ref a1), .val (.int (0 : Int32)), .val (.int (3 : Int32)), .val (.int p4), .val (.int (0 : Int32)), .val (.int (-1 : Int32)), .val (.int (0 : Int32)), .val (.int x0)] [(.int ((0 : Int32) + (1 : Int32)))])
    rw [show ((0 : Int32) + (1 : Int32)) = (1 : Int32) by decide]
    show own_Run p e below _ s₁ (mkF m 70 #[.val (.ref a1), .val (.int (0 : Int32)), .val (.int (3 : Int32)), .val (.int p4), .val (.int (0 : Int32)), .val (.int (-1 : Int32)), .val (.int (0 : Int32)), .val (.int x0)] [(.int (1 : Int32))])
    refine own_go (fun _ k => XS.ineg X0.here hx rfl (hb hby d8_70) rfl k) ?_
    show own_Run p e below _ s₁ (mkF m 71 #[.val (.ref a1), .val (.int (0 : Int32)), .val (.int (3 : Int32)), .val (.int p4), .val (.int (0 : Int32)), .val (.int (-1 : Int32)), .val (.int (0 : Int32)), .val (.int x0)] [(.int (-(1 : Int32)))])
    rw [show (-(1 : Int32)) = (-1 : Int32) by decide]
    show own_Run p e below _ s₁ (mkF m 71 #[.val (.ref a1), .val (.int (0 : Int32)), .val (.int (3 : Int32)), .val (.int p4), .val (.int (0 : Int32)), .val (.int (-1 : Int32)), .val (.int (0 : Int32)), .val (.int x0)] [(.int (-1 : Int32))])
    refine own_done (Q := fun v h L => Q8n3 Z a1 p4 k1 x0 x1 x2 x3 x4 x5 x6 x7 (-1 : Int32) h0 n0 v h L) (v := (some (.int (-1 : Int32)))) X0 (fun h => by rw [hret] at h; cases h) hlk (fun fs hr => own_retI X0 hx hret (hb hby d8_71) hr) ?_ (by decide) (by decide)
    show Q8n3 Z a1 p4 k1 x0 x1 x2 x3 x4 x5 x6 x7 (-1 : Int32) h0 n0 _ s₁.heap _
    rw [e0]
    exact ⟨rfl, N0, rfl⟩
  · show own_Run p e below _ s₁ (mkF m 0 #[.val (.ref a1), .val (.int (0 : Int32)), .val (.int (3 : Int32)), .val (.int p4), .unset, .unset, .unset, .unset] [])
    refine own_go (fun _ k => XS.iloadN X0.here hx rfl (hb hby d8_0) rfl k) ?_
    refine own_go (fun _ k => XS.istore X0.here hx rfl (hb hby d8_1) rfl (l' := #[.val (.ref a1), .val (.int (0 : Int32)), .val (.int (3 : Int32)), .val (.int p4), .val (.int (0 : Int32)), .unset, .unset, .unset]) rfl k) ?_
    refine own_go (fun _ k => XS.iloadN X0.here hx rfl (hb hby d8_3) rfl k) ?_
    refine own_go (fun _ k => XS.iconst X0.here hx rfl (hb hby d8_4) k) ?_
    show own_Run p e below _ s₁ (mkF m 5 #[.val (.ref a1), .val (.int (0 : Int32)), .val (.int (3 : Int32)), .val (.int p4), .val (.int (0 : Int32)), .unset, .unset, .unset] [(.int (1 : Int32)), (.int (3 : Int32))])
    refine own_go (fun _ k => XS.isub X0.here hx rfl (hb hby d8_5) rfl k) ?_
    show own_Run p e below _ s₁ (mkF m 6 #[.val (.ref a1), .val (.int (0 : Int32)), .val (.int (3 : Int32)), .val (.int p4), .val (.int (0 : Int32)), .unset, .unset, .unset] [(.int ((3 : Int32) - (1 : Int32)))])
    rw [show ((3 : Int32) - (1 : Int32)) = (2 : Int32) by decide]
    show own_Run p e below _ s₁ (mkF m 6 #[.val (.ref a1), .val (.int (0 : Int32)), .val (.int (3 : Int32)), .val (.int p4), .val (.int (0 : Int32)), .unset, .unset, .unset] [(.int (2 : Int32))])
    refine own_go (fun _ k => XS.istore X0.here hx rfl (hb hby d8_6) rfl (l' := #[.val (.ref a1), .val (.int (0 : Int32)), .val (.int (3 : Int32)), .val (.int p4), .val (.int (0 : Int32)), .val (.int (2 : Int32)), .unset, .unset]) rfl k) ?_
    refine own_go (fun _ k => XS.iload X0.here hx rfl (hb hby d8_8) rfl k) ?_
    refine own_go (fun _ k => XS.iload X0.here hx rfl (hb hby d8_10) rfl k) ?_
    show own_Run p e below _ s₁ (mkF m 12 #[.val (.ref a1), .val (.int (0 : Int32)), .val (.int (3 : Int32)), .val (.int p4), .val (.int (0 : Int32)), .val (.int (2 : Int32)), .unset, .unset] [(.int (2 : Int32)), (.int (0 : Int32))])
    refine own_go (fun _ k => XS.icmpNo X0.here hx rfl (hb hby d8_12) rfl (flt (by decide : ¬ ((2 : Int32) < (0 : Int32)))).2.2.1 k) ?_
    show own_Run p e below _ s₁ (mkF m 15 #[.val (.ref a1), .val (.int (0 : Int32)), .val (.int (3 : Int32)), .val (.int p4), .val (.int (0 : Int32)), .val (.int (2 : Int32)), .unset, .unset] [])
    refine own_go (fun _ k => XS.iload X0.here hx rfl (hb hby d8_15) rfl k) ?_
    refine own_go (fun _ k => XS.iload X0.here hx rfl (hb hby d8_17) rfl k) ?_
    refine own_go (fun _ k => XS.iadd X0.here hx rfl (hb hby d8_19) rfl k) ?_
    show own_Run p e below _ s₁ (mkF m 20 #[.val (.ref a1), .val (.int (0 : Int32)), .val (.int (3 : Int32)), .val (.int p4), .val (.int (0 : Int32)), .val (.int (2 : Int32)), .unset, .unset] [(.int ((0 : Int32) + (2 : Int32)))])
    rw [show ((0 : Int32) + (2 : Int32)) = (2 : Int32) by decide]
    show own_Run p e below _ s₁ (mkF m 20 #[.val (.ref a1), .val (.int (0 : Int32)), .val (.int (3 : Int32)), .val (.int p4), .val (.int (0 : Int32)), .val (.int (2 : Int32)), .unset, .unset] [(.int (2 : Int32))])
    refine own_go (fun _ k => XS.iconst X0.here hx rfl (hb hby d8_20) k) ?_
    refine own_go (fun _ k => XS.iushr X0.here hx rfl (hb hby d8_21) rfl k) ?_
    show own_Run p e below _ s₁ (mkF m 22 #[.val (.ref a1), .val (.int (0 : Int32)), .val (.int (3 : Int32)), .val (.int p4), .val (.int (0 : Int32)), .val (.int (2 : Int32)), .unset, .unset] [(.int (((2 : Int32).toUInt32 >>> ((1 : Int32) &&& 31).toUInt32).toInt32))])
    rw [show (((2 : Int32).toUInt32 >>> ((1 : Int32) &&& 31).toUInt32).toInt32) = (1 : Int32) by decide]
    show own_Run p e below _ s₁ (mkF m 22 #[.val (.ref a1), .val (.int (0 : Int32)), .val (.int (3 : Int32)), .val (.int p4), .val (.int (0 : Int32)), .val (.int (2 : Int32)), .unset, .unset] [(.int (1 : Int32))])
    refine own_go (fun _ k => XS.istore X0.here hx rfl (hb hby d8_22) rfl (l' := #[.val (.ref a1), .val (.int (0 : Int32)), .val (.int (3 : Int32)), .val (.int p4), .val (.int (0 : Int32)), .val (.int (2 : Int32)), .val (.int (1 : Int32)), .unset]) rfl k) ?_
    refine own_go (fun _ k => XS.aloadN X0.here hx rfl (hb hby d8_24) rfl rfl k) ?_
    refine own_go (fun _ k => XS.iload X0.here hx rfl (hb hby d8_25) rfl k) ?_
    show own_Run p e below _ s₁ (mkF m 27 #[.val (.ref a1), .val (.int (0 : Int32)), .val (.int (3 : Int32)), .val (.int p4), .val (.int (0 : Int32)), .val (.int (2 : Int32)), .val (.int (1 : Int32)), .unset] [(.int (1 : Int32)), (.ref a1)])
    obtain ⟨cl116, Ar116, q116, S116, N116, H116, G116⟩ := id V_a1
    have hin116 : ¬ ((1 : Int32) < 0 ∨ cl116.slots.size ≤ ((1 : Int32)).toNatClampNeg) := inb_of S116 ⟨by decide, by decide⟩
    refine own_go (X0.iaload hx (j := (1 : Int32)) (v := (.int x1)) (by rw [e0]; exact Ar116.1) (State.isArrayOf_alike hZ.alike Ar116.2.1) Ar116.2.2 hin116 (H116.at hin116 rfl) (g := (mkF m 27 #[.val (.ref a1), .val (.int (0 : Int32)), .val (.int (3 : Int32)), .val (.int p4), .val (.int (0 : Int32)), .val (.int (2 : Int32)), .val (.int (1 : Int32)), .unset] [(.int (1 : Int32)), (.ref a1)])) rfl rfl (hb hby d8_27)) ?_
    show own_Run p e below _ s₁ (mkF m 28 #[.val (.ref a1), .val (.int (0 : Int32)), .val (.int (3 : Int32)), .val (.int p4), .val (.int (0 : Int32)), .val (.int (2 : Int32)), .val (.int (1 : Int32)), .unset] [(.int x1)])
    refine own_go (fun _ k => XS.istore X0.here hx rfl (hb hby d8_28) rfl (l' := #[.val (.ref a1), .val (.int (0 : Int32)), .val (.int (3 : Int32)), .val (.int p4), .val (.int (0 : Int32)), .val (.int (2 : Int32)), .val (.int (1 : Int32)), .val (.int x1)]) rfl k) ?_
    refine own_go (fun _ k => XS.iload X0.here hx rfl (hb hby d8_30) rfl k) ?_
    refine own_go (fun _ k => XS.iloadN X0.here hx rfl (hb hby d8_32) rfl k) ?_
    show own_Run p e below _ s₁ (mkF m 33 #[.val (.ref a1), .val (.int (0 : Int32)), .val (.int (3 : Int32)), .val (.int p4), .val (.int (0 : Int32)), .val (.int (2 : Int32)), .val (.int (1 : Int32)), .val (.int x1)] [(.int p4), (.int x1)])
    refine own_go (fun _ k => XS.icmpYes X0.here hx rfl (pc0 := 33) (pc' := 45) rfl (hb hby d8_33) rfl (flt (by rw [hz1]; exact Int32.lt_irrefl : ¬ (x1 < p4))).2.1 (by decide) (by decide) k) ?_
    show own_Run p e below _ s₁ (mkF m 45 #[.val (.ref a1), .val (.int (0 : Int32)), .val (.int (3 : Int32)), .val (.int p4), .val (.int (0 : Int32)), .val (.int (2 : Int32)), .val (.int (1 : Int32)), .val (.int x1)] [])
    refine own_go (fun _ k => XS.iload X0.here hx rfl (hb hby d8_45) rfl k) ?_
    refine own_go (fun _ k => XS.iloadN X0.here hx rfl (hb hby d8_47) rfl k) ?_
    show own_Run p e below _ s₁ (mkF m 48 #[.val (.ref a1), .val (.int (0 : Int32)), .val (.int (3 : Int32)), .val (.int p4), .val (.int (0 : Int32)), .val (.int (2 : Int32)), .val (.int (1 : Int32)), .val (.int x1)] [(.int p4), (.int x1)])
    refine own_go (fun _ k => XS.icmpYes X0.here hx rfl (pc0 := 48) (pc' := 60) rfl (hb hby d8_48) rfl (flt (by rw [hz1]; exact Int32.lt_irrefl : ¬ (p4 < x1))).2.2.2 (by decide) (by decide) k) ?_
    show own_Run p e below _ s₁ (mkF m 60 #[.val (.ref a1), .val (.int (0 : Int32)), .val (.int (3 : Int32)), .val (.int p4), .val (.int (0 : Int32)), .val (.int (2 : Int32)), .val (.int (1 : Int32)), .val (.int x1)] [])
    refine own_go (fun _ k => XS.iload X0.here hx rfl (hb hby d8_60) rfl k) ?_
    show own_Run p e below _ s₁ (mkF m 62 #[.val (.ref a1), .val (.int (0 : Int32)), .val (.int (3 : Int32)), .val (.int p4), .val (.int (0 : Int32)), .val (.int (2 : Int32)), .val (.int (1 : Int32)), .val (.int x1)] [(.int (1 : Int32))])
    refine own_done (Q := fun v h L => Q8n3 Z a1 p4 k1 x0 x1 x2 x3 x4 x5 x6 x7 (1 : Int32) h0 n0 v h L) (v := (some (.int (1 : Int32)))) X0 (fun h => by rw [hret] at h; cases h) hlk (fun fs hr => own_retI X0 hx hret (hb hby d8_62) hr) ?_ (by decide) (by decide)
    show Q8n3 Z a1 p4 k1 x0 x1 x2 x3 x4 x5 x6 x7 (1 : Int32) h0 n0 _ s₁.heap _
    rw [e0]
    exact ⟨rfl, N0, rfl⟩
  · show own_Run p e below _ s₁ (mkF m 0 #[.val (.ref a1), .val (.int (0 : Int32)), .val (.int (3 : Int32)), .val (.int p4), .unset, .unset, .unset, .unset] [])
    refine own_go (fun _ k => XS.iloadN X0.here hx rfl (hb hby d8_0) rfl k) ?_
    refine own_go (fun _ k => XS.istore X0.here hx rfl (hb hby d8_1) rfl (l' := #[.val (.ref a1), .val (.int (0 : Int32)), .val (.int (3 : Int32)), .val (.int p4), .val (.int (0 : Int32)), .unset, .unset, .unset]) rfl k) ?_
    refine own_go (fun _ k => XS.iloadN X0.here hx rfl (hb hby d8_3) rfl k) ?_
    refine own_go (fun _ k => XS.iconst X0.here hx rfl (hb hby d8_4) k) ?_
    show own_Run p e below _ s₁ (mkF m 5 #[.val (.ref a1), .val (.int (0 : Int32)), .val (.int (3 : Int32)), .val (.int p4), .val (.int (0 : Int32)), .unset, .unset, .unset] [(.int (1 : Int32)), (.int (3 : Int32))])
    refine own_go (fun _ k => XS.isub X0.here hx rfl (hb hby d8_5) rfl k) ?_
    show own_Run p e below _ s₁ (mkF m 6 #[.val (.ref a1), .val (.int (0 : Int32)), .val (.int (3 : Int32)), .val (.int p4), .val (.int (0 : Int32)), .unset, .unset, .unset] [(.int ((3 : Int32) - (1 : Int32)))])
    rw [show ((3 : Int32) - (1 : Int32)) = (2 : Int32) by decide]
    show own_Run p e below _ s₁ (mkF m 6 #[.val (.ref a1), .val (.int (0 : Int32)), .val (.int (3 : Int32)), .val (.int p4), .val (.int (0 : Int32)), .unset, .unset, .unset] [(.int (2 : Int32))])
    refine own_go (fun _ k => XS.istore X0.here hx rfl (hb hby d8_6) rfl (l' := #[.val (.ref a1), .val (.int (0 : Int32)), .val (.int (3 : Int32)), .val (.int p4), .val (.int (0 : Int32)), .val (.int (2 : Int32)), .unset, .unset]) rfl k) ?_
    refine own_go (fun _ k => XS.iload X0.here hx rfl (hb hby d8_8) rfl k) ?_
    refine own_go (fun _ k => XS.iload X0.here hx rfl (hb hby d8_10) rfl k) ?_
    show own_Run p e below _ s₁ (mkF m 12 #[.val (.ref a1), .val (.int (0 : Int32)), .val (.int (3 : Int32)), .val (.int p4), .val (.int (0 : Int32)), .val (.int (2 : Int32)), .unset, .unset] [(.int (2 : Int32)), (.int (0 : Int32))])
    refine own_go (fun _ k => XS.icmpNo X0.here hx rfl (hb hby d8_12) rfl (flt (by decide : ¬ ((2 : Int32) < (0 : Int32)))).2.2.1 k) ?_
    show own_Run p e below _ s₁ (mkF m 15 #[.val (.ref a1), .val (.int (0 : Int32)), .val (.int (3 : Int32)), .val (.int p4), .val (.int (0 : Int32)), .val (.int (2 : Int32)), .unset, .unset] [])
    refine own_go (fun _ k => XS.iload X0.here hx rfl (hb hby d8_15) rfl k) ?_
    refine own_go (fun _ k => XS.iload X0.here hx rfl (hb hby d8_17) rfl k) ?_
    refine own_go (fun _ k => XS.iadd X0.here hx rfl (hb hby d8_19) rfl k) ?_
    show own_Run p e below _ s₁ (mkF m 20 #[.val (.ref a1), .val (.int (0 : Int32)), .val (.int (3 : Int32)), .val (.int p4), .val (.int (0 : Int32)), .val (.int (2 : Int32)), .unset, .unset] [(.int ((0 : Int32) + (2 : Int32)))])
    rw [show ((0 : Int32) + (2 : Int32)) = (2 : Int32) by decide]
    show own_Run p e below _ s₁ (mkF m 20 #[.val (.ref a1), .val (.int (0 : Int32)), .val (.int (3 : Int32)), .val (.int p4), .val (.int (0 : Int32)), .val (.int (2 : Int32)), .unset, .unset] [(.int (2 : Int32))])
    refine own_go (fun _ k => XS.iconst X0.here hx rfl (hb hby d8_20) k) ?_
    refine own_go (fun _ k => XS.iushr X0.here hx rfl (hb hby d8_21) rfl k) ?_
    show own_Run p e below _ s₁ (mkF m 22 #[.val (.ref a1), .val (.int (0 : Int32)), .val (.int (3 : Int32)), .val (.int p4), .val (.int (0 : Int32)), .val (.int (2 : Int32)), .unset, .unset] [(.int (((2 : Int32).toUInt32 >>> ((1 : Int32) &&& 31).toUInt32).toInt32))])
    rw [show (((2 : Int32).toUInt32 >>> ((1 : Int32) &&& 31).toUInt32).toInt32) = (1 : Int32) by decide]
    show own_Run p e below _ s₁ (mkF m 22 #[.val (.ref a1), .val (.int (0 : Int32)), .val (.int (3 : Int32)), .val (.int p4), .val (.int (0 : Int32)), .val (.int (2 : Int32)), .unset, .unset] [(.int (1 : Int32))])
    refine own_go (fun _ k => XS.istore X0.here hx rfl (hb hby d8_22) rfl (l' := #[.val (.ref a1), .val (.int (0 : Int32)), .val (.int (3 : Int32)), .val (.int p4), .val (.int (0 : Int32)), .val (.int (2 : Int32)), .val (.int (1 : Int32)), .unset]) rfl k) ?_
    refine own_go (fun _ k => XS.aloadN X0.here hx rfl (hb hby d8_24) rfl rfl k) ?_
    refine own_go (fun _ k => XS.iload X0.here hx rfl (hb hby d8_25) rfl k) ?_
    show own_Run p e below _ s₁ (mkF m 27 #[.val (.ref a1), .val (.int (0 : Int32)), .val (.int (3 : Int32)), .val (.int p4), .val (.int (0 : Int32)), .val (.int (2 : Int32)), .val (.int (1 : Int32)), .unset] [(.int (1 : Int32)), (.ref a1)])
    obtain ⟨cl117, Ar117, q117, S117, N117, H117, G117⟩ := id V_a1
    have hin117 : ¬ ((1 : Int32) < 0 ∨ cl117.slots.size ≤ ((1 : Int32)).toNatClampNeg) := inb_of S117 ⟨by decide, by decide⟩
    refine own_go (X0.iaload hx (j := (1 : Int32)) (v := (.int x1)) (by rw [e0]; exact Ar117.1) (State.isArrayOf_alike hZ.alike Ar117.2.1) Ar117.2.2 hin117 (H117.at hin117 rfl) (g := (mkF m 27 #[.val (.ref a1), .val (.int (0 : Int32)), .val (.int (3 : Int32)), .val (.int p4), .val (.int (0 : Int32)), .val (.int (2 : Int32)), .val (.int (1 : Int32)), .unset] [(.int (1 : Int32)), (.ref a1)])) rfl rfl (hb hby d8_27)) ?_
    show own_Run p e below _ s₁ (mkF m 28 #[.val (.ref a1), .val (.int (0 : Int32)), .val (.int (3 : Int32)), .val (.int p4), .val (.int (0 : Int32)), .val (.int (2 : Int32)), .val (.int (1 : Int32)), .unset] [(.int x1)])
    refine own_go (fun _ k => XS.istore X0.here hx rfl (hb hby d8_28) rfl (l' := #[.val (.ref a1), .val (.int (0 : Int32)), .val (.int (3 : Int32)), .val (.int p4), .val (.int (0 : Int32)), .val (.int (2 : Int32)), .val (.int (1 : Int32)), .val (.int x1)]) rfl k) ?_
    refine own_go (fun _ k => XS.iload X0.here hx rfl (hb hby d8_30) rfl k) ?_
    refine own_go (fun _ k => XS.iloadN X0.here hx rfl (hb hby d8_32) rfl k) ?_
    show own_Run p e below _ s₁ (mkF m 33 #[.val (.ref a1), .val (.int (0 : Int32)), .val (.int (3 : Int32)), .val (.int p4), .val (.int (0 : Int32)), .val (.int (2 : Int32)), .val (.int (1 : Int32)), .val (.int x1)] [(.int p4), (.int x1)])
    refine own_go (fun _ k => XS.icmpYes X0.here hx rfl (pc0 := 33) (pc' := 45) rfl (hb hby d8_33) rfl (flt (own_asym hz1 : ¬ (x1 < p4))).2.1 (by decide) (by decide) k) ?_
    show own_Run p e below _ s₁ (mkF m 45 #[.val (.ref a1), .val (.int (0 : Int32)), .val (.int (3 : Int32)), .val (.int p4), .val (.int (0 : Int32)), .val (.int (2 : Int32)), .val (.int (1 : Int32)), .val (.int x1)] [])
    refine own_go (fun _ k => XS.iload X0.here hx rfl (hb hby d8_45) rfl k) ?_
    refine own_go (fun _ k => XS.iloadN X0.here hx rfl (hb hby d8_47) rfl k) ?_
    show own_Run p e below _ s₁ (mkF m 48 #[.val (.ref a1), .val (.int (0 : Int32)), .val (.int (3 : Int32)), .val (.int p4), .val (.int (0 : Int32)), .val (.int (2 : Int32)), .val (.int (1 : Int32)), .val (.int x1)] [(.int p4), (.int x1)])
    refine own_go (fun _ k => XS.icmpNo X0.here hx rfl (hb hby d8_48) rfl (tlt hz1).2.2.2 k) ?_
    show own_Run p e below _ s₁ (mkF m 51 #[.val (.ref a1), .val (.int (0 : Int32)), .val (.int (3 : Int32)), .val (.int p4), .val (.int (0 : Int32)), .val (.int (2 : Int32)), .val (.int (1 : Int32)), .val (.int x1)] [])
    refine own_go (fun _ k => XS.iload X0.here hx rfl (hb hby d8_51) rfl k) ?_
    refine own_go (fun _ k => XS.iconst X0.here hx rfl (hb hby d8_53) k) ?_
    refine own_go (fun _ k => XS.isub X0.here hx rfl (hb hby d8_54) rfl k) ?_
    show own_Run p e below _ s₁ (mkF m 55 #[.val (.ref a1), .val (.int (0 : Int32)), .val (.int (3 : Int32)), .val (.int p4), .val (.int (0 : Int32)), .val (.int (2 : Int32)), .val (.int (1 : Int32)), .val (.int x1)] [(.int ((1 : Int32) - (1 : Int32)))])
    rw [show ((1 : Int32) - (1 : Int32)) = (0 : Int32) by decide]
    show own_Run p e below _ s₁ (mkF m 55 #[.val (.ref a1), .val (.int (0 : Int32)), .val (.int (3 : Int32)), .val (.int p4), .val (.int (0 : Int32)), .val (.int (2 : Int32)), .val (.int (1 : Int32)), .val (.int x1)] [(.int (0 : Int32))])
    refine own_go (fun _ k => XS.istore X0.here hx rfl (hb hby d8_55) rfl (l' := #[.val (.ref a1), .val (.int (0 : Int32)), .val (.int (3 : Int32)), .val (.int p4), .val (.int (0 : Int32)), .val (.int (0 : Int32)), .val (.int (1 : Int32)), .val (.int x1)]) rfl k) ?_
    refine own_go (fun _ k => XS.goto X0.here hx rfl (pc0 := 57) (pc' := 63) rfl (hb hby d8_57) (by decide) (by decide) k) ?_
    refine own_go (fun _ k => XS.goto X0.here hx rfl (pc0 := 63) (pc' := 8) rfl (hb hby d8_63) (by decide) (by decide) k) ?_
    refine own_go (fun _ k => XS.iload X0.here hx rfl (hb hby d8_8) rfl k) ?_
    show own_Run p e below _ s₁ (mkF m 10 #[.val (.ref a1), .val (.int (0 : Int32)), .val (.int (3 : Int32)), .val (.int p4), .val (.int (0 : Int32)), .val (.int (0 : Int32)), .val (.int (1 : Int32)), .val (.int x1)] [(.int (0 : Int32))])
    refine own_go (fun _ k => XS.iload X0.here hx rfl (hb hby d8_10) rfl k) ?_
    show own_Run p e below _ s₁ (mkF m 12 #[.val (.ref a1), .val (.int (0 : Int32)), .val (.int (3 : Int32)), .val (.int p4), .val (.int (0 : Int32)), .val (.int (0 : Int32)), .val (.int (1 : Int32)), .val (.int x1)] [(.int (0 : Int32)), (.int (0 : Int32))])
    refine own_go (fun _ k => XS.icmpNo X0.here hx rfl (hb hby d8_12) rfl (flt (by decide : ¬ ((0 : Int32) < (0 : Int32)))).2.2.1 k) ?_
    show own_Run p e below _ s₁ (mkF m 15 #[.val (.ref a1), .val (.int (0 : Int32)), .val (.int (3 : Int32)), .val (.int p4), .val (.int (0 : Int32)), .val (.int (0 : Int32)), .val (.int (1 : Int32)), .val (.int x1)] [])
    refine own_go (fun _ k => XS.iload X0.here hx rfl (hb hby d8_15) rfl k) ?_
    refine own_go (fun _ k => XS.iload X0.here hx rfl (hb hby d8_17) rfl k) ?_
    refine own_go (fun _ k => XS.iadd X0.here hx rfl (hb hby d8_19) rfl k) ?_
    show own_Run p e below _ s₁ (mkF m 20 #[.val (.ref a1), .val (.int (0 : Int32)), .val (.int (3 : Int32)), .val (.int p4), .val (.int (0 : Int32)), .val (.int (0 : Int32)), .val (.int (1 : Int32)), .val (.int x1)] [(.int ((0 : Int32) + (0 : Int32)))])
    rw [show ((0 : Int32) + (0 : Int32)) = (0 : Int32) by decide]
    show own_Run p e below _ s₁ (mkF m 20 #[.val (.ref a1), .val (.int (0 : Int32)), .val (.int (3 : Int32)), .val (.int p4), .val (.int (0 : Int32)), .val (.int (0 : Int32)), .val (.int (1 : Int32)), .val (.int x1)] [(.int (0 : Int32))])
    refine own_go (fun _ k => XS.iconst X0.here hx rfl (hb hby d8_20) k) ?_
    refine own_go (fun _ k => XS.iushr X0.here hx rfl (hb hby d8_21) rfl k) ?_
    show own_Run p e below _ s₁ (mkF m 22 #[.val (.ref a1), .val (.int (0 : Int32)), .val (.int (3 : Int32)), .val (.int p4), .val (.int (0 : Int32)), .val (.int (0 : Int32)), .val (.int (1 : Int32)), .val (.int x1)] [(.int (((0 : Int32).toUInt32 >>> ((1 : Int32) &&& 31).toUInt32).toInt32))])
    rw [show (((0 : Int32).toUInt32 >>> ((1 : Int32) &&& 31).toUInt32).toInt32) = (0 : Int32) by decide]
    show own_Run p e below _ s₁ (mkF m 22 #[.val (.ref a1), .val (.int (0 : Int32)), .val (.int (3 : Int32)), .val (.int p4), .val (.int (0 : Int32)), .val (.int (0 : Int32)), .val (.int (1 : Int32)), .val (.int x1)] [(.int (0 : Int32))])
    refine own_go (fun _ k => XS.istore X0.here hx rfl (hb hby d8_22) rfl (l' := #[.val (.ref a1), .val (.int (0 : Int32)), .val (.int (3 : Int32)), .val (.int p4), .val (.int (0 : Int32)), .val (.int (0 : Int32)), .val (.int (0 : Int32)), .val (.int x1)]) rfl k) ?_
    refine own_go (fun _ k => XS.aloadN X0.here hx rfl (hb hby d8_24) rfl rfl k) ?_
    refine own_go (fun _ k => XS.iload X0.here hx rfl (hb hby d8_25) rfl k) ?_
    show own_Run p e below _ s₁ (mkF m 27 #[.val (.ref a1), .val (.int (0 : Int32)), .val (.int (3 : Int32)), .val (.int p4), .val (.int (0 : Int32)), .val (.int (0 : Int32)), .val (.int (0 : Int32)), .val (.int x1)] [(.int (0 : Int32)), (.ref a1)])
    obtain ⟨cl118, Ar118, q118, S118, N118, H118, G118⟩ := id V_a1
    have hin118 : ¬ ((0 : Int32) < 0 ∨ cl118.slots.size ≤ ((0 : Int32)).toNatClampNeg) := inb_of S118 ⟨by decide, by decide⟩
    refine own_go (X0.iaload hx (j := (0 : Int32)) (v := (.int x0)) (by rw [e0]; exact Ar118.1) (State.isArrayOf_alike hZ.alike Ar118.2.1) Ar118.2.2 hin118 (H118.at hin118 rfl) (g := (mkF m 27 #[.val (.ref a1), .val (.int (0 : Int32)), .val (.int (3 : Int32)), .val (.int p4), .val (.int (0 : Int32)), .val (.int (0 : Int32)), .val (.int (0 : Int32)), .val (.int x1)] [(.int (0 : Int32)), (.ref a1)])) rfl rfl (hb hby d8_27)) ?_
    show own_Run p e below _ s₁ (mkF m 28 #[.val (.ref a1), .val (.int (0 : Int32)), .val (.int (3 : Int32)), .val (.int p4), .val (.int (0 : Int32)), .val (.int (0 : Int32)), .val (.int (0 : Int32)), .val (.int x1)] [(.int x0)])
    refine own_go (fun _ k => XS.istore X0.here hx rfl (hb hby d8_28) rfl (l' := #[.val (.ref a1), .val (.int (0 : Int32)), .val (.int (3 : Int32)), .val (.int p4), .val (.int (0 : Int32)), .val (.int (0 : Int32)), .val (.int (0 : Int32)), .val (.int x0)]) rfl k) ?_
    refine own_go (fun _ k => XS.iload X0.here hx rfl (hb hby d8_30) rfl k) ?_
    refine own_go (fun _ k => XS.iloadN X0.here hx rfl (hb hby d8_32) rfl k) ?_
    show own_Run p e below _ s₁ (mkF m 33 #[.val (.ref a1), .val (.int (0 : Int32)), .val (.int (3 : Int32)), .val (.int p4), .val (.int (0 : Int32)), .val (.int (0 : Int32)), .val (.int (0 : Int32)), .val (.int x0)] [(.int p4), (.int x0)])
    refine own_go (fun _ k => XS.icmpNo X0.here hx rfl (hb hby d8_33) rfl (tlt hz0).2.1 k) ?_
    show own_Run p e below _ s₁ (mkF m 36 #[.val (.ref a1), .val (.int (0 : Int32)), .val (.int (3 : Int32)), .val (.int p4), .val (.int (0 : Int32)), .val (.int (0 : Int32)), .val (.int (0 : Int32)), .val (.int x0)] [])
    refine own_go (fun _ k => XS.iload X0.here hx rfl (hb hby d8_36) rfl k) ?_
    refine own_go (fun _ k => XS.iconst X0.here hx rfl (hb hby d8_38) k) ?_
    refine own_go (fun _ k => XS.iadd X0.here hx rfl (hb hby d8_39) rfl k) ?_
    show own_Run p e below _ s₁ (mkF m 40 #[.val (.ref a1), .val (.int (0 : Int32)), .val (.int (3 : Int32)), .val (.int p4), .val (.int (0 : Int32)), .val (.int (0 : Int32)), .val (.int (0 : Int32)), .val (.int x0)] [(.int ((0 : Int32) + (1 : Int32)))])
    rw [show ((0 : Int32) + (1 : Int32)) = (1 : Int32) by decide]
    show own_Run p e below _ s₁ (mkF m 40 #[.val (.ref a1), .val (.int (0 : Int32)), .val (.int (3 : Int32)), .val (.int p4), .val (.int (0 : Int32)), .val (.int (0 : Int32)), .val (.int (0 : Int32)), .val (.int x0)] [(.int (1 : Int32))])
    refine own_go (fun _ k => XS.istore X0.here hx rfl (hb hby d8_40) rfl (l' := #[.val (.ref a1), .val (.int (0 : Int32)), .val (.int (3 : Int32)), .val (.int p4), .val (.int (1 : Int32)), .val (.int (0 : Int32)), .val (.int (0 : Int32)), .val (.int x0)]) rfl k) ?_
    refine own_go (fun _ k => XS.goto X0.here hx rfl (pc0 := 42) (pc' := 63) rfl (hb hby d8_42) (by decide) (by decide) k) ?_
    refine own_go (fun _ k => XS.goto X0.here hx rfl (pc0 := 63) (pc' := 8) rfl (hb hby d8_63) (by decide) (by decide) k) ?_
    refine own_go (fun _ k => XS.iload X0.here hx rfl (hb hby d8_8) rfl k) ?_
    show own_Run p e below _ s₁ (mkF m 10 #[.val (.ref a1), .val (.int (0 : Int32)), .val (.int (3 : Int32)), .val (.int p4), .val (.int (1 : Int32)), .val (.int (0 : Int32)), .val (.int (0 : Int32)), .val (.int x0)] [(.int (1 : Int32))])
    refine own_go (fun _ k => XS.iload X0.here hx rfl (hb hby d8_10) rfl k) ?_
    show own_Run p e below _ s₁ (mkF m 12 #[.val (.ref a1), .val (.int (0 : Int32)), .val (.int (3 : Int32)), .val (.int p4), .val (.int (1 : Int32)), .val (.int (0 : Int32)), .val (.int (0 : Int32)), .val (.int x0)] [(.int (0 : Int32)), (.int (1 : Int32))])
    refine own_go (fun _ k => XS.icmpYes X0.here hx rfl (pc0 := 12) (pc' := 66) rfl (hb hby d8_12) rfl (tlt (by decide : (0 : Int32) < (1 : Int32))).2.2.1 (by decide) (by decide) k) ?_
    show own_Run p e below _ s₁ (mkF m 66 #[.val (.ref a1), .val (.int (0 : Int32)), .val (.int (3 : Int32)), .val (.int p4), .val (.int (1 : Int32)), .val (.int (0 : Int32)), .val (.int (0 : Int32)), .val (.int x0)] [])
    refine own_go (fun _ k => XS.iload X0.here hx rfl (hb hby d8_66) rfl k) ?_
    refine own_go (fun _ k => XS.iconst X0.here hx rfl (hb hby d8_68) k) ?_
    refine own_go (fun _ k => XS.iadd X0.here hx rfl (hb hby d8_69) rfl k) ?_
    show own_Run p e below _ s₁ (mkF m 70 #[.val (.ref a1), .val (.int (0 : Int32)), .val (.int (3 : Int32)), .val (.int p4), .val (.int (1 : Int32)), .val (.int (0 : Int32)), .val (.int (0 : Int32)), .val (.int x0)] [(.int ((1 : Int32) + (1 : Int32)))])
    rw [show ((1 : Int32) + (1 : Int32)) = (2 : Int32) by decide]
    show own_Run p e below _ s₁ (mkF m 70 #[.val (.ref a1), .val (.int (0 : Int32)), .val (.int (3 : Int32)), .val (.int p4), .val (.int (1 : Int32)), .val (.int (0 : Int32)), .val (.int (0 : Int32)), .val (.int x0)] [(.int (2 : Int32))])
    refine own_go (fun _ k => XS.ineg X0.here hx rfl (hb hby d8_70) rfl k) ?_
    show own_Run p e below _ s₁ (mkF m 71 #[.val (.ref a1), .val (.int (0 : Int32)), .val (.int (3 : Int32)), .val (.int p4), .val (.int (1 : Int32)), .val (.int (0 : Int32)), .val (.int (0 : Int32)), .val (.int x0)] [(.int (-(2 : Int32)))])
    rw [show (-(2 : Int32)) = (-2 : Int32) by decide]
    show own_Run p e below _ s₁ (mkF m 71 #[.val (.ref a1), .val (.int (0 : Int32)), .val (.int (3 : Int32)), .val (.int p4), .val (.int (1 : Int32)), .val (.int (0 : Int32)), .val (.int (0 : Int32)), .val (.int x0)] [(.int (-2 : Int32))])
    refine own_done (Q := fun v h L => Q8n3 Z a1 p4 k1 x0 x1 x2 x3 x4 x5 x6 x7 (-2 : Int32) h0 n0 v h L) (v := (some (.int (-2 : Int32)))) X0 (fun h => by rw [hret] at h; cases h) hlk (fun fs hr => own_retI X0 hx hret (hb hby d8_71) hr) ?_ (by decide) (by decide)
    show Q8n3 Z a1 p4 k1 x0 x1 x2 x3 x4 x5 x6 x7 (-2 : Int32) h0 n0 _ s₁.heap _
    rw [e0]
    exact ⟨rfl, N0, rfl⟩
  · show own_Run p e below _ s₁ (mkF m 0 #[.val (.ref a1), .val (.int (0 : Int32)), .val (.int (3 : Int32)), .val (.int p4), .unset, .unset, .unset, .unset] [])
    refine own_go (fun _ k => XS.iloadN X0.here hx rfl (hb hby d8_0) rfl k) ?_
    refine own_go (fun _ k => XS.istore X0.here hx rfl (hb hby d8_1) rfl (l' := #[.val (.ref a1), .val (.int (0 : Int32)), .val (.int (3 : Int32)), .val (.int p4), .val (.int (0 : Int32)), .unset, .unset, .unset]) rfl k) ?_
    refine own_go (fun _ k => XS.iloadN X0.here hx rfl (hb hby d8_3) rfl k) ?_
    refine own_go (fun _ k => XS.iconst X0.here hx rfl (hb hby d8_4) k) ?_
    show own_Run p e below _ s₁ (mkF m 5 #[.val (.ref a1), .val (.int (0 : Int32)), .val (.int (3 : Int32)), .val (.int p4), .val (.int (0 : Int32)), .unset, .unset, .unset] [(.int (1 : Int32)), (.int (3 : Int32))])
    refine own_go (fun _ k => XS.isub X0.here hx rfl (hb hby d8_5) rfl k) ?_
    show own_Run p e below _ s₁ (mkF m 6 #[.val (.ref a1), .val (.int (0 : Int32)), .val (.int (3 : Int32)), .val (.int p4), .val (.int (0 : Int32)), .unset, .unset, .unset] [(.int ((3 : Int32) - (1 : Int32)))])
    rw [show ((3 : Int32) - (1 : Int32)) = (2 : Int32) by decide]
    show own_Run p e below _ s₁ (mkF m 6 #[.val (.ref a1), .val (.int (0 : Int32)), .val (.int (3 : Int32)), .val (.int p4), .val (.int (0 : Int32)), .unset, .unset, .unset] [(.int (2 : Int32))])
    refine own_go (fun _ k => XS.istore X0.here hx rfl (hb hby d8_6) rfl (l' := #[.val (.ref a1), .val (.int (0 : Int32)), .val (.int (3 : Int32)), .val (.int p4), .val (.int (0 : Int32)), .val (.int (2 : Int32)), .unset, .unset]) rfl k) ?_
    refine own_go (fun _ k => XS.iload X0.here hx rfl (hb hby d8_8) rfl k) ?_
    refine own_go (fun _ k => XS.iload X0.here hx rfl (hb hby d8_10) rfl k) ?_
    show own_Run p e below _ s₁ (mkF m 12 #[.val (.ref a1), .val (.int (0 : Int32)), .val (.int (3 : Int32)), .val (.int p4), .val (.int (0 : Int32)), .val (.int (2 : Int32)), .unset, .unset] [(.int (2 : Int32)), (.int (0 : Int32))])
    refine own_go (fun _ k => XS.icmpNo X0.here hx rfl (hb hby d8_12) rfl (flt (by decide : ¬ ((2 : Int32) < (0 : Int32)))).2.2.1 k) ?_
    show own_Run p e below _ s₁ (mkF m 15 #[.val (.ref a1), .val (.int (0 : Int32)), .val (.int (3 : Int32)), .val (.int p4), .val (.int (0 : Int32)), .val (.int (2 : Int32)), .unset, .unset] [])
    refine own_go (fun _ k => XS.iload X0.here hx rfl (hb hby d8_15) rfl k) ?_
    refine own_go (fun _ k => XS.iload X0.here hx rfl (hb hby d8_17) rfl k) ?_
    refine own_go (fun _ k => XS.iadd X0.here hx rfl (hb hby d8_19) rfl k) ?_
    show own_Run p e below _ s₁ (mkF m 20 #[.val (.ref a1), .val (.int (0 : Int32)), .val (.int (3 : Int32)), .val (.int p4), .val (.int (0 : Int32)), .val (.int (2 : Int32)), .unset, .unset] [(.int ((0 : Int32) + (2 : Int32)))])
    rw [show ((0 : Int32) + (2 : Int32)) = (2 : Int32) by decide]
    show own_Run p e below _ s₁ (mkF m 20 #[.val (.ref a1), .val (.int (0 : Int32)), .val (.int (3 : Int32)), .val (.int p4), .val (.int (0 : Int32)), .val (.int (2 : Int32)), .unset, .unset] [(.int (2 : Int32))])
    refine own_go (fun _ k => XS.iconst X0.here hx rfl (hb hby d8_20) k) ?_
    refine own_go (fun _ k => XS.iushr X0.here hx rfl (hb hby d8_21) rfl k) ?_
    show own_Run p e below _ s₁ (mkF m 22 #[.val (.ref a1), .val (.int (0 : Int32)), .val (.int (3 : Int32)), .val (.int p4), .val (.int (0 : Int32)), .val (.int (2 : Int32)), .unset, .unset] [(.int (((2 : Int32).toUInt32 >>> ((1 : Int32) &&& 31).toUInt32).toInt32))])
    rw [show (((2 : Int32).toUInt32 >>> ((1 : Int32) &&& 31).toUInt32).toInt32) = (1 : Int32) by decide]
    show own_Run p e below _ s₁ (mkF m 22 #[.val (.ref a1), .val (.int (0 : Int32)), .val (.int (3 : Int32)), .val (.int p4), .val (.int (0 : Int32)), .val (.int (2 : Int32)), .unset, .unset] [(.int (1 : Int32))])
    refine own_go (fun _ k => XS.istore X0.here hx rfl (hb hby d8_22) rfl (l' := #[.val (.ref a1), .val (.int (0 : Int32)), .val (.int (3 : Int32)), .val (.int p4), .val (.int (0 : Int32)), .val (.int (2 : Int32)), .val (.int (1 : Int32)), .unset]) rfl k) ?_
    refine own_go (fun _ k => XS.aloadN X0.here hx rfl (hb hby d8_24) rfl rfl k) ?_
    refine own_go (fun _ k => XS.iload X0.here hx rfl (hb hby d8_25) rfl k) ?_
    show own_Run p e below _ s₁ (mkF m 27 #[.val (.ref a1), .val (.int (0 : Int32)), .val (.int (3 : Int32)), .val (.int p4), .val (.int (0 : Int32)), .val (.int (2 : Int32)), .val (.int (1 : Int32)), .unset] [(.int (1 : Int32)), (.ref a1)])
    obtain ⟨cl119, Ar119, q119, S119, N119, H119, G119⟩ := id V_a1
    have hin119 : ¬ ((1 : Int32) < 0 ∨ cl119.slots.size ≤ ((1 : Int32)).toNatClampNeg) := inb_of S119 ⟨by decide, by decide⟩
    refine own_go (X0.iaload hx (j := (1 : Int32)) (v := (.int x1)) (by rw [e0]; exact Ar119.1) (State.isArrayOf_alike hZ.alike Ar119.2.1) Ar119.2.2 hin119 (H119.at hin119 rfl) (g := (mkF m 27 #[.val (.ref a1), .val (.int (0 : Int32)), .val (.int (3 : Int32)), .val (.int p4), .val (.int (0 : Int32)), .val (.int (2 : Int32)), .val (.int (1 : Int32)), .unset] [(.int (1 : Int32)), (.ref a1)])) rfl rfl (hb hby d8_27)) ?_
    show own_Run p e below _ s₁ (mkF m 28 #[.val (.ref a1), .val (.int (0 : Int32)), .val (.int (3 : Int32)), .val (.int p4), .val (.int (0 : Int32)), .val (.int (2 : Int32)), .val (.int (1 : Int32)), .unset] [(.int x1)])
    refine own_go (fun _ k => XS.istore X0.here hx rfl (hb hby d8_28) rfl (l' := #[.val (.ref a1), .val (.int (0 : Int32)), .val (.int (3 : Int32)), .val (.int p4), .val (.int (0 : Int32)), .val (.int (2 : Int32)), .val (.int (1 : Int32)), .val (.int x1)]) rfl k) ?_
    refine own_go (fun _ k => XS.iload X0.here hx rfl (hb hby d8_30) rfl k) ?_
    refine own_go (fun _ k => XS.iloadN X0.here hx rfl (hb hby d8_32) rfl k) ?_
    show own_Run p e below _ s₁ (mkF m 33 #[.val (.ref a1), .val (.int (0 : Int32)), .val (.int (3 : Int32)), .val (.int p4), .val (.int (0 : Int32)), .val (.int (2 : Int32)), .val (.int (1 : Int32)), .val (.int x1)] [(.int p4), (.int x1)])
    refine own_go (fun _ k => XS.icmpNo X0.here hx rfl (hb hby d8_33) rfl (tlt hz1).2.1 k) ?_
    show own_Run p e below _ s₁ (mkF m 36 #[.val (.ref a1), .val (.int (0 : Int32)), .val (.int (3 : Int32)), .val (.int p4), .val (.int (0 : Int32)), .val (.int (2 : Int32)), .val (.int (1 : Int32)), .val (.int x1)] [])
    refine own_go (fun _ k => XS.iload X0.here hx rfl (hb hby d8_36) rfl k) ?_
    refine own_go (fun _ k => XS.iconst X0.here hx rfl (hb hby d8_38) k) ?_
    refine own_go (fun _ k => XS.iadd X0.here hx rfl (hb hby d8_39) rfl k) ?_
    show own_Run p e below _ s₁ (mkF m 40 #[.val (.ref a1), .val (.int (0 : Int32)), .val (.int (3 : Int32)), .val (.int p4), .val (.int (0 : Int32)), .val (.int (2 : Int32)), .val (.int (1 : Int32)), .val (.int x1)] [(.int ((1 : Int32) + (1 : Int32)))])
    rw [show ((1 : Int32) + (1 : Int32)) = (2 : Int32) by decide]
    show own_Run p e below _ s₁ (mkF m 40 #[.val (.ref a1), .val (.int (0 : Int32)), .val (.int (3 : Int32)), .val (.int p4), .val (.int (0 : Int32)), .val (.int (2 : Int32)), .val (.int (1 : Int32)), .val (.int x1)] [(.int (2 : Int32))])
    refine own_go (fun _ k => XS.istore X0.here hx rfl (hb hby d8_40) rfl (l' := #[.val (.ref a1), .val (.int (0 : Int32)), .val (.int (3 : Int32)), .val (.int p4), .val (.int (2 : Int32)), .val (.int (2 : Int32)), .val (.int (1 : Int32)), .val (.int x1)]) rfl k) ?_
    refine own_go (fun _ k => XS.goto X0.here hx rfl (pc0 := 42) (pc' := 63) rfl (hb hby d8_42) (by decide) (by decide) k) ?_
    refine own_go (fun _ k => XS.goto X0.here hx rfl (pc0 := 63) (pc' := 8) rfl (hb hby d8_63) (by decide) (by decide) k) ?_
    refine own_go (fun _ k => XS.iload X0.here hx rfl (hb hby d8_8) rfl k) ?_
    show own_Run p e below _ s₁ (mkF m 10 #[.val (.ref a1), .val (.int (0 : Int32)), .val (.int (3 : Int32)), .val (.int p4), .val (.int (2 : Int32)), .val (.int (2 : Int32)), .val (.int (1 : Int32)), .val (.int x1)] [(.int (2 : Int32))])
    refine own_go (fun _ k => XS.iload X0.here hx rfl (hb hby d8_10) rfl k) ?_
    show own_Run p e below _ s₁ (mkF m 12 #[.val (.ref a1), .val (.int (0 : Int32)), .val (.int (3 : Int32)), .val (.int p4), .val (.int (2 : Int32)), .val (.int (2 : Int32)), .val (.int (1 : Int32)), .val (.int x1)] [(.int (2 : Int32)), (.int (2 : Int32))])
    refine own_go (fun _ k => XS.icmpNo X0.here hx rfl (hb hby d8_12) rfl (flt (by decide : ¬ ((2 : Int32) < (2 : Int32)))).2.2.1 k) ?_
    show own_Run p e below _ s₁ (mkF m 15 #[.val (.ref a1), .val (.int (0 : Int32)), .val (.int (3 : Int32)), .val (.int p4), .val (.int (2 : Int32)), .val (.int (2 : Int32)), .val (.int (1 : Int32)), .val (.int x1)] [])
    refine own_go (fun _ k => XS.iload X0.here hx rfl (hb hby d8_15) rfl k) ?_
    refine own_go (fun _ k => XS.iload X0.here hx rfl (hb hby d8_17) rfl k) ?_
    refine own_go (fun _ k => XS.iadd X0.here hx rfl (hb hby d8_19) rfl k) ?_
    show own_Run p e below _ s₁ (mkF m 20 #[.val (.ref a1), .val (.int (0 : Int32)), .val (.int (3 : Int32)), .val (.int p4), .val (.int (2 : Int32)), .val (.int (2 : Int32)), .val (.int (1 : Int32)), .val (.int x1)] [(.int ((2 : Int32) + (2 : Int32)))])
    rw [show ((2 : Int32) + (2 : Int32)) = (4 : Int32) by decide]
    show own_Run p e below _ s₁ (mkF m 20 #[.val (.ref a1), .val (.int (0 : Int32)), .val (.int (3 : Int32)), .val (.int p4), .val (.int (2 : Int32)), .val (.int (2 : Int32)), .val (.int (1 : Int32)), .val (.int x1)] [(.int (4 : Int32))])
    refine own_go (fun _ k => XS.iconst X0.here hx rfl (hb hby d8_20) k) ?_
    refine own_go (fun _ k => XS.iushr X0.here hx rfl (hb hby d8_21) rfl k) ?_
    show own_Run p e below _ s₁ (mkF m 22 #[.val (.ref a1), .val (.int (0 : Int32)), .val (.int (3 : Int32)), .val (.int p4), .val (.int (2 : Int32)), .val (.int (2 : Int32)), .val (.int (1 : Int32)), .val (.int x1)] [(.int (((4 : Int32).toUInt32 >>> ((1 : Int32) &&& 31).toUInt32).toInt32))])
    rw [show (((4 : Int32).toUInt32 >>> ((1 : Int32) &&& 31).toUInt32).toInt32) = (2 : Int32) by decide]
    show own_Run p e below _ s₁ (mkF m 22 #[.val (.ref a1), .val (.int (0 : Int32)), .val (.int (3 : Int32)), .val (.int p4), .val (.int (2 : Int32)), .val (.int (2 : Int32)), .val (.int (1 : Int32)), .val (.int x1)] [(.int (2 : Int32))])
    refine own_go (fun _ k => XS.istore X0.here hx rfl (hb hby d8_22) rfl (l' := #[.val (.ref a1), .val (.int (0 : Int32)), .val (.int (3 : Int32)), .val (.int p4), .val (.int (2 : Int32)), .val (.int (2 : Int32)), .val (.int (2 : Int32)), .val (.int x1)]) rfl k) ?_
    refine own_go (fun _ k => XS.aloadN X0.here hx rfl (hb hby d8_24) rfl rfl k) ?_
    refine own_go (fun _ k => XS.iload X0.here hx rfl (hb hby d8_25) rfl k) ?_
    show own_Run p e below _ s₁ (mkF m 27 #[.val (.ref a1), .val (.int (0 : Int32)), .val (.int (3 : Int32)), .val (.int p4), .val (.int (2 : Int32)), .val (.int (2 : Int32)), .val (.int (2 : Int32)), .val (.int x1)] [(.int (2 : Int32)), (.ref a1)])
    obtain ⟨cl120, Ar120, q120, S120, N120, H120, G120⟩ := id V_a1
    have hin120 : ¬ ((2 : Int32) < 0 ∨ cl120.slots.size ≤ ((2 : Int32)).toNatClampNeg) := inb_of S120 ⟨by decide, by decide⟩
    refine own_go (X0.iaload hx (j := (2 : Int32)) (v := (.int x2)) (by rw [e0]; exact Ar120.1) (State.isArrayOf_alike hZ.alike Ar120.2.1) Ar120.2.2 hin120 (H120.at hin120 rfl) (g := (mkF m 27 #[.val (.ref a1), .val (.int (0 : Int32)), .val (.int (3 : Int32)), .val (.int p4), .val (.int (2 : Int32)), .val (.int (2 : Int32)), .val (.int (2 : Int32)), .val (.int x1)] [(.int (2 : Int32)), (.ref a1)])) rfl rfl (hb hby d8_27)) ?_
    show own_Run p e below _ s₁ (mkF m 28 #[.val (.ref a1), .val (.int (0 : Int32)), .val (.int (3 : Int32)), .val (.int p4), .val (.int (2 : Int32)), .val (.int (2 : Int32)), .val (.int (2 : Int32)), .val (.int x1)] [(.int x2)])
    refine own_go (fun _ k => XS.istore X0.here hx rfl (hb hby d8_28) rfl (l' := #[.val (.ref a1), .val (.int (0 : Int32)), .val (.int (3 : Int32)), .val (.int p4), .val (.int (2 : Int32)), .val (.int (2 : Int32)), .val (.int (2 : Int32)), .val (.int x2)]) rfl k) ?_
    refine own_go (fun _ k => XS.iload X0.here hx rfl (hb hby d8_30) rfl k) ?_
    refine own_go (fun _ k => XS.iloadN X0.here hx rfl (hb hby d8_32) rfl k) ?_
    show own_Run p e below _ s₁ (mkF m 33 #[.val (.ref a1), .val (.int (0 : Int32)), .val (.int (3 : Int32)), .val (.int p4), .val (.int (2 : Int32)), .val (.int (2 : Int32)), .val (.int (2 : Int32)), .val (.int x2)] [(.int p4), (.int x2)])
    refine own_go (fun _ k => XS.icmpYes X0.here hx rfl (pc0 := 33) (pc' := 45) rfl (hb hby d8_33) rfl (flt (by rw [hz2]; exact Int32.lt_irrefl : ¬ (x2 < p4))).2.1 (by decide) (by decide) k) ?_
    show own_Run p e below _ s₁ (mkF m 45 #[.val (.ref a1), .val (.int (0 : Int32)), .val (.int (3 : Int32)), .val (.int p4), .val (.int (2 : Int32)), .val (.int (2 : Int32)), .val (.int (2 : Int32)), .val (.int x2)] [])
    refine own_go (fun _ k => XS.iload X0.here hx rfl (hb hby d8_45) rfl k) ?_
    refine own_go (fun _ k => XS.iloadN X0.here hx rfl (hb hby d8_47) rfl k) ?_
    show own_Run p e below _ s₁ (mkF m 48 #[.val (.ref a1), .val (.int (0 : Int32)), .val (.int (3 : Int32)), .val (.int p4), .val (.int (2 : Int32)), .val (.int (2 : Int32)), .val (.int (2 : Int32)), .val (.int x2)] [(.int p4), (.int x2)])
    refine own_go (fun _ k => XS.icmpYes X0.here hx rfl (pc0 := 48) (pc' := 60) rfl (hb hby d8_48) rfl (flt (by rw [hz2]; exact Int32.lt_irrefl : ¬ (p4 < x2))).2.2.2 (by decide) (by decide) k) ?_
    show own_Run p e below _ s₁ (mkF m 60 #[.val (.ref a1), .val (.int (0 : Int32)), .val (.int (3 : Int32)), .val (.int p4), .val (.int (2 : Int32)), .val (.int (2 : Int32)), .val (.int (2 : Int32)), .val (.int x2)] [])
    refine own_go (fun _ k => XS.iload X0.here hx rfl (hb hby d8_60) rfl k) ?_
    show own_Run p e below _ s₁ (mkF m 62 #[.val (.ref a1), .val (.int (0 : Int32)), .val (.int (3 : Int32)), .val (.int p4), .val (.int (2 : Int32)), .val (.int (2 : Int32)), .val (.int (2 : Int32)), .val (.int x2)] [(.int (2 : Int32))])
    refine own_done (Q := fun v h L => Q8n3 Z a1 p4 k1 x0 x1 x2 x3 x4 x5 x6 x7 (2 : Int32) h0 n0 v h L) (v := (some (.int (2 : Int32)))) X0 (fun h => by rw [hret] at h; cases h) hlk (fun fs hr => own_retI X0 hx hret (hb hby d8_62) hr) ?_ (by decide) (by decide)
    show Q8n3 Z a1 p4 k1 x0 x1 x2 x3 x4 x5 x6 x7 (2 : Int32) h0 n0 _ s₁.heap _
    rw [e0]
    exact ⟨rfl, N0, rfl⟩
  · show own_Run p e below _ s₁ (mkF m 0 #[.val (.ref a1), .val (.int (0 : Int32)), .val (.int (3 : Int32)), .val (.int p4), .unset, .unset, .unset, .unset] [])
    refine own_go (fun _ k => XS.iloadN X0.here hx rfl (hb hby d8_0) rfl k) ?_
    refine own_go (fun _ k => XS.istore X0.here hx rfl (hb hby d8_1) rfl (l' := #[.val (.ref a1), .val (.int (0 : Int32)), .val (.int (3 : Int32)), .val (.int p4), .val (.int (0 : Int32)), .unset, .unset, .unset]) rfl k) ?_
    refine own_go (fun _ k => XS.iloadN X0.here hx rfl (hb hby d8_3) rfl k) ?_
    refine own_go (fun _ k => XS.iconst X0.here hx rfl (hb hby d8_4) k) ?_
    show own_Run p e below _ s₁ (mkF m 5 #[.val (.ref a1), .val (.int (0 : Int32)), .val (.int (3 : Int32)), .val (.int p4), .val (.int (0 : Int32)), .unset, .unset, .unset] [(.int (1 : Int32)), (.int (3 : Int32))])
    refine own_go (fun _ k => XS.isub X0.here hx rfl (hb hby d8_5) rfl k) ?_
    show own_Run p e below _ s₁ (mkF m 6 #[.val (.ref a1), .val (.int (0 : Int32)), .val (.int (3 : Int32)), .val (.int p4), .val (.int (0 : Int32)), .unset, .unset, .unset] [(.int ((3 : Int32) - (1 : Int32)))])
    rw [show ((3 : Int32) - (1 : Int32)) = (2 : Int32) by decide]
    show own_Run p e below _ s₁ (mkF m 6 #[.val (.ref a1), .val (.int (0 : Int32)), .val (.int (3 : Int32)), .val (.int p4), .val (.int (0 : Int32)), .unset, .unset, .unset] [(.int (2 : Int32))])
    refine own_go (fun _ k => XS.istore X0.here hx rfl (hb hby d8_6) rfl (l' := #[.val (.ref a1), .val (.int (0 : Int32)), .val (.int (3 : Int32)), .val (.int p4), .val (.int (0 : Int32)), .val (.int (2 : Int32)), .unset, .unset]) rfl k) ?_
    refine own_go (fun _ k => XS.iload X0.here hx rfl (hb hby d8_8) rfl k) ?_
    refine own_go (fun _ k => XS.iload X0.here hx rfl (hb hby d8_10) rfl k) ?_
    show own_Run p e below _ s₁ (mkF m 12 #[.val (.ref a1), .val (.int (0 : Int32)), .val (.int (3 : Int32)), .val (.int p4), .val (.int (0 : Int32)), .val (.int (2 : Int32)), .unset, .unset] [(.int (2 : Int32)), (.int (0 : Int32))])
    refine own_go (fun _ k => XS.icmpNo X0.here hx rfl (hb hby d8_12) rfl (flt (by decide : ¬ ((2 : Int32) < (0 : Int32)))).2.2.1 k) ?_
    show own_Run p e below _ s₁ (mkF m 15 #[.val (.ref a1), .val (.int (0 : Int32)), .val (.int (3 : Int32)), .val (.int p4), .val (.int (0 : Int32)), .val (.int (2 : Int32)), .unset, .unset] [])
    refine own_go (fun _ k => XS.iload X0.here hx rfl (hb hby d8_15) rfl k) ?_
    refine own_go (fun _ k => XS.iload X0.here hx rfl (hb hby d8_17) rfl k) ?_
    refine own_go (fun _ k => XS.iadd X0.here hx rfl (hb hby d8_19) rfl k) ?_
    show own_Run p e below _ s₁ (mkF m 20 #[.val (.ref a1), .val (.int (0 : Int32)), .val (.int (3 : Int32)), .val (.int p4), .val (.int (0 : Int32)), .val (.int (2 : Int32)), .unset, .unset] [(.int ((0 : Int32) + (2 : Int32)))])
    rw [show ((0 : Int32) + (2 : Int32)) = (2 : Int32) by decide]
    show own_Run p e below _ s₁ (mkF m 20 #[.val (.ref a1), .val (.int (0 : Int32)), .val (.int (3 : Int32)), .val (.int p4), .val (.int (0 : Int32)), .val (.int (2 : Int32)), .unset, .unset] [(.int (2 : Int32))])
    refine own_go (fun _ k => XS.iconst X0.here hx rfl (hb hby d8_20) k) ?_
    refine own_go (fun _ k => XS.iushr X0.here hx rfl (hb hby d8_21) rfl k) ?_
    show own_Run p e below _ s₁ (mkF m 22 #[.val (.ref a1), .val (.int (0 : Int32)), .val (.int (3 : Int32)), .val (.int p4), .val (.int (0 : Int32)), .val (.int (2 : Int32)), .unset, .unset] [(.int (((2 : Int32).toUInt32 >>> ((1 : Int32) &&& 31).toUInt32).toInt32))])
    rw [show (((2 : Int32).toUInt32 >>> ((1 : Int32) &&& 31).toUInt32).toInt32) = (1 : Int32) by decide]
    show own_Run p e below _ s₁ (mkF m 22 #[.val (.ref a1), .val (.int (0 : Int32)), .val (.int (3 : Int32)), .val (.int p4), .val (.int (0 : Int32)), .val (.int (2 : Int32)), .unset, .unset] [(.int (1 : Int32))])
    refine own_go (fun _ k => XS.istore X0.here hx rfl (hb hby d8_22) rfl (l' := #[.val (.ref a1), .val (.int (0 : Int32)), .val (.int (3 : Int32)), .val (.int p4), .val (.int (0 : Int32)), .val (.int (2 : Int32)), .val (.int (1 : Int32)), .unset]) rfl k) ?_
    refine own_go (fun _ k => XS.aloadN X0.here hx rfl (hb hby d8_24) rfl rfl k) ?_
    refine own_go (fun _ k => XS.iload X0.here hx rfl (hb hby d8_25) rfl k) ?_
    show own_Run p e below _ s₁ (mkF m 27 #[.val (.ref a1), .val (.int (0 : Int32)), .val (.int (3 : Int32)), .val (.int p4), .val (.int (0 : Int32)), .val (.int (2 : Int32)), .val (.int (1 : Int32)), .unset] [(.int (1 : Int32)), (.ref a1)])
    obtain ⟨cl121, Ar121, q121, S121, N121, H121, G121⟩ := id V_a1
    have hin121 : ¬ ((1 : Int32) < 0 ∨ cl121.slots.size ≤ ((1 : Int32)).toNatClampNeg) := inb_of S121 ⟨by decide, by decide⟩
    refine own_go (X0.iaload hx (j := (1 : Int32)) (v := (.int x1)) (by rw [e0]; exact Ar121.1) (State.isArrayOf_alike hZ.alike Ar121.2.1) Ar121.2.2 hin121 (H121.at hin121 rfl) (g := (mkF m 27 #[.val (.ref a1), .val (.int (0 : Int32)), .val (.int (3 : Int32)), .val (.int p4), .val (.int (0 : Int32)), .val (.int (2 : Int32)), .val (.int (1 : Int32)), .unset] [(.int (1 : Int32)), (.ref a1)])) rfl rfl (hb hby d8_27)) ?_
    show own_Run p e below _ s₁ (mkF m 28 #[.val (.ref a1), .val (.int (0 : Int32)), .val (.int (3 : Int32)), .val (.int p4), .val (.int (0 : Int32)), .val (.int (2 : Int32)), .val (.int (1 : Int32)), .unset] [(.int x1)])
    refine own_go (fun _ k => XS.istore X0.here hx rfl (hb hby d8_28) rfl (l' := #[.val (.ref a1), .val (.int (0 : Int32)), .val (.int (3 : Int32)), .val (.int p4), .val (.int (0 : Int32)), .val (.int (2 : Int32)), .val (.int (1 : Int32)), .val (.int x1)]) rfl k) ?_
    refine own_go (fun _ k => XS.iload X0.here hx rfl (hb hby d8_30) rfl k) ?_
    refine own_go (fun _ k => XS.iloadN X0.here hx rfl (hb hby d8_32) rfl k) ?_
    show own_Run p e below _ s₁ (mkF m 33 #[.val (.ref a1), .val (.int (0 : Int32)), .val (.int (3 : Int32)), .val (.int p4), .val (.int (0 : Int32)), .val (.int (2 : Int32)), .val (.int (1 : Int32)), .val (.int x1)] [(.int p4), (.int x1)])
    refine own_go (fun _ k => XS.icmpNo X0.here hx rfl (hb hby d8_33) rfl (tlt hz1).2.1 k) ?_
    show own_Run p e below _ s₁ (mkF m 36 #[.val (.ref a1), .val (.int (0 : Int32)), .val (.int (3 : Int32)), .val (.int p4), .val (.int (0 : Int32)), .val (.int (2 : Int32)), .val (.int (1 : Int32)), .val (.int x1)] [])
    refine own_go (fun _ k => XS.iload X0.here hx rfl (hb hby d8_36) rfl k) ?_
    refine own_go (fun _ k => XS.iconst X0.here hx rfl (hb hby d8_38) k) ?_
    refine own_go (fun _ k => XS.iadd X0.here hx rfl (hb hby d8_39) rfl k) ?_
    show own_Run p e below _ s₁ (mkF m 40 #[.val (.ref a1), .val (.int (0 : Int32)), .val (.int (3 : Int32)), .val (.int p4), .val (.int (0 : Int32)), .val (.int (2 : Int32)), .val (.int (1 : Int32)), .val (.int x1)] [(.int ((1 : Int32) + (1 : Int32)))])
    rw [show ((1 : Int32) + (1 : Int32)) = (2 : Int32) by decide]
    show own_Run p e below _ s₁ (mkF m 40 #[.val (.ref a1), .val (.int (0 : Int32)), .val (.int (3 : Int32)), .val (.int p4), .val (.int (0 : Int32)), .val (.int (2 : Int32)), .val (.int (1 : Int32)), .val (.int x1)] [(.int (2 : Int32))])
    refine own_go (fun _ k => XS.istore X0.here hx rfl (hb hby d8_40) rfl (l' := #[.val (.ref a1), .val (.int (0 : Int32)), .val (.int (3 : Int32)), .val (.int p4), .val (.int (2 : Int32)), .val (.int (2 : Int32)), .val (.int (1 : Int32)), .val (.int x1)]) rfl k) ?_
    refine own_go (fun _ k => XS.goto X0.here hx rfl (pc0 := 42) (pc' := 63) rfl (hb hby d8_42) (by decide) (by decide) k) ?_
    refine own_go (fun _ k => XS.goto X0.here hx rfl (pc0 := 63) (pc' := 8) rfl (hb hby d8_63) (by decide) (by decide) k) ?_
    refine own_go (fun _ k => XS.iload X0.here hx rfl (hb hby d8_8) rfl k) ?_
    show own_Run p e below _ s₁ (mkF m 10 #[.val (.ref a1), .val (.int (0 : Int32)), .val (.int (3 : Int32)), .val (.int p4), .val (.int (2 : Int32)), .val (.int (2 : Int32)), .val (.int (1 : Int32)), .val (.int x1)] [(.int (2 : Int32))])
    refine own_go (fun _ k => XS.iload X0.here hx rfl (hb hby d8_10) rfl k) ?_
    show own_Run p e below _ s₁ (mkF m 12 #[.val (.ref a1), .val (.int (0 : Int32)), .val (.int (3 : Int32)), .val (.int p4), .val (.int (2 : Int32)), .val (.int (2 : Int32)), .val (.int (1 : Int32)), .val (.int x1)] [(.int (2 : Int32)), (.int (2 : Int32))])
    refine own_go (fun _ k => XS.icmpNo X0.here hx rfl (hb hby d8_12) rfl (flt (by decide : ¬ ((2 : Int32) < (2 : Int32)))).2.2.1 k) ?_
    show own_Run p e below _ s₁ (mkF m 15 #[.val (.ref a1), .val (.int (0 : Int32)), .val (.int (3 : Int32)), .val (.int p4), .val (.int (2 : Int32)), .val (.int (2 : Int32)), .val (.int (1 : Int32)), .val (.int x1)] [])
    refine own_go (fun _ k => XS.iload X0.here hx rfl (hb hby d8_15) rfl k) ?_
    refine own_go (fun _ k => XS.iload X0.here hx rfl (hb hby d8_17) rfl k) ?_
    refine own_go (fun _ k => XS.iadd X0.here hx rfl (hb hby d8_19) rfl k) ?_
    show own_Run p e below _ s₁ (mkF m 20 #[.val (.ref a1), .val (.int (0 : Int32)), .val (.int (3 : Int32)), .val (.int p4), .val (.int (2 : Int32)), .val (.int (2 : Int32)), .val (.int (1 : Int32)), .val (.int x1)] [(.int ((2 : Int32) + (2 : Int32)))])
    rw [show ((2 : Int32) + (2 : Int32)) = (4 : Int32) by decide]
    show own_Run p e below _ s₁ (mkF m 20 #[.val (.ref a1), .val (.int (0 : Int32)), .val (.int (3 : Int32)), .val (.int p4), .val (.int (2 : Int32)), .val (.int (2 : Int32)), .val (.int (1 : Int32)), .val (.int x1)] [(.int (4 : Int32))])
    refine own_go (fun _ k => XS.iconst X0.here hx rfl (hb hby d8_20) k) ?_
    refine own_go (fun _ k => XS.iushr X0.here hx rfl (hb hby d8_21) rfl k) ?_
    show own_Run p e below _ s₁ (mkF m 22 #[.val (.ref a1), .val (.int (0 : Int32)), .val (.int (3 : Int32)), .val (.int p4), .val (.int (2 : Int32)), .val (.int (2 : Int32)), .val (.int (1 : Int32)), .val (.int x1)] [(.int (((4 : Int32).toUInt32 >>> ((1 : Int32) &&& 31).toUInt32).toInt32))])
    rw [show (((4 : Int32).toUInt32 >>> ((1 : Int32) &&& 31).toUInt32).toInt32) = (2 : Int32) by decide]
    show own_Run p e below _ s₁ (mkF m 22 #[.val (.ref a1), .val (.int (0 : Int32)), .val (.int (3 : Int32)), .val (.int p4), .val (.int (2 : Int32)), .val (.int (2 : Int32)), .val (.int (1 : Int32)), .val (.int x1)] [(.int (2 : Int32))])
    refine own_go (fun _ k => XS.istore X0.here hx rfl (hb hby d8_22) rfl (l' := #[.val (.ref a1), .val (.int (0 : Int32)), .val (.int (3 : Int32)), .val (.int p4), .val (.int (2 : Int32)), .val (.int (2 : Int32)), .val (.int (2 : Int32)), .val (.int x1)]) rfl k) ?_
    refine own_go (fun _ k => XS.aloadN X0.here hx rfl (hb hby d8_24) rfl rfl k) ?_
    refine own_go (fun _ k => XS.iload X0.here hx rfl (hb hby d8_25) rfl k) ?_
    show own_Run p e below _ s₁ (mkF m 27 #[.val (.ref a1), .val (.int (0 : Int32)), .val (.int (3 : Int32)), .val (.int p4), .val (.int (2 : Int32)), .val (.int (2 : Int32)), .val (.int (2 : Int32)), .val (.int x1)] [(.int (2 : Int32)), (.ref a1)])
    obtain ⟨cl122, Ar122, q122, S122, N122, H122, G122⟩ := id V_a1
    have hin122 : ¬ ((2 : Int32) < 0 ∨ cl122.slots.size ≤ ((2 : Int32)).toNatClampNeg) := inb_of S122 ⟨by decide, by decide⟩
    refine own_go (X0.iaload hx (j := (2 : Int32)) (v := (.int x2)) (by rw [e0]; exact Ar122.1) (State.isArrayOf_alike hZ.alike Ar122.2.1) Ar122.2.2 hin122 (H122.at hin122 rfl) (g := (mkF m 27 #[.val (.ref a1), .val (.int (0 : Int32)), .val (.int (3 : Int32)), .val (.int p4), .val (.int (2 : Int32)), .val (.int (2 : Int32)), .val (.int (2 : Int32)), .val (.int x1)] [(.int (2 : Int32)), (.ref a1)])) rfl rfl (hb hby d8_27)) ?_
    show own_Run p e below _ s₁ (mkF m 28 #[.val (.ref a1), .val (.int (0 : Int32)), .val (.int (3 : Int32)), .val (.int p4), .val (.int (2 : Int32)), .val (.int (2 : Int32)), .val (.int (2 : Int32)), .val (.int x1)] [(.int x2)])
    refine own_go (fun _ k => XS.istore X0.here hx rfl (hb hby d8_28) rfl (l' := #[.val (.ref a1), .val (.int (0 : Int32)), .val (.int (3 : Int32)), .val (.int p4), .val (.int (2 : Int32)), .val (.int (2 : Int32)), .val (.int (2 : Int32)), .val (.int x2)]) rfl k) ?_
    refine own_go (fun _ k => XS.iload X0.here hx rfl (hb hby d8_30) rfl k) ?_
    refine own_go (fun _ k => XS.iloadN X0.here hx rfl (hb hby d8_32) rfl k) ?_
    show own_Run p e below _ s₁ (mkF m 33 #[.val (.ref a1), .val (.int (0 : Int32)), .val (.int (3 : Int32)), .val (.int p4), .val (.int (2 : Int32)), .val (.int (2 : Int32)), .val (.int (2 : Int32)), .val (.int x2)] [(.int p4), (.int x2)])
    refine own_go (fun _ k => XS.icmpYes X0.here hx rfl (pc0 := 33) (pc' := 45) rfl (hb hby d8_33) rfl (flt (own_asym hz2 : ¬ (x2 < p4))).2.1 (by decide) (by decide) k) ?_
    show own_Run p e below _ s₁ (mkF m 45 #[.val (.ref a1), .val (.int (0 : Int32)), .val (.int (3 : Int32)), .val (.int p4), .val (.int (2 : Int32)), .val (.int (2 : Int32)), .val (.int (2 : Int32)), .val (.int x2)] [])
    refine own_go (fun _ k => XS.iload X0.here hx rfl (hb hby d8_45) rfl k) ?_
    refine own_go (fun _ k => XS.iloadN X0.here hx rfl (hb hby d8_47) rfl k) ?_
    show own_Run p e below _ s₁ (mkF m 48 #[.val (.ref a1), .val (.int (0 : Int32)), .val (.int (3 : Int32)), .val (.int p4), .val (.int (2 : Int32)), .val (.int (2 : Int32)), .val (.int (2 : Int32)), .val (.int x2)] [(.int p4), (.int x2)])
    refine own_go (fun _ k => XS.icmpNo X0.here hx rfl (hb hby d8_48) rfl (tlt hz2).2.2.2 k) ?_
    show own_Run p e below _ s₁ (mkF m 51 #[.val (.ref a1), .val (.int (0 : Int32)), .val (.int (3 : Int32)), .val (.int p4), .val (.int (2 : Int32)), .val (.int (2 : Int32)), .val (.int (2 : Int32)), .val (.int x2)] [])
    refine own_go (fun _ k => XS.iload X0.here hx rfl (hb hby d8_51) rfl k) ?_
    refine own_go (fun _ k => XS.iconst X0.here hx rfl (hb hby d8_53) k) ?_
    refine own_go (fun _ k => XS.isub X0.here hx rfl (hb hby d8_54) rfl k) ?_
    show own_Run p e below _ s₁ (mkF m 55 #[.val (.ref a1), .val (.int (0 : Int32)), .val (.int (3 : Int32)), .val (.int p4), .val (.int (2 : Int32)), .val (.int (2 : Int32)), .val (.int (2 : Int32)), .val (.int x2)] [(.int ((2 : Int32) - (1 : Int32)))])
    rw [show ((2 : Int32) - (1 : Int32)) = (1 : Int32) by decide]
    show own_Run p e below _ s₁ (mkF m 55 #[.val (.ref a1), .val (.int (0 : Int32)), .val (.int (3 : Int32)), .val (.int p4), .val (.int (2 : Int32)), .val (.int (2 : Int32)), .val (.int (2 : Int32)), .val (.int x2)] [(.int (1 : Int32))])
    refine own_go (fun _ k => XS.istore X0.here hx rfl (hb hby d8_55) rfl (l' := #[.val (.ref a1), .val (.int (0 : Int32)), .val (.int (3 : Int32)), .val (.int p4), .val (.int (2 : Int32)), .val (.int (1 : Int32)), .val (.int (2 : Int32)), .val (.int x2)]) rfl k) ?_
    refine own_go (fun _ k => XS.goto X0.here hx rfl (pc0 := 57) (pc' := 63) rfl (hb hby d8_57) (by decide) (by decide) k) ?_
    refine own_go (fun _ k => XS.goto X0.here hx rfl (pc0 := 63) (pc' := 8) rfl (hb hby d8_63) (by decide) (by decide) k) ?_
    refine own_go (fun _ k => XS.iload X0.here hx rfl (hb hby d8_8) rfl k) ?_
    show own_Run p e below _ s₁ (mkF m 10 #[.val (.ref a1), .val (.int (0 : Int32)), .val (.int (3 : Int32)), .val (.int p4), .val (.int (2 : Int32)), .val (.int (1 : Int32)), .val (.int (2 : Int32)), .val (.int x2)] [(.int (2 : Int32))])
    refine own_go (fun _ k => XS.iload X0.here hx rfl (hb hby d8_10) rfl k) ?_
    show own_Run p e below _ s₁ (mkF m 12 #[.val (.ref a1), .val (.int (0 : Int32)), .val (.int (3 : Int32)), .val (.int p4), .val (.int (2 : Int32)), .val (.int (1 : Int32)), .val (.int (2 : Int32)), .val (.int x2)] [(.int (1 : Int32)), (.int (2 : Int32))])
    refine own_go (fun _ k => XS.icmpYes X0.here hx rfl (pc0 := 12) (pc' := 66) rfl (hb hby d8_12) rfl (tlt (by decide : (1 : Int32) < (2 : Int32))).2.2.1 (by decide) (by decide) k) ?_
    show own_Run p e below _ s₁ (mkF m 66 #[.val (.ref a1), .val (.int (0 : Int32)), .val (.int (3 : Int32)), .val (.int p4), .val (.int (2 : Int32)), .val (.int (1 : Int32)), .val (.int (2 : Int32)), .val (.int x2)] [])
    refine own_go (fun _ k => XS.iload X0.here hx rfl (hb hby d8_66) rfl k) ?_
    refine own_go (fun _ k => XS.iconst X0.here hx rfl (hb hby d8_68) k) ?_
    refine own_go (fun _ k => XS.iadd X0.here hx rfl (hb hby d8_69) rfl k) ?_
    show own_Run p e below _ s₁ (mkF m 70 #[.val (.ref a1), .val (.int (0 : Int32)), .val (.int (3 : Int32)), .val (.int p4), .val (.int (2 : Int32)), .val (.int (1 : Int32)), .val (.int (2 : Int32)), .val (.int x2)] [(.int ((2 : Int32) + (1 : Int32)))])
    rw [show ((2 : Int32) + (1 : Int32)) = (3 : Int32) by decide]
    show own_Run p e below _ s₁ (mkF m 70 #[.val (.ref a1), .val (.int (0 : Int32)), .val (.int (3 : Int32)), .val (.int p4), .val (.int (2 : Int32)), .val (.int (1 : Int32)), .val (.int (2 : Int32)), .val (.int x2)] [(.int (3 : Int32))])
    refine own_go (fun _ k => XS.ineg X0.here hx rfl (hb hby d8_70) rfl k) ?_
    show own_Run p e below _ s₁ (mkF m 71 #[.val (.ref a1), .val (.int (0 : Int32)), .val (.int (3 : Int32)), .val (.int p4), .val (.int (2 : Int32)), .val (.int (1 : Int32)), .val (.int (2 : Int32)), .val (.int x2)] [(.int (-(3 : Int32)))])
    rw [show (-(3 : Int32)) = (-3 : Int32) by decide]
    show own_Run p e below _ s₁ (mkF m 71 #[.val (.ref a1), .val (.int (0 : Int32)), .val (.int (3 : Int32)), .val (.int p4), .val (.int (2 : Int32)), .val (.int (1 : Int32)), .val (.int (2 : Int32)), .val (.int x2)] [(.int (-3 : Int32))])
    refine own_done (Q := fun v h L => Q8n3 Z a1 p4 k1 x0 x1 x2 x3 x4 x5 x6 x7 (-3 : Int32) h0 n0 v h L) (v := (some (.int (-3 : Int32)))) X0 (fun h => by rw [hret] at h; cases h) hlk (fun fs hr => own_retI X0 hx hret (hb hby d8_71) hr) ?_ (by decide) (by decide)
    show Q8n3 Z a1 p4 k1 x0 x1 x2 x3 x4 x5 x6 x7 (-3 : Int32) h0 n0 _ s₁.heap _
    rw [e0]
    exact ⟨rfl, N0, rfl⟩
  · show own_Run p e below _ s₁ (mkF m 0 #[.val (.ref a1), .val (.int (0 : Int32)), .val (.int (3 : Int32)), .val (.int p4), .unset, .unset, .unset, .unset] [])
    refine own_go (fun _ k => XS.iloadN X0.here hx rfl (hb hby d8_0) rfl k) ?_
    refine own_go (fun _ k => XS.istore X0.here hx rfl (hb hby d8_1) rfl (l' := #[.val (.ref a1), .val (.int (0 : Int32)), .val (.int (3 : Int32)), .val (.int p4), .val (.int (0 : Int32)), .unset, .unset, .unset]) rfl k) ?_
    refine own_go (fun _ k => XS.iloadN X0.here hx rfl (hb hby d8_3) rfl k) ?_
    refine own_go (fun _ k => XS.iconst X0.here hx rfl (hb hby d8_4) k) ?_
    show own_Run p e below _ s₁ (mkF m 5 #[.val (.ref a1), .val (.int (0 : Int32)), .val (.int (3 : Int32)), .val (.int p4), .val (.int (0 : Int32)), .unset, .unset, .unset] [(.int (1 : Int32)), (.int (3 : Int32))])
    refine own_go (fun _ k => XS.isub X0.here hx rfl (hb hby d8_5) rfl k) ?_
    show own_Run p e below _ s₁ (mkF m 6 #[.val (.ref a1), .val (.int (0 : Int32)), .val (.int (3 : Int32)), .val (.int p4), .val (.int (0 : Int32)), .unset, .unset, .unset] [(.int ((3 : Int32) - (1 : Int32)))])
    rw [show ((3 : Int32) - (1 : Int32)) = (2 : Int32) by decide]
    show own_Run p e below _ s₁ (mkF m 6 #[.val (.ref a1), .val (.int (0 : Int32)), .val (.int (3 : Int32)), .val (.int p4), .val (.int (0 : Int32)), .unset, .unset, .unset] [(.int (2 : Int32))])
    refine own_go (fun _ k => XS.istore X0.here hx rfl (hb hby d8_6) rfl (l' := #[.val (.ref a1), .val (.int (0 : Int32)), .val (.int (3 : Int32)), .val (.int p4), .val (.int (0 : Int32)), .val (.int (2 : Int32)), .unset, .unset]) rfl k) ?_
    refine own_go (fun _ k => XS.iload X0.here hx rfl (hb hby d8_8) rfl k) ?_
    refine own_go (fun _ k => XS.iload X0.here hx rfl (hb hby d8_10) rfl k) ?_
    show own_Run p e below _ s₁ (mkF m 12 #[.val (.ref a1), .val (.int (0 : Int32)), .val (.int (3 : Int32)), .val (.int p4), .val (.int (0 : Int32)), .val (.int (2 : Int32)), .unset, .unset] [(.int (2 : Int32)), (.int (0 : Int32))])
    refine own_go (fun _ k => XS.icmpNo X0.here hx rfl (hb hby d8_12) rfl (flt (by decide : ¬ ((2 : Int32) < (0 : Int32)))).2.2.1 k) ?_
    show own_Run p e below _ s₁ (mkF m 15 #[.val (.ref a1), .val (.int (0 : Int32)), .val (.int (3 : Int32)), .val (.int p4), .val (.int (0 : Int32)), .val (.int (2 : Int32)), .unset, .unset] [])
    refine own_go (fun _ k => XS.iload X0.here hx rfl (hb hby d8_15) rfl k) ?_
    refine own_go (fun _ k => XS.iload X0.here hx rfl (hb hby d8_17) rfl k) ?_
    refine own_go (fun _ k => XS.iadd X0.here hx rfl (hb hby d8_19) rfl k) ?_
    show own_Run p e below _ s₁ (mkF m 20 #[.val (.ref a1), .val (.int (0 : Int32)), .val (.int (3 : Int32)), .val (.int p4), .val (.int (0 : Int32)), .val (.int (2 : Int32)), .unset, .unset] [(.int ((0 : Int32) + (2 : Int32)))])
    rw [show ((0 : Int32) + (2 : Int32)) = (2 : Int32) by decide]
    show own_Run p e below _ s₁ (mkF m 20 #[.val (.ref a1), .val (.int (0 : Int32)), .val (.int (3 : Int32)), .val (.int p4), .val (.int (0 : Int32)), .val (.int (2 : Int32)), .unset, .unset] [(.int (2 : Int32))])
    refine own_go (fun _ k => XS.iconst X0.here hx rfl (hb hby d8_20) k) ?_
    refine own_go (fun _ k => XS.iushr X0.here hx rfl (hb hby d8_21) rfl k) ?_
    show own_Run p e below _ s₁ (mkF m 22 #[.val (.ref a1), .val (.int (0 : Int32)), .val (.int (3 : Int32)), .val (.int p4), .val (.int (0 : Int32)), .val (.int (2 : Int32)), .unset, .unset] [(.int (((2 : Int32).toUInt32 >>> ((1 : Int32) &&& 31).toUInt32).toInt32))])
    rw [show (((2 : Int32).toUInt32 >>> ((1 : Int32) &&& 31).toUInt32).toInt32) = (1 : Int32) by decide]
    show own_Run p e below _ s₁ (mkF m 22 #[.val (.ref a1), .val (.int (0 : Int32)), .val (.int (3 : Int32)), .val (.int p4), .val (.int (0 : Int32)), .val (.int (2 : Int32)), .unset, .unset] [(.int (1 : Int32))])
    refine own_go (fun _ k => XS.istore X0.here hx rfl (hb hby d8_22) rfl (l' := #[.val (.ref a1), .val (.int (0 : Int32)), .val (.int (3 : Int32)), .val (.int p4), .val (.int (0 : Int32)), .val (.int (2 : Int32)), .val (.int (1 : Int32)), .unset]) rfl k) ?_
    refine own_go (fun _ k => XS.aloadN X0.here hx rfl (hb hby d8_24) rfl rfl k) ?_
    refine own_go (fun _ k => XS.iload X0.here hx rfl (hb hby d8_25) rfl k) ?_
    show own_Run p e below _ s₁ (mkF m 27 #[.val (.ref a1), .val (.int (0 : Int32)), .val (.int (3 : Int32)), .val (.int p4), .val (.int (0 : Int32)), .val (.int (2 : Int32)), .val (.int (1 : Int32)), .unset] [(.int (1 : Int32)), (.ref a1)])
    obtain ⟨cl123, Ar123, q123, S123, N123, H123, G123⟩ := id V_a1
    have hin123 : ¬ ((1 : Int32) < 0 ∨ cl123.slots.size ≤ ((1 : Int32)).toNatClampNeg) := inb_of S123 ⟨by decide, by decide⟩
    refine own_go (X0.iaload hx (j := (1 : Int32)) (v := (.int x1)) (by rw [e0]; exact Ar123.1) (State.isArrayOf_alike hZ.alike Ar123.2.1) Ar123.2.2 hin123 (H123.at hin123 rfl) (g := (mkF m 27 #[.val (.ref a1), .val (.int (0 : Int32)), .val (.int (3 : Int32)), .val (.int p4), .val (.int (0 : Int32)), .val (.int (2 : Int32)), .val (.int (1 : Int32)), .unset] [(.int (1 : Int32)), (.ref a1)])) rfl rfl (hb hby d8_27)) ?_
    show own_Run p e below _ s₁ (mkF m 28 #[.val (.ref a1), .val (.int (0 : Int32)), .val (.int (3 : Int32)), .val (.int p4), .val (.int (0 : Int32)), .val (.int (2 : Int32)), .val (.int (1 : Int32)), .unset] [(.int x1)])
    refine own_go (fun _ k => XS.istore X0.here hx rfl (hb hby d8_28) rfl (l' := #[.val (.ref a1), .val (.int (0 : Int32)), .val (.int (3 : Int32)), .val (.int p4), .val (.int (0 : Int32)), .val (.int (2 : Int32)), .val (.int (1 : Int32)), .val (.int x1)]) rfl k) ?_
    refine own_go (fun _ k => XS.iload X0.here hx rfl (hb hby d8_30) rfl k) ?_
    refine own_go (fun _ k => XS.iloadN X0.here hx rfl (hb hby d8_32) rfl k) ?_
    show own_Run p e below _ s₁ (mkF m 33 #[.val (.ref a1), .val (.int (0 : Int32)), .val (.int (3 : Int32)), .val (.int p4), .val (.int (0 : Int32)), .val (.int (2 : Int32)), .val (.int (1 : Int32)), .val (.int x1)] [(.int p4), (.int x1)])
    refine own_go (fun _ k => XS.icmpNo X0.here hx rfl (hb hby d8_33) rfl (tlt hz1).2.1 k) ?_
    show own_Run p e below _ s₁ (mkF m 36 #[.val (.ref a1), .val (.int (0 : Int32)), .val (.int (3 : Int32)), .val (.int p4), .val (.int (0 : Int32)), .val (.int (2 : Int32)), .val (.int (1 : Int32)), .val (.int x1)] [])
    refine own_go (fun _ k => XS.iload X0.here hx rfl (hb hby d8_36) rfl k) ?_
    refine own_go (fun _ k => XS.iconst X0.here hx rfl (hb hby d8_38) k) ?_
    refine own_go (fun _ k => XS.iadd X0.here hx rfl (hb hby d8_39) rfl k) ?_
    show own_Run p e below _ s₁ (mkF m 40 #[.val (.ref a1), .val (.int (0 : Int32)), .val (.int (3 : Int32)), .val (.int p4), .val (.int (0 : Int32)), .val (.int (2 : Int32)), .val (.int (1 : Int32)), .val (.int x1)] [(.int ((1 : Int32) + (1 : Int32)))])
    rw [show ((1 : Int32) + (1 : Int32)) = (2 : Int32) by decide]
    show own_Run p e below _ s₁ (mkF m 40 #[.val (.ref a1), .val (.int (0 : Int32)), .val (.int (3 : Int32)), .val (.int p4), .val (.int (0 : Int32)), .val (.int (2 : Int32)), .val (.int (1 : Int32)), .val (.int x1)] [(.int (2 : Int32))])
    refine own_go (fun _ k => XS.istore X0.here hx rfl (hb hby d8_40) rfl (l' := #[.val (.ref a1), .val (.int (0 : Int32)), .val (.int (3 : Int32)), .val (.int p4), .val (.int (2 : Int32)), .val (.int (2 : Int32)), .val (.int (1 : Int32)), .val (.int x1)]) rfl k) ?_
    refine own_go (fun _ k => XS.goto X0.here hx rfl (pc0 := 42) (pc' := 63) rfl (hb hby d8_42) (by decide) (by decide) k) ?_
    refine own_go (fun _ k => XS.goto X0.here hx rfl (pc0 := 63) (pc' := 8) rfl (hb hby d8_63) (by decide) (by decide) k) ?_
    refine own_go (fun _ k => XS.iload X0.here hx rfl (hb hby d8_8) rfl k) ?_
    show own_Run p e below _ s₁ (mkF m 10 #[.val (.ref a1), .val (.int (0 : Int32)), .val (.int (3 : Int32)), .val (.int p4), .val (.int (2 : Int32)), .val (.int (2 : Int32)), .val (.int (1 : Int32)), .val (.int x1)] [(.int (2 : Int32))])
    refine own_go (fun _ k => XS.iload X0.here hx rfl (hb hby d8_10) rfl k) ?_
    show own_Run p e below _ s₁ (mkF m 12 #[.val (.ref a1), .val (.int (0 : Int32)), .val (.int (3 : Int32)), .val (.int p4), .val (.int (2 : Int32)), .val (.int (2 : Int32)), .val (.int (1 : Int32)), .val (.int x1)] [(.int (2 : Int32)), (.int (2 : Int32))])
    refine own_go (fun _ k => XS.icmpNo X0.here hx rfl (hb hby d8_12) rfl (flt (by decide : ¬ ((2 : Int32) < (2 : Int32)))).2.2.1 k) ?_
    show own_Run p e below _ s₁ (mkF m 15 #[.val (.ref a1), .val (.int (0 : Int32)), .val (.int (3 : Int32)), .val (.int p4), .val (.int (2 : Int32)), .val (.int (2 : Int32)), .val (.int (1 : Int32)), .val (.int x1)] [])
    refine own_go (fun _ k => XS.iload X0.here hx rfl (hb hby d8_15) rfl k) ?_
    refine own_go (fun _ k => XS.iload X0.here hx rfl (hb hby d8_17) rfl k) ?_
    refine own_go (fun _ k => XS.iadd X0.here hx rfl (hb hby d8_19) rfl k) ?_
    show own_Run p e below _ s₁ (mkF m 20 #[.val (.ref a1), .val (.int (0 : Int32)), .val (.int (3 : Int32)), .val (.int p4), .val (.int (2 : Int32)), .val (.int (2 : Int32)), .val (.int (1 : Int32)), .val (.int x1)] [(.int ((2 : Int32) + (2 : Int32)))])
    rw [show ((2 : Int32) + (2 : Int32)) = (4 : Int32) by decide]
    show own_Run p e below _ s₁ (mkF m 20 #[.val (.ref a1), .val (.int (0 : Int32)), .val (.int (3 : Int32)), .val (.int p4), .val (.int (2 : Int32)), .val (.int (2 : Int32)), .val (.int (1 : Int32)), .val (.int x1)] [(.int (4 : Int32))])
    refine own_go (fun _ k => XS.iconst X0.here hx rfl (hb hby d8_20) k) ?_
    refine own_go (fun _ k => XS.iushr X0.here hx rfl (hb hby d8_21) rfl k) ?_
    show own_Run p e below _ s₁ (mkF m 22 #[.val (.ref a1), .val (.int (0 : Int32)), .val (.int (3 : Int32)), .val (.int p4), .val (.int (2 : Int32)), .val (.int (2 : Int32)), .val (.int (1 : Int32)), .val (.int x1)] [(.int (((4 : Int32).toUInt32 >>> ((1 : Int32) &&& 31).toUInt32).toInt32))])
    rw [show (((4 : Int32).toUInt32 >>> ((1 : Int32) &&& 31).toUInt32).toInt32) = (2 : Int32) by decide]
    show own_Run p e below _ s₁ (mkF m 22 #[.val (.ref a1), .val (.int (0 : Int32)), .val (.int (3 : Int32)), .val (.int p4), .val (.int (2 : Int32)), .val (.int (2 : Int32)), .val (.int (1 : Int32)), .val (.int x1)] [(.int (2 : Int32))])
    refine own_go (fun _ k => XS.istore X0.here hx rfl (hb hby d8_22) rfl (l' := #[.val (.ref a1), .val (.int (0 : Int32)), .val (.int (3 : Int32)), .val (.int p4), .val (.int (2 : Int32)), .val (.int (2 : Int32)), .val (.int (2 : Int32)), .val (.int x1)]) rfl k) ?_
    refine own_go (fun _ k => XS.aloadN X0.here hx rfl (hb hby d8_24) rfl rfl k) ?_
    refine own_go (fun _ k => XS.iload X0.here hx rfl (hb hby d8_25) rfl k) ?_
    show own_Run p e below _ s₁ (mkF m 27 #[.val (.ref a1), .val (.int (0 : Int32)), .val (.int (3 : Int32)), .val (.int p4), .val (.int (2 : Int32)), .val (.int (2 : Int32)), .val (.int (2 : Int32)), .val (.int x1)] [(.int (2 : Int32)), (.ref a1)])
    obtain ⟨cl124, Ar124, q124, S124, N124, H124, G124⟩ := id V_a1
    have hin124 : ¬ ((2 : Int32) < 0 ∨ cl124.slots.size ≤ ((2 : Int32)).toNatClampNeg) := inb_of S124 ⟨by decide, by decide⟩
    refine own_go (X0.iaload hx (j := (2 : Int32)) (v := (.int x2)) (by rw [e0]; exact Ar124.1) (State.isArrayOf_alike hZ.alike Ar124.2.1) Ar124.2.2 hin124 (H124.at hin124 rfl) (g := (mkF m 27 #[.val (.ref a1), .val (.int (0 : Int32)), .val (.int (3 : Int32)), .val (.int p4), .val (.int (2 : Int32)), .val (.int (2 : Int32)), .val (.int (2 : Int32)), .val (.int x1)] [(.int (2 : Int32)), (.ref a1)])) rfl rfl (hb hby d8_27)) ?_
    show own_Run p e below _ s₁ (mkF m 28 #[.val (.ref a1), .val (.int (0 : Int32)), .val (.int (3 : Int32)), .val (.int p4), .val (.int (2 : Int32)), .val (.int (2 : Int32)), .val (.int (2 : Int32)), .val (.int x1)] [(.int x2)])
    refine own_go (fun _ k => XS.istore X0.here hx rfl (hb hby d8_28) rfl (l' := #[.val (.ref a1), .val (.int (0 : Int32)), .val (.int (3 : Int32)), .val (.int p4), .val (.int (2 : Int32)), .val (.int (2 : Int32)), .val (.int (2 : Int32)), .val (.int x2)]) rfl k) ?_
    refine own_go (fun _ k => XS.iload X0.here hx rfl (hb hby d8_30) rfl k) ?_
    refine own_go (fun _ k => XS.iloadN X0.here hx rfl (hb hby d8_32) rfl k) ?_
    show own_Run p e below _ s₁ (mkF m 33 #[.val (.ref a1), .val (.int (0 : Int32)), .val (.int (3 : Int32)), .val (.int p4), .val (.int (2 : Int32)), .val (.int (2 : Int32)), .val (.int (2 : Int32)), .val (.int x2)] [(.int p4), (.int x2)])
    refine own_go (fun _ k => XS.icmpNo X0.here hx rfl (hb hby d8_33) rfl (tlt hz2).2.1 k) ?_
    show own_Run p e below _ s₁ (mkF m 36 #[.val (.ref a1), .val (.int (0 : Int32)), .val (.int (3 : Int32)), .val (.int p4), .val (.int (2 : Int32)), .val (.int (2 : Int32)), .val (.int (2 : Int32)), .val (.int x2)] [])
    refine own_go (fun _ k => XS.iload X0.here hx rfl (hb hby d8_36) rfl k) ?_
    refine own_go (fun _ k => XS.iconst X0.here hx rfl (hb hby d8_38) k) ?_
    refine own_go (fun _ k => XS.iadd X0.here hx rfl (hb hby d8_39) rfl k) ?_
    show own_Run p e below _ s₁ (mkF m 40 #[.val (.ref a1), .val (.int (0 : Int32)), .val (.int (3 : Int32)), .val (.int p4), .val (.int (2 : Int32)), .val (.int (2 : Int32)), .val (.int (2 : Int32)), .val (.int x2)] [(.int ((2 : Int32) + (1 : Int32)))])
    rw [show ((2 : Int32) + (1 : Int32)) = (3 : Int32) by decide]
    show own_Run p e below _ s₁ (mkF m 40 #[.val (.ref a1), .val (.int (0 : Int32)), .val (.int (3 : Int32)), .val (.int p4), .val (.int (2 : Int32)), .val (.int (2 : Int32)), .val (.int (2 : Int32)), .val (.int x2)] [(.int (3 : Int32))])
    refine own_go (fun _ k => XS.istore X0.here hx rfl (hb hby d8_40) rfl (l' := #[.val (.ref a1), .val (.int (0 : Int32)), .val (.int (3 : Int32)), .val (.int p4), .val (.int (3 : Int32)), .val (.int (2 : Int32)), .val (.int (2 : Int32)), .val (.int x2)]) rfl k) ?_
    refine own_go (fun _ k => XS.goto X0.here hx rfl (pc0 := 42) (pc' := 63) rfl (hb hby d8_42) (by decide) (by decide) k) ?_
    refine own_go (fun _ k => XS.goto X0.here hx rfl (pc0 := 63) (pc' := 8) rfl (hb hby d8_63) (by decide) (by decide) k) ?_
    refine own_go (fun _ k => XS.iload X0.here hx rfl (hb hby d8_8) rfl k) ?_
    show own_Run p e below _ s₁ (mkF m 10 #[.val (.ref a1), .val (.int (0 : Int32)), .val (.int (3 : Int32)), .val (.int p4), .val (.int (3 : Int32)), .val (.int (2 : Int32)), .val (.int (2 : Int32)), .val (.int x2)] [(.int (3 : Int32))])
    refine own_go (fun _ k => XS.iload X0.here hx rfl (hb hby d8_10) rfl k) ?_
    show own_Run p e below _ s₁ (mkF m 12 #[.val (.ref a1), .val (.int (0 : Int32)), .val (.int (3 : Int32)), .val (.int p4), .val (.int (3 : Int32)), .val (.int (2 : Int32)), .val (.int (2 : Int32)), .val (.int x2)] [(.int (2 : Int32)), (.int (3 : Int32))])
    refine own_go (fun _ k => XS.icmpYes X0.here hx rfl (pc0 := 12) (pc' := 66) rfl (hb hby d8_12) rfl (tlt (by decide : (2 : Int32) < (3 : Int32))).2.2.1 (by decide) (by decide) k) ?_
    show own_Run p e below _ s₁ (mkF m 66 #[.val (.ref a1), .val (.int (0 : Int32)), .val (.int (3 : Int32)), .val (.int p4), .val (.int (3 : Int32)), .val (.int (2 : Int32)), .val (.int (2 : Int32)), .val (.int x2)] [])
    refine own_go (fun _ k => XS.iload X0.here hx rfl (hb hby d8_66) rfl k) ?_
    refine own_go (fun _ k => XS.iconst X0.here hx rfl (hb hby d8_68) k) ?_
    refine own_go (fun _ k => XS.iadd X0.here hx rfl (hb hby d8_69) rfl k) ?_
    show own_Run p e below _ s₁ (mkF m 70 #[.val (.ref a1), .val (.int (0 : Int32)), .val (.int (3 : Int32)), .val (.int p4), .val (.int (3 : Int32)), .val (.int (2 : Int32)), .val (.int (2 : Int32)), .val (.int x2)] [(.int ((3 : Int32) + (1 : Int32)))])
    rw [show ((3 : Int32) + (1 : Int32)) = (4 : Int32) by decide]
    show own_Run p e below _ s₁ (mkF m 70 #[.val (.ref a1), .val (.int (0 : Int32)), .val (.int (3 : Int32)), .val (.int p4), .val (.int (3 : Int32)), .val (.int (2 : Int32)), .val (.int (2 : Int32)), .val (.int x2)] [(.int (4 : Int32))])
    refine own_go (fun _ k => XS.ineg X0.here hx rfl (hb hby d8_70) rfl k) ?_
    show own_Run p e below _ s₁ (mkF m 71 #[.val (.ref a1), .val (.int (0 : Int32)), .val (.int (3 : Int32)), .val (.int p4), .val (.int (3 : Int32)), .val (.int (2 : Int32)), .val (.int (2 : Int32)), .val (.int x2)] [(.int (-(4 : Int32)))])
    rw [show (-(4 : Int32)) = (-4 : Int32) by decide]
    show own_Run p e below _ s₁ (mkF m 71 #[.val (.ref a1), .val (.int (0 : Int32)), .val (.int (3 : Int32)), .val (.int p4), .val (.int (3 : Int32)), .val (.int (2 : Int32)), .val (.int (2 : Int32)), .val (.int x2)] [(.int (-4 : Int32))])
    refine own_done (Q := fun v h L => Q8n3 Z a1 p4 k1 x0 x1 x2 x3 x4 x5 x6 x7 (-4 : Int32) h0 n0 v h L) (v := (some (.int (-4 : Int32)))) X0 (fun h => by rw [hret] at h; cases h) hlk (fun fs hr => own_retI X0 hx hret (hb hby d8_71) hr) ?_ (by decide) (by decide)
    show Q8n3 Z a1 p4 k1 x0 x1 x2 x3 x4 x5 x6 x7 (-4 : Int32) h0 n0 _ s₁.heap _
    rw [e0]
    exact ⟨rfl, N0, rfl⟩
def Q6n3 (Z : State) (a1 : Addr) (p4 : Int32) (k1 : ClassId) (x0 : Int32) (x1 : Int32) (x2 : Int32) (x3 : Int32) (x4 : Int32) (x5 : Int32) (x6 : Int32) (x7 : Int32) (r : Int32) (h0 : Heap) (n0 : Nat) (v : Option Value) (h : Heap) (L : List Loc) : Prop := v = some (.int r) ∧ Fr n0 L ∧ h = h0
set_option maxRecDepth 65536 in
set_option maxHeartbeats 40000000 in
theorem rm6n3 (l : Launch) (Z : State) (a0 : Array Value) (hw : ∀ d ∈ tables_1, d.before a0 Z = true) (ws : List Jvm.Cond) (a1 : Addr) (p4 : Int32) (k1 : ClassId) (x0 : Int32) (x1 : Int32) (x2 : Int32) (x3 : Int32) (x4 : Int32) (x5 : Int32) (x6 : Int32) (x7 : Int32) (r : Int32) (h0 : Heap) (n0 : Nat) (Z0 : n0 ≤ h0.size) (V_a1 : Arv Z h0 a1 k1 .int (8 : Int32) [(.int x0), (.int x1), (.int x2), (.int x3), (.int x4), (.int x5), (.int x6), (.int x7)] (.int (0 : Int32))) (hp : (x0 = p4 ∧ p4 < x1 ∧ p4 < x2 ∧ r = (0 : Int32)) ∨ (p4 < x0 ∧ p4 < x1 ∧ p4 < x2 ∧ r = (-1 : Int32)) ∨ (x0 < p4 ∧ x1 = p4 ∧ p4 < x2 ∧ r = (1 : Int32)) ∨ (x0 < p4 ∧ p4 < x1 ∧ p4 < x2 ∧ r = (-2 : Int32)) ∨ (x0 < p4 ∧ x1 < p4 ∧ x2 = p4 ∧ r = (2 : Int32)) ∨ (x0 < p4 ∧ x1 < p4 ∧ p4 < x2 ∧ r = (-3 : Int32)) ∨ (x0 < p4 ∧ x1 < p4 ∧ x2 < p4 ∧ r = (-4 : Int32))) :
    MetFree l (⟨"java/util/Arrays", "binarySearch", "([IIII)I"⟩ : MethodName) (head1 (Jvm.Cond.code (⟨"java/util/Arrays", "binarySearch", "([IIII)I"⟩ : MethodName) jdk_65_method_58_code 4 (some .int) :: ws) ({ frames := 1, cells := 0, slots := 0, locals := 20 } : Room)) (fun a U => a = #[(.ref a1), (.int (0 : Int32)), (.int (3 : Int32)), (.int p4)] ∧ Z.Warmed39 U.vm ∧ U.heap = h0) (fun _ _ _ _ _ => True) (fun _ U o U' => ∃ v L, o = .returned v ∧ Q6n3 Z a1 p4 k1 x0 x1 x2 x3 x4 x5 x6 x7 r h0 n0 v U'.heap L ∧ FrameEnd U o U' L ({ frames := 1, cells := 0, slots := 0, locals := 20 } : Room).cells ({ frames := 1, cells := 0, slots := 0, locals := 20 } : Room).slots) := by
  refine MetFree.of_bodySF (plainFor_of_name pn_6) hisR ?_
  intro p e s m args below meth c s₁ Bd hml0 hP hK
  obtain ⟨rfl, hZ, hh⟩ := hP
  have hx := Bd.exec
  have hby := Bd.bytes
  have hml : c.maxLocals = 4 := hml0
  have hown : s.vm.findClass "java/util/Arrays" = some m.cls := findClass_of_methodNamed Bd.named
  have hnm := (name_of_methodNamed Bd.named Bd.method).1
  have hret := Bd.returns
  have hlk : meth.locks = false := BodyLoose.notSynchronized Bd
  have X0 : Stand p l e ({ frames := 1, cells := 0, slots := 0, locals := 20 } : Room) s m #[(.ref a1), (.int (0 : Int32)), (.int (3 : Int32)), (.int p4)] below meth c s₁ [] 0 0 := Stand.of_body Bd
  have e0 : s₁.heap = h0 := by rw [← hh, Bd.state]; rfl
  have N0 := Fr.nil n0
  have W := fun (k : Nat) {d : Jvm.Cond} (h : tables_1[k]? = some d) => hw d (List.mem_of_getElem? h)
  have K0 : Keep h0 h0 [] := Keep.refl _ _
  refine own_start (ef_6 m a1 (0 : Int32) (3 : Int32) p4) ?_
  show own_Run p e below _ s₁ (mkF m 0 #[.val (.ref a1), .val (.int (0 : Int32)), .val (.int (3 : Int32)), .val (.int p4)] [])
  refine own_go (fun _ k => XS.aloadN X0.here hx rfl (hb hby d6_0) rfl rfl k) ?_
  show own_Run p e below _ s₁ (mkF m 1 #[.val (.ref a1), .val (.int (0 : Int32)), .val (.int (3 : Int32)), .val (.int p4)] [(.ref a1)])
  obtain ⟨cl125, Ar125, q125, S125, N125, H125, G125⟩ := id V_a1
  refine own_go (X0.arraylength hx (by rw [e0]; exact Ar125.1) (State.isArrayOf_alike hZ.alike Ar125.2.1) (g := (mkF m 1 #[.val (.ref a1), .val (.int (0 : Int32)), .val (.int (3 : Int32)), .val (.int p4)] [(.ref a1)])) rfl rfl (hb hby d6_1)) ?_
  rw [len_of S125 N125]
  show own_Run p e below _ s₁ (mkF m 2 #[.val (.ref a1), .val (.int (0 : Int32)), .val (.int (3 : Int32)), .val (.int p4)] [(.int (8 : Int32))])
  refine own_go (fun _ k => XS.iloadN X0.here hx rfl (hb hby d6_2) rfl k) ?_
  refine own_go (fun _ k => XS.iloadN X0.here hx rfl (hb hby d6_3) rfl k) ?_
  show own_Run p e below _ s₁ (mkF m 4 #[.val (.ref a1), .val (.int (0 : Int32)), .val (.int (3 : Int32)), .val (.int p4)] [(.int (3 : Int32)), (.int (0 : Int32)), (.int (8 : Int32))])
  obtain ⟨_, _, ⟨T126, L126, k126, n126⟩, -, X126, ⟨Lc126, hQ126, l126, y126, z126⟩, st126⟩ := Jvm.LawKit.callS X0 hx (y := (⟨"java/util/Arrays", "rangeCheck", "(III)V"⟩ : MethodName)) hown (mvT hZ (W 36 rfl)) (mvT hZ (W 37 rfl)) (mvT hZ (W 34 rfl)) (mvT hZ (W 38 rfl)) (by decide) (backOf (W := 0) (rm7 l Z a0 hw [] (8 : Int32) (0 : Int32) (3 : Int32) h0 n0 Z0 (by decide) (by decide) (by decide)) hZ (W 38 rfl) (W 34 rfl) (by decide) (by decide)) (g := (mkF m 4 #[.val (.ref a1), .val (.int (0 : Int32)), .val (.int (3 : Int32)), .val (.int p4)] [(.int (3 : Int32)), (.int (0 : Int32)), (.int (8 : Int32))])) rfl (by rw [hml]; rfl) (argsL := [(.int (8 : Int32)), (.int (0 : Int32)), (.int (3 : Int32))]) (rest := []) (lenOf pd_1 rfl) rfl (by show 2 * 0 + _ ≤ _; exact Nat.le_of_eq rfl) (hb hby d6_4) (fun _ _ => ⟨rfl, e0, (by decide : 0 + 0 ≤ _), (by decide : 0 + 0 ≤ _)⟩)
  dsimp only [Pt.U, Pt.locs, Pt.cells, Pt.slots] at X126 l126 y126 z126 st126 hQ126
  subst l126 y126 z126
  obtain ⟨rfl, N126q, e126⟩ := hQ126
  have N126 := Fr.app N0 N126q
  refine own_go st126 ?_
  show own_Run p e below _ T126 (mkF m 7 #[.val (.ref a1), .val (.int (0 : Int32)), .val (.int (3 : Int32)), .val (.int p4)] [])
  refine own_go (fun _ k => XS.aloadN X126.here hx rfl (hb hby d6_7) rfl rfl k) ?_
  refine own_go (fun _ k => XS.iloadN X126.here hx rfl (hb hby d6_8) rfl k) ?_
  refine own_go (fun _ k => XS.iloadN X126.here hx rfl (hb hby d6_9) rfl k) ?_
  refine own_go (fun _ k => XS.iloadN X126.here hx rfl (hb hby d6_10) rfl k) ?_
  show own_Run p e below _ T126 (mkF m 11 #[.val (.ref a1), .val (.int (0 : Int32)), .val (.int (3 : Int32)), .val (.int p4)] [(.int p4), (.int (3 : Int32)), (.int (0 : Int32)), (.ref a1)])
  obtain ⟨_, _, ⟨T127, L127, k127, n127⟩, -, X127, ⟨Lc127, hQ127, l127, y127, z127⟩, st127⟩ := Jvm.LawKit.callS X126 hx (y := (⟨"java/util/Arrays", "binarySearch0", "([IIII)I"⟩ : MethodName)) hown (mvT hZ (W 39 rfl)) (mvT hZ (W 40 rfl)) (mvT hZ (W 34 rfl)) (mvT hZ (W 41 rfl)) (by decide) (backOf (W := 0) (rm8n3 l Z a0 hw [] a1 p4 k1 x0 x1 x2 x3 x4 x5 x6 x7 r h0 n0 Z0 V_a1 (hp)) hZ (W 41 rfl) (W 34 rfl) (by decide) (by decide)) (g := (mkF m 11 #[.val (.ref a1), .val (.int (0 : Int32)), .val (.int (3 : Int32)), .val (.int p4)] [(.int p4), (.int (3 : Int32)), (.int (0 : Int32)), (.ref a1)])) rfl (by rw [hml]; rfl) (argsL := [(.ref a1), (.int (0 : Int32)), (.int (3 : Int32)), (.int p4)]) (rest := []) (lenOf pd_2 rfl) rfl (by show 2 * 0 + _ ≤ _; exact Nat.le_of_eq rfl) (hb hby d6_11) (fun _ _ => ⟨rfl, e126, (by decide : 0 + 0 ≤ _), (by decide : 0 + 0 ≤ _)⟩)
  dsimp only [Pt.U, Pt.locs, Pt.cells, Pt.slots] at X127 l127 y127 z127 st127 hQ127
  subst l127 y127 z127
  obtain ⟨rfl, N127q, e127⟩ := hQ127
  have N127 := Fr.app N126 N127q
  refine own_go st127 ?_
  show own_Run p e below _ T127 (mkF m 14 #[.val (.ref a1), .val (.int (0 : Int32)), .val (.int (3 : Int32)), .val (.int p4)] [(.int r)])
  refine own_done (Q := fun v h L => Q6n3 Z a1 p4 k1 x0 x1 x2 x3 x4 x5 x6 x7 r h0 n0 v h L) (v := (some (.int r))) X127 (fun h => by rw [hret] at h; cases h) hlk (fun fs hr => own_retI X127 hx hret (hb hby d6_14) hr) ?_ (by decide) (by decide)
  show Q6n3 Z a1 p4 k1 x0 x1 x2 x3 x4 x5 x6 x7 r h0 n0 _ T127.heap _
  rw [e127]
  exact ⟨rfl, N127, rfl⟩
def Q5n3 (Z : State) (a1 : Addr) (p2 : Int32) (b1 : Addr) (b2 : Addr) (k1 : ClassId) (k2 : ClassId) (x0 : Int32) (x1 : Int32) (x2 : Int32) (x3 : Int32) (x4 : Int32) (x5 : Int32) (x6 : Int32) (x7 : Int32) (t0 : Int64) (t1 : Int64) (t2 : Int64) (t3 : Int64) (t4 : Int64) (t5 : Int64) (t6 : Int64) (t7 : Int64) (r : Int64) (h0 : Heap) (n0 : Nat) (v : Option Value) (h : Heap) (L : List Loc) : Prop := v = some (.long r) ∧ Fr n0 L ∧ h = h0
set_option maxRecDepth 65536 in
set_option maxHeartbeats 40000000 in
theorem rm5n3 (l : Launch) (Z : State) (a0 : Array Value) (hw : ∀ d ∈ tables_1, d.before a0 Z = true) (ws : List Jvm.Cond) (a1 : Addr) (p2 : Int32) (b1 : Addr) (b2 : Addr) (k1 : ClassId) (k2 : ClassId) (x0 : Int32) (x1 : Int32) (x2 : Int32) (x3 : Int32) (x4 : Int32) (x5 : Int32) (x6 : Int32) (x7 : Int32) (t0 : Int64) (t1 : Int64) (t2 : Int64) (t3 : Int64) (t4 : Int64) (t5 : Int64) (t6 : Int64) (t7 : Int64) (r : Int64) (h0 : Heap) (n0 : Nat) (Z0 : n0 ≤ h0.size) (E_a1 : Exa Z h0 a1 "com/example/net_reducer/netreducer/analysis/Marking") (F_places_a1 : Fld Z h0 a1 "com/example/net_reducer/netreducer/analysis/Marking" "places" "[I" (.ref b1)) (F_tokens_a1 : Fld Z h0 a1 "com/example/net_reducer/netreducer/analysis/Marking" "tokens" "[J" (.ref b2)) (F_size_a1 : Fld Z h0 a1 "com/example/net_reducer/netreducer/analysis/Marking" "size" "I" (.int (3 : Int32))) (V_b1 : Arv Z h0 b1 k1 .int (8 : Int32) [(.int x0), (.int x1), (.int x2), (.int x3), (.int x4), (.int x5), (.int x6), (.int x7)] (.int (0 : Int32))) (V_b2 : Arv Z h0 b2 k2 .long (8 : Int32) [(.long t0), (.long t1), (.long t2), (.long t3), (.long t4), (.long t5), (.long t6), (.long t7)] (.long (0 : Int64))) (hp : (x0 = p2 ∧ p2 < x1 ∧ p2 < x2 ∧ t0 = r) ∨ (p2 < x0 ∧ p2 < x1 ∧ p2 < x2 ∧ r = (0 : Int64)) ∨ (x0 < p2 ∧ x1 = p2 ∧ p2 < x2 ∧ t1 = r) ∨ (x0 < p2 ∧ p2 < x1 ∧ p2 < x2 ∧ r = (0 : Int64)) ∨ (x0 < p2 ∧ x1 < p2 ∧ x2 = p2 ∧ t2 = r) ∨ (x0 < p2 ∧ x1 < p2 ∧ p2 < x2 ∧ r = (0 : Int64)) ∨ (x0 < p2 ∧ x1 < p2 ∧ x2 < p2 ∧ r = (0 : Int64))) :
    MetFree l (⟨"com/example/net_reducer/netreducer/analysis/Marking", "tokensOn", "(I)J"⟩ : MethodName) (head1 (Jvm.Cond.code (⟨"com/example/net_reducer/netreducer/analysis/Marking", "tokensOn", "(I)J"⟩ : MethodName) prog_10_method_5_code 3 (some .long) :: ws) ({ frames := 2, cells := 0, slots := 0, locals := 40 } : Room)) (fun a U => a = #[(.ref a1), (.int p2)] ∧ Z.Warmed39 U.vm ∧ U.heap = h0) (fun _ _ _ _ _ => True) (fun _ U o U' => ∃ v L, o = .returned v ∧ Q5n3 Z a1 p2 b1 b2 k1 k2 x0 x1 x2 x3 x4 x5 x6 x7 t0 t1 t2 t3 t4 t5 t6 t7 r h0 n0 v U'.heap L ∧ FrameEnd U o U' L ({ frames := 2, cells := 0, slots := 0, locals := 40 } : Room).cells ({ frames := 2, cells := 0, slots := 0, locals := 40 } : Room).slots) := by
  refine MetFree.of_bodySF (plainFor_of_name pn_5) hisR ?_
  intro p e s m args below meth c s₁ Bd hml0 hP hK
  obtain ⟨rfl, hZ, hh⟩ := hP
  have hx := Bd.exec
  have hby := Bd.bytes
  have hml : c.maxLocals = 3 := hml0
  have hown : s.vm.findClass "com/example/net_reducer/netreducer/analysis/Marking" = some m.cls := findClass_of_methodNamed Bd.named
  have hnm := (name_of_methodNamed Bd.named Bd.method).1
  have hret := Bd.returns
  have hlk : meth.locks = false := BodyLoose.notSynchronized Bd
  have X0 : Stand p l e ({ frames := 2, cells := 0, slots := 0, locals := 40 } : Room) s m #[(.ref a1), (.int p2)] below meth c s₁ [] 0 0 := Stand.of_body Bd
  have e0 : s₁.heap = h0 := by rw [← hh, Bd.state]; rfl
  have N0 := Fr.nil n0
  have W := fun (k : Nat) {d : Jvm.Cond} (h : tables_1[k]? = some d) => hw d (List.mem_of_getElem? h)
  have K0 : Keep h0 h0 [] := Keep.refl _ _
  refine own_start (ef_5 m a1 p2) ?_
  show own_Run p e below _ s₁ (mkF m 0 #[.val (.ref a1), .val (.int p2), .unset] [])
  rcases hp with ⟨hz0, hz1, hz2, rfl⟩ | ⟨hz0, hz1, hz2, rfl⟩ | ⟨hz0, hz1, hz2, rfl⟩ | ⟨hz0, hz1, hz2, rfl⟩ | ⟨hz0, hz1, hz2, rfl⟩ | ⟨hz0, hz1, hz2, rfl⟩ | ⟨hz0, hz1, hz2, rfl⟩
  · show own_Run p e below _ s₁ (mkF m 0 #[.val (.ref a1), .val (.int p2), .unset] [])
    refine own_go (fun _ k => XS.aloadN X0.here hx rfl (hb hby d5_0) rfl rfl k) ?_
    show own_Run p e below _ s₁ (mkF m 1 #[.val (.ref a1), .val (.int p2), .unset] [(.ref a1)])
    obtain ⟨T128, X128, e128, st128⟩ := getF X0 hx hZ hown (host := "") (Or.inl (W 15 rfl)) Via.refl e0 F_places_a1 (g := (mkF m 1 #[.val (.ref a1), .val (.int p2), .unset] [(.ref a1)])) rfl rfl (hb hby d5_1)
    refine own_go st128 ?_
    show own_Run p e below _ T128 (mkF m 4 #[.val (.ref a1), .val (.int p2), .unset] [(.ref b1)])
    refine own_go (fun _ k => XS.iconst X128.here hx rfl (hb hby d5_4) k) ?_
    refine own_go (fun _ k => XS.aloadN X128.here hx rfl (hb hby d5_5) rfl rfl k) ?_
    show own_Run p e below _ T128 (mkF m 6 #[.val (.ref a1), .val (.int p2), .unset] [(.ref a1), (.int (0 : Int32)), (.ref b1)])
    obtain ⟨T129, X129, e129, st129⟩ := getF X128 hx hZ hown (host := "") (Or.inl (W 25 rfl)) Via.refl e128 F_size_a1 (g := (mkF m 6 #[.val (.ref a1), .val (.int p2), .unset] [(.ref a1), (.int (0 : Int32)), (.ref b1)])) rfl rfl (hb hby d5_6)
    refine own_go st129 ?_
    show own_Run p e below _ T129 (mkF m 9 #[.val (.ref a1), .val (.int p2), .unset] [(.int (3 : Int32)), (.int (0 : Int32)), (.ref b1)])
    refine own_go (fun _ k => XS.iloadN X129.here hx rfl (hb hby d5_9) rfl k) ?_
    show own_Run p e below _ T129 (mkF m 10 #[.val (.ref a1), .val (.int p2), .unset] [(.int p2), (.int (3 : Int32)), (.int (0 : Int32)), (.ref b1)])
    obtain ⟨_, _, ⟨T130, L130, k130, n130⟩, -, X130, ⟨Lc130, hQ130, l130, y130, z130⟩, st130⟩ := Jvm.LawKit.callS X129 hx (y := (⟨"java/util/Arrays", "binarySearch", "([IIII)I"⟩ : MethodName)) hown (mvT hZ (W 32 rfl)) (mvT hZ (W 33 rfl)) (mvT hZ (W 34 rfl)) (mvT hZ (W 35 rfl)) (by decide) (backOf (W := 0) (rm6n3 l Z a0 hw [] b1 p2 k1 x0 x1 x2 x3 x4 x5 x6 x7 (0 : Int32) h0 n0 Z0 V_b1 (Or.inl ⟨hz0, hz1, hz2, rfl⟩)) hZ (W 35 rfl) (W 34 rfl) (by decide) (by decide)) (g := (mkF m 10 #[.val (.ref a1), .val (.int p2), .unset] [(.int p2), (.int (3 : Int32)), (.int (0 : Int32)), (.ref b1)])) rfl (by rw [hml]; rfl) (argsL := [(.ref b1), (.int (0 : Int32)), (.int (3 : Int32)), (.int p2)]) (rest := []) (lenOf pd_2 rfl) rfl (by show 2 * 0 + _ ≤ _; exact Nat.le_of_eq rfl) (hb hby d5_10) (fun _ _ => ⟨rfl, e129, (by decide : 0 + 0 ≤ _), (by decide : 0 + 0 ≤ _)⟩)
    dsimp only [Pt.U, Pt.locs, Pt.cells, Pt.slots] at X130 l130 y130 z130 st130 hQ130
    subst l130 y130 z130
    obtain ⟨rfl, N130q, e130⟩ := hQ130
    have N130 := Fr.app N0 N130q
    refine own_go st130 ?_
    show own_Run p e below _ T130 (mkF m 13 #[.val (.ref a1), .val (.int p2), .unset] [(.int (0 : Int32))])
    refine own_go (fun _ k => XS.istoreN X130.here hx rfl (hb hby d5_13) rfl (l' := #[.val (.ref a1), .val (.int p2), .val (.int (0 : Int32))]) rfl k) ?_
    refine own_go (fun _ k => XS.iloadN X130.here hx rfl (hb hby d5_14) rfl k) ?_
    show own_Run p e below _ T130 (mkF m 15 #[.val (.ref a1), .val (.int p2), .val (.int (0 : Int32))] [(.int (0 : Int32))])
    refine own_go (fun _ k => XS.ifYes X130.here hx rfl (pc0 := 15) (pc' := 22) rfl (hb hby d5_15) rfl ((if0 _ _).trans (flt (by decide : ¬ ((0 : Int32) < (0 : Int32)))).2.1) (by decide) (by decide) k) ?_
    show own_Run p e below _ T130 (mkF m 22 #[.val (.ref a1), .val (.int p2), .val (.int (0 : Int32))] [])
    refine own_go (fun _ k => XS.aloadN X130.here hx rfl (hb hby d5_22) rfl rfl k) ?_
    show own_Run p e below _ T130 (mkF m 23 #[.val (.ref a1), .val (.int p2), .val (.int (0 : Int32))] [(.ref a1)])
    obtain ⟨T131, X131, e131, st131⟩ := getF X130 hx hZ hown (host := "") (Or.inl (W 18 rfl)) Via.refl e130 F_tokens_a1 (g := (mkF m 23 #[.val (.ref a1), .val (.int p2), .val (.int (0 : Int32))] [(.ref a1)])) rfl rfl (hb hby d5_23)
    refine own_go st131 ?_
    show own_Run p e below _ T131 (mkF m 26 #[.val (.ref a1), .val (.int p2), .val (.int (0 : Int32))] [(.ref b2)])
    refine own_go (fun _ k => XS.iloadN X131.here hx rfl (hb hby d5_26) rfl k) ?_
    show own_Run p e below _ T131 (mkF m 27 #[.val (.ref a1), .val (.int p2), .val (.int (0 : Int32))] [(.int (0 : Int32)), (.ref b2)])
    obtain ⟨cl132, Ar132, q132, S132, N132, H132, G132⟩ := id V_b2
    have hin132 : ¬ ((0 : Int32) < 0 ∨ cl132.slots.size ≤ ((0 : Int32)).toNatClampNeg) := inb_of S132 ⟨by decide, by decide⟩
    refine own_go (X131.laload hx (j := (0 : Int32)) (v := (.long t0)) (by rw [e131]; exact Ar132.1) (State.isArrayOf_alike hZ.alike Ar132.2.1) Ar132.2.2 hin132 (H132.at hin132 rfl) (g := (mkF m 27 #[.val (.ref a1), .val (.int p2), .val (.int (0 : Int32))] [(.int (0 : Int32)), (.ref b2)])) rfl rfl (hb hby d5_27)) ?_
    show own_Run p e below _ T131 (mkF m 28 #[.val (.ref a1), .val (.int p2), .val (.int (0 : Int32))] [(.long t0)])
    refine own_done (Q := fun v h L => Q5n3 Z a1 p2 b1 b2 k1 k2 x0 x1 x2 x3 x4 x5 x6 x7 t0 t1 t2 t3 t4 t5 t6 t7 t0 h0 n0 v h L) (v := (some (.long t0))) X131 (fun h => by rw [hret] at h; cases h) hlk (fun fs hr => own_retL X131 hx hret (hb hby d5_28) hr) ?_ (by decide) (by decide)
    show Q5n3 Z a1 p2 b1 b2 k1 k2 x0 x1 x2 x3 x4 x5 x6 x7 t0 t1 t2 t3 t4 t5 t6 t7 t0 h0 n0 _ T131.heap _
    rw [e131]
    exact ⟨rfl, N130, rfl⟩
  · show own_Run p e below _ s₁ (mkF m 0 #[.val (.ref a1), .val (.int p2), .unset] [])
    refine own_go (fun _ k => XS.aloadN X0.here hx rfl (hb hby d5_0) rfl rfl k) ?_
    show own_Run p e below _ s₁ (mkF m 1 #[.val (.ref a1), .val (.int p2), .unset] [(.ref a1)])
    obtain ⟨T133, X133, e133, st133⟩ := getF X0 hx hZ hown (host := "") (Or.inl (W 15 rfl)) Via.refl e0 F_places_a1 (g := (mkF m 1 #[.val (.ref a1), .val (.int p2), .unset] [(.ref a1)])) rfl rfl (hb hby d5_1)
    refine own_go st133 ?_
    show own_Run p e below _ T133 (mkF m 4 #[.val (.ref a1), .val (.int p2), .unset] [(.ref b1)])
    refine own_go (fun _ k => XS.iconst X133.here hx rfl (hb hby d5_4) k) ?_
    refine own_go (fun _ k => XS.aloadN X133.here hx rfl (hb hby d5_5) rfl rfl k) ?_
    show own_Run p e below _ T133 (mkF m 6 #[.val (.ref a1), .val (.int p2), .unset] [(.ref a1), (.int (0 : Int32)), (.ref b1)])
    obtain ⟨T134, X134, e134, st134⟩ := getF X133 hx hZ hown (host := "") (Or.inl (W 25 rfl)) Via.refl e133 F_size_a1 (g := (mkF m 6 #[.val (.ref a1), .val (.int p2), .unset] [(.ref a1), (.int (0 : Int32)), (.ref b1)])) rfl rfl (hb hby d5_6)
    refine own_go st134 ?_
    show own_Run p e below _ T134 (mkF m 9 #[.val (.ref a1), .val (.int p2), .unset] [(.int (3 : Int32)), (.int (0 : Int32)), (.ref b1)])
    refine own_go (fun _ k => XS.iloadN X134.here hx rfl (hb hby d5_9) rfl k) ?_
    show own_Run p e below _ T134 (mkF m 10 #[.val (.ref a1), .val (.int p2), .unset] [(.int p2), (.int (3 : Int32)), (.int (0 : Int32)), (.ref b1)])
    obtain ⟨_, _, ⟨T135, L135, k135, n135⟩, -, X135, ⟨Lc135, hQ135, l135, y135, z135⟩, st135⟩ := Jvm.LawKit.callS X134 hx (y := (⟨"java/util/Arrays", "binarySearch", "([IIII)I"⟩ : MethodName)) hown (mvT hZ (W 32 rfl)) (mvT hZ (W 33 rfl)) (mvT hZ (W 34 rfl)) (mvT hZ (W 35 rfl)) (by decide) (backOf (W := 0) (rm6n3 l Z a0 hw [] b1 p2 k1 x0 x1 x2 x3 x4 x5 x6 x7 (-1 : Int32) h0 n0 Z0 V_b1 (Or.inr (Or.inl ⟨hz0, hz1, hz2, rfl⟩))) hZ (W 35 rfl) (W 34 rfl) (by decide) (by decide)) (g := (mkF m 10 #[.val (.ref a1), .val (.int p2), .unset] [(.int p2), (.int (3 : Int32)), (.int (0 : Int32)), (.ref b1)])) rfl (by rw [hml]; rfl) (argsL := [(.ref b1), (.int (0 : Int32)), (.int (3 : Int32)), (.int p2)]) (rest := []) (lenOf pd_2 rfl) rfl (by show 2 * 0 + _ ≤ _; exact Nat.le_of_eq rfl) (hb hby d5_10) (fun _ _ => ⟨rfl, e134, (by decide : 0 + 0 ≤ _), (by decide : 0 + 0 ≤ _)⟩)
    dsimp only [Pt.U, Pt.locs, Pt.cells, Pt.slots] at X135 l135 y135 z135 st135 hQ135
    subst l135 y135 z135
    obtain ⟨rfl, N135q, e135⟩ := hQ135
    have N135 := Fr.app N0 N135q
    refine own_go st135 ?_
    show own_Run p e below _ T135 (mkF m 13 #[.val (.ref a1), .val (.int p2), .unset] [(.int (-1 : Int32))])
    refine own_go (fun _ k => XS.istoreN X135.here hx rfl (hb hby d5_13) rfl (l' := #[.val (.ref a1), .val (.int p2), .val (.int (-1 : Int32))]) rfl k) ?_
    refine own_go (fun _ k => XS.iloadN X135.here hx rfl (hb hby d5_14) rfl k) ?_
    show own_Run p e below _ T135 (mkF m 15 #[.val (.ref a1), .val (.int p2), .val (.int (-1 : Int32))] [(.int (-1 : Int32))])
    refine own_go (fun _ k => XS.ifNo X135.here hx rfl (hb hby d5_15) rfl ((if0 _ _).trans (tlt (by decide : (-1 : Int32) < (0 : Int32))).2.1) k) ?_
    show own_Run p e below _ T135 (mkF m 18 #[.val (.ref a1), .val (.int p2), .val (.int (-1 : Int32))] [])
    refine own_go (fun _ k => XS.lconst X135.here hx rfl (hb hby d5_18) k) ?_
    refine own_go (fun _ k => XS.goto X135.here hx rfl (pc0 := 19) (pc' := 28) rfl (hb hby d5_19) (by decide) (by decide) k) ?_
    show own_Run p e below _ T135 (mkF m 28 #[.val (.ref a1), .val (.int p2), .val (.int (-1 : Int32))] [(.long (0 : Int64))])
    refine own_done (Q := fun v h L => Q5n3 Z a1 p2 b1 b2 k1 k2 x0 x1 x2 x3 x4 x5 x6 x7 t0 t1 t2 t3 t4 t5 t6 t7 (0 : Int64) h0 n0 v h L) (v := (some (.long (0 : Int64)))) X135 (fun h => by rw [hret] at h; cases h) hlk (fun fs hr => own_retL X135 hx hret (hb hby d5_28) hr) ?_ (by decide) (by decide)
    show Q5n3 Z a1 p2 b1 b2 k1 k2 x0 x1 x2 x3 x4 x5 x6 x7 t0 t1 t2 t3 t4 t5 t6 t7 (0 : Int64) h0 n0 _ T135.heap _
    rw [e135]
    exact ⟨rfl, N135, rfl⟩
  · show own_Run p e below _ s₁ (mkF m 0 #[.val (.ref a1), .val (.int p2), .unset] [])
    refine own_go (fun _ k => XS.aloadN X0.here hx rfl (hb hby d5_0) rfl rfl k) ?_
    show own_Run p e below _ s₁ (mkF m 1 #[.val (.ref a1), .val (.int p2), .unset] [(.ref a1)])
    obtain ⟨T136, X136, e136, st136⟩ := getF X0 hx hZ hown (host := "") (Or.inl (W 15 rfl)) Via.refl e0 F_places_a1 (g := (mkF m 1 #[.val (.ref a1), .val (.int p2), .unset] [(.ref a1)])) rfl rfl (hb hby d5_1)
    refine own_go st136 ?_
    show own_Run p e below _ T136 (mkF m 4 #[.val (.ref a1), .val (.int p2), .unset] [(.ref b1)])
    refine own_go (fun _ k => XS.iconst X136.here hx rfl (hb hby d5_4) k) ?_
    refine own_go (fun _ k => XS.aloadN X136.here hx rfl (hb hby d5_5) rfl rfl k) ?_
    show own_Run p e below _ T136 (mkF m 6 #[.val (.ref a1), .val (.int p2), .unset] [(.ref a1), (.int (0 : Int32)), (.ref b1)])
    obtain ⟨T137, X137, e137, st137⟩ := getF X136 hx hZ hown (host := "") (Or.inl (W 25 rfl)) Via.refl e136 F_size_a1 (g := (mkF m 6 #[.val (.ref a1), .val (.int p2), .unset] [(.ref a1), (.int (0 : Int32)), (.ref b1)])) rfl rfl (hb hby d5_6)
    refine own_go st137 ?_
    show own_Run p e below _ T137 (mkF m 9 #[.val (.ref a1), .val (.int p2), .unset] [(.int (3 : Int32)), (.int (0 : Int32)), (.ref b1)])
    refine own_go (fun _ k => XS.iloadN X137.here hx rfl (hb hby d5_9) rfl k) ?_
    show own_Run p e below _ T137 (mkF m 10 #[.val (.ref a1), .val (.int p2), .unset] [(.int p2), (.int (3 : Int32)), (.int (0 : Int32)), (.ref b1)])
    obtain ⟨_, _, ⟨T138, L138, k138, n138⟩, -, X138, ⟨Lc138, hQ138, l138, y138, z138⟩, st138⟩ := Jvm.LawKit.callS X137 hx (y := (⟨"java/util/Arrays", "binarySearch", "([IIII)I"⟩ : MethodName)) hown (mvT hZ (W 32 rfl)) (mvT hZ (W 33 rfl)) (mvT hZ (W 34 rfl)) (mvT hZ (W 35 rfl)) (by decide) (backOf (W := 0) (rm6n3 l Z a0 hw [] b1 p2 k1 x0 x1 x2 x3 x4 x5 x6 x7 (1 : Int32) h0 n0 Z0 V_b1 (Or.inr (Or.inr (Or.inl ⟨hz0, hz1, hz2, rfl⟩)))) hZ (W 35 rfl) (W 34 rfl) (by decide) (by decide)) (g := (mkF m 10 #[.val (.ref a1), .val (.int p2), .unset] [(.int p2), (.int (3 : Int32)), (.int (0 : Int32)), (.ref b1)])) rfl (by rw [hml]; rfl) (argsL := [(.ref b1), (.int (0 : Int32)), (.int (3 : Int32)), (.int p2)]) (rest := []) (lenOf pd_2 rfl) rfl (by show 2 * 0 + _ ≤ _; exact Nat.le_of_eq rfl) (hb hby d5_10) (fun _ _ => ⟨rfl, e137, (by decide : 0 + 0 ≤ _), (by decide : 0 + 0 ≤ _)⟩)
    dsimp only [Pt.U, Pt.locs, Pt.cells, Pt.slots] at X138 l138 y138 z138 st138 hQ138
    subst l138 y138 z138
    obtain ⟨rfl, N138q, e138⟩ := hQ138
    have N138 := Fr.app N0 N138q
    refine own_go st138 ?_
    show own_Run p e below _ T138 (mkF m 13 #[.val (.ref a1), .val (.int p2), .unset] [(.int (1 : Int32))])
    refine own_go (fun _ k => XS.istoreN X138.here hx rfl (hb hby d5_13) rfl (l' := #[.val (.ref a1), .val (.int p2), .val (.int (1 : Int32))]) rfl k) ?_
    refine own_go (fun _ k => XS.iloadN X138.here hx rfl (hb hby d5_14) rfl k) ?_
    show own_Run p e below _ T138 (mkF m 15 #[.val (.ref a1), .val (.int p2), .val (.int (1 : Int32))] [(.int (1 : Int32))])
    refine own_go (fun _ k => XS.ifYes X138.here hx rfl (pc0 := 15) (pc' := 22) rfl (hb hby d5_15) rfl ((if0 _ _).trans (flt (by decide : ¬ ((1 : Int32) < (0 : Int32)))).2.1) (by decide) (by decide) k) ?_
    show own_Run p e below _ T138 (mkF m 22 #[.val (.ref a1), .val (.int p2), .val (.int (1 : Int32))] [])
    refine own_go (fun _ k => XS.aloadN X138.here hx rfl (hb hby d5_22) rfl rfl k) ?_
    show own_Run p e below _ T138 (mkF m 23 #[.val (.ref a1), .val (.int p2), .val (.int (1 : Int32))] [(.ref a1)])
    obtain ⟨T139, X139, e139, st139⟩ := getF X138 hx hZ hown (host := "") (Or.inl (W 18 rfl)) Via.refl e138 F_tokens_a1 (g := (mkF m 23 #[.val (.ref a1), .val (.int p2), .val (.int (1 : Int32))] [(.ref a1)])) rfl rfl (hb hby d5_23)
    refine own_go st139 ?_
    show own_Run p e below _ T139 (mkF m 26 #[.val (.ref a1), .val (.int p2), .val (.int (1 : Int32))] [(.ref b2)])
    refine own_go (fun _ k => XS.iloadN X139.here hx rfl (hb hby d5_26) rfl k) ?_
    show own_Run p e below _ T139 (mkF m 27 #[.val (.ref a1), .val (.int p2), .val (.int (1 : Int32))] [(.int (1 : Int32)), (.ref b2)])
    obtain ⟨cl140, Ar140, q140, S140, N140, H140, G140⟩ := id V_b2
    have hin140 : ¬ ((1 : Int32) < 0 ∨ cl140.slots.size ≤ ((1 : Int32)).toNatClampNeg) := inb_of S140 ⟨by decide, by decide⟩
    refine own_go (X139.laload hx (j := (1 : Int32)) (v := (.long t1)) (by rw [e139]; exact Ar140.1) (State.isArrayOf_alike hZ.alike Ar140.2.1) Ar140.2.2 hin140 (H140.at hin140 rfl) (g := (mkF m 27 #[.val (.ref a1), .val (.int p2), .val (.int (1 : Int32))] [(.int (1 : Int32)), (.ref b2)])) rfl rfl (hb hby d5_27)) ?_
    show own_Run p e below _ T139 (mkF m 28 #[.val (.ref a1), .val (.int p2), .val (.int (1 : Int32))] [(.long t1)])
    refine own_done (Q := fun v h L => Q5n3 Z a1 p2 b1 b2 k1 k2 x0 x1 x2 x3 x4 x5 x6 x7 t0 t1 t2 t3 t4 t5 t6 t7 t1 h0 n0 v h L) (v := (some (.long t1))) X139 (fun h => by rw [hret] at h; cases h) hlk (fun fs hr => own_retL X139 hx hret (hb hby d5_28) hr) ?_ (by decide) (by decide)
    show Q5n3 Z a1 p2 b1 b2 k1 k2 x0 x1 x2 x3 x4 x5 x6 x7 t0 t1 t2 t3 t4 t5 t6 t7 t1 h0 n0 _ T139.heap _
    rw [e139]
    exact ⟨rfl, N138, rfl⟩
  · show own_Run p e below _ s₁ (mkF m 0 #[.val (.ref a1), .val (.int p2), .unset] [])
    refine own_go (fun _ k => XS.aloadN X0.here hx rfl (hb hby d5_0) rfl rfl k) ?_
    show own_Run p e below _ s₁ (mkF m 1 #[.val (.ref a1), .val (.int p2), .unset] [(.ref a1)])
    obtain ⟨T141, X141, e141, st141⟩ := getF X0 hx hZ hown (host := "") (Or.inl (W 15 rfl)) Via.refl e0 F_places_a1 (g := (mkF m 1 #[.val (.ref a1), .val (.int p2), .unset] [(.ref a1)])) rfl rfl (hb hby d5_1)
    refine own_go st141 ?_
    show own_Run p e below _ T141 (mkF m 4 #[.val (.ref a1), .val (.int p2), .unset] [(.ref b1)])
    refine own_go (fun _ k => XS.iconst X141.here hx rfl (hb hby d5_4) k) ?_
    refine own_go (fun _ k => XS.aloadN X141.here hx rfl (hb hby d5_5) rfl rfl k) ?_
    show own_Run p e below _ T141 (mkF m 6 #[.val (.ref a1), .val (.int p2), .unset] [(.ref a1), (.int (0 : Int32)), (.ref b1)])
    obtain ⟨T142, X142, e142, st142⟩ := getF X141 hx hZ hown (host := "") (Or.inl (W 25 rfl)) Via.refl e141 F_size_a1 (g := (mkF m 6 #[.val (.ref a1), .val (.int p2), .unset] [(.ref a1), (.int (0 : Int32)), (.ref b1)])) rfl rfl (hb hby d5_6)
    refine own_go st142 ?_
    show own_Run p e below _ T142 (mkF m 9 #[.val (.ref a1), .val (.int p2), .unset] [(.int (3 : Int32)), (.int (0 : Int32)), (.ref b1)])
    refine own_go (fun _ k => XS.iloadN X142.here hx rfl (hb hby d5_9) rfl k) ?_
    show own_Run p e below _ T142 (mkF m 10 #[.val (.ref a1), .val (.int p2), .unset] [(.int p2), (.int (3 : Int32)), (.int (0 : Int32)), (.ref b1)])
    obtain ⟨_, _, ⟨T143, L143, k143, n143⟩, -, X143, ⟨Lc143, hQ143, l143, y143, z143⟩, st143⟩ := Jvm.LawKit.callS X142 hx (y := (⟨"java/util/Arrays", "binarySearch", "([IIII)I"⟩ : MethodName)) hown (mvT hZ (W 32 rfl)) (mvT hZ (W 33 rfl)) (mvT hZ (W 34 rfl)) (mvT hZ (W 35 rfl)) (by decide) (backOf (W := 0) (rm6n3 l Z a0 hw [] b1 p2 k1 x0 x1 x2 x3 x4 x5 x6 x7 (-2 : Int32) h0 n0 Z0 V_b1 (Or.inr (Or.inr (Or.inr (Or.inl ⟨hz0, hz1, hz2, rfl⟩))))) hZ (W 35 rfl) (W 34 rfl) (by decide) (by decide)) (g := (mkF m 10 #[.val (.ref a1), .val (.int p2), .unset] [(.int p2), (.int (3 : Int32)), (.int (0 : Int32)), (.ref b1)])) rfl (by rw [hml]; rfl) (argsL := [(.ref b1), (.int (0 : Int32)), (.int (3 : Int32)), (.int p2)]) (rest := []) (lenOf pd_2 rfl) rfl (by show 2 * 0 + _ ≤ _; exact Nat.le_of_eq rfl) (hb hby d5_10) (fun _ _ => ⟨rfl, e142, (by decide : 0 + 0 ≤ _), (by decide : 0 + 0 ≤ _)⟩)
    dsimp only [Pt.U, Pt.locs, Pt.cells, Pt.slots] at X143 l143 y143 z143 st143 hQ143
    subst l143 y143 z143
    obtain ⟨rfl, N143q, e143⟩ := hQ143
    have N143 := Fr.app N0 N143q
    refine own_go st143 ?_
    show own_Run p e below _ T143 (mkF m 13 #[.val (.ref a1), .val (.int p2), .unset] [(.int (-2 : Int32))])
    refine own_go (fun _ k => XS.istoreN X143.here hx rfl (hb hby d5_13) rfl (l' := #[.val (.ref a1), .val (.int p2), .val (.int (-2 : Int32))]) rfl k) ?_
    refine own_go (fun _ k => XS.iloadN X143.here hx rfl (hb hby d5_14) rfl k) ?_
    show own_Run p e below _ T143 (mkF m 15 #[.val (.ref a1), .val (.int p2), .val (.int (-2 : Int32))] [(.int (-2 : Int32))])
    refine own_go (fun _ k => XS.ifNo X143.here hx rfl (hb hby d5_15) rfl ((if0 _ _).trans (tlt (by decide : (-2 : Int32) < (0 : Int32))).2.1) k) ?_
    show own_Run p e below _ T143 (mkF m 18 #[.val (.ref a1), .val (.int p2), .val (.int (-2 : Int32))] [])
    refine own_go (fun _ k => XS.lconst X143.here hx rfl (hb hby d5_18) k) ?_
    refine own_go (fun _ k => XS.goto X143.here hx rfl (pc0 := 19) (pc' := 28) rfl (hb hby d5_19) (by decide) (by decide) k) ?_
    show own_Run p e below _ T143 (mkF m 28 #[.val (.ref a1), .val (.int p2), .val (.int (-2 : Int32))] [(.long (0 : Int64))])
    refine own_done (Q := fun v h L => Q5n3 Z a1 p2 b1 b2 k1 k2 x0 x1 x2 x3 x4 x5 x6 x7 t0 t1 t2 t3 t4 t5 t6 t7 (0 : Int64) h0 n0 v h L) (v := (some (.long (0 : Int64)))) X143 (fun h => by rw [hret] at h; cases h) hlk (fun fs hr => own_retL X143 hx hret (hb hby d5_28) hr) ?_ (by decide) (by decide)
    show Q5n3 Z a1 p2 b1 b2 k1 k2 x0 x1 x2 x3 x4 x5 x6 x7 t0 t1 t2 t3 t4 t5 t6 t7 (0 : Int64) h0 n0 _ T143.heap _
    rw [e143]
    exact ⟨rfl, N143, rfl⟩
  · show own_Run p e below _ s₁ (mkF m 0 #[.val (.ref a1), .val (.int p2), .unset] [])
    refine own_go (fun _ k => XS.aloadN X0.here hx rfl (hb hby d5_0) rfl rfl k) ?_
    show own_Run p e below _ s₁ (mkF m 1 #[.val (.ref a1), .val (.int p2), .unset] [(.ref a1)])
    obtain ⟨T144, X144, e144, st144⟩ := getF X0 hx hZ hown (host := "") (Or.inl (W 15 rfl)) Via.refl e0 F_places_a1 (g := (mkF m 1 #[.val (.ref a1), .val (.int p2), .unset] [(.ref a1)])) rfl rfl (hb hby d5_1)
    refine own_go st144 ?_
    show own_Run p e below _ T144 (mkF m 4 #[.val (.ref a1), .val (.int p2), .unset] [(.ref b1)])
    refine own_go (fun _ k => XS.iconst X144.here hx rfl (hb hby d5_4) k) ?_
    refine own_go (fun _ k => XS.aloadN X144.here hx rfl (hb hby d5_5) rfl rfl k) ?_
    show own_Run p e below _ T144 (mkF m 6 #[.val (.ref a1), .val (.int p2), .unset] [(.ref a1), (.int (0 : Int32)), (.ref b1)])
    obtain ⟨T145, X145, e145, st145⟩ := getF X144 hx hZ hown (host := "") (Or.inl (W 25 rfl)) Via.refl e144 F_size_a1 (g := (mkF m 6 #[.val (.ref a1), .val (.int p2), .unset] [(.ref a1), (.int (0 : Int32)), (.ref b1)])) rfl rfl (hb hby d5_6)
    refine own_go st145 ?_
    show own_Run p e below _ T145 (mkF m 9 #[.val (.ref a1), .val (.int p2), .unset] [(.int (3 : Int32)), (.int (0 : Int32)), (.ref b1)])
    refine own_go (fun _ k => XS.iloadN X145.here hx rfl (hb hby d5_9) rfl k) ?_
    show own_Run p e below _ T145 (mkF m 10 #[.val (.ref a1), .val (.int p2), .unset] [(.int p2), (.int (3 : Int32)), (.int (0 : Int32)), (.ref b1)])
    obtain ⟨_, _, ⟨T146, L146, k146, n146⟩, -, X146, ⟨Lc146, hQ146, l146, y146, z146⟩, st146⟩ := Jvm.LawKit.callS X145 hx (y := (⟨"java/util/Arrays", "binarySearch", "([IIII)I"⟩ : MethodName)) hown (mvT hZ (W 32 rfl)) (mvT hZ (W 33 rfl)) (mvT hZ (W 34 rfl)) (mvT hZ (W 35 rfl)) (by decide) (backOf (W := 0) (rm6n3 l Z a0 hw [] b1 p2 k1 x0 x1 x2 x3 x4 x5 x6 x7 (2 : Int32) h0 n0 Z0 V_b1 (Or.inr (Or.inr (Or.inr (Or.inr (Or.inl ⟨hz0, hz1, hz2, rfl⟩)))))) hZ (W 35 rfl) (W 34 rfl) (by decide) (by decide)) (g := (mkF m 10 #[.val (.ref a1), .val (.int p2), .unset] [(.int p2), (.int (3 : Int32)), (.int (0 : Int32)), (.ref b1)])) rfl (by rw [hml]; rfl) (argsL := [(.ref b1), (.int (0 : Int32)), (.int (3 : Int32)), (.int p2)]) (rest := []) (lenOf pd_2 rfl) rfl (by show 2 * 0 + _ ≤ _; exact Nat.le_of_eq rfl) (hb hby d5_10) (fun _ _ => ⟨rfl, e145, (by decide : 0 + 0 ≤ _), (by decide : 0 + 0 ≤ _)⟩)
    dsimp only [Pt.U, Pt.locs, Pt.cells, Pt.slots] at X146 l146 y146 z146 st146 hQ146
    subst l146 y146 z146
    obtain ⟨rfl, N146q, e146⟩ := hQ146
    have N146 := Fr.app N0 N146q
    refine own_go st146 ?_
    show own_Run p e below _ T146 (mkF m 13 #[.val (.ref a1), .val (.int p2), .unset] [(.int (2 : Int32))])
    refine own_go (fun _ k => XS.istoreN X146.here hx rfl (hb hby d5_13) rfl (l' := #[.val (.ref a1), .val (.int p2), .val (.int (2 : Int32))]) rfl k) ?_
    refine own_go (fun _ k => XS.iloadN X146.here hx rfl (hb hby d5_14) rfl k) ?_
    show own_Run p e below _ T146 (mkF m 15 #[.val (.ref a1), .val (.int p2), .val (.int (2 : Int32))] [(.int (2 : Int32))])
    refine own_go (fun _ k => XS.ifYes X146.here hx rfl (pc0 := 15) (pc' := 22) rfl (hb hby d5_15) rfl ((if0 _ _).trans (flt (by decide : ¬ ((2 : Int32) < (0 : Int32)))).2.1) (by decide) (by decide) k) ?_
    show own_Run p e below _ T146 (mkF m 22 #[.val (.ref a1), .val (.int p2), .val (.int (2 : Int32))] [])
    refine own_go (fun _ k => XS.aloadN X146.here hx rfl (hb hby d5_22) rfl rfl k) ?_
    show own_Run p e below _ T146 (mkF m 23 #[.val (.ref a1), .val (.int p2), .val (.int (2 : Int32))] [(.ref a1)])
    obtain ⟨T147, X147, e147, st147⟩ := getF X146 hx hZ hown (host := "") (Or.inl (W 18 rfl)) Via.refl e146 F_tokens_a1 (g := (mkF m 23 #[.val (.ref a1), .val (.int p2), .val (.int (2 : Int32))] [(.ref a1)])) rfl rfl (hb hby d5_23)
    refine own_go st147 ?_
    show own_Run p e below _ T147 (mkF m 26 #[.val (.ref a1), .val (.int p2), .val (.int (2 : Int32))] [(.ref b2)])
    refine own_go (fun _ k => XS.iloadN X147.here hx rfl (hb hby d5_26) rfl k) ?_
    show own_Run p e below _ T147 (mkF m 27 #[.val (.ref a1), .val (.int p2), .val (.int (2 : Int32))] [(.int (2 : Int32)), (.ref b2)])
    obtain ⟨cl148, Ar148, q148, S148, N148, H148, G148⟩ := id V_b2
    have hin148 : ¬ ((2 : Int32) < 0 ∨ cl148.slots.size ≤ ((2 : Int32)).toNatClampNeg) := inb_of S148 ⟨by decide, by decide⟩
    refine own_go (X147.laload hx (j := (2 : Int32)) (v := (.long t2)) (by rw [e147]; exact Ar148.1) (State.isArrayOf_alike hZ.alike Ar148.2.1) Ar148.2.2 hin148 (H148.at hin148 rfl) (g := (mkF m 27 #[.val (.ref a1), .val (.int p2), .val (.int (2 : Int32))] [(.int (2 : Int32)), (.ref b2)])) rfl rfl (hb hby d5_27)) ?_
    show own_Run p e below _ T147 (mkF m 28 #[.val (.ref a1), .val (.int p2), .val (.int (2 : Int32))] [(.long t2)])
    refine own_done (Q := fun v h L => Q5n3 Z a1 p2 b1 b2 k1 k2 x0 x1 x2 x3 x4 x5 x6 x7 t0 t1 t2 t3 t4 t5 t6 t7 t2 h0 n0 v h L) (v := (some (.long t2))) X147 (fun h => by rw [hret] at h; cases h) hlk (fun fs hr => own_retL X147 hx hret (hb hby d5_28) hr) ?_ (by decide) (by decide)
    show Q5n3 Z a1 p2 b1 b2 k1 k2 x0 x1 x2 x3 x4 x5 x6 x7 t0 t1 t2 t3 t4 t5 t6 t7 t2 h0 n0 _ T147.heap _
    rw [e147]
    exact ⟨rfl, N146, rfl⟩
  · show own_Run p e below _ s₁ (mkF m 0 #[.val (.ref a1), .val (.int p2), .unset] [])
    refine own_go (fun _ k => XS.aloadN X0.here hx rfl (hb hby d5_0) rfl rfl k) ?_
    show own_Run p e below _ s₁ (mkF m 1 #[.val (.ref a1), .val (.int p2), .unset] [(.ref a1)])
    obtain ⟨T149, X149, e149, st149⟩ := getF X0 hx hZ hown (host := "") (Or.inl (W 15 rfl)) Via.refl e0 F_places_a1 (g := (mkF m 1 #[.val (.ref a1), .val (.int p2), .unset] [(.ref a1)])) rfl rfl (hb hby d5_1)
    refine own_go st149 ?_
    show own_Run p e below _ T149 (mkF m 4 #[.val (.ref a1), .val (.int p2), .unset] [(.ref b1)])
    refine own_go (fun _ k => XS.iconst X149.here hx rfl (hb hby d5_4) k) ?_
    refine own_go (fun _ k => XS.aloadN X149.here hx rfl (hb hby d5_5) rfl rfl k) ?_
    show own_Run p e below _ T149 (mkF m 6 #[.val (.ref a1), .val (.int p2), .unset] [(.ref a1), (.int (0 : Int32)), (.ref b1)])
    obtain ⟨T150, X150, e150, st150⟩ := getF X149 hx hZ hown (host := "") (Or.inl (W 25 rfl)) Via.refl e149 F_size_a1 (g := (mkF m 6 #[.val (.ref a1), .val (.int p2), .unset] [(.ref a1), (.int (0 : Int32)), (.ref b1)])) rfl rfl (hb hby d5_6)
    refine own_go st150 ?_
    show own_Run p e below _ T150 (mkF m 9 #[.val (.ref a1), .val (.int p2), .unset] [(.int (3 : Int32)), (.int (0 : Int32)), (.ref b1)])
    refine own_go (fun _ k => XS.iloadN X150.here hx rfl (hb hby d5_9) rfl k) ?_
    show own_Run p e below _ T150 (mkF m 10 #[.val (.ref a1), .val (.int p2), .unset] [(.int p2), (.int (3 : Int32)), (.int (0 : Int32)), (.ref b1)])
    obtain ⟨_, _, ⟨T151, L151, k151, n151⟩, -, X151, ⟨Lc151, hQ151, l151, y151, z151⟩, st151⟩ := Jvm.LawKit.callS X150 hx (y := (⟨"java/util/Arrays", "binarySearch", "([IIII)I"⟩ : MethodName)) hown (mvT hZ (W 32 rfl)) (mvT hZ (W 33 rfl)) (mvT hZ (W 34 rfl)) (mvT hZ (W 35 rfl)) (by decide) (backOf (W := 0) (rm6n3 l Z a0 hw [] b1 p2 k1 x0 x1 x2 x3 x4 x5 x6 x7 (-3 : Int32) h0 n0 Z0 V_b1 (Or.inr (Or.inr (Or.inr (Or.inr (Or.inr (Or.inl ⟨hz0, hz1, hz2, rfl⟩))))))) hZ (W 35 rfl) (W 34 rfl) (by decide) (by decide)) (g := (mkF m 10 #[.val (.ref a1), .val (.int p2), .unset] [(.int p2), (.int (3 : Int32)), (.int (0 : Int32)), (.ref b1)])) rfl (by rw [hml]; rfl) (argsL := [(.ref b1), (.int (0 : Int32)), (.int (3 : Int32)), (.int p2)]) (rest := []) (lenOf pd_2 rfl) rfl (by show 2 * 0 + _ ≤ _; exact Nat.le_of_eq rfl) (hb hby d5_10) (fun _ _ => ⟨rfl, e150, (by decide : 0 + 0 ≤ _), (by decide : 0 + 0 ≤ _)⟩)
    dsimp only [Pt.U, Pt.locs, Pt.cells, Pt.slots] at X151 l151 y151 z151 st151 hQ151
    subst l151 y151 z151
    obtain ⟨rfl, N151q, e151⟩ := hQ151
    have N151 := Fr.app N0 N151q
    refine own_go st151 ?_
    show own_Run p e below _ T151 (mkF m 13 #[.val (.ref a1), .val (.int p2), .unset] [(.int (-3 : Int32))])
    refine own_go (fun _ k => XS.istoreN X151.here hx rfl (hb hby d5_13) rfl (l' := #[.val (.ref a1), .val (.int p2), .val (.int (-3 : Int32))]) rfl k) ?_
    refine own_go (fun _ k => XS.iloadN X151.here hx rfl (hb hby d5_14) rfl k) ?_
    show own_Run p e below _ T151 (mkF m 15 #[.val (.ref a1), .val (.int p2), .val (.int (-3 : Int32))] [(.int (-3 : Int32))])
    refine own_go (fun _ k => XS.ifNo X151.here hx rfl (hb hby d5_15) rfl ((if0 _ _).trans (tlt (by decide : (-3 : Int32) < (0 : Int32))).2.1) k) ?_
    show own_Run p e below _ T151 (mkF m 18 #[.val (.ref a1), .val (.int p2), .val (.int (-3 : Int32))] [])
    refine own_go (fun _ k => XS.lconst X151.here hx rfl (hb hby d5_18) k) ?_
    refine own_go (fun _ k => XS.goto X151.here hx rfl (pc0 := 19) (pc' := 28) rfl (hb hby d5_19) (by decide) (by decide) k) ?_
    show own_Run p e below _ T151 (mkF m 28 #[.val (.ref a1), .val (.int p2), .val (.int (-3 : Int32))] [(.long (0 : Int64))])
    refine own_done (Q := fun v h L => Q5n3 Z a1 p2 b1 b2 k1 k2 x0 x1 x2 x3 x4 x5 x6 x7 t0 t1 t2 t3 t4 t5 t6 t7 (0 : Int64) h0 n0 v h L) (v := (some (.long (0 : Int64)))) X151 (fun h => by rw [hret] at h; cases h) hlk (fun fs hr => own_retL X151 hx hret (hb hby d5_28) hr) ?_ (by decide) (by decide)
    show Q5n3 Z a1 p2 b1 b2 k1 k2 x0 x1 x2 x3 x4 x5 x6 x7 t0 t1 t2 t3 t4 t5 t6 t7 (0 : Int64) h0 n0 _ T151.heap _
    rw [e151]
    exact ⟨rfl, N151, rfl⟩
  · show own_Run p e below _ s₁ (mkF m 0 #[.val (.ref a1), .val (.int p2), .unset] [])
    refine own_go (fun _ k => XS.aloadN X0.here hx rfl (hb hby d5_0) rfl rfl k) ?_
    show own_Run p e below _ s₁ (mkF m 1 #[.val (.ref a1), .val (.int p2), .unset] [(.ref a1)])
    obtain ⟨T152, X152, e152, st152⟩ := getF X0 hx hZ hown (host := "") (Or.inl (W 15 rfl)) Via.refl e0 F_places_a1 (g := (mkF m 1 #[.val (.ref a1), .val (.int p2), .unset] [(.ref a1)])) rfl rfl (hb hby d5_1)
    refine own_go st152 ?_
    show own_Run p e below _ T152 (mkF m 4 #[.val (.ref a1), .val (.int p2), .unset] [(.ref b1)])
    refine own_go (fun _ k => XS.iconst X152.here hx rfl (hb hby d5_4) k) ?_
    refine own_go (fun _ k => XS.aloadN X152.here hx rfl (hb hby d5_5) rfl rfl k) ?_
    show own_Run p e below _ T152 (mkF m 6 #[.val (.ref a1), .val (.int p2), .unset] [(.ref a1), (.int (0 : Int32)), (.ref b1)])
    obtain ⟨T153, X153, e153, st153⟩ := getF X152 hx hZ hown (host := "") (Or.inl (W 25 rfl)) Via.refl e152 F_size_a1 (g := (mkF m 6 #[.val (.ref a1), .val (.int p2), .unset] [(.ref a1), (.int (0 : Int32)), (.ref b1)])) rfl rfl (hb hby d5_6)
    refine own_go st153 ?_
    show own_Run p e below _ T153 (mkF m 9 #[.val (.ref a1), .val (.int p2), .unset] [(.int (3 : Int32)), (.int (0 : Int32)), (.ref b1)])
    refine own_go (fun _ k => XS.iloadN X153.here hx rfl (hb hby d5_9) rfl k) ?_
    show own_Run p e below _ T153 (mkF m 10 #[.val (.ref a1), .val (.int p2), .unset] [(.int p2), (.int (3 : Int32)), (.int (0 : Int32)), (.ref b1)])
    obtain ⟨_, _, ⟨T154, L154, k154, n154⟩, -, X154, ⟨Lc154, hQ154, l154, y154, z154⟩, st154⟩ := Jvm.LawKit.callS X153 hx (y := (⟨"java/util/Arrays", "binarySearch", "([IIII)I"⟩ : MethodName)) hown (mvT hZ (W 32 rfl)) (mvT hZ (W 33 rfl)) (mvT hZ (W 34 rfl)) (mvT hZ (W 35 rfl)) (by decide) (backOf (W := 0) (rm6n3 l Z a0 hw [] b1 p2 k1 x0 x1 x2 x3 x4 x5 x6 x7 (-4 : Int32) h0 n0 Z0 V_b1 (Or.inr (Or.inr (Or.inr (Or.inr (Or.inr (Or.inr (⟨hz0, hz1, hz2, rfl⟩)))))))) hZ (W 35 rfl) (W 34 rfl) (by decide) (by decide)) (g := (mkF m 10 #[.val (.ref a1), .val (.int p2), .unset] [(.int p2), (.int (3 : Int32)), (.int (0 : Int32)), (.ref b1)])) rfl (by rw [hml]; rfl) (argsL := [(.ref b1), (.int (0 : Int32)), (.int (3 : Int32)), (.int p2)]) (rest := []) (lenOf pd_2 rfl) rfl (by show 2 * 0 + _ ≤ _; exact Nat.le_of_eq rfl) (hb hby d5_10) (fun _ _ => ⟨rfl, e153, (by decide : 0 + 0 ≤ _), (by decide : 0 + 0 ≤ _)⟩)
    dsimp only [Pt.U, Pt.locs, Pt.cells, Pt.slots] at X154 l154 y154 z154 st154 hQ154
    subst l154 y154 z154
    obtain ⟨rfl, N154q, e154⟩ := hQ154
    have N154 := Fr.app N0 N154q
    refine own_go st154 ?_
    show own_Run p e below _ T154 (mkF m 13 #[.val (.ref a1), .val (.int p2), .unset] [(.int (-4 : Int32))])
    refine own_go (fun _ k => XS.istoreN X154.here hx rfl (hb hby d5_13) rfl (l' := #[.val (.ref a1), .val (.int p2), .val (.int (-4 : Int32))]) rfl k) ?_
    refine own_go (fun _ k => XS.iloadN X154.here hx rfl (hb hby d5_14) rfl k) ?_
    show own_Run p e below _ T154 (mkF m 15 #[.val (.ref a1), .val (.int p2), .val (.int (-4 : Int32))] [(.int (-4 : Int32))])
    refine own_go (fun _ k => XS.ifNo X154.here hx rfl (hb hby d5_15) rfl ((if0 _ _).trans (tlt (by decide : (-4 : Int32) < (0 : Int32))).2.1) k) ?_
    show own_Run p e below _ T154 (mkF m 18 #[.val (.ref a1), .val (.int p2), .val (.int (-4 : Int32))] [])
    refine own_go (fun _ k => XS.lconst X154.here hx rfl (hb hby d5_18) k) ?_
    refine own_go (fun _ k => XS.goto X154.here hx rfl (pc0 := 19) (pc' := 28) rfl (hb hby d5_19) (by decide) (by decide) k) ?_
    show own_Run p e below _ T154 (mkF m 28 #[.val (.ref a1), .val (.int p2), .val (.int (-4 : Int32))] [(.long (0 : Int64))])
    refine own_done (Q := fun v h L => Q5n3 Z a1 p2 b1 b2 k1 k2 x0 x1 x2 x3 x4 x5 x6 x7 t0 t1 t2 t3 t4 t5 t6 t7 (0 : Int64) h0 n0 v h L) (v := (some (.long (0 : Int64)))) X154 (fun h => by rw [hret] at h; cases h) hlk (fun fs hr => own_retL X154 hx hret (hb hby d5_28) hr) ?_ (by decide) (by decide)
    show Q5n3 Z a1 p2 b1 b2 k1 k2 x0 x1 x2 x3 x4 x5 x6 x7 t0 t1 t2 t3 t4 t5 t6 t7 (0 : Int64) h0 n0 _ T154.heap _
    rw [e154]
    exact ⟨rfl, N154, rfl⟩
def Q0 (Z : State) (p1 : Int32) (p2 : Int32) (q3 : Int64) (q4 : Int64) (q5 : Int64) (p6 : Int32) (h0 : Heap) (n0 : Nat) (v : Option Value) (h : Heap) (L : List Loc) : Prop := v = some (.int (1 : Int32)) ∧ Fr n0 L
theorem pn_0 : plainName "com/example/net_reducer/netreducer/analysis/MarkingTokensOnPinLaw" = true := by first | (simp [plainName, overriddenIn]; done) | decide +kernel
theorem pd_3 : parseMethodDescriptor "(I)J" = some ⟨[.int], some .long⟩ := by decide +kernel
set_option maxRecDepth 65536 in
set_option maxHeartbeats 40000000 in
theorem tail0 {p : Program} {l : Launch} {e : Env} {s : State} {m : MethodId} {args : Array Value} {below : List Frame} {meth : Method} {c : Code} {Z : State} {a0 : Array Value} (p1 : Int32) (p2 : Int32) (q3 : Int64) (q4 : Int64) (q5 : Int64) (p6 : Int32) (h0 : Heap) (n0 : Nat) (hx : p.tables.exec = Jvm.exec) (hZ : Z.Warmed39 s.vm) (hw : ∀ d ∈ tables_1, d.before a0 Z = true) (hby : c.code = code) (hml : c.maxLocals = 20) (hown : s.vm.findClass "com/example/net_reducer/netreducer/analysis/MarkingTokensOnPinLaw" = some m.cls) (hnm : meth.name = "law") (hret : meth.sig.returnType = some .boolean) (hlk : meth.locks = false)
    (x10 : Int32) (x11 : Int32) (x12 : Int32) (x13 : Int32) (x14 : Int32) (o : Addr) (x16 : Int32) (y : Int32) (b1 : Addr) (b2 : Addr) (k1 : ClassId) (k2 : ClassId) (T0 : State) (hh : Heap) (locs : List Loc) (X0 : Stand p l e room_1 s m args below meth c T0 locs 3 19) (e0 : T0.heap = hh) (N0 : Fr n0 locs) (Z0 : n0 ≤ hh.size) (K0 : Keep h0 hh []) (E_o : Exa Z hh o "com/example/net_reducer/netreducer/analysis/Marking") (F_places_o : Fld Z hh o "com/example/net_reducer/netreducer/analysis/Marking" "places" "[I" (.ref b1)) (F_tokens_o : Fld Z hh o "com/example/net_reducer/netreducer/analysis/Marking" "tokens" "[J" (.ref b2)) (F_size_o : Fld Z hh o "com/example/net_reducer/netreducer/analysis/Marking" "size" "I" (.int (0 : Int32))) (V_b1 : Arv Z hh b1 k1 .int (8 : Int32) [(.int (0 : Int32)), (.int (0 : Int32)), (.int (0 : Int32)), (.int (0 : Int32)), (.int (0 : Int32)), (.int (0 : Int32)), (.int (0 : Int32)), (.int (0 : Int32))] (.int (0 : Int32))) (V_b2 : Arv Z hh b2 k2 .long (8 : Int32) [(.long (0 : Int64)), (.long (0 : Int64)), (.long (0 : Int64)), (.long (0 : Int64)), (.long (0 : Int64)), (.long (0 : Int64)), (.long (0 : Int64)), (.long (0 : Int64))] (.long (0 : Int64))) (hl1 : x12 < x13) (hl2 : x13 < x14) :
    own_Run p e below (fun o U' => ∃ v L, o = .returned v ∧ Q0 Z p1 p2 q3 q4 q5 p6 h0 n0 v U'.heap L ∧ FrameEnd s o U' L room_1.cells room_1.slots) T0 (mkF m 197 #[.val (.int p1), .val (.int p2), .val (.long q3), .second, .val (.long q4), .second, .val (.long q5), .second, .val (.int p6), .val (.int (0 : Int32)), .val (.int x10), .val (.int x11), .val (.int x12), .val (.int x13), .val (.int x14), .val (.ref o), .val (.int x16), .val (.int y), .unset, .unset] []) := by
  have W := fun (k : Nat) {d : Jvm.Cond} (h : tables_1[k]? = some d) => hw d (List.mem_of_getElem? h)
  show own_Run p e below _ T0 (mkF m 197 #[.val (.int p1), .val (.int p2), .val (.long q3), .second, .val (.long q4), .second, .val (.long q5), .second, .val (.int p6), .val (.int (0 : Int32)), .val (.int x10), .val (.int x11), .val (.int x12), .val (.int x13), .val (.int x14), .val (.ref o), .val (.int x16), .val (.int y), .unset, .unset] [])
  show own_Run p e below _ T0 (mkF m 197 #[.val (.int p1), .val (.int p2), .val (.long q3), .second, .val (.long q4), .second, .val (.long q5), .second, .val (.int p6), .val (.int (0 : Int32)), .val (.int x10), .val (.int x11), .val (.int x12), .val (.int x13), .val (.int x14), .val (.ref o), .val (.int x16), .val (.int y), .unset, .unset] [])
  refine own_go (fun _ k => XS.lconst X0.here hx rfl (hb hby at_197) k) ?_
  refine own_go (fun _ k => XS.lstore X0.here hx rfl (hb hby at_198) rfl (l' := #[.val (.int p1), .val (.int p2), .val (.long q3), .second, .val (.long q4), .second, .val (.long q5), .second, .val (.int p6), .val (.int (0 : Int32)), .val (.int x10), .val (.int x11), .val (.int x12), .val (.int x13), .val (.int x14), .val (.ref o), .val (.int x16), .val (.int y), .val (.long (0 : Int64)), .second]) rfl k) ?_
  refine own_go (fun _ k => XS.iload X0.here hx rfl (hb hby at_200) rfl k) ?_
  refine own_go (fun _ k => XS.iconst X0.here hx rfl (hb hby at_202) k) ?_
  show own_Run p e below _ T0 (mkF m 203 #[.val (.int p1), .val (.int p2), .val (.long q3), .second, .val (.long q4), .second, .val (.long q5), .second, .val (.int p6), .val (.int (0 : Int32)), .val (.int x10), .val (.int x11), .val (.int x12), .val (.int x13), .val (.int x14), .val (.ref o), .val (.int x16), .val (.int y), .val (.long (0 : Int64)), .second] [(.int (1 : Int32)), (.int (0 : Int32))])
  refine own_go (fun _ k => XS.icmpYes X0.here hx rfl (pc0 := 203) (pc' := 216) rfl (hb hby at_203) rfl (tlt (by decide : (0 : Int32) < (1 : Int32))).1 (by decide) (by decide) k) ?_
  show own_Run p e below _ T0 (mkF m 216 #[.val (.int p1), .val (.int p2), .val (.long q3), .second, .val (.long q4), .second, .val (.long q5), .second, .val (.int p6), .val (.int (0 : Int32)), .val (.int x10), .val (.int x11), .val (.int x12), .val (.int x13), .val (.int x14), .val (.ref o), .val (.int x16), .val (.int y), .val (.long (0 : Int64)), .second] [])
  refine own_go (fun _ k => XS.iload X0.here hx rfl (hb hby at_216) rfl k) ?_
  refine own_go (fun _ k => XS.iconst X0.here hx rfl (hb hby at_218) k) ?_
  show own_Run p e below _ T0 (mkF m 219 #[.val (.int p1), .val (.int p2), .val (.long q3), .second, .val (.long q4), .second, .val (.long q5), .second, .val (.int p6), .val (.int (0 : Int32)), .val (.int x10), .val (.int x11), .val (.int x12), .val (.int x13), .val (.int x14), .val (.ref o), .val (.int x16), .val (.int y), .val (.long (0 : Int64)), .second] [(.int (2 : Int32)), (.int (0 : Int32))])
  refine own_go (fun _ k => XS.icmpYes X0.here hx rfl (pc0 := 219) (pc' := 233) rfl (hb hby at_219) rfl (tlt (by decide : (0 : Int32) < (2 : Int32))).1 (by decide) (by decide) k) ?_
  show own_Run p e below _ T0 (mkF m 233 #[.val (.int p1), .val (.int p2), .val (.long q3), .second, .val (.long q4), .second, .val (.long q5), .second, .val (.int p6), .val (.int (0 : Int32)), .val (.int x10), .val (.int x11), .val (.int x12), .val (.int x13), .val (.int x14), .val (.ref o), .val (.int x16), .val (.int y), .val (.long (0 : Int64)), .second] [])
  refine own_go (fun _ k => XS.iload X0.here hx rfl (hb hby at_233) rfl k) ?_
  refine own_go (fun _ k => XS.iconst X0.here hx rfl (hb hby at_235) k) ?_
  show own_Run p e below _ T0 (mkF m 236 #[.val (.int p1), .val (.int p2), .val (.long q3), .second, .val (.long q4), .second, .val (.long q5), .second, .val (.int p6), .val (.int (0 : Int32)), .val (.int x10), .val (.int x11), .val (.int x12), .val (.int x13), .val (.int x14), .val (.ref o), .val (.int x16), .val (.int y), .val (.long (0 : Int64)), .second] [(.int (3 : Int32)), (.int (0 : Int32))])
  refine own_go (fun _ k => XS.icmpYes X0.here hx rfl (pc0 := 236) (pc' := 250) rfl (hb hby at_236) rfl (tlt (by decide : (0 : Int32) < (3 : Int32))).1 (by decide) (by decide) k) ?_
  show own_Run p e below _ T0 (mkF m 250 #[.val (.int p1), .val (.int p2), .val (.long q3), .second, .val (.long q4), .second, .val (.long q5), .second, .val (.int p6), .val (.int (0 : Int32)), .val (.int x10), .val (.int x11), .val (.int x12), .val (.int x13), .val (.int x14), .val (.ref o), .val (.int x16), .val (.int y), .val (.long (0 : Int64)), .second] [])
  refine own_go (fun _ k => XS.aload X0.here hx rfl (hb hby at_250) rfl rfl k) ?_
  refine own_go (fun _ k => XS.iload X0.here hx rfl (hb hby at_252) rfl k) ?_
  show own_Run p e below _ T0 (mkF m 254 #[.val (.int p1), .val (.int p2), .val (.long q3), .second, .val (.long q4), .second, .val (.long q5), .second, .val (.int p6), .val (.int (0 : Int32)), .val (.int x10), .val (.int x11), .val (.int x12), .val (.int x13), .val (.int x14), .val (.ref o), .val (.int x16), .val (.int y), .val (.long (0 : Int64)), .second] [(.int y), (.ref o)])
  obtain ⟨cq155, kq155, q155a, q155b, q155c⟩ := isOf hZ e0 E_o
  obtain ⟨_, _, ⟨T155, L155, k155, n155⟩, -, X155, ⟨Lc155, hQ155, l155, y155, z155⟩, st155⟩ := X0.virtualBack hx (y := (⟨"com/example/net_reducer/netreducer/analysis/Marking", "tokensOn", "(I)J"⟩ : MethodName)) (z := (⟨"com/example/net_reducer/netreducer/analysis/Marking", "tokensOn", "(I)J"⟩ : MethodName)) hown (mvT hZ (W 27 rfl)) (mvT hZ (W 28 rfl)) (notFace_of_selects (args := #[]) (mvT hZ (W 30 rfl))) (mvT hZ (W 30 rfl)) (mvT hZ (W 29 rfl)) (by decide) (backOf (W := 0) (rm5n0 l Z a0 hw [] o y b1 b2 k1 k2 (0 : Int32) (0 : Int32) (0 : Int32) (0 : Int32) (0 : Int32) (0 : Int32) (0 : Int32) (0 : Int32) (0 : Int64) (0 : Int64) (0 : Int64) (0 : Int64) (0 : Int64) (0 : Int64) (0 : Int64) (0 : Int64) (0 : Int64) hh n0 Z0 E_o F_places_o F_tokens_o F_size_o V_b1 V_b2 (rfl)) hZ (W 31 rfl) (W 7 rfl) (by decide) (by decide)) q155a q155c (g := (mkF m 254 #[.val (.int p1), .val (.int p2), .val (.long q3), .second, .val (.long q4), .second, .val (.long q5), .second, .val (.int p6), .val (.int (0 : Int32)), .val (.int x10), .val (.int x11), .val (.int x12), .val (.int x13), .val (.int x14), .val (.ref o), .val (.int x16), .val (.int y), .val (.long (0 : Int64)), .second] [(.int y), (.ref o)])) rfl (by rw [hml]; rfl) (Steps.refl _) (argsL := [(.int y)]) (rest := []) (lenOf pd_3 rfl) rfl (by show 2 * 0 + _ ≤ _; exact Nat.le_of_eq rfl) (hb hby at_254) (fun _ _ => ⟨rfl, e0, (by decide : 3 + 0 ≤ _), (by decide : 19 + 0 ≤ _)⟩)
  dsimp only [Pt.U, Pt.locs, Pt.cells, Pt.slots] at X155 l155 y155 z155 st155 hQ155
  subst l155 y155 z155
  obtain ⟨rfl, N155q, e155⟩ := hQ155
  have N155 := Fr.app N0 N155q
  refine own_goT st155 ?_
  show own_Run p e below _ T155 (mkF m 257 #[.val (.int p1), .val (.int p2), .val (.long q3), .second, .val (.long q4), .second, .val (.long q5), .second, .val (.int p6), .val (.int (0 : Int32)), .val (.int x10), .val (.int x11), .val (.int x12), .val (.int x13), .val (.int x14), .val (.ref o), .val (.int x16), .val (.int y), .val (.long (0 : Int64)), .second] [(.long (0 : Int64))])
  refine own_go (fun _ k => XS.lload X155.here hx rfl (hb hby at_257) rfl k) ?_
  refine own_go (fun _ k => XS.lcmp X155.here hx rfl (hb hby at_259) rfl k) ?_
  show own_Run p e below _ T155 (mkF m 260 #[.val (.int p1), .val (.int p2), .val (.long q3), .second, .val (.long q4), .second, .val (.long q5), .second, .val (.int p6), .val (.int (0 : Int32)), .val (.int x10), .val (.int x11), .val (.int x12), .val (.int x13), .val (.int x14), .val (.ref o), .val (.int x16), .val (.int y), .val (.long (0 : Int64)), .second] [(.int (lcmpW (0 : Int64) (0 : Int64)))])
  refine own_go (fun _ k => XS.ifNo X155.here hx rfl (hb hby at_260) rfl (own_lcTe (by decide : (0 : Int64) = (0 : Int64))).2 k) ?_
  show own_Run p e below _ T155 (mkF m 263 #[.val (.int p1), .val (.int p2), .val (.long q3), .second, .val (.long q4), .second, .val (.long q5), .second, .val (.int p6), .val (.int (0 : Int32)), .val (.int x10), .val (.int x11), .val (.int x12), .val (.int x13), .val (.int x14), .val (.ref o), .val (.int x16), .val (.int y), .val (.long (0 : Int64)), .second] [])
  refine own_go (fun _ k => XS.iconst X155.here hx rfl (hb hby at_263) k) ?_
  refine own_go (fun _ k => XS.goto X155.here hx rfl (pc0 := 264) (pc' := 268) rfl (hb hby at_264) (by decide) (by decide) k) ?_
  show own_Run p e below _ T155 (mkF m 268 #[.val (.int p1), .val (.int p2), .val (.long q3), .second, .val (.long q4), .second, .val (.long q5), .second, .val (.int p6), .val (.int (0 : Int32)), .val (.int x10), .val (.int x11), .val (.int x12), .val (.int x13), .val (.int x14), .val (.ref o), .val (.int x16), .val (.int y), .val (.long (0 : Int64)), .second] [(.int (1 : Int32))])
  refine own_done (Q := fun v h L => Q0 Z p1 p2 q3 q4 q5 p6 h0 n0 v h L) (v := (some (.int (1 : Int32)))) X155 (fun h => by rw [hret] at h; cases h) hlk (fun fs hr => retN X155 hx (t := .boolean) hret (by simp) (hb hby at_268) hr) ?_ (by decide) (by decide)
  show Q0 Z p1 p2 q3 q4 q5 p6 h0 n0 _ T155.heap _
  rw [e155]
  exact ⟨rfl, N155⟩
set_option maxRecDepth 65536 in
set_option maxHeartbeats 40000000 in
theorem tail1 {p : Program} {l : Launch} {e : Env} {s : State} {m : MethodId} {args : Array Value} {below : List Frame} {meth : Method} {c : Code} {Z : State} {a0 : Array Value} (p1 : Int32) (p2 : Int32) (q3 : Int64) (q4 : Int64) (q5 : Int64) (p6 : Int32) (h0 : Heap) (n0 : Nat) (hx : p.tables.exec = Jvm.exec) (hZ : Z.Warmed39 s.vm) (hw : ∀ d ∈ tables_1, d.before a0 Z = true) (hby : c.code = code) (hml : c.maxLocals = 20) (hown : s.vm.findClass "com/example/net_reducer/netreducer/analysis/MarkingTokensOnPinLaw" = some m.cls) (hnm : meth.name = "law") (hret : meth.sig.returnType = some .boolean) (hlk : meth.locks = false)
    (x10 : Int32) (x11 : Int32) (x12 : Int32) (x13 : Int32) (x14 : Int32) (o : Addr) (x16 : Int32) (y : Int32) (b1 : Addr) (b2 : Addr) (k1 : ClassId) (k2 : ClassId) (T0 : State) (hh : Heap) (locs : List Loc) (X0 : Stand p l e room_1 s m args below meth c T0 locs 3 19) (e0 : T0.heap = hh) (N0 : Fr n0 locs) (Z0 : n0 ≤ hh.size) (K0 : Keep h0 hh []) (E_o : Exa Z hh o "com/example/net_reducer/netreducer/analysis/Marking") (F_places_o : Fld Z hh o "com/example/net_reducer/netreducer/analysis/Marking" "places" "[I" (.ref b1)) (F_tokens_o : Fld Z hh o "com/example/net_reducer/netreducer/analysis/Marking" "tokens" "[J" (.ref b2)) (F_size_o : Fld Z hh o "com/example/net_reducer/netreducer/analysis/Marking" "size" "I" (.int (1 : Int32))) (V_b1 : Arv Z hh b1 k1 .int (8 : Int32) [(.int x12), (.int (0 : Int32)), (.int (0 : Int32)), (.int (0 : Int32)), (.int (0 : Int32)), (.int (0 : Int32)), (.int (0 : Int32)), (.int (0 : Int32))] (.int (0 : Int32))) (V_b2 : Arv Z hh b2 k2 .long (8 : Int32) [(.long q3), (.long (0 : Int64)), (.long (0 : Int64)), (.long (0 : Int64)), (.long (0 : Int64)), (.long (0 : Int64)), (.long (0 : Int64)), (.long (0 : Int64))] (.long (0 : Int64))) (hl1 : x12 < x13) (hl2 : x13 < x14) :
    own_Run p e below (fun o U' => ∃ v L, o = .returned v ∧ Q0 Z p1 p2 q3 q4 q5 p6 h0 n0 v U'.heap L ∧ FrameEnd s o U' L room_1.cells room_1.slots) T0 (mkF m 197 #[.val (.int p1), .val (.int p2), .val (.long q3), .second, .val (.long q4), .second, .val (.long q5), .second, .val (.int p6), .val (.int (1 : Int32)), .val (.int x10), .val (.int x11), .val (.int x12), .val (.int x13), .val (.int x14), .val (.ref o), .val (.int x16), .val (.int y), .unset, .unset] []) := by
  have W := fun (k : Nat) {d : Jvm.Cond} (h : tables_1[k]? = some d) => hw d (List.mem_of_getElem? h)
  show own_Run p e below _ T0 (mkF m 197 #[.val (.int p1), .val (.int p2), .val (.long q3), .second, .val (.long q4), .second, .val (.long q5), .second, .val (.int p6), .val (.int (1 : Int32)), .val (.int x10), .val (.int x11), .val (.int x12), .val (.int x13), .val (.int x14), .val (.ref o), .val (.int x16), .val (.int y), .unset, .unset] [])
  show own_Run p e below _ T0 (mkF m 197 #[.val (.int p1), .val (.int p2), .val (.long q3), .second, .val (.long q4), .second, .val (.long q5), .second, .val (.int p6), .val (.int (1 : Int32)), .val (.int x10), .val (.int x11), .val (.int x12), .val (.int x13), .val (.int x14), .val (.ref o), .val (.int x16), .val (.int y), .unset, .unset] [])
  rcases own_tri x12 y with hk0 | hk0 | hk0
  · refine own_go (fun _ k => XS.lconst X0.here hx rfl (hb hby at_197) k) ?_
    refine own_go (fun _ k => XS.lstore X0.here hx rfl (hb hby at_198) rfl (l' := #[.val (.int p1), .val (.int p2), .val (.long q3), .second, .val (.long q4), .second, .val (.long q5), .second, .val (.int p6), .val (.int (1 : Int32)), .val (.int x10), .val (.int x11), .val (.int x12), .val (.int x13), .val (.int x14), .val (.ref o), .val (.int x16), .val (.int y), .val (.long (0 : Int64)), .second]) rfl k) ?_
    refine own_go (fun _ k => XS.iload X0.here hx rfl (hb hby at_200) rfl k) ?_
    refine own_go (fun _ k => XS.iconst X0.here hx rfl (hb hby at_202) k) ?_
    show own_Run p e below _ T0 (mkF m 203 #[.val (.int p1), .val (.int p2), .val (.long q3), .second, .val (.long q4), .second, .val (.long q5), .second, .val (.int p6), .val (.int (1 : Int32)), .val (.int x10), .val (.int x11), .val (.int x12), .val (.int x13), .val (.int x14), .val (.ref o), .val (.int x16), .val (.int y), .val (.long (0 : Int64)), .second] [(.int (1 : Int32)), (.int (1 : Int32))])
    refine own_go (fun _ k => XS.icmpNo X0.here hx rfl (hb hby at_203) rfl (flt (by decide : ¬ ((1 : Int32) < (1 : Int32)))).1 k) ?_
    show own_Run p e below _ T0 (mkF m 206 #[.val (.int p1), .val (.int p2), .val (.long q3), .second, .val (.long q4), .second, .val (.long q5), .second, .val (.int p6), .val (.int (1 : Int32)), .val (.int x10), .val (.int x11), .val (.int x12), .val (.int x13), .val (.int x14), .val (.ref o), .val (.int x16), .val (.int y), .val (.long (0 : Int64)), .second] [])
    refine own_go (fun _ k => XS.iload X0.here hx rfl (hb hby at_206) rfl k) ?_
    refine own_go (fun _ k => XS.iload X0.here hx rfl (hb hby at_208) rfl k) ?_
    show own_Run p e below _ T0 (mkF m 210 #[.val (.int p1), .val (.int p2), .val (.long q3), .second, .val (.long q4), .second, .val (.long q5), .second, .val (.int p6), .val (.int (1 : Int32)), .val (.int x10), .val (.int x11), .val (.int x12), .val (.int x13), .val (.int x14), .val (.ref o), .val (.int x16), .val (.int y), .val (.long (0 : Int64)), .second] [(.int x12), (.int y)])
    refine own_go (fun _ k => XS.icmpYes X0.here hx rfl (pc0 := 210) (pc' := 216) rfl (hb hby at_210) rfl (feq (own_neL hk0 : ¬ (y = x12))).2 (by decide) (by decide) k) ?_
    show own_Run p e below _ T0 (mkF m 216 #[.val (.int p1), .val (.int p2), .val (.long q3), .second, .val (.long q4), .second, .val (.long q5), .second, .val (.int p6), .val (.int (1 : Int32)), .val (.int x10), .val (.int x11), .val (.int x12), .val (.int x13), .val (.int x14), .val (.ref o), .val (.int x16), .val (.int y), .val (.long (0 : Int64)), .second] [])
    refine own_go (fun _ k => XS.iload X0.here hx rfl (hb hby at_216) rfl k) ?_
    refine own_go (fun _ k => XS.iconst X0.here hx rfl (hb hby at_218) k) ?_
    show own_Run p e below _ T0 (mkF m 219 #[.val (.int p1), .val (.int p2), .val (.long q3), .second, .val (.long q4), .second, .val (.long q5), .second, .val (.int p6), .val (.int (1 : Int32)), .val (.int x10), .val (.int x11), .val (.int x12), .val (.int x13), .val (.int x14), .val (.ref o), .val (.int x16), .val (.int y), .val (.long (0 : Int64)), .second] [(.int (2 : Int32)), (.int (1 : Int32))])
    refine own_go (fun _ k => XS.icmpYes X0.here hx rfl (pc0 := 219) (pc' := 233) rfl (hb hby at_219) rfl (tlt (by decide : (1 : Int32) < (2 : Int32))).1 (by decide) (by decide) k) ?_
    show own_Run p e below _ T0 (mkF m 233 #[.val (.int p1), .val (.int p2), .val (.long q3), .second, .val (.long q4), .second, .val (.long q5), .second, .val (.int p6), .val (.int (1 : Int32)), .val (.int x10), .val (.int x11), .val (.int x12), .val (.int x13), .val (.int x14), .val (.ref o), .val (.int x16), .val (.int y), .val (.long (0 : Int64)), .second] [])
    refine own_go (fun _ k => XS.iload X0.here hx rfl (hb hby at_233) rfl k) ?_
    refine own_go (fun _ k => XS.iconst X0.here hx rfl (hb hby at_235) k) ?_
    show own_Run p e below _ T0 (mkF m 236 #[.val (.int p1), .val (.int p2), .val (.long q3), .second, .val (.long q4), .second, .val (.long q5), .second, .val (.int p6), .val (.int (1 : Int32)), .val (.int x10), .val (.int x11), .val (.int x12), .val (.int x13), .val (.int x14), .val (.ref o), .val (.int x16), .val (.int y), .val (.long (0 : Int64)), .second] [(.int (3 : Int32)), (.int (1 : Int32))])
    refine own_go (fun _ k => XS.icmpYes X0.here hx rfl (pc0 := 236) (pc' := 250) rfl (hb hby at_236) rfl (tlt (by decide : (1 : Int32) < (3 : Int32))).1 (by decide) (by decide) k) ?_
    show own_Run p e below _ T0 (mkF m 250 #[.val (.int p1), .val (.int p2), .val (.long q3), .second, .val (.long q4), .second, .val (.long q5), .second, .val (.int p6), .val (.int (1 : Int32)), .val (.int x10), .val (.int x11), .val (.int x12), .val (.int x13), .val (.int x14), .val (.ref o), .val (.int x16), .val (.int y), .val (.long (0 : Int64)), .second] [])
    refine own_go (fun _ k => XS.aload X0.here hx rfl (hb hby at_250) rfl rfl k) ?_
    refine own_go (fun _ k => XS.iload X0.here hx rfl (hb hby at_252) rfl k) ?_
    show own_Run p e below _ T0 (mkF m 254 #[.val (.int p1), .val (.int p2), .val (.long q3), .second, .val (.long q4), .second, .val (.long q5), .second, .val (.int p6), .val (.int (1 : Int32)), .val (.int x10), .val (.int x11), .val (.int x12), .val (.int x13), .val (.int x14), .val (.ref o), .val (.int x16), .val (.int y), .val (.long (0 : Int64)), .second] [(.int y), (.ref o)])
    obtain ⟨cq156, kq156, q156a, q156b, q156c⟩ := isOf hZ e0 E_o
    obtain ⟨_, _, ⟨T156, L156, k156, n156⟩, -, X156, ⟨Lc156, hQ156, l156, y156, z156⟩, st156⟩ := X0.virtualBack hx (y := (⟨"com/example/net_reducer/netreducer/analysis/Marking", "tokensOn", "(I)J"⟩ : MethodName)) (z := (⟨"com/example/net_reducer/netreducer/analysis/Marking", "tokensOn", "(I)J"⟩ : MethodName)) hown (mvT hZ (W 27 rfl)) (mvT hZ (W 28 rfl)) (notFace_of_selects (args := #[]) (mvT hZ (W 30 rfl))) (mvT hZ (W 30 rfl)) (mvT hZ (W 29 rfl)) (by decide) (backOf (W := 0) (rm5n1 l Z a0 hw [] o y b1 b2 k1 k2 x12 (0 : Int32) (0 : Int32) (0 : Int32) (0 : Int32) (0 : Int32) (0 : Int32) (0 : Int32) q3 (0 : Int64) (0 : Int64) (0 : Int64) (0 : Int64) (0 : Int64) (0 : Int64) (0 : Int64) (0 : Int64) hh n0 Z0 E_o F_places_o F_tokens_o F_size_o V_b1 V_b2 (Or.inr (Or.inr (⟨hk0, rfl⟩)))) hZ (W 31 rfl) (W 7 rfl) (by decide) (by decide)) q156a q156c (g := (mkF m 254 #[.val (.int p1), .val (.int p2), .val (.long q3), .second, .val (.long q4), .second, .val (.long q5), .second, .val (.int p6), .val (.int (1 : Int32)), .val (.int x10), .val (.int x11), .val (.int x12), .val (.int x13), .val (.int x14), .val (.ref o), .val (.int x16), .val (.int y), .val (.long (0 : Int64)), .second] [(.int y), (.ref o)])) rfl (by rw [hml]; rfl) (Steps.refl _) (argsL := [(.int y)]) (rest := []) (lenOf pd_3 rfl) rfl (by show 2 * 0 + _ ≤ _; exact Nat.le_of_eq rfl) (hb hby at_254) (fun _ _ => ⟨rfl, e0, (by decide : 3 + 0 ≤ _), (by decide : 19 + 0 ≤ _)⟩)
    dsimp only [Pt.U, Pt.locs, Pt.cells, Pt.slots] at X156 l156 y156 z156 st156 hQ156
    subst l156 y156 z156
    obtain ⟨rfl, N156q, e156⟩ := hQ156
    have N156 := Fr.app N0 N156q
    refine own_goT st156 ?_
    show own_Run p e below _ T156 (mkF m 257 #[.val (.int p1), .val (.int p2), .val (.long q3), .second, .val (.long q4), .second, .val (.long q5), .second, .val (.int p6), .val (.int (1 : Int32)), .val (.int x10), .val (.int x11), .val (.int x12), .val (.int x13), .val (.int x14), .val (.ref o), .val (.int x16), .val (.int y), .val (.long (0 : Int64)), .second] [(.long (0 : Int64))])
    refine own_go (fun _ k => XS.lload X156.here hx rfl (hb hby at_257) rfl k) ?_
    refine own_go (fun _ k => XS.lcmp X156.here hx rfl (hb hby at_259) rfl k) ?_
    show own_Run p e below _ T156 (mkF m 260 #[.val (.int p1), .val (.int p2), .val (.long q3), .second, .val (.long q4), .second, .val (.long q5), .second, .val (.int p6), .val (.int (1 : Int32)), .val (.int x10), .val (.int x11), .val (.int x12), .val (.int x13), .val (.int x14), .val (.ref o), .val (.int x16), .val (.int y), .val (.long (0 : Int64)), .second] [(.int (lcmpW (0 : Int64) (0 : Int64)))])
    refine own_go (fun _ k => XS.ifNo X156.here hx rfl (hb hby at_260) rfl (own_lcTe (by decide : (0 : Int64) = (0 : Int64))).2 k) ?_
    show own_Run p e below _ T156 (mkF m 263 #[.val (.int p1), .val (.int p2), .val (.long q3), .second, .val (.long q4), .second, .val (.long q5), .second, .val (.int p6), .val (.int (1 : Int32)), .val (.int x10), .val (.int x11), .val (.int x12), .val (.int x13), .val (.int x14), .val (.ref o), .val (.int x16), .val (.int y), .val (.long (0 : Int64)), .second] [])
    refine own_go (fun _ k => XS.iconst X156.here hx rfl (hb hby at_263) k) ?_
    refine own_go (fun _ k => XS.goto X156.here hx rfl (pc0 := 264) (pc' := 268) rfl (hb hby at_264) (by decide) (by decide) k) ?_
    show own_Run p e below _ T156 (mkF m 268 #[.val (.int p1), .val (.int p2), .val (.long q3), .second, .val (.long q4), .second, .val (.long q5), .second, .val (.int p6), .val (.int (1 : Int32)), .val (.int x10), .val (.int x11), .val (.int x12), .val (.int x13), .val (.int x14), .val (.ref o), .val (.int x16), .val (.int y), .val (.long (0 : Int64)), .second] [(.int (1 : Int32))])
    refine own_done (Q := fun v h L => Q0 Z p1 p2 q3 q4 q5 p6 h0 n0 v h L) (v := (some (.int (1 : Int32)))) X156 (fun h => by rw [hret] at h; cases h) hlk (fun fs hr => retN X156 hx (t := .boolean) hret (by simp) (hb hby at_268) hr) ?_ (by decide) (by decide)
    show Q0 Z p1 p2 q3 q4 q5 p6 h0 n0 _ T156.heap _
    rw [e156]
    exact ⟨rfl, N156⟩
  · refine own_go (fun _ k => XS.lconst X0.here hx rfl (hb hby at_197) k) ?_
    refine own_go (fun _ k => XS.lstore X0.here hx rfl (hb hby at_198) rfl (l' := #[.val (.int p1), .val (.int p2), .val (.long q3), .second, .val (.long q4), .second, .val (.long q5), .second, .val (.int p6), .val (.int (1 : Int32)), .val (.int x10), .val (.int x11), .val (.int x12), .val (.int x13), .val (.int x14), .val (.ref o), .val (.int x16), .val (.int y), .val (.long (0 : Int64)), .second]) rfl k) ?_
    refine own_go (fun _ k => XS.iload X0.here hx rfl (hb hby at_200) rfl k) ?_
    refine own_go (fun _ k => XS.iconst X0.here hx rfl (hb hby at_202) k) ?_
    show own_Run p e below _ T0 (mkF m 203 #[.val (.int p1), .val (.int p2), .val (.long q3), .second, .val (.long q4), .second, .val (.long q5), .second, .val (.int p6), .val (.int (1 : Int32)), .val (.int x10), .val (.int x11), .val (.int x12), .val (.int x13), .val (.int x14), .val (.ref o), .val (.int x16), .val (.int y), .val (.long (0 : Int64)), .second] [(.int (1 : Int32)), (.int (1 : Int32))])
    refine own_go (fun _ k => XS.icmpNo X0.here hx rfl (hb hby at_203) rfl (flt (by decide : ¬ ((1 : Int32) < (1 : Int32)))).1 k) ?_
    show own_Run p e below _ T0 (mkF m 206 #[.val (.int p1), .val (.int p2), .val (.long q3), .second, .val (.long q4), .second, .val (.long q5), .second, .val (.int p6), .val (.int (1 : Int32)), .val (.int x10), .val (.int x11), .val (.int x12), .val (.int x13), .val (.int x14), .val (.ref o), .val (.int x16), .val (.int y), .val (.long (0 : Int64)), .second] [])
    refine own_go (fun _ k => XS.iload X0.here hx rfl (hb hby at_206) rfl k) ?_
    refine own_go (fun _ k => XS.iload X0.here hx rfl (hb hby at_208) rfl k) ?_
    show own_Run p e below _ T0 (mkF m 210 #[.val (.int p1), .val (.int p2), .val (.long q3), .second, .val (.long q4), .second, .val (.long q5), .second, .val (.int p6), .val (.int (1 : Int32)), .val (.int x10), .val (.int x11), .val (.int x12), .val (.int x13), .val (.int x14), .val (.ref o), .val (.int x16), .val (.int y), .val (.long (0 : Int64)), .second] [(.int x12), (.int y)])
    refine own_go (fun _ k => XS.icmpNo X0.here hx rfl (hb hby at_210) rfl (teq (hk0.symm : y = x12)).2 k) ?_
    show own_Run p e below _ T0 (mkF m 213 #[.val (.int p1), .val (.int p2), .val (.long q3), .second, .val (.long q4), .second, .val (.long q5), .second, .val (.int p6), .val (.int (1 : Int32)), .val (.int x10), .val (.int x11), .val (.int x12), .val (.int x13), .val (.int x14), .val (.ref o), .val (.int x16), .val (.int y), .val (.long (0 : Int64)), .second] [])
    refine own_go (fun _ k => XS.lloadN X0.here hx rfl (hb hby at_213) rfl k) ?_
    refine own_go (fun _ k => XS.lstore X0.here hx rfl (hb hby at_214) rfl (l' := #[.val (.int p1), .val (.int p2), .val (.long q3), .second, .val (.long q4), .second, .val (.long q5), .second, .val (.int p6), .val (.int (1 : Int32)), .val (.int x10), .val (.int x11), .val (.int x12), .val (.int x13), .val (.int x14), .val (.ref o), .val (.int x16), .val (.int y), .val (.long q3), .second]) rfl k) ?_
    refine own_go (fun _ k => XS.iload X0.here hx rfl (hb hby at_216) rfl k) ?_
    refine own_go (fun _ k => XS.iconst X0.here hx rfl (hb hby at_218) k) ?_
    show own_Run p e below _ T0 (mkF m 219 #[.val (.int p1), .val (.int p2), .val (.long q3), .second, .val (.long q4), .second, .val (.long q5), .second, .val (.int p6), .val (.int (1 : Int32)), .val (.int x10), .val (.int x11), .val (.int x12), .val (.int x13), .val (.int x14), .val (.ref o), .val (.int x16), .val (.int y), .val (.long q3), .second] [(.int (2 : Int32)), (.int (1 : Int32))])
    refine own_go (fun _ k => XS.icmpYes X0.here hx rfl (pc0 := 219) (pc' := 233) rfl (hb hby at_219) rfl (tlt (by decide : (1 : Int32) < (2 : Int32))).1 (by decide) (by decide) k) ?_
    show own_Run p e below _ T0 (mkF m 233 #[.val (.int p1), .val (.int p2), .val (.long q3), .second, .val (.long q4), .second, .val (.long q5), .second, .val (.int p6), .val (.int (1 : Int32)), .val (.int x10), .val (.int x11), .val (.int x12), .val (.int x13), .val (.int x14), .val (.ref o), .val (.int x16), .val (.int y), .val (.long q3), .second] [])
    refine own_go (fun _ k => XS.iload X0.here hx rfl (hb hby at_233) rfl k) ?_
    refine own_go (fun _ k => XS.iconst X0.here hx rfl (hb hby at_235) k) ?_
    show own_Run p e below _ T0 (mkF m 236 #[.val (.int p1), .val (.int p2), .val (.long q3), .second, .val (.long q4), .second, .val (.long q5), .second, .val (.int p6), .val (.int (1 : Int32)), .val (.int x10), .val (.int x11), .val (.int x12), .val (.int x13), .val (.int x14), .val (.ref o), .val (.int x16), .val (.int y), .val (.long q3), .second] [(.int (3 : Int32)), (.int (1 : Int32))])
    refine own_go (fun _ k => XS.icmpYes X0.here hx rfl (pc0 := 236) (pc' := 250) rfl (hb hby at_236) rfl (tlt (by decide : (1 : Int32) < (3 : Int32))).1 (by decide) (by decide) k) ?_
    show own_Run p e below _ T0 (mkF m 250 #[.val (.int p1), .val (.int p2), .val (.long q3), .second, .val (.long q4), .second, .val (.long q5), .second, .val (.int p6), .val (.int (1 : Int32)), .val (.int x10), .val (.int x11), .val (.int x12), .val (.int x13), .val (.int x14), .val (.ref o), .val (.int x16), .val (.int y), .val (.long q3), .second] [])
    refine own_go (fun _ k => XS.aload X0.here hx rfl (hb hby at_250) rfl rfl k) ?_
    refine own_go (fun _ k => XS.iload X0.here hx rfl (hb hby at_252) rfl k) ?_
    show own_Run p e below _ T0 (mkF m 254 #[.val (.int p1), .val (.int p2), .val (.long q3), .second, .val (.long q4), .second, .val (.long q5), .second, .val (.int p6), .val (.int (1 : Int32)), .val (.int x10), .val (.int x11), .val (.int x12), .val (.int x13), .val (.int x14), .val (.ref o), .val (.int x16), .val (.int y), .val (.long q3), .second] [(.int y), (.ref o)])
    obtain ⟨cq157, kq157, q157a, q157b, q157c⟩ := isOf hZ e0 E_o
    obtain ⟨_, _, ⟨T157, L157, k157, n157⟩, -, X157, ⟨Lc157, hQ157, l157, y157, z157⟩, st157⟩ := X0.virtualBack hx (y := (⟨"com/example/net_reducer/netreducer/analysis/Marking", "tokensOn", "(I)J"⟩ : MethodName)) (z := (⟨"com/example/net_reducer/netreducer/analysis/Marking", "tokensOn", "(I)J"⟩ : MethodName)) hown (mvT hZ (W 27 rfl)) (mvT hZ (W 28 rfl)) (notFace_of_selects (args := #[]) (mvT hZ (W 30 rfl))) (mvT hZ (W 30 rfl)) (mvT hZ (W 29 rfl)) (by decide) (backOf (W := 0) (rm5n1 l Z a0 hw [] o y b1 b2 k1 k2 x12 (0 : Int32) (0 : Int32) (0 : Int32) (0 : Int32) (0 : Int32) (0 : Int32) (0 : Int32) q3 (0 : Int64) (0 : Int64) (0 : Int64) (0 : Int64) (0 : Int64) (0 : Int64) (0 : Int64) q3 hh n0 Z0 E_o F_places_o F_tokens_o F_size_o V_b1 V_b2 (Or.inl ⟨hk0, rfl⟩)) hZ (W 31 rfl) (W 7 rfl) (by decide) (by decide)) q157a q157c (g := (mkF m 254 #[.val (.int p1), .val (.int p2), .val (.long q3), .second, .val (.long q4), .second, .val (.long q5), .second, .val (.int p6), .val (.int (1 : Int32)), .val (.int x10), .val (.int x11), .val (.int x12), .val (.int x13), .val (.int x14), .val (.ref o), .val (.int x16), .val (.int y), .val (.long q3), .second] [(.int y), (.ref o)])) rfl (by rw [hml]; rfl) (Steps.refl _) (argsL := [(.int y)]) (rest := []) (lenOf pd_3 rfl) rfl (by show 2 * 0 + _ ≤ _; exact Nat.le_of_eq rfl) (hb hby at_254) (fun _ _ => ⟨rfl, e0, (by decide : 3 + 0 ≤ _), (by decide : 19 + 0 ≤ _)⟩)
    dsimp only [Pt.U, Pt.locs, Pt.cells, Pt.slots] at X157 l157 y157 z157 st157 hQ157
    subst l157 y157 z157
    obtain ⟨rfl, N157q, e157⟩ := hQ157
    have N157 := Fr.app N0 N157q
    refine own_goT st157 ?_
    show own_Run p e below _ T157 (mkF m 257 #[.val (.int p1), .val (.int p2), .val (.long q3), .second, .val (.long q4), .second, .val (.long q5), .second, .val (.int p6), .val (.int (1 : Int32)), .val (.int x10), .val (.int x11), .val (.int x12), .val (.int x13), .val (.int x14), .val (.ref o), .val (.int x16), .val (.int y), .val (.long q3), .second] [(.long q3)])
    refine own_go (fun _ k => XS.lload X157.here hx rfl (hb hby at_257) rfl k) ?_
    refine own_go (fun _ k => XS.lcmp X157.here hx rfl (hb hby at_259) rfl k) ?_
    show own_Run p e below _ T157 (mkF m 260 #[.val (.int p1), .val (.int p2), .val (.long q3), .second, .val (.long q4), .second, .val (.long q5), .second, .val (.int p6), .val (.int (1 : Int32)), .val (.int x10), .val (.int x11), .val (.int x12), .val (.int x13), .val (.int x14), .val (.ref o), .val (.int x16), .val (.int y), .val (.long q3), .second] [(.int (lcmpW q3 q3))])
    refine own_go (fun _ k => XS.ifNo X157.here hx rfl (hb hby at_260) rfl (own_lcTe rfl).2 k) ?_
    show own_Run p e below _ T157 (mkF m 263 #[.val (.int p1), .val (.int p2), .val (.long q3), .second, .val (.long q4), .second, .val (.long q5), .second, .val (.int p6), .val (.int (1 : Int32)), .val (.int x10), .val (.int x11), .val (.int x12), .val (.int x13), .val (.int x14), .val (.ref o), .val (.int x16), .val (.int y), .val (.long q3), .second] [])
    refine own_go (fun _ k => XS.iconst X157.here hx rfl (hb hby at_263) k) ?_
    refine own_go (fun _ k => XS.goto X157.here hx rfl (pc0 := 264) (pc' := 268) rfl (hb hby at_264) (by decide) (by decide) k) ?_
    show own_Run p e below _ T157 (mkF m 268 #[.val (.int p1), .val (.int p2), .val (.long q3), .second, .val (.long q4), .second, .val (.long q5), .second, .val (.int p6), .val (.int (1 : Int32)), .val (.int x10), .val (.int x11), .val (.int x12), .val (.int x13), .val (.int x14), .val (.ref o), .val (.int x16), .val (.int y), .val (.long q3), .second] [(.int (1 : Int32))])
    refine own_done (Q := fun v h L => Q0 Z p1 p2 q3 q4 q5 p6 h0 n0 v h L) (v := (some (.int (1 : Int32)))) X157 (fun h => by rw [hret] at h; cases h) hlk (fun fs hr => retN X157 hx (t := .boolean) hret (by simp) (hb hby at_268) hr) ?_ (by decide) (by decide)
    show Q0 Z p1 p2 q3 q4 q5 p6 h0 n0 _ T157.heap _
    rw [e157]
    exact ⟨rfl, N157⟩
  · refine own_go (fun _ k => XS.lconst X0.here hx rfl (hb hby at_197) k) ?_
    refine own_go (fun _ k => XS.lstore X0.here hx rfl (hb hby at_198) rfl (l' := #[.val (.int p1), .val (.int p2), .val (.long q3), .second, .val (.long q4), .second, .val (.long q5), .second, .val (.int p6), .val (.int (1 : Int32)), .val (.int x10), .val (.int x11), .val (.int x12), .val (.int x13), .val (.int x14), .val (.ref o), .val (.int x16), .val (.int y), .val (.long (0 : Int64)), .second]) rfl k) ?_
    refine own_go (fun _ k => XS.iload X0.here hx rfl (hb hby at_200) rfl k) ?_
    refine own_go (fun _ k => XS.iconst X0.here hx rfl (hb hby at_202) k) ?_
    show own_Run p e below _ T0 (mkF m 203 #[.val (.int p1), .val (.int p2), .val (.long q3), .second, .val (.long q4), .second, .val (.long q5), .second, .val (.int p6), .val (.int (1 : Int32)), .val (.int x10), .val (.int x11), .val (.int x12), .val (.int x13), .val (.int x14), .val (.ref o), .val (.int x16), .val (.int y), .val (.long (0 : Int64)), .second] [(.int (1 : Int32)), (.int (1 : Int32))])
    refine own_go (fun _ k => XS.icmpNo X0.here hx rfl (hb hby at_203) rfl (flt (by decide : ¬ ((1 : Int32) < (1 : Int32)))).1 k) ?_
    show own_Run p e below _ T0 (mkF m 206 #[.val (.int p1), .val (.int p2), .val (.long q3), .second, .val (.long q4), .second, .val (.long q5), .second, .val (.int p6), .val (.int (1 : Int32)), .val (.int x10), .val (.int x11), .val (.int x12), .val (.int x13), .val (.int x14), .val (.ref o), .val (.int x16), .val (.int y), .val (.long (0 : Int64)), .second] [])
    refine own_go (fun _ k => XS.iload X0.here hx rfl (hb hby at_206) rfl k) ?_
    refine own_go (fun _ k => XS.iload X0.here hx rfl (hb hby at_208) rfl k) ?_
    show own_Run p e below _ T0 (mkF m 210 #[.val (.int p1), .val (.int p2), .val (.long q3), .second, .val (.long q4), .second, .val (.long q5), .second, .val (.int p6), .val (.int (1 : Int32)), .val (.int x10), .val (.int x11), .val (.int x12), .val (.int x13), .val (.int x14), .val (.ref o), .val (.int x16), .val (.int y), .val (.long (0 : Int64)), .second] [(.int x12), (.int y)])
    refine own_go (fun _ k => XS.icmpYes X0.here hx rfl (pc0 := 210) (pc' := 216) rfl (hb hby at_210) rfl (feq (own_neR hk0 : ¬ (y = x12))).2 (by decide) (by decide) k) ?_
    show own_Run p e below _ T0 (mkF m 216 #[.val (.int p1), .val (.int p2), .val (.long q3), .second, .val (.long q4), .second, .val (.long q5), .second, .val (.int p6), .val (.int (1 : Int32)), .val (.int x10), .val (.int x11), .val (.int x12), .val (.int x13), .val (.int x14), .val (.ref o), .val (.int x16), .val (.int y), .val (.long (0 : Int64)), .second] [])
    refine own_go (fun _ k => XS.iload X0.here hx rfl (hb hby at_216) rfl k) ?_
    refine own_go (fun _ k => XS.iconst X0.here hx rfl (hb hby at_218) k) ?_
    show own_Run p e below _ T0 (mkF m 219 #[.val (.int p1), .val (.int p2), .val (.long q3), .second, .val (.long q4), .second, .val (.long q5), .second, .val (.int p6), .val (.int (1 : Int32)), .val (.int x10), .val (.int x11), .val (.int x12), .val (.int x13), .val (.int x14), .val (.ref o), .val (.int x16), .val (.int y), .val (.long (0 : Int64)), .second] [(.int (2 : Int32)), (.int (1 : Int32))])
    refine own_go (fun _ k => XS.icmpYes X0.here hx rfl (pc0 := 219) (pc' := 233) rfl (hb hby at_219) rfl (tlt (by decide : (1 : Int32) < (2 : Int32))).1 (by decide) (by decide) k) ?_
    show own_Run p e below _ T0 (mkF m 233 #[.val (.int p1), .val (.int p2), .val (.long q3), .second, .val (.long q4), .second, .val (.long q5), .second, .val (.int p6), .val (.int (1 : Int32)), .val (.int x10), .val (.int x11), .val (.int x12), .val (.int x13), .val (.int x14), .val (.ref o), .val (.int x16), .val (.int y), .val (.long (0 : Int64)), .second] [])
    refine own_go (fun _ k => XS.iload X0.here hx rfl (hb hby at_233) rfl k) ?_
    refine own_go (fun _ k => XS.iconst X0.here hx rfl (hb hby at_235) k) ?_
    show own_Run p e below _ T0 (mkF m 236 #[.val (.int p1), .val (.int p2), .val (.long q3), .second, .val (.long q4), .second, .val (.long q5), .second, .val (.int p6), .val (.int (1 : Int32)), .val (.int x10), .val (.int x11), .val (.int x12), .val (.int x13), .val (.int x14), .val (.ref o), .val (.int x16), .val (.int y), .val (.long (0 : Int64)), .second] [(.int (3 : Int32)), (.int (1 : Int32))])
    refine own_go (fun _ k => XS.icmpYes X0.here hx rfl (pc0 := 236) (pc' := 250) rfl (hb hby at_236) rfl (tlt (by decide : (1 : Int32) < (3 : Int32))).1 (by decide) (by decide) k) ?_
    show own_Run p e below _ T0 (mkF m 250 #[.val (.int p1), .val (.int p2), .val (.long q3), .second, .val (.long q4), .second, .val (.long q5), .second, .val (.int p6), .val (.int (1 : Int32)), .val (.int x10), .val (.int x11), .val (.int x12), .val (.int x13), .val (.int x14), .val (.ref o), .val (.int x16), .val (.int y), .val (.long (0 : Int64)), .second] [])
    refine own_go (fun _ k => XS.aload X0.here hx rfl (hb hby at_250) rfl rfl k) ?_
    refine own_go (fun _ k => XS.iload X0.here hx rfl (hb hby at_252) rfl k) ?_
    show own_Run p e below _ T0 (mkF m 254 #[.val (.int p1), .val (.int p2), .val (.long q3), .second, .val (.long q4), .second, .val (.long q5), .second, .val (.int p6), .val (.int (1 : Int32)), .val (.int x10), .val (.int x11), .val (.int x12), .val (.int x13), .val (.int x14), .val (.ref o), .val (.int x16), .val (.int y), .val (.long (0 : Int64)), .second] [(.int y), (.ref o)])
    obtain ⟨cq158, kq158, q158a, q158b, q158c⟩ := isOf hZ e0 E_o
    obtain ⟨_, _, ⟨T158, L158, k158, n158⟩, -, X158, ⟨Lc158, hQ158, l158, y158, z158⟩, st158⟩ := X0.virtualBack hx (y := (⟨"com/example/net_reducer/netreducer/analysis/Marking", "tokensOn", "(I)J"⟩ : MethodName)) (z := (⟨"com/example/net_reducer/netreducer/analysis/Marking", "tokensOn", "(I)J"⟩ : MethodName)) hown (mvT hZ (W 27 rfl)) (mvT hZ (W 28 rfl)) (notFace_of_selects (args := #[]) (mvT hZ (W 30 rfl))) (mvT hZ (W 30 rfl)) (mvT hZ (W 29 rfl)) (by decide) (backOf (W := 0) (rm5n1 l Z a0 hw [] o y b1 b2 k1 k2 x12 (0 : Int32) (0 : Int32) (0 : Int32) (0 : Int32) (0 : Int32) (0 : Int32) (0 : Int32) q3 (0 : Int64) (0 : Int64) (0 : Int64) (0 : Int64) (0 : Int64) (0 : Int64) (0 : Int64) (0 : Int64) hh n0 Z0 E_o F_places_o F_tokens_o F_size_o V_b1 V_b2 (Or.inr (Or.inl ⟨hk0, rfl⟩))) hZ (W 31 rfl) (W 7 rfl) (by decide) (by decide)) q158a q158c (g := (mkF m 254 #[.val (.int p1), .val (.int p2), .val (.long q3), .second, .val (.long q4), .second, .val (.long q5), .second, .val (.int p6), .val (.int (1 : Int32)), .val (.int x10), .val (.int x11), .val (.int x12), .val (.int x13), .val (.int x14), .val (.ref o), .val (.int x16), .val (.int y), .val (.long (0 : Int64)), .second] [(.int y), (.ref o)])) rfl (by rw [hml]; rfl) (Steps.refl _) (argsL := [(.int y)]) (rest := []) (lenOf pd_3 rfl) rfl (by show 2 * 0 + _ ≤ _; exact Nat.le_of_eq rfl) (hb hby at_254) (fun _ _ => ⟨rfl, e0, (by decide : 3 + 0 ≤ _), (by decide : 19 + 0 ≤ _)⟩)
    dsimp only [Pt.U, Pt.locs, Pt.cells, Pt.slots] at X158 l158 y158 z158 st158 hQ158
    subst l158 y158 z158
    obtain ⟨rfl, N158q, e158⟩ := hQ158
    have N158 := Fr.app N0 N158q
    refine own_goT st158 ?_
    show own_Run p e below _ T158 (mkF m 257 #[.val (.int p1), .val (.int p2), .val (.long q3), .second, .val (.long q4), .second, .val (.long q5), .second, .val (.int p6), .val (.int (1 : Int32)), .val (.int x10), .val (.int x11), .val (.int x12), .val (.int x13), .val (.int x14), .val (.ref o), .val (.int x16), .val (.int y), .val (.long (0 : Int64)), .second] [(.long (0 : Int64))])
    refine own_go (fun _ k => XS.lload X158.here hx rfl (hb hby at_257) rfl k) ?_
    refine own_go (fun _ k => XS.lcmp X158.here hx rfl (hb hby at_259) rfl k) ?_
    show own_Run p e below _ T158 (mkF m 260 #[.val (.int p1), .val (.int p2), .val (.long q3), .second, .val (.long q4), .second, .val (.long q5), .second, .val (.int p6), .val (.int (1 : Int32)), .val (.int x10), .val (.int x11), .val (.int x12), .val (.int x13), .val (.int x14), .val (.ref o), .val (.int x16), .val (.int y), .val (.long (0 : Int64)), .second] [(.int (lcmpW (0 : Int64) (0 : Int64)))])
    refine own_go (fun _ k => XS.ifNo X158.here hx rfl (hb hby at_260) rfl (own_lcTe (by decide : (0 : Int64) = (0 : Int64))).2 k) ?_
    show own_Run p e below _ T158 (mkF m 263 #[.val (.int p1), .val (.int p2), .val (.long q3), .second, .val (.long q4), .second, .val (.long q5), .second, .val (.int p6), .val (.int (1 : Int32)), .val (.int x10), .val (.int x11), .val (.int x12), .val (.int x13), .val (.int x14), .val (.ref o), .val (.int x16), .val (.int y), .val (.long (0 : Int64)), .second] [])
    refine own_go (fun _ k => XS.iconst X158.here hx rfl (hb hby at_263) k) ?_
    refine own_go (fun _ k => XS.goto X158.here hx rfl (pc0 := 264) (pc' := 268) rfl (hb hby at_264) (by decide) (by decide) k) ?_
    show own_Run p e below _ T158 (mkF m 268 #[.val (.int p1), .val (.int p2), .val (.long q3), .second, .val (.long q4), .second, .val (.long q5), .second, .val (.int p6), .val (.int (1 : Int32)), .val (.int x10), .val (.int x11), .val (.int x12), .val (.int x13), .val (.int x14), .val (.ref o), .val (.int x16), .val (.int y), .val (.long (0 : Int64)), .second] [(.int (1 : Int32))])
    refine own_done (Q := fun v h L => Q0 Z p1 p2 q3 q4 q5 p6 h0 n0 v h L) (v := (some (.int (1 : Int32)))) X158 (fun h => by rw [hret] at h; cases h) hlk (fun fs hr => retN X158 hx (t := .boolean) hret (by simp) (hb hby at_268) hr) ?_ (by decide) (by decide)
    show Q0 Z p1 p2 q3 q4 q5 p6 h0 n0 _ T158.heap _
    rw [e158]
    exact ⟨rfl, N158⟩
set_option maxRecDepth 65536 in
set_option maxHeartbeats 40000000 in
theorem tail2 {p : Program} {l : Launch} {e : Env} {s : State} {m : MethodId} {args : Array Value} {below : List Frame} {meth : Method} {c : Code} {Z : State} {a0 : Array Value} (p1 : Int32) (p2 : Int32) (q3 : Int64) (q4 : Int64) (q5 : Int64) (p6 : Int32) (h0 : Heap) (n0 : Nat) (hx : p.tables.exec = Jvm.exec) (hZ : Z.Warmed39 s.vm) (hw : ∀ d ∈ tables_1, d.before a0 Z = true) (hby : c.code = code) (hml : c.maxLocals = 20) (hown : s.vm.findClass "com/example/net_reducer/netreducer/analysis/MarkingTokensOnPinLaw" = some m.cls) (hnm : meth.name = "law") (hret : meth.sig.returnType = some .boolean) (hlk : meth.locks = false)
    (x10 : Int32) (x11 : Int32) (x12 : Int32) (x13 : Int32) (x14 : Int32) (o : Addr) (x16 : Int32) (y : Int32) (b1 : Addr) (b2 : Addr) (k1 : ClassId) (k2 : ClassId) (T0 : State) (hh : Heap) (locs : List Loc) (X0 : Stand p l e room_1 s m args below meth c T0 locs 3 19) (e0 : T0.heap = hh) (N0 : Fr n0 locs) (Z0 : n0 ≤ hh.size) (K0 : Keep h0 hh []) (E_o : Exa Z hh o "com/example/net_reducer/netreducer/analysis/Marking") (F_places_o : Fld Z hh o "com/example/net_reducer/netreducer/analysis/Marking" "places" "[I" (.ref b1)) (F_tokens_o : Fld Z hh o "com/example/net_reducer/netreducer/analysis/Marking" "tokens" "[J" (.ref b2)) (F_size_o : Fld Z hh o "com/example/net_reducer/netreducer/analysis/Marking" "size" "I" (.int (2 : Int32))) (V_b1 : Arv Z hh b1 k1 .int (8 : Int32) [(.int x12), (.int x13), (.int (0 : Int32)), (.int (0 : Int32)), (.int (0 : Int32)), (.int (0 : Int32)), (.int (0 : Int32)), (.int (0 : Int32))] (.int (0 : Int32))) (V_b2 : Arv Z hh b2 k2 .long (8 : Int32) [(.long q3), (.long q4), (.long (0 : Int64)), (.long (0 : Int64)), (.long (0 : Int64)), (.long (0 : Int64)), (.long (0 : Int64)), (.long (0 : Int64))] (.long (0 : Int64))) (hl1 : x12 < x13) (hl2 : x13 < x14) :
    own_Run p e below (fun o U' => ∃ v L, o = .returned v ∧ Q0 Z p1 p2 q3 q4 q5 p6 h0 n0 v U'.heap L ∧ FrameEnd s o U' L room_1.cells room_1.slots) T0 (mkF m 197 #[.val (.int p1), .val (.int p2), .val (.long q3), .second, .val (.long q4), .second, .val (.long q5), .second, .val (.int p6), .val (.int (2 : Int32)), .val (.int x10), .val (.int x11), .val (.int x12), .val (.int x13), .val (.int x14), .val (.ref o), .val (.int x16), .val (.int y), .unset, .unset] []) := by
  have W := fun (k : Nat) {d : Jvm.Cond} (h : tables_1[k]? = some d) => hw d (List.mem_of_getElem? h)
  show own_Run p e below _ T0 (mkF m 197 #[.val (.int p1), .val (.int p2), .val (.long q3), .second, .val (.long q4), .second, .val (.long q5), .second, .val (.int p6), .val (.int (2 : Int32)), .val (.int x10), .val (.int x11), .val (.int x12), .val (.int x13), .val (.int x14), .val (.ref o), .val (.int x16), .val (.int y), .unset, .unset] [])
  show own_Run p e below _ T0 (mkF m 197 #[.val (.int p1), .val (.int p2), .val (.long q3), .second, .val (.long q4), .second, .val (.long q5), .second, .val (.int p6), .val (.int (2 : Int32)), .val (.int x10), .val (.int x11), .val (.int x12), .val (.int x13), .val (.int x14), .val (.ref o), .val (.int x16), .val (.int y), .unset, .unset] [])
  rcases own_tri x12 y with hk0 | hk0 | hk0
  · rcases own_tri x13 y with hk1 | hk1 | hk1
    · refine own_go (fun _ k => XS.lconst X0.here hx rfl (hb hby at_197) k) ?_
      refine own_go (fun _ k => XS.lstore X0.here hx rfl (hb hby at_198) rfl (l' := #[.val (.int p1), .val (.int p2), .val (.long q3), .second, .val (.long q4), .second, .val (.long q5), .second, .val (.int p6), .val (.int (2 : Int32)), .val (.int x10), .val (.int x11), .val (.int x12), .val (.int x13), .val (.int x14), .val (.ref o), .val (.int x16), .val (.int y), .val (.long (0 : Int64)), .second]) rfl k) ?_
      refine own_go (fun _ k => XS.iload X0.here hx rfl (hb hby at_200) rfl k) ?_
      refine own_go (fun _ k => XS.iconst X0.here hx rfl (hb hby at_202) k) ?_
      show own_Run p e below _ T0 (mkF m 203 #[.val (.int p1), .val (.int p2), .val (.long q3), .second, .val (.long q4), .second, .val (.long q5), .second, .val (.int p6), .val (.int (2 : Int32)), .val (.int x10), .val (.int x11), .val (.int x12), .val (.int x13), .val (.int x14), .val (.ref o), .val (.int x16), .val (.int y), .val (.long (0 : Int64)), .second] [(.int (1 : Int32)), (.int (2 : Int32))])
      refine own_go (fun _ k => XS.icmpNo X0.here hx rfl (hb hby at_203) rfl (flt (by decide : ¬ ((2 : Int32) < (1 : Int32)))).1 k) ?_
      show own_Run p e below _ T0 (mkF m 206 #[.val (.int p1), .val (.int p2), .val (.long q3), .second, .val (.long q4), .second, .val (.long q5), .second, .val (.int p6), .val (.int (2 : Int32)), .val (.int x10), .val (.int x11), .val (.int x12), .val (.int x13), .val (.int x14), .val (.ref o), .val (.int x16), .val (.int y), .val (.long (0 : Int64)), .second] [])
      refine own_go (fun _ k => XS.iload X0.here hx rfl (hb hby at_206) rfl k) ?_
      refine own_go (fun _ k => XS.iload X0.here hx rfl (hb hby at_208) rfl k) ?_
      show own_Run p e below _ T0 (mkF m 210 #[.val (.int p1), .val (.int p2), .val (.long q3), .second, .val (.long q4), .second, .val (.long q5), .second, .val (.int p6), .val (.int (2 : Int32)), .val (.int x10), .val (.int x11), .val (.int x12), .val (.int x13), .val (.int x14), .val (.ref o), .val (.int x16), .val (.int y), .val (.long (0 : Int64)), .second] [(.int x12), (.int y)])
      refine own_go (fun _ k => XS.icmpYes X0.here hx rfl (pc0 := 210) (pc' := 216) rfl (hb hby at_210) rfl (feq (own_neL hk0 : ¬ (y = x12))).2 (by decide) (by decide) k) ?_
      show own_Run p e below _ T0 (mkF m 216 #[.val (.int p1), .val (.int p2), .val (.long q3), .second, .val (.long q4), .second, .val (.long q5), .second, .val (.int p6), .val (.int (2 : Int32)), .val (.int x10), .val (.int x11), .val (.int x12), .val (.int x13), .val (.int x14), .val (.ref o), .val (.int x16), .val (.int y), .val (.long (0 : Int64)), .second] [])
      refine own_go (fun _ k => XS.iload X0.here hx rfl (hb hby at_216) rfl k) ?_
      refine own_go (fun _ k => XS.iconst X0.here hx rfl (hb hby at_218) k) ?_
      show own_Run p e below _ T0 (mkF m 219 #[.val (.int p1), .val (.int p2), .val (.long q3), .second, .val (.long q4), .second, .val (.long q5), .second, .val (.int p6), .val (.int (2 : Int32)), .val (.int x10), .val (.int x11), .val (.int x12), .val (.int x13), .val (.int x14), .val (.ref o), .val (.int x16), .val (.int y), .val (.long (0 : Int64)), .second] [(.int (2 : Int32)), (.int (2 : Int32))])
      refine own_go (fun _ k => XS.icmpNo X0.here hx rfl (hb hby at_219) rfl (flt (by decide : ¬ ((2 : Int32) < (2 : Int32)))).1 k) ?_
      show own_Run p e below _ T0 (mkF m 222 #[.val (.int p1), .val (.int p2), .val (.long q3), .second, .val (.long q4), .second, .val (.long q5), .second, .val (.int p6), .val (.int (2 : Int32)), .val (.int x10), .val (.int x11), .val (.int x12), .val (.int x13), .val (.int x14), .val (.ref o), .val (.int x16), .val (.int y), .val (.long (0 : Int64)), .second] [])
      refine own_go (fun _ k => XS.iload X0.here hx rfl (hb hby at_222) rfl k) ?_
      refine own_go (fun _ k => XS.iload X0.here hx rfl (hb hby at_224) rfl k) ?_
      show own_Run p e below _ T0 (mkF m 226 #[.val (.int p1), .val (.int p2), .val (.long q3), .second, .val (.long q4), .second, .val (.long q5), .second, .val (.int p6), .val (.int (2 : Int32)), .val (.int x10), .val (.int x11), .val (.int x12), .val (.int x13), .val (.int x14), .val (.ref o), .val (.int x16), .val (.int y), .val (.long (0 : Int64)), .second] [(.int x13), (.int y)])
      refine own_go (fun _ k => XS.icmpYes X0.here hx rfl (pc0 := 226) (pc' := 233) rfl (hb hby at_226) rfl (feq (own_neL hk1 : ¬ (y = x13))).2 (by decide) (by decide) k) ?_
      show own_Run p e below _ T0 (mkF m 233 #[.val (.int p1), .val (.int p2), .val (.long q3), .second, .val (.long q4), .second, .val (.long q5), .second, .val (.int p6), .val (.int (2 : Int32)), .val (.int x10), .val (.int x11), .val (.int x12), .val (.int x13), .val (.int x14), .val (.ref o), .val (.int x16), .val (.int y), .val (.long (0 : Int64)), .second] [])
      refine own_go (fun _ k => XS.iload X0.here hx rfl (hb hby at_233) rfl k) ?_
      refine own_go (fun _ k => XS.iconst X0.here hx rfl (hb hby at_235) k) ?_
      show own_Run p e below _ T0 (mkF m 236 #[.val (.int p1), .val (.int p2), .val (.long q3), .second, .val (.long q4), .second, .val (.long q5), .second, .val (.int p6), .val (.int (2 : Int32)), .val (.int x10), .val (.int x11), .val (.int x12), .val (.int x13), .val (.int x14), .val (.ref o), .val (.int x16), .val (.int y), .val (.long (0 : Int64)), .second] [(.int (3 : Int32)), (.int (2 : Int32))])
      refine own_go (fun _ k => XS.icmpYes X0.here hx rfl (pc0 := 236) (pc' := 250) rfl (hb hby at_236) rfl (tlt (by decide : (2 : Int32) < (3 : Int32))).1 (by decide) (by decide) k) ?_
      show own_Run p e below _ T0 (mkF m 250 #[.val (.int p1), .val (.int p2), .val (.long q3), .second, .val (.long q4), .second, .val (.long q5), .second, .val (.int p6), .val (.int (2 : Int32)), .val (.int x10), .val (.int x11), .val (.int x12), .val (.int x13), .val (.int x14), .val (.ref o), .val (.int x16), .val (.int y), .val (.long (0 : Int64)), .second] [])
      refine own_go (fun _ k => XS.aload X0.here hx rfl (hb hby at_250) rfl rfl k) ?_
      refine own_go (fun _ k => XS.iload X0.here hx rfl (hb hby at_252) rfl k) ?_
      show own_Run p e below _ T0 (mkF m 254 #[.val (.int p1), .val (.int p2), .val (.long q3), .second, .val (.long q4), .second, .val (.long q5), .second, .val (.int p6), .val (.int (2 : Int32)), .val (.int x10), .val (.int x11), .val (.int x12), .val (.int x13), .val (.int x14), .val (.ref o), .val (.int x16), .val (.int y), .val (.long (0 : Int64)), .second] [(.int y), (.ref o)])
      obtain ⟨cq159, kq159, q159a, q159b, q159c⟩ := isOf hZ e0 E_o
      obtain ⟨_, _, ⟨T159, L159, k159, n159⟩, -, X159, ⟨Lc159, hQ159, l159, y159, z159⟩, st159⟩ := X0.virtualBack hx (y := (⟨"com/example/net_reducer/netreducer/analysis/Marking", "tokensOn", "(I)J"⟩ : MethodName)) (z := (⟨"com/example/net_reducer/netreducer/analysis/Marking", "tokensOn", "(I)J"⟩ : MethodName)) hown (mvT hZ (W 27 rfl)) (mvT hZ (W 28 rfl)) (notFace_of_selects (args := #[]) (mvT hZ (W 30 rfl))) (mvT hZ (W 30 rfl)) (mvT hZ (W 29 rfl)) (by decide) (backOf (W := 0) (rm5n2 l Z a0 hw [] o y b1 b2 k1 k2 x12 x13 (0 : Int32) (0 : Int32) (0 : Int32) (0 : Int32) (0 : Int32) (0 : Int32) q3 q4 (0 : Int64) (0 : Int64) (0 : Int64) (0 : Int64) (0 : Int64) (0 : Int64) (0 : Int64) hh n0 Z0 E_o F_places_o F_tokens_o F_size_o V_b1 V_b2 (Or.inr (Or.inr (Or.inr (Or.inr (⟨hk0, hk1, rfl⟩)))))) hZ (W 31 rfl) (W 7 rfl) (by decide) (by decide)) q159a q159c (g := (mkF m 254 #[.val (.int p1), .val (.int p2), .val (.long q3), .second, .val (.long q4), .second, .val (.long q5), .second, .val (.int p6), .val (.int (2 : Int32)), .val (.int x10), .val (.int x11), .val (.int x12), .val (.int x13), .val (.int x14), .val (.ref o), .val (.int x16), .val (.int y), .val (.long (0 : Int64)), .second] [(.int y), (.ref o)])) rfl (by rw [hml]; rfl) (Steps.refl _) (argsL := [(.int y)]) (rest := []) (lenOf pd_3 rfl) rfl (by show 2 * 0 + _ ≤ _; exact Nat.le_of_eq rfl) (hb hby at_254) (fun _ _ => ⟨rfl, e0, (by decide : 3 + 0 ≤ _), (by decide : 19 + 0 ≤ _)⟩)
      dsimp only [Pt.U, Pt.locs, Pt.cells, Pt.slots] at X159 l159 y159 z159 st159 hQ159
      subst l159 y159 z159
      obtain ⟨rfl, N159q, e159⟩ := hQ159
      have N159 := Fr.app N0 N159q
      refine own_goT st159 ?_
      show own_Run p e below _ T159 (mkF m 257 #[.val (.int p1), .val (.int p2), .val (.long q3), .second, .val (.long q4), .second, .val (.long q5), .second, .val (.int p6), .val (.int (2 : Int32)), .val (.int x10), .val (.int x11), .val (.int x12), .val (.int x13), .val (.int x14), .val (.ref o), .val (.int x16), .val (.int y), .val (.long (0 : Int64)), .second] [(.long (0 : Int64))])
      refine own_go (fun _ k => XS.lload X159.here hx rfl (hb hby at_257) rfl k) ?_
      refine own_go (fun _ k => XS.lcmp X159.here hx rfl (hb hby at_259) rfl k) ?_
      show own_Run p e below _ T159 (mkF m 260 #[.val (.int p1), .val (.int p2), .val (.long q3), .second, .val (.long q4), .second, .val (.long q5), .second, .val (.int p6), .val (.int (2 : Int32)), .val (.int x10), .val (.int x11), .val (.int x12), .val (.int x13), .val (.int x14), .val (.ref o), .val (.int x16), .val (.int y), .val (.long (0 : Int64)), .second] [(.int (lcmpW (0 : Int64) (0 : Int64)))])
      refine own_go (fun _ k => XS.ifNo X159.here hx rfl (hb hby at_260) rfl (own_lcTe (by decide : (0 : Int64) = (0 : Int64))).2 k) ?_
      show own_Run p e below _ T159 (mkF m 263 #[.val (.int p1), .val (.int p2), .val (.long q3), .second, .val (.long q4), .second, .val (.long q5), .second, .val (.int p6), .val (.int (2 : Int32)), .val (.int x10), .val (.int x11), .val (.int x12), .val (.int x13), .val (.int x14), .val (.ref o), .val (.int x16), .val (.int y), .val (.long (0 : Int64)), .second] [])
      refine own_go (fun _ k => XS.iconst X159.here hx rfl (hb hby at_263) k) ?_
      refine own_go (fun _ k => XS.goto X159.here hx rfl (pc0 := 264) (pc' := 268) rfl (hb hby at_264) (by decide) (by decide) k) ?_
      show own_Run p e below _ T159 (mkF m 268 #[.val (.int p1), .val (.int p2), .val (.long q3), .second, .val (.long q4), .second, .val (.long q5), .second, .val (.int p6), .val (.int (2 : Int32)), .val (.int x10), .val (.int x11), .val (.int x12), .val (.int x13), .val (.int x14), .val (.ref o), .val (.int x16), .val (.int y), .val (.long (0 : Int64)), .second] [(.int (1 : Int32))])
      refine own_done (Q := fun v h L => Q0 Z p1 p2 q3 q4 q5 p6 h0 n0 v h L) (v := (some (.int (1 : Int32)))) X159 (fun h => by rw [hret] at h; cases h) hlk (fun fs hr => retN X159 hx (t := .boolean) hret (by simp) (hb hby at_268) hr) ?_ (by decide) (by decide)
      show Q0 Z p1 p2 q3 q4 q5 p6 h0 n0 _ T159.heap _
      rw [e159]
      exact ⟨rfl, N159⟩
    · refine own_go (fun _ k => XS.lconst X0.here hx rfl (hb hby at_197) k) ?_
      refine own_go (fun _ k => XS.lstore X0.here hx rfl (hb hby at_198) rfl (l' := #[.val (.int p1), .val (.int p2), .val (.long q3), .second, .val (.long q4), .second, .val (.long q5), .second, .val (.int p6), .val (.int (2 : Int32)), .val (.int x10), .val (.int x11), .val (.int x12), .val (.int x13), .val (.int x14), .val (.ref o), .val (.int x16), .val (.int y), .val (.long (0 : Int64)), .second]) rfl k) ?_
      refine own_go (fun _ k => XS.iload X0.here hx rfl (hb hby at_200) rfl k) ?_
      refine own_go (fun _ k => XS.iconst X0.here hx rfl (hb hby at_202) k) ?_
      show own_Run p e below _ T0 (mkF m 203 #[.val (.int p1), .val (.int p2), .val (.long q3), .second, .val (.long q4), .second, .val (.long q5), .second, .val (.int p6), .val (.int (2 : Int32)), .val (.int x10), .val (.int x11), .val (.int x12), .val (.int x13), .val (.int x14), .val (.ref o), .val (.int x16), .val (.int y), .val (.long (0 : Int64)), .second] [(.int (1 : Int32)), (.int (2 : Int32))])
      refine own_go (fun _ k => XS.icmpNo X0.here hx rfl (hb hby at_203) rfl (flt (by decide : ¬ ((2 : Int32) < (1 : Int32)))).1 k) ?_
      show own_Run p e below _ T0 (mkF m 206 #[.val (.int p1), .val (.int p2), .val (.long q3), .second, .val (.long q4), .second, .val (.long q5), .second, .val (.int p6), .val (.int (2 : Int32)), .val (.int x10), .val (.int x11), .val (.int x12), .val (.int x13), .val (.int x14), .val (.ref o), .val (.int x16), .val (.int y), .val (.long (0 : Int64)), .second] [])
      refine own_go (fun _ k => XS.iload X0.here hx rfl (hb hby at_206) rfl k) ?_
      refine own_go (fun _ k => XS.iload X0.here hx rfl (hb hby at_208) rfl k) ?_
      show own_Run p e below _ T0 (mkF m 210 #[.val (.int p1), .val (.int p2), .val (.long q3), .second, .val (.long q4), .second, .val (.long q5), .second, .val (.int p6), .val (.int (2 : Int32)), .val (.int x10), .val (.int x11), .val (.int x12), .val (.int x13), .val (.int x14), .val (.ref o), .val (.int x16), .val (.int y), .val (.long (0 : Int64)), .second] [(.int x12), (.int y)])
      refine own_go (fun _ k => XS.icmpYes X0.here hx rfl (pc0 := 210) (pc' := 216) rfl (hb hby at_210) rfl (feq (own_neL hk0 : ¬ (y = x12))).2 (by decide) (by decide) k) ?_
      show own_Run p e below _ T0 (mkF m 216 #[.val (.int p1), .val (.int p2), .val (.long q3), .second, .val (.long q4), .second, .val (.long q5), .second, .val (.int p6), .val (.int (2 : Int32)), .val (.int x10), .val (.int x11), .val (.int x12), .val (.int x13), .val (.int x14), .val (.ref o), .val (.int x16), .val (.int y), .val (.long (0 : Int64)), .second] [])
      refine own_go (fun _ k => XS.iload X0.here hx rfl (hb hby at_216) rfl k) ?_
      refine own_go (fun _ k => XS.iconst X0.here hx rfl (hb hby at_218) k) ?_
      show own_Run p e below _ T0 (mkF m 219 #[.val (.int p1), .val (.int p2), .val (.long q3), .second, .val (.long q4), .second, .val (.long q5), .second, .val (.int p6), .val (.int (2 : Int32)), .val (.int x10), .val (.int x11), .val (.int x12), .val (.int x13), .val (.int x14), .val (.ref o), .val (.int x16), .val (.int y), .val (.long (0 : Int64)), .second] [(.int (2 : Int32)), (.int (2 : Int32))])
      refine own_go (fun _ k => XS.icmpNo X0.here hx rfl (hb hby at_219) rfl (flt (by decide : ¬ ((2 : Int32) < (2 : Int32)))).1 k) ?_
      show own_Run p e below _ T0 (mkF m 222 #[.val (.int p1), .val (.int p2), .val (.long q3), .second, .val (.long q4), .second, .val (.long q5), .second, .val (.int p6), .val (.int (2 : Int32)), .val (.int x10), .val (.int x11), .val (.int x12), .val (.int x13), .val (.int x14), .val (.ref o), .val (.int x16), .val (.int y), .val (.long (0 : Int64)), .second] [])
      refine own_go (fun _ k => XS.iload X0.here hx rfl (hb hby at_222) rfl k) ?_
      refine own_go (fun _ k => XS.iload X0.here hx rfl (hb hby at_224) rfl k) ?_
      show own_Run p e below _ T0 (mkF m 226 #[.val (.int p1), .val (.int p2), .val (.long q3), .second, .val (.long q4), .second, .val (.long q5), .second, .val (.int p6), .val (.int (2 : Int32)), .val (.int x10), .val (.int x11), .val (.int x12), .val (.int x13), .val (.int x14), .val (.ref o), .val (.int x16), .val (.int y), .val (.long (0 : Int64)), .second] [(.int x13), (.int y)])
      refine own_go (fun _ k => XS.icmpNo X0.here hx rfl (hb hby at_226) rfl (teq (hk1.symm : y = x13)).2 k) ?_
      show own_Run p e below _ T0 (mkF m 229 #[.val (.int p1), .val (.int p2), .val (.long q3), .second, .val (.long q4), .second, .val (.long q5), .second, .val (.int p6), .val (.int (2 : Int32)), .val (.int x10), .val (.int x11), .val (.int x12), .val (.int x13), .val (.int x14), .val (.ref o), .val (.int x16), .val (.int y), .val (.long (0 : Int64)), .second] [])
      refine own_go (fun _ k => XS.lload X0.here hx rfl (hb hby at_229) rfl k) ?_
      refine own_go (fun _ k => XS.lstore X0.here hx rfl (hb hby at_231) rfl (l' := #[.val (.int p1), .val (.int p2), .val (.long q3), .second, .val (.long q4), .second, .val (.long q5), .second, .val (.int p6), .val (.int (2 : Int32)), .val (.int x10), .val (.int x11), .val (.int x12), .val (.int x13), .val (.int x14), .val (.ref o), .val (.int x16), .val (.int y), .val (.long q4), .second]) rfl k) ?_
      refine own_go (fun _ k => XS.iload X0.here hx rfl (hb hby at_233) rfl k) ?_
      refine own_go (fun _ k => XS.iconst X0.here hx rfl (hb hby at_235) k) ?_
      show own_Run p e below _ T0 (mkF m 236 #[.val (.int p1), .val (.int p2), .val (.long q3), .second, .val (.long q4), .second, .val (.long q5), .second, .val (.int p6), .val (.int (2 : Int32)), .val (.int x10), .val (.int x11), .val (.int x12), .val (.int x13), .val (.int x14), .val (.ref o), .val (.int x16), .val (.int y), .val (.long q4), .second] [(.int (3 : Int32)), (.int (2 : Int32))])
      refine own_go (fun _ k => XS.icmpYes X0.here hx rfl (pc0 := 236) (pc' := 250) rfl (hb hby at_236) rfl (tlt (by decide : (2 : Int32) < (3 : Int32))).1 (by decide) (by decide) k) ?_
      show own_Run p e below _ T0 (mkF m 250 #[.val (.int p1), .val (.int p2), .val (.long q3), .second, .val (.long q4), .second, .val (.long q5), .second, .val (.int p6), .val (.int (2 : Int32)), .val (.int x10), .val (.int x11), .val (.int x12), .val (.int x13), .val (.int x14), .val (.ref o), .val (.int x16), .val (.int y), .val (.long q4), .second] [])
      refine own_go (fun _ k => XS.aload X0.here hx rfl (hb hby at_250) rfl rfl k) ?_
      refine own_go (fun _ k => XS.iload X0.here hx rfl (hb hby at_252) rfl k) ?_
      show own_Run p e below _ T0 (mkF m 254 #[.val (.int p1), .val (.int p2), .val (.long q3), .second, .val (.long q4), .second, .val (.long q5), .second, .val (.int p6), .val (.int (2 : Int32)), .val (.int x10), .val (.int x11), .val (.int x12), .val (.int x13), .val (.int x14), .val (.ref o), .val (.int x16), .val (.int y), .val (.long q4), .second] [(.int y), (.ref o)])
      obtain ⟨cq160, kq160, q160a, q160b, q160c⟩ := isOf hZ e0 E_o
      obtain ⟨_, _, ⟨T160, L160, k160, n160⟩, -, X160, ⟨Lc160, hQ160, l160, y160, z160⟩, st160⟩ := X0.virtualBack hx (y := (⟨"com/example/net_reducer/netreducer/analysis/Marking", "tokensOn", "(I)J"⟩ : MethodName)) (z := (⟨"com/example/net_reducer/netreducer/analysis/Marking", "tokensOn", "(I)J"⟩ : MethodName)) hown (mvT hZ (W 27 rfl)) (mvT hZ (W 28 rfl)) (notFace_of_selects (args := #[]) (mvT hZ (W 30 rfl))) (mvT hZ (W 30 rfl)) (mvT hZ (W 29 rfl)) (by decide) (backOf (W := 0) (rm5n2 l Z a0 hw [] o y b1 b2 k1 k2 x12 x13 (0 : Int32) (0 : Int32) (0 : Int32) (0 : Int32) (0 : Int32) (0 : Int32) q3 q4 (0 : Int64) (0 : Int64) (0 : Int64) (0 : Int64) (0 : Int64) (0 : Int64) q4 hh n0 Z0 E_o F_places_o F_tokens_o F_size_o V_b1 V_b2 (Or.inr (Or.inr (Or.inl ⟨hk0, hk1, rfl⟩)))) hZ (W 31 rfl) (W 7 rfl) (by decide) (by decide)) q160a q160c (g := (mkF m 254 #[.val (.int p1), .val (.int p2), .val (.long q3), .second, .val (.long q4), .second, .val (.long q5), .second, .val (.int p6), .val (.int (2 : Int32)), .val (.int x10), .val (.int x11), .val (.int x12), .val (.int x13), .val (.int x14), .val (.ref o), .val (.int x16), .val (.int y), .val (.long q4), .second] [(.int y), (.ref o)])) rfl (by rw [hml]; rfl) (Steps.refl _) (argsL := [(.int y)]) (rest := []) (lenOf pd_3 rfl) rfl (by show 2 * 0 + _ ≤ _; exact Nat.le_of_eq rfl) (hb hby at_254) (fun _ _ => ⟨rfl, e0, (by decide : 3 + 0 ≤ _), (by decide : 19 + 0 ≤ _)⟩)
      dsimp only [Pt.U, Pt.locs, Pt.cells, Pt.slots] at X160 l160 y160 z160 st160 hQ160
      subst l160 y160 z160
      obtain ⟨rfl, N160q, e160⟩ := hQ160
      have N160 := Fr.app N0 N160q
      refine own_goT st160 ?_
      show own_Run p e below _ T160 (mkF m 257 #[.val (.int p1), .val (.int p2), .val (.long q3), .second, .val (.long q4), .second, .val (.long q5), .second, .val (.int p6), .val (.int (2 : Int32)), .val (.int x10), .val (.int x11), .val (.int x12), .val (.int x13), .val (.int x14), .val (.ref o), .val (.int x16), .val (.int y), .val (.long q4), .second] [(.long q4)])
      refine own_go (fun _ k => XS.lload X160.here hx rfl (hb hby at_257) rfl k) ?_
      refine own_go (fun _ k => XS.lcmp X160.here hx rfl (hb hby at_259) rfl k) ?_
      show own_Run p e below _ T160 (mkF m 260 #[.val (.int p1), .val (.int p2), .val (.long q3), .second, .val (.long q4), .second, .val (.long q5), .second, .val (.int p6), .val (.int (2 : Int32)), .val (.int x10), .val (.int x11), .val (.int x12), .val (.int x13), .val (.int x14), .val (.ref o), .val (.int x16), .val (.int y), .val (.long q4), .second] [(.int (lcmpW q4 q4))])
      refine own_go (fun _ k => XS.ifNo X160.here hx rfl (hb hby at_260) rfl (own_lcTe rfl).2 k) ?_
      show own_Run p e below _ T160 (mkF m 263 #[.val (.int p1), .val (.int p2), .val (.long q3), .second, .val (.long q4), .second, .val (.long q5), .second, .val (.int p6), .val (.int (2 : Int32)), .val (.int x10), .val (.int x11), .val (.int x12), .val (.int x13), .val (.int x14), .val (.ref o), .val (.int x16), .val (.int y), .val (.long q4), .second] [])
      refine own_go (fun _ k => XS.iconst X160.here hx rfl (hb hby at_263) k) ?_
      refine own_go (fun _ k => XS.goto X160.here hx rfl (pc0 := 264) (pc' := 268) rfl (hb hby at_264) (by decide) (by decide) k) ?_
      show own_Run p e below _ T160 (mkF m 268 #[.val (.int p1), .val (.int p2), .val (.long q3), .second, .val (.long q4), .second, .val (.long q5), .second, .val (.int p6), .val (.int (2 : Int32)), .val (.int x10), .val (.int x11), .val (.int x12), .val (.int x13), .val (.int x14), .val (.ref o), .val (.int x16), .val (.int y), .val (.long q4), .second] [(.int (1 : Int32))])
      refine own_done (Q := fun v h L => Q0 Z p1 p2 q3 q4 q5 p6 h0 n0 v h L) (v := (some (.int (1 : Int32)))) X160 (fun h => by rw [hret] at h; cases h) hlk (fun fs hr => retN X160 hx (t := .boolean) hret (by simp) (hb hby at_268) hr) ?_ (by decide) (by decide)
      show Q0 Z p1 p2 q3 q4 q5 p6 h0 n0 _ T160.heap _
      rw [e160]
      exact ⟨rfl, N160⟩
    · refine own_go (fun _ k => XS.lconst X0.here hx rfl (hb hby at_197) k) ?_
      refine own_go (fun _ k => XS.lstore X0.here hx rfl (hb hby at_198) rfl (l' := #[.val (.int p1), .val (.int p2), .val (.long q3), .second, .val (.long q4), .second, .val (.long q5), .second, .val (.int p6), .val (.int (2 : Int32)), .val (.int x10), .val (.int x11), .val (.int x12), .val (.int x13), .val (.int x14), .val (.ref o), .val (.int x16), .val (.int y), .val (.long (0 : Int64)), .second]) rfl k) ?_
      refine own_go (fun _ k => XS.iload X0.here hx rfl (hb hby at_200) rfl k) ?_
      refine own_go (fun _ k => XS.iconst X0.here hx rfl (hb hby at_202) k) ?_
      show own_Run p e below _ T0 (mkF m 203 #[.val (.int p1), .val (.int p2), .val (.long q3), .second, .val (.long q4), .second, .val (.long q5), .second, .val (.int p6), .val (.int (2 : Int32)), .val (.int x10), .val (.int x11), .val (.int x12), .val (.int x13), .val (.int x14), .val (.ref o), .val (.int x16), .val (.int y), .val (.long (0 : Int64)), .second] [(.int (1 : Int32)), (.int (2 : Int32))])
      refine own_go (fun _ k => XS.icmpNo X0.here hx rfl (hb hby at_203) rfl (flt (by decide : ¬ ((2 : Int32) < (1 : Int32)))).1 k) ?_
      show own_Run p e below _ T0 (mkF m 206 #[.val (.int p1), .val (.int p2), .val (.long q3), .second, .val (.long q4), .second, .val (.long q5), .second, .val (.int p6), .val (.int (2 : Int32)), .val (.int x10), .val (.int x11), .val (.int x12), .val (.int x13), .val (.int x14), .val (.ref o), .val (.int x16), .val (.int y), .val (.long (0 : Int64)), .second] [])
      refine own_go (fun _ k => XS.iload X0.here hx rfl (hb hby at_206) rfl k) ?_
      refine own_go (fun _ k => XS.iload X0.here hx rfl (hb hby at_208) rfl k) ?_
      show own_Run p e below _ T0 (mkF m 210 #[.val (.int p1), .val (.int p2), .val (.long q3), .second, .val (.long q4), .second, .val (.long q5), .second, .val (.int p6), .val (.int (2 : Int32)), .val (.int x10), .val (.int x11), .val (.int x12), .val (.int x13), .val (.int x14), .val (.ref o), .val (.int x16), .val (.int y), .val (.long (0 : Int64)), .second] [(.int x12), (.int y)])
      refine own_go (fun _ k => XS.icmpYes X0.here hx rfl (pc0 := 210) (pc' := 216) rfl (hb hby at_210) rfl (feq (own_neL hk0 : ¬ (y = x12))).2 (by decide) (by decide) k) ?_
      show own_Run p e below _ T0 (mkF m 216 #[.val (.int p1), .val (.int p2), .val (.long q3), .second, .val (.long q4), .second, .val (.long q5), .second, .val (.int p6), .val (.int (2 : Int32)), .val (.int x10), .val (.int x11), .val (.int x12), .val (.int x13), .val (.int x14), .val (.ref o), .val (.int x16), .val (.int y), .val (.long (0 : Int64)), .second] [])
      refine own_go (fun _ k => XS.iload X0.here hx rfl (hb hby at_216) rfl k) ?_
      refine own_go (fun _ k => XS.iconst X0.here hx rfl (hb hby at_218) k) ?_
      show own_Run p e below _ T0 (mkF m 219 #[.val (.int p1), .val (.int p2), .val (.long q3), .second, .val (.long q4), .second, .val (.long q5), .second, .val (.int p6), .val (.int (2 : Int32)), .val (.int x10), .val (.int x11), .val (.int x12), .val (.int x13), .val (.int x14), .val (.ref o), .val (.int x16), .val (.int y), .val (.long (0 : Int64)), .second] [(.int (2 : Int32)), (.int (2 : Int32))])
      refine own_go (fun _ k => XS.icmpNo X0.here hx rfl (hb hby at_219) rfl (flt (by decide : ¬ ((2 : Int32) < (2 : Int32)))).1 k) ?_
      show own_Run p e below _ T0 (mkF m 222 #[.val (.int p1), .val (.int p2), .val (.long q3), .second, .val (.long q4), .second, .val (.long q5), .second, .val (.int p6), .val (.int (2 : Int32)), .val (.int x10), .val (.int x11), .val (.int x12), .val (.int x13), .val (.int x14), .val (.ref o), .val (.int x16), .val (.int y), .val (.long (0 : Int64)), .second] [])
      refine own_go (fun _ k => XS.iload X0.here hx rfl (hb hby at_222) rfl k) ?_
      refine own_go (fun _ k => XS.iload X0.here hx rfl (hb hby at_224) rfl k) ?_
      show own_Run p e below _ T0 (mkF m 226 #[.val (.int p1), .val (.int p2), .val (.long q3), .second, .val (.long q4), .second, .val (.long q5), .second, .val (.int p6), .val (.int (2 : Int32)), .val (.int x10), .val (.int x11), .val (.int x12), .val (.int x13), .val (.int x14), .val (.ref o), .val (.int x16), .val (.int y), .val (.long (0 : Int64)), .second] [(.int x13), (.int y)])
      refine own_go (fun _ k => XS.icmpYes X0.here hx rfl (pc0 := 226) (pc' := 233) rfl (hb hby at_226) rfl (feq (own_neR hk1 : ¬ (y = x13))).2 (by decide) (by decide) k) ?_
      show own_Run p e below _ T0 (mkF m 233 #[.val (.int p1), .val (.int p2), .val (.long q3), .second, .val (.long q4), .second, .val (.long q5), .second, .val (.int p6), .val (.int (2 : Int32)), .val (.int x10), .val (.int x11), .val (.int x12), .val (.int x13), .val (.int x14), .val (.ref o), .val (.int x16), .val (.int y), .val (.long (0 : Int64)), .second] [])
      refine own_go (fun _ k => XS.iload X0.here hx rfl (hb hby at_233) rfl k) ?_
      refine own_go (fun _ k => XS.iconst X0.here hx rfl (hb hby at_235) k) ?_
      show own_Run p e below _ T0 (mkF m 236 #[.val (.int p1), .val (.int p2), .val (.long q3), .second, .val (.long q4), .second, .val (.long q5), .second, .val (.int p6), .val (.int (2 : Int32)), .val (.int x10), .val (.int x11), .val (.int x12), .val (.int x13), .val (.int x14), .val (.ref o), .val (.int x16), .val (.int y), .val (.long (0 : Int64)), .second] [(.int (3 : Int32)), (.int (2 : Int32))])
      refine own_go (fun _ k => XS.icmpYes X0.here hx rfl (pc0 := 236) (pc' := 250) rfl (hb hby at_236) rfl (tlt (by decide : (2 : Int32) < (3 : Int32))).1 (by decide) (by decide) k) ?_
      show own_Run p e below _ T0 (mkF m 250 #[.val (.int p1), .val (.int p2), .val (.long q3), .second, .val (.long q4), .second, .val (.long q5), .second, .val (.int p6), .val (.int (2 : Int32)), .val (.int x10), .val (.int x11), .val (.int x12), .val (.int x13), .val (.int x14), .val (.ref o), .val (.int x16), .val (.int y), .val (.long (0 : Int64)), .second] [])
      refine own_go (fun _ k => XS.aload X0.here hx rfl (hb hby at_250) rfl rfl k) ?_
      refine own_go (fun _ k => XS.iload X0.here hx rfl (hb hby at_252) rfl k) ?_
      show own_Run p e below _ T0 (mkF m 254 #[.val (.int p1), .val (.int p2), .val (.long q3), .second, .val (.long q4), .second, .val (.long q5), .second, .val (.int p6), .val (.int (2 : Int32)), .val (.int x10), .val (.int x11), .val (.int x12), .val (.int x13), .val (.int x14), .val (.ref o), .val (.int x16), .val (.int y), .val (.long (0 : Int64)), .second] [(.int y), (.ref o)])
      obtain ⟨cq161, kq161, q161a, q161b, q161c⟩ := isOf hZ e0 E_o
      obtain ⟨_, _, ⟨T161, L161, k161, n161⟩, -, X161, ⟨Lc161, hQ161, l161, y161, z161⟩, st161⟩ := X0.virtualBack hx (y := (⟨"com/example/net_reducer/netreducer/analysis/Marking", "tokensOn", "(I)J"⟩ : MethodName)) (z := (⟨"com/example/net_reducer/netreducer/analysis/Marking", "tokensOn", "(I)J"⟩ : MethodName)) hown (mvT hZ (W 27 rfl)) (mvT hZ (W 28 rfl)) (notFace_of_selects (args := #[]) (mvT hZ (W 30 rfl))) (mvT hZ (W 30 rfl)) (mvT hZ (W 29 rfl)) (by decide) (backOf (W := 0) (rm5n2 l Z a0 hw [] o y b1 b2 k1 k2 x12 x13 (0 : Int32) (0 : Int32) (0 : Int32) (0 : Int32) (0 : Int32) (0 : Int32) q3 q4 (0 : Int64) (0 : Int64) (0 : Int64) (0 : Int64) (0 : Int64) (0 : Int64) (0 : Int64) hh n0 Z0 E_o F_places_o F_tokens_o F_size_o V_b1 V_b2 (Or.inr (Or.inr (Or.inr (Or.inl ⟨hk0, hk1, rfl⟩))))) hZ (W 31 rfl) (W 7 rfl) (by decide) (by decide)) q161a q161c (g := (mkF m 254 #[.val (.int p1), .val (.int p2), .val (.long q3), .second, .val (.long q4), .second, .val (.long q5), .second, .val (.int p6), .val (.int (2 : Int32)), .val (.int x10), .val (.int x11), .val (.int x12), .val (.int x13), .val (.int x14), .val (.ref o), .val (.int x16), .val (.int y), .val (.long (0 : Int64)), .second] [(.int y), (.ref o)])) rfl (by rw [hml]; rfl) (Steps.refl _) (argsL := [(.int y)]) (rest := []) (lenOf pd_3 rfl) rfl (by show 2 * 0 + _ ≤ _; exact Nat.le_of_eq rfl) (hb hby at_254) (fun _ _ => ⟨rfl, e0, (by decide : 3 + 0 ≤ _), (by decide : 19 + 0 ≤ _)⟩)
      dsimp only [Pt.U, Pt.locs, Pt.cells, Pt.slots] at X161 l161 y161 z161 st161 hQ161
      subst l161 y161 z161
      obtain ⟨rfl, N161q, e161⟩ := hQ161
      have N161 := Fr.app N0 N161q
      refine own_goT st161 ?_
      show own_Run p e below _ T161 (mkF m 257 #[.val (.int p1), .val (.int p2), .val (.long q3), .second, .val (.long q4), .second, .val (.long q5), .second, .val (.int p6), .val (.int (2 : Int32)), .val (.int x10), .val (.int x11), .val (.int x12), .val (.int x13), .val (.int x14), .val (.ref o), .val (.int x16), .val (.int y), .val (.long (0 : Int64)), .second] [(.long (0 : Int64))])
      refine own_go (fun _ k => XS.lload X161.here hx rfl (hb hby at_257) rfl k) ?_
      refine own_go (fun _ k => XS.lcmp X161.here hx rfl (hb hby at_259) rfl k) ?_
      show own_Run p e below _ T161 (mkF m 260 #[.val (.int p1), .val (.int p2), .val (.long q3), .second, .val (.long q4), .second, .val (.long q5), .second, .val (.int p6), .val (.int (2 : Int32)), .val (.int x10), .val (.int x11), .val (.int x12), .val (.int x13), .val (.int x14), .val (.ref o), .val (.int x16), .val (.int y), .val (.long (0 : Int64)), .second] [(.int (lcmpW (0 : Int64) (0 : Int64)))])
      refine own_go (fun _ k => XS.ifNo X161.here hx rfl (hb hby at_260) rfl (own_lcTe (by decide : (0 : Int64) = (0 : Int64))).2 k) ?_
      show own_Run p e below _ T161 (mkF m 263 #[.val (.int p1), .val (.int p2), .val (.long q3), .second, .val (.long q4), .second, .val (.long q5), .second, .val (.int p6), .val (.int (2 : Int32)), .val (.int x10), .val (.int x11), .val (.int x12), .val (.int x13), .val (.int x14), .val (.ref o), .val (.int x16), .val (.int y), .val (.long (0 : Int64)), .second] [])
      refine own_go (fun _ k => XS.iconst X161.here hx rfl (hb hby at_263) k) ?_
      refine own_go (fun _ k => XS.goto X161.here hx rfl (pc0 := 264) (pc' := 268) rfl (hb hby at_264) (by decide) (by decide) k) ?_
      show own_Run p e below _ T161 (mkF m 268 #[.val (.int p1), .val (.int p2), .val (.long q3), .second, .val (.long q4), .second, .val (.long q5), .second, .val (.int p6), .val (.int (2 : Int32)), .val (.int x10), .val (.int x11), .val (.int x12), .val (.int x13), .val (.int x14), .val (.ref o), .val (.int x16), .val (.int y), .val (.long (0 : Int64)), .second] [(.int (1 : Int32))])
      refine own_done (Q := fun v h L => Q0 Z p1 p2 q3 q4 q5 p6 h0 n0 v h L) (v := (some (.int (1 : Int32)))) X161 (fun h => by rw [hret] at h; cases h) hlk (fun fs hr => retN X161 hx (t := .boolean) hret (by simp) (hb hby at_268) hr) ?_ (by decide) (by decide)
      show Q0 Z p1 p2 q3 q4 q5 p6 h0 n0 _ T161.heap _
      rw [e161]
      exact ⟨rfl, N161⟩
  · have hk1 : y < x13 := (hk0 ▸ hl1)
    refine own_go (fun _ k => XS.lconst X0.here hx rfl (hb hby at_197) k) ?_
    refine own_go (fun _ k => XS.lstore X0.here hx rfl (hb hby at_198) rfl (l' := #[.val (.int p1), .val (.int p2), .val (.long q3), .second, .val (.long q4), .second, .val (.long q5), .second, .val (.int p6), .val (.int (2 : Int32)), .val (.int x10), .val (.int x11), .val (.int x12), .val (.int x13), .val (.int x14), .val (.ref o), .val (.int x16), .val (.int y), .val (.long (0 : Int64)), .second]) rfl k) ?_
    refine own_go (fun _ k => XS.iload X0.here hx rfl (hb hby at_200) rfl k) ?_
    refine own_go (fun _ k => XS.iconst X0.here hx rfl (hb hby at_202) k) ?_
    show own_Run p e below _ T0 (mkF m 203 #[.val (.int p1), .val (.int p2), .val (.long q3), .second, .val (.long q4), .second, .val (.long q5), .second, .val (.int p6), .val (.int (2 : Int32)), .val (.int x10), .val (.int x11), .val (.int x12), .val (.int x13), .val (.int x14), .val (.ref o), .val (.int x16), .val (.int y), .val (.long (0 : Int64)), .second] [(.int (1 : Int32)), (.int (2 : Int32))])
    refine own_go (fun _ k => XS.icmpNo X0.here hx rfl (hb hby at_203) rfl (flt (by decide : ¬ ((2 : Int32) < (1 : Int32)))).1 k) ?_
    show own_Run p e below _ T0 (mkF m 206 #[.val (.int p1), .val (.int p2), .val (.long q3), .second, .val (.long q4), .second, .val (.long q5), .second, .val (.int p6), .val (.int (2 : Int32)), .val (.int x10), .val (.int x11), .val (.int x12), .val (.int x13), .val (.int x14), .val (.ref o), .val (.int x16), .val (.int y), .val (.long (0 : Int64)), .second] [])
    refine own_go (fun _ k => XS.iload X0.here hx rfl (hb hby at_206) rfl k) ?_
    refine own_go (fun _ k => XS.iload X0.here hx rfl (hb hby at_208) rfl k) ?_
    show own_Run p e below _ T0 (mkF m 210 #[.val (.int p1), .val (.int p2), .val (.long q3), .second, .val (.long q4), .second, .val (.long q5), .second, .val (.int p6), .val (.int (2 : Int32)), .val (.int x10), .val (.int x11), .val (.int x12), .val (.int x13), .val (.int x14), .val (.ref o), .val (.int x16), .val (.int y), .val (.long (0 : Int64)), .second] [(.int x12), (.int y)])
    refine own_go (fun _ k => XS.icmpNo X0.here hx rfl (hb hby at_210) rfl (teq (hk0.symm : y = x12)).2 k) ?_
    show own_Run p e below _ T0 (mkF m 213 #[.val (.int p1), .val (.int p2), .val (.long q3), .second, .val (.long q4), .second, .val (.long q5), .second, .val (.int p6), .val (.int (2 : Int32)), .val (.int x10), .val (.int x11), .val (.int x12), .val (.int x13), .val (.int x14), .val (.ref o), .val (.int x16), .val (.int y), .val (.long (0 : Int64)), .second] [])
    refine own_go (fun _ k => XS.lloadN X0.here hx rfl (hb hby at_213) rfl k) ?_
    refine own_go (fun _ k => XS.lstore X0.here hx rfl (hb hby at_214) rfl (l' := #[.val (.int p1), .val (.int p2), .val (.long q3), .second, .val (.long q4), .second, .val (.long q5), .second, .val (.int p6), .val (.int (2 : Int32)), .val (.int x10), .val (.int x11), .val (.int x12), .val (.int x13), .val (.int x14), .val (.ref o), .val (.int x16), .val (.int y), .val (.long q3), .second]) rfl k) ?_
    refine own_go (fun _ k => XS.iload X0.here hx rfl (hb hby at_216) rfl k) ?_
    refine own_go (fun _ k => XS.iconst X0.here hx rfl (hb hby at_218) k) ?_
    show own_Run p e below _ T0 (mkF m 219 #[.val (.int p1), .val (.int p2), .val (.long q3), .second, .val (.long q4), .second, .val (.long q5), .second, .val (.int p6), .val (.int (2 : Int32)), .val (.int x10), .val (.int x11), .val (.int x12), .val (.int x13), .val (.int x14), .val (.ref o), .val (.int x16), .val (.int y), .val (.long q3), .second] [(.int (2 : Int32)), (.int (2 : Int32))])
    refine own_go (fun _ k => XS.icmpNo X0.here hx rfl (hb hby at_219) rfl (flt (by decide : ¬ ((2 : Int32) < (2 : Int32)))).1 k) ?_
    show own_Run p e below _ T0 (mkF m 222 #[.val (.int p1), .val (.int p2), .val (.long q3), .second, .val (.long q4), .second, .val (.long q5), .second, .val (.int p6), .val (.int (2 : Int32)), .val (.int x10), .val (.int x11), .val (.int x12), .val (.int x13), .val (.int x14), .val (.ref o), .val (.int x16), .val (.int y), .val (.long q3), .second] [])
    refine own_go (fun _ k => XS.iload X0.here hx rfl (hb hby at_222) rfl k) ?_
    refine own_go (fun _ k => XS.iload X0.here hx rfl (hb hby at_224) rfl k) ?_
    show own_Run p e below _ T0 (mkF m 226 #[.val (.int p1), .val (.int p2), .val (.long q3), .second, .val (.long q4), .second, .val (.long q5), .second, .val (.int p6), .val (.int (2 : Int32)), .val (.int x10), .val (.int x11), .val (.int x12), .val (.int x13), .val (.int x14), .val (.ref o), .val (.int x16), .val (.int y), .val (.long q3), .second] [(.int x13), (.int y)])
    refine own_go (fun _ k => XS.icmpYes X0.here hx rfl (pc0 := 226) (pc' := 233) rfl (hb hby at_226) rfl (feq (own_neR hk1 : ¬ (y = x13))).2 (by decide) (by decide) k) ?_
    show own_Run p e below _ T0 (mkF m 233 #[.val (.int p1), .val (.int p2), .val (.long q3), .second, .val (.long q4), .second, .val (.long q5), .second, .val (.int p6), .val (.int (2 : Int32)), .val (.int x10), .val (.int x11), .val (.int x12), .val (.int x13), .val (.int x14), .val (.ref o), .val (.int x16), .val (.int y), .val (.long q3), .second] [])
    refine own_go (fun _ k => XS.iload X0.here hx rfl (hb hby at_233) rfl k) ?_
    refine own_go (fun _ k => XS.iconst X0.here hx rfl (hb hby at_235) k) ?_
    show own_Run p e below _ T0 (mkF m 236 #[.val (.int p1), .val (.int p2), .val (.long q3), .second, .val (.long q4), .second, .val (.long q5), .second, .val (.int p6), .val (.int (2 : Int32)), .val (.int x10), .val (.int x11), .val (.int x12), .val (.int x13), .val (.int x14), .val (.ref o), .val (.int x16), .val (.int y), .val (.long q3), .second] [(.int (3 : Int32)), (.int (2 : Int32))])
    refine own_go (fun _ k => XS.icmpYes X0.here hx rfl (pc0 := 236) (pc' := 250) rfl (hb hby at_236) rfl (tlt (by decide : (2 : Int32) < (3 : Int32))).1 (by decide) (by decide) k) ?_
    show own_Run p e below _ T0 (mkF m 250 #[.val (.int p1), .val (.int p2), .val (.long q3), .second, .val (.long q4), .second, .val (.long q5), .second, .val (.int p6), .val (.int (2 : Int32)), .val (.int x10), .val (.int x11), .val (.int x12), .val (.int x13), .val (.int x14), .val (.ref o), .val (.int x16), .val (.int y), .val (.long q3), .second] [])
    refine own_go (fun _ k => XS.aload X0.here hx rfl (hb hby at_250) rfl rfl k) ?_
    refine own_go (fun _ k => XS.iload X0.here hx rfl (hb hby at_252) rfl k) ?_
    show own_Run p e below _ T0 (mkF m 254 #[.val (.int p1), .val (.int p2), .val (.long q3), .second, .val (.long q4), .second, .val (.long q5), .second, .val (.int p6), .val (.int (2 : Int32)), .val (.int x10), .val (.int x11), .val (.int x12), .val (.int x13), .val (.int x14), .val (.ref o), .val (.int x16), .val (.int y), .val (.long q3), .second] [(.int y), (.ref o)])
    obtain ⟨cq162, kq162, q162a, q162b, q162c⟩ := isOf hZ e0 E_o
    obtain ⟨_, _, ⟨T162, L162, k162, n162⟩, -, X162, ⟨Lc162, hQ162, l162, y162, z162⟩, st162⟩ := X0.virtualBack hx (y := (⟨"com/example/net_reducer/netreducer/analysis/Marking", "tokensOn", "(I)J"⟩ : MethodName)) (z := (⟨"com/example/net_reducer/netreducer/analysis/Marking", "tokensOn", "(I)J"⟩ : MethodName)) hown (mvT hZ (W 27 rfl)) (mvT hZ (W 28 rfl)) (notFace_of_selects (args := #[]) (mvT hZ (W 30 rfl))) (mvT hZ (W 30 rfl)) (mvT hZ (W 29 rfl)) (by decide) (backOf (W := 0) (rm5n2 l Z a0 hw [] o y b1 b2 k1 k2 x12 x13 (0 : Int32) (0 : Int32) (0 : Int32) (0 : Int32) (0 : Int32) (0 : Int32) q3 q4 (0 : Int64) (0 : Int64) (0 : Int64) (0 : Int64) (0 : Int64) (0 : Int64) q3 hh n0 Z0 E_o F_places_o F_tokens_o F_size_o V_b1 V_b2 (Or.inl ⟨hk0, hk1, rfl⟩)) hZ (W 31 rfl) (W 7 rfl) (by decide) (by decide)) q162a q162c (g := (mkF m 254 #[.val (.int p1), .val (.int p2), .val (.long q3), .second, .val (.long q4), .second, .val (.long q5), .second, .val (.int p6), .val (.int (2 : Int32)), .val (.int x10), .val (.int x11), .val (.int x12), .val (.int x13), .val (.int x14), .val (.ref o), .val (.int x16), .val (.int y), .val (.long q3), .second] [(.int y), (.ref o)])) rfl (by rw [hml]; rfl) (Steps.refl _) (argsL := [(.int y)]) (rest := []) (lenOf pd_3 rfl) rfl (by show 2 * 0 + _ ≤ _; exact Nat.le_of_eq rfl) (hb hby at_254) (fun _ _ => ⟨rfl, e0, (by decide : 3 + 0 ≤ _), (by decide : 19 + 0 ≤ _)⟩)
    dsimp only [Pt.U, Pt.locs, Pt.cells, Pt.slots] at X162 l162 y162 z162 st162 hQ162
    subst l162 y162 z162
    obtain ⟨rfl, N162q, e162⟩ := hQ162
    have N162 := Fr.app N0 N162q
    refine own_goT st162 ?_
    show own_Run p e below _ T162 (mkF m 257 #[.val (.int p1), .val (.int p2), .val (.long q3), .second, .val (.long q4), .second, .val (.long q5), .second, .val (.int p6), .val (.int (2 : Int32)), .val (.int x10), .val (.int x11), .val (.int x12), .val (.int x13), .val (.int x14), .val (.ref o), .val (.int x16), .val (.int y), .val (.long q3), .second] [(.long q3)])
    refine own_go (fun _ k => XS.lload X162.here hx rfl (hb hby at_257) rfl k) ?_
    refine own_go (fun _ k => XS.lcmp X162.here hx rfl (hb hby at_259) rfl k) ?_
    show own_Run p e below _ T162 (mkF m 260 #[.val (.int p1), .val (.int p2), .val (.long q3), .second, .val (.long q4), .second, .val (.long q5), .second, .val (.int p6), .val (.int (2 : Int32)), .val (.int x10), .val (.int x11), .val (.int x12), .val (.int x13), .val (.int x14), .val (.ref o), .val (.int x16), .val (.int y), .val (.long q3), .second] [(.int (lcmpW q3 q3))])
    refine own_go (fun _ k => XS.ifNo X162.here hx rfl (hb hby at_260) rfl (own_lcTe rfl).2 k) ?_
    show own_Run p e below _ T162 (mkF m 263 #[.val (.int p1), .val (.int p2), .val (.long q3), .second, .val (.long q4), .second, .val (.long q5), .second, .val (.int p6), .val (.int (2 : Int32)), .val (.int x10), .val (.int x11), .val (.int x12), .val (.int x13), .val (.int x14), .val (.ref o), .val (.int x16), .val (.int y), .val (.long q3), .second] [])
    refine own_go (fun _ k => XS.iconst X162.here hx rfl (hb hby at_263) k) ?_
    refine own_go (fun _ k => XS.goto X162.here hx rfl (pc0 := 264) (pc' := 268) rfl (hb hby at_264) (by decide) (by decide) k) ?_
    show own_Run p e below _ T162 (mkF m 268 #[.val (.int p1), .val (.int p2), .val (.long q3), .second, .val (.long q4), .second, .val (.long q5), .second, .val (.int p6), .val (.int (2 : Int32)), .val (.int x10), .val (.int x11), .val (.int x12), .val (.int x13), .val (.int x14), .val (.ref o), .val (.int x16), .val (.int y), .val (.long q3), .second] [(.int (1 : Int32))])
    refine own_done (Q := fun v h L => Q0 Z p1 p2 q3 q4 q5 p6 h0 n0 v h L) (v := (some (.int (1 : Int32)))) X162 (fun h => by rw [hret] at h; cases h) hlk (fun fs hr => retN X162 hx (t := .boolean) hret (by simp) (hb hby at_268) hr) ?_ (by decide) (by decide)
    show Q0 Z p1 p2 q3 q4 q5 p6 h0 n0 _ T162.heap _
    rw [e162]
    exact ⟨rfl, N162⟩
  · have hk1 : y < x13 := (own_trI hk0 hl1)
    refine own_go (fun _ k => XS.lconst X0.here hx rfl (hb hby at_197) k) ?_
    refine own_go (fun _ k => XS.lstore X0.here hx rfl (hb hby at_198) rfl (l' := #[.val (.int p1), .val (.int p2), .val (.long q3), .second, .val (.long q4), .second, .val (.long q5), .second, .val (.int p6), .val (.int (2 : Int32)), .val (.int x10), .val (.int x11), .val (.int x12), .val (.int x13), .val (.int x14), .val (.ref o), .val (.int x16), .val (.int y), .val (.long (0 : Int64)), .second]) rfl k) ?_
    refine own_go (fun _ k => XS.iload X0.here hx rfl (hb hby at_200) rfl k) ?_
    refine own_go (fun _ k => XS.iconst X0.here hx rfl (hb hby at_202) k) ?_
    show own_Run p e below _ T0 (mkF m 203 #[.val (.int p1), .val (.int p2), .val (.long q3), .second, .val (.long q4), .second, .val (.long q5), .second, .val (.int p6), .val (.int (2 : Int32)), .val (.int x10), .val (.int x11), .val (.int x12), .val (.int x13), .val (.int x14), .val (.ref o), .val (.int x16), .val (.int y), .val (.long (0 : Int64)), .second] [(.int (1 : Int32)), (.int (2 : Int32))])
    refine own_go (fun _ k => XS.icmpNo X0.here hx rfl (hb hby at_203) rfl (flt (by decide : ¬ ((2 : Int32) < (1 : Int32)))).1 k) ?_
    show own_Run p e below _ T0 (mkF m 206 #[.val (.int p1), .val (.int p2), .val (.long q3), .second, .val (.long q4), .second, .val (.long q5), .second, .val (.int p6), .val (.int (2 : Int32)), .val (.int x10), .val (.int x11), .val (.int x12), .val (.int x13), .val (.int x14), .val (.ref o), .val (.int x16), .val (.int y), .val (.long (0 : Int64)), .second] [])
    refine own_go (fun _ k => XS.iload X0.here hx rfl (hb hby at_206) rfl k) ?_
    refine own_go (fun _ k => XS.iload X0.here hx rfl (hb hby at_208) rfl k) ?_
    show own_Run p e below _ T0 (mkF m 210 #[.val (.int p1), .val (.int p2), .val (.long q3), .second, .val (.long q4), .second, .val (.long q5), .second, .val (.int p6), .val (.int (2 : Int32)), .val (.int x10), .val (.int x11), .val (.int x12), .val (.int x13), .val (.int x14), .val (.ref o), .val (.int x16), .val (.int y), .val (.long (0 : Int64)), .second] [(.int x12), (.int y)])
    refine own_go (fun _ k => XS.icmpYes X0.here hx rfl (pc0 := 210) (pc' := 216) rfl (hb hby at_210) rfl (feq (own_neR hk0 : ¬ (y = x12))).2 (by decide) (by decide) k) ?_
    show own_Run p e below _ T0 (mkF m 216 #[.val (.int p1), .val (.int p2), .val (.long q3), .second, .val (.long q4), .second, .val (.long q5), .second, .val (.int p6), .val (.int (2 : Int32)), .val (.int x10), .val (.int x11), .val (.int x12), .val (.int x13), .val (.int x14), .val (.ref o), .val (.int x16), .val (.int y), .val (.long (0 : Int64)), .second] [])
    refine own_go (fun _ k => XS.iload X0.here hx rfl (hb hby at_216) rfl k) ?_
    refine own_go (fun _ k => XS.iconst X0.here hx rfl (hb hby at_218) k) ?_
    show own_Run p e below _ T0 (mkF m 219 #[.val (.int p1), .val (.int p2), .val (.long q3), .second, .val (.long q4), .second, .val (.long q5), .second, .val (.int p6), .val (.int (2 : Int32)), .val (.int x10), .val (.int x11), .val (.int x12), .val (.int x13), .val (.int x14), .val (.ref o), .val (.int x16), .val (.int y), .val (.long (0 : Int64)), .second] [(.int (2 : Int32)), (.int (2 : Int32))])
    refine own_go (fun _ k => XS.icmpNo X0.here hx rfl (hb hby at_219) rfl (flt (by decide : ¬ ((2 : Int32) < (2 : Int32)))).1 k) ?_
    show own_Run p e below _ T0 (mkF m 222 #[.val (.int p1), .val (.int p2), .val (.long q3), .second, .val (.long q4), .second, .val (.long q5), .second, .val (.int p6), .val (.int (2 : Int32)), .val (.int x10), .val (.int x11), .val (.int x12), .val (.int x13), .val (.int x14), .val (.ref o), .val (.int x16), .val (.int y), .val (.long (0 : Int64)), .second] [])
    refine own_go (fun _ k => XS.iload X0.here hx rfl (hb hby at_222) rfl k) ?_
    refine own_go (fun _ k => XS.iload X0.here hx rfl (hb hby at_224) rfl k) ?_
    show own_Run p e below _ T0 (mkF m 226 #[.val (.int p1), .val (.int p2), .val (.long q3), .second, .val (.long q4), .second, .val (.long q5), .second, .val (.int p6), .val (.int (2 : Int32)), .val (.int x10), .val (.int x11), .val (.int x12), .val (.int x13), .val (.int x14), .val (.ref o), .val (.int x16), .val (.int y), .val (.long (0 : Int64)), .second] [(.int x13), (.int y)])
    refine own_go (fun _ k => XS.icmpYes X0.here hx rfl (pc0 := 226) (pc' := 233) rfl (hb hby at_226) rfl (feq (own_neR hk1 : ¬ (y = x13))).2 (by decide) (by decide) k) ?_
    show own_Run p e below _ T0 (mkF m 233 #[.val (.int p1), .val (.int p2), .val (.long q3), .second, .val (.long q4), .second, .val (.long q5), .second, .val (.int p6), .val (.int (2 : Int32)), .val (.int x10), .val (.int x11), .val (.int x12), .val (.int x13), .val (.int x14), .val (.ref o), .val (.int x16), .val (.int y), .val (.long (0 : Int64)), .second] [])
    refine own_go (fun _ k => XS.iload X0.here hx rfl (hb hby at_233) rfl k) ?_
    refine own_go (fun _ k => XS.iconst X0.here hx rfl (hb hby at_235) k) ?_
    show own_Run p e below _ T0 (mkF m 236 #[.val (.int p1), .val (.int p2), .val (.long q3), .second, .val (.long q4), .second, .val (.long q5), .second, .val (.int p6), .val (.int (2 : Int32)), .val (.int x10), .val (.int x11), .val (.int x12), .val (.int x13), .val (.int x14), .val (.ref o), .val (.int x16), .val (.int y), .val (.long (0 : Int64)), .second] [(.int (3 : Int32)), (.int (2 : Int32))])
    refine own_go (fun _ k => XS.icmpYes X0.here hx rfl (pc0 := 236) (pc' := 250) rfl (hb hby at_236) rfl (tlt (by decide : (2 : Int32) < (3 : Int32))).1 (by decide) (by decide) k) ?_
    show own_Run p e below _ T0 (mkF m 250 #[.val (.int p1), .val (.int p2), .val (.long q3), .second, .val (.long q4), .second, .val (.long q5), .second, .val (.int p6), .val (.int (2 : Int32)), .val (.int x10), .val (.int x11), .val (.int x12), .val (.int x13), .val (.int x14), .val (.ref o), .val (.int x16), .val (.int y), .val (.long (0 : Int64)), .second] [])
    refine own_go (fun _ k => XS.aload X0.here hx rfl (hb hby at_250) rfl rfl k) ?_
    refine own_go (fun _ k => XS.iload X0.here hx rfl (hb hby at_252) rfl k) ?_
    show own_Run p e below _ T0 (mkF m 254 #[.val (.int p1), .val (.int p2), .val (.long q3), .second, .val (.long q4), .second, .val (.long q5), .second, .val (.int p6), .val (.int (2 : Int32)), .val (.int x10), .val (.int x11), .val (.int x12), .val (.int x13), .val (.int x14), .val (.ref o), .val (.int x16), .val (.int y), .val (.long (0 : Int64)), .second] [(.int y), (.ref o)])
    obtain ⟨cq163, kq163, q163a, q163b, q163c⟩ := isOf hZ e0 E_o
    obtain ⟨_, _, ⟨T163, L163, k163, n163⟩, -, X163, ⟨Lc163, hQ163, l163, y163, z163⟩, st163⟩ := X0.virtualBack hx (y := (⟨"com/example/net_reducer/netreducer/analysis/Marking", "tokensOn", "(I)J"⟩ : MethodName)) (z := (⟨"com/example/net_reducer/netreducer/analysis/Marking", "tokensOn", "(I)J"⟩ : MethodName)) hown (mvT hZ (W 27 rfl)) (mvT hZ (W 28 rfl)) (notFace_of_selects (args := #[]) (mvT hZ (W 30 rfl))) (mvT hZ (W 30 rfl)) (mvT hZ (W 29 rfl)) (by decide) (backOf (W := 0) (rm5n2 l Z a0 hw [] o y b1 b2 k1 k2 x12 x13 (0 : Int32) (0 : Int32) (0 : Int32) (0 : Int32) (0 : Int32) (0 : Int32) q3 q4 (0 : Int64) (0 : Int64) (0 : Int64) (0 : Int64) (0 : Int64) (0 : Int64) (0 : Int64) hh n0 Z0 E_o F_places_o F_tokens_o F_size_o V_b1 V_b2 (Or.inr (Or.inl ⟨hk0, hk1, rfl⟩))) hZ (W 31 rfl) (W 7 rfl) (by decide) (by decide)) q163a q163c (g := (mkF m 254 #[.val (.int p1), .val (.int p2), .val (.long q3), .second, .val (.long q4), .second, .val (.long q5), .second, .val (.int p6), .val (.int (2 : Int32)), .val (.int x10), .val (.int x11), .val (.int x12), .val (.int x13), .val (.int x14), .val (.ref o), .val (.int x16), .val (.int y), .val (.long (0 : Int64)), .second] [(.int y), (.ref o)])) rfl (by rw [hml]; rfl) (Steps.refl _) (argsL := [(.int y)]) (rest := []) (lenOf pd_3 rfl) rfl (by show 2 * 0 + _ ≤ _; exact Nat.le_of_eq rfl) (hb hby at_254) (fun _ _ => ⟨rfl, e0, (by decide : 3 + 0 ≤ _), (by decide : 19 + 0 ≤ _)⟩)
    dsimp only [Pt.U, Pt.locs, Pt.cells, Pt.slots] at X163 l163 y163 z163 st163 hQ163
    subst l163 y163 z163
    obtain ⟨rfl, N163q, e163⟩ := hQ163
    have N163 := Fr.app N0 N163q
    refine own_goT st163 ?_
    show own_Run p e below _ T163 (mkF m 257 #[.val (.int p1), .val (.int p2), .val (.long q3), .second, .val (.long q4), .second, .val (.long q5), .second, .val (.int p6), .val (.int (2 : Int32)), .val (.int x10), .val (.int x11), .val (.int x12), .val (.int x13), .val (.int x14), .val (.ref o), .val (.int x16), .val (.int y), .val (.long (0 : Int64)), .second] [(.long (0 : Int64))])
    refine own_go (fun _ k => XS.lload X163.here hx rfl (hb hby at_257) rfl k) ?_
    refine own_go (fun _ k => XS.lcmp X163.here hx rfl (hb hby at_259) rfl k) ?_
    show own_Run p e below _ T163 (mkF m 260 #[.val (.int p1), .val (.int p2), .val (.long q3), .second, .val (.long q4), .second, .val (.long q5), .second, .val (.int p6), .val (.int (2 : Int32)), .val (.int x10), .val (.int x11), .val (.int x12), .val (.int x13), .val (.int x14), .val (.ref o), .val (.int x16), .val (.int y), .val (.long (0 : Int64)), .second] [(.int (lcmpW (0 : Int64) (0 : Int64)))])
    refine own_go (fun _ k => XS.ifNo X163.here hx rfl (hb hby at_260) rfl (own_lcTe (by decide : (0 : Int64) = (0 : Int64))).2 k) ?_
    show own_Run p e below _ T163 (mkF m 263 #[.val (.int p1), .val (.int p2), .val (.long q3), .second, .val (.long q4), .second, .val (.long q5), .second, .val (.int p6), .val (.int (2 : Int32)), .val (.int x10), .val (.int x11), .val (.int x12), .val (.int x13), .val (.int x14), .val (.ref o), .val (.int x16), .val (.int y), .val (.long (0 : Int64)), .second] [])
    refine own_go (fun _ k => XS.iconst X163.here hx rfl (hb hby at_263) k) ?_
    refine own_go (fun _ k => XS.goto X163.here hx rfl (pc0 := 264) (pc' := 268) rfl (hb hby at_264) (by decide) (by decide) k) ?_
    show own_Run p e below _ T163 (mkF m 268 #[.val (.int p1), .val (.int p2), .val (.long q3), .second, .val (.long q4), .second, .val (.long q5), .second, .val (.int p6), .val (.int (2 : Int32)), .val (.int x10), .val (.int x11), .val (.int x12), .val (.int x13), .val (.int x14), .val (.ref o), .val (.int x16), .val (.int y), .val (.long (0 : Int64)), .second] [(.int (1 : Int32))])
    refine own_done (Q := fun v h L => Q0 Z p1 p2 q3 q4 q5 p6 h0 n0 v h L) (v := (some (.int (1 : Int32)))) X163 (fun h => by rw [hret] at h; cases h) hlk (fun fs hr => retN X163 hx (t := .boolean) hret (by simp) (hb hby at_268) hr) ?_ (by decide) (by decide)
    show Q0 Z p1 p2 q3 q4 q5 p6 h0 n0 _ T163.heap _
    rw [e163]
    exact ⟨rfl, N163⟩
set_option maxRecDepth 65536 in
set_option maxHeartbeats 40000000 in
theorem tail3 {p : Program} {l : Launch} {e : Env} {s : State} {m : MethodId} {args : Array Value} {below : List Frame} {meth : Method} {c : Code} {Z : State} {a0 : Array Value} (p1 : Int32) (p2 : Int32) (q3 : Int64) (q4 : Int64) (q5 : Int64) (p6 : Int32) (h0 : Heap) (n0 : Nat) (hx : p.tables.exec = Jvm.exec) (hZ : Z.Warmed39 s.vm) (hw : ∀ d ∈ tables_1, d.before a0 Z = true) (hby : c.code = code) (hml : c.maxLocals = 20) (hown : s.vm.findClass "com/example/net_reducer/netreducer/analysis/MarkingTokensOnPinLaw" = some m.cls) (hnm : meth.name = "law") (hret : meth.sig.returnType = some .boolean) (hlk : meth.locks = false)
    (x10 : Int32) (x11 : Int32) (x12 : Int32) (x13 : Int32) (x14 : Int32) (o : Addr) (x16 : Int32) (y : Int32) (b1 : Addr) (b2 : Addr) (k1 : ClassId) (k2 : ClassId) (T0 : State) (hh : Heap) (locs : List Loc) (X0 : Stand p l e room_1 s m args below meth c T0 locs 3 19) (e0 : T0.heap = hh) (N0 : Fr n0 locs) (Z0 : n0 ≤ hh.size) (K0 : Keep h0 hh []) (E_o : Exa Z hh o "com/example/net_reducer/netreducer/analysis/Marking") (F_places_o : Fld Z hh o "com/example/net_reducer/netreducer/analysis/Marking" "places" "[I" (.ref b1)) (F_tokens_o : Fld Z hh o "com/example/net_reducer/netreducer/analysis/Marking" "tokens" "[J" (.ref b2)) (F_size_o : Fld Z hh o "com/example/net_reducer/netreducer/analysis/Marking" "size" "I" (.int (3 : Int32))) (V_b1 : Arv Z hh b1 k1 .int (8 : Int32) [(.int x12), (.int x13), (.int x14), (.int (0 : Int32)), (.int (0 : Int32)), (.int (0 : Int32)), (.int (0 : Int32)), (.int (0 : Int32))] (.int (0 : Int32))) (V_b2 : Arv Z hh b2 k2 .long (8 : Int32) [(.long q3), (.long q4), (.long q5), (.long (0 : Int64)), (.long (0 : Int64)), (.long (0 : Int64)), (.long (0 : Int64)), (.long (0 : Int64))] (.long (0 : Int64))) (hl1 : x12 < x13) (hl2 : x13 < x14) :
    own_Run p e below (fun o U' => ∃ v L, o = .returned v ∧ Q0 Z p1 p2 q3 q4 q5 p6 h0 n0 v U'.heap L ∧ FrameEnd s o U' L room_1.cells room_1.slots) T0 (mkF m 197 #[.val (.int p1), .val (.int p2), .val (.long q3), .second, .val (.long q4), .second, .val (.long q5), .second, .val (.int p6), .val (.int (3 : Int32)), .val (.int x10), .val (.int x11), .val (.int x12), .val (.int x13), .val (.int x14), .val (.ref o), .val (.int x16), .val (.int y), .unset, .unset] []) := by
  have W := fun (k : Nat) {d : Jvm.Cond} (h : tables_1[k]? = some d) => hw d (List.mem_of_getElem? h)
  show own_Run p e below _ T0 (mkF m 197 #[.val (.int p1), .val (.int p2), .val (.long q3), .second, .val (.long q4), .second, .val (.long q5), .second, .val (.int p6), .val (.int (3 : Int32)), .val (.int x10), .val (.int x11), .val (.int x12), .val (.int x13), .val (.int x14), .val (.ref o), .val (.int x16), .val (.int y), .unset, .unset] [])
  show own_Run p e below _ T0 (mkF m 197 #[.val (.int p1), .val (.int p2), .val (.long q3), .second, .val (.long q4), .second, .val (.long q5), .second, .val (.int p6), .val (.int (3 : Int32)), .val (.int x10), .val (.int x11), .val (.int x12), .val (.int x13), .val (.int x14), .val (.ref o), .val (.int x16), .val (.int y), .unset, .unset] [])
  rcases own_tri x12 y with hk0 | hk0 | hk0
  · rcases own_tri x13 y with hk1 | hk1 | hk1
    · rcases own_tri x14 y with hk2 | hk2 | hk2
      · refine own_go (fun _ k => XS.lconst X0.here hx rfl (hb hby at_197) k) ?_
        refine own_go (fun _ k => XS.lstore X0.here hx rfl (hb hby at_198) rfl (l' := #[.val (.int p1), .val (.int p2), .val (.long q3), .second, .val (.long q4), .second, .val (.long q5), .second, .val (.int p6), .val (.int (3 : Int32)), .val (.int x10), .val (.int x11), .val (.int x12), .val (.int x13), .val (.int x14), .val (.ref o), .val (.int x16), .val (.int y), .val (.long (0 : Int64)), .second]) rfl k) ?_
        refine own_go (fun _ k => XS.iload X0.here hx rfl (hb hby at_200) rfl k) ?_
        refine own_go (fun _ k => XS.iconst X0.here hx rfl (hb hby at_202) k) ?_
        show own_Run p e below _ T0 (mkF m 203 #[.val (.int p1), .val (.int p2), .val (.long q3), .second, .val (.long q4), .second, .val (.long q5), .second, .val (.int p6), .val (.int (3 : Int32)), .val (.int x10), .val (.int x11), .val (.int x12), .val (.int x13), .val (.int x14), .val (.ref o), .val (.int x16), .val (.int y), .val (.long (0 : Int64)), .second] [(.int (1 : Int32)), (.int (3 : Int32))])
        refine own_go (fun _ k => XS.icmpNo X0.here hx rfl (hb hby at_203) rfl (flt (by decide : ¬ ((3 : Int32) < (1 : Int32)))).1 k) ?_
        show own_Run p e below _ T0 (mkF m 206 #[.val (.int p1), .val (.int p2), .val (.long q3), .second, .val (.long q4), .second, .val (.long q5), .second, .val (.int p6), .val (.int (3 : Int32)), .val (.int x10), .val (.int x11), .val (.int x12), .val (.int x13), .val (.int x14), .val (.ref o), .val (.int x16), .val (.int y), .val (.long (0 : Int64)), .second] [])
        refine own_go (fun _ k => XS.iload X0.here hx rfl (hb hby at_206) rfl k) ?_
        refine own_go (fun _ k => XS.iload X0.here hx rfl (hb hby at_208) rfl k) ?_
        show own_Run p e below _ T0 (mkF m 210 #[.val (.int p1), .val (.int p2), .val (.long q3), .second, .val (.long q4), .second, .val (.long q5), .second, .val (.int p6), .val (.int (3 : Int32)), .val (.int x10), .val (.int x11), .val (.int x12), .val (.int x13), .val (.int x14), .val (.ref o), .val (.int x16), .val (.int y), .val (.long (0 : Int64)), .second] [(.int x12), (.int y)])
        refine own_go (fun _ k => XS.icmpYes X0.here hx rfl (pc0 := 210) (pc' := 216) rfl (hb hby at_210) rfl (feq (own_neL hk0 : ¬ (y = x12))).2 (by decide) (by decide) k) ?_
        show own_Run p e below _ T0 (mkF m 216 #[.val (.int p1), .val (.int p2), .val (.long q3), .second, .val (.long q4), .second, .val (.long q5), .second, .val (.int p6), .val (.int (3 : Int32)), .val (.int x10), .val (.int x11), .val (.int x12), .val (.int x13), .val (.int x14), .val (.ref o), .val (.int x16), .val (.int y), .val (.long (0 : Int64)), .second] [])
        refine own_go (fun _ k => XS.iload X0.here hx rfl (hb hby at_216) rfl k) ?_
        refine own_go (fun _ k => XS.iconst X0.here hx rfl (hb hby at_218) k) ?_
        show own_Run p e below _ T0 (mkF m 219 #[.val (.int p1), .val (.int p2), .val (.long q3), .second, .val (.long q4), .second, .val (.long q5), .second, .val (.int p6), .val (.int (3 : Int32)), .val (.int x10), .val (.int x11), .val (.int x12), .val (.int x13), .val (.int x14), .val (.ref o), .val (.int x16), .val (.int y), .val (.long (0 : Int64)), .second] [(.int (2 : Int32)), (.int (3 : Int32))])
        refine own_go (fun _ k => XS.icmpNo X0.here hx rfl (hb hby at_219) rfl (flt (by decide : ¬ ((3 : Int32) < (2 : Int32)))).1 k) ?_
        show own_Run p e below _ T0 (mkF m 222 #[.val (.int p1), .val (.int p2), .val (.long q3), .second, .val (.long q4), .second, .val (.long q5), .second, .val (.int p6), .val (.int (3 : Int32)), .val (.int x10), .val (.int x11), .val (.int x12), .val (.int x13), .val (.int x14), .val (.ref o), .val (.int x16), .val (.int y), .val (.long (0 : Int64)), .second] [])
        refine own_go (fun _ k => XS.iload X0.here hx rfl (hb hby at_222) rfl k) ?_
        refine own_go (fun _ k => XS.iload X0.here hx rfl (hb hby at_224) rfl k) ?_
        show own_Run p e below _ T0 (mkF m 226 #[.val (.int p1), .val (.int p2), .val (.long q3), .second, .val (.long q4), .second, .val (.long q5), .second, .val (.int p6), .val (.int (3 : Int32)), .val (.int x10), .val (.int x11), .val (.int x12), .val (.int x13), .val (.int x14), .val (.ref o), .val (.int x16), .val (.int y), .val (.long (0 : Int64)), .second] [(.int x13), (.int y)])
        refine own_go (fun _ k => XS.icmpYes X0.here hx rfl (pc0 := 226) (pc' := 233) rfl (hb hby at_226) rfl (feq (own_neL hk1 : ¬ (y = x13))).2 (by decide) (by decide) k) ?_
        show own_Run p e below _ T0 (mkF m 233 #[.val (.int p1), .val (.int p2), .val (.long q3), .second, .val (.long q4), .second, .val (.long q5), .second, .val (.int p6), .val (.int (3 : Int32)), .val (.int x10), .val (.int x11), .val (.int x12), .val (.int x13), .val (.int x14), .val (.ref o), .val (.int x16), .val (.int y), .val (.long (0 : Int64)), .second] [])
        refine own_go (fun _ k => XS.iload X0.here hx rfl (hb hby at_233) rfl k) ?_
        refine own_go (fun _ k => XS.iconst X0.here hx rfl (hb hby at_235) k) ?_
        show own_Run p e below _ T0 (mkF m 236 #[.val (.int p1), .val (.int p2), .val (.long q3), .second, .val (.long q4), .second, .val (.long q5), .second, .val (.int p6), .val (.int (3 : Int32)), .val (.int x10), .val (.int x11), .val (.int x12), .val (.int x13), .val (.int x14), .val (.ref o), .val (.int x16), .val (.int y), .val (.long (0 : Int64)), .second] [(.int (3 : Int32)), (.int (3 : Int32))])
        refine own_go (fun _ k => XS.icmpNo X0.here hx rfl (hb hby at_236) rfl (flt (by decide : ¬ ((3 : Int32) < (3 : Int32)))).1 k) ?_
        show own_Run p e below _ T0 (mkF m 239 #[.val (.int p1), .val (.int p2), .val (.long q3), .second, .val (.long q4), .second, .val (.long q5), .second, .val (.int p6), .val (.int (3 : Int32)), .val (.int x10), .val (.int x11), .val (.int x12), .val (.int x13), .val (.int x14), .val (.ref o), .val (.int x16), .val (.int y), .val (.long (0 : Int64)), .second] [])
        refine own_go (fun _ k => XS.iload X0.here hx rfl (hb hby at_239) rfl k) ?_
        refine own_go (fun _ k => XS.iload X0.here hx rfl (hb hby at_241) rfl k) ?_
        show own_Run p e below _ T0 (mkF m 243 #[.val (.int p1), .val (.int p2), .val (.long q3), .second, .val (.long q4), .second, .val (.long q5), .second, .val (.int p6), .val (.int (3 : Int32)), .val (.int x10), .val (.int x11), .val (.int x12), .val (.int x13), .val (.int x14), .val (.ref o), .val (.int x16), .val (.int y), .val (.long (0 : Int64)), .second] [(.int x14), (.int y)])
        refine own_go (fun _ k => XS.icmpYes X0.here hx rfl (pc0 := 243) (pc' := 250) rfl (hb hby at_243) rfl (feq (own_neL hk2 : ¬ (y = x14))).2 (by decide) (by decide) k) ?_
        show own_Run p e below _ T0 (mkF m 250 #[.val (.int p1), .val (.int p2), .val (.long q3), .second, .val (.long q4), .second, .val (.long q5), .second, .val (.int p6), .val (.int (3 : Int32)), .val (.int x10), .val (.int x11), .val (.int x12), .val (.int x13), .val (.int x14), .val (.ref o), .val (.int x16), .val (.int y), .val (.long (0 : Int64)), .second] [])
        refine own_go (fun _ k => XS.aload X0.here hx rfl (hb hby at_250) rfl rfl k) ?_
        refine own_go (fun _ k => XS.iload X0.here hx rfl (hb hby at_252) rfl k) ?_
        show own_Run p e below _ T0 (mkF m 254 #[.val (.int p1), .val (.int p2), .val (.long q3), .second, .val (.long q4), .second, .val (.long q5), .second, .val (.int p6), .val (.int (3 : Int32)), .val (.int x10), .val (.int x11), .val (.int x12), .val (.int x13), .val (.int x14), .val (.ref o), .val (.int x16), .val (.int y), .val (.long (0 : Int64)), .second] [(.int y), (.ref o)])
        obtain ⟨cq164, kq164, q164a, q164b, q164c⟩ := isOf hZ e0 E_o
        obtain ⟨_, _, ⟨T164, L164, k164, n164⟩, -, X164, ⟨Lc164, hQ164, l164, y164, z164⟩, st164⟩ := X0.virtualBack hx (y := (⟨"com/example/net_reducer/netreducer/analysis/Marking", "tokensOn", "(I)J"⟩ : MethodName)) (z := (⟨"com/example/net_reducer/netreducer/analysis/Marking", "tokensOn", "(I)J"⟩ : MethodName)) hown (mvT hZ (W 27 rfl)) (mvT hZ (W 28 rfl)) (notFace_of_selects (args := #[]) (mvT hZ (W 30 rfl))) (mvT hZ (W 30 rfl)) (mvT hZ (W 29 rfl)) (by decide) (backOf (W := 0) (rm5n3 l Z a0 hw [] o y b1 b2 k1 k2 x12 x13 x14 (0 : Int32) (0 : Int32) (0 : Int32) (0 : Int32) (0 : Int32) q3 q4 q5 (0 : Int64) (0 : Int64) (0 : Int64) (0 : Int64) (0 : Int64) (0 : Int64) hh n0 Z0 E_o F_places_o F_tokens_o F_size_o V_b1 V_b2 (Or.inr (Or.inr (Or.inr (Or.inr (Or.inr (Or.inr (⟨hk0, hk1, hk2, rfl⟩)))))))) hZ (W 31 rfl) (W 7 rfl) (by decide) (by decide)) q164a q164c (g := (mkF m 254 #[.val (.int p1), .val (.int p2), .val (.long q3), .second, .val (.long q4), .second, .val (.long q5), .second, .val (.int p6), .val (.int (3 : Int32)), .val (.int x10), .val (.int x11), .val (.int x12), .val (.int x13), .val (.int x14), .val (.ref o), .val (.int x16), .val (.int y), .val (.long (0 : Int64)), .second] [(.int y), (.ref o)])) rfl (by rw [hml]; rfl) (Steps.refl _) (argsL := [(.int y)]) (rest := []) (lenOf pd_3 rfl) rfl (by show 2 * 0 + _ ≤ _; exact Nat.le_of_eq rfl) (hb hby at_254) (fun _ _ => ⟨rfl, e0, (by decide : 3 + 0 ≤ _), (by decide : 19 + 0 ≤ _)⟩)
        dsimp only [Pt.U, Pt.locs, Pt.cells, Pt.slots] at X164 l164 y164 z164 st164 hQ164
        subst l164 y164 z164
        obtain ⟨rfl, N164q, e164⟩ := hQ164
        have N164 := Fr.app N0 N164q
        refine own_goT st164 ?_
        show own_Run p e below _ T164 (mkF m 257 #[.val (.int p1), .val (.int p2), .val (.long q3), .second, .val (.long q4), .second, .val (.long q5), .second, .val (.int p6), .val (.int (3 : Int32)), .val (.int x10), .val (.int x11), .val (.int x12), .val (.int x13), .val (.int x14), .val (.ref o), .val (.int x16), .val (.int y), .val (.long (0 : Int64)), .second] [(.long (0 : Int64))])
        refine own_go (fun _ k => XS.lload X164.here hx rfl (hb hby at_257) rfl k) ?_
        refine own_go (fun _ k => XS.lcmp X164.here hx rfl (hb hby at_259) rfl k) ?_
        show own_Run p e below _ T164 (mkF m 260 #[.val (.int p1), .val (.int p2), .val (.long q3), .second, .val (.long q4), .second, .val (.long q5), .second, .val (.int p6), .val (.int (3 : Int32)), .val (.int x10), .val (.int x11), .val (.int x12), .val (.int x13), .val (.int x14), .val (.ref o), .val (.int x16), .val (.int y), .val (.long (0 : Int64)), .second] [(.int (lcmpW (0 : Int64) (0 : Int64)))])
        refine own_go (fun _ k => XS.ifNo X164.here hx rfl (hb hby at_260) rfl (own_lcTe (by decide : (0 : Int64) = (0 : Int64))).2 k) ?_
        show own_Run p e below _ T164 (mkF m 263 #[.val (.int p1), .val (.int p2), .val (.long q3), .second, .val (.long q4), .second, .val (.long q5), .second, .val (.int p6), .val (.int (3 : Int32)), .val (.int x10), .val (.int x11), .val (.int x12), .val (.int x13), .val (.int x14), .val (.ref o), .val (.int x16), .val (.int y), .val (.long (0 : Int64)), .second] [])
        refine own_go (fun _ k => XS.iconst X164.here hx rfl (hb hby at_263) k) ?_
        refine own_go (fun _ k => XS.goto X164.here hx rfl (pc0 := 264) (pc' := 268) rfl (hb hby at_264) (by decide) (by decide) k) ?_
        show own_Run p e below _ T164 (mkF m 268 #[.val (.int p1), .val (.int p2), .val (.long q3), .second, .val (.long q4), .second, .val (.long q5), .second, .val (.int p6), .val (.int (3 : Int32)), .val (.int x10), .val (.int x11), .val (.int x12), .val (.int x13), .val (.int x14), .val (.ref o), .val (.int x16), .val (.int y), .val (.long (0 : Int64)), .second] [(.int (1 : Int32))])
        refine own_done (Q := fun v h L => Q0 Z p1 p2 q3 q4 q5 p6 h0 n0 v h L) (v := (some (.int (1 : Int32)))) X164 (fun h => by rw [hret] at h; cases h) hlk (fun fs hr => retN X164 hx (t := .boolean) hret (by simp) (hb hby at_268) hr) ?_ (by decide) (by decide)
        show Q0 Z p1 p2 q3 q4 q5 p6 h0 n0 _ T164.heap _
        rw [e164]
        exact ⟨rfl, N164⟩
      · refine own_go (fun _ k => XS.lconst X0.here hx rfl (hb hby at_197) k) ?_
        refine own_go (fun _ k => XS.lstore X0.here hx rfl (hb hby at_198) rfl (l' := #[.val (.int p1), .val (.int p2), .val (.long q3), .second, .val (.long q4), .second, .val (.long q5), .second, .val (.int p6), .val (.int (3 : Int32)), .val (.int x10), .val (.int x11), .val (.int x12), .val (.int x13), .val (.int x14), .val (.ref o), .val (.int x16), .val (.int y), .val (.long (0 : Int64)), .second]) rfl k) ?_
        refine own_go (fun _ k => XS.iload X0.here hx rfl (hb hby at_200) rfl k) ?_
        refine own_go (fun _ k => XS.iconst X0.here hx rfl (hb hby at_202) k) ?_
        show own_Run p e below _ T0 (mkF m 203 #[.val (.int p1), .val (.int p2), .val (.long q3), .second, .val (.long q4), .second, .val (.long q5), .second, .val (.int p6), .val (.int (3 : Int32)), .val (.int x10), .val (.int x11), .val (.int x12), .val (.int x13), .val (.int x14), .val (.ref o), .val (.int x16), .val (.int y), .val (.long (0 : Int64)), .second] [(.int (1 : Int32)), (.int (3 : Int32))])
        refine own_go (fun _ k => XS.icmpNo X0.here hx rfl (hb hby at_203) rfl (flt (by decide : ¬ ((3 : Int32) < (1 : Int32)))).1 k) ?_
        show own_Run p e below _ T0 (mkF m 206 #[.val (.int p1), .val (.int p2), .val (.long q3), .second, .val (.long q4), .second, .val (.long q5), .second, .val (.int p6), .val (.int (3 : Int32)), .val (.int x10), .val (.int x11), .val (.int x12), .val (.int x13), .val (.int x14), .val (.ref o), .val (.int x16), .val (.int y), .val (.long (0 : Int64)), .second] [])
        refine own_go (fun _ k => XS.iload X0.here hx rfl (hb hby at_206) rfl k) ?_
        refine own_go (fun _ k => XS.iload X0.here hx rfl (hb hby at_208) rfl k) ?_
        show own_Run p e below _ T0 (mkF m 210 #[.val (.int p1), .val (.int p2), .val (.long q3), .second, .val (.long q4), .second, .val (.long q5), .second, .val (.int p6), .val (.int (3 : Int32)), .val (.int x10), .val (.int x11), .val (.int x12), .val (.int x13), .val (.int x14), .val (.ref o), .val (.int x16), .val (.int y), .val (.long (0 : Int64)), .second] [(.int x12), (.int y)])
        refine own_go (fun _ k => XS.icmpYes X0.here hx rfl (pc0 := 210) (pc' := 216) rfl (hb hby at_210) rfl (feq (own_neL hk0 : ¬ (y = x12))).2 (by decide) (by decide) k) ?_
        show own_Run p e below _ T0 (mkF m 216 #[.val (.int p1), .val (.int p2), .val (.long q3), .second, .val (.long q4), .second, .val (.long q5), .second, .val (.int p6), .val (.int (3 : Int32)), .val (.int x10), .val (.int x11), .val (.int x12), .val (.int x13), .val (.int x14), .val (.ref o), .val (.int x16), .val (.int y), .val (.long (0 : Int64)), .second] [])
        refine own_go (fun _ k => XS.iload X0.here hx rfl (hb hby at_216) rfl k) ?_
        refine own_go (fun _ k => XS.iconst X0.here hx rfl (hb hby at_218) k) ?_
        show own_Run p e below _ T0 (mkF m 219 #[.val (.int p1), .val (.int p2), .val (.long q3), .second, .val (.long q4), .second, .val (.long q5), .second, .val (.int p6), .val (.int (3 : Int32)), .val (.int x10), .val (.int x11), .val (.int x12), .val (.int x13), .val (.int x14), .val (.ref o), .val (.int x16), .val (.int y), .val (.long (0 : Int64)), .second] [(.int (2 : Int32)), (.int (3 : Int32))])
        refine own_go (fun _ k => XS.icmpNo X0.here hx rfl (hb hby at_219) rfl (flt (by decide : ¬ ((3 : Int32) < (2 : Int32)))).1 k) ?_
        show own_Run p e below _ T0 (mkF m 222 #[.val (.int p1), .val (.int p2), .val (.long q3), .second, .val (.long q4), .second, .val (.long q5), .second, .val (.int p6), .val (.int (3 : Int32)), .val (.int x10), .val (.int x11), .val (.int x12), .val (.int x13), .val (.int x14), .val (.ref o), .val (.int x16), .val (.int y), .val (.long (0 : Int64)), .second] [])
        refine own_go (fun _ k => XS.iload X0.here hx rfl (hb hby at_222) rfl k) ?_
        refine own_go (fun _ k => XS.iload X0.here hx rfl (hb hby at_224) rfl k) ?_
        show own_Run p e below _ T0 (mkF m 226 #[.val (.int p1), .val (.int p2), .val (.long q3), .second, .val (.long q4), .second, .val (.long q5), .second, .val (.int p6), .val (.int (3 : Int32)), .val (.int x10), .val (.int x11), .val (.int x12), .val (.int x13), .val (.int x14), .val (.ref o), .val (.int x16), .val (.int y), .val (.long (0 : Int64)), .second] [(.int x13), (.int y)])
        refine own_go (fun _ k => XS.icmpYes X0.here hx rfl (pc0 := 226) (pc' := 233) rfl (hb hby at_226) rfl (feq (own_neL hk1 : ¬ (y = x13))).2 (by decide) (by decide) k) ?_
        show own_Run p e below _ T0 (mkF m 233 #[.val (.int p1), .val (.int p2), .val (.long q3), .second, .val (.long q4), .second, .val (.long q5), .second, .val (.int p6), .val (.int (3 : Int32)), .val (.int x10), .val (.int x11), .val (.int x12), .val (.int x13), .val (.int x14), .val (.ref o), .val (.int x16), .val (.int y), .val (.long (0 : Int64)), .second] [])
        refine own_go (fun _ k => XS.iload X0.here hx rfl (hb hby at_233) rfl k) ?_
        refine own_go (fun _ k => XS.iconst X0.here hx rfl (hb hby at_235) k) ?_
        show own_Run p e below _ T0 (mkF m 236 #[.val (.int p1), .val (.int p2), .val (.long q3), .second, .val (.long q4), .second, .val (.long q5), .second, .val (.int p6), .val (.int (3 : Int32)), .val (.int x10), .val (.int x11), .val (.int x12), .val (.int x13), .val (.int x14), .val (.ref o), .val (.int x16), .val (.int y), .val (.long (0 : Int64)), .second] [(.int (3 : Int32)), (.int (3 : Int32))])
        refine own_go (fun _ k => XS.icmpNo X0.here hx rfl (hb hby at_236) rfl (flt (by decide : ¬ ((3 : Int32) < (3 : Int32)))).1 k) ?_
        show own_Run p e below _ T0 (mkF m 239 #[.val (.int p1), .val (.int p2), .val (.long q3), .second, .val (.long q4), .second, .val (.long q5), .second, .val (.int p6), .val (.int (3 : Int32)), .val (.int x10), .val (.int x11), .val (.int x12), .val (.int x13), .val (.int x14), .val (.ref o), .val (.int x16), .val (.int y), .val (.long (0 : Int64)), .second] [])
        refine own_go (fun _ k => XS.iload X0.here hx rfl (hb hby at_239) rfl k) ?_
        refine own_go (fun _ k => XS.iload X0.here hx rfl (hb hby at_241) rfl k) ?_
        show own_Run p e below _ T0 (mkF m 243 #[.val (.int p1), .val (.int p2), .val (.long q3), .second, .val (.long q4), .second, .val (.long q5), .second, .val (.int p6), .val (.int (3 : Int32)), .val (.int x10), .val (.int x11), .val (.int x12), .val (.int x13), .val (.int x14), .val (.ref o), .val (.int x16), .val (.int y), .val (.long (0 : Int64)), .second] [(.int x14), (.int y)])
        refine own_go (fun _ k => XS.icmpNo X0.here hx rfl (hb hby at_243) rfl (teq (hk2.symm : y = x14)).2 k) ?_
        show own_Run p e below _ T0 (mkF m 246 #[.val (.int p1), .val (.int p2), .val (.long q3), .second, .val (.long q4), .second, .val (.long q5), .second, .val (.int p6), .val (.int (3 : Int32)), .val (.int x10), .val (.int x11), .val (.int x12), .val (.int x13), .val (.int x14), .val (.ref o), .val (.int x16), .val (.int y), .val (.long (0 : Int64)), .second] [])
        refine own_go (fun _ k => XS.lload X0.here hx rfl (hb hby at_246) rfl k) ?_
        refine own_go (fun _ k => XS.lstore X0.here hx rfl (hb hby at_248) rfl (l' := #[.val (.int p1), .val (.int p2), .val (.long q3), .second, .val (.long q4), .second, .val (.long q5), .second, .val (.int p6), .val (.int (3 : Int32)), .val (.int x10), .val (.int x11), .val (.int x12), .val (.int x13), .val (.int x14), .val (.ref o), .val (.int x16), .val (.int y), .val (.long q5), .second]) rfl k) ?_
        refine own_go (fun _ k => XS.aload X0.here hx rfl (hb hby at_250) rfl rfl k) ?_
        refine own_go (fun _ k => XS.iload X0.here hx rfl (hb hby at_252) rfl k) ?_
        show own_Run p e below _ T0 (mkF m 254 #[.val (.int p1), .val (.int p2), .val (.long q3), .second, .val (.long q4), .second, .val (.long q5), .second, .val (.int p6), .val (.int (3 : Int32)), .val (.int x10), .val (.int x11), .val (.int x12), .val (.int x13), .val (.int x14), .val (.ref o), .val (.int x16), .val (.int y), .val (.long q5), .second] [(.int y), (.ref o)])
        obtain ⟨cq165, kq165, q165a, q165b, q165c⟩ := isOf hZ e0 E_o
        obtain ⟨_, _, ⟨T165, L165, k165, n165⟩, -, X165, ⟨Lc165, hQ165, l165, y165, z165⟩, st165⟩ := X0.virtualBack hx (y := (⟨"com/example/net_reducer/netreducer/analysis/Marking", "tokensOn", "(I)J"⟩ : MethodName)) (z := (⟨"com/example/net_reducer/netreducer/analysis/Marking", "tokensOn", "(I)J"⟩ : MethodName)) hown (mvT hZ (W 27 rfl)) (mvT hZ (W 28 rfl)) (notFace_of_selects (args := #[]) (mvT hZ (W 30 rfl))) (mvT hZ (W 30 rfl)) (mvT hZ (W 29 rfl)) (by decide) (backOf (W := 0) (rm5n3 l Z a0 hw [] o y b1 b2 k1 k2 x12 x13 x14 (0 : Int32) (0 : Int32) (0 : Int32) (0 : Int32) (0 : Int32) q3 q4 q5 (0 : Int64) (0 : Int64) (0 : Int64) (0 : Int64) (0 : Int64) q5 hh n0 Z0 E_o F_places_o F_tokens_o F_size_o V_b1 V_b2 (Or.inr (Or.inr (Or.inr (Or.inr (Or.inl ⟨hk0, hk1, hk2, rfl⟩)))))) hZ (W 31 rfl) (W 7 rfl) (by decide) (by decide)) q165a q165c (g := (mkF m 254 #[.val (.int p1), .val (.int p2), .val (.long q3), .second, .val (.long q4), .second, .val (.long q5), .second, .val (.int p6), .val (.int (3 : Int32)), .val (.int x10), .val (.int x11), .val (.int x12), .val (.int x13), .val (.int x14), .val (.ref o), .val (.int x16), .val (.int y), .val (.long q5), .second] [(.int y), (.ref o)])) rfl (by rw [hml]; rfl) (Steps.refl _) (argsL := [(.int y)]) (rest := []) (lenOf pd_3 rfl) rfl (by show 2 * 0 + _ ≤ _; exact Nat.le_of_eq rfl) (hb hby at_254) (fun _ _ => ⟨rfl, e0, (by decide : 3 + 0 ≤ _), (by decide : 19 + 0 ≤ _)⟩)
        dsimp only [Pt.U, Pt.locs, Pt.cells, Pt.slots] at X165 l165 y165 z165 st165 hQ165
        subst l165 y165 z165
        obtain ⟨rfl, N165q, e165⟩ := hQ165
        have N165 := Fr.app N0 N165q
        refine own_goT st165 ?_
        show own_Run p e below _ T165 (mkF m 257 #[.val (.int p1), .val (.int p2), .val (.long q3), .second, .val (.long q4), .second, .val (.long q5), .second, .val (.int p6), .val (.int (3 : Int32)), .val (.int x10), .val (.int x11), .val (.int x12), .val (.int x13), .val (.int x14), .val (.ref o), .val (.int x16), .val (.int y), .val (.long q5), .second] [(.long q5)])
        refine own_go (fun _ k => XS.lload X165.here hx rfl (hb hby at_257) rfl k) ?_
        refine own_go (fun _ k => XS.lcmp X165.here hx rfl (hb hby at_259) rfl k) ?_
        show own_Run p e below _ T165 (mkF m 260 #[.val (.int p1), .val (.int p2), .val (.long q3), .second, .val (.long q4), .second, .val (.long q5), .second, .val (.int p6), .val (.int (3 : Int32)), .val (.int x10), .val (.int x11), .val (.int x12), .val (.int x13), .val (.int x14), .val (.ref o), .val (.int x16), .val (.int y), .val (.long q5), .second] [(.int (lcmpW q5 q5))])
        refine own_go (fun _ k => XS.ifNo X165.here hx rfl (hb hby at_260) rfl (own_lcTe rfl).2 k) ?_
        show own_Run p e below _ T165 (mkF m 263 #[.val (.int p1), .val (.int p2), .val (.long q3), .second, .val (.long q4), .second, .val (.long q5), .second, .val (.int p6), .val (.int (3 : Int32)), .val (.int x10), .val (.int x11), .val (.int x12), .val (.int x13), .val (.int x14), .val (.ref o), .val (.int x16), .val (.int y), .val (.long q5), .second] [])
        refine own_go (fun _ k => XS.iconst X165.here hx rfl (hb hby at_263) k) ?_
        refine own_go (fun _ k => XS.goto X165.here hx rfl (pc0 := 264) (pc' := 268) rfl (hb hby at_264) (by decide) (by decide) k) ?_
        show own_Run p e below _ T165 (mkF m 268 #[.val (.int p1), .val (.int p2), .val (.long q3), .second, .val (.long q4), .second, .val (.long q5), .second, .val (.int p6), .val (.int (3 : Int32)), .val (.int x10), .val (.int x11), .val (.int x12), .val (.int x13), .val (.int x14), .val (.ref o), .val (.int x16), .val (.int y), .val (.long q5), .second] [(.int (1 : Int32))])
        refine own_done (Q := fun v h L => Q0 Z p1 p2 q3 q4 q5 p6 h0 n0 v h L) (v := (some (.int (1 : Int32)))) X165 (fun h => by rw [hret] at h; cases h) hlk (fun fs hr => retN X165 hx (t := .boolean) hret (by simp) (hb hby at_268) hr) ?_ (by decide) (by decide)
        show Q0 Z p1 p2 q3 q4 q5 p6 h0 n0 _ T165.heap _
        rw [e165]
        exact ⟨rfl, N165⟩
      · refine own_go (fun _ k => XS.lconst X0.here hx rfl (hb hby at_197) k) ?_
        refine own_go (fun _ k => XS.lstore X0.here hx rfl (hb hby at_198) rfl (l' := #[.val (.int p1), .val (.int p2), .val (.long q3), .second, .val (.long q4), .second, .val (.long q5), .second, .val (.int p6), .val (.int (3 : Int32)), .val (.int x10), .val (.int x11), .val (.int x12), .val (.int x13), .val (.int x14), .val (.ref o), .val (.int x16), .val (.int y), .val (.long (0 : Int64)), .second]) rfl k) ?_
        refine own_go (fun _ k => XS.iload X0.here hx rfl (hb hby at_200) rfl k) ?_
        refine own_go (fun _ k => XS.iconst X0.here hx rfl (hb hby at_202) k) ?_
        show own_Run p e below _ T0 (mkF m 203 #[.val (.int p1), .val (.int p2), .val (.long q3), .second, .val (.long q4), .second, .val (.long q5), .second, .val (.int p6), .val (.int (3 : Int32)), .val (.int x10), .val (.int x11), .val (.int x12), .val (.int x13), .val (.int x14), .val (.ref o), .val (.int x16), .val (.int y), .val (.long (0 : Int64)), .second] [(.int (1 : Int32)), (.int (3 : Int32))])
        refine own_go (fun _ k => XS.icmpNo X0.here hx rfl (hb hby at_203) rfl (flt (by decide : ¬ ((3 : Int32) < (1 : Int32)))).1 k) ?_
        show own_Run p e below _ T0 (mkF m 206 #[.val (.int p1), .val (.int p2), .val (.long q3), .second, .val (.long q4), .second, .val (.long q5), .second, .val (.int p6), .val (.int (3 : Int32)), .val (.int x10), .val (.int x11), .val (.int x12), .val (.int x13), .val (.int x14), .val (.ref o), .val (.int x16), .val (.int y), .val (.long (0 : Int64)), .second] [])
        refine own_go (fun _ k => XS.iload X0.here hx rfl (hb hby at_206) rfl k) ?_
        refine own_go (fun _ k => XS.iload X0.here hx rfl (hb hby at_208) rfl k) ?_
        show own_Run p e below _ T0 (mkF m 210 #[.val (.int p1), .val (.int p2), .val (.long q3), .second, .val (.long q4), .second, .val (.long q5), .second, .val (.int p6), .val (.int (3 : Int32)), .val (.int x10), .val (.int x11), .val (.int x12), .val (.int x13), .val (.int x14), .val (.ref o), .val (.int x16), .val (.int y), .val (.long (0 : Int64)), .second] [(.int x12), (.int y)])
        refine own_go (fun _ k => XS.icmpYes X0.here hx rfl (pc0 := 210) (pc' := 216) rfl (hb hby at_210) rfl (feq (own_neL hk0 : ¬ (y = x12))).2 (by decide) (by decide) k) ?_
        show own_Run p e below _ T0 (mkF m 216 #[.val (.int p1), .val (.int p2), .val (.long q3), .second, .val (.long q4), .second, .val (.long q5), .second, .val (.int p6), .val (.int (3 : Int32)), .val (.int x10), .val (.int x11), .val (.int x12), .val (.int x13), .val (.int x14), .val (.ref o), .val (.int x16), .val (.int y), .val (.long (0 : Int64)), .second] [])
        refine own_go (fun _ k => XS.iload X0.here hx rfl (hb hby at_216) rfl k) ?_
        refine own_go (fun _ k => XS.iconst X0.here hx rfl (hb hby at_218) k) ?_
        show own_Run p e below _ T0 (mkF m 219 #[.val (.int p1), .val (.int p2), .val (.long q3), .second, .val (.long q4), .second, .val (.long q5), .second, .val (.int p6), .val (.int (3 : Int32)), .val (.int x10), .val (.int x11), .val (.int x12), .val (.int x13), .val (.int x14), .val (.ref o), .val (.int x16), .val (.int y), .val (.long (0 : Int64)), .second] [(.int (2 : Int32)), (.int (3 : Int32))])
        refine own_go (fun _ k => XS.icmpNo X0.here hx rfl (hb hby at_219) rfl (flt (by decide : ¬ ((3 : Int32) < (2 : Int32)))).1 k) ?_
        show own_Run p e below _ T0 (mkF m 222 #[.val (.int p1), .val (.int p2), .val (.long q3), .second, .val (.long q4), .second, .val (.long q5), .second, .val (.int p6), .val (.int (3 : Int32)), .val (.int x10), .val (.int x11), .val (.int x12), .val (.int x13), .val (.int x14), .val (.ref o), .val (.int x16), .val (.int y), .val (.long (0 : Int64)), .second] [])
        refine own_go (fun _ k => XS.iload X0.here hx rfl (hb hby at_222) rfl k) ?_
        refine own_go (fun _ k => XS.iload X0.here hx rfl (hb hby at_224) rfl k) ?_
        show own_Run p e below _ T0 (mkF m 226 #[.val (.int p1), .val (.int p2), .val (.long q3), .second, .val (.long q4), .second, .val (.long q5), .second, .val (.int p6), .val (.int (3 : Int32)), .val (.int x10), .val (.int x11), .val (.int x12), .val (.int x13), .val (.int x14), .val (.ref o), .val (.int x16), .val (.int y), .val (.long (0 : Int64)), .second] [(.int x13), (.int y)])
        refine own_go (fun _ k => XS.icmpYes X0.here hx rfl (pc0 := 226) (pc' := 233) rfl (hb hby at_226) rfl (feq (own_neL hk1 : ¬ (y = x13))).2 (by decide) (by decide) k) ?_
        show own_Run p e below _ T0 (mkF m 233 #[.val (.int p1), .val (.int p2), .val (.long q3), .second, .val (.long q4), .second, .val (.long q5), .second, .val (.int p6), .val (.int (3 : Int32)), .val (.int x10), .val (.int x11), .val (.int x12), .val (.int x13), .val (.int x14), .val (.ref o), .val (.int x16), .val (.int y), .val (.long (0 : Int64)), .second] [])
        refine own_go (fun _ k => XS.iload X0.here hx rfl (hb hby at_233) rfl k) ?_
        refine own_go (fun _ k => XS.iconst X0.here hx rfl (hb hby at_235) k) ?_
        show own_Run p e below _ T0 (mkF m 236 #[.val (.int p1), .val (.int p2), .val (.long q3), .second, .val (.long q4), .second, .val (.long q5), .second, .val (.int p6), .val (.int (3 : Int32)), .val (.int x10), .val (.int x11), .val (.int x12), .val (.int x13), .val (.int x14), .val (.ref o), .val (.int x16), .val (.int y), .val (.long (0 : Int64)), .second] [(.int (3 : Int32)), (.int (3 : Int32))])
        refine own_go (fun _ k => XS.icmpNo X0.here hx rfl (hb hby at_236) rfl (flt (by decide : ¬ ((3 : Int32) < (3 : Int32)))).1 k) ?_
        show own_Run p e below _ T0 (mkF m 239 #[.val (.int p1), .val (.int p2), .val (.long q3), .second, .val (.long q4), .second, .val (.long q5), .second, .val (.int p6), .val (.int (3 : Int32)), .val (.int x10), .val (.int x11), .val (.int x12), .val (.int x13), .val (.int x14), .val (.ref o), .val (.int x16), .val (.int y), .val (.long (0 : Int64)), .second] [])
        refine own_go (fun _ k => XS.iload X0.here hx rfl (hb hby at_239) rfl k) ?_
        refine own_go (fun _ k => XS.iload X0.here hx rfl (hb hby at_241) rfl k) ?_
        show own_Run p e below _ T0 (mkF m 243 #[.val (.int p1), .val (.int p2), .val (.long q3), .second, .val (.long q4), .second, .val (.long q5), .second, .val (.int p6), .val (.int (3 : Int32)), .val (.int x10), .val (.int x11), .val (.int x12), .val (.int x13), .val (.int x14), .val (.ref o), .val (.int x16), .val (.int y), .val (.long (0 : Int64)), .second] [(.int x14), (.int y)])
        refine own_go (fun _ k => XS.icmpYes X0.here hx rfl (pc0 := 243) (pc' := 250) rfl (hb hby at_243) rfl (feq (own_neR hk2 : ¬ (y = x14))).2 (by decide) (by decide) k) ?_
        show own_Run p e below _ T0 (mkF m 250 #[.val (.int p1), .val (.int p2), .val (.long q3), .second, .val (.long q4), .second, .val (.long q5), .second, .val (.int p6), .val (.int (3 : Int32)), .val (.int x10), .val (.int x11), .val (.int x12), .val (.int x13), .val (.int x14), .val (.ref o), .val (.int x16), .val (.int y), .val (.long (0 : Int64)), .second] [])
        refine own_go (fun _ k => XS.aload X0.here hx rfl (hb hby at_250) rfl rfl k) ?_
        refine own_go (fun _ k => XS.iload X0.here hx rfl (hb hby at_252) rfl k) ?_
        show own_Run p e below _ T0 (mkF m 254 #[.val (.int p1), .val (.int p2), .val (.long q3), .second, .val (.long q4), .second, .val (.long q5), .second, .val (.int p6), .val (.int (3 : Int32)), .val (.int x10), .val (.int x11), .val (.int x12), .val (.int x13), .val (.int x14), .val (.ref o), .val (.int x16), .val (.int y), .val (.long (0 : Int64)), .second] [(.int y), (.ref o)])
        obtain ⟨cq166, kq166, q166a, q166b, q166c⟩ := isOf hZ e0 E_o
        obtain ⟨_, _, ⟨T166, L166, k166, n166⟩, -, X166, ⟨Lc166, hQ166, l166, y166, z166⟩, st166⟩ := X0.virtualBack hx (y := (⟨"com/example/net_reducer/netreducer/analysis/Marking", "tokensOn", "(I)J"⟩ : MethodName)) (z := (⟨"com/example/net_reducer/netreducer/analysis/Marking", "tokensOn", "(I)J"⟩ : MethodName)) hown (mvT hZ (W 27 rfl)) (mvT hZ (W 28 rfl)) (notFace_of_selects (args := #[]) (mvT hZ (W 30 rfl))) (mvT hZ (W 30 rfl)) (mvT hZ (W 29 rfl)) (by decide) (backOf (W := 0) (rm5n3 l Z a0 hw [] o y b1 b2 k1 k2 x12 x13 x14 (0 : Int32) (0 : Int32) (0 : Int32) (0 : Int32) (0 : Int32) q3 q4 q5 (0 : Int64) (0 : Int64) (0 : Int64) (0 : Int64) (0 : Int64) (0 : Int64) hh n0 Z0 E_o F_places_o F_tokens_o F_size_o V_b1 V_b2 (Or.inr (Or.inr (Or.inr (Or.inr (Or.inr (Or.inl ⟨hk0, hk1, hk2, rfl⟩))))))) hZ (W 31 rfl) (W 7 rfl) (by decide) (by decide)) q166a q166c (g := (mkF m 254 #[.val (.int p1), .val (.int p2), .val (.long q3), .second, .val (.long q4), .second, .val (.long q5), .second, .val (.int p6), .val (.int (3 : Int32)), .val (.int x10), .val (.int x11), .val (.int x12), .val (.int x13), .val (.int x14), .val (.ref o), .val (.int x16), .val (.int y), .val (.long (0 : Int64)), .second] [(.int y), (.ref o)])) rfl (by rw [hml]; rfl) (Steps.refl _) (argsL := [(.int y)]) (rest := []) (lenOf pd_3 rfl) rfl (by show 2 * 0 + _ ≤ _; exact Nat.le_of_eq rfl) (hb hby at_254) (fun _ _ => ⟨rfl, e0, (by decide : 3 + 0 ≤ _), (by decide : 19 + 0 ≤ _)⟩)
        dsimp only [Pt.U, Pt.locs, Pt.cells, Pt.slots] at X166 l166 y166 z166 st166 hQ166
        subst l166 y166 z166
        obtain ⟨rfl, N166q, e166⟩ := hQ166
        have N166 := Fr.app N0 N166q
        refine own_goT st166 ?_
        show own_Run p e below _ T166 (mkF m 257 #[.val (.int p1), .val (.int p2), .val (.long q3), .second, .val (.long q4), .second, .val (.long q5), .second, .val (.int p6), .val (.int (3 : Int32)), .val (.int x10), .val (.int x11), .val (.int x12), .val (.int x13), .val (.int x14), .val (.ref o), .val (.int x16), .val (.int y), .val (.long (0 : Int64)), .second] [(.long (0 : Int64))])
        refine own_go (fun _ k => XS.lload X166.here hx rfl (hb hby at_257) rfl k) ?_
        refine own_go (fun _ k => XS.lcmp X166.here hx rfl (hb hby at_259) rfl k) ?_
        show own_Run p e below _ T166 (mkF m 260 #[.val (.int p1), .val (.int p2), .val (.long q3), .second, .val (.long q4), .second, .val (.long q5), .second, .val (.int p6), .val (.int (3 : Int32)), .val (.int x10), .val (.int x11), .val (.int x12), .val (.int x13), .val (.int x14), .val (.ref o), .val (.int x16), .val (.int y), .val (.long (0 : Int64)), .second] [(.int (lcmpW (0 : Int64) (0 : Int64)))])
        refine own_go (fun _ k => XS.ifNo X166.here hx rfl (hb hby at_260) rfl (own_lcTe (by decide : (0 : Int64) = (0 : Int64))).2 k) ?_
        show own_Run p e below _ T166 (mkF m 263 #[.val (.int p1), .val (.int p2), .val (.long q3), .second, .val (.long q4), .second, .val (.long q5), .second, .val (.int p6), .val (.int (3 : Int32)), .val (.int x10), .val (.int x11), .val (.int x12), .val (.int x13), .val (.int x14), .val (.ref o), .val (.int x16), .val (.int y), .val (.long (0 : Int64)), .second] [])
        refine own_go (fun _ k => XS.iconst X166.here hx rfl (hb hby at_263) k) ?_
        refine own_go (fun _ k => XS.goto X166.here hx rfl (pc0 := 264) (pc' := 268) rfl (hb hby at_264) (by decide) (by decide) k) ?_
        show own_Run p e below _ T166 (mkF m 268 #[.val (.int p1), .val (.int p2), .val (.long q3), .second, .val (.long q4), .second, .val (.long q5), .second, .val (.int p6), .val (.int (3 : Int32)), .val (.int x10), .val (.int x11), .val (.int x12), .val (.int x13), .val (.int x14), .val (.ref o), .val (.int x16), .val (.int y), .val (.long (0 : Int64)), .second] [(.int (1 : Int32))])
        refine own_done (Q := fun v h L => Q0 Z p1 p2 q3 q4 q5 p6 h0 n0 v h L) (v := (some (.int (1 : Int32)))) X166 (fun h => by rw [hret] at h; cases h) hlk (fun fs hr => retN X166 hx (t := .boolean) hret (by simp) (hb hby at_268) hr) ?_ (by decide) (by decide)
        show Q0 Z p1 p2 q3 q4 q5 p6 h0 n0 _ T166.heap _
        rw [e166]
        exact ⟨rfl, N166⟩
    · have hk2 : y < x14 := (hk1 ▸ hl2)
      refine own_go (fun _ k => XS.lconst X0.here hx rfl (hb hby at_197) k) ?_
      refine own_go (fun _ k => XS.lstore X0.here hx rfl (hb hby at_198) rfl (l' := #[.val (.int p1), .val (.int p2), .val (.long q3), .second, .val (.long q4), .second, .val (.long q5), .second, .val (.int p6), .val (.int (3 : Int32)), .val (.int x10), .val (.int x11), .val (.int x12), .val (.int x13), .val (.int x14), .val (.ref o), .val (.int x16), .val (.int y), .val (.long (0 : Int64)), .second]) rfl k) ?_
      refine own_go (fun _ k => XS.iload X0.here hx rfl (hb hby at_200) rfl k) ?_
      refine own_go (fun _ k => XS.iconst X0.here hx rfl (hb hby at_202) k) ?_
      show own_Run p e below _ T0 (mkF m 203 #[.val (.int p1), .val (.int p2), .val (.long q3), .second, .val (.long q4), .second, .val (.long q5), .second, .val (.int p6), .val (.int (3 : Int32)), .val (.int x10), .val (.int x11), .val (.int x12), .val (.int x13), .val (.int x14), .val (.ref o), .val (.int x16), .val (.int y), .val (.long (0 : Int64)), .second] [(.int (1 : Int32)), (.int (3 : Int32))])
      refine own_go (fun _ k => XS.icmpNo X0.here hx rfl (hb hby at_203) rfl (flt (by decide : ¬ ((3 : Int32) < (1 : Int32)))).1 k) ?_
      show own_Run p e below _ T0 (mkF m 206 #[.val (.int p1), .val (.int p2), .val (.long q3), .second, .val (.long q4), .second, .val (.long q5), .second, .val (.int p6), .val (.int (3 : Int32)), .val (.int x10), .val (.int x11), .val (.int x12), .val (.int x13), .val (.int x14), .val (.ref o), .val (.int x16), .val (.int y), .val (.long (0 : Int64)), .second] [])
      refine own_go (fun _ k => XS.iload X0.here hx rfl (hb hby at_206) rfl k) ?_
      refine own_go (fun _ k => XS.iload X0.here hx rfl (hb hby at_208) rfl k) ?_
      show own_Run p e below _ T0 (mkF m 210 #[.val (.int p1), .val (.int p2), .val (.long q3), .second, .val (.long q4), .second, .val (.long q5), .second, .val (.int p6), .val (.int (3 : Int32)), .val (.int x10), .val (.int x11), .val (.int x12), .val (.int x13), .val (.int x14), .val (.ref o), .val (.int x16), .val (.int y), .val (.long (0 : Int64)), .second] [(.int x12), (.int y)])
      refine own_go (fun _ k => XS.icmpYes X0.here hx rfl (pc0 := 210) (pc' := 216) rfl (hb hby at_210) rfl (feq (own_neL hk0 : ¬ (y = x12))).2 (by decide) (by decide) k) ?_
      show own_Run p e below _ T0 (mkF m 216 #[.val (.int p1), .val (.int p2), .val (.long q3), .second, .val (.long q4), .second, .val (.long q5), .second, .val (.int p6), .val (.int (3 : Int32)), .val (.int x10), .val (.int x11), .val (.int x12), .val (.int x13), .val (.int x14), .val (.ref o), .val (.int x16), .val (.int y), .val (.long (0 : Int64)), .second] [])
      refine own_go (fun _ k => XS.iload X0.here hx rfl (hb hby at_216) rfl k) ?_
      refine own_go (fun _ k => XS.iconst X0.here hx rfl (hb hby at_218) k) ?_
      show own_Run p e below _ T0 (mkF m 219 #[.val (.int p1), .val (.int p2), .val (.long q3), .second, .val (.long q4), .second, .val (.long q5), .second, .val (.int p6), .val (.int (3 : Int32)), .val (.int x10), .val (.int x11), .val (.int x12), .val (.int x13), .val (.int x14), .val (.ref o), .val (.int x16), .val (.int y), .val (.long (0 : Int64)), .second] [(.int (2 : Int32)), (.int (3 : Int32))])
      refine own_go (fun _ k => XS.icmpNo X0.here hx rfl (hb hby at_219) rfl (flt (by decide : ¬ ((3 : Int32) < (2 : Int32)))).1 k) ?_
      show own_Run p e below _ T0 (mkF m 222 #[.val (.int p1), .val (.int p2), .val (.long q3), .second, .val (.long q4), .second, .val (.long q5), .second, .val (.int p6), .val (.int (3 : Int32)), .val (.int x10), .val (.int x11), .val (.int x12), .val (.int x13), .val (.int x14), .val (.ref o), .val (.int x16), .val (.int y), .val (.long (0 : Int64)), .second] [])
      refine own_go (fun _ k => XS.iload X0.here hx rfl (hb hby at_222) rfl k) ?_
      refine own_go (fun _ k => XS.iload X0.here hx rfl (hb hby at_224) rfl k) ?_
      show own_Run p e below _ T0 (mkF m 226 #[.val (.int p1), .val (.int p2), .val (.long q3), .second, .val (.long q4), .second, .val (.long q5), .second, .val (.int p6), .val (.int (3 : Int32)), .val (.int x10), .val (.int x11), .val (.int x12), .val (.int x13), .val (.int x14), .val (.ref o), .val (.int x16), .val (.int y), .val (.long (0 : Int64)), .second] [(.int x13), (.int y)])
      refine own_go (fun _ k => XS.icmpNo X0.here hx rfl (hb hby at_226) rfl (teq (hk1.symm : y = x13)).2 k) ?_
      show own_Run p e below _ T0 (mkF m 229 #[.val (.int p1), .val (.int p2), .val (.long q3), .second, .val (.long q4), .second, .val (.long q5), .second, .val (.int p6), .val (.int (3 : Int32)), .val (.int x10), .val (.int x11), .val (.int x12), .val (.int x13), .val (.int x14), .val (.ref o), .val (.int x16), .val (.int y), .val (.long (0 : Int64)), .second] [])
      refine own_go (fun _ k => XS.lload X0.here hx rfl (hb hby at_229) rfl k) ?_
      refine own_go (fun _ k => XS.lstore X0.here hx rfl (hb hby at_231) rfl (l' := #[.val (.int p1), .val (.int p2), .val (.long q3), .second, .val (.long q4), .second, .val (.long q5), .second, .val (.int p6), .val (.int (3 : Int32)), .val (.int x10), .val (.int x11), .val (.int x12), .val (.int x13), .val (.int x14), .val (.ref o), .val (.int x16), .val (.int y), .val (.long q4), .second]) rfl k) ?_
      refine own_go (fun _ k => XS.iload X0.here hx rfl (hb hby at_233) rfl k) ?_
      refine own_go (fun _ k => XS.iconst X0.here hx rfl (hb hby at_235) k) ?_
      show own_Run p e below _ T0 (mkF m 236 #[.val (.int p1), .val (.int p2), .val (.long q3), .second, .val (.long q4), .second, .val (.long q5), .second, .val (.int p6), .val (.int (3 : Int32)), .val (.int x10), .val (.int x11), .val (.int x12), .val (.int x13), .val (.int x14), .val (.ref o), .val (.int x16), .val (.int y), .val (.long q4), .second] [(.int (3 : Int32)), (.int (3 : Int32))])
      refine own_go (fun _ k => XS.icmpNo X0.here hx rfl (hb hby at_236) rfl (flt (by decide : ¬ ((3 : Int32) < (3 : Int32)))).1 k) ?_
      show own_Run p e below _ T0 (mkF m 239 #[.val (.int p1), .val (.int p2), .val (.long q3), .second, .val (.long q4), .second, .val (.long q5), .second, .val (.int p6), .val (.int (3 : Int32)), .val (.int x10), .val (.int x11), .val (.int x12), .val (.int x13), .val (.int x14), .val (.ref o), .val (.int x16), .val (.int y), .val (.long q4), .second] [])
      refine own_go (fun _ k => XS.iload X0.here hx rfl (hb hby at_239) rfl k) ?_
      refine own_go (fun _ k => XS.iload X0.here hx rfl (hb hby at_241) rfl k) ?_
      show own_Run p e below _ T0 (mkF m 243 #[.val (.int p1), .val (.int p2), .val (.long q3), .second, .val (.long q4), .second, .val (.long q5), .second, .val (.int p6), .val (.int (3 : Int32)), .val (.int x10), .val (.int x11), .val (.int x12), .val (.int x13), .val (.int x14), .val (.ref o), .val (.int x16), .val (.int y), .val (.long q4), .second] [(.int x14), (.int y)])
      refine own_go (fun _ k => XS.icmpYes X0.here hx rfl (pc0 := 243) (pc' := 250) rfl (hb hby at_243) rfl (feq (own_neR hk2 : ¬ (y = x14))).2 (by decide) (by decide) k) ?_
      show own_Run p e below _ T0 (mkF m 250 #[.val (.int p1), .val (.int p2), .val (.long q3), .second, .val (.long q4), .second, .val (.long q5), .second, .val (.int p6), .val (.int (3 : Int32)), .val (.int x10), .val (.int x11), .val (.int x12), .val (.int x13), .val (.int x14), .val (.ref o), .val (.int x16), .val (.int y), .val (.long q4), .second] [])
      refine own_go (fun _ k => XS.aload X0.here hx rfl (hb hby at_250) rfl rfl k) ?_
      refine own_go (fun _ k => XS.iload X0.here hx rfl (hb hby at_252) rfl k) ?_
      show own_Run p e below _ T0 (mkF m 254 #[.val (.int p1), .val (.int p2), .val (.long q3), .second, .val (.long q4), .second, .val (.long q5), .second, .val (.int p6), .val (.int (3 : Int32)), .val (.int x10), .val (.int x11), .val (.int x12), .val (.int x13), .val (.int x14), .val (.ref o), .val (.int x16), .val (.int y), .val (.long q4), .second] [(.int y), (.ref o)])
      obtain ⟨cq167, kq167, q167a, q167b, q167c⟩ := isOf hZ e0 E_o
      obtain ⟨_, _, ⟨T167, L167, k167, n167⟩, -, X167, ⟨Lc167, hQ167, l167, y167, z167⟩, st167⟩ := X0.virtualBack hx (y := (⟨"com/example/net_reducer/netreducer/analysis/Marking", "tokensOn", "(I)J"⟩ : MethodName)) (z := (⟨"com/example/net_reducer/netreducer/analysis/Marking", "tokensOn", "(I)J"⟩ : MethodName)) hown (mvT hZ (W 27 rfl)) (mvT hZ (W 28 rfl)) (notFace_of_selects (args := #[]) (mvT hZ (W 30 rfl))) (mvT hZ (W 30 rfl)) (mvT hZ (W 29 rfl)) (by decide) (backOf (W := 0) (rm5n3 l Z a0 hw [] o y b1 b2 k1 k2 x12 x13 x14 (0 : Int32) (0 : Int32) (0 : Int32) (0 : Int32) (0 : Int32) q3 q4 q5 (0 : Int64) (0 : Int64) (0 : Int64) (0 : Int64) (0 : Int64) q4 hh n0 Z0 E_o F_places_o F_tokens_o F_size_o V_b1 V_b2 (Or.inr (Or.inr (Or.inl ⟨hk0, hk1, hk2, rfl⟩)))) hZ (W 31 rfl) (W 7 rfl) (by decide) (by decide)) q167a q167c (g := (mkF m 254 #[.val (.int p1), .val (.int p2), .val (.long q3), .second, .val (.long q4), .second, .val (.long q5), .second, .val (.int p6), .val (.int (3 : Int32)), .val (.int x10), .val (.int x11), .val (.int x12), .val (.int x13), .val (.int x14), .val (.ref o), .val (.int x16), .val (.int y), .val (.long q4), .second] [(.int y), (.ref o)])) rfl (by rw [hml]; rfl) (Steps.refl _) (argsL := [(.int y)]) (rest := []) (lenOf pd_3 rfl) rfl (by show 2 * 0 + _ ≤ _; exact Nat.le_of_eq rfl) (hb hby at_254) (fun _ _ => ⟨rfl, e0, (by decide : 3 + 0 ≤ _), (by decide : 19 + 0 ≤ _)⟩)
      dsimp only [Pt.U, Pt.locs, Pt.cells, Pt.slots] at X167 l167 y167 z167 st167 hQ167
      subst l167 y167 z167
      obtain ⟨rfl, N167q, e167⟩ := hQ167
      have N167 := Fr.app N0 N167q
      refine own_goT st167 ?_
      show own_Run p e below _ T167 (mkF m 257 #[.val (.int p1), .val (.int p2), .val (.long q3), .second, .val (.long q4), .second, .val (.long q5), .second, .val (.int p6), .val (.int (3 : Int32)), .val (.int x10), .val (.int x11), .val (.int x12), .val (.int x13), .val (.int x14), .val (.ref o), .val (.int x16), .val (.int y), .val (.long q4), .second] [(.long q4)])
      refine own_go (fun _ k => XS.lload X167.here hx rfl (hb hby at_257) rfl k) ?_
      refine own_go (fun _ k => XS.lcmp X167.here hx rfl (hb hby at_259) rfl k) ?_
      show own_Run p e below _ T167 (mkF m 260 #[.val (.int p1), .val (.int p2), .val (.long q3), .second, .val (.long q4), .second, .val (.long q5), .second, .val (.int p6), .val (.int (3 : Int32)), .val (.int x10), .val (.int x11), .val (.int x12), .val (.int x13), .val (.int x14), .val (.ref o), .val (.int x16), .val (.int y), .val (.long q4), .second] [(.int (lcmpW q4 q4))])
      refine own_go (fun _ k => XS.ifNo X167.here hx rfl (hb hby at_260) rfl (own_lcTe rfl).2 k) ?_
      show own_Run p e below _ T167 (mkF m 263 #[.val (.int p1), .val (.int p2), .val (.long q3), .second, .val (.long q4), .second, .val (.long q5), .second, .val (.int p6), .val (.int (3 : Int32)), .val (.int x10), .val (.int x11), .val (.int x12), .val (.int x13), .val (.int x14), .val (.ref o), .val (.int x16), .val (.int y), .val (.long q4), .second] [])
      refine own_go (fun _ k => XS.iconst X167.here hx rfl (hb hby at_263) k) ?_
      refine own_go (fun _ k => XS.goto X167.here hx rfl (pc0 := 264) (pc' := 268) rfl (hb hby at_264) (by decide) (by decide) k) ?_
      show own_Run p e below _ T167 (mkF m 268 #[.val (.int p1), .val (.int p2), .val (.long q3), .second, .val (.long q4), .second, .val (.long q5), .second, .val (.int p6), .val (.int (3 : Int32)), .val (.int x10), .val (.int x11), .val (.int x12), .val (.int x13), .val (.int x14), .val (.ref o), .val (.int x16), .val (.int y), .val (.long q4), .second] [(.int (1 : Int32))])
      refine own_done (Q := fun v h L => Q0 Z p1 p2 q3 q4 q5 p6 h0 n0 v h L) (v := (some (.int (1 : Int32)))) X167 (fun h => by rw [hret] at h; cases h) hlk (fun fs hr => retN X167 hx (t := .boolean) hret (by simp) (hb hby at_268) hr) ?_ (by decide) (by decide)
      show Q0 Z p1 p2 q3 q4 q5 p6 h0 n0 _ T167.heap _
      rw [e167]
      exact ⟨rfl, N167⟩
    · have hk2 : y < x14 := (own_trI hk1 hl2)
      refine own_go (fun _ k => XS.lconst X0.here hx rfl (hb hby at_197) k) ?_
      refine own_go (fun _ k => XS.lstore X0.here hx rfl (hb hby at_198) rfl (l' := #[.val (.int p1), .val (.int p2), .val (.long q3), .second, .val (.long q4), .second, .val (.long q5), .second, .val (.int p6), .val (.int (3 : Int32)), .val (.int x10), .val (.int x11), .val (.int x12), .val (.int x13), .val (.int x14), .val (.ref o), .val (.int x16), .val (.int y), .val (.long (0 : Int64)), .second]) rfl k) ?_
      refine own_go (fun _ k => XS.iload X0.here hx rfl (hb hby at_200) rfl k) ?_
      refine own_go (fun _ k => XS.iconst X0.here hx rfl (hb hby at_202) k) ?_
      show own_Run p e below _ T0 (mkF m 203 #[.val (.int p1), .val (.int p2), .val (.long q3), .second, .val (.long q4), .second, .val (.long q5), .second, .val (.int p6), .val (.int (3 : Int32)), .val (.int x10), .val (.int x11), .val (.int x12), .val (.int x13), .val (.int x14), .val (.ref o), .val (.int x16), .val (.int y), .val (.long (0 : Int64)), .second] [(.int (1 : Int32)), (.int (3 : Int32))])
      refine own_go (fun _ k => XS.icmpNo X0.here hx rfl (hb hby at_203) rfl (flt (by decide : ¬ ((3 : Int32) < (1 : Int32)))).1 k) ?_
      show own_Run p e below _ T0 (mkF m 206 #[.val (.int p1), .val (.int p2), .val (.long q3), .second, .val (.long q4), .second, .val (.long q5), .second, .val (.int p6), .val (.int (3 : Int32)), .val (.int x10), .val (.int x11), .val (.int x12), .val (.int x13), .val (.int x14), .val (.ref o), .val (.int x16), .val (.int y), .val (.long (0 : Int64)), .second] [])
      refine own_go (fun _ k => XS.iload X0.here hx rfl (hb hby at_206) rfl k) ?_
      refine own_go (fun _ k => XS.iload X0.here hx rfl (hb hby at_208) rfl k) ?_
      show own_Run p e below _ T0 (mkF m 210 #[.val (.int p1), .val (.int p2), .val (.long q3), .second, .val (.long q4), .second, .val (.long q5), .second, .val (.int p6), .val (.int (3 : Int32)), .val (.int x10), .val (.int x11), .val (.int x12), .val (.int x13), .val (.int x14), .val (.ref o), .val (.int x16), .val (.int y), .val (.long (0 : Int64)), .second] [(.int x12), (.int y)])
      refine own_go (fun _ k => XS.icmpYes X0.here hx rfl (pc0 := 210) (pc' := 216) rfl (hb hby at_210) rfl (feq (own_neL hk0 : ¬ (y = x12))).2 (by decide) (by decide) k) ?_
      show own_Run p e below _ T0 (mkF m 216 #[.val (.int p1), .val (.int p2), .val (.long q3), .second, .val (.long q4), .second, .val (.long q5), .second, .val (.int p6), .val (.int (3 : Int32)), .val (.int x10), .val (.int x11), .val (.int x12), .val (.int x13), .val (.int x14), .val (.ref o), .val (.int x16), .val (.int y), .val (.long (0 : Int64)), .second] [])
      refine own_go (fun _ k => XS.iload X0.here hx rfl (hb hby at_216) rfl k) ?_
      refine own_go (fun _ k => XS.iconst X0.here hx rfl (hb hby at_218) k) ?_
      show own_Run p e below _ T0 (mkF m 219 #[.val (.int p1), .val (.int p2), .val (.long q3), .second, .val (.long q4), .second, .val (.long q5), .second, .val (.int p6), .val (.int (3 : Int32)), .val (.int x10), .val (.int x11), .val (.int x12), .val (.int x13), .val (.int x14), .val (.ref o), .val (.int x16), .val (.int y), .val (.long (0 : Int64)), .second] [(.int (2 : Int32)), (.int (3 : Int32))])
      refine own_go (fun _ k => XS.icmpNo X0.here hx rfl (hb hby at_219) rfl (flt (by decide : ¬ ((3 : Int32) < (2 : Int32)))).1 k) ?_
      show own_Run p e below _ T0 (mkF m 222 #[.val (.int p1), .val (.int p2), .val (.long q3), .second, .val (.long q4), .second, .val (.long q5), .second, .val (.int p6), .val (.int (3 : Int32)), .val (.int x10), .val (.int x11), .val (.int x12), .val (.int x13), .val (.int x14), .val (.ref o), .val (.int x16), .val (.int y), .val (.long (0 : Int64)), .second] [])
      refine own_go (fun _ k => XS.iload X0.here hx rfl (hb hby at_222) rfl k) ?_
      refine own_go (fun _ k => XS.iload X0.here hx rfl (hb hby at_224) rfl k) ?_
      show own_Run p e below _ T0 (mkF m 226 #[.val (.int p1), .val (.int p2), .val (.long q3), .second, .val (.long q4), .second, .val (.long q5), .second, .val (.int p6), .val (.int (3 : Int32)), .val (.int x10), .val (.int x11), .val (.int x12), .val (.int x13), .val (.int x14), .val (.ref o), .val (.int x16), .val (.int y), .val (.long (0 : Int64)), .second] [(.int x13), (.int y)])
      refine own_go (fun _ k => XS.icmpYes X0.here hx rfl (pc0 := 226) (pc' := 233) rfl (hb hby at_226) rfl (feq (own_neR hk1 : ¬ (y = x13))).2 (by decide) (by decide) k) ?_
      show own_Run p e below _ T0 (mkF m 233 #[.val (.int p1), .val (.int p2), .val (.long q3), .second, .val (.long q4), .second, .val (.long q5), .second, .val (.int p6), .val (.int (3 : Int32)), .val (.int x10), .val (.int x11), .val (.int x12), .val (.int x13), .val (.int x14), .val (.ref o), .val (.int x16), .val (.int y), .val (.long (0 : Int64)), .second] [])
      refine own_go (fun _ k => XS.iload X0.here hx rfl (hb hby at_233) rfl k) ?_
      refine own_go (fun _ k => XS.iconst X0.here hx rfl (hb hby at_235) k) ?_
      show own_Run p e below _ T0 (mkF m 236 #[.val (.int p1), .val (.int p2), .val (.long q3), .second, .val (.long q4), .second, .val (.long q5), .second, .val (.int p6), .val (.int (3 : Int32)), .val (.int x10), .val (.int x11), .val (.int x12), .val (.int x13), .val (.int x14), .val (.ref o), .val (.int x16), .val (.int y), .val (.long (0 : Int64)), .second] [(.int (3 : Int32)), (.int (3 : Int32))])
      refine own_go (fun _ k => XS.icmpNo X0.here hx rfl (hb hby at_236) rfl (flt (by decide : ¬ ((3 : Int32) < (3 : Int32)))).1 k) ?_
      show own_Run p e below _ T0 (mkF m 239 #[.val (.int p1), .val (.int p2), .val (.long q3), .second, .val (.long q4), .second, .val (.long q5), .second, .val (.int p6), .val (.int (3 : Int32)), .val (.int x10), .val (.int x11), .val (.int x12), .val (.int x13), .val (.int x14), .val (.ref o), .val (.int x16), .val (.int y), .val (.long (0 : Int64)), .second] [])
      refine own_go (fun _ k => XS.iload X0.here hx rfl (hb hby at_239) rfl k) ?_
      refine own_go (fun _ k => XS.iload X0.here hx rfl (hb hby at_241) rfl k) ?_
      show own_Run p e below _ T0 (mkF m 243 #[.val (.int p1), .val (.int p2), .val (.long q3), .second, .val (.long q4), .second, .val (.long q5), .second, .val (.int p6), .val (.int (3 : Int32)), .val (.int x10), .val (.int x11), .val (.int x12), .val (.int x13), .val (.int x14), .val (.ref o), .val (.int x16), .val (.int y), .val (.long (0 : Int64)), .second] [(.int x14), (.int y)])
      refine own_go (fun _ k => XS.icmpYes X0.here hx rfl (pc0 := 243) (pc' := 250) rfl (hb hby at_243) rfl (feq (own_neR hk2 : ¬ (y = x14))).2 (by decide) (by decide) k) ?_
      show own_Run p e below _ T0 (mkF m 250 #[.val (.int p1), .val (.int p2), .val (.long q3), .second, .val (.long q4), .second, .val (.long q5), .second, .val (.int p6), .val (.int (3 : Int32)), .val (.int x10), .val (.int x11), .val (.int x12), .val (.int x13), .val (.int x14), .val (.ref o), .val (.int x16), .val (.int y), .val (.long (0 : Int64)), .second] [])
      refine own_go (fun _ k => XS.aload X0.here hx rfl (hb hby at_250) rfl rfl k) ?_
      refine own_go (fun _ k => XS.iload X0.here hx rfl (hb hby at_252) rfl k) ?_
      show own_Run p e below _ T0 (mkF m 254 #[.val (.int p1), .val (.int p2), .val (.long q3), .second, .val (.long q4), .second, .val (.long q5), .second, .val (.int p6), .val (.int (3 : Int32)), .val (.int x10), .val (.int x11), .val (.int x12), .val (.int x13), .val (.int x14), .val (.ref o), .val (.int x16), .val (.int y), .val (.long (0 : Int64)), .second] [(.int y), (.ref o)])
      obtain ⟨cq168, kq168, q168a, q168b, q168c⟩ := isOf hZ e0 E_o
      obtain ⟨_, _, ⟨T168, L168, k168, n168⟩, -, X168, ⟨Lc168, hQ168, l168, y168, z168⟩, st168⟩ := X0.virtualBack hx (y := (⟨"com/example/net_reducer/netreducer/analysis/Marking", "tokensOn", "(I)J"⟩ : MethodName)) (z := (⟨"com/example/net_reducer/netreducer/analysis/Marking", "tokensOn", "(I)J"⟩ : MethodName)) hown (mvT hZ (W 27 rfl)) (mvT hZ (W 28 rfl)) (notFace_of_selects (args := #[]) (mvT hZ (W 30 rfl))) (mvT hZ (W 30 rfl)) (mvT hZ (W 29 rfl)) (by decide) (backOf (W := 0) (rm5n3 l Z a0 hw [] o y b1 b2 k1 k2 x12 x13 x14 (0 : Int32) (0 : Int32) (0 : Int32) (0 : Int32) (0 : Int32) q3 q4 q5 (0 : Int64) (0 : Int64) (0 : Int64) (0 : Int64) (0 : Int64) (0 : Int64) hh n0 Z0 E_o F_places_o F_tokens_o F_size_o V_b1 V_b2 (Or.inr (Or.inr (Or.inr (Or.inl ⟨hk0, hk1, hk2, rfl⟩))))) hZ (W 31 rfl) (W 7 rfl) (by decide) (by decide)) q168a q168c (g := (mkF m 254 #[.val (.int p1), .val (.int p2), .val (.long q3), .second, .val (.long q4), .second, .val (.long q5), .second, .val (.int p6), .val (.int (3 : Int32)), .val (.int x10), .val (.int x11), .val (.int x12), .val (.int x13), .val (.int x14), .val (.ref o), .val (.int x16), .val (.int y), .val (.long (0 : Int64)), .second] [(.int y), (.ref o)])) rfl (by rw [hml]; rfl) (Steps.refl _) (argsL := [(.int y)]) (rest := []) (lenOf pd_3 rfl) rfl (by show 2 * 0 + _ ≤ _; exact Nat.le_of_eq rfl) (hb hby at_254) (fun _ _ => ⟨rfl, e0, (by decide : 3 + 0 ≤ _), (by decide : 19 + 0 ≤ _)⟩)
      dsimp only [Pt.U, Pt.locs, Pt.cells, Pt.slots] at X168 l168 y168 z168 st168 hQ168
      subst l168 y168 z168
      obtain ⟨rfl, N168q, e168⟩ := hQ168
      have N168 := Fr.app N0 N168q
      refine own_goT st168 ?_
      show own_Run p e below _ T168 (mkF m 257 #[.val (.int p1), .val (.int p2), .val (.long q3), .second, .val (.long q4), .second, .val (.long q5), .second, .val (.int p6), .val (.int (3 : Int32)), .val (.int x10), .val (.int x11), .val (.int x12), .val (.int x13), .val (.int x14), .val (.ref o), .val (.int x16), .val (.int y), .val (.long (0 : Int64)), .second] [(.long (0 : Int64))])
      refine own_go (fun _ k => XS.lload X168.here hx rfl (hb hby at_257) rfl k) ?_
      refine own_go (fun _ k => XS.lcmp X168.here hx rfl (hb hby at_259) rfl k) ?_
      show own_Run p e below _ T168 (mkF m 260 #[.val (.int p1), .val (.int p2), .val (.long q3), .second, .val (.long q4), .second, .val (.long q5), .second, .val (.int p6), .val (.int (3 : Int32)), .val (.int x10), .val (.int x11), .val (.int x12), .val (.int x13), .val (.int x14), .val (.ref o), .val (.int x16), .val (.int y), .val (.long (0 : Int64)), .second] [(.int (lcmpW (0 : Int64) (0 : Int64)))])
      refine own_go (fun _ k => XS.ifNo X168.here hx rfl (hb hby at_260) rfl (own_lcTe (by decide : (0 : Int64) = (0 : Int64))).2 k) ?_
      show own_Run p e below _ T168 (mkF m 263 #[.val (.int p1), .val (.int p2), .val (.long q3), .second, .val (.long q4), .second, .val (.long q5), .second, .val (.int p6), .val (.int (3 : Int32)), .val (.int x10), .val (.int x11), .val (.int x12), .val (.int x13), .val (.int x14), .val (.ref o), .val (.int x16), .val (.int y), .val (.long (0 : Int64)), .second] [])
      refine own_go (fun _ k => XS.iconst X168.here hx rfl (hb hby at_263) k) ?_
      refine own_go (fun _ k => XS.goto X168.here hx rfl (pc0 := 264) (pc' := 268) rfl (hb hby at_264) (by decide) (by decide) k) ?_
      show own_Run p e below _ T168 (mkF m 268 #[.val (.int p1), .val (.int p2), .val (.long q3), .second, .val (.long q4), .second, .val (.long q5), .second, .val (.int p6), .val (.int (3 : Int32)), .val (.int x10), .val (.int x11), .val (.int x12), .val (.int x13), .val (.int x14), .val (.ref o), .val (.int x16), .val (.int y), .val (.long (0 : Int64)), .second] [(.int (1 : Int32))])
      refine own_done (Q := fun v h L => Q0 Z p1 p2 q3 q4 q5 p6 h0 n0 v h L) (v := (some (.int (1 : Int32)))) X168 (fun h => by rw [hret] at h; cases h) hlk (fun fs hr => retN X168 hx (t := .boolean) hret (by simp) (hb hby at_268) hr) ?_ (by decide) (by decide)
      show Q0 Z p1 p2 q3 q4 q5 p6 h0 n0 _ T168.heap _
      rw [e168]
      exact ⟨rfl, N168⟩
  · have hk1 : y < x13 := (hk0 ▸ hl1)
    have hk2 : y < x14 := (hk0 ▸ (own_trI hl1 hl2))
    refine own_go (fun _ k => XS.lconst X0.here hx rfl (hb hby at_197) k) ?_
    refine own_go (fun _ k => XS.lstore X0.here hx rfl (hb hby at_198) rfl (l' := #[.val (.int p1), .val (.int p2), .val (.long q3), .second, .val (.long q4), .second, .val (.long q5), .second, .val (.int p6), .val (.int (3 : Int32)), .val (.int x10), .val (.int x11), .val (.int x12), .val (.int x13), .val (.int x14), .val (.ref o), .val (.int x16), .val (.int y), .val (.long (0 : Int64)), .second]) rfl k) ?_
    refine own_go (fun _ k => XS.iload X0.here hx rfl (hb hby at_200) rfl k) ?_
    refine own_go (fun _ k => XS.iconst X0.here hx rfl (hb hby at_202) k) ?_
    show own_Run p e below _ T0 (mkF m 203 #[.val (.int p1), .val (.int p2), .val (.long q3), .second, .val (.long q4), .second, .val (.long q5), .second, .val (.int p6), .val (.int (3 : Int32)), .val (.int x10), .val (.int x11), .val (.int x12), .val (.int x13), .val (.int x14), .val (.ref o), .val (.int x16), .val (.int y), .val (.long (0 : Int64)), .second] [(.int (1 : Int32)), (.int (3 : Int32))])
    refine own_go (fun _ k => XS.icmpNo X0.here hx rfl (hb hby at_203) rfl (flt (by decide : ¬ ((3 : Int32) < (1 : Int32)))).1 k) ?_
    show own_Run p e below _ T0 (mkF m 206 #[.val (.int p1), .val (.int p2), .val (.long q3), .second, .val (.long q4), .second, .val (.long q5), .second, .val (.int p6), .val (.int (3 : Int32)), .val (.int x10), .val (.int x11), .val (.int x12), .val (.int x13), .val (.int x14), .val (.ref o), .val (.int x16), .val (.int y), .val (.long (0 : Int64)), .second] [])
    refine own_go (fun _ k => XS.iload X0.here hx rfl (hb hby at_206) rfl k) ?_
    refine own_go (fun _ k => XS.iload X0.here hx rfl (hb hby at_208) rfl k) ?_
    show own_Run p e below _ T0 (mkF m 210 #[.val (.int p1), .val (.int p2), .val (.long q3), .second, .val (.long q4), .second, .val (.long q5), .second, .val (.int p6), .val (.int (3 : Int32)), .val (.int x10), .val (.int x11), .val (.int x12), .val (.int x13), .val (.int x14), .val (.ref o), .val (.int x16), .val (.int y), .val (.long (0 : Int64)), .second] [(.int x12), (.int y)])
    refine own_go (fun _ k => XS.icmpNo X0.here hx rfl (hb hby at_210) rfl (teq (hk0.symm : y = x12)).2 k) ?_
    show own_Run p e below _ T0 (mkF m 213 #[.val (.int p1), .val (.int p2), .val (.long q3), .second, .val (.long q4), .second, .val (.long q5), .second, .val (.int p6), .val (.int (3 : Int32)), .val (.int x10), .val (.int x11), .val (.int x12), .val (.int x13), .val (.int x14), .val (.ref o), .val (.int x16), .val (.int y), .val (.long (0 : Int64)), .second] [])
    refine own_go (fun _ k => XS.lloadN X0.here hx rfl (hb hby at_213) rfl k) ?_
    refine own_go (fun _ k => XS.lstore X0.here hx rfl (hb hby at_214) rfl (l' := #[.val (.int p1), .val (.int p2), .val (.long q3), .second, .val (.long q4), .second, .val (.long q5), .second, .val (.int p6), .val (.int (3 : Int32)), .val (.int x10), .val (.int x11), .val (.int x12), .val (.int x13), .val (.int x14), .val (.ref o), .val (.int x16), .val (.int y), .val (.long q3), .second]) rfl k) ?_
    refine own_go (fun _ k => XS.iload X0.here hx rfl (hb hby at_216) rfl k) ?_
    refine own_go (fun _ k => XS.iconst X0.here hx rfl (hb hby at_218) k) ?_
    show own_Run p e below _ T0 (mkF m 219 #[.val (.int p1), .val (.int p2), .val (.long q3), .second, .val (.long q4), .second, .val (.long q5), .second, .val (.int p6), .val (.int (3 : Int32)), .val (.int x10), .val (.int x11), .val (.int x12), .val (.int x13), .val (.int x14), .val (.ref o), .val (.int x16), .val (.int y), .val (.long q3), .second] [(.int (2 : Int32)), (.int (3 : Int32))])
    refine own_go (fun _ k => XS.icmpNo X0.here hx rfl (hb hby at_219) rfl (flt (by decide : ¬ ((3 : Int32) < (2 : Int32)))).1 k) ?_
    show own_Run p e below _ T0 (mkF m 222 #[.val (.int p1), .val (.int p2), .val (.long q3), .second, .val (.long q4), .second, .val (.long q5), .second, .val (.int p6), .val (.int (3 : Int32)), .val (.int x10), .val (.int x11), .val (.int x12), .val (.int x13), .val (.int x14), .val (.ref o), .val (.int x16), .val (.int y), .val (.long q3), .second] [])
    refine own_go (fun _ k => XS.iload X0.here hx rfl (hb hby at_222) rfl k) ?_
    refine own_go (fun _ k => XS.iload X0.here hx rfl (hb hby at_224) rfl k) ?_
    show own_Run p e below _ T0 (mkF m 226 #[.val (.int p1), .val (.int p2), .val (.long q3), .second, .val (.long q4), .second, .val (.long q5), .second, .val (.int p6), .val (.int (3 : Int32)), .val (.int x10), .val (.int x11), .val (.int x12), .val (.int x13), .val (.int x14), .val (.ref o), .val (.int x16), .val (.int y), .val (.long q3), .second] [(.int x13), (.int y)])
    refine own_go (fun _ k => XS.icmpYes X0.here hx rfl (pc0 := 226) (pc' := 233) rfl (hb hby at_226) rfl (feq (own_neR hk1 : ¬ (y = x13))).2 (by decide) (by decide) k) ?_
    show own_Run p e below _ T0 (mkF m 233 #[.val (.int p1), .val (.int p2), .val (.long q3), .second, .val (.long q4), .second, .val (.long q5), .second, .val (.int p6), .val (.int (3 : Int32)), .val (.int x10), .val (.int x11), .val (.int x12), .val (.int x13), .val (.int x14), .val (.ref o), .val (.int x16), .val (.int y), .val (.long q3), .second] [])
    refine own_go (fun _ k => XS.iload X0.here hx rfl (hb hby at_233) rfl k) ?_
    refine own_go (fun _ k => XS.iconst X0.here hx rfl (hb hby at_235) k) ?_
    show own_Run p e below _ T0 (mkF m 236 #[.val (.int p1), .val (.int p2), .val (.long q3), .second, .val (.long q4), .second, .val (.long q5), .second, .val (.int p6), .val (.int (3 : Int32)), .val (.int x10), .val (.int x11), .val (.int x12), .val (.int x13), .val (.int x14), .val (.ref o), .val (.int x16), .val (.int y), .val (.long q3), .second] [(.int (3 : Int32)), (.int (3 : Int32))])
    refine own_go (fun _ k => XS.icmpNo X0.here hx rfl (hb hby at_236) rfl (flt (by decide : ¬ ((3 : Int32) < (3 : Int32)))).1 k) ?_
    show own_Run p e below _ T0 (mkF m 239 #[.val (.int p1), .val (.int p2), .val (.long q3), .second, .val (.long q4), .second, .val (.long q5), .second, .val (.int p6), .val (.int (3 : Int32)), .val (.int x10), .val (.int x11), .val (.int x12), .val (.int x13), .val (.int x14), .val (.ref o), .val (.int x16), .val (.int y), .val (.long q3), .second] [])
    refine own_go (fun _ k => XS.iload X0.here hx rfl (hb hby at_239) rfl k) ?_
    refine own_go (fun _ k => XS.iload X0.here hx rfl (hb hby at_241) rfl k) ?_
    show own_Run p e below _ T0 (mkF m 243 #[.val (.int p1), .val (.int p2), .val (.long q3), .second, .val (.long q4), .second, .val (.long q5), .second, .val (.int p6), .val (.int (3 : Int32)), .val (.int x10), .val (.int x11), .val (.int x12), .val (.int x13), .val (.int x14), .val (.ref o), .val (.int x16), .val (.int y), .val (.long q3), .second] [(.int x14), (.int y)])
    refine own_go (fun _ k => XS.icmpYes X0.here hx rfl (pc0 := 243) (pc' := 250) rfl (hb hby at_243) rfl (feq (own_neR hk2 : ¬ (y = x14))).2 (by decide) (by decide) k) ?_
    show own_Run p e below _ T0 (mkF m 250 #[.val (.int p1), .val (.int p2), .val (.long q3), .second, .val (.long q4), .second, .val (.long q5), .second, .val (.int p6), .val (.int (3 : Int32)), .val (.int x10), .val (.int x11), .val (.int x12), .val (.int x13), .val (.int x14), .val (.ref o), .val (.int x16), .val (.int y), .val (.long q3), .second] [])
    refine own_go (fun _ k => XS.aload X0.here hx rfl (hb hby at_250) rfl rfl k) ?_
    refine own_go (fun _ k => XS.iload X0.here hx rfl (hb hby at_252) rfl k) ?_
    show own_Run p e below _ T0 (mkF m 254 #[.val (.int p1), .val (.int p2), .val (.long q3), .second, .val (.long q4), .second, .val (.long q5), .second, .val (.int p6), .val (.int (3 : Int32)), .val (.int x10), .val (.int x11), .val (.int x12), .val (.int x13), .val (.int x14), .val (.ref o), .val (.int x16), .val (.int y), .val (.long q3), .second] [(.int y), (.ref o)])
    obtain ⟨cq169, kq169, q169a, q169b, q169c⟩ := isOf hZ e0 E_o
    obtain ⟨_, _, ⟨T169, L169, k169, n169⟩, -, X169, ⟨Lc169, hQ169, l169, y169, z169⟩, st169⟩ := X0.virtualBack hx (y := (⟨"com/example/net_reducer/netreducer/analysis/Marking", "tokensOn", "(I)J"⟩ : MethodName)) (z := (⟨"com/example/net_reducer/netreducer/analysis/Marking", "tokensOn", "(I)J"⟩ : MethodName)) hown (mvT hZ (W 27 rfl)) (mvT hZ (W 28 rfl)) (notFace_of_selects (args := #[]) (mvT hZ (W 30 rfl))) (mvT hZ (W 30 rfl)) (mvT hZ (W 29 rfl)) (by decide) (backOf (W := 0) (rm5n3 l Z a0 hw [] o y b1 b2 k1 k2 x12 x13 x14 (0 : Int32) (0 : Int32) (0 : Int32) (0 : Int32) (0 : Int32) q3 q4 q5 (0 : Int64) (0 : Int64) (0 : Int64) (0 : Int64) (0 : Int64) q3 hh n0 Z0 E_o F_places_o F_tokens_o F_size_o V_b1 V_b2 (Or.inl ⟨hk0, hk1, hk2, rfl⟩)) hZ (W 31 rfl) (W 7 rfl) (by decide) (by decide)) q169a q169c (g := (mkF m 254 #[.val (.int p1), .val (.int p2), .val (.long q3), .second, .val (.long q4), .second, .val (.long q5), .second, .val (.int p6), .val (.int (3 : Int32)), .val (.int x10), .val (.int x11), .val (.int x12), .val (.int x13), .val (.int x14), .val (.ref o), .val (.int x16), .val (.int y), .val (.long q3), .second] [(.int y), (.ref o)])) rfl (by rw [hml]; rfl) (Steps.refl _) (argsL := [(.int y)]) (rest := []) (lenOf pd_3 rfl) rfl (by show 2 * 0 + _ ≤ _; exact Nat.le_of_eq rfl) (hb hby at_254) (fun _ _ => ⟨rfl, e0, (by decide : 3 + 0 ≤ _), (by decide : 19 + 0 ≤ _)⟩)
    dsimp only [Pt.U, Pt.locs, Pt.cells, Pt.slots] at X169 l169 y169 z169 st169 hQ169
    subst l169 y169 z169
    obtain ⟨rfl, N169q, e169⟩ := hQ169
    have N169 := Fr.app N0 N169q
    refine own_goT st169 ?_
    show own_Run p e below _ T169 (mkF m 257 #[.val (.int p1), .val (.int p2), .val (.long q3), .second, .val (.long q4), .second, .val (.long q5), .second, .val (.int p6), .val (.int (3 : Int32)), .val (.int x10), .val (.int x11), .val (.int x12), .val (.int x13), .val (.int x14), .val (.ref o), .val (.int x16), .val (.int y), .val (.long q3), .second] [(.long q3)])
    refine own_go (fun _ k => XS.lload X169.here hx rfl (hb hby at_257) rfl k) ?_
    refine own_go (fun _ k => XS.lcmp X169.here hx rfl (hb hby at_259) rfl k) ?_
    show own_Run p e below _ T169 (mkF m 260 #[.val (.int p1), .val (.int p2), .val (.long q3), .second, .val (.long q4), .second, .val (.long q5), .second, .val (.int p6), .val (.int (3 : Int32)), .val (.int x10), .val (.int x11), .val (.int x12), .val (.int x13), .val (.int x14), .val (.ref o), .val (.int x16), .val (.int y), .val (.long q3), .second] [(.int (lcmpW q3 q3))])
    refine own_go (fun _ k => XS.ifNo X169.here hx rfl (hb hby at_260) rfl (own_lcTe rfl).2 k) ?_
    show own_Run p e below _ T169 (mkF m 263 #[.val (.int p1), .val (.int p2), .val (.long q3), .second, .val (.long q4), .second, .val (.long q5), .second, .val (.int p6), .val (.int (3 : Int32)), .val (.int x10), .val (.int x11), .val (.int x12), .val (.int x13), .val (.int x14), .val (.ref o), .val (.int x16), .val (.int y), .val (.long q3), .second] [])
    refine own_go (fun _ k => XS.iconst X169.here hx rfl (hb hby at_263) k) ?_
    refine own_go (fun _ k => XS.goto X169.here hx rfl (pc0 := 264) (pc' := 268) rfl (hb hby at_264) (by decide) (by decide) k) ?_
    show own_Run p e below _ T169 (mkF m 268 #[.val (.int p1), .val (.int p2), .val (.long q3), .second, .val (.long q4), .second, .val (.long q5), .second, .val (.int p6), .val (.int (3 : Int32)), .val (.int x10), .val (.int x11), .val (.int x12), .val (.int x13), .val (.int x14), .val (.ref o), .val (.int x16), .val (.int y), .val (.long q3), .second] [(.int (1 : Int32))])
    refine own_done (Q := fun v h L => Q0 Z p1 p2 q3 q4 q5 p6 h0 n0 v h L) (v := (some (.int (1 : Int32)))) X169 (fun h => by rw [hret] at h; cases h) hlk (fun fs hr => retN X169 hx (t := .boolean) hret (by simp) (hb hby at_268) hr) ?_ (by decide) (by decide)
    show Q0 Z p1 p2 q3 q4 q5 p6 h0 n0 _ T169.heap _
    rw [e169]
    exact ⟨rfl, N169⟩
  · have hk1 : y < x13 := (own_trI hk0 hl1)
    have hk2 : y < x14 := (own_trI hk0 (own_trI hl1 hl2))
    refine own_go (fun _ k => XS.lconst X0.here hx rfl (hb hby at_197) k) ?_
    refine own_go (fun _ k => XS.lstore X0.here hx rfl (hb hby at_198) rfl (l' := #[.val (.int p1), .val (.int p2), .val (.long q3), .second, .val (.long q4), .second, .val (.long q5), .second, .val (.int p6), .val (.int (3 : Int32)), .val (.int x10), .val (.int x11), .val (.int x12), .val (.int x13), .val (.int x14), .val (.ref o), .val (.int x16), .val (.int y), .val (.long (0 : Int64)), .second]) rfl k) ?_
    refine own_go (fun _ k => XS.iload X0.here hx rfl (hb hby at_200) rfl k) ?_
    refine own_go (fun _ k => XS.iconst X0.here hx rfl (hb hby at_202) k) ?_
    show own_Run p e below _ T0 (mkF m 203 #[.val (.int p1), .val (.int p2), .val (.long q3), .second, .val (.long q4), .second, .val (.long q5), .second, .val (.int p6), .val (.int (3 : Int32)), .val (.int x10), .val (.int x11), .val (.int x12), .val (.int x13), .val (.int x14), .val (.ref o), .val (.int x16), .val (.int y), .val (.long (0 : Int64)), .second] [(.int (1 : Int32)), (.int (3 : Int32))])
    refine own_go (fun _ k => XS.icmpNo X0.here hx rfl (hb hby at_203) rfl (flt (by decide : ¬ ((3 : Int32) < (1 : Int32)))).1 k) ?_
    show own_Run p e below _ T0 (mkF m 206 #[.val (.int p1), .val (.int p2), .val (.long q3), .second, .val (.long q4), .second, .val (.long q5), .second, .val (.int p6), .val (.int (3 : Int32)), .val (.int x10), .val (.int x11), .val (.int x12), .val (.int x13), .val (.int x14), .val (.ref o), .val (.int x16), .val (.int y), .val (.long (0 : Int64)), .second] [])
    refine own_go (fun _ k => XS.iload X0.here hx rfl (hb hby at_206) rfl k) ?_
    refine own_go (fun _ k => XS.iload X0.here hx rfl (hb hby at_208) rfl k) ?_
    show own_Run p e below _ T0 (mkF m 210 #[.val (.int p1), .val (.int p2), .val (.long q3), .second, .val (.long q4), .second, .val (.long q5), .second, .val (.int p6), .val (.int (3 : Int32)), .val (.int x10), .val (.int x11), .val (.int x12), .val (.int x13), .val (.int x14), .val (.ref o), .val (.int x16), .val (.int y), .val (.long (0 : Int64)), .second] [(.int x12), (.int y)])
    refine own_go (fun _ k => XS.icmpYes X0.here hx rfl (pc0 := 210) (pc' := 216) rfl (hb hby at_210) rfl (feq (own_neR hk0 : ¬ (y = x12))).2 (by decide) (by decide) k) ?_
    show own_Run p e below _ T0 (mkF m 216 #[.val (.int p1), .val (.int p2), .val (.long q3), .second, .val (.long q4), .second, .val (.long q5), .second, .val (.int p6), .val (.int (3 : Int32)), .val (.int x10), .val (.int x11), .val (.int x12), .val (.int x13), .val (.int x14), .val (.ref o), .val (.int x16), .val (.int y), .val (.long (0 : Int64)), .second] [])
    refine own_go (fun _ k => XS.iload X0.here hx rfl (hb hby at_216) rfl k) ?_
    refine own_go (fun _ k => XS.iconst X0.here hx rfl (hb hby at_218) k) ?_
    show own_Run p e below _ T0 (mkF m 219 #[.val (.int p1), .val (.int p2), .val (.long q3), .second, .val (.long q4), .second, .val (.long q5), .second, .val (.int p6), .val (.int (3 : Int32)), .val (.int x10), .val (.int x11), .val (.int x12), .val (.int x13), .val (.int x14), .val (.ref o), .val (.int x16), .val (.int y), .val (.long (0 : Int64)), .second] [(.int (2 : Int32)), (.int (3 : Int32))])
    refine own_go (fun _ k => XS.icmpNo X0.here hx rfl (hb hby at_219) rfl (flt (by decide : ¬ ((3 : Int32) < (2 : Int32)))).1 k) ?_
    show own_Run p e below _ T0 (mkF m 222 #[.val (.int p1), .val (.int p2), .val (.long q3), .second, .val (.long q4), .second, .val (.long q5), .second, .val (.int p6), .val (.int (3 : Int32)), .val (.int x10), .val (.int x11), .val (.int x12), .val (.int x13), .val (.int x14), .val (.ref o), .val (.int x16), .val (.int y), .val (.long (0 : Int64)), .second] [])
    refine own_go (fun _ k => XS.iload X0.here hx rfl (hb hby at_222) rfl k) ?_
    refine own_go (fun _ k => XS.iload X0.here hx rfl (hb hby at_224) rfl k) ?_
    show own_Run p e below _ T0 (mkF m 226 #[.val (.int p1), .val (.int p2), .val (.long q3), .second, .val (.long q4), .second, .val (.long q5), .second, .val (.int p6), .val (.int (3 : Int32)), .val (.int x10), .val (.int x11), .val (.int x12), .val (.int x13), .val (.int x14), .val (.ref o), .val (.int x16), .val (.int y), .val (.long (0 : Int64)), .second] [(.int x13), (.int y)])
    refine own_go (fun _ k => XS.icmpYes X0.here hx rfl (pc0 := 226) (pc' := 233) rfl (hb hby at_226) rfl (feq (own_neR hk1 : ¬ (y = x13))).2 (by decide) (by decide) k) ?_
    show own_Run p e below _ T0 (mkF m 233 #[.val (.int p1), .val (.int p2), .val (.long q3), .second, .val (.long q4), .second, .val (.long q5), .second, .val (.int p6), .val (.int (3 : Int32)), .val (.int x10), .val (.int x11), .val (.int x12), .val (.int x13), .val (.int x14), .val (.ref o), .val (.int x16), .val (.int y), .val (.long (0 : Int64)), .second] [])
    refine own_go (fun _ k => XS.iload X0.here hx rfl (hb hby at_233) rfl k) ?_
    refine own_go (fun _ k => XS.iconst X0.here hx rfl (hb hby at_235) k) ?_
    show own_Run p e below _ T0 (mkF m 236 #[.val (.int p1), .val (.int p2), .val (.long q3), .second, .val (.long q4), .second, .val (.long q5), .second, .val (.int p6), .val (.int (3 : Int32)), .val (.int x10), .val (.int x11), .val (.int x12), .val (.int x13), .val (.int x14), .val (.ref o), .val (.int x16), .val (.int y), .val (.long (0 : Int64)), .second] [(.int (3 : Int32)), (.int (3 : Int32))])
    refine own_go (fun _ k => XS.icmpNo X0.here hx rfl (hb hby at_236) rfl (flt (by decide : ¬ ((3 : Int32) < (3 : Int32)))).1 k) ?_
    show own_Run p e below _ T0 (mkF m 239 #[.val (.int p1), .val (.int p2), .val (.long q3), .second, .val (.long q4), .second, .val (.long q5), .second, .val (.int p6), .val (.int (3 : Int32)), .val (.int x10), .val (.int x11), .val (.int x12), .val (.int x13), .val (.int x14), .val (.ref o), .val (.int x16), .val (.int y), .val (.long (0 : Int64)), .second] [])
    refine own_go (fun _ k => XS.iload X0.here hx rfl (hb hby at_239) rfl k) ?_
    refine own_go (fun _ k => XS.iload X0.here hx rfl (hb hby at_241) rfl k) ?_
    show own_Run p e below _ T0 (mkF m 243 #[.val (.int p1), .val (.int p2), .val (.long q3), .second, .val (.long q4), .second, .val (.long q5), .second, .val (.int p6), .val (.int (3 : Int32)), .val (.int x10), .val (.int x11), .val (.int x12), .val (.int x13), .val (.int x14), .val (.ref o), .val (.int x16), .val (.int y), .val (.long (0 : Int64)), .second] [(.int x14), (.int y)])
    refine own_go (fun _ k => XS.icmpYes X0.here hx rfl (pc0 := 243) (pc' := 250) rfl (hb hby at_243) rfl (feq (own_neR hk2 : ¬ (y = x14))).2 (by decide) (by decide) k) ?_
    show own_Run p e below _ T0 (mkF m 250 #[.val (.int p1), .val (.int p2), .val (.long q3), .second, .val (.long q4), .second, .val (.long q5), .second, .val (.int p6), .val (.int (3 : Int32)), .val (.int x10), .val (.int x11), .val (.int x12), .val (.int x13), .val (.int x14), .val (.ref o), .val (.int x16), .val (.int y), .val (.long (0 : Int64)), .second] [])
    refine own_go (fun _ k => XS.aload X0.here hx rfl (hb hby at_250) rfl rfl k) ?_
    refine own_go (fun _ k => XS.iload X0.here hx rfl (hb hby at_252) rfl k) ?_
    show own_Run p e below _ T0 (mkF m 254 #[.val (.int p1), .val (.int p2), .val (.long q3), .second, .val (.long q4), .second, .val (.long q5), .second, .val (.int p6), .val (.int (3 : Int32)), .val (.int x10), .val (.int x11), .val (.int x12), .val (.int x13), .val (.int x14), .val (.ref o), .val (.int x16), .val (.int y), .val (.long (0 : Int64)), .second] [(.int y), (.ref o)])
    obtain ⟨cq170, kq170, q170a, q170b, q170c⟩ := isOf hZ e0 E_o
    obtain ⟨_, _, ⟨T170, L170, k170, n170⟩, -, X170, ⟨Lc170, hQ170, l170, y170, z170⟩, st170⟩ := X0.virtualBack hx (y := (⟨"com/example/net_reducer/netreducer/analysis/Marking", "tokensOn", "(I)J"⟩ : MethodName)) (z := (⟨"com/example/net_reducer/netreducer/analysis/Marking", "tokensOn", "(I)J"⟩ : MethodName)) hown (mvT hZ (W 27 rfl)) (mvT hZ (W 28 rfl)) (notFace_of_selects (args := #[]) (mvT hZ (W 30 rfl))) (mvT hZ (W 30 rfl)) (mvT hZ (W 29 rfl)) (by decide) (backOf (W := 0) (rm5n3 l Z a0 hw [] o y b1 b2 k1 k2 x12 x13 x14 (0 : Int32) (0 : Int32) (0 : Int32) (0 : Int32) (0 : Int32) q3 q4 q5 (0 : Int64) (0 : Int64) (0 : Int64) (0 : Int64) (0 : Int64) (0 : Int64) hh n0 Z0 E_o F_places_o F_tokens_o F_size_o V_b1 V_b2 (Or.inr (Or.inl ⟨hk0, hk1, hk2, rfl⟩))) hZ (W 31 rfl) (W 7 rfl) (by decide) (by decide)) q170a q170c (g := (mkF m 254 #[.val (.int p1), .val (.int p2), .val (.long q3), .second, .val (.long q4), .second, .val (.long q5), .second, .val (.int p6), .val (.int (3 : Int32)), .val (.int x10), .val (.int x11), .val (.int x12), .val (.int x13), .val (.int x14), .val (.ref o), .val (.int x16), .val (.int y), .val (.long (0 : Int64)), .second] [(.int y), (.ref o)])) rfl (by rw [hml]; rfl) (Steps.refl _) (argsL := [(.int y)]) (rest := []) (lenOf pd_3 rfl) rfl (by show 2 * 0 + _ ≤ _; exact Nat.le_of_eq rfl) (hb hby at_254) (fun _ _ => ⟨rfl, e0, (by decide : 3 + 0 ≤ _), (by decide : 19 + 0 ≤ _)⟩)
    dsimp only [Pt.U, Pt.locs, Pt.cells, Pt.slots] at X170 l170 y170 z170 st170 hQ170
    subst l170 y170 z170
    obtain ⟨rfl, N170q, e170⟩ := hQ170
    have N170 := Fr.app N0 N170q
    refine own_goT st170 ?_
    show own_Run p e below _ T170 (mkF m 257 #[.val (.int p1), .val (.int p2), .val (.long q3), .second, .val (.long q4), .second, .val (.long q5), .second, .val (.int p6), .val (.int (3 : Int32)), .val (.int x10), .val (.int x11), .val (.int x12), .val (.int x13), .val (.int x14), .val (.ref o), .val (.int x16), .val (.int y), .val (.long (0 : Int64)), .second] [(.long (0 : Int64))])
    refine own_go (fun _ k => XS.lload X170.here hx rfl (hb hby at_257) rfl k) ?_
    refine own_go (fun _ k => XS.lcmp X170.here hx rfl (hb hby at_259) rfl k) ?_
    show own_Run p e below _ T170 (mkF m 260 #[.val (.int p1), .val (.int p2), .val (.long q3), .second, .val (.long q4), .second, .val (.long q5), .second, .val (.int p6), .val (.int (3 : Int32)), .val (.int x10), .val (.int x11), .val (.int x12), .val (.int x13), .val (.int x14), .val (.ref o), .val (.int x16), .val (.int y), .val (.long (0 : Int64)), .second] [(.int (lcmpW (0 : Int64) (0 : Int64)))])
    refine own_go (fun _ k => XS.ifNo X170.here hx rfl (hb hby at_260) rfl (own_lcTe (by decide : (0 : Int64) = (0 : Int64))).2 k) ?_
    show own_Run p e below _ T170 (mkF m 263 #[.val (.int p1), .val (.int p2), .val (.long q3), .second, .val (.long q4), .second, .val (.long q5), .second, .val (.int p6), .val (.int (3 : Int32)), .val (.int x10), .val (.int x11), .val (.int x12), .val (.int x13), .val (.int x14), .val (.ref o), .val (.int x16), .val (.int y), .val (.long (0 : Int64)), .second] [])
    refine own_go (fun _ k => XS.iconst X170.here hx rfl (hb hby at_263) k) ?_
    refine own_go (fun _ k => XS.goto X170.here hx rfl (pc0 := 264) (pc' := 268) rfl (hb hby at_264) (by decide) (by decide) k) ?_
    show own_Run p e below _ T170 (mkF m 268 #[.val (.int p1), .val (.int p2), .val (.long q3), .second, .val (.long q4), .second, .val (.long q5), .second, .val (.int p6), .val (.int (3 : Int32)), .val (.int x10), .val (.int x11), .val (.int x12), .val (.int x13), .val (.int x14), .val (.ref o), .val (.int x16), .val (.int y), .val (.long (0 : Int64)), .second] [(.int (1 : Int32))])
    refine own_done (Q := fun v h L => Q0 Z p1 p2 q3 q4 q5 p6 h0 n0 v h L) (v := (some (.int (1 : Int32)))) X170 (fun h => by rw [hret] at h; cases h) hlk (fun fs hr => retN X170 hx (t := .boolean) hret (by simp) (hb hby at_268) hr) ?_ (by decide) (by decide)
    show Q0 Z p1 p2 q3 q4 q5 p6 h0 n0 _ T170.heap _
    rw [e170]
    exact ⟨rfl, N170⟩
theorem ef_0 (m : MethodId) (x0 : Int32) (x1 : Int32) (x2 : Int64) (x3 : Int64) (x4 : Int64) (x5 : Int32) : entryFrame m #[(.int x0), (.int x1), (.long x2), (.long x3), (.long x4), (.int x5)] maxLocals = mkF m 0 #[.val (.int x0), .val (.int x1), .val (.long x2), .second, .val (.long x3), .second, .val (.long x4), .second, .val (.int x5), .unset, .unset, .unset, .unset, .unset, .unset, .unset, .unset, .unset, .unset, .unset] [] := by first | (simp [entryFrame, mkF, argsToLocals, Value.category, maxLocals]; done) | rfl
theorem pd_4 : parseMethodDescriptor "(II)I" = some ⟨[.int, .int], some .int⟩ := by decide +kernel
theorem pd_5 : parseMethodDescriptor "()V" = some ⟨[], none⟩ := by decide +kernel
theorem pd_6 : parseMethodDescriptor "(IJ)V" = some ⟨[.int, .long], none⟩ := by decide +kernel
set_option maxRecDepth 65536 in
set_option maxHeartbeats 40000000 in
theorem rm0 (l : Launch) (Z : State) (a0 : Array Value) (hw : ∀ d ∈ tables_1, d.before a0 Z = true) (ws : List Jvm.Cond) (p1 : Int32) (p2 : Int32) (q3 : Int64) (q4 : Int64) (q5 : Int64) (p6 : Int32) (h0 : Heap) (n0 : Nat) (Z0 : n0 ≤ h0.size) :
    MetFree l x (head1 (Jvm.Cond.code x code maxLocals ret :: ws) room_1) (fun a U => a = #[(.int p1), (.int p2), (.long q3), (.long q4), (.long q5), (.int p6)] ∧ Z.Warmed39 U.vm ∧ U.heap = h0) (fun _ _ _ _ _ => True) (fun _ U o U' => ∃ v L, o = .returned v ∧ Q0 Z p1 p2 q3 q4 q5 p6 h0 n0 v U'.heap L ∧ FrameEnd U o U' L room_1.cells room_1.slots) := by
  refine MetFree.of_bodySF (plainFor_of_name pn_0) hisR ?_
  intro p e s m args below meth c s₁ Bd hml0 hP hK
  obtain ⟨rfl, hZ, hh⟩ := hP
  have hx := Bd.exec
  have hby := Bd.bytes
  have hml : c.maxLocals = 20 := hml0
  have hown : s.vm.findClass "com/example/net_reducer/netreducer/analysis/MarkingTokensOnPinLaw" = some m.cls := findClass_of_methodNamed Bd.named
  have hnm := (name_of_methodNamed Bd.named Bd.method).1
  have hret := Bd.returns
  have hlk : meth.locks = false := BodyLoose.notSynchronized Bd
  have X0 : Stand p l e room_1 s m #[(.int p1), (.int p2), (.long q3), (.long q4), (.long q5), (.int p6)] below meth c s₁ [] 0 0 := Stand.of_body Bd
  have e0 : s₁.heap = h0 := by rw [← hh, Bd.state]; rfl
  have N0 := Fr.nil n0
  have W := fun (k : Nat) {d : Jvm.Cond} (h : tables_1[k]? = some d) => hw d (List.mem_of_getElem? h)
  have K0 : Keep h0 h0 [] := Keep.refl _ _
  refine own_start (ef_0 m p1 p2 q3 q4 q5 p6) ?_
  show own_Run p e below _ s₁ (mkF m 0 #[.val (.int p1), .val (.int p2), .val (.long q3), .second, .val (.long q4), .second, .val (.long q5), .second, .val (.int p6), .unset, .unset, .unset, .unset, .unset, .unset, .unset, .unset, .unset, .unset, .unset] [])
  refine own_go (fun _ k => XS.iloadN X0.here hx rfl (hb hby at_0) rfl k) ?_
  refine own_go (fun _ k => XS.iconst X0.here hx rfl (hb hby at_1) k) ?_
  refine own_go (fun _ k => XS.iand X0.here hx rfl (hb hby at_2) rfl k) ?_
  show own_Run p e below _ s₁ (mkF m 3 #[.val (.int p1), .val (.int p2), .val (.long q3), .second, .val (.long q4), .second, .val (.long q5), .second, .val (.int p6), .unset, .unset, .unset, .unset, .unset, .unset, .unset, .unset, .unset, .unset, .unset] [(.int (p2 &&& (3 : Int32)))])
  obtain ⟨x9, hx9⟩ : ∃ z, z = (p2 &&& (3 : Int32)) := ⟨_, rfl⟩
  rw [← hx9]
  show own_Run p e below _ s₁ (mkF m 3 #[.val (.int p1), .val (.int p2), .val (.long q3), .second, .val (.long q4), .second, .val (.long q5), .second, .val (.int p6), .unset, .unset, .unset, .unset, .unset, .unset, .unset, .unset, .unset, .unset, .unset] [(.int x9)])
  refine own_go (fun _ k => XS.istore X0.here hx rfl (hb hby at_3) rfl (l' := #[.val (.int p1), .val (.int p2), .val (.long q3), .second, .val (.long q4), .second, .val (.long q5), .second, .val (.int p6), .val (.int x9), .unset, .unset, .unset, .unset, .unset, .unset, .unset, .unset, .unset, .unset]) rfl k) ?_
  refine own_go (fun _ k => XS.iconst X0.here hx rfl (hb hby at_5) k) ?_
  refine own_go (fun _ k => XS.iloadN X0.here hx rfl (hb hby at_6) rfl k) ?_
  refine own_go (fun _ k => XS.iconst X0.here hx rfl (hb hby at_7) k) ?_
  show own_Run p e below _ s₁ (mkF m 8 #[.val (.int p1), .val (.int p2), .val (.long q3), .second, .val (.long q4), .second, .val (.long q5), .second, .val (.int p6), .val (.int x9), .unset, .unset, .unset, .unset, .unset, .unset, .unset, .unset, .unset, .unset] [(.int (2 : Int32)), (.int p2), (.int (1 : Int32))])
  refine own_go (fun _ k => XS.iushr X0.here hx rfl (hb hby at_8) rfl k) ?_
  refine own_go (fun _ k => XS.sipush X0.here hx rfl (hb hby at_9) k) ?_
  refine own_go (fun _ k => XS.iand X0.here hx rfl (hb hby at_12) rfl k) ?_
  refine own_go (fun _ k => XS.iadd X0.here hx rfl (hb hby at_13) rfl k) ?_
  show own_Run p e below _ s₁ (mkF m 14 #[.val (.int p1), .val (.int p2), .val (.long q3), .second, .val (.long q4), .second, .val (.long q5), .second, .val (.int p6), .val (.int x9), .unset, .unset, .unset, .unset, .unset, .unset, .unset, .unset, .unset, .unset] [(.int ((1 : Int32) + (((p2.toUInt32 >>> ((2 : Int32) &&& 31).toUInt32).toInt32) &&& (255 : Int32))))])
  obtain ⟨x10, hx10⟩ : ∃ z, z = ((1 : Int32) + (((p2.toUInt32 >>> ((2 : Int32) &&& 31).toUInt32).toInt32) &&& (255 : Int32))) := ⟨_, rfl⟩
  rw [← hx10]
  show own_Run p e below _ s₁ (mkF m 14 #[.val (.int p1), .val (.int p2), .val (.long q3), .second, .val (.long q4), .second, .val (.long q5), .second, .val (.int p6), .val (.int x9), .unset, .unset, .unset, .unset, .unset, .unset, .unset, .unset, .unset, .unset] [(.int x10)])
  refine own_go (fun _ k => XS.istore X0.here hx rfl (hb hby at_14) rfl (l' := #[.val (.int p1), .val (.int p2), .val (.long q3), .second, .val (.long q4), .second, .val (.long q5), .second, .val (.int p6), .val (.int x9), .val (.int x10), .unset, .unset, .unset, .unset, .unset, .unset, .unset, .unset, .unset]) rfl k) ?_
  refine own_go (fun _ k => XS.iconst X0.here hx rfl (hb hby at_16) k) ?_
  refine own_go (fun _ k => XS.iloadN X0.here hx rfl (hb hby at_17) rfl k) ?_
  refine own_go (fun _ k => XS.bipush X0.here hx rfl (hb hby at_18) k) ?_
  show own_Run p e below _ s₁ (mkF m 20 #[.val (.int p1), .val (.int p2), .val (.long q3), .second, .val (.long q4), .second, .val (.long q5), .second, .val (.int p6), .val (.int x9), .val (.int x10), .unset, .unset, .unset, .unset, .unset, .unset, .unset, .unset, .unset] [(.int (10 : Int32)), (.int p2), (.int (1 : Int32))])
  refine own_go (fun _ k => XS.iushr X0.here hx rfl (hb hby at_20) rfl k) ?_
  refine own_go (fun _ k => XS.sipush X0.here hx rfl (hb hby at_21) k) ?_
  refine own_go (fun _ k => XS.iand X0.here hx rfl (hb hby at_24) rfl k) ?_
  refine own_go (fun _ k => XS.iadd X0.here hx rfl (hb hby at_25) rfl k) ?_
  show own_Run p e below _ s₁ (mkF m 26 #[.val (.int p1), .val (.int p2), .val (.long q3), .second, .val (.long q4), .second, .val (.long q5), .second, .val (.int p6), .val (.int x9), .val (.int x10), .unset, .unset, .unset, .unset, .unset, .unset, .unset, .unset, .unset] [(.int ((1 : Int32) + (((p2.toUInt32 >>> ((10 : Int32) &&& 31).toUInt32).toInt32) &&& (255 : Int32))))])
  obtain ⟨x11, hx11⟩ : ∃ z, z = ((1 : Int32) + (((p2.toUInt32 >>> ((10 : Int32) &&& 31).toUInt32).toInt32) &&& (255 : Int32))) := ⟨_, rfl⟩
  rw [← hx11]
  show own_Run p e below _ s₁ (mkF m 26 #[.val (.int p1), .val (.int p2), .val (.long q3), .second, .val (.long q4), .second, .val (.long q5), .second, .val (.int p6), .val (.int x9), .val (.int x10), .unset, .unset, .unset, .unset, .unset, .unset, .unset, .unset, .unset] [(.int x11)])
  refine own_go (fun _ k => XS.istore X0.here hx rfl (hb hby at_26) rfl (l' := #[.val (.int p1), .val (.int p2), .val (.long q3), .second, .val (.long q4), .second, .val (.long q5), .second, .val (.int p6), .val (.int x9), .val (.int x10), .val (.int x11), .unset, .unset, .unset, .unset, .unset, .unset, .unset, .unset]) rfl k) ?_
  refine own_go (fun _ k => XS.iloadN X0.here hx rfl (hb hby at_28) rfl k) ?_
  show own_Run p e below _ s₁ (mkF m 29 #[.val (.int p1), .val (.int p2), .val (.long q3), .second, .val (.long q4), .second, .val (.long q5), .second, .val (.int p6), .val (.int x9), .val (.int x10), .val (.int x11), .unset, .unset, .unset, .unset, .unset, .unset, .unset, .unset] [(.int p1)])
  refine own_go (X0.ldcInt hx hown (mvT hZ (W 0 rfl)) (g := (mkF m 29 #[.val (.int p1), .val (.int p2), .val (.long q3), .second, .val (.long q4), .second, .val (.long q5), .second, .val (.int p6), .val (.int x9), .val (.int x10), .val (.int x11), .unset, .unset, .unset, .unset, .unset, .unset, .unset, .unset] [(.int p1)])) rfl (hb hby at_29)) ?_
  show own_Run p e below _ s₁ (mkF m 31 #[.val (.int p1), .val (.int p2), .val (.long q3), .second, .val (.long q4), .second, .val (.long q5), .second, .val (.int p6), .val (.int x9), .val (.int x10), .val (.int x11), .unset, .unset, .unset, .unset, .unset, .unset, .unset, .unset] [(.int (2147483135 : Int32)), (.int p1)])
  obtain ⟨_, _, ⟨T171, L171, k171, n171⟩, -, X171, ⟨Lc171, hQ171, l171, y171, z171⟩, st171⟩ := Jvm.LawKit.callS X0 hx (y := (⟨"java/lang/Math", "min", "(II)I"⟩ : MethodName)) hown (mvT hZ (W 1 rfl)) (mvT hZ (W 2 rfl)) (mvT hZ (W 3 rfl)) (mvT hZ (W 4 rfl)) (by decide) (backOf (W := 0) (rm1 l Z a0 hw [] p1 (2147483135 : Int32) h0 n0 Z0 ) hZ (W 4 rfl) (W 3 rfl) (by decide) (by decide)) (g := (mkF m 31 #[.val (.int p1), .val (.int p2), .val (.long q3), .second, .val (.long q4), .second, .val (.long q5), .second, .val (.int p6), .val (.int x9), .val (.int x10), .val (.int x11), .unset, .unset, .unset, .unset, .unset, .unset, .unset, .unset] [(.int (2147483135 : Int32)), (.int p1)])) rfl (by rw [hml]; rfl) (argsL := [(.int p1), (.int (2147483135 : Int32))]) (rest := []) (lenOf pd_4 rfl) rfl (by show 2 * 0 + _ ≤ _; exact Nat.le_of_eq rfl) (hb hby at_31) (fun _ _ => ⟨rfl, e0, (by decide : 0 + 0 ≤ _), (by decide : 0 + 0 ≤ _)⟩)
  dsimp only [Pt.U, Pt.locs, Pt.cells, Pt.slots] at X171 l171 y171 z171 st171 hQ171
  subst l171 y171 z171
  obtain ⟨rfl, N171q, e171⟩ := hQ171
  have N171 := Fr.app N0 N171q
  refine own_go st171 ?_
  show own_Run p e below _ T171 (mkF m 34 #[.val (.int p1), .val (.int p2), .val (.long q3), .second, .val (.long q4), .second, .val (.long q5), .second, .val (.int p6), .val (.int x9), .val (.int x10), .val (.int x11), .unset, .unset, .unset, .unset, .unset, .unset, .unset, .unset] [(.int (if (2147483135 : Int32) < p1 then (2147483135 : Int32) else p1))])
  obtain ⟨x12, hx12⟩ : ∃ z, z = (if (2147483135 : Int32) < p1 then (2147483135 : Int32) else p1) := ⟨_, rfl⟩
  rw [← hx12]
  show own_Run p e below _ T171 (mkF m 34 #[.val (.int p1), .val (.int p2), .val (.long q3), .second, .val (.long q4), .second, .val (.long q5), .second, .val (.int p6), .val (.int x9), .val (.int x10), .val (.int x11), .unset, .unset, .unset, .unset, .unset, .unset, .unset, .unset] [(.int x12)])
  refine own_go (fun _ k => XS.istore X171.here hx rfl (hb hby at_34) rfl (l' := #[.val (.int p1), .val (.int p2), .val (.long q3), .second, .val (.long q4), .second, .val (.long q5), .second, .val (.int p6), .val (.int x9), .val (.int x10), .val (.int x11), .val (.int x12), .unset, .unset, .unset, .unset, .unset, .unset, .unset]) rfl k) ?_
  refine own_go (fun _ k => XS.iload X171.here hx rfl (hb hby at_36) rfl k) ?_
  refine own_go (fun _ k => XS.iload X171.here hx rfl (hb hby at_38) rfl k) ?_
  refine own_go (fun _ k => XS.iadd X171.here hx rfl (hb hby at_40) rfl k) ?_
  show own_Run p e below _ T171 (mkF m 41 #[.val (.int p1), .val (.int p2), .val (.long q3), .second, .val (.long q4), .second, .val (.long q5), .second, .val (.int p6), .val (.int x9), .val (.int x10), .val (.int x11), .val (.int x12), .unset, .unset, .unset, .unset, .unset, .unset, .unset] [(.int (x12 + x10))])
  obtain ⟨x13, hx13⟩ : ∃ z, z = (x12 + x10) := ⟨_, rfl⟩
  rw [← hx13]
  show own_Run p e below _ T171 (mkF m 41 #[.val (.int p1), .val (.int p2), .val (.long q3), .second, .val (.long q4), .second, .val (.long q5), .second, .val (.int p6), .val (.int x9), .val (.int x10), .val (.int x11), .val (.int x12), .unset, .unset, .unset, .unset, .unset, .unset, .unset] [(.int x13)])
  refine own_go (fun _ k => XS.istore X171.here hx rfl (hb hby at_41) rfl (l' := #[.val (.int p1), .val (.int p2), .val (.long q3), .second, .val (.long q4), .second, .val (.long q5), .second, .val (.int p6), .val (.int x9), .val (.int x10), .val (.int x11), .val (.int x12), .val (.int x13), .unset, .unset, .unset, .unset, .unset, .unset]) rfl k) ?_
  refine own_go (fun _ k => XS.iload X171.here hx rfl (hb hby at_43) rfl k) ?_
  refine own_go (fun _ k => XS.iload X171.here hx rfl (hb hby at_45) rfl k) ?_
  refine own_go (fun _ k => XS.iadd X171.here hx rfl (hb hby at_47) rfl k) ?_
  show own_Run p e below _ T171 (mkF m 48 #[.val (.int p1), .val (.int p2), .val (.long q3), .second, .val (.long q4), .second, .val (.long q5), .second, .val (.int p6), .val (.int x9), .val (.int x10), .val (.int x11), .val (.int x12), .val (.int x13), .unset, .unset, .unset, .unset, .unset, .unset] [(.int (x13 + x11))])
  obtain ⟨x14, hx14⟩ : ∃ z, z = (x13 + x11) := ⟨_, rfl⟩
  rw [← hx14]
  show own_Run p e below _ T171 (mkF m 48 #[.val (.int p1), .val (.int p2), .val (.long q3), .second, .val (.long q4), .second, .val (.long q5), .second, .val (.int p6), .val (.int x9), .val (.int x10), .val (.int x11), .val (.int x12), .val (.int x13), .unset, .unset, .unset, .unset, .unset, .unset] [(.int x14)])
  have hi1 := own_inc x12 x10 x13 2147483135 (by decide) (own_min0 p1 x12 hx12) (own_gap _ x10 hx10) hx13
  have hi2 := own_inc x13 x11 x14 2147483391 (by decide) hi1.2 (own_gap _ x11 hx11) hx14
  refine own_go (fun _ k => XS.istore X171.here hx rfl (hb hby at_48) rfl (l' := #[.val (.int p1), .val (.int p2), .val (.long q3), .second, .val (.long q4), .second, .val (.long q5), .second, .val (.int p6), .val (.int x9), .val (.int x10), .val (.int x11), .val (.int x12), .val (.int x13), .val (.int x14), .unset, .unset, .unset, .unset, .unset]) rfl k) ?_
  show own_Run p e below _ T171 (mkF m 50 #[.val (.int p1), .val (.int p2), .val (.long q3), .second, .val (.long q4), .second, .val (.long q5), .second, .val (.int p6), .val (.int x9), .val (.int x10), .val (.int x11), .val (.int x12), .val (.int x13), .val (.int x14), .unset, .unset, .unset, .unset, .unset] [])
  obtain ⟨T172, h172, X172, e172, E172, A172, D172, -, st172⟩ := newO X171 hx hZ hown (W 5 rfl) (W 6 rfl) (W 7 rfl) e171 (g := (mkF m 50 #[.val (.int p1), .val (.int p2), .val (.long q3), .second, .val (.long q4), .second, .val (.long q5), .second, .val (.int p6), .val (.int x9), .val (.int x10), .val (.int x11), .val (.int x12), .val (.int x13), .val (.int x14), .unset, .unset, .unset, .unset, .unset] [])) rfl (hb hby at_50) (by decide) (by decide)
  refine own_go st172 ?_
  obtain ⟨b172, g172⟩ : ∃ z, z = h0.size := ⟨_, rfl⟩
  rw [← g172] at A172 D172
  rw [← g172]
  show own_Run p e below _ T172 (mkF m 53 #[.val (.int p1), .val (.int p2), .val (.long q3), .second, .val (.long q4), .second, .val (.long q5), .second, .val (.int p6), .val (.int x9), .val (.int x10), .val (.int x11), .val (.int x12), .val (.int x13), .val (.int x14), .unset, .unset, .unset, .unset, .unset] [(.ref b172)])
  have g_b172 : n0 ≤ b172 := Nat.le_trans Z0 (Nat.le_of_eq g172.symm)
  have sz_b172 : h0.size ≤ b172 := Nat.le_trans K0.1 (Nat.le_of_eq g172.symm)
  have Z0_c173 := Nat.le_trans Z0 E172.1
  have K0_c173 := K0.ext E172
  have F_places_b172 : Fld Z h172 b172 "com/example/net_reducer/netreducer/analysis/Marking" "places" "[I" .null := D172 (Or.inl (W 16 rfl)) (ty := (.array .int)) (by decide)
  have F_tokens_b172 : Fld Z h172 b172 "com/example/net_reducer/netreducer/analysis/Marking" "tokens" "[J" .null := D172 (Or.inl (W 19 rfl)) (ty := (.array .long)) (by decide)
  have F_size_b172 : Fld Z h172 b172 "com/example/net_reducer/netreducer/analysis/Marking" "size" "I" (.int (0 : Int32)) := D172 (Or.inl (W 26 rfl)) (ty := .int) (by decide)
  refine own_go (fun _ k => XS.dup X172.here hx rfl (hb hby at_53) rfl rfl k) ?_
  show own_Run p e below _ T172 (mkF m 54 #[.val (.int p1), .val (.int p2), .val (.long q3), .second, .val (.long q4), .second, .val (.long q5), .second, .val (.int p6), .val (.int x9), .val (.int x10), .val (.int x11), .val (.int x12), .val (.int x13), .val (.int x14), .unset, .unset, .unset, .unset, .unset] [(.ref b172), (.ref b172)])
  obtain ⟨_, _, ⟨T174, L174, k174, n174⟩, -, X174, ⟨Lc174, hQ174, l174, y174, z174⟩, st174⟩ := X172.specialBack hx (y := (⟨"com/example/net_reducer/netreducer/analysis/Marking", "<init>", "()V"⟩ : MethodName)) rfl hown (mvT hZ (W 8 rfl)) (mvT hZ (W 9 rfl)) (mvT hZ (W 10 rfl)) (by decide) (backOf (W := 1) (rm2 l Z a0 hw [] b172 .null .null h172 n0 Z0_c173 A172 F_places_b172 F_tokens_b172 F_size_b172 g_b172) hZ (W 10 rfl) (W 7 rfl) (by decide) (by decide)) (g := (mkF m 54 #[.val (.int p1), .val (.int p2), .val (.long q3), .second, .val (.long q4), .second, .val (.long q5), .second, .val (.int p6), .val (.int x9), .val (.int x10), .val (.int x11), .val (.int x12), .val (.int x13), .val (.int x14), .unset, .unset, .unset, .unset, .unset] [(.ref b172), (.ref b172)])) rfl (by rw [hml]; rfl) (Steps.refl _) (a := b172) (argsL := []) (rest := [(.ref b172)]) (lenOf pd_5 rfl) rfl (by show 2 * 0 + _ ≤ _; exact Nat.le_of_eq rfl) (hb hby at_54) (fun _ _ => ⟨rfl, e172, (by decide : 1 + 2 ≤ _), (by decide : 3 + 16 ≤ _)⟩)
  dsimp only [Pt.U, Pt.locs, Pt.cells, Pt.slots] at X174 l174 y174 z174 st174 hQ174
  subst l174 y174 z174
  obtain ⟨b1_174, b2_174, k1_174, k2_174, rfl, N174q, K174, P174_0, P174_1, P174_2, P174_3, P174_4, P174_5, P174_6, P174_7, P174_8, P174_9, P174_10⟩ := hQ174
  have ne_b172_b1_174 : b172 ≠ b1_174 := Nat.ne_of_lt (Nat.lt_of_lt_of_le A172.lt P174_6)
  have g_b1_174 : n0 ≤ b1_174 := Nat.le_trans Z0_c173 P174_6
  have sz_b1_174 : h0.size ≤ b1_174 := Nat.le_trans K0_c173.1 P174_6
  have ne_b172_b2_174 : b172 ≠ b2_174 := Nat.ne_of_lt (Nat.lt_of_lt_of_le A172.lt P174_7)
  have g_b2_174 : n0 ≤ b2_174 := Nat.le_trans Z0_c173 P174_7
  have sz_b2_174 : h0.size ≤ b2_174 := Nat.le_trans K0_c173.1 P174_7
  have N174 := Fr.app N171 N174q
  refine own_goT st174 ?_
  show own_Run p e below _ T174 (mkF m 57 #[.val (.int p1), .val (.int p2), .val (.long q3), .second, .val (.long q4), .second, .val (.long q5), .second, .val (.int p6), .val (.int x9), .val (.int x10), .val (.int x11), .val (.int x12), .val (.int x13), .val (.int x14), .unset, .unset, .unset, .unset, .unset] [(.ref b172)])
  have Z0_c175 := Nat.le_trans Z0_c173 K174.1
  have K0_c175 := K0_c173.trans K174 (allS (Or.inr sz_b172) all0)
  have A172_c175 := A172.keep K174
  refine own_go (fun _ k => XS.astore X174.here hx rfl (hb hby at_57) rfl rfl (l' := #[.val (.int p1), .val (.int p2), .val (.long q3), .second, .val (.long q4), .second, .val (.long q5), .second, .val (.int p6), .val (.int x9), .val (.int x10), .val (.int x11), .val (.int x12), .val (.int x13), .val (.int x14), .val (.ref b172), .unset, .unset, .unset, .unset]) rfl k) ?_
  show own_Run p e below _ T174 (mkF m 59 #[.val (.int p1), .val (.int p2), .val (.long q3), .second, .val (.long q4), .second, .val (.long q5), .second, .val (.int p6), .val (.int x9), .val (.int x10), .val (.int x11), .val (.int x12), .val (.int x13), .val (.int x14), .val (.ref b172), .unset, .unset, .unset, .unset] [])
  rcases own_and3 p2 x9 hx9 with rfl | rfl | rfl | rfl
  · show own_Run p e below _ T174 (mkF m 59 #[.val (.int p1), .val (.int p2), .val (.long q3), .second, .val (.long q4), .second, .val (.long q5), .second, .val (.int p6), .val (.int (0 : Int32)), .val (.int x10), .val (.int x11), .val (.int x12), .val (.int x13), .val (.int x14), .val (.ref b172), .unset, .unset, .unset, .unset] [])
    refine own_go (fun _ k => XS.iload X174.here hx rfl (hb hby at_59) rfl k) ?_
    refine own_go (fun _ k => XS.iconst X174.here hx rfl (hb hby at_61) k) ?_
    show own_Run p e below _ T174 (mkF m 62 #[.val (.int p1), .val (.int p2), .val (.long q3), .second, .val (.long q4), .second, .val (.long q5), .second, .val (.int p6), .val (.int (0 : Int32)), .val (.int x10), .val (.int x11), .val (.int x12), .val (.int x13), .val (.int x14), .val (.ref b172), .unset, .unset, .unset, .unset] [(.int (1 : Int32)), (.int (0 : Int32))])
    refine own_go (fun _ k => XS.icmpYes X174.here hx rfl (pc0 := 62) (pc' := 73) rfl (hb hby at_62) rfl (tlt (by decide : (0 : Int32) < (1 : Int32))).1 (by decide) (by decide) k) ?_
    show own_Run p e below _ T174 (mkF m 73 #[.val (.int p1), .val (.int p2), .val (.long q3), .second, .val (.long q4), .second, .val (.long q5), .second, .val (.int p6), .val (.int (0 : Int32)), .val (.int x10), .val (.int x11), .val (.int x12), .val (.int x13), .val (.int x14), .val (.ref b172), .unset, .unset, .unset, .unset] [])
    refine own_go (fun _ k => XS.iload X174.here hx rfl (hb hby at_73) rfl k) ?_
    refine own_go (fun _ k => XS.iconst X174.here hx rfl (hb hby at_75) k) ?_
    show own_Run p e below _ T174 (mkF m 76 #[.val (.int p1), .val (.int p2), .val (.long q3), .second, .val (.long q4), .second, .val (.long q5), .second, .val (.int p6), .val (.int (0 : Int32)), .val (.int x10), .val (.int x11), .val (.int x12), .val (.int x13), .val (.int x14), .val (.ref b172), .unset, .unset, .unset, .unset] [(.int (2 : Int32)), (.int (0 : Int32))])
    refine own_go (fun _ k => XS.icmpYes X174.here hx rfl (pc0 := 76) (pc' := 88) rfl (hb hby at_76) rfl (tlt (by decide : (0 : Int32) < (2 : Int32))).1 (by decide) (by decide) k) ?_
    show own_Run p e below _ T174 (mkF m 88 #[.val (.int p1), .val (.int p2), .val (.long q3), .second, .val (.long q4), .second, .val (.long q5), .second, .val (.int p6), .val (.int (0 : Int32)), .val (.int x10), .val (.int x11), .val (.int x12), .val (.int x13), .val (.int x14), .val (.ref b172), .unset, .unset, .unset, .unset] [])
    refine own_go (fun _ k => XS.iload X174.here hx rfl (hb hby at_88) rfl k) ?_
    refine own_go (fun _ k => XS.iconst X174.here hx rfl (hb hby at_90) k) ?_
    show own_Run p e below _ T174 (mkF m 91 #[.val (.int p1), .val (.int p2), .val (.long q3), .second, .val (.long q4), .second, .val (.long q5), .second, .val (.int p6), .val (.int (0 : Int32)), .val (.int x10), .val (.int x11), .val (.int x12), .val (.int x13), .val (.int x14), .val (.ref b172), .unset, .unset, .unset, .unset] [(.int (3 : Int32)), (.int (0 : Int32))])
    refine own_go (fun _ k => XS.icmpYes X174.here hx rfl (pc0 := 91) (pc' := 103) rfl (hb hby at_91) rfl (tlt (by decide : (0 : Int32) < (3 : Int32))).1 (by decide) (by decide) k) ?_
    show own_Run p e below _ T174 (mkF m 103 #[.val (.int p1), .val (.int p2), .val (.long q3), .second, .val (.long q4), .second, .val (.long q5), .second, .val (.int p6), .val (.int (0 : Int32)), .val (.int x10), .val (.int x11), .val (.int x12), .val (.int x13), .val (.int x14), .val (.ref b172), .unset, .unset, .unset, .unset] [])
    refine own_go (fun _ k => XS.iload X174.here hx rfl (hb hby at_103) rfl k) ?_
    refine own_go (fun _ k => XS.bipush X174.here hx rfl (hb hby at_105) k) ?_
    refine own_go (fun _ k => XS.iand X174.here hx rfl (hb hby at_107) rfl k) ?_
    show own_Run p e below _ T174 (mkF m 108 #[.val (.int p1), .val (.int p2), .val (.long q3), .second, .val (.long q4), .second, .val (.long q5), .second, .val (.int p6), .val (.int (0 : Int32)), .val (.int x10), .val (.int x11), .val (.int x12), .val (.int x13), .val (.int x14), .val (.ref b172), .unset, .unset, .unset, .unset] [(.int (p6 &&& (7 : Int32)))])
    obtain ⟨x16, hx16⟩ : ∃ z, z = (p6 &&& (7 : Int32)) := ⟨_, rfl⟩
    rw [← hx16]
    show own_Run p e below _ T174 (mkF m 108 #[.val (.int p1), .val (.int p2), .val (.long q3), .second, .val (.long q4), .second, .val (.long q5), .second, .val (.int p6), .val (.int (0 : Int32)), .val (.int x10), .val (.int x11), .val (.int x12), .val (.int x13), .val (.int x14), .val (.ref b172), .unset, .unset, .unset, .unset] [(.int x16)])
    refine own_go (fun _ k => XS.istore X174.here hx rfl (hb hby at_108) rfl (l' := #[.val (.int p1), .val (.int p2), .val (.long q3), .second, .val (.long q4), .second, .val (.long q5), .second, .val (.int p6), .val (.int (0 : Int32)), .val (.int x10), .val (.int x11), .val (.int x12), .val (.int x13), .val (.int x14), .val (.ref b172), .val (.int x16), .unset, .unset, .unset]) rfl k) ?_
    refine own_go (fun _ k => XS.iload X174.here hx rfl (hb hby at_110) rfl k) ?_
    show own_Run p e below _ T174 (mkF m 112 #[.val (.int p1), .val (.int p2), .val (.long q3), .second, .val (.long q4), .second, .val (.long q5), .second, .val (.int p6), .val (.int (0 : Int32)), .val (.int x10), .val (.int x11), .val (.int x12), .val (.int x13), .val (.int x14), .val (.ref b172), .val (.int x16), .unset, .unset, .unset] [(.int x16)])
    by_cases hc112_176 : x16 = (0 : Int32)
    · refine own_go (fun _ k => XS.ifNo X174.here hx rfl (hb hby at_112) rfl ((if0 _ _).trans (teq hc112_176).2) k) ?_
      show own_Run p e below _ T174 (mkF m 115 #[.val (.int p1), .val (.int p2), .val (.long q3), .second, .val (.long q4), .second, .val (.long q5), .second, .val (.int p6), .val (.int (0 : Int32)), .val (.int x10), .val (.int x11), .val (.int x12), .val (.int x13), .val (.int x14), .val (.ref b172), .val (.int x16), .unset, .unset, .unset] [])
      refine own_go (fun _ k => XS.iload X174.here hx rfl (hb hby at_115) rfl k) ?_
      refine own_go (fun _ k => XS.istore X174.here hx rfl (hb hby at_117) rfl (l' := #[.val (.int p1), .val (.int p2), .val (.long q3), .second, .val (.long q4), .second, .val (.long q5), .second, .val (.int p6), .val (.int (0 : Int32)), .val (.int x10), .val (.int x11), .val (.int x12), .val (.int x13), .val (.int x14), .val (.ref b172), .val (.int x16), .val (.int x12), .unset, .unset]) rfl k) ?_
      refine own_go (fun _ k => XS.goto X174.here hx rfl (pc0 := 119) (pc' := 197) rfl (hb hby at_119) (by decide) (by decide) k) ?_
      show own_Run p e below _ T174 (mkF m 197 #[.val (.int p1), .val (.int p2), .val (.long q3), .second, .val (.long q4), .second, .val (.long q5), .second, .val (.int p6), .val (.int (0 : Int32)), .val (.int x10), .val (.int x11), .val (.int x12), .val (.int x13), .val (.int x14), .val (.ref b172), .val (.int x16), .val (.int x12), .unset, .unset] [])
      exact tail0 p1 p2 q3 q4 q5 p6 h0 n0 hx hZ hw hby hml hown hnm hret hlk x10 x11 x12 x13 x14 b172 x16 x12 b1_174 b2_174 k1_174 k2_174 T174 T174.heap _ X174 rfl N174 Z0_c175 K0_c175 P174_0 P174_1 P174_2 P174_3 P174_4 P174_5 (hi1.1) (hi2.1) 
    · refine own_go (fun _ k => XS.ifYes X174.here hx rfl (pc0 := 112) (pc' := 122) rfl (hb hby at_112) rfl ((if0 _ _).trans (feq hc112_176).2) (by decide) (by decide) k) ?_
      show own_Run p e below _ T174 (mkF m 122 #[.val (.int p1), .val (.int p2), .val (.long q3), .second, .val (.long q4), .second, .val (.long q5), .second, .val (.int p6), .val (.int (0 : Int32)), .val (.int x10), .val (.int x11), .val (.int x12), .val (.int x13), .val (.int x14), .val (.ref b172), .val (.int x16), .unset, .unset, .unset] [])
      refine own_go (fun _ k => XS.iload X174.here hx rfl (hb hby at_122) rfl k) ?_
      refine own_go (fun _ k => XS.iconst X174.here hx rfl (hb hby at_124) k) ?_
      show own_Run p e below _ T174 (mkF m 125 #[.val (.int p1), .val (.int p2), .val (.long q3), .second, .val (.long q4), .second, .val (.long q5), .second, .val (.int p6), .val (.int (0 : Int32)), .val (.int x10), .val (.int x11), .val (.int x12), .val (.int x13), .val (.int x14), .val (.ref b172), .val (.int x16), .unset, .unset, .unset] [(.int (1 : Int32)), (.int x16)])
      by_cases hc125_177 : x16 = (1 : Int32)
      · refine own_go (fun _ k => XS.icmpNo X174.here hx rfl (hb hby at_125) rfl (teq hc125_177).2 k) ?_
        show own_Run p e below _ T174 (mkF m 128 #[.val (.int p1), .val (.int p2), .val (.long q3), .second, .val (.long q4), .second, .val (.long q5), .second, .val (.int p6), .val (.int (0 : Int32)), .val (.int x10), .val (.int x11), .val (.int x12), .val (.int x13), .val (.int x14), .val (.ref b172), .val (.int x16), .unset, .unset, .unset] [])
        refine own_go (fun _ k => XS.iload X174.here hx rfl (hb hby at_128) rfl k) ?_
        refine own_go (fun _ k => XS.istore X174.here hx rfl (hb hby at_130) rfl (l' := #[.val (.int p1), .val (.int p2), .val (.long q3), .second, .val (.long q4), .second, .val (.long q5), .second, .val (.int p6), .val (.int (0 : Int32)), .val (.int x10), .val (.int x11), .val (.int x12), .val (.int x13), .val (.int x14), .val (.ref b172), .val (.int x16), .val (.int x13), .unset, .unset]) rfl k) ?_
        refine own_go (fun _ k => XS.goto X174.here hx rfl (pc0 := 132) (pc' := 197) rfl (hb hby at_132) (by decide) (by decide) k) ?_
        show own_Run p e below _ T174 (mkF m 197 #[.val (.int p1), .val (.int p2), .val (.long q3), .second, .val (.long q4), .second, .val (.long q5), .second, .val (.int p6), .val (.int (0 : Int32)), .val (.int x10), .val (.int x11), .val (.int x12), .val (.int x13), .val (.int x14), .val (.ref b172), .val (.int x16), .val (.int x13), .unset, .unset] [])
        exact tail0 p1 p2 q3 q4 q5 p6 h0 n0 hx hZ hw hby hml hown hnm hret hlk x10 x11 x12 x13 x14 b172 x16 x13 b1_174 b2_174 k1_174 k2_174 T174 T174.heap _ X174 rfl N174 Z0_c175 K0_c175 P174_0 P174_1 P174_2 P174_3 P174_4 P174_5 (hi1.1) (hi2.1) 
      · refine own_go (fun _ k => XS.icmpYes X174.here hx rfl (pc0 := 125) (pc' := 135) rfl (hb hby at_125) rfl (feq hc125_177).2 (by decide) (by decide) k) ?_
        show own_Run p e below _ T174 (mkF m 135 #[.val (.int p1), .val (.int p2), .val (.long q3), .second, .val (.long q4), .second, .val (.long q5), .second, .val (.int p6), .val (.int (0 : Int32)), .val (.int x10), .val (.int x11), .val (.int x12), .val (.int x13), .val (.int x14), .val (.ref b172), .val (.int x16), .unset, .unset, .unset] [])
        refine own_go (fun _ k => XS.iload X174.here hx rfl (hb hby at_135) rfl k) ?_
        refine own_go (fun _ k => XS.iconst X174.here hx rfl (hb hby at_137) k) ?_
        show own_Run p e below _ T174 (mkF m 138 #[.val (.int p1), .val (.int p2), .val (.long q3), .second, .val (.long q4), .second, .val (.long q5), .second, .val (.int p6), .val (.int (0 : Int32)), .val (.int x10), .val (.int x11), .val (.int x12), .val (.int x13), .val (.int x14), .val (.ref b172), .val (.int x16), .unset, .unset, .unset] [(.int (2 : Int32)), (.int x16)])
        by_cases hc138_178 : x16 = (2 : Int32)
        · refine own_go (fun _ k => XS.icmpNo X174.here hx rfl (hb hby at_138) rfl (teq hc138_178).2 k) ?_
          show own_Run p e below _ T174 (mkF m 141 #[.val (.int p1), .val (.int p2), .val (.long q3), .second, .val (.long q4), .second, .val (.long q5), .second, .val (.int p6), .val (.int (0 : Int32)), .val (.int x10), .val (.int x11), .val (.int x12), .val (.int x13), .val (.int x14), .val (.ref b172), .val (.int x16), .unset, .unset, .unset] [])
          refine own_go (fun _ k => XS.iload X174.here hx rfl (hb hby at_141) rfl k) ?_
          refine own_go (fun _ k => XS.istore X174.here hx rfl (hb hby at_143) rfl (l' := #[.val (.int p1), .val (.int p2), .val (.long q3), .second, .val (.long q4), .second, .val (.long q5), .second, .val (.int p6), .val (.int (0 : Int32)), .val (.int x10), .val (.int x11), .val (.int x12), .val (.int x13), .val (.int x14), .val (.ref b172), .val (.int x16), .val (.int x14), .unset, .unset]) rfl k) ?_
          refine own_go (fun _ k => XS.goto X174.here hx rfl (pc0 := 145) (pc' := 197) rfl (hb hby at_145) (by decide) (by decide) k) ?_
          show own_Run p e below _ T174 (mkF m 197 #[.val (.int p1), .val (.int p2), .val (.long q3), .second, .val (.long q4), .second, .val (.long q5), .second, .val (.int p6), .val (.int (0 : Int32)), .val (.int x10), .val (.int x11), .val (.int x12), .val (.int x13), .val (.int x14), .val (.ref b172), .val (.int x16), .val (.int x14), .unset, .unset] [])
          exact tail0 p1 p2 q3 q4 q5 p6 h0 n0 hx hZ hw hby hml hown hnm hret hlk x10 x11 x12 x13 x14 b172 x16 x14 b1_174 b2_174 k1_174 k2_174 T174 T174.heap _ X174 rfl N174 Z0_c175 K0_c175 P174_0 P174_1 P174_2 P174_3 P174_4 P174_5 (hi1.1) (hi2.1) 
        · refine own_go (fun _ k => XS.icmpYes X174.here hx rfl (pc0 := 138) (pc' := 148) rfl (hb hby at_138) rfl (feq hc138_178).2 (by decide) (by decide) k) ?_
          show own_Run p e below _ T174 (mkF m 148 #[.val (.int p1), .val (.int p2), .val (.long q3), .second, .val (.long q4), .second, .val (.long q5), .second, .val (.int p6), .val (.int (0 : Int32)), .val (.int x10), .val (.int x11), .val (.int x12), .val (.int x13), .val (.int x14), .val (.ref b172), .val (.int x16), .unset, .unset, .unset] [])
          refine own_go (fun _ k => XS.iload X174.here hx rfl (hb hby at_148) rfl k) ?_
          refine own_go (fun _ k => XS.iconst X174.here hx rfl (hb hby at_150) k) ?_
          show own_Run p e below _ T174 (mkF m 151 #[.val (.int p1), .val (.int p2), .val (.long q3), .second, .val (.long q4), .second, .val (.long q5), .second, .val (.int p6), .val (.int (0 : Int32)), .val (.int x10), .val (.int x11), .val (.int x12), .val (.int x13), .val (.int x14), .val (.ref b172), .val (.int x16), .unset, .unset, .unset] [(.int (3 : Int32)), (.int x16)])
          by_cases hc151_179 : x16 = (3 : Int32)
          · refine own_go (fun _ k => XS.icmpNo X174.here hx rfl (hb hby at_151) rfl (teq hc151_179).2 k) ?_
            show own_Run p e below _ T174 (mkF m 154 #[.val (.int p1), .val (.int p2), .val (.long q3), .second, .val (.long q4), .second, .val (.long q5), .second, .val (.int p6), .val (.int (0 : Int32)), .val (.int x10), .val (.int x11), .val (.int x12), .val (.int x13), .val (.int x14), .val (.ref b172), .val (.int x16), .unset, .unset, .unset] [])
            refine own_go (fun _ k => XS.iload X174.here hx rfl (hb hby at_154) rfl k) ?_
            refine own_go (fun _ k => XS.iconst X174.here hx rfl (hb hby at_156) k) ?_
            refine own_go (fun _ k => XS.isub X174.here hx rfl (hb hby at_157) rfl k) ?_
            refine own_go (fun _ k => XS.istore X174.here hx rfl (hb hby at_158) rfl (l' := #[.val (.int p1), .val (.int p2), .val (.long q3), .second, .val (.long q4), .second, .val (.long q5), .second, .val (.int p6), .val (.int (0 : Int32)), .val (.int x10), .val (.int x11), .val (.int x12), .val (.int x13), .val (.int x14), .val (.ref b172), .val (.int x16), .val (.int (x12 - (1 : Int32))), .unset, .unset]) rfl k) ?_
            show own_Run p e below _ T174 (mkF m 160 #[.val (.int p1), .val (.int p2), .val (.long q3), .second, .val (.long q4), .second, .val (.long q5), .second, .val (.int p6), .val (.int (0 : Int32)), .val (.int x10), .val (.int x11), .val (.int x12), .val (.int x13), .val (.int x14), .val (.ref b172), .val (.int x16), .val (.int (x12 - (1 : Int32))), .unset, .unset] [])
            refine own_go (fun _ k => XS.goto X174.here hx rfl (pc0 := 160) (pc' := 197) rfl (hb hby at_160) (by decide) (by decide) k) ?_
            show own_Run p e below _ T174 (mkF m 197 #[.val (.int p1), .val (.int p2), .val (.long q3), .second, .val (.long q4), .second, .val (.long q5), .second, .val (.int p6), .val (.int (0 : Int32)), .val (.int x10), .val (.int x11), .val (.int x12), .val (.int x13), .val (.int x14), .val (.ref b172), .val (.int x16), .val (.int (x12 - (1 : Int32))), .unset, .unset] [])
            exact tail0 p1 p2 q3 q4 q5 p6 h0 n0 hx hZ hw hby hml hown hnm hret hlk x10 x11 x12 x13 x14 b172 x16 (x12 - (1 : Int32)) b1_174 b2_174 k1_174 k2_174 T174 T174.heap _ X174 rfl N174 Z0_c175 K0_c175 P174_0 P174_1 P174_2 P174_3 P174_4 P174_5 (hi1.1) (hi2.1) 
          · refine own_go (fun _ k => XS.icmpYes X174.here hx rfl (pc0 := 151) (pc' := 163) rfl (hb hby at_151) rfl (feq hc151_179).2 (by decide) (by decide) k) ?_
            show own_Run p e below _ T174 (mkF m 163 #[.val (.int p1), .val (.int p2), .val (.long q3), .second, .val (.long q4), .second, .val (.long q5), .second, .val (.int p6), .val (.int (0 : Int32)), .val (.int x10), .val (.int x11), .val (.int x12), .val (.int x13), .val (.int x14), .val (.ref b172), .val (.int x16), .unset, .unset, .unset] [])
            refine own_go (fun _ k => XS.iload X174.here hx rfl (hb hby at_163) rfl k) ?_
            refine own_go (fun _ k => XS.iconst X174.here hx rfl (hb hby at_165) k) ?_
            show own_Run p e below _ T174 (mkF m 166 #[.val (.int p1), .val (.int p2), .val (.long q3), .second, .val (.long q4), .second, .val (.long q5), .second, .val (.int p6), .val (.int (0 : Int32)), .val (.int x10), .val (.int x11), .val (.int x12), .val (.int x13), .val (.int x14), .val (.ref b172), .val (.int x16), .unset, .unset, .unset] [(.int (4 : Int32)), (.int x16)])
            by_cases hc166_180 : x16 = (4 : Int32)
            · refine own_go (fun _ k => XS.icmpNo X174.here hx rfl (hb hby at_166) rfl (teq hc166_180).2 k) ?_
              show own_Run p e below _ T174 (mkF m 169 #[.val (.int p1), .val (.int p2), .val (.long q3), .second, .val (.long q4), .second, .val (.long q5), .second, .val (.int p6), .val (.int (0 : Int32)), .val (.int x10), .val (.int x11), .val (.int x12), .val (.int x13), .val (.int x14), .val (.ref b172), .val (.int x16), .unset, .unset, .unset] [])
              refine own_go (fun _ k => XS.iload X174.here hx rfl (hb hby at_169) rfl k) ?_
              refine own_go (fun _ k => XS.iconst X174.here hx rfl (hb hby at_171) k) ?_
              refine own_go (fun _ k => XS.isub X174.here hx rfl (hb hby at_172) rfl k) ?_
              refine own_go (fun _ k => XS.istore X174.here hx rfl (hb hby at_173) rfl (l' := #[.val (.int p1), .val (.int p2), .val (.long q3), .second, .val (.long q4), .second, .val (.long q5), .second, .val (.int p6), .val (.int (0 : Int32)), .val (.int x10), .val (.int x11), .val (.int x12), .val (.int x13), .val (.int x14), .val (.ref b172), .val (.int x16), .val (.int (x13 - (1 : Int32))), .unset, .unset]) rfl k) ?_
              show own_Run p e below _ T174 (mkF m 175 #[.val (.int p1), .val (.int p2), .val (.long q3), .second, .val (.long q4), .second, .val (.long q5), .second, .val (.int p6), .val (.int (0 : Int32)), .val (.int x10), .val (.int x11), .val (.int x12), .val (.int x13), .val (.int x14), .val (.ref b172), .val (.int x16), .val (.int (x13 - (1 : Int32))), .unset, .unset] [])
              refine own_go (fun _ k => XS.goto X174.here hx rfl (pc0 := 175) (pc' := 197) rfl (hb hby at_175) (by decide) (by decide) k) ?_
              show own_Run p e below _ T174 (mkF m 197 #[.val (.int p1), .val (.int p2), .val (.long q3), .second, .val (.long q4), .second, .val (.long q5), .second, .val (.int p6), .val (.int (0 : Int32)), .val (.int x10), .val (.int x11), .val (.int x12), .val (.int x13), .val (.int x14), .val (.ref b172), .val (.int x16), .val (.int (x13 - (1 : Int32))), .unset, .unset] [])
              exact tail0 p1 p2 q3 q4 q5 p6 h0 n0 hx hZ hw hby hml hown hnm hret hlk x10 x11 x12 x13 x14 b172 x16 (x13 - (1 : Int32)) b1_174 b2_174 k1_174 k2_174 T174 T174.heap _ X174 rfl N174 Z0_c175 K0_c175 P174_0 P174_1 P174_2 P174_3 P174_4 P174_5 (hi1.1) (hi2.1) 
            · refine own_go (fun _ k => XS.icmpYes X174.here hx rfl (pc0 := 166) (pc' := 178) rfl (hb hby at_166) rfl (feq hc166_180).2 (by decide) (by decide) k) ?_
              show own_Run p e below _ T174 (mkF m 178 #[.val (.int p1), .val (.int p2), .val (.long q3), .second, .val (.long q4), .second, .val (.long q5), .second, .val (.int p6), .val (.int (0 : Int32)), .val (.int x10), .val (.int x11), .val (.int x12), .val (.int x13), .val (.int x14), .val (.ref b172), .val (.int x16), .unset, .unset, .unset] [])
              refine own_go (fun _ k => XS.iload X174.here hx rfl (hb hby at_178) rfl k) ?_
              refine own_go (fun _ k => XS.iconst X174.here hx rfl (hb hby at_180) k) ?_
              show own_Run p e below _ T174 (mkF m 181 #[.val (.int p1), .val (.int p2), .val (.long q3), .second, .val (.long q4), .second, .val (.long q5), .second, .val (.int p6), .val (.int (0 : Int32)), .val (.int x10), .val (.int x11), .val (.int x12), .val (.int x13), .val (.int x14), .val (.ref b172), .val (.int x16), .unset, .unset, .unset] [(.int (5 : Int32)), (.int x16)])
              by_cases hc181_181 : x16 = (5 : Int32)
              · refine own_go (fun _ k => XS.icmpNo X174.here hx rfl (hb hby at_181) rfl (teq hc181_181).2 k) ?_
                show own_Run p e below _ T174 (mkF m 184 #[.val (.int p1), .val (.int p2), .val (.long q3), .second, .val (.long q4), .second, .val (.long q5), .second, .val (.int p6), .val (.int (0 : Int32)), .val (.int x10), .val (.int x11), .val (.int x12), .val (.int x13), .val (.int x14), .val (.ref b172), .val (.int x16), .unset, .unset, .unset] [])
                refine own_go (fun _ k => XS.iload X174.here hx rfl (hb hby at_184) rfl k) ?_
                refine own_go (fun _ k => XS.iconst X174.here hx rfl (hb hby at_186) k) ?_
                refine own_go (fun _ k => XS.iadd X174.here hx rfl (hb hby at_187) rfl k) ?_
                refine own_go (fun _ k => XS.istore X174.here hx rfl (hb hby at_188) rfl (l' := #[.val (.int p1), .val (.int p2), .val (.long q3), .second, .val (.long q4), .second, .val (.long q5), .second, .val (.int p6), .val (.int (0 : Int32)), .val (.int x10), .val (.int x11), .val (.int x12), .val (.int x13), .val (.int x14), .val (.ref b172), .val (.int x16), .val (.int (x14 + (1 : Int32))), .unset, .unset]) rfl k) ?_
                show own_Run p e below _ T174 (mkF m 190 #[.val (.int p1), .val (.int p2), .val (.long q3), .second, .val (.long q4), .second, .val (.long q5), .second, .val (.int p6), .val (.int (0 : Int32)), .val (.int x10), .val (.int x11), .val (.int x12), .val (.int x13), .val (.int x14), .val (.ref b172), .val (.int x16), .val (.int (x14 + (1 : Int32))), .unset, .unset] [])
                refine own_go (fun _ k => XS.goto X174.here hx rfl (pc0 := 190) (pc' := 197) rfl (hb hby at_190) (by decide) (by decide) k) ?_
                show own_Run p e below _ T174 (mkF m 197 #[.val (.int p1), .val (.int p2), .val (.long q3), .second, .val (.long q4), .second, .val (.long q5), .second, .val (.int p6), .val (.int (0 : Int32)), .val (.int x10), .val (.int x11), .val (.int x12), .val (.int x13), .val (.int x14), .val (.ref b172), .val (.int x16), .val (.int (x14 + (1 : Int32))), .unset, .unset] [])
                exact tail0 p1 p2 q3 q4 q5 p6 h0 n0 hx hZ hw hby hml hown hnm hret hlk x10 x11 x12 x13 x14 b172 x16 (x14 + (1 : Int32)) b1_174 b2_174 k1_174 k2_174 T174 T174.heap _ X174 rfl N174 Z0_c175 K0_c175 P174_0 P174_1 P174_2 P174_3 P174_4 P174_5 (hi1.1) (hi2.1) 
              · refine own_go (fun _ k => XS.icmpYes X174.here hx rfl (pc0 := 181) (pc' := 193) rfl (hb hby at_181) rfl (feq hc181_181).2 (by decide) (by decide) k) ?_
                show own_Run p e below _ T174 (mkF m 193 #[.val (.int p1), .val (.int p2), .val (.long q3), .second, .val (.long q4), .second, .val (.long q5), .second, .val (.int p6), .val (.int (0 : Int32)), .val (.int x10), .val (.int x11), .val (.int x12), .val (.int x13), .val (.int x14), .val (.ref b172), .val (.int x16), .unset, .unset, .unset] [])
                refine own_go (fun _ k => XS.iload X174.here hx rfl (hb hby at_193) rfl k) ?_
                refine own_go (fun _ k => XS.istore X174.here hx rfl (hb hby at_195) rfl (l' := #[.val (.int p1), .val (.int p2), .val (.long q3), .second, .val (.long q4), .second, .val (.long q5), .second, .val (.int p6), .val (.int (0 : Int32)), .val (.int x10), .val (.int x11), .val (.int x12), .val (.int x13), .val (.int x14), .val (.ref b172), .val (.int x16), .val (.int p6), .unset, .unset]) rfl k) ?_
                show own_Run p e below _ T174 (mkF m 197 #[.val (.int p1), .val (.int p2), .val (.long q3), .second, .val (.long q4), .second, .val (.long q5), .second, .val (.int p6), .val (.int (0 : Int32)), .val (.int x10), .val (.int x11), .val (.int x12), .val (.int x13), .val (.int x14), .val (.ref b172), .val (.int x16), .val (.int p6), .unset, .unset] [])
                exact tail0 p1 p2 q3 q4 q5 p6 h0 n0 hx hZ hw hby hml hown hnm hret hlk x10 x11 x12 x13 x14 b172 x16 p6 b1_174 b2_174 k1_174 k2_174 T174 T174.heap _ X174 rfl N174 Z0_c175 K0_c175 P174_0 P174_1 P174_2 P174_3 P174_4 P174_5 (hi1.1) (hi2.1) 
  · show own_Run p e below _ T174 (mkF m 59 #[.val (.int p1), .val (.int p2), .val (.long q3), .second, .val (.long q4), .second, .val (.long q5), .second, .val (.int p6), .val (.int (1 : Int32)), .val (.int x10), .val (.int x11), .val (.int x12), .val (.int x13), .val (.int x14), .val (.ref b172), .unset, .unset, .unset, .unset] [])
    refine own_go (fun _ k => XS.iload X174.here hx rfl (hb hby at_59) rfl k) ?_
    refine own_go (fun _ k => XS.iconst X174.here hx rfl (hb hby at_61) k) ?_
    show own_Run p e below _ T174 (mkF m 62 #[.val (.int p1), .val (.int p2), .val (.long q3), .second, .val (.long q4), .second, .val (.long q5), .second, .val (.int p6), .val (.int (1 : Int32)), .val (.int x10), .val (.int x11), .val (.int x12), .val (.int x13), .val (.int x14), .val (.ref b172), .unset, .unset, .unset, .unset] [(.int (1 : Int32)), (.int (1 : Int32))])
    refine own_go (fun _ k => XS.icmpNo X174.here hx rfl (hb hby at_62) rfl (flt (by decide : ¬ ((1 : Int32) < (1 : Int32)))).1 k) ?_
    show own_Run p e below _ T174 (mkF m 65 #[.val (.int p1), .val (.int p2), .val (.long q3), .second, .val (.long q4), .second, .val (.long q5), .second, .val (.int p6), .val (.int (1 : Int32)), .val (.int x10), .val (.int x11), .val (.int x12), .val (.int x13), .val (.int x14), .val (.ref b172), .unset, .unset, .unset, .unset] [])
    refine own_go (fun _ k => XS.aload X174.here hx rfl (hb hby at_65) rfl rfl k) ?_
    refine own_go (fun _ k => XS.iload X174.here hx rfl (hb hby at_67) rfl k) ?_
    refine own_go (fun _ k => XS.lloadN X174.here hx rfl (hb hby at_69) rfl k) ?_
    show own_Run p e below _ T174 (mkF m 70 #[.val (.int p1), .val (.int p2), .val (.long q3), .second, .val (.long q4), .second, .val (.long q5), .second, .val (.int p6), .val (.int (1 : Int32)), .val (.int x10), .val (.int x11), .val (.int x12), .val (.int x13), .val (.int x14), .val (.ref b172), .unset, .unset, .unset, .unset] [(.long q3), (.int x12), (.ref b172)])
    obtain ⟨cq182, kq182, q182a, q182b, q182c⟩ := isOf hZ rfl P174_0
    obtain ⟨_, _, ⟨T182, L182, k182, n182⟩, -, X182, ⟨Lc182, hQ182, l182, y182, z182⟩, st182⟩ := X174.virtualBack hx (y := (⟨"com/example/net_reducer/netreducer/analysis/Marking", "add", "(IJ)V"⟩ : MethodName)) (z := (⟨"com/example/net_reducer/netreducer/analysis/Marking", "add", "(IJ)V"⟩ : MethodName)) hown (mvT hZ (W 20 rfl)) (mvT hZ (W 21 rfl)) (notFace_of_selects (args := #[]) (mvT hZ (W 23 rfl))) (mvT hZ (W 23 rfl)) (mvT hZ (W 22 rfl)) (by decide) (backOf (W := 0) (rm4c0 l Z a0 hw [] b172 x12 q3 b1_174 b2_174 k1_174 k2_174 (0 : Int32) (0 : Int32) (0 : Int32) (0 : Int32) (0 : Int32) (0 : Int32) (0 : Int32) (0 : Int32) (0 : Int64) (0 : Int64) (0 : Int64) (0 : Int64) (0 : Int64) (0 : Int64) (0 : Int64) (0 : Int64) T174.heap n0 Z0_c175 P174_0 P174_1 P174_2 P174_3 P174_4 P174_5 g_b172 g_b1_174 g_b2_174 P174_8 P174_9 P174_10) hZ (W 24 rfl) (W 7 rfl) (by decide) (by decide)) q182a q182c (g := (mkF m 70 #[.val (.int p1), .val (.int p2), .val (.long q3), .second, .val (.long q4), .second, .val (.long q5), .second, .val (.int p6), .val (.int (1 : Int32)), .val (.int x10), .val (.int x11), .val (.int x12), .val (.int x13), .val (.int x14), .val (.ref b172), .unset, .unset, .unset, .unset] [(.long q3), (.int x12), (.ref b172)])) rfl (by rw [hml]; rfl) (Steps.refl _) (argsL := [(.int x12), (.long q3)]) (rest := []) (lenOf pd_6 rfl) rfl (by show 2 * 0 + _ ≤ _; exact Nat.le_of_eq rfl) (hb hby at_70) (fun _ _ => ⟨rfl, rfl, (by decide : 3 + 0 ≤ _), (by decide : 19 + 0 ≤ _)⟩)
    dsimp only [Pt.U, Pt.locs, Pt.cells, Pt.slots] at X182 l182 y182 z182 st182 hQ182
    subst l182 y182 z182
    obtain ⟨rfl, N182q, K182, P182_0, P182_1, P182_2, P182_3, P182_4, P182_5⟩ := hQ182
    have N182 := Fr.app N174 N182q
    refine own_goT st182 ?_
    show own_Run p e below _ T182 (mkF m 73 #[.val (.int p1), .val (.int p2), .val (.long q3), .second, .val (.long q4), .second, .val (.long q5), .second, .val (.int p6), .val (.int (1 : Int32)), .val (.int x10), .val (.int x11), .val (.int x12), .val (.int x13), .val (.int x14), .val (.ref b172), .unset, .unset, .unset, .unset] [])
    have Z0_c183 := Nat.le_trans Z0_c175 K182.1
    have K0_c183 := K0_c175.trans K182 (allS (Or.inr sz_b172) (allS (Or.inr sz_b1_174) (allS (Or.inr sz_b2_174) all0)))
    have P174_0_c183 := P174_0.keep K182
    refine own_go (fun _ k => XS.iload X182.here hx rfl (hb hby at_73) rfl k) ?_
    refine own_go (fun _ k => XS.iconst X182.here hx rfl (hb hby at_75) k) ?_
    show own_Run p e below _ T182 (mkF m 76 #[.val (.int p1), .val (.int p2), .val (.long q3), .second, .val (.long q4), .second, .val (.long q5), .second, .val (.int p6), .val (.int (1 : Int32)), .val (.int x10), .val (.int x11), .val (.int x12), .val (.int x13), .val (.int x14), .val (.ref b172), .unset, .unset, .unset, .unset] [(.int (2 : Int32)), (.int (1 : Int32))])
    refine own_go (fun _ k => XS.icmpYes X182.here hx rfl (pc0 := 76) (pc' := 88) rfl (hb hby at_76) rfl (tlt (by decide : (1 : Int32) < (2 : Int32))).1 (by decide) (by decide) k) ?_
    show own_Run p e below _ T182 (mkF m 88 #[.val (.int p1), .val (.int p2), .val (.long q3), .second, .val (.long q4), .second, .val (.long q5), .second, .val (.int p6), .val (.int (1 : Int32)), .val (.int x10), .val (.int x11), .val (.int x12), .val (.int x13), .val (.int x14), .val (.ref b172), .unset, .unset, .unset, .unset] [])
    refine own_go (fun _ k => XS.iload X182.here hx rfl (hb hby at_88) rfl k) ?_
    refine own_go (fun _ k => XS.iconst X182.here hx rfl (hb hby at_90) k) ?_
    show own_Run p e below _ T182 (mkF m 91 #[.val (.int p1), .val (.int p2), .val (.long q3), .second, .val (.long q4), .second, .val (.long q5), .second, .val (.int p6), .val (.int (1 : Int32)), .val (.int x10), .val (.int x11), .val (.int x12), .val (.int x13), .val (.int x14), .val (.ref b172), .unset, .unset, .unset, .unset] [(.int (3 : Int32)), (.int (1 : Int32))])
    refine own_go (fun _ k => XS.icmpYes X182.here hx rfl (pc0 := 91) (pc' := 103) rfl (hb hby at_91) rfl (tlt (by decide : (1 : Int32) < (3 : Int32))).1 (by decide) (by decide) k) ?_
    show own_Run p e below _ T182 (mkF m 103 #[.val (.int p1), .val (.int p2), .val (.long q3), .second, .val (.long q4), .second, .val (.long q5), .second, .val (.int p6), .val (.int (1 : Int32)), .val (.int x10), .val (.int x11), .val (.int x12), .val (.int x13), .val (.int x14), .val (.ref b172), .unset, .unset, .unset, .unset] [])
    refine own_go (fun _ k => XS.iload X182.here hx rfl (hb hby at_103) rfl k) ?_
    refine own_go (fun _ k => XS.bipush X182.here hx rfl (hb hby at_105) k) ?_
    refine own_go (fun _ k => XS.iand X182.here hx rfl (hb hby at_107) rfl k) ?_
    show own_Run p e below _ T182 (mkF m 108 #[.val (.int p1), .val (.int p2), .val (.long q3), .second, .val (.long q4), .second, .val (.long q5), .second, .val (.int p6), .val (.int (1 : Int32)), .val (.int x10), .val (.int x11), .val (.int x12), .val (.int x13), .val (.int x14), .val (.ref b172), .unset, .unset, .unset, .unset] [(.int (p6 &&& (7 : Int32)))])
    obtain ⟨x16, hx16⟩ : ∃ z, z = (p6 &&& (7 : Int32)) := ⟨_, rfl⟩
    rw [← hx16]
    show own_Run p e below _ T182 (mkF m 108 #[.val (.int p1), .val (.int p2), .val (.long q3), .second, .val (.long q4), .second, .val (.long q5), .second, .val (.int p6), .val (.int (1 : Int32)), .val (.int x10), .val (.int x11), .val (.int x12), .val (.int x13), .val (.int x14), .val (.ref b172), .unset, .unset, .unset, .unset] [(.int x16)])
    refine own_go (fun _ k => XS.istore X182.here hx rfl (hb hby at_108) rfl (l' := #[.val (.int p1), .val (.int p2), .val (.long q3), .second, .val (.long q4), .second, .val (.long q5), .second, .val (.int p6), .val (.int (1 : Int32)), .val (.int x10), .val (.int x11), .val (.int x12), .val (.int x13), .val (.int x14), .val (.ref b172), .val (.int x16), .unset, .unset, .unset]) rfl k) ?_
    refine own_go (fun _ k => XS.iload X182.here hx rfl (hb hby at_110) rfl k) ?_
    show own_Run p e below _ T182 (mkF m 112 #[.val (.int p1), .val (.int p2), .val (.long q3), .second, .val (.long q4), .second, .val (.long q5), .second, .val (.int p6), .val (.int (1 : Int32)), .val (.int x10), .val (.int x11), .val (.int x12), .val (.int x13), .val (.int x14), .val (.ref b172), .val (.int x16), .unset, .unset, .unset] [(.int x16)])
    by_cases hc112_184 : x16 = (0 : Int32)
    · refine own_go (fun _ k => XS.ifNo X182.here hx rfl (hb hby at_112) rfl ((if0 _ _).trans (teq hc112_184).2) k) ?_
      show own_Run p e below _ T182 (mkF m 115 #[.val (.int p1), .val (.int p2), .val (.long q3), .second, .val (.long q4), .second, .val (.long q5), .second, .val (.int p6), .val (.int (1 : Int32)), .val (.int x10), .val (.int x11), .val (.int x12), .val (.int x13), .val (.int x14), .val (.ref b172), .val (.int x16), .unset, .unset, .unset] [])
      refine own_go (fun _ k => XS.iload X182.here hx rfl (hb hby at_115) rfl k) ?_
      refine own_go (fun _ k => XS.istore X182.here hx rfl (hb hby at_117) rfl (l' := #[.val (.int p1), .val (.int p2), .val (.long q3), .second, .val (.long q4), .second, .val (.long q5), .second, .val (.int p6), .val (.int (1 : Int32)), .val (.int x10), .val (.int x11), .val (.int x12), .val (.int x13), .val (.int x14), .val (.ref b172), .val (.int x16), .val (.int x12), .unset, .unset]) rfl k) ?_
      refine own_go (fun _ k => XS.goto X182.here hx rfl (pc0 := 119) (pc' := 197) rfl (hb hby at_119) (by decide) (by decide) k) ?_
      show own_Run p e below _ T182 (mkF m 197 #[.val (.int p1), .val (.int p2), .val (.long q3), .second, .val (.long q4), .second, .val (.long q5), .second, .val (.int p6), .val (.int (1 : Int32)), .val (.int x10), .val (.int x11), .val (.int x12), .val (.int x13), .val (.int x14), .val (.ref b172), .val (.int x16), .val (.int x12), .unset, .unset] [])
      exact tail1 p1 p2 q3 q4 q5 p6 h0 n0 hx hZ hw hby hml hown hnm hret hlk x10 x11 x12 x13 x14 b172 x16 x12 b1_174 b2_174 k1_174 k2_174 T182 T182.heap _ X182 rfl N182 Z0_c183 K0_c183 P182_0 P182_1 P182_2 P182_3 P182_4 P182_5 (hi1.1) (hi2.1) 
    · refine own_go (fun _ k => XS.ifYes X182.here hx rfl (pc0 := 112) (pc' := 122) rfl (hb hby at_112) rfl ((if0 _ _).trans (feq hc112_184).2) (by decide) (by decide) k) ?_
      show own_Run p e below _ T182 (mkF m 122 #[.val (.int p1), .val (.int p2), .val (.long q3), .second, .val (.long q4), .second, .val (.long q5), .second, .val (.int p6), .val (.int (1 : Int32)), .val (.int x10), .val (.int x11), .val (.int x12), .val (.int x13), .val (.int x14), .val (.ref b172), .val (.int x16), .unset, .unset, .unset] [])
      refine own_go (fun _ k => XS.iload X182.here hx rfl (hb hby at_122) rfl k) ?_
      refine own_go (fun _ k => XS.iconst X182.here hx rfl (hb hby at_124) k) ?_
      show own_Run p e below _ T182 (mkF m 125 #[.val (.int p1), .val (.int p2), .val (.long q3), .second, .val (.long q4), .second, .val (.long q5), .second, .val (.int p6), .val (.int (1 : Int32)), .val (.int x10), .val (.int x11), .val (.int x12), .val (.int x13), .val (.int x14), .val (.ref b172), .val (.int x16), .unset, .unset, .unset] [(.int (1 : Int32)), (.int x16)])
      by_cases hc125_185 : x16 = (1 : Int32)
      · refine own_go (fun _ k => XS.icmpNo X182.here hx rfl (hb hby at_125) rfl (teq hc125_185).2 k) ?_
        show own_Run p e below _ T182 (mkF m 128 #[.val (.int p1), .val (.int p2), .val (.long q3), .second, .val (.long q4), .second, .val (.long q5), .second, .val (.int p6), .val (.int (1 : Int32)), .val (.int x10), .val (.int x11), .val (.int x12), .val (.int x13), .val (.int x14), .val (.ref b172), .val (.int x16), .unset, .unset, .unset] [])
        refine own_go (fun _ k => XS.iload X182.here hx rfl (hb hby at_128) rfl k) ?_
        refine own_go (fun _ k => XS.istore X182.here hx rfl (hb hby at_130) rfl (l' := #[.val (.int p1), .val (.int p2), .val (.long q3), .second, .val (.long q4), .second, .val (.long q5), .second, .val (.int p6), .val (.int (1 : Int32)), .val (.int x10), .val (.int x11), .val (.int x12), .val (.int x13), .val (.int x14), .val (.ref b172), .val (.int x16), .val (.int x13), .unset, .unset]) rfl k) ?_
        refine own_go (fun _ k => XS.goto X182.here hx rfl (pc0 := 132) (pc' := 197) rfl (hb hby at_132) (by decide) (by decide) k) ?_
        show own_Run p e below _ T182 (mkF m 197 #[.val (.int p1), .val (.int p2), .val (.long q3), .second, .val (.long q4), .second, .val (.long q5), .second, .val (.int p6), .val (.int (1 : Int32)), .val (.int x10), .val (.int x11), .val (.int x12), .val (.int x13), .val (.int x14), .val (.ref b172), .val (.int x16), .val (.int x13), .unset, .unset] [])
        exact tail1 p1 p2 q3 q4 q5 p6 h0 n0 hx hZ hw hby hml hown hnm hret hlk x10 x11 x12 x13 x14 b172 x16 x13 b1_174 b2_174 k1_174 k2_174 T182 T182.heap _ X182 rfl N182 Z0_c183 K0_c183 P182_0 P182_1 P182_2 P182_3 P182_4 P182_5 (hi1.1) (hi2.1) 
      · refine own_go (fun _ k => XS.icmpYes X182.here hx rfl (pc0 := 125) (pc' := 135) rfl (hb hby at_125) rfl (feq hc125_185).2 (by decide) (by decide) k) ?_
        show own_Run p e below _ T182 (mkF m 135 #[.val (.int p1), .val (.int p2), .val (.long q3), .second, .val (.long q4), .second, .val (.long q5), .second, .val (.int p6), .val (.int (1 : Int32)), .val (.int x10), .val (.int x11), .val (.int x12), .val (.int x13), .val (.int x14), .val (.ref b172), .val (.int x16), .unset, .unset, .unset] [])
        refine own_go (fun _ k => XS.iload X182.here hx rfl (hb hby at_135) rfl k) ?_
        refine own_go (fun _ k => XS.iconst X182.here hx rfl (hb hby at_137) k) ?_
        show own_Run p e below _ T182 (mkF m 138 #[.val (.int p1), .val (.int p2), .val (.long q3), .second, .val (.long q4), .second, .val (.long q5), .second, .val (.int p6), .val (.int (1 : Int32)), .val (.int x10), .val (.int x11), .val (.int x12), .val (.int x13), .val (.int x14), .val (.ref b172), .val (.int x16), .unset, .unset, .unset] [(.int (2 : Int32)), (.int x16)])
        by_cases hc138_186 : x16 = (2 : Int32)
        · refine own_go (fun _ k => XS.icmpNo X182.here hx rfl (hb hby at_138) rfl (teq hc138_186).2 k) ?_
          show own_Run p e below _ T182 (mkF m 141 #[.val (.int p1), .val (.int p2), .val (.long q3), .second, .val (.long q4), .second, .val (.long q5), .second, .val (.int p6), .val (.int (1 : Int32)), .val (.int x10), .val (.int x11), .val (.int x12), .val (.int x13), .val (.int x14), .val (.ref b172), .val (.int x16), .unset, .unset, .unset] [])
          refine own_go (fun _ k => XS.iload X182.here hx rfl (hb hby at_141) rfl k) ?_
          refine own_go (fun _ k => XS.istore X182.here hx rfl (hb hby at_143) rfl (l' := #[.val (.int p1), .val (.int p2), .val (.long q3), .second, .val (.long q4), .second, .val (.long q5), .second, .val (.int p6), .val (.int (1 : Int32)), .val (.int x10), .val (.int x11), .val (.int x12), .val (.int x13), .val (.int x14), .val (.ref b172), .val (.int x16), .val (.int x14), .unset, .unset]) rfl k) ?_
          refine own_go (fun _ k => XS.goto X182.here hx rfl (pc0 := 145) (pc' := 197) rfl (hb hby at_145) (by decide) (by decide) k) ?_
          show own_Run p e below _ T182 (mkF m 197 #[.val (.int p1), .val (.int p2), .val (.long q3), .second, .val (.long q4), .second, .val (.long q5), .second, .val (.int p6), .val (.int (1 : Int32)), .val (.int x10), .val (.int x11), .val (.int x12), .val (.int x13), .val (.int x14), .val (.ref b172), .val (.int x16), .val (.int x14), .unset, .unset] [])
          exact tail1 p1 p2 q3 q4 q5 p6 h0 n0 hx hZ hw hby hml hown hnm hret hlk x10 x11 x12 x13 x14 b172 x16 x14 b1_174 b2_174 k1_174 k2_174 T182 T182.heap _ X182 rfl N182 Z0_c183 K0_c183 P182_0 P182_1 P182_2 P182_3 P182_4 P182_5 (hi1.1) (hi2.1) 
        · refine own_go (fun _ k => XS.icmpYes X182.here hx rfl (pc0 := 138) (pc' := 148) rfl (hb hby at_138) rfl (feq hc138_186).2 (by decide) (by decide) k) ?_
          show own_Run p e below _ T182 (mkF m 148 #[.val (.int p1), .val (.int p2), .val (.long q3), .second, .val (.long q4), .second, .val (.long q5), .second, .val (.int p6), .val (.int (1 : Int32)), .val (.int x10), .val (.int x11), .val (.int x12), .val (.int x13), .val (.int x14), .val (.ref b172), .val (.int x16), .unset, .unset, .unset] [])
          refine own_go (fun _ k => XS.iload X182.here hx rfl (hb hby at_148) rfl k) ?_
          refine own_go (fun _ k => XS.iconst X182.here hx rfl (hb hby at_150) k) ?_
          show own_Run p e below _ T182 (mkF m 151 #[.val (.int p1), .val (.int p2), .val (.long q3), .second, .val (.long q4), .second, .val (.long q5), .second, .val (.int p6), .val (.int (1 : Int32)), .val (.int x10), .val (.int x11), .val (.int x12), .val (.int x13), .val (.int x14), .val (.ref b172), .val (.int x16), .unset, .unset, .unset] [(.int (3 : Int32)), (.int x16)])
          by_cases hc151_187 : x16 = (3 : Int32)
          · refine own_go (fun _ k => XS.icmpNo X182.here hx rfl (hb hby at_151) rfl (teq hc151_187).2 k) ?_
            show own_Run p e below _ T182 (mkF m 154 #[.val (.int p1), .val (.int p2), .val (.long q3), .second, .val (.long q4), .second, .val (.long q5), .second, .val (.int p6), .val (.int (1 : Int32)), .val (.int x10), .val (.int x11), .val (.int x12), .val (.int x13), .val (.int x14), .val (.ref b172), .val (.int x16), .unset, .unset, .unset] [])
            refine own_go (fun _ k => XS.iload X182.here hx rfl (hb hby at_154) rfl k) ?_
            refine own_go (fun _ k => XS.iconst X182.here hx rfl (hb hby at_156) k) ?_
            refine own_go (fun _ k => XS.isub X182.here hx rfl (hb hby at_157) rfl k) ?_
            refine own_go (fun _ k => XS.istore X182.here hx rfl (hb hby at_158) rfl (l' := #[.val (.int p1), .val (.int p2), .val (.long q3), .second, .val (.long q4), .second, .val (.long q5), .second, .val (.int p6), .val (.int (1 : Int32)), .val (.int x10), .val (.int x11), .val (.int x12), .val (.int x13), .val (.int x14), .val (.ref b172), .val (.int x16), .val (.int (x12 - (1 : Int32))), .unset, .unset]) rfl k) ?_
            show own_Run p e below _ T182 (mkF m 160 #[.val (.int p1), .val (.int p2), .val (.long q3), .second, .val (.long q4), .second, .val (.long q5), .second, .val (.int p6), .val (.int (1 : Int32)), .val (.int x10), .val (.int x11), .val (.int x12), .val (.int x13), .val (.int x14), .val (.ref b172), .val (.int x16), .val (.int (x12 - (1 : Int32))), .unset, .unset] [])
            refine own_go (fun _ k => XS.goto X182.here hx rfl (pc0 := 160) (pc' := 197) rfl (hb hby at_160) (by decide) (by decide) k) ?_
            show own_Run p e below _ T182 (mkF m 197 #[.val (.int p1), .val (.int p2), .val (.long q3), .second, .val (.long q4), .second, .val (.long q5), .second, .val (.int p6), .val (.int (1 : Int32)), .val (.int x10), .val (.int x11), .val (.int x12), .val (.int x13), .val (.int x14), .val (.ref b172), .val (.int x16), .val (.int (x12 - (1 : Int32))), .unset, .unset] [])
            exact tail1 p1 p2 q3 q4 q5 p6 h0 n0 hx hZ hw hby hml hown hnm hret hlk x10 x11 x12 x13 x14 b172 x16 (x12 - (1 : Int32)) b1_174 b2_174 k1_174 k2_174 T182 T182.heap _ X182 rfl N182 Z0_c183 K0_c183 P182_0 P182_1 P182_2 P182_3 P182_4 P182_5 (hi1.1) (hi2.1) 
          · refine own_go (fun _ k => XS.icmpYes X182.here hx rfl (pc0 := 151) (pc' := 163) rfl (hb hby at_151) rfl (feq hc151_187).2 (by decide) (by decide) k) ?_
            show own_Run p e below _ T182 (mkF m 163 #[.val (.int p1), .val (.int p2), .val (.long q3), .second, .val (.long q4), .second, .val (.long q5), .second, .val (.int p6), .val (.int (1 : Int32)), .val (.int x10), .val (.int x11), .val (.int x12), .val (.int x13), .val (.int x14), .val (.ref b172), .val (.int x16), .unset, .unset, .unset] [])
            refine own_go (fun _ k => XS.iload X182.here hx rfl (hb hby at_163) rfl k) ?_
            refine own_go (fun _ k => XS.iconst X182.here hx rfl (hb hby at_165) k) ?_
            show own_Run p e below _ T182 (mkF m 166 #[.val (.int p1), .val (.int p2), .val (.long q3), .second, .val (.long q4), .second, .val (.long q5), .second, .val (.int p6), .val (.int (1 : Int32)), .val (.int x10), .val (.int x11), .val (.int x12), .val (.int x13), .val (.int x14), .val (.ref b172), .val (.int x16), .unset, .unset, .unset] [(.int (4 : Int32)), (.int x16)])
            by_cases hc166_188 : x16 = (4 : Int32)
            · refine own_go (fun _ k => XS.icmpNo X182.here hx rfl (hb hby at_166) rfl (teq hc166_188).2 k) ?_
              show own_Run p e below _ T182 (mkF m 169 #[.val (.int p1), .val (.int p2), .val (.long q3), .second, .val (.long q4), .second, .val (.long q5), .second, .val (.int p6), .val (.int (1 : Int32)), .val (.int x10), .val (.int x11), .val (.int x12), .val (.int x13), .val (.int x14), .val (.ref b172), .val (.int x16), .unset, .unset, .unset] [])
              refine own_go (fun _ k => XS.iload X182.here hx rfl (hb hby at_169) rfl k) ?_
              refine own_go (fun _ k => XS.iconst X182.here hx rfl (hb hby at_171) k) ?_
              refine own_go (fun _ k => XS.isub X182.here hx rfl (hb hby at_172) rfl k) ?_
              refine own_go (fun _ k => XS.istore X182.here hx rfl (hb hby at_173) rfl (l' := #[.val (.int p1), .val (.int p2), .val (.long q3), .second, .val (.long q4), .second, .val (.long q5), .second, .val (.int p6), .val (.int (1 : Int32)), .val (.int x10), .val (.int x11), .val (.int x12), .val (.int x13), .val (.int x14), .val (.ref b172), .val (.int x16), .val (.int (x13 - (1 : Int32))), .unset, .unset]) rfl k) ?_
              show own_Run p e below _ T182 (mkF m 175 #[.val (.int p1), .val (.int p2), .val (.long q3), .second, .val (.long q4), .second, .val (.long q5), .second, .val (.int p6), .val (.int (1 : Int32)), .val (.int x10), .val (.int x11), .val (.int x12), .val (.int x13), .val (.int x14), .val (.ref b172), .val (.int x16), .val (.int (x13 - (1 : Int32))), .unset, .unset] [])
              refine own_go (fun _ k => XS.goto X182.here hx rfl (pc0 := 175) (pc' := 197) rfl (hb hby at_175) (by decide) (by decide) k) ?_
              show own_Run p e below _ T182 (mkF m 197 #[.val (.int p1), .val (.int p2), .val (.long q3), .second, .val (.long q4), .second, .val (.long q5), .second, .val (.int p6), .val (.int (1 : Int32)), .val (.int x10), .val (.int x11), .val (.int x12), .val (.int x13), .val (.int x14), .val (.ref b172), .val (.int x16), .val (.int (x13 - (1 : Int32))), .unset, .unset] [])
              exact tail1 p1 p2 q3 q4 q5 p6 h0 n0 hx hZ hw hby hml hown hnm hret hlk x10 x11 x12 x13 x14 b172 x16 (x13 - (1 : Int32)) b1_174 b2_174 k1_174 k2_174 T182 T182.heap _ X182 rfl N182 Z0_c183 K0_c183 P182_0 P182_1 P182_2 P182_3 P182_4 P182_5 (hi1.1) (hi2.1) 
            · refine own_go (fun _ k => XS.icmpYes X182.here hx rfl (pc0 := 166) (pc' := 178) rfl (hb hby at_166) rfl (feq hc166_188).2 (by decide) (by decide) k) ?_
              show own_Run p e below _ T182 (mkF m 178 #[.val (.int p1), .val (.int p2), .val (.long q3), .second, .val (.long q4), .second, .val (.long q5), .second, .val (.int p6), .val (.int (1 : Int32)), .val (.int x10), .val (.int x11), .val (.int x12), .val (.int x13), .val (.int x14), .val (.ref b172), .val (.int x16), .unset, .unset, .unset] [])
              refine own_go (fun _ k => XS.iload X182.here hx rfl (hb hby at_178) rfl k) ?_
              refine own_go (fun _ k => XS.iconst X182.here hx rfl (hb hby at_180) k) ?_
              show own_Run p e below _ T182 (mkF m 181 #[.val (.int p1), .val (.int p2), .val (.long q3), .second, .val (.long q4), .second, .val (.long q5), .second, .val (.int p6), .val (.int (1 : Int32)), .val (.int x10), .val (.int x11), .val (.int x12), .val (.int x13), .val (.int x14), .val (.ref b172), .val (.int x16), .unset, .unset, .unset] [(.int (5 : Int32)), (.int x16)])
              by_cases hc181_189 : x16 = (5 : Int32)
              · refine own_go (fun _ k => XS.icmpNo X182.here hx rfl (hb hby at_181) rfl (teq hc181_189).2 k) ?_
                show own_Run p e below _ T182 (mkF m 184 #[.val (.int p1), .val (.int p2), .val (.long q3), .second, .val (.long q4), .second, .val (.long q5), .second, .val (.int p6), .val (.int (1 : Int32)), .val (.int x10), .val (.int x11), .val (.int x12), .val (.int x13), .val (.int x14), .val (.ref b172), .val (.int x16), .unset, .unset, .unset] [])
                refine own_go (fun _ k => XS.iload X182.here hx rfl (hb hby at_184) rfl k) ?_
                refine own_go (fun _ k => XS.iconst X182.here hx rfl (hb hby at_186) k) ?_
                refine own_go (fun _ k => XS.iadd X182.here hx rfl (hb hby at_187) rfl k) ?_
                refine own_go (fun _ k => XS.istore X182.here hx rfl (hb hby at_188) rfl (l' := #[.val (.int p1), .val (.int p2), .val (.long q3), .second, .val (.long q4), .second, .val (.long q5), .second, .val (.int p6), .val (.int (1 : Int32)), .val (.int x10), .val (.int x11), .val (.int x12), .val (.int x13), .val (.int x14), .val (.ref b172), .val (.int x16), .val (.int (x14 + (1 : Int32))), .unset, .unset]) rfl k) ?_
                show own_Run p e below _ T182 (mkF m 190 #[.val (.int p1), .val (.int p2), .val (.long q3), .second, .val (.long q4), .second, .val (.long q5), .second, .val (.int p6), .val (.int (1 : Int32)), .val (.int x10), .val (.int x11), .val (.int x12), .val (.int x13), .val (.int x14), .val (.ref b172), .val (.int x16), .val (.int (x14 + (1 : Int32))), .unset, .unset] [])
                refine own_go (fun _ k => XS.goto X182.here hx rfl (pc0 := 190) (pc' := 197) rfl (hb hby at_190) (by decide) (by decide) k) ?_
                show own_Run p e below _ T182 (mkF m 197 #[.val (.int p1), .val (.int p2), .val (.long q3), .second, .val (.long q4), .second, .val (.long q5), .second, .val (.int p6), .val (.int (1 : Int32)), .val (.int x10), .val (.int x11), .val (.int x12), .val (.int x13), .val (.int x14), .val (.ref b172), .val (.int x16), .val (.int (x14 + (1 : Int32))), .unset, .unset] [])
                exact tail1 p1 p2 q3 q4 q5 p6 h0 n0 hx hZ hw hby hml hown hnm hret hlk x10 x11 x12 x13 x14 b172 x16 (x14 + (1 : Int32)) b1_174 b2_174 k1_174 k2_174 T182 T182.heap _ X182 rfl N182 Z0_c183 K0_c183 P182_0 P182_1 P182_2 P182_3 P182_4 P182_5 (hi1.1) (hi2.1) 
              · refine own_go (fun _ k => XS.icmpYes X182.here hx rfl (pc0 := 181) (pc' := 193) rfl (hb hby at_181) rfl (feq hc181_189).2 (by decide) (by decide) k) ?_
                show own_Run p e below _ T182 (mkF m 193 #[.val (.int p1), .val (.int p2), .val (.long q3), .second, .val (.long q4), .second, .val (.long q5), .second, .val (.int p6), .val (.int (1 : Int32)), .val (.int x10), .val (.int x11), .val (.int x12), .val (.int x13), .val (.int x14), .val (.ref b172), .val (.int x16), .unset, .unset, .unset] [])
                refine own_go (fun _ k => XS.iload X182.here hx rfl (hb hby at_193) rfl k) ?_
                refine own_go (fun _ k => XS.istore X182.here hx rfl (hb hby at_195) rfl (l' := #[.val (.int p1), .val (.int p2), .val (.long q3), .second, .val (.long q4), .second, .val (.long q5), .second, .val (.int p6), .val (.int (1 : Int32)), .val (.int x10), .val (.int x11), .val (.int x12), .val (.int x13), .val (.int x14), .val (.ref b172), .val (.int x16), .val (.int p6), .unset, .unset]) rfl k) ?_
                show own_Run p e below _ T182 (mkF m 197 #[.val (.int p1), .val (.int p2), .val (.long q3), .second, .val (.long q4), .second, .val (.long q5), .second, .val (.int p6), .val (.int (1 : Int32)), .val (.int x10), .val (.int x11), .val (.int x12), .val (.int x13), .val (.int x14), .val (.ref b172), .val (.int x16), .val (.int p6), .unset, .unset] [])
                exact tail1 p1 p2 q3 q4 q5 p6 h0 n0 hx hZ hw hby hml hown hnm hret hlk x10 x11 x12 x13 x14 b172 x16 p6 b1_174 b2_174 k1_174 k2_174 T182 T182.heap _ X182 rfl N182 Z0_c183 K0_c183 P182_0 P182_1 P182_2 P182_3 P182_4 P182_5 (hi1.1) (hi2.1) 
  · show own_Run p e below _ T174 (mkF m 59 #[.val (.int p1), .val (.int p2), .val (.long q3), .second, .val (.long q4), .second, .val (.long q5), .second, .val (.int p6), .val (.int (2 : Int32)), .val (.int x10), .val (.int x11), .val (.int x12), .val (.int x13), .val (.int x14), .val (.ref b172), .unset, .unset, .unset, .unset] [])
    refine own_go (fun _ k => XS.iload X174.here hx rfl (hb hby at_59) rfl k) ?_
    refine own_go (fun _ k => XS.iconst X174.here hx rfl (hb hby at_61) k) ?_
    show own_Run p e below _ T174 (mkF m 62 #[.val (.int p1), .val (.int p2), .val (.long q3), .second, .val (.long q4), .second, .val (.long q5), .second, .val (.int p6), .val (.int (2 : Int32)), .val (.int x10), .val (.int x11), .val (.int x12), .val (.int x13), .val (.int x14), .val (.ref b172), .unset, .unset, .unset, .unset] [(.int (1 : Int32)), (.int (2 : Int32))])
    refine own_go (fun _ k => XS.icmpNo X174.here hx rfl (hb hby at_62) rfl (flt (by decide : ¬ ((2 : Int32) < (1 : Int32)))).1 k) ?_
    show own_Run p e below _ T174 (mkF m 65 #[.val (.int p1), .val (.int p2), .val (.long q3), .second, .val (.long q4), .second, .val (.long q5), .second, .val (.int p6), .val (.int (2 : Int32)), .val (.int x10), .val (.int x11), .val (.int x12), .val (.int x13), .val (.int x14), .val (.ref b172), .unset, .unset, .unset, .unset] [])
    refine own_go (fun _ k => XS.aload X174.here hx rfl (hb hby at_65) rfl rfl k) ?_
    refine own_go (fun _ k => XS.iload X174.here hx rfl (hb hby at_67) rfl k) ?_
    refine own_go (fun _ k => XS.lloadN X174.here hx rfl (hb hby at_69) rfl k) ?_
    show own_Run p e below _ T174 (mkF m 70 #[.val (.int p1), .val (.int p2), .val (.long q3), .second, .val (.long q4), .second, .val (.long q5), .second, .val (.int p6), .val (.int (2 : Int32)), .val (.int x10), .val (.int x11), .val (.int x12), .val (.int x13), .val (.int x14), .val (.ref b172), .unset, .unset, .unset, .unset] [(.long q3), (.int x12), (.ref b172)])
    obtain ⟨cq190, kq190, q190a, q190b, q190c⟩ := isOf hZ rfl P174_0
    obtain ⟨_, _, ⟨T190, L190, k190, n190⟩, -, X190, ⟨Lc190, hQ190, l190, y190, z190⟩, st190⟩ := X174.virtualBack hx (y := (⟨"com/example/net_reducer/netreducer/analysis/Marking", "add", "(IJ)V"⟩ : MethodName)) (z := (⟨"com/example/net_reducer/netreducer/analysis/Marking", "add", "(IJ)V"⟩ : MethodName)) hown (mvT hZ (W 20 rfl)) (mvT hZ (W 21 rfl)) (notFace_of_selects (args := #[]) (mvT hZ (W 23 rfl))) (mvT hZ (W 23 rfl)) (mvT hZ (W 22 rfl)) (by decide) (backOf (W := 0) (rm4c0 l Z a0 hw [] b172 x12 q3 b1_174 b2_174 k1_174 k2_174 (0 : Int32) (0 : Int32) (0 : Int32) (0 : Int32) (0 : Int32) (0 : Int32) (0 : Int32) (0 : Int32) (0 : Int64) (0 : Int64) (0 : Int64) (0 : Int64) (0 : Int64) (0 : Int64) (0 : Int64) (0 : Int64) T174.heap n0 Z0_c175 P174_0 P174_1 P174_2 P174_3 P174_4 P174_5 g_b172 g_b1_174 g_b2_174 P174_8 P174_9 P174_10) hZ (W 24 rfl) (W 7 rfl) (by decide) (by decide)) q190a q190c (g := (mkF m 70 #[.val (.int p1), .val (.int p2), .val (.long q3), .second, .val (.long q4), .second, .val (.long q5), .second, .val (.int p6), .val (.int (2 : Int32)), .val (.int x10), .val (.int x11), .val (.int x12), .val (.int x13), .val (.int x14), .val (.ref b172), .unset, .unset, .unset, .unset] [(.long q3), (.int x12), (.ref b172)])) rfl (by rw [hml]; rfl) (Steps.refl _) (argsL := [(.int x12), (.long q3)]) (rest := []) (lenOf pd_6 rfl) rfl (by show 2 * 0 + _ ≤ _; exact Nat.le_of_eq rfl) (hb hby at_70) (fun _ _ => ⟨rfl, rfl, (by decide : 3 + 0 ≤ _), (by decide : 19 + 0 ≤ _)⟩)
    dsimp only [Pt.U, Pt.locs, Pt.cells, Pt.slots] at X190 l190 y190 z190 st190 hQ190
    subst l190 y190 z190
    obtain ⟨rfl, N190q, K190, P190_0, P190_1, P190_2, P190_3, P190_4, P190_5⟩ := hQ190
    have N190 := Fr.app N174 N190q
    refine own_goT st190 ?_
    show own_Run p e below _ T190 (mkF m 73 #[.val (.int p1), .val (.int p2), .val (.long q3), .second, .val (.long q4), .second, .val (.long q5), .second, .val (.int p6), .val (.int (2 : Int32)), .val (.int x10), .val (.int x11), .val (.int x12), .val (.int x13), .val (.int x14), .val (.ref b172), .unset, .unset, .unset, .unset] [])
    have Z0_c191 := Nat.le_trans Z0_c175 K190.1
    have K0_c191 := K0_c175.trans K190 (allS (Or.inr sz_b172) (allS (Or.inr sz_b1_174) (allS (Or.inr sz_b2_174) all0)))
    have P174_0_c191 := P174_0.keep K190
    refine own_go (fun _ k => XS.iload X190.here hx rfl (hb hby at_73) rfl k) ?_
    refine own_go (fun _ k => XS.iconst X190.here hx rfl (hb hby at_75) k) ?_
    show own_Run p e below _ T190 (mkF m 76 #[.val (.int p1), .val (.int p2), .val (.long q3), .second, .val (.long q4), .second, .val (.long q5), .second, .val (.int p6), .val (.int (2 : Int32)), .val (.int x10), .val (.int x11), .val (.int x12), .val (.int x13), .val (.int x14), .val (.ref b172), .unset, .unset, .unset, .unset] [(.int (2 : Int32)), (.int (2 : Int32))])
    refine own_go (fun _ k => XS.icmpNo X190.here hx rfl (hb hby at_76) rfl (flt (by decide : ¬ ((2 : Int32) < (2 : Int32)))).1 k) ?_
    show own_Run p e below _ T190 (mkF m 79 #[.val (.int p1), .val (.int p2), .val (.long q3), .second, .val (.long q4), .second, .val (.long q5), .second, .val (.int p6), .val (.int (2 : Int32)), .val (.int x10), .val (.int x11), .val (.int x12), .val (.int x13), .val (.int x14), .val (.ref b172), .unset, .unset, .unset, .unset] [])
    refine own_go (fun _ k => XS.aload X190.here hx rfl (hb hby at_79) rfl rfl k) ?_
    refine own_go (fun _ k => XS.iload X190.here hx rfl (hb hby at_81) rfl k) ?_
    refine own_go (fun _ k => XS.lload X190.here hx rfl (hb hby at_83) rfl k) ?_
    show own_Run p e below _ T190 (mkF m 85 #[.val (.int p1), .val (.int p2), .val (.long q3), .second, .val (.long q4), .second, .val (.long q5), .second, .val (.int p6), .val (.int (2 : Int32)), .val (.int x10), .val (.int x11), .val (.int x12), .val (.int x13), .val (.int x14), .val (.ref b172), .unset, .unset, .unset, .unset] [(.long q4), (.int x13), (.ref b172)])
    obtain ⟨cq192, kq192, q192a, q192b, q192c⟩ := isOf hZ rfl P190_0
    obtain ⟨_, _, ⟨T192, L192, k192, n192⟩, -, X192, ⟨Lc192, hQ192, l192, y192, z192⟩, st192⟩ := X190.virtualBack hx (y := (⟨"com/example/net_reducer/netreducer/analysis/Marking", "add", "(IJ)V"⟩ : MethodName)) (z := (⟨"com/example/net_reducer/netreducer/analysis/Marking", "add", "(IJ)V"⟩ : MethodName)) hown (mvT hZ (W 20 rfl)) (mvT hZ (W 21 rfl)) (notFace_of_selects (args := #[]) (mvT hZ (W 23 rfl))) (mvT hZ (W 23 rfl)) (mvT hZ (W 22 rfl)) (by decide) (backOf (W := 0) (rm4c1 l Z a0 hw [] b172 x13 q4 b1_174 b2_174 k1_174 k2_174 x12 (0 : Int32) (0 : Int32) (0 : Int32) (0 : Int32) (0 : Int32) (0 : Int32) (0 : Int32) q3 (0 : Int64) (0 : Int64) (0 : Int64) (0 : Int64) (0 : Int64) (0 : Int64) (0 : Int64) T190.heap n0 Z0_c191 P190_0 P190_1 P190_2 P190_3 P190_4 P190_5 g_b172 g_b1_174 g_b2_174 P174_8 P174_9 P174_10) hZ (W 24 rfl) (W 7 rfl) (by decide) (by decide)) q192a q192c (g := (mkF m 85 #[.val (.int p1), .val (.int p2), .val (.long q3), .second, .val (.long q4), .second, .val (.long q5), .second, .val (.int p6), .val (.int (2 : Int32)), .val (.int x10), .val (.int x11), .val (.int x12), .val (.int x13), .val (.int x14), .val (.ref b172), .unset, .unset, .unset, .unset] [(.long q4), (.int x13), (.ref b172)])) rfl (by rw [hml]; rfl) (Steps.refl _) (argsL := [(.int x13), (.long q4)]) (rest := []) (lenOf pd_6 rfl) rfl (by show 2 * 0 + _ ≤ _; exact Nat.le_of_eq rfl) (hb hby at_85) (fun _ _ => ⟨rfl, rfl, (by decide : 3 + 0 ≤ _), (by decide : 19 + 0 ≤ _)⟩)
    dsimp only [Pt.U, Pt.locs, Pt.cells, Pt.slots] at X192 l192 y192 z192 st192 hQ192
    subst l192 y192 z192
    obtain ⟨rfl, N192q, K192, P192_0, P192_1, P192_2, P192_3, P192_4, P192_5⟩ := hQ192
    have N192 := Fr.app N190 N192q
    refine own_goT st192 ?_
    show own_Run p e below _ T192 (mkF m 88 #[.val (.int p1), .val (.int p2), .val (.long q3), .second, .val (.long q4), .second, .val (.long q5), .second, .val (.int p6), .val (.int (2 : Int32)), .val (.int x10), .val (.int x11), .val (.int x12), .val (.int x13), .val (.int x14), .val (.ref b172), .unset, .unset, .unset, .unset] [])
    have Z0_c193 := Nat.le_trans Z0_c191 K192.1
    have K0_c193 := K0_c191.trans K192 (allS (Or.inr sz_b172) (allS (Or.inr sz_b1_174) (allS (Or.inr sz_b2_174) all0)))
    have P190_0_c193 := P190_0.keep K192
    refine own_go (fun _ k => XS.iload X192.here hx rfl (hb hby at_88) rfl k) ?_
    refine own_go (fun _ k => XS.iconst X192.here hx rfl (hb hby at_90) k) ?_
    show own_Run p e below _ T192 (mkF m 91 #[.val (.int p1), .val (.int p2), .val (.long q3), .second, .val (.long q4), .second, .val (.long q5), .second, .val (.int p6), .val (.int (2 : Int32)), .val (.int x10), .val (.int x11), .val (.int x12), .val (.int x13), .val (.int x14), .val (.ref b172), .unset, .unset, .unset, .unset] [(.int (3 : Int32)), (.int (2 : Int32))])
    refine own_go (fun _ k => XS.icmpYes X192.here hx rfl (pc0 := 91) (pc' := 103) rfl (hb hby at_91) rfl (tlt (by decide : (2 : Int32) < (3 : Int32))).1 (by decide) (by decide) k) ?_
    show own_Run p e below _ T192 (mkF m 103 #[.val (.int p1), .val (.int p2), .val (.long q3), .second, .val (.long q4), .second, .val (.long q5), .second, .val (.int p6), .val (.int (2 : Int32)), .val (.int x10), .val (.int x11), .val (.int x12), .val (.int x13), .val (.int x14), .val (.ref b172), .unset, .unset, .unset, .unset] [])
    refine own_go (fun _ k => XS.iload X192.here hx rfl (hb hby at_103) rfl k) ?_
    refine own_go (fun _ k => XS.bipush X192.here hx rfl (hb hby at_105) k) ?_
    refine own_go (fun _ k => XS.iand X192.here hx rfl (hb hby at_107) rfl k) ?_
    show own_Run p e below _ T192 (mkF m 108 #[.val (.int p1), .val (.int p2), .val (.long q3), .second, .val (.long q4), .second, .val (.long q5), .second, .val (.int p6), .val (.int (2 : Int32)), .val (.int x10), .val (.int x11), .val (.int x12), .val (.int x13), .val (.int x14), .val (.ref b172), .unset, .unset, .unset, .unset] [(.int (p6 &&& (7 : Int32)))])
    obtain ⟨x16, hx16⟩ : ∃ z, z = (p6 &&& (7 : Int32)) := ⟨_, rfl⟩
    rw [← hx16]
    show own_Run p e below _ T192 (mkF m 108 #[.val (.int p1), .val (.int p2), .val (.long q3), .second, .val (.long q4), .second, .val (.long q5), .second, .val (.int p6), .val (.int (2 : Int32)), .val (.int x10), .val (.int x11), .val (.int x12), .val (.int x13), .val (.int x14), .val (.ref b172), .unset, .unset, .unset, .unset] [(.int x16)])
    refine own_go (fun _ k => XS.istore X192.here hx rfl (hb hby at_108) rfl (l' := #[.val (.int p1), .val (.int p2), .val (.long q3), .second, .val (.long q4), .second, .val (.long q5), .second, .val (.int p6), .val (.int (2 : Int32)), .val (.int x10), .val (.int x11), .val (.int x12), .val (.int x13), .val (.int x14), .val (.ref b172), .val (.int x16), .unset, .unset, .unset]) rfl k) ?_
    refine own_go (fun _ k => XS.iload X192.here hx rfl (hb hby at_110) rfl k) ?_
    show own_Run p e below _ T192 (mkF m 112 #[.val (.int p1), .val (.int p2), .val (.long q3), .second, .val (.long q4), .second, .val (.long q5), .second, .val (.int p6), .val (.int (2 : Int32)), .val (.int x10), .val (.int x11), .val (.int x12), .val (.int x13), .val (.int x14), .val (.ref b172), .val (.int x16), .unset, .unset, .unset] [(.int x16)])
    by_cases hc112_194 : x16 = (0 : Int32)
    · refine own_go (fun _ k => XS.ifNo X192.here hx rfl (hb hby at_112) rfl ((if0 _ _).trans (teq hc112_194).2) k) ?_
      show own_Run p e below _ T192 (mkF m 115 #[.val (.int p1), .val (.int p2), .val (.long q3), .second, .val (.long q4), .second, .val (.long q5), .second, .val (.int p6), .val (.int (2 : Int32)), .val (.int x10), .val (.int x11), .val (.int x12), .val (.int x13), .val (.int x14), .val (.ref b172), .val (.int x16), .unset, .unset, .unset] [])
      refine own_go (fun _ k => XS.iload X192.here hx rfl (hb hby at_115) rfl k) ?_
      refine own_go (fun _ k => XS.istore X192.here hx rfl (hb hby at_117) rfl (l' := #[.val (.int p1), .val (.int p2), .val (.long q3), .second, .val (.long q4), .second, .val (.long q5), .second, .val (.int p6), .val (.int (2 : Int32)), .val (.int x10), .val (.int x11), .val (.int x12), .val (.int x13), .val (.int x14), .val (.ref b172), .val (.int x16), .val (.int x12), .unset, .unset]) rfl k) ?_
      refine own_go (fun _ k => XS.goto X192.here hx rfl (pc0 := 119) (pc' := 197) rfl (hb hby at_119) (by decide) (by decide) k) ?_
      show own_Run p e below _ T192 (mkF m 197 #[.val (.int p1), .val (.int p2), .val (.long q3), .second, .val (.long q4), .second, .val (.long q5), .second, .val (.int p6), .val (.int (2 : Int32)), .val (.int x10), .val (.int x11), .val (.int x12), .val (.int x13), .val (.int x14), .val (.ref b172), .val (.int x16), .val (.int x12), .unset, .unset] [])
      exact tail2 p1 p2 q3 q4 q5 p6 h0 n0 hx hZ hw hby hml hown hnm hret hlk x10 x11 x12 x13 x14 b172 x16 x12 b1_174 b2_174 k1_174 k2_174 T192 T192.heap _ X192 rfl N192 Z0_c193 K0_c193 P192_0 P192_1 P192_2 P192_3 P192_4 P192_5 (hi1.1) (hi2.1) 
    · refine own_go (fun _ k => XS.ifYes X192.here hx rfl (pc0 := 112) (pc' := 122) rfl (hb hby at_112) rfl ((if0 _ _).trans (feq hc112_194).2) (by decide) (by decide) k) ?_
      show own_Run p e below _ T192 (mkF m 122 #[.val (.int p1), .val (.int p2), .val (.long q3), .second, .val (.long q4), .second, .val (.long q5), .second, .val (.int p6), .val (.int (2 : Int32)), .val (.int x10), .val (.int x11), .val (.int x12), .val (.int x13), .val (.int x14), .val (.ref b172), .val (.int x16), .unset, .unset, .unset] [])
      refine own_go (fun _ k => XS.iload X192.here hx rfl (hb hby at_122) rfl k) ?_
      refine own_go (fun _ k => XS.iconst X192.here hx rfl (hb hby at_124) k) ?_
      show own_Run p e below _ T192 (mkF m 125 #[.val (.int p1), .val (.int p2), .val (.long q3), .second, .val (.long q4), .second, .val (.long q5), .second, .val (.int p6), .val (.int (2 : Int32)), .val (.int x10), .val (.int x11), .val (.int x12), .val (.int x13), .val (.int x14), .val (.ref b172), .val (.int x16), .unset, .unset, .unset] [(.int (1 : Int32)), (.int x16)])
      by_cases hc125_195 : x16 = (1 : Int32)
      · refine own_go (fun _ k => XS.icmpNo X192.here hx rfl (hb hby at_125) rfl (teq hc125_195).2 k) ?_
        show own_Run p e below _ T192 (mkF m 128 #[.val (.int p1), .val (.int p2), .val (.long q3), .second, .val (.long q4), .second, .val (.long q5), .second, .val (.int p6), .val (.int (2 : Int32)), .val (.int x10), .val (.int x11), .val (.int x12), .val (.int x13), .val (.int x14), .val (.ref b172), .val (.int x16), .unset, .unset, .unset] [])
        refine own_go (fun _ k => XS.iload X192.here hx rfl (hb hby at_128) rfl k) ?_
        refine own_go (fun _ k => XS.istore X192.here hx rfl (hb hby at_130) rfl (l' := #[.val (.int p1), .val (.int p2), .val (.long q3), .second, .val (.long q4), .second, .val (.long q5), .second, .val (.int p6), .val (.int (2 : Int32)), .val (.int x10), .val (.int x11), .val (.int x12), .val (.int x13), .val (.int x14), .val (.ref b172), .val (.int x16), .val (.int x13), .unset, .unset]) rfl k) ?_
        refine own_go (fun _ k => XS.goto X192.here hx rfl (pc0 := 132) (pc' := 197) rfl (hb hby at_132) (by decide) (by decide) k) ?_
        show own_Run p e below _ T192 (mkF m 197 #[.val (.int p1), .val (.int p2), .val (.long q3), .second, .val (.long q4), .second, .val (.long q5), .second, .val (.int p6), .val (.int (2 : Int32)), .val (.int x10), .val (.int x11), .val (.int x12), .val (.int x13), .val (.int x14), .val (.ref b172), .val (.int x16), .val (.int x13), .unset, .unset] [])
        exact tail2 p1 p2 q3 q4 q5 p6 h0 n0 hx hZ hw hby hml hown hnm hret hlk x10 x11 x12 x13 x14 b172 x16 x13 b1_174 b2_174 k1_174 k2_174 T192 T192.heap _ X192 rfl N192 Z0_c193 K0_c193 P192_0 P192_1 P192_2 P192_3 P192_4 P192_5 (hi1.1) (hi2.1) 
      · refine own_go (fun _ k => XS.icmpYes X192.here hx rfl (pc0 := 125) (pc' := 135) rfl (hb hby at_125) rfl (feq hc125_195).2 (by decide) (by decide) k) ?_
        show own_Run p e below _ T192 (mkF m 135 #[.val (.int p1), .val (.int p2), .val (.long q3), .second, .val (.long q4), .second, .val (.long q5), .second, .val (.int p6), .val (.int (2 : Int32)), .val (.int x10), .val (.int x11), .val (.int x12), .val (.int x13), .val (.int x14), .val (.ref b172), .val (.int x16), .unset, .unset, .unset] [])
        refine own_go (fun _ k => XS.iload X192.here hx rfl (hb hby at_135) rfl k) ?_
        refine own_go (fun _ k => XS.iconst X192.here hx rfl (hb hby at_137) k) ?_
        show own_Run p e below _ T192 (mkF m 138 #[.val (.int p1), .val (.int p2), .val (.long q3), .second, .val (.long q4), .second, .val (.long q5), .second, .val (.int p6), .val (.int (2 : Int32)), .val (.int x10), .val (.int x11), .val (.int x12), .val (.int x13), .val (.int x14), .val (.ref b172), .val (.int x16), .unset, .unset, .unset] [(.int (2 : Int32)), (.int x16)])
        by_cases hc138_196 : x16 = (2 : Int32)
        · refine own_go (fun _ k => XS.icmpNo X192.here hx rfl (hb hby at_138) rfl (teq hc138_196).2 k) ?_
          show own_Run p e below _ T192 (mkF m 141 #[.val (.int p1), .val (.int p2), .val (.long q3), .second, .val (.long q4), .second, .val (.long q5), .second, .val (.int p6), .val (.int (2 : Int32)), .val (.int x10), .val (.int x11), .val (.int x12), .val (.int x13), .val (.int x14), .val (.ref b172), .val (.int x16), .unset, .unset, .unset] [])
          refine own_go (fun _ k => XS.iload X192.here hx rfl (hb hby at_141) rfl k) ?_
          refine own_go (fun _ k => XS.istore X192.here hx rfl (hb hby at_143) rfl (l' := #[.val (.int p1), .val (.int p2), .val (.long q3), .second, .val (.long q4), .second, .val (.long q5), .second, .val (.int p6), .val (.int (2 : Int32)), .val (.int x10), .val (.int x11), .val (.int x12), .val (.int x13), .val (.int x14), .val (.ref b172), .val (.int x16), .val (.int x14), .unset, .unset]) rfl k) ?_
          refine own_go (fun _ k => XS.goto X192.here hx rfl (pc0 := 145) (pc' := 197) rfl (hb hby at_145) (by decide) (by decide) k) ?_
          show own_Run p e below _ T192 (mkF m 197 #[.val (.int p1), .val (.int p2), .val (.long q3), .second, .val (.long q4), .second, .val (.long q5), .second, .val (.int p6), .val (.int (2 : Int32)), .val (.int x10), .val (.int x11), .val (.int x12), .val (.int x13), .val (.int x14), .val (.ref b172), .val (.int x16), .val (.int x14), .unset, .unset] [])
          exact tail2 p1 p2 q3 q4 q5 p6 h0 n0 hx hZ hw hby hml hown hnm hret hlk x10 x11 x12 x13 x14 b172 x16 x14 b1_174 b2_174 k1_174 k2_174 T192 T192.heap _ X192 rfl N192 Z0_c193 K0_c193 P192_0 P192_1 P192_2 P192_3 P192_4 P192_5 (hi1.1) (hi2.1) 
        · refine own_go (fun _ k => XS.icmpYes X192.here hx rfl (pc0 := 138) (pc' := 148) rfl (hb hby at_138) rfl (feq hc138_196).2 (by decide) (by decide) k) ?_
          show own_Run p e below _ T192 (mkF m 148 #[.val (.int p1), .val (.int p2), .val (.long q3), .second, .val (.long q4), .second, .val (.long q5), .second, .val (.int p6), .val (.int (2 : Int32)), .val (.int x10), .val (.int x11), .val (.int x12), .val (.int x13), .val (.int x14), .val (.ref b172), .val (.int x16), .unset, .unset, .unset] [])
          refine own_go (fun _ k => XS.iload X192.here hx rfl (hb hby at_148) rfl k) ?_
          refine own_go (fun _ k => XS.iconst X192.here hx rfl (hb hby at_150) k) ?_
          show own_Run p e below _ T192 (mkF m 151 #[.val (.int p1), .val (.int p2), .val (.long q3), .second, .val (.long q4), .second, .val (.long q5), .second, .val (.int p6), .val (.int (2 : Int32)), .val (.int x10), .val (.int x11), .val (.int x12), .val (.int x13), .val (.int x14), .val (.ref b172), .val (.int x16), .unset, .unset, .unset] [(.int (3 : Int32)), (.int x16)])
          by_cases hc151_197 : x16 = (3 : Int32)
          · refine own_go (fun _ k => XS.icmpNo X192.here hx rfl (hb hby at_151) rfl (teq hc151_197).2 k) ?_
            show own_Run p e below _ T192 (mkF m 154 #[.val (.int p1), .val (.int p2), .val (.long q3), .second, .val (.long q4), .second, .val (.long q5), .second, .val (.int p6), .val (.int (2 : Int32)), .val (.int x10), .val (.int x11), .val (.int x12), .val (.int x13), .val (.int x14), .val (.ref b172), .val (.int x16), .unset, .unset, .unset] [])
            refine own_go (fun _ k => XS.iload X192.here hx rfl (hb hby at_154) rfl k) ?_
            refine own_go (fun _ k => XS.iconst X192.here hx rfl (hb hby at_156) k) ?_
            refine own_go (fun _ k => XS.isub X192.here hx rfl (hb hby at_157) rfl k) ?_
            refine own_go (fun _ k => XS.istore X192.here hx rfl (hb hby at_158) rfl (l' := #[.val (.int p1), .val (.int p2), .val (.long q3), .second, .val (.long q4), .second, .val (.long q5), .second, .val (.int p6), .val (.int (2 : Int32)), .val (.int x10), .val (.int x11), .val (.int x12), .val (.int x13), .val (.int x14), .val (.ref b172), .val (.int x16), .val (.int (x12 - (1 : Int32))), .unset, .unset]) rfl k) ?_
            show own_Run p e below _ T192 (mkF m 160 #[.val (.int p1), .val (.int p2), .val (.long q3), .second, .val (.long q4), .second, .val (.long q5), .second, .val (.int p6), .val (.int (2 : Int32)), .val (.int x10), .val (.int x11), .val (.int x12), .val (.int x13), .val (.int x14), .val (.ref b172), .val (.int x16), .val (.int (x12 - (1 : Int32))), .unset, .unset] [])
            refine own_go (fun _ k => XS.goto X192.here hx rfl (pc0 := 160) (pc' := 197) rfl (hb hby at_160) (by decide) (by decide) k) ?_
            show own_Run p e below _ T192 (mkF m 197 #[.val (.int p1), .val (.int p2), .val (.long q3), .second, .val (.long q4), .second, .val (.long q5), .second, .val (.int p6), .val (.int (2 : Int32)), .val (.int x10), .val (.int x11), .val (.int x12), .val (.int x13), .val (.int x14), .val (.ref b172), .val (.int x16), .val (.int (x12 - (1 : Int32))), .unset, .unset] [])
            exact tail2 p1 p2 q3 q4 q5 p6 h0 n0 hx hZ hw hby hml hown hnm hret hlk x10 x11 x12 x13 x14 b172 x16 (x12 - (1 : Int32)) b1_174 b2_174 k1_174 k2_174 T192 T192.heap _ X192 rfl N192 Z0_c193 K0_c193 P192_0 P192_1 P192_2 P192_3 P192_4 P192_5 (hi1.1) (hi2.1) 
          · refine own_go (fun _ k => XS.icmpYes X192.here hx rfl (pc0 := 151) (pc' := 163) rfl (hb hby at_151) rfl (feq hc151_197).2 (by decide) (by decide) k) ?_
            show own_Run p e below _ T192 (mkF m 163 #[.val (.int p1), .val (.int p2), .val (.long q3), .second, .val (.long q4), .second, .val (.long q5), .second, .val (.int p6), .val (.int (2 : Int32)), .val (.int x10), .val (.int x11), .val (.int x12), .val (.int x13), .val (.int x14), .val (.ref b172), .val (.int x16), .unset, .unset, .unset] [])
            refine own_go (fun _ k => XS.iload X192.here hx rfl (hb hby at_163) rfl k) ?_
            refine own_go (fun _ k => XS.iconst X192.here hx rfl (hb hby at_165) k) ?_
            show own_Run p e below _ T192 (mkF m 166 #[.val (.int p1), .val (.int p2), .val (.long q3), .second, .val (.long q4), .second, .val (.long q5), .second, .val (.int p6), .val (.int (2 : Int32)), .val (.int x10), .val (.int x11), .val (.int x12), .val (.int x13), .val (.int x14), .val (.ref b172), .val (.int x16), .unset, .unset, .unset] [(.int (4 : Int32)), (.int x16)])
            by_cases hc166_198 : x16 = (4 : Int32)
            · refine own_go (fun _ k => XS.icmpNo X192.here hx rfl (hb hby at_166) rfl (teq hc166_198).2 k) ?_
              show own_Run p e below _ T192 (mkF m 169 #[.val (.int p1), .val (.int p2), .val (.long q3), .second, .val (.long q4), .second, .val (.long q5), .second, .val (.int p6), .val (.int (2 : Int32)), .val (.int x10), .val (.int x11), .val (.int x12), .val (.int x13), .val (.int x14), .val (.ref b172), .val (.int x16), .unset, .unset, .unset] [])
              refine own_go (fun _ k => XS.iload X192.here hx rfl (hb hby at_169) rfl k) ?_
              refine own_go (fun _ k => XS.iconst X192.here hx rfl (hb hby at_171) k) ?_
              refine own_go (fun _ k => XS.isub X192.here hx rfl (hb hby at_172) rfl k) ?_
              refine own_go (fun _ k => XS.istore X192.here hx rfl (hb hby at_173) rfl (l' := #[.val (.int p1), .val (.int p2), .val (.long q3), .second, .val (.long q4), .second, .val (.long q5), .second, .val (.int p6), .val (.int (2 : Int32)), .val (.int x10), .val (.int x11), .val (.int x12), .val (.int x13), .val (.int x14), .val (.ref b172), .val (.int x16), .val (.int (x13 - (1 : Int32))), .unset, .unset]) rfl k) ?_
              show own_Run p e below _ T192 (mkF m 175 #[.val (.int p1), .val (.int p2), .val (.long q3), .second, .val (.long q4), .second, .val (.long q5), .second, .val (.int p6), .val (.int (2 : Int32)), .val (.int x10), .val (.int x11), .val (.int x12), .val (.int x13), .val (.int x14), .val (.ref b172), .val (.int x16), .val (.int (x13 - (1 : Int32))), .unset, .unset] [])
              refine own_go (fun _ k => XS.goto X192.here hx rfl (pc0 := 175) (pc' := 197) rfl (hb hby at_175) (by decide) (by decide) k) ?_
              show own_Run p e below _ T192 (mkF m 197 #[.val (.int p1), .val (.int p2), .val (.long q3), .second, .val (.long q4), .second, .val (.long q5), .second, .val (.int p6), .val (.int (2 : Int32)), .val (.int x10), .val (.int x11), .val (.int x12), .val (.int x13), .val (.int x14), .val (.ref b172), .val (.int x16), .val (.int (x13 - (1 : Int32))), .unset, .unset] [])
              exact tail2 p1 p2 q3 q4 q5 p6 h0 n0 hx hZ hw hby hml hown hnm hret hlk x10 x11 x12 x13 x14 b172 x16 (x13 - (1 : Int32)) b1_174 b2_174 k1_174 k2_174 T192 T192.heap _ X192 rfl N192 Z0_c193 K0_c193 P192_0 P192_1 P192_2 P192_3 P192_4 P192_5 (hi1.1) (hi2.1) 
            · refine own_go (fun _ k => XS.icmpYes X192.here hx rfl (pc0 := 166) (pc' := 178) rfl (hb hby at_166) rfl (feq hc166_198).2 (by decide) (by decide) k) ?_
              show own_Run p e below _ T192 (mkF m 178 #[.val (.int p1), .val (.int p2), .val (.long q3), .second, .val (.long q4), .second, .val (.long q5), .second, .val (.int p6), .val (.int (2 : Int32)), .val (.int x10), .val (.int x11), .val (.int x12), .val (.int x13), .val (.int x14), .val (.ref b172), .val (.int x16), .unset, .unset, .unset] [])
              refine own_go (fun _ k => XS.iload X192.here hx rfl (hb hby at_178) rfl k) ?_
              refine own_go (fun _ k => XS.iconst X192.here hx rfl (hb hby at_180) k) ?_
              show own_Run p e below _ T192 (mkF m 181 #[.val (.int p1), .val (.int p2), .val (.long q3), .second, .val (.long q4), .second, .val (.long q5), .second, .val (.int p6), .val (.int (2 : Int32)), .val (.int x10), .val (.int x11), .val (.int x12), .val (.int x13), .val (.int x14), .val (.ref b172), .val (.int x16), .unset, .unset, .unset] [(.int (5 : Int32)), (.int x16)])
              by_cases hc181_199 : x16 = (5 : Int32)
              · refine own_go (fun _ k => XS.icmpNo X192.here hx rfl (hb hby at_181) rfl (teq hc181_199).2 k) ?_
                show own_Run p e below _ T192 (mkF m 184 #[.val (.int p1), .val (.int p2), .val (.long q3), .second, .val (.long q4), .second, .val (.long q5), .second, .val (.int p6), .val (.int (2 : Int32)), .val (.int x10), .val (.int x11), .val (.int x12), .val (.int x13), .val (.int x14), .val (.ref b172), .val (.int x16), .unset, .unset, .unset] [])
                refine own_go (fun _ k => XS.iload X192.here hx rfl (hb hby at_184) rfl k) ?_
                refine own_go (fun _ k => XS.iconst X192.here hx rfl (hb hby at_186) k) ?_
                refine own_go (fun _ k => XS.iadd X192.here hx rfl (hb hby at_187) rfl k) ?_
                refine own_go (fun _ k => XS.istore X192.here hx rfl (hb hby at_188) rfl (l' := #[.val (.int p1), .val (.int p2), .val (.long q3), .second, .val (.long q4), .second, .val (.long q5), .second, .val (.int p6), .val (.int (2 : Int32)), .val (.int x10), .val (.int x11), .val (.int x12), .val (.int x13), .val (.int x14), .val (.ref b172), .val (.int x16), .val (.int (x14 + (1 : Int32))), .unset, .unset]) rfl k) ?_
                show own_Run p e below _ T192 (mkF m 190 #[.val (.int p1), .val (.int p2), .val (.long q3), .second, .val (.long q4), .second, .val (.long q5), .second, .val (.int p6), .val (.int (2 : Int32)), .val (.int x10), .val (.int x11), .val (.int x12), .val (.int x13), .val (.int x14), .val (.ref b172), .val (.int x16), .val (.int (x14 + (1 : Int32))), .unset, .unset] [])
                refine own_go (fun _ k => XS.goto X192.here hx rfl (pc0 := 190) (pc' := 197) rfl (hb hby at_190) (by decide) (by decide) k) ?_
                show own_Run p e below _ T192 (mkF m 197 #[.val (.int p1), .val (.int p2), .val (.long q3), .second, .val (.long q4), .second, .val (.long q5), .second, .val (.int p6), .val (.int (2 : Int32)), .val (.int x10), .val (.int x11), .val (.int x12), .val (.int x13), .val (.int x14), .val (.ref b172), .val (.int x16), .val (.int (x14 + (1 : Int32))), .unset, .unset] [])
                exact tail2 p1 p2 q3 q4 q5 p6 h0 n0 hx hZ hw hby hml hown hnm hret hlk x10 x11 x12 x13 x14 b172 x16 (x14 + (1 : Int32)) b1_174 b2_174 k1_174 k2_174 T192 T192.heap _ X192 rfl N192 Z0_c193 K0_c193 P192_0 P192_1 P192_2 P192_3 P192_4 P192_5 (hi1.1) (hi2.1) 
              · refine own_go (fun _ k => XS.icmpYes X192.here hx rfl (pc0 := 181) (pc' := 193) rfl (hb hby at_181) rfl (feq hc181_199).2 (by decide) (by decide) k) ?_
                show own_Run p e below _ T192 (mkF m 193 #[.val (.int p1), .val (.int p2), .val (.long q3), .second, .val (.long q4), .second, .val (.long q5), .second, .val (.int p6), .val (.int (2 : Int32)), .val (.int x10), .val (.int x11), .val (.int x12), .val (.int x13), .val (.int x14), .val (.ref b172), .val (.int x16), .unset, .unset, .unset] [])
                refine own_go (fun _ k => XS.iload X192.here hx rfl (hb hby at_193) rfl k) ?_
                refine own_go (fun _ k => XS.istore X192.here hx rfl (hb hby at_195) rfl (l' := #[.val (.int p1), .val (.int p2), .val (.long q3), .second, .val (.long q4), .second, .val (.long q5), .second, .val (.int p6), .val (.int (2 : Int32)), .val (.int x10), .val (.int x11), .val (.int x12), .val (.int x13), .val (.int x14), .val (.ref b172), .val (.int x16), .val (.int p6), .unset, .unset]) rfl k) ?_
                show own_Run p e below _ T192 (mkF m 197 #[.val (.int p1), .val (.int p2), .val (.long q3), .second, .val (.long q4), .second, .val (.long q5), .second, .val (.int p6), .val (.int (2 : Int32)), .val (.int x10), .val (.int x11), .val (.int x12), .val (.int x13), .val (.int x14), .val (.ref b172), .val (.int x16), .val (.int p6), .unset, .unset] [])
                exact tail2 p1 p2 q3 q4 q5 p6 h0 n0 hx hZ hw hby hml hown hnm hret hlk x10 x11 x12 x13 x14 b172 x16 p6 b1_174 b2_174 k1_174 k2_174 T192 T192.heap _ X192 rfl N192 Z0_c193 K0_c193 P192_0 P192_1 P192_2 P192_3 P192_4 P192_5 (hi1.1) (hi2.1) 
  · show own_Run p e below _ T174 (mkF m 59 #[.val (.int p1), .val (.int p2), .val (.long q3), .second, .val (.long q4), .second, .val (.long q5), .second, .val (.int p6), .val (.int (3 : Int32)), .val (.int x10), .val (.int x11), .val (.int x12), .val (.int x13), .val (.int x14), .val (.ref b172), .unset, .unset, .unset, .unset] [])
    refine own_go (fun _ k => XS.iload X174.here hx rfl (hb hby at_59) rfl k) ?_
    refine own_go (fun _ k => XS.iconst X174.here hx rfl (hb hby at_61) k) ?_
    show own_Run p e below _ T174 (mkF m 62 #[.val (.int p1), .val (.int p2), .val (.long q3), .second, .val (.long q4), .second, .val (.long q5), .second, .val (.int p6), .val (.int (3 : Int32)), .val (.int x10), .val (.int x11), .val (.int x12), .val (.int x13), .val (.int x14), .val (.ref b172), .unset, .unset, .unset, .unset] [(.int (1 : Int32)), (.int (3 : Int32))])
    refine own_go (fun _ k => XS.icmpNo X174.here hx rfl (hb hby at_62) rfl (flt (by decide : ¬ ((3 : Int32) < (1 : Int32)))).1 k) ?_
    show own_Run p e below _ T174 (mkF m 65 #[.val (.int p1), .val (.int p2), .val (.long q3), .second, .val (.long q4), .second, .val (.long q5), .second, .val (.int p6), .val (.int (3 : Int32)), .val (.int x10), .val (.int x11), .val (.int x12), .val (.int x13), .val (.int x14), .val (.ref b172), .unset, .unset, .unset, .unset] [])
    refine own_go (fun _ k => XS.aload X174.here hx rfl (hb hby at_65) rfl rfl k) ?_
    refine own_go (fun _ k => XS.iload X174.here hx rfl (hb hby at_67) rfl k) ?_
    refine own_go (fun _ k => XS.lloadN X174.here hx rfl (hb hby at_69) rfl k) ?_
    show own_Run p e below _ T174 (mkF m 70 #[.val (.int p1), .val (.int p2), .val (.long q3), .second, .val (.long q4), .second, .val (.long q5), .second, .val (.int p6), .val (.int (3 : Int32)), .val (.int x10), .val (.int x11), .val (.int x12), .val (.int x13), .val (.int x14), .val (.ref b172), .unset, .unset, .unset, .unset] [(.long q3), (.int x12), (.ref b172)])
    obtain ⟨cq200, kq200, q200a, q200b, q200c⟩ := isOf hZ rfl P174_0
    obtain ⟨_, _, ⟨T200, L200, k200, n200⟩, -, X200, ⟨Lc200, hQ200, l200, y200, z200⟩, st200⟩ := X174.virtualBack hx (y := (⟨"com/example/net_reducer/netreducer/analysis/Marking", "add", "(IJ)V"⟩ : MethodName)) (z := (⟨"com/example/net_reducer/netreducer/analysis/Marking", "add", "(IJ)V"⟩ : MethodName)) hown (mvT hZ (W 20 rfl)) (mvT hZ (W 21 rfl)) (notFace_of_selects (args := #[]) (mvT hZ (W 23 rfl))) (mvT hZ (W 23 rfl)) (mvT hZ (W 22 rfl)) (by decide) (backOf (W := 0) (rm4c0 l Z a0 hw [] b172 x12 q3 b1_174 b2_174 k1_174 k2_174 (0 : Int32) (0 : Int32) (0 : Int32) (0 : Int32) (0 : Int32) (0 : Int32) (0 : Int32) (0 : Int32) (0 : Int64) (0 : Int64) (0 : Int64) (0 : Int64) (0 : Int64) (0 : Int64) (0 : Int64) (0 : Int64) T174.heap n0 Z0_c175 P174_0 P174_1 P174_2 P174_3 P174_4 P174_5 g_b172 g_b1_174 g_b2_174 P174_8 P174_9 P174_10) hZ (W 24 rfl) (W 7 rfl) (by decide) (by decide)) q200a q200c (g := (mkF m 70 #[.val (.int p1), .val (.int p2), .val (.long q3), .second, .val (.long q4), .second, .val (.long q5), .second, .val (.int p6), .val (.int (3 : Int32)), .val (.int x10), .val (.int x11), .val (.int x12), .val (.int x13), .val (.int x14), .val (.ref b172), .unset, .unset, .unset, .unset] [(.long q3), (.int x12), (.ref b172)])) rfl (by rw [hml]; rfl) (Steps.refl _) (argsL := [(.int x12), (.long q3)]) (rest := []) (lenOf pd_6 rfl) rfl (by show 2 * 0 + _ ≤ _; exact Nat.le_of_eq rfl) (hb hby at_70) (fun _ _ => ⟨rfl, rfl, (by decide : 3 + 0 ≤ _), (by decide : 19 + 0 ≤ _)⟩)
    dsimp only [Pt.U, Pt.locs, Pt.cells, Pt.slots] at X200 l200 y200 z200 st200 hQ200
    subst l200 y200 z200
    obtain ⟨rfl, N200q, K200, P200_0, P200_1, P200_2, P200_3, P200_4, P200_5⟩ := hQ200
    have N200 := Fr.app N174 N200q
    refine own_goT st200 ?_
    show own_Run p e below _ T200 (mkF m 73 #[.val (.int p1), .val (.int p2), .val (.long q3), .second, .val (.long q4), .second, .val (.long q5), .second, .val (.int p6), .val (.int (3 : Int32)), .val (.int x10), .val (.int x11), .val (.int x12), .val (.int x13), .val (.int x14), .val (.ref b172), .unset, .unset, .unset, .unset] [])
    have Z0_c201 := Nat.le_trans Z0_c175 K200.1
    have K0_c201 := K0_c175.trans K200 (allS (Or.inr sz_b172) (allS (Or.inr sz_b1_174) (allS (Or.inr sz_b2_174) all0)))
    have P174_0_c201 := P174_0.keep K200
    refine own_go (fun _ k => XS.iload X200.here hx rfl (hb hby at_73) rfl k) ?_
    refine own_go (fun _ k => XS.iconst X200.here hx rfl (hb hby at_75) k) ?_
    show own_Run p e below _ T200 (mkF m 76 #[.val (.int p1), .val (.int p2), .val (.long q3), .second, .val (.long q4), .second, .val (.long q5), .second, .val (.int p6), .val (.int (3 : Int32)), .val (.int x10), .val (.int x11), .val (.int x12), .val (.int x13), .val (.int x14), .val (.ref b172), .unset, .unset, .unset, .unset] [(.int (2 : Int32)), (.int (3 : Int32))])
    refine own_go (fun _ k => XS.icmpNo X200.here hx rfl (hb hby at_76) rfl (flt (by decide : ¬ ((3 : Int32) < (2 : Int32)))).1 k) ?_
    show own_Run p e below _ T200 (mkF m 79 #[.val (.int p1), .val (.int p2), .val (.long q3), .second, .val (.long q4), .second, .val (.long q5), .second, .val (.int p6), .val (.int (3 : Int32)), .val (.int x10), .val (.int x11), .val (.int x12), .val (.int x13), .val (.int x14), .val (.ref b172), .unset, .unset, .unset, .unset] [])
    refine own_go (fun _ k => XS.aload X200.here hx rfl (hb hby at_79) rfl rfl k) ?_
    refine own_go (fun _ k => XS.iload X200.here hx rfl (hb hby at_81) rfl k) ?_
    refine own_go (fun _ k => XS.lload X200.here hx rfl (hb hby at_83) rfl k) ?_
    show own_Run p e below _ T200 (mkF m 85 #[.val (.int p1), .val (.int p2), .val (.long q3), .second, .val (.long q4), .second, .val (.long q5), .second, .val (.int p6), .val (.int (3 : Int32)), .val (.int x10), .val (.int x11), .val (.int x12), .val (.int x13), .val (.int x14), .val (.ref b172), .unset, .unset, .unset, .unset] [(.long q4), (.int x13), (.ref b172)])
    obtain ⟨cq202, kq202, q202a, q202b, q202c⟩ := isOf hZ rfl P200_0
    obtain ⟨_, _, ⟨T202, L202, k202, n202⟩, -, X202, ⟨Lc202, hQ202, l202, y202, z202⟩, st202⟩ := X200.virtualBack hx (y := (⟨"com/example/net_reducer/netreducer/analysis/Marking", "add", "(IJ)V"⟩ : MethodName)) (z := (⟨"com/example/net_reducer/netreducer/analysis/Marking", "add", "(IJ)V"⟩ : MethodName)) hown (mvT hZ (W 20 rfl)) (mvT hZ (W 21 rfl)) (notFace_of_selects (args := #[]) (mvT hZ (W 23 rfl))) (mvT hZ (W 23 rfl)) (mvT hZ (W 22 rfl)) (by decide) (backOf (W := 0) (rm4c1 l Z a0 hw [] b172 x13 q4 b1_174 b2_174 k1_174 k2_174 x12 (0 : Int32) (0 : Int32) (0 : Int32) (0 : Int32) (0 : Int32) (0 : Int32) (0 : Int32) q3 (0 : Int64) (0 : Int64) (0 : Int64) (0 : Int64) (0 : Int64) (0 : Int64) (0 : Int64) T200.heap n0 Z0_c201 P200_0 P200_1 P200_2 P200_3 P200_4 P200_5 g_b172 g_b1_174 g_b2_174 P174_8 P174_9 P174_10) hZ (W 24 rfl) (W 7 rfl) (by decide) (by decide)) q202a q202c (g := (mkF m 85 #[.val (.int p1), .val (.int p2), .val (.long q3), .second, .val (.long q4), .second, .val (.long q5), .second, .val (.int p6), .val (.int (3 : Int32)), .val (.int x10), .val (.int x11), .val (.int x12), .val (.int x13), .val (.int x14), .val (.ref b172), .unset, .unset, .unset, .unset] [(.long q4), (.int x13), (.ref b172)])) rfl (by rw [hml]; rfl) (Steps.refl _) (argsL := [(.int x13), (.long q4)]) (rest := []) (lenOf pd_6 rfl) rfl (by show 2 * 0 + _ ≤ _; exact Nat.le_of_eq rfl) (hb hby at_85) (fun _ _ => ⟨rfl, rfl, (by decide : 3 + 0 ≤ _), (by decide : 19 + 0 ≤ _)⟩)
    dsimp only [Pt.U, Pt.locs, Pt.cells, Pt.slots] at X202 l202 y202 z202 st202 hQ202
    subst l202 y202 z202
    obtain ⟨rfl, N202q, K202, P202_0, P202_1, P202_2, P202_3, P202_4, P202_5⟩ := hQ202
    have N202 := Fr.app N200 N202q
    refine own_goT st202 ?_
    show own_Run p e below _ T202 (mkF m 88 #[.val (.int p1), .val (.int p2), .val (.long q3), .second, .val (.long q4), .second, .val (.long q5), .second, .val (.int p6), .val (.int (3 : Int32)), .val (.int x10), .val (.int x11), .val (.int x12), .val (.int x13), .val (.int x14), .val (.ref b172), .unset, .unset, .unset, .unset] [])
    have Z0_c203 := Nat.le_trans Z0_c201 K202.1
    have K0_c203 := K0_c201.trans K202 (allS (Or.inr sz_b172) (allS (Or.inr sz_b1_174) (allS (Or.inr sz_b2_174) all0)))
    have P200_0_c203 := P200_0.keep K202
    refine own_go (fun _ k => XS.iload X202.here hx rfl (hb hby at_88) rfl k) ?_
    refine own_go (fun _ k => XS.iconst X202.here hx rfl (hb hby at_90) k) ?_
    show own_Run p e below _ T202 (mkF m 91 #[.val (.int p1), .val (.int p2), .val (.long q3), .second, .val (.long q4), .second, .val (.long q5), .second, .val (.int p6), .val (.int (3 : Int32)), .val (.int x10), .val (.int x11), .val (.int x12), .val (.int x13), .val (.int x14), .val (.ref b172), .unset, .unset, .unset, .unset] [(.int (3 : Int32)), (.int (3 : Int32))])
    refine own_go (fun _ k => XS.icmpNo X202.here hx rfl (hb hby at_91) rfl (flt (by decide : ¬ ((3 : Int32) < (3 : Int32)))).1 k) ?_
    show own_Run p e below _ T202 (mkF m 94 #[.val (.int p1), .val (.int p2), .val (.long q3), .second, .val (.long q4), .second, .val (.long q5), .second, .val (.int p6), .val (.int (3 : Int32)), .val (.int x10), .val (.int x11), .val (.int x12), .val (.int x13), .val (.int x14), .val (.ref b172), .unset, .unset, .unset, .unset] [])
    refine own_go (fun _ k => XS.aload X202.here hx rfl (hb hby at_94) rfl rfl k) ?_
    refine own_go (fun _ k => XS.iload X202.here hx rfl (hb hby at_96) rfl k) ?_
    refine own_go (fun _ k => XS.lload X202.here hx rfl (hb hby at_98) rfl k) ?_
    show own_Run p e below _ T202 (mkF m 100 #[.val (.int p1), .val (.int p2), .val (.long q3), .second, .val (.long q4), .second, .val (.long q5), .second, .val (.int p6), .val (.int (3 : Int32)), .val (.int x10), .val (.int x11), .val (.int x12), .val (.int x13), .val (.int x14), .val (.ref b172), .unset, .unset, .unset, .unset] [(.long q5), (.int x14), (.ref b172)])
    obtain ⟨cq204, kq204, q204a, q204b, q204c⟩ := isOf hZ rfl P202_0
    obtain ⟨_, _, ⟨T204, L204, k204, n204⟩, -, X204, ⟨Lc204, hQ204, l204, y204, z204⟩, st204⟩ := X202.virtualBack hx (y := (⟨"com/example/net_reducer/netreducer/analysis/Marking", "add", "(IJ)V"⟩ : MethodName)) (z := (⟨"com/example/net_reducer/netreducer/analysis/Marking", "add", "(IJ)V"⟩ : MethodName)) hown (mvT hZ (W 20 rfl)) (mvT hZ (W 21 rfl)) (notFace_of_selects (args := #[]) (mvT hZ (W 23 rfl))) (mvT hZ (W 23 rfl)) (mvT hZ (W 22 rfl)) (by decide) (backOf (W := 0) (rm4c2 l Z a0 hw [] b172 x14 q5 b1_174 b2_174 k1_174 k2_174 x12 x13 (0 : Int32) (0 : Int32) (0 : Int32) (0 : Int32) (0 : Int32) (0 : Int32) q3 q4 (0 : Int64) (0 : Int64) (0 : Int64) (0 : Int64) (0 : Int64) (0 : Int64) T202.heap n0 Z0_c203 P202_0 P202_1 P202_2 P202_3 P202_4 P202_5 g_b172 g_b1_174 g_b2_174 P174_8 P174_9 P174_10) hZ (W 24 rfl) (W 7 rfl) (by decide) (by decide)) q204a q204c (g := (mkF m 100 #[.val (.int p1), .val (.int p2), .val (.long q3), .second, .val (.long q4), .second, .val (.long q5), .second, .val (.int p6), .val (.int (3 : Int32)), .val (.int x10), .val (.int x11), .val (.int x12), .val (.int x13), .val (.int x14), .val (.ref b172), .unset, .unset, .unset, .unset] [(.long q5), (.int x14), (.ref b172)])) rfl (by rw [hml]; rfl) (Steps.refl _) (argsL := [(.int x14), (.long q5)]) (rest := []) (lenOf pd_6 rfl) rfl (by show 2 * 0 + _ ≤ _; exact Nat.le_of_eq rfl) (hb hby at_100) (fun _ _ => ⟨rfl, rfl, (by decide : 3 + 0 ≤ _), (by decide : 19 + 0 ≤ _)⟩)
    dsimp only [Pt.U, Pt.locs, Pt.cells, Pt.slots] at X204 l204 y204 z204 st204 hQ204
    subst l204 y204 z204
    obtain ⟨rfl, N204q, K204, P204_0, P204_1, P204_2, P204_3, P204_4, P204_5⟩ := hQ204
    have N204 := Fr.app N202 N204q
    refine own_goT st204 ?_
    show own_Run p e below _ T204 (mkF m 103 #[.val (.int p1), .val (.int p2), .val (.long q3), .second, .val (.long q4), .second, .val (.long q5), .second, .val (.int p6), .val (.int (3 : Int32)), .val (.int x10), .val (.int x11), .val (.int x12), .val (.int x13), .val (.int x14), .val (.ref b172), .unset, .unset, .unset, .unset] [])
    have Z0_c205 := Nat.le_trans Z0_c203 K204.1
    have K0_c205 := K0_c203.trans K204 (allS (Or.inr sz_b172) (allS (Or.inr sz_b1_174) (allS (Or.inr sz_b2_174) all0)))
    have P202_0_c205 := P202_0.keep K204
    refine own_go (fun _ k => XS.iload X204.here hx rfl (hb hby at_103) rfl k) ?_
    refine own_go (fun _ k => XS.bipush X204.here hx rfl (hb hby at_105) k) ?_
    refine own_go (fun _ k => XS.iand X204.here hx rfl (hb hby at_107) rfl k) ?_
    show own_Run p e below _ T204 (mkF m 108 #[.val (.int p1), .val (.int p2), .val (.long q3), .second, .val (.long q4), .second, .val (.long q5), .second, .val (.int p6), .val (.int (3 : Int32)), .val (.int x10), .val (.int x11), .val (.int x12), .val (.int x13), .val (.int x14), .val (.ref b172), .unset, .unset, .unset, .unset] [(.int (p6 &&& (7 : Int32)))])
    obtain ⟨x16, hx16⟩ : ∃ z, z = (p6 &&& (7 : Int32)) := ⟨_, rfl⟩
    rw [← hx16]
    show own_Run p e below _ T204 (mkF m 108 #[.val (.int p1), .val (.int p2), .val (.long q3), .second, .val (.long q4), .second, .val (.long q5), .second, .val (.int p6), .val (.int (3 : Int32)), .val (.int x10), .val (.int x11), .val (.int x12), .val (.int x13), .val (.int x14), .val (.ref b172), .unset, .unset, .unset, .unset] [(.int x16)])
    refine own_go (fun _ k => XS.istore X204.here hx rfl (hb hby at_108) rfl (l' := #[.val (.int p1), .val (.int p2), .val (.long q3), .second, .val (.long q4), .second, .val (.long q5), .second, .val (.int p6), .val (.int (3 : Int32)), .val (.int x10), .val (.int x11), .val (.int x12), .val (.int x13), .val (.int x14), .val (.ref b172), .val (.int x16), .unset, .unset, .unset]) rfl k) ?_
    refine own_go (fun _ k => XS.iload X204.here hx rfl (hb hby at_110) rfl k) ?_
    show own_Run p e below _ T204 (mkF m 112 #[.val (.int p1), .val (.int p2), .val (.long q3), .second, .val (.long q4), .second, .val (.long q5), .second, .val (.int p6), .val (.int (3 : Int32)), .val (.int x10), .val (.int x11), .val (.int x12), .val (.int x13), .val (.int x14), .val (.ref b172), .val (.int x16), .unset, .unset, .unset] [(.int x16)])
    by_cases hc112_206 : x16 = (0 : Int32)
    · refine own_go (fun _ k => XS.ifNo X204.here hx rfl (hb hby at_112) rfl ((if0 _ _).trans (teq hc112_206).2) k) ?_
      show own_Run p e below _ T204 (mkF m 115 #[.val (.int p1), .val (.int p2), .val (.long q3), .second, .val (.long q4), .second, .val (.long q5), .second, .val (.int p6), .val (.int (3 : Int32)), .val (.int x10), .val (.int x11), .val (.int x12), .val (.int x13), .val (.int x14), .val (.ref b172), .val (.int x16), .unset, .unset, .unset] [])
      refine own_go (fun _ k => XS.iload X204.here hx rfl (hb hby at_115) rfl k) ?_
      refine own_go (fun _ k => XS.istore X204.here hx rfl (hb hby at_117) rfl (l' := #[.val (.int p1), .val (.int p2), .val (.long q3), .second, .val (.long q4), .second, .val (.long q5), .second, .val (.int p6), .val (.int (3 : Int32)), .val (.int x10), .val (.int x11), .val (.int x12), .val (.int x13), .val (.int x14), .val (.ref b172), .val (.int x16), .val (.int x12), .unset, .unset]) rfl k) ?_
      refine own_go (fun _ k => XS.goto X204.here hx rfl (pc0 := 119) (pc' := 197) rfl (hb hby at_119) (by decide) (by decide) k) ?_
      show own_Run p e below _ T204 (mkF m 197 #[.val (.int p1), .val (.int p2), .val (.long q3), .second, .val (.long q4), .second, .val (.long q5), .second, .val (.int p6), .val (.int (3 : Int32)), .val (.int x10), .val (.int x11), .val (.int x12), .val (.int x13), .val (.int x14), .val (.ref b172), .val (.int x16), .val (.int x12), .unset, .unset] [])
      exact tail3 p1 p2 q3 q4 q5 p6 h0 n0 hx hZ hw hby hml hown hnm hret hlk x10 x11 x12 x13 x14 b172 x16 x12 b1_174 b2_174 k1_174 k2_174 T204 T204.heap _ X204 rfl N204 Z0_c205 K0_c205 P204_0 P204_1 P204_2 P204_3 P204_4 P204_5 (hi1.1) (hi2.1) 
    · refine own_go (fun _ k => XS.ifYes X204.here hx rfl (pc0 := 112) (pc' := 122) rfl (hb hby at_112) rfl ((if0 _ _).trans (feq hc112_206).2) (by decide) (by decide) k) ?_
      show own_Run p e below _ T204 (mkF m 122 #[.val (.int p1), .val (.int p2), .val (.long q3), .second, .val (.long q4), .second, .val (.long q5), .second, .val (.int p6), .val (.int (3 : Int32)), .val (.int x10), .val (.int x11), .val (.int x12), .val (.int x13), .val (.int x14), .val (.ref b172), .val (.int x16), .unset, .unset, .unset] [])
      refine own_go (fun _ k => XS.iload X204.here hx rfl (hb hby at_122) rfl k) ?_
      refine own_go (fun _ k => XS.iconst X204.here hx rfl (hb hby at_124) k) ?_
      show own_Run p e below _ T204 (mkF m 125 #[.val (.int p1), .val (.int p2), .val (.long q3), .second, .val (.long q4), .second, .val (.long q5), .second, .val (.int p6), .val (.int (3 : Int32)), .val (.int x10), .val (.int x11), .val (.int x12), .val (.int x13), .val (.int x14), .val (.ref b172), .val (.int x16), .unset, .unset, .unset] [(.int (1 : Int32)), (.int x16)])
      by_cases hc125_207 : x16 = (1 : Int32)
      · refine own_go (fun _ k => XS.icmpNo X204.here hx rfl (hb hby at_125) rfl (teq hc125_207).2 k) ?_
        show own_Run p e below _ T204 (mkF m 128 #[.val (.int p1), .val (.int p2), .val (.long q3), .second, .val (.long q4), .second, .val (.long q5), .second, .val (.int p6), .val (.int (3 : Int32)), .val (.int x10), .val (.int x11), .val (.int x12), .val (.int x13), .val (.int x14), .val (.ref b172), .val (.int x16), .unset, .unset, .unset] [])
        refine own_go (fun _ k => XS.iload X204.here hx rfl (hb hby at_128) rfl k) ?_
        refine own_go (fun _ k => XS.istore X204.here hx rfl (hb hby at_130) rfl (l' := #[.val (.int p1), .val (.int p2), .val (.long q3), .second, .val (.long q4), .second, .val (.long q5), .second, .val (.int p6), .val (.int (3 : Int32)), .val (.int x10), .val (.int x11), .val (.int x12), .val (.int x13), .val (.int x14), .val (.ref b172), .val (.int x16), .val (.int x13), .unset, .unset]) rfl k) ?_
        refine own_go (fun _ k => XS.goto X204.here hx rfl (pc0 := 132) (pc' := 197) rfl (hb hby at_132) (by decide) (by decide) k) ?_
        show own_Run p e below _ T204 (mkF m 197 #[.val (.int p1), .val (.int p2), .val (.long q3), .second, .val (.long q4), .second, .val (.long q5), .second, .val (.int p6), .val (.int (3 : Int32)), .val (.int x10), .val (.int x11), .val (.int x12), .val (.int x13), .val (.int x14), .val (.ref b172), .val (.int x16), .val (.int x13), .unset, .unset] [])
        exact tail3 p1 p2 q3 q4 q5 p6 h0 n0 hx hZ hw hby hml hown hnm hret hlk x10 x11 x12 x13 x14 b172 x16 x13 b1_174 b2_174 k1_174 k2_174 T204 T204.heap _ X204 rfl N204 Z0_c205 K0_c205 P204_0 P204_1 P204_2 P204_3 P204_4 P204_5 (hi1.1) (hi2.1) 
      · refine own_go (fun _ k => XS.icmpYes X204.here hx rfl (pc0 := 125) (pc' := 135) rfl (hb hby at_125) rfl (feq hc125_207).2 (by decide) (by decide) k) ?_
        show own_Run p e below _ T204 (mkF m 135 #[.val (.int p1), .val (.int p2), .val (.long q3), .second, .val (.long q4), .second, .val (.long q5), .second, .val (.int p6), .val (.int (3 : Int32)), .val (.int x10), .val (.int x11), .val (.int x12), .val (.int x13), .val (.int x14), .val (.ref b172), .val (.int x16), .unset, .unset, .unset] [])
        refine own_go (fun _ k => XS.iload X204.here hx rfl (hb hby at_135) rfl k) ?_
        refine own_go (fun _ k => XS.iconst X204.here hx rfl (hb hby at_137) k) ?_
        show own_Run p e below _ T204 (mkF m 138 #[.val (.int p1), .val (.int p2), .val (.long q3), .second, .val (.long q4), .second, .val (.long q5), .second, .val (.int p6), .val (.int (3 : Int32)), .val (.int x10), .val (.int x11), .val (.int x12), .val (.int x13), .val (.int x14), .val (.ref b172), .val (.int x16), .unset, .unset, .unset] [(.int (2 : Int32)), (.int x16)])
        by_cases hc138_208 : x16 = (2 : Int32)
        · refine own_go (fun _ k => XS.icmpNo X204.here hx rfl (hb hby at_138) rfl (teq hc138_208).2 k) ?_
          show own_Run p e below _ T204 (mkF m 141 #[.val (.int p1), .val (.int p2), .val (.long q3), .second, .val (.long q4), .second, .val (.long q5), .second, .val (.int p6), .val (.int (3 : Int32)), .val (.int x10), .val (.int x11), .val (.int x12), .val (.int x13), .val (.int x14), .val (.ref b172), .val (.int x16), .unset, .unset, .unset] [])
          refine own_go (fun _ k => XS.iload X204.here hx rfl (hb hby at_141) rfl k) ?_
          refine own_go (fun _ k => XS.istore X204.here hx rfl (hb hby at_143) rfl (l' := #[.val (.int p1), .val (.int p2), .val (.long q3), .second, .val (.long q4), .second, .val (.long q5), .second, .val (.int p6), .val (.int (3 : Int32)), .val (.int x10), .val (.int x11), .val (.int x12), .val (.int x13), .val (.int x14), .val (.ref b172), .val (.int x16), .val (.int x14), .unset, .unset]) rfl k) ?_
          refine own_go (fun _ k => XS.goto X204.here hx rfl (pc0 := 145) (pc' := 197) rfl (hb hby at_145) (by decide) (by decide) k) ?_
          show own_Run p e below _ T204 (mkF m 197 #[.val (.int p1), .val (.int p2), .val (.long q3), .second, .val (.long q4), .second, .val (.long q5), .second, .val (.int p6), .val (.int (3 : Int32)), .val (.int x10), .val (.int x11), .val (.int x12), .val (.int x13), .val (.int x14), .val (.ref b172), .val (.int x16), .val (.int x14), .unset, .unset] [])
          exact tail3 p1 p2 q3 q4 q5 p6 h0 n0 hx hZ hw hby hml hown hnm hret hlk x10 x11 x12 x13 x14 b172 x16 x14 b1_174 b2_174 k1_174 k2_174 T204 T204.heap _ X204 rfl N204 Z0_c205 K0_c205 P204_0 P204_1 P204_2 P204_3 P204_4 P204_5 (hi1.1) (hi2.1) 
        · refine own_go (fun _ k => XS.icmpYes X204.here hx rfl (pc0 := 138) (pc' := 148) rfl (hb hby at_138) rfl (feq hc138_208).2 (by decide) (by decide) k) ?_
          show own_Run p e below _ T204 (mkF m 148 #[.val (.int p1), .val (.int p2), .val (.long q3), .second, .val (.long q4), .second, .val (.long q5), .second, .val (.int p6), .val (.int (3 : Int32)), .val (.int x10), .val (.int x11), .val (.int x12), .val (.int x13), .val (.int x14), .val (.ref b172), .val (.int x16), .unset, .unset, .unset] [])
          refine own_go (fun _ k => XS.iload X204.here hx rfl (hb hby at_148) rfl k) ?_
          refine own_go (fun _ k => XS.iconst X204.here hx rfl (hb hby at_150) k) ?_
          show own_Run p e below _ T204 (mkF m 151 #[.val (.int p1), .val (.int p2), .val (.long q3), .second, .val (.long q4), .second, .val (.long q5), .second, .val (.int p6), .val (.int (3 : Int32)), .val (.int x10), .val (.int x11), .val (.int x12), .val (.int x13), .val (.int x14), .val (.ref b172), .val (.int x16), .unset, .unset, .unset] [(.int (3 : Int32)), (.int x16)])
          by_cases hc151_209 : x16 = (3 : Int32)
          · refine own_go (fun _ k => XS.icmpNo X204.here hx rfl (hb hby at_151) rfl (teq hc151_209).2 k) ?_
            show own_Run p e below _ T204 (mkF m 154 #[.val (.int p1), .val (.int p2), .val (.long q3), .second, .val (.long q4), .second, .val (.long q5), .second, .val (.int p6), .val (.int (3 : Int32)), .val (.int x10), .val (.int x11), .val (.int x12), .val (.int x13), .val (.int x14), .val (.ref b172), .val (.int x16), .unset, .unset, .unset] [])
            refine own_go (fun _ k => XS.iload X204.here hx rfl (hb hby at_154) rfl k) ?_
            refine own_go (fun _ k => XS.iconst X204.here hx rfl (hb hby at_156) k) ?_
            refine own_go (fun _ k => XS.isub X204.here hx rfl (hb hby at_157) rfl k) ?_
            refine own_go (fun _ k => XS.istore X204.here hx rfl (hb hby at_158) rfl (l' := #[.val (.int p1), .val (.int p2), .val (.long q3), .second, .val (.long q4), .second, .val (.long q5), .second, .val (.int p6), .val (.int (3 : Int32)), .val (.int x10), .val (.int x11), .val (.int x12), .val (.int x13), .val (.int x14), .val (.ref b172), .val (.int x16), .val (.int (x12 - (1 : Int32))), .unset, .unset]) rfl k) ?_
            show own_Run p e below _ T204 (mkF m 160 #[.val (.int p1), .val (.int p2), .val (.long q3), .second, .val (.long q4), .second, .val (.long q5), .second, .val (.int p6), .val (.int (3 : Int32)), .val (.int x10), .val (.int x11), .val (.int x12), .val (.int x13), .val (.int x14), .val (.ref b172), .val (.int x16), .val (.int (x12 - (1 : Int32))), .unset, .unset] [])
            refine own_go (fun _ k => XS.goto X204.here hx rfl (pc0 := 160) (pc' := 197) rfl (hb hby at_160) (by decide) (by decide) k) ?_
            show own_Run p e below _ T204 (mkF m 197 #[.val (.int p1), .val (.int p2), .val (.long q3), .second, .val (.long q4), .second, .val (.long q5), .second, .val (.int p6), .val (.int (3 : Int32)), .val (.int x10), .val (.int x11), .val (.int x12), .val (.int x13), .val (.int x14), .val (.ref b172), .val (.int x16), .val (.int (x12 - (1 : Int32))), .unset, .unset] [])
            exact tail3 p1 p2 q3 q4 q5 p6 h0 n0 hx hZ hw hby hml hown hnm hret hlk x10 x11 x12 x13 x14 b172 x16 (x12 - (1 : Int32)) b1_174 b2_174 k1_174 k2_174 T204 T204.heap _ X204 rfl N204 Z0_c205 K0_c205 P204_0 P204_1 P204_2 P204_3 P204_4 P204_5 (hi1.1) (hi2.1) 
          · refine own_go (fun _ k => XS.icmpYes X204.here hx rfl (pc0 := 151) (pc' := 163) rfl (hb hby at_151) rfl (feq hc151_209).2 (by decide) (by decide) k) ?_
            show own_Run p e below _ T204 (mkF m 163 #[.val (.int p1), .val (.int p2), .val (.long q3), .second, .val (.long q4), .second, .val (.long q5), .second, .val (.int p6), .val (.int (3 : Int32)), .val (.int x10), .val (.int x11), .val (.int x12), .val (.int x13), .val (.int x14), .val (.ref b172), .val (.int x16), .unset, .unset, .unset] [])
            refine own_go (fun _ k => XS.iload X204.here hx rfl (hb hby at_163) rfl k) ?_
            refine own_go (fun _ k => XS.iconst X204.here hx rfl (hb hby at_165) k) ?_
            show own_Run p e below _ T204 (mkF m 166 #[.val (.int p1), .val (.int p2), .val (.long q3), .second, .val (.long q4), .second, .val (.long q5), .second, .val (.int p6), .val (.int (3 : Int32)), .val (.int x10), .val (.int x11), .val (.int x12), .val (.int x13), .val (.int x14), .val (.ref b172), .val (.int x16), .unset, .unset, .unset] [(.int (4 : Int32)), (.int x16)])
            by_cases hc166_210 : x16 = (4 : Int32)
            · refine own_go (fun _ k => XS.icmpNo X204.here hx rfl (hb hby at_166) rfl (teq hc166_210).2 k) ?_
              show own_Run p e below _ T204 (mkF m 169 #[.val (.int p1), .val (.int p2), .val (.long q3), .second, .val (.long q4), .second, .val (.long q5), .second, .val (.int p6), .val (.int (3 : Int32)), .val (.int x10), .val (.int x11), .val (.int x12), .val (.int x13), .val (.int x14), .val (.ref b172), .val (.int x16), .unset, .unset, .unset] [])
              refine own_go (fun _ k => XS.iload X204.here hx rfl (hb hby at_169) rfl k) ?_
              refine own_go (fun _ k => XS.iconst X204.here hx rfl (hb hby at_171) k) ?_
              refine own_go (fun _ k => XS.isub X204.here hx rfl (hb hby at_172) rfl k) ?_
              refine own_go (fun _ k => XS.istore X204.here hx rfl (hb hby at_173) rfl (l' := #[.val (.int p1), .val (.int p2), .val (.long q3), .second, .val (.long q4), .second, .val (.long q5), .second, .val (.int p6), .val (.int (3 : Int32)), .val (.int x10), .val (.int x11), .val (.int x12), .val (.int x13), .val (.int x14), .val (.ref b172), .val (.int x16), .val (.int (x13 - (1 : Int32))), .unset, .unset]) rfl k) ?_
              show own_Run p e below _ T204 (mkF m 175 #[.val (.int p1), .val (.int p2), .val (.long q3), .second, .val (.long q4), .second, .val (.long q5), .second, .val (.int p6), .val (.int (3 : Int32)), .val (.int x10), .val (.int x11), .val (.int x12), .val (.int x13), .val (.int x14), .val (.ref b172), .val (.int x16), .val (.int (x13 - (1 : Int32))), .unset, .unset] [])
              refine own_go (fun _ k => XS.goto X204.here hx rfl (pc0 := 175) (pc' := 197) rfl (hb hby at_175) (by decide) (by decide) k) ?_
              show own_Run p e below _ T204 (mkF m 197 #[.val (.int p1), .val (.int p2), .val (.long q3), .second, .val (.long q4), .second, .val (.long q5), .second, .val (.int p6), .val (.int (3 : Int32)), .val (.int x10), .val (.int x11), .val (.int x12), .val (.int x13), .val (.int x14), .val (.ref b172), .val (.int x16), .val (.int (x13 - (1 : Int32))), .unset, .unset] [])
              exact tail3 p1 p2 q3 q4 q5 p6 h0 n0 hx hZ hw hby hml hown hnm hret hlk x10 x11 x12 x13 x14 b172 x16 (x13 - (1 : Int32)) b1_174 b2_174 k1_174 k2_174 T204 T204.heap _ X204 rfl N204 Z0_c205 K0_c205 P204_0 P204_1 P204_2 P204_3 P204_4 P204_5 (hi1.1) (hi2.1) 
            · refine own_go (fun _ k => XS.icmpYes X204.here hx rfl (pc0 := 166) (pc' := 178) rfl (hb hby at_166) rfl (feq hc166_210).2 (by decide) (by decide) k) ?_
              show own_Run p e below _ T204 (mkF m 178 #[.val (.int p1), .val (.int p2), .val (.long q3), .second, .val (.long q4), .second, .val (.long q5), .second, .val (.int p6), .val (.int (3 : Int32)), .val (.int x10), .val (.int x11), .val (.int x12), .val (.int x13), .val (.int x14), .val (.ref b172), .val (.int x16), .unset, .unset, .unset] [])
              refine own_go (fun _ k => XS.iload X204.here hx rfl (hb hby at_178) rfl k) ?_
              refine own_go (fun _ k => XS.iconst X204.here hx rfl (hb hby at_180) k) ?_
              show own_Run p e below _ T204 (mkF m 181 #[.val (.int p1), .val (.int p2), .val (.long q3), .second, .val (.long q4), .second, .val (.long q5), .second, .val (.int p6), .val (.int (3 : Int32)), .val (.int x10), .val (.int x11), .val (.int x12), .val (.int x13), .val (.int x14), .val (.ref b172), .val (.int x16), .unset, .unset, .unset] [(.int (5 : Int32)), (.int x16)])
              by_cases hc181_211 : x16 = (5 : Int32)
              · refine own_go (fun _ k => XS.icmpNo X204.here hx rfl (hb hby at_181) rfl (teq hc181_211).2 k) ?_
                show own_Run p e below _ T204 (mkF m 184 #[.val (.int p1), .val (.int p2), .val (.long q3), .second, .val (.long q4), .second, .val (.long q5), .second, .val (.int p6), .val (.int (3 : Int32)), .val (.int x10), .val (.int x11), .val (.int x12), .val (.int x13), .val (.int x14), .val (.ref b172), .val (.int x16), .unset, .unset, .unset] [])
                refine own_go (fun _ k => XS.iload X204.here hx rfl (hb hby at_184) rfl k) ?_
                refine own_go (fun _ k => XS.iconst X204.here hx rfl (hb hby at_186) k) ?_
                refine own_go (fun _ k => XS.iadd X204.here hx rfl (hb hby at_187) rfl k) ?_
                refine own_go (fun _ k => XS.istore X204.here hx rfl (hb hby at_188) rfl (l' := #[.val (.int p1), .val (.int p2), .val (.long q3), .second, .val (.long q4), .second, .val (.long q5), .second, .val (.int p6), .val (.int (3 : Int32)), .val (.int x10), .val (.int x11), .val (.int x12), .val (.int x13), .val (.int x14), .val (.ref b172), .val (.int x16), .val (.int (x14 + (1 : Int32))), .unset, .unset]) rfl k) ?_
                show own_Run p e below _ T204 (mkF m 190 #[.val (.int p1), .val (.int p2), .val (.long q3), .second, .val (.long q4), .second, .val (.long q5), .second, .val (.int p6), .val (.int (3 : Int32)), .val (.int x10), .val (.int x11), .val (.int x12), .val (.int x13), .val (.int x14), .val (.ref b172), .val (.int x16), .val (.int (x14 + (1 : Int32))), .unset, .unset] [])
                refine own_go (fun _ k => XS.goto X204.here hx rfl (pc0 := 190) (pc' := 197) rfl (hb hby at_190) (by decide) (by decide) k) ?_
                show own_Run p e below _ T204 (mkF m 197 #[.val (.int p1), .val (.int p2), .val (.long q3), .second, .val (.long q4), .second, .val (.long q5), .second, .val (.int p6), .val (.int (3 : Int32)), .val (.int x10), .val (.int x11), .val (.int x12), .val (.int x13), .val (.int x14), .val (.ref b172), .val (.int x16), .val (.int (x14 + (1 : Int32))), .unset, .unset] [])
                exact tail3 p1 p2 q3 q4 q5 p6 h0 n0 hx hZ hw hby hml hown hnm hret hlk x10 x11 x12 x13 x14 b172 x16 (x14 + (1 : Int32)) b1_174 b2_174 k1_174 k2_174 T204 T204.heap _ X204 rfl N204 Z0_c205 K0_c205 P204_0 P204_1 P204_2 P204_3 P204_4 P204_5 (hi1.1) (hi2.1) 
              · refine own_go (fun _ k => XS.icmpYes X204.here hx rfl (pc0 := 181) (pc' := 193) rfl (hb hby at_181) rfl (feq hc181_211).2 (by decide) (by decide) k) ?_
                show own_Run p e below _ T204 (mkF m 193 #[.val (.int p1), .val (.int p2), .val (.long q3), .second, .val (.long q4), .second, .val (.long q5), .second, .val (.int p6), .val (.int (3 : Int32)), .val (.int x10), .val (.int x11), .val (.int x12), .val (.int x13), .val (.int x14), .val (.ref b172), .val (.int x16), .unset, .unset, .unset] [])
                refine own_go (fun _ k => XS.iload X204.here hx rfl (hb hby at_193) rfl k) ?_
                refine own_go (fun _ k => XS.istore X204.here hx rfl (hb hby at_195) rfl (l' := #[.val (.int p1), .val (.int p2), .val (.long q3), .second, .val (.long q4), .second, .val (.long q5), .second, .val (.int p6), .val (.int (3 : Int32)), .val (.int x10), .val (.int x11), .val (.int x12), .val (.int x13), .val (.int x14), .val (.ref b172), .val (.int x16), .val (.int p6), .unset, .unset]) rfl k) ?_
                show own_Run p e below _ T204 (mkF m 197 #[.val (.int p1), .val (.int p2), .val (.long q3), .second, .val (.long q4), .second, .val (.long q5), .second, .val (.int p6), .val (.int (3 : Int32)), .val (.int x10), .val (.int x11), .val (.int x12), .val (.int x13), .val (.int x14), .val (.ref b172), .val (.int x16), .val (.int p6), .unset, .unset] [])
                exact tail3 p1 p2 q3 q4 q5 p6 h0 n0 hx hZ hw hby hml hown hnm hret hlk x10 x11 x12 x13 x14 b172 x16 p6 b1_174 b2_174 k1_174 k2_174 T204 T204.heap _ X204 rfl N204 Z0_c205 K0_c205 P204_0 P204_1 P204_2 P204_3 P204_4 P204_5 (hi1.1) (hi2.1) 
set_option maxRecDepth 65536 in
set_option maxHeartbeats 40000000 in
theorem comes_1 {Post : Tables → Env → Array Value → State → Outcome → State → Prop} (hpost : ∀ tb e args s v u, (limb_1_1.after args s (.returned v) u = true ∧ limb_1_2.after args s (.returned v) u = true ∧ True) → FrameEnd s (.returned v) u (Jvm.fieldLocs frame_1_writes args s ++ Jvm.arrayLocs frame_1_arrays args s ++ Jvm.staticLocs frame_1_statics s) 16 128 → Post tb e args s (.returned v) u) :
    ArmFor flags0 classFile x code maxLocals ret World_1 tables_1 room_1 Calls_1 rest_1 Pre_1 Post := by
  intro l hfl _ _ p e ha hc hk s m args below hf hA hF happ hP
  obtain ⟨hcalls, hrest, hpre⟩ := hP
  obtain ⟨-, -, -, hnamed, -, -, -, hat⟩ := (Spec.applies_iff hf).mp happ
  obtain ⟨hg, hn⟩ := and_e (Cond.before_iff.mp (show (Jvm.Cond.and given_1 narrow_1).before args s = true from hpre))
  obtain ⟨hcount, hr0⟩ := and_e hg
  obtain ⟨ha0, hr1⟩ := and_e hr0
  obtain ⟨ha1, hr2⟩ := and_e hr1
  obtain ⟨ha2, hr3⟩ := and_e hr2
  obtain ⟨ha3, hr4⟩ := and_e hr3
  obtain ⟨ha4, hr5⟩ := and_e hr4
  have ha5 := hr5
  obtain ⟨w0, w1, w2, w3, w4, w5, rfl⟩ : ∃ w0 w1 w2 w3 w4 w5 : Value, args = #[w0, w1, w2, w3, w4, w5] := by
    have hs : args.size = 6 := by simpa [Cond.value, given_1] using hcount
    obtain ⟨L⟩ := args
    match L, hs with
    | [w0, w1, w2, w3, w4, w5], _ => exact ⟨w0, w1, w2, w3, w4, w5, rfl⟩
  have hw := fun d (hd : d ∈ tables_1) => atoms_spec (ws := Jvm.Cond.code x code maxLocals ret :: tables_1) hat d (List.mem_cons_of_mem _ hd)
  have W := fun (k : Nat) {d : Jvm.Cond} (h : tables_1[k]? = some d) => hw d (List.mem_of_getElem? h)
  have hfit : Fit s := fun {y c} hc i hi => by
    obtain ⟨ha, rfl⟩ := Array.getElem?_eq_some_iff.mp hc
    have q := List.all_eq_true.mp ((Array.all_eq_true_iff_forall_mem.mp hF) _ (Array.getElem_mem ha)) i (List.mem_range.mpr hi)
    simpa [Array.getElem?_eq_getElem hi] using q
  obtain ⟨i0, ei0⟩ := is_v ha0
  obtain rfl : w0 = (.int i0) := Option.some.inj ei0
  obtain ⟨i1, ei1⟩ := is_v ha1
  obtain rfl : w1 = (.int i1) := Option.some.inj ei1
  obtain ⟨i2, ei2⟩ := isL_v ha2
  obtain rfl : w2 = (.long i2) := Option.some.inj ei2
  obtain ⟨i3, ei3⟩ := isL_v ha3
  obtain rfl : w3 = (.long i3) := Option.some.inj ei3
  obtain ⟨i4, ei4⟩ := isL_v ha4
  obtain rfl : w4 = (.long i4) := Option.some.inj ei4
  obtain ⟨i5, ei5⟩ := is_v ha5
  obtain rfl : w5 = (.int i5) := Option.some.inj ei5
  obtain ⟨n, o, h1, h2, h3, _, L, rfl, ⟨rfl, N⟩, hq⟩ := rm0 l s _ hw tables_1 i0 i1 i2 i3 i4 i5 s.heap s.heap.size (Nat.le_refl _) p e ha hc hk s m _ below hf ((Spec.applies_iff_loose hf).mp happ).1 ⟨rfl, State.Warmed39.refl s, rfl⟩ trivial
  refine ⟨n, _, h1, h2, h3, hpost _ _ _ _ _ _ ⟨Cond.after_iff.mpr rfl, Cond.after_iff.mpr (eq_i res_at (Term.int_eval (1)) rfl), trivial⟩ ⟨hq.1, hq.2.1, (hq.2.2.sift fun y hy => Or.inr (N y hy)).mono (by decide) (by decide)⟩⟩
theorem main_1_1 : Claimed_1_1 := comes_1 fun _ _ _ _ _ _ h hF => ⟨h.1, hF⟩
theorem main_1_2 : Claimed_1_2 := comes_1 fun _ _ _ _ _ _ h hF => ⟨h.2.1, hF⟩
end Jvm.Pilot.@@N@@
namespace Jvm.Pilot.@@N@@
open Jvm Jvm.ClassFile Sem Op Lib Jvm.Free Jvm.Stand Jvm.Pilot.@@N@@.Jvm.D
/-! MADE BY PROGRAM (witnessworld.py) out of the Statement's table words and the real class files: 13 classes; the members and pool entries that the words name. The judged class is class 1, her method 1. -/
namespace start1
open Jvm.ClassFile
def u (s : String) : CpInfo := .utf8 (stringToUtf16 s)
/-- a pool by its gaps: so many unusable entries, then the entry; so many at the end -/
def gap : Nat → List CpInfo → List CpInfo
  | 0, r => r
  | n + 1, r => .unusable :: gap n r
def poolList (es : List (Nat × CpInfo)) (last : Nat) : List CpInfo := es.foldr (fun e r => gap e.1 (e.2 :: r)) (gap last [])
def pool (es : List (Nat × CpInfo)) (last : Nat) : Array CpInfo := ⟨poolList es last⟩
def fileOf (pool : Array CpInfo) (this : Nat) (attrs : Array Attribute := #[]) (ms : Array MethodInfo := #[]) (fl : Nat := 33) (sup : Nat := 0) (ifs : Array Nat := #[]) (fds : Array FieldInfo := #[]) : ClassFile where
  minorVersion := 0
  majorVersion := 65
  constantPool := pool
  accessFlags := fl
  thisClass := this
  superClass := sup
  interfaces := ifs
  fields := fds
  methods := ms
  attributes := attrs
def plain (name : String) (sup : Option ClassId) : Class where
  name := name
  kind := .ordinary
  loader := none
  accessFlags := 33
  super := sup
  interfaces := #[]
  cf := none
  fields := #[]
  methods := #[]
  instanceTypes := #[]
  staticTypes := #[]
  resolved := #[]
  callSites := []
  init := .initialized
  statics := none
  mirror := none

def pool0 : Array CpInfo := pool [(5, u "<init>"), (0, u "()V"), (1, .class_ 10), (1, u "java/lang/Object")] 113

def k0c0 : Code := { maxStack := 0, maxLocals := 1, code := object_method_1_code, exceptionTable := #[], attributes := #[] }
def k0m0 : Method := { name := "<init>", desc := "()V", sig := { parameters := [], returnType := none }, accessFlags := 1, code := some k0c0 }
/-- java/lang/Object -/
def k0 : Class := { plain "java/lang/Object" none with
  accessFlags := 33
  interfaces := #[]
  cf := some (fileOf pool0 8 #[] #[{ accessFlags := 1, nameIndex := 5, descriptorIndex := 6, attributes := #[] }] 33 0 #[] #[])
  fields := #[]
  methods := #[k0m0]
  instanceTypes := #[]
  staticTypes := #[]
  resolved := Array.replicate 124 none
  statics := none }

def pool1 : Array CpInfo := pool [(2, .class_ 4), (0, .nameAndType 5 6), (0, u "java/lang/Object"), (0, u "<init>"), (0, u "()V"), (2, .integer 2147483135), (0, .methodref 11 12), (0, .class_ 13), (0, .nameAndType 14 15), (0, u "java/lang/Math"), (0, u "min"), (0, u "(II)I"), (0, .class_ 17), (0, u "com/example/net_reducer/netreducer/analysis/Marking"), (0, .methodref 16 3), (0, .methodref 16 20), (0, .nameAndType 21 22), (0, u "add"), (0, u "(IJ)V"), (0, .methodref 16 24), (0, .nameAndType 25 26), (0, u "tokensOn"), (0, u "(I)J"), (0, .class_ 28), (0, u "com/example/net_reducer/netreducer/analysis/MarkingTokensOnPinLaw"), (2, u "law"), (0, u "(IIJJJI)Z")] 3

def k1m0 : Method := { name := "<init>", desc := "()V", sig := { parameters := [], returnType := none }, accessFlags := 1, code := none }
def k1c1 : Code := { maxStack := 4, maxLocals := 20, code := code, exceptionTable := #[], attributes := #[] }
def k1m1 : Method := { name := "law", desc := "(IIJJJI)Z", sig := { parameters := [.int, .int, .long, .long, .long, .int], returnType := some .boolean }, accessFlags := 9, code := some k1c1 }
/-- com/example/net_reducer/netreducer/analysis/MarkingTokensOnPinLaw -/
def k1 : Class := { plain "com/example/net_reducer/netreducer/analysis/MarkingTokensOnPinLaw" (some 0) with
  accessFlags := 49
  interfaces := #[]
  cf := some (fileOf pool1 27 #[] #[{ accessFlags := 1, nameIndex := 5, descriptorIndex := 6, attributes := #[] }, { accessFlags := 9, nameIndex := 31, descriptorIndex := 32, attributes := #[] }] 49 2 #[] #[])
  fields := #[]
  methods := #[k1m0, k1m1]
  instanceTypes := #[]
  staticTypes := #[]
  resolved := Array.replicate 36 none
  statics := none }

def pool2 : Array CpInfo := pool [(1, .class_ 2), (0, u "java/lang/Math"), (1, .class_ 6), (1, u "java/lang/Object"), (0, u "<init>"), (0, u "()V"), (89, .class_ 100), (1, u "java/lang/Math$RandomNumberGeneratorHolder"), (71, u "negativeZeroFloatBits"), (0, u "J"), (2, u "negativeZeroDoubleBits"), (24, u "min"), (43, u "$assertionsDisabled"), (0, u "Z"), (88, u "(II)I"), (2, u "twoToTheDoubleScaleDown"), (0, u "D"), (4, u "twoToTheDoubleScaleUp"), (9, u "E"), (3, u "PI"), (2, u "TAU"), (2, u "DEGREES_TO_RADIANS"), (0, u "RADIANS_TO_DEGREES")] 94

def k2m0 : Method := { name := "<init>", desc := "()V", sig := { parameters := [], returnType := none }, accessFlags := 2, code := none }
def k2c1 : Code := { maxStack := 2, maxLocals := 2, code := jdk_29_method_69_code, exceptionTable := #[], attributes := #[] }
def k2m1 : Method := { name := "min", desc := "(II)I", sig := { parameters := [.int, .int], returnType := some .int }, accessFlags := 9, code := some k2c1 }
/-- java/lang/Math -/
def k2 : Class := { plain "java/lang/Math" (some 0) with
  accessFlags := 49
  interfaces := #[]
  cf := some (fileOf pool2 1 #[.nestMembers #[98]] #[{ accessFlags := 2, nameIndex := 7, descriptorIndex := 8, attributes := #[] }, { accessFlags := 9, nameIndex := 201, descriptorIndex := 335, attributes := #[] }] 49 4 #[] #[{ accessFlags := 25, nameIndex := 354, descriptorIndex := 339, attributes := #[] }, { accessFlags := 25, nameIndex := 358, descriptorIndex := 339, attributes := #[] }, { accessFlags := 25, nameIndex := 361, descriptorIndex := 339, attributes := #[] }, { accessFlags := 26, nameIndex := 364, descriptorIndex := 339, attributes := #[] }, { accessFlags := 26, nameIndex := 365, descriptorIndex := 339, attributes := #[] }, { accessFlags := 26, nameIndex := 172, descriptorIndex := 173, attributes := #[] }, { accessFlags := 26, nameIndex := 176, descriptorIndex := 173, attributes := #[] }, { accessFlags := 8, nameIndex := 344, descriptorIndex := 339, attributes := #[] }, { accessFlags := 8, nameIndex := 338, descriptorIndex := 339, attributes := #[] }, { accessFlags := 4120, nameIndex := 245, descriptorIndex := 246, attributes := #[] }])
  fields := #[{ name := "E", type := .double, accessFlags := 25, slot := 0, constantValue := 0 }, { name := "PI", type := .double, accessFlags := 25, slot := 1, constantValue := 0 }, { name := "TAU", type := .double, accessFlags := 25, slot := 2, constantValue := 0 }, { name := "DEGREES_TO_RADIANS", type := .double, accessFlags := 26, slot := 3, constantValue := 0 }, { name := "RADIANS_TO_DEGREES", type := .double, accessFlags := 26, slot := 4, constantValue := 0 }, { name := "negativeZeroFloatBits", type := .long, accessFlags := 26, slot := 5, constantValue := 0 }, { name := "negativeZeroDoubleBits", type := .long, accessFlags := 26, slot := 6, constantValue := 0 }, { name := "twoToTheDoubleScaleUp", type := .double, accessFlags := 8, slot := 7, constantValue := 0 }, { name := "twoToTheDoubleScaleDown", type := .double, accessFlags := 8, slot := 8, constantValue := 0 }, { name := "$assertionsDisabled", type := .boolean, accessFlags := 4120, slot := 9, constantValue := 0 }]
  methods := #[k2m0, k2m1]
  instanceTypes := #[]
  staticTypes := #[.double, .double, .double, .double, .double, .long, .long, .double, .double, .boolean]
  resolved := Array.replicate 460 none
  statics := none }

def pool3 : Array CpInfo := pool [(1, .methodref 2 3), (0, .class_ 4), (0, .nameAndType 5 6), (0, u "java/lang/Object"), (0, u "<init>"), (0, u "()V"), (0, .fieldref 8 9), (0, .class_ 10), (0, .nameAndType 11 12), (0, u "com/example/net_reducer/netreducer/analysis/Marking"), (0, u "places"), (0, u "[I"), (0, .fieldref 8 14), (0, .nameAndType 15 16), (0, u "tokens"), (0, u "[J"), (0, .fieldref 8 18), (0, .nameAndType 19 20), (0, u "size"), (0, u "I"), (0, .methodref 22 23), (0, .class_ 24), (0, .nameAndType 25 26), (0, u "java/util/Arrays"), (0, u "binarySearch"), (0, u "([IIII)I"), (22, u "add"), (0, u "(IJ)V"), (5, u "(I)J"), (0, u "tokensOn")] 7

def k3c0 : Code := { maxStack := 2, maxLocals := 1, code := prog_10_method_1_code, exceptionTable := #[], attributes := #[] }
def k3m0 : Method := { name := "<init>", desc := "()V", sig := { parameters := [], returnType := none }, accessFlags := 0, code := some k3c0 }
def k3c1 : Code := { maxStack := 4, maxLocals := 3, code := prog_10_method_5_code, exceptionTable := #[], attributes := #[] }
def k3m1 : Method := { name := "tokensOn", desc := "(I)J", sig := { parameters := [.int], returnType := some .long }, accessFlags := 0, code := some k3c1 }
def k3c2 : Code := { maxStack := 4, maxLocals := 4, code := prog_10_method_7_code, exceptionTable := #[], attributes := #[] }
def k3m2 : Method := { name := "add", desc := "(IJ)V", sig := { parameters := [.int, .long], returnType := none }, accessFlags := 0, code := some k3c2 }
/-- com/example/net_reducer/netreducer/analysis/Marking -/
def k3 : Class := { plain "com/example/net_reducer/netreducer/analysis/Marking" (some 0) with
  accessFlags := 48
  interfaces := #[]
  cf := some (fileOf pool3 8 #[] #[{ accessFlags := 0, nameIndex := 5, descriptorIndex := 6, attributes := #[] }, { accessFlags := 0, nameIndex := 57, descriptorIndex := 56, attributes := #[] }, { accessFlags := 0, nameIndex := 49, descriptorIndex := 50, attributes := #[] }] 48 2 #[] #[{ accessFlags := 2, nameIndex := 11, descriptorIndex := 12, attributes := #[] }, { accessFlags := 2, nameIndex := 15, descriptorIndex := 16, attributes := #[] }, { accessFlags := 2, nameIndex := 19, descriptorIndex := 20, attributes := #[] }])
  fields := #[{ name := "places", type := (.array .int), accessFlags := 2, slot := 0, constantValue := 0 }, { name := "tokens", type := (.array .long), accessFlags := 2, slot := 1, constantValue := 0 }, { name := "size", type := .int, accessFlags := 2, slot := 2, constantValue := 0 }]
  methods := #[k3m0, k3m1, k3m2]
  instanceTypes := #[(.array .int), (.array .long), .int]
  staticTypes := #[]
  resolved := Array.replicate 65 none
  statics := none }

def pool4 : Array CpInfo := pool [(2, .class_ 4), (1, u "java/lang/Object"), (0, u "<init>"), (0, u "()V"), (6, .methodref 14 15), (0, .class_ 16), (0, .nameAndType 17 18), (0, u "java/util/Arrays"), (0, u "rangeCheck"), (0, u "(III)V"), (55, .class_ 76), (1, u "java/util/Arrays$NaturalOrder"), (36, .class_ 115), (1, u "java/util/Arrays$LegacyMergeSort"), (1, u "Z"), (89, u "binarySearch0"), (1, .methodref 14 210), (0, .nameAndType 207 211), (0, u "([IIII)I"), (163, .class_ 376), (0, u "java/util/Arrays$ArrayList"), (68, u "$assertionsDisabled"), (269, u "MIN_ARRAY_SORT_GRAN"), (0, u "I"), (2, u "INSERTIONSORT_THRESHOLD"), (74, u "binarySearch"), (180, .class_ 976), (0, u "java/util/Arrays$ArrayItr")] 52

def k4m0 : Method := { name := "<init>", desc := "()V", sig := { parameters := [], returnType := none }, accessFlags := 2, code := none }
def k4c1 : Code := { maxStack := 4, maxLocals := 3, code := jdk_65_method_30_code, exceptionTable := #[], attributes := #[] }
def k4m1 : Method := { name := "rangeCheck", desc := "(III)V", sig := { parameters := [.int, .int, .int], returnType := none }, accessFlags := 8, code := some k4c1 }
def k4c2 : Code := { maxStack := 4, maxLocals := 4, code := jdk_65_method_58_code, exceptionTable := #[], attributes := #[] }
def k4m2 : Method := { name := "binarySearch", desc := "([IIII)I", sig := { parameters := [(.array .int), .int, .int, .int], returnType := some .int }, accessFlags := 9, code := some k4c2 }
def k4c3 : Code := { maxStack := 2, maxLocals := 8, code := jdk_65_method_59_code, exceptionTable := #[], attributes := #[] }
def k4m3 : Method := { name := "binarySearch0", desc := "([IIII)I", sig := { parameters := [(.array .int), .int, .int, .int], returnType := some .int }, accessFlags := 10, code := some k4c3 }
/-- java/util/Arrays -/
def k4 : Class := { plain "java/util/Arrays" (some 0) with
  accessFlags := 49
  interfaces := #[]
  cf := some (fileOf pool4 14 #[.nestMembers #[975, 375, 113, 74]] #[{ accessFlags := 2, nameIndex := 5, descriptorIndex := 6, attributes := #[] }, { accessFlags := 8, nameIndex := 17, descriptorIndex := 18, attributes := #[] }, { accessFlags := 9, nameIndex := 794, descriptorIndex := 211, attributes := #[] }, { accessFlags := 10, nameIndex := 207, descriptorIndex := 211, attributes := #[] }] 49 2 #[] #[{ accessFlags := 26, nameIndex := 715, descriptorIndex := 716, attributes := #[] }, { accessFlags := 26, nameIndex := 719, descriptorIndex := 716, attributes := #[] }, { accessFlags := 4120, nameIndex := 445, descriptorIndex := 117, attributes := #[] }])
  fields := #[{ name := "MIN_ARRAY_SORT_GRAN", type := .int, accessFlags := 26, slot := 0, constantValue := 0 }, { name := "INSERTIONSORT_THRESHOLD", type := .int, accessFlags := 26, slot := 1, constantValue := 0 }, { name := "$assertionsDisabled", type := .boolean, accessFlags := 4120, slot := 2, constantValue := 0 }]
  methods := #[k4m0, k4m1, k4m2, k4m3]
  instanceTypes := #[]
  staticTypes := #[.int, .int, .boolean]
  resolved := Array.replicate 1029 none
  statics := none }

def pool5 : Array CpInfo := pool [(1, u "java/lang/Cloneable"), (0, .class_ 1), (0, u "java/lang/Object"), (0, .class_ 3)] 3

/-- java/lang/Cloneable -/
def k5 : Class := { plain "java/lang/Cloneable" (some 0) with
  accessFlags := 1537
  interfaces := #[]
  cf := some (fileOf pool5 2 #[] #[] 1537 4 #[] #[])
  fields := #[]
  methods := #[]
  instanceTypes := #[]
  staticTypes := #[]
  resolved := Array.replicate 8 none
  statics := none }

def pool6 : Array CpInfo := pool [(1, u "java/io/Serializable"), (0, .class_ 1), (0, u "java/lang/Object"), (0, .class_ 3)] 3

/-- java/io/Serializable -/
def k6 : Class := { plain "java/io/Serializable" (some 0) with
  accessFlags := 1537
  interfaces := #[]
  cf := some (fileOf pool6 2 #[] #[] 1537 4 #[] #[])
  fields := #[]
  methods := #[]
  instanceTypes := #[]
  staticTypes := #[]
  resolved := Array.replicate 8 none
  statics := none }

/-- the primitive byte -/
def k7 : Class := { plain "byte" none with kind := .primitive 'B', accessFlags := 0x411 }
/-- [B -/
def k8 : Class := { plain "[B" (some 0) with kind := .array 7 .byte, interfaces := #[5, 6], accessFlags := 1041 }

/-- the primitive int -/
def k9 : Class := { plain "int" none with kind := .primitive 'I', accessFlags := 0x411 }
/-- [I -/
def k10 : Class := { plain "[I" (some 0) with kind := .array 9 .int, interfaces := #[5, 6], accessFlags := 1041 }

/-- the primitive long -/
def k11 : Class := { plain "long" none with kind := .primitive 'J', accessFlags := 0x411 }
/-- [J -/
def k12 : Class := { plain "[J" (some 0) with kind := .array 11 .long, interfaces := #[5, 6], accessFlags := 1041 }

def heap : Heap := #[]
def classes : Array Class := #[k0, k1, k2, k3, k4, k5, k6, k7, k8, k9, k10, k11, k12]
def interned : List (Array UInt16 × Addr) := []
def slotsUsed : Nat := 0
def theMethod : MethodId := ⟨1, 1⟩
def args0 : Array Value := #[.int 5, .int 6, .long 7, .long 8, .long 9, .int 3]
def aboutOver (below : List Frame) : State where
  vm := { classes := classes, interned := interned.toArray }
  heap := heap
  slotsUsed := slotsUsed
  threads := #[{ frames := .invoking theMethod args0 :: below }]
def below0 : List Frame := [.native { method := ⟨0, 0⟩, args := #[] }]
def about1 : State := aboutOver below0
def p0 : Program := .bare "" "" ""
def e0 : Env := launch0.env 0 0 0
theorem w_frames : about1.frames = Frame.invoking theMethod args0 :: below0 := rfl
set_option maxRecDepth 65536 in
theorem w_args : argsFit about1.vm theMethod args0 = true := by decide +kernel
set_option maxRecDepth 65536 in
theorem w_heap : heapFits about1 = true := by decide +kernel
set_option maxRecDepth 65536 in
theorem w_runnable : about1.curStatus? = some .runnable := by decide +kernel
set_option maxRecDepth 65536 in
theorem w_alone : about1.alone = true := by decide +kernel
set_option maxRecDepth 65536 in
theorem w_named : about1.methodNamed? x = some theMethod := by decide +kernel
set_option maxRecDepth 65536 in
theorem w_hears : about1.hears theMethod below0 = true := by decide +kernel
set_option maxRecDepth 65536 in
theorem w_ripe : about1.ripe theMethod args0 below0 = true := by decide +kernel
theorem w_running : about1.status = .running := rfl
set_option maxRecDepth 65536 in
theorem w_room : about1.hasRoom e0.platform room_1 = true :=
  launch0.hasRoom_least _ room_1 (by decide +kernel) (by decide +kernel) (by decide +kernel) (by decide +kernel) (by decide +kernel) (by decide +kernel)
theorem allAtoms_all (ts : List Jvm.Cond) (a : Array Jvm.Value) (st : Jvm.State) : (allAtoms ts).before a st = ts.all (fun c => c.before a st) := by
  induction ts with
  | nil => rfl
  | cons c t ih =>
    show (Jvm.Cond.and c (allAtoms t)).before a st = _
    rw [Jvm.Cond.before_and, ih, List.all_cons]
def words1 : List Jvm.Cond := Jvm.Cond.code x code maxLocals ret :: tables_1
/-- a 'code' word, met by the world's own term for the bytes: nothing is compared byte by byte -/
theorem code_word {y : MethodName} {bytes : ByteArray} {mx : Nat} {rt : Option FieldType} {a : Array Value} {s : State} {m : MethodId} {meth : Method} {c : Code} (h1 : s.methodNamed? y = some m) (h2 : s.vm.method? m = some meth) (h3 : meth.code = some c) (h4 : c.code = bytes)
    (h5 : (c.maxLocals == mx && c.exceptionTable.isEmpty && decide (c.maxStack ≤ mostOperands) && decide (meth.sig.returnType = rt) && !meth.locks && decide (parseMethodDescriptor y.desc = some meth.sig)) = true) : (Jvm.Cond.code y bytes mx rt).before a s = true := by
  simp only [Bool.and_eq_true, beq_iff_eq, Bool.not_eq_true', decide_eq_true_eq] at h5
  obtain ⟨⟨⟨⟨⟨g1, g2⟩, g3⟩, g4⟩, g5⟩, g6⟩ := h5
  simp [Cond.before, Cond.holds, Cond.value, h1, h2, h3, h4, g1, g2, g3, g4, g5, g6]
def isCode : Jvm.Cond → Bool
  | .code _ _ _ _ => true
  | _ => false
theorem all_split {L : List Jvm.Cond} {P : Jvm.Cond → Bool} (h1 : L.all (fun c => isCode c || P c) = true) (h2 : ∀ c ∈ L.filter isCode, P c = true) : L.all P = true := by
  refine List.all_eq_true.mpr fun c hc => ?_
  have h := List.all_eq_true.mp h1 c hc
  rcases Bool.eq_false_or_eq_true (isCode c) with hi | hi
  · exact h2 c (List.mem_filter.mpr ⟨hc, hi⟩)
  · simpa [hi] using h
set_option maxRecDepth 65536 in
theorem w_c0 : (Jvm.Cond.code x code maxLocals ret).before args0 about1 = true := code_word (m := ⟨1, 1⟩) (meth := k1m1) (c := k1c1) (by decide +kernel) rfl rfl rfl (by decide +kernel)
set_option maxRecDepth 65536 in
theorem w_c1 : (Jvm.Cond.code ({ cls := "java/lang/Math", name := "min", desc := "(II)I" } : Jvm.MethodName) jdk_29_method_69_code (2 : Nat) (Option.some Jvm.ClassFile.FieldType.int)).before args0 about1 = true := code_word (m := ⟨2, 1⟩) (meth := k2m1) (c := k2c1) (by decide +kernel) rfl rfl rfl (by decide +kernel)
set_option maxRecDepth 65536 in
theorem w_c2 : (Jvm.Cond.code ({ cls := "com/example/net_reducer/netreducer/analysis/Marking", name := "<init>", desc := "()V" } : Jvm.MethodName) prog_10_method_1_code (1 : Nat) (Option.none : Option Jvm.ClassFile.FieldType)).before args0 about1 = true := code_word (m := ⟨3, 0⟩) (meth := k3m0) (c := k3c0) (by decide +kernel) rfl rfl rfl (by decide +kernel)
set_option maxRecDepth 65536 in
theorem w_c3 : (Jvm.Cond.code ({ cls := "java/lang/Object", name := "<init>", desc := "()V" } : Jvm.MethodName) object_method_1_code (1 : Nat) (Option.none : Option Jvm.ClassFile.FieldType)).before args0 about1 = true := code_word (m := ⟨0, 0⟩) (meth := k0m0) (c := k0c0) (by decide +kernel) rfl rfl rfl (by decide +kernel)
set_option maxRecDepth 65536 in
theorem w_c4 : (Jvm.Cond.code ({ cls := "com/example/net_reducer/netreducer/analysis/Marking", name := "add", desc := "(IJ)V" } : Jvm.MethodName) prog_10_method_7_code (4 : Nat) (Option.none : Option Jvm.ClassFile.FieldType)).before args0 about1 = true := code_word (m := ⟨3, 2⟩) (meth := k3m2) (c := k3c2) (by decide +kernel) rfl rfl rfl (by decide +kernel)
set_option maxRecDepth 65536 in
theorem w_c5 : (Jvm.Cond.code ({ cls := "com/example/net_reducer/netreducer/analysis/Marking", name := "tokensOn", desc := "(I)J" } : Jvm.MethodName) prog_10_method_5_code (3 : Nat) (Option.some Jvm.ClassFile.FieldType.long)).before args0 about1 = true := code_word (m := ⟨3, 1⟩) (meth := k3m1) (c := k3c1) (by decide +kernel) rfl rfl rfl (by decide +kernel)
set_option maxRecDepth 65536 in
theorem w_c6 : (Jvm.Cond.code ({ cls := "java/util/Arrays", name := "binarySearch", desc := "([IIII)I" } : Jvm.MethodName) jdk_65_method_58_code (4 : Nat) (Option.some Jvm.ClassFile.FieldType.int)).before args0 about1 = true := code_word (m := ⟨4, 2⟩) (meth := k4m2) (c := k4c2) (by decide +kernel) rfl rfl rfl (by decide +kernel)
set_option maxRecDepth 65536 in
theorem w_c7 : (Jvm.Cond.code ({ cls := "java/util/Arrays", name := "rangeCheck", desc := "(III)V" } : Jvm.MethodName) jdk_65_method_30_code (3 : Nat) (Option.none : Option Jvm.ClassFile.FieldType)).before args0 about1 = true := code_word (m := ⟨4, 1⟩) (meth := k4m1) (c := k4c1) (by decide +kernel) rfl rfl rfl (by decide +kernel)
set_option maxRecDepth 65536 in
theorem w_c8 : (Jvm.Cond.code ({ cls := "java/util/Arrays", name := "binarySearch0", desc := "([IIII)I" } : Jvm.MethodName) jdk_65_method_59_code (8 : Nat) (Option.some Jvm.ClassFile.FieldType.int)).before args0 about1 = true := code_word (m := ⟨4, 3⟩) (meth := k4m3) (c := k4c3) (by decide +kernel) rfl rfl rfl (by decide +kernel)
def codes1 : List Jvm.Cond := [Jvm.Cond.code x code maxLocals ret, Jvm.Cond.code ({ cls := "java/lang/Math", name := "min", desc := "(II)I" } : Jvm.MethodName) jdk_29_method_69_code (2 : Nat) (Option.some Jvm.ClassFile.FieldType.int), Jvm.Cond.code ({ cls := "com/example/net_reducer/netreducer/analysis/Marking", name := "<init>", desc := "()V" } : Jvm.MethodName) prog_10_method_1_code (1 : Nat) (Option.none : Option Jvm.ClassFile.FieldType), Jvm.Cond.code ({ cls := "java/lang/Object", name := "<init>", desc := "()V" } : Jvm.MethodName) object_method_1_code (1 : Nat) (Option.none : Option Jvm.ClassFile.FieldType), Jvm.Cond.code ({ cls := "com/example/net_reducer/netreducer/analysis/Marking", name := "add", desc := "(IJ)V" } : Jvm.MethodName) prog_10_method_7_code (4 : Nat) (Option.none : Option Jvm.ClassFile.FieldType), Jvm.Cond.code ({ cls := "com/example/net_reducer/netreducer/analysis/Marking", name := "tokensOn", desc := "(I)J" } : Jvm.MethodName) prog_10_method_5_code (3 : Nat) (Option.some Jvm.ClassFile.FieldType.long), Jvm.Cond.code ({ cls := "java/util/Arrays", name := "binarySearch", desc := "([IIII)I" } : Jvm.MethodName) jdk_65_method_58_code (4 : Nat) (Option.some Jvm.ClassFile.FieldType.int), Jvm.Cond.code ({ cls := "java/util/Arrays", name := "rangeCheck", desc := "(III)V" } : Jvm.MethodName) jdk_65_method_30_code (3 : Nat) (Option.none : Option Jvm.ClassFile.FieldType), Jvm.Cond.code ({ cls := "java/util/Arrays", name := "binarySearch0", desc := "([IIII)I" } : Jvm.MethodName) jdk_65_method_59_code (8 : Nat) (Option.some Jvm.ClassFile.FieldType.int)]
set_option maxRecDepth 65536 in
theorem codes_eq : words1.filter isCode = codes1 := rfl
theorem w_codes : ∀ c ∈ words1.filter isCode, c.before args0 about1 = true := by
  rw [codes_eq]
  intro c hc
  simp only [codes1, List.mem_cons, List.not_mem_nil, or_false] at hc
  rcases hc with rfl | rfl | rfl | rfl | rfl | rfl | rfl | rfl | rfl
  · exact w_c0
  · exact w_c1
  · exact w_c2
  · exact w_c3
  · exact w_c4
  · exact w_c5
  · exact w_c6
  · exact w_c7
  · exact w_c8
set_option maxRecDepth 65536 in
theorem w_t1 : (words1.take 24).all (fun c => isCode c || c.before args0 about1) = true := by decide +kernel
set_option maxRecDepth 65536 in
theorem w_t2 : (words1.drop 24).all (fun c => isCode c || c.before args0 about1) = true := by decide +kernel
theorem w_tables : (allAtoms (Jvm.Cond.code x code maxLocals ret :: tables_1)).before args0 about1 = true := by
  rw [allAtoms_all]
  show words1.all (fun c => c.before args0 about1) = true
  refine all_split ?_ w_codes
  rw [← List.take_append_drop 24 words1, List.all_append, w_t1, w_t2]
  rfl
set_option maxRecDepth 65536 in
theorem w_case : (Jvm.Cond.and given_1 narrow_1).before args0 about1 = true := by decide +kernel
theorem w_applies : (headSpec (Jvm.Cond.code x code maxLocals ret :: tables_1) room_1).applies x e0.platform about1 = true :=
  (Spec.applies_iff w_frames).mpr ⟨w_running, w_runnable, w_alone, w_named, w_hears, w_ripe, w_room, w_tables⟩
theorem atStart : AtStart classFile x code maxLocals ret World_1 tables_1 room_1 Calls_1 rest_1 Pre_1 launch0 p0 e0 about1 theMethod args0 below0 :=
  ⟨lists_1, trivial, launch0.admits_env _ _ _, launch0.least_env, fairChoices_fair.cas, fairChoices_fair.clock, w_frames, w_args, w_heap, w_applies, trivial, trivial, w_case⟩
end start1
theorem witness_1 : WitnessClaimed_1 := ⟨start1.p0, start1.e0, start1.about1, start1.theMethod, start1.args0, start1.below0, start1.atStart⟩
end Jvm.Pilot.@@N@@
