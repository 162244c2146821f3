import JvmDerived
import JvmDerived.Pilot.@@N@@Statement
import JvmDerived.Pilot.@@N@@Code
set_option linter.unusedVariables false
set_option linter.unusedSimpArgs false
namespace Jvm.Pilot.@@N@@
open Jvm Jvm.ClassFile Sem Op Lib Jvm.Free Jvm.Stand Jvm.LawKit Jvm.RoadKit Bundle Jvm.Pilot.@@N@@.Jvm.D
section OwnRun
variable {p : Program} {l : Launch} {e : Env} {R : Room} {s : State} {m : MethodId} {args : Array Value} {below : List Frame} {meth : Method} {c : Code} {T T' : State} {locs : List Loc} {cells slots : Nat}
/-- from here the run ends, as G says -/
def own_Run (p : Program) (e : Env) (below : List Frame) (G : Outcome → State → Prop) (T : State) (g : JFrame) : Prop :=
  ∃ s₂ o, Steps p.tables e below (T.setTop g) s₂ ∧ s₂.status = .running ∧ Ended s₂ below o ∧ G o s₂
theorem own_go {G : Outcome → State → Prop} {g g' : JFrame} (h : ∀ t, Steps p.tables e below (T'.setTop g') t → Steps p.tables e below (T.setTop g) t) (k : own_Run p e below G T' g') : own_Run p e below G T g := by
  obtain ⟨s₂, o, h1, h2, h3, h4⟩ := k
  exact ⟨s₂, o, h _ h1, h2, h3, h4⟩
theorem own_goT {G : Outcome → State → Prop} {g g' : JFrame} (h : Steps p.tables e below (T.setTop g) (T'.setTop g')) (k : own_Run p e below G T' g') : own_Run p e below G T g :=
  own_go (fun _ q => h.trans q) k
theorem own_start {G : Outcome → State → Prop} {f f' : JFrame} (h : f = f') (k : own_Run p e below G T f') : ∃ s₂ o, Steps p.tables e below (T.setTop f) s₂ ∧ s₂.status = .running ∧ Ended s₂ below o ∧ G o s₂ := by
  subst h
  exact k
theorem own_done {Q : Option Value → Heap → List Loc → Prop} {C N : Nat} {g : JFrame} (X : Stand p l e R s m args below meth c T locs cells slots) {v : Option Value} (hv : meth.sig.returnType = none → v = none) (hlocks : meth.locks = false)
    (hstep : ∀ fs, (∀ (f : JFrame) (acts : List Action), f.method = m → f.locked = none → f.entered = [] → (doReturn e (T.setTop f) acts v).1 = T.setFrames fs) → Steps p.tables e below (T.setTop g) (T.setFrames fs))
    (hQ : Q v T.heap locs) (hc : cells ≤ C) (hs : slots ≤ N) :
    own_Run p e below (fun o U' => ∃ v L, o = .returned v ∧ Q v U'.heap L ∧ FrameEnd s o U' L C N) T g := by
  obtain ⟨fs, hr, hrun, hended, hW, hsame⟩ := X.leave hv hlocks
  exact ⟨_, _, hstep fs hr, hrun, hended, _, _, rfl, hQ, ⟨_, rfl⟩, hW, hsame.mono hc hs⟩
theorem own_mono {cells' slots' : Nat} (X : Stand p l e R s m args below meth c T locs cells slots) (hc : cells ≤ cells') (hs : slots ≤ slots') : Stand p l e R s m args below meth c T locs cells' slots' :=
  ⟨X.admits, X.cas, X.clock, X.frames, X.room, X.hears, X.method, X.code, X.here, X.tail, X.warmed, X.limits, X.bytes, X.same.mono hc hs⟩
theorem own_retI (X : Stand p l e R s m args below meth c T locs cells slots) (hx : p.tables.exec = Jvm.exec) {pc : Nat} {Ls : Array Slot} {z : Int32} {rest : List Value} (hret : meth.sig.returnType = some .int) (hd : decode c.code pc = .ok (.ireturn, 1)) {fs : List Frame}
    (hl : ∀ (f : JFrame) (acts : List Action), f.method = m → f.locked = none → f.entered = [] → (doReturn e (T.setTop f) acts (some (.int z))).1 = T.setFrames fs) : Steps p.tables e below (T.setTop (mkF m pc Ls (.int z :: rest))) (T.setFrames fs) :=
  retOut X hx hret rfl (Or.inl ⟨rfl, Or.inl rfl, z, rfl⟩) hd hl
theorem own_retL (X : Stand p l e R s m args below meth c T locs cells slots) (hx : p.tables.exec = Jvm.exec) {pc : Nat} {Ls : Array Slot} {z : Int64} {rest : List Value} (hret : meth.sig.returnType = some .long) (hd : decode c.code pc = .ok (.lreturn, 1)) {fs : List Frame}
    (hl : ∀ (f : JFrame) (acts : List Action), f.method = m → f.locked = none → f.entered = [] → (doReturn e (T.setTop f) acts (some (.long z))).1 = T.setFrames fs) : Steps p.tables e below (T.setTop (mkF m pc Ls (.long z :: rest))) (T.setFrames fs) :=
  retOut X hx hret rfl (Or.inr (Or.inl ⟨rfl, rfl, z, rfl⟩)) hd hl
theorem own_retA {t : FieldType} (X : Stand p l e R s m args below meth c T locs cells slots) (hx : p.tables.exec = Jvm.exec) {pc : Nat} {Ls : Array Slot} {w : Value} {rest : List Value} (hret : meth.sig.returnType = some t) (ht : t.isReference = true) (hn : narrow t w = w) (hw : w.isRef = true) (hd : decode c.code pc = .ok (.areturn, 1)) {fs : List Frame}
    (hl : ∀ (f : JFrame) (acts : List Action), f.method = m → f.locked = none → f.entered = [] → (doReturn e (T.setTop f) acts (some w)).1 = T.setFrames fs) : Steps p.tables e below (T.setTop (mkF m pc Ls (w :: rest))) (T.setFrames fs) :=
  retOut X hx hret hn (Or.inr (Or.inr (Or.inr (Or.inr ⟨rfl, ht, hw⟩)))) hd hl
theorem own_ns {Z : State} {h : Heap} {a : Addr} {C : String} (E : Exa Z h a C) : ∃ c : Cell, h[a]? = some c ∧ c.vm.isStatics = false := by
  obtain ⟨c, k, h1, -, -, h4, -⟩ := E
  exact ⟨c, h1, h4⟩
theorem own_nsV {Z : State} {h : Heap} {a : Addr} {k : ClassId} {ty : FieldType} {n : Int32} {vs : List Value} {d : Value} (V : Arv Z h a k ty n vs d) : ∃ c : Cell, h[a]? = some c ∧ c.vm.isStatics = false := by
  obtain ⟨c, A, -⟩ := V
  exact ⟨c, A.1, A.plain⟩
theorem own_staKeep {Z : State} {h h' : Heap} {ws : List Addr} {C n d : String} {w : Value} (F : Sta Z h C n d w) (K : Keep h h' ws) (q : ∀ x ∈ ws, ∃ c : Cell, h[x]? = some c ∧ c.vm.isStatics = false) : Sta Z h' C n d w := by
  obtain ⟨cf, i, k, f, st, cell, h1, h2, h3, h4, h5, h6, h7⟩ := F
  refine ⟨cf, i, k, f, st, cell, h1, h2, h3, h4, K.2.1 st cell h5 (fun hm => ?_), h6, h7⟩
  obtain ⟨c, e1, e2⟩ := q st hm
  cases h5.symm.trans e1
  rw [h6] at e2; cases e2
theorem own_eqL {args : Array Value} {first s : State} {o : Option Outcome} {idx : List Nat} {t : Term} {n : Int64} (h : (Jvm.Cond.eq t (Term.long n)).value args first o s idx = some true) : t.eval args first o idx s = some (.long n) := by
  cases ht : t.eval args first o idx s with
  | none => simp [Cond.value, ht] at h
  | some x => cases x <;> simp [Cond.value, ht, Term.eval] at h ⊢ <;> exact h
theorem own_eqI {args : Array Value} {first s : State} {o : Option Outcome} {idx : List Nat} {t : Term} {n : Int32} (h : (Jvm.Cond.eq t (Term.int n)).value args first o s idx = some true) : t.eval args first o idx s = some (.int n) := by
  cases ht : t.eval args first o idx s with
  | none => simp [Cond.value, ht] at h
  | some x => cases x <;> simp [Cond.value, ht, Term.eval] at h ⊢ <;> exact h
theorem own_eqR {args : Array Value} {first s : State} {o : Option Outcome} {idx : List Nat} {t u : Term} {x : Addr} (h : (Jvm.Cond.eq t u).value args first o s idx = some true) (hu : u.eval args first o idx s = some (.ref x)) : t.eval args first o idx s = some (.ref x) := by
  cases ht : t.eval args first o idx s with
  | none => simp [Cond.value, ht] at h
  | some y => cases y <;> simp [Cond.value, ht, hu] at h ⊢ <;> exact h
theorem own_nf {s : State} {args : Array Value} {C : String} {y y' : MethodName} (hsel : (Jvm.Cond.selects C y y).before args s = true) (hc : y'.cls = y.cls) : NotFace s y' := fun r0 h0 => by
  obtain ⟨c2, r2, m2, q1, q2, q3, q4, kP, hkP, hkPi⟩ := Cond.selects_spec hsel
  have a := findClass_of_methodNamed q3
  have b := findClass_of_methodNamed h0
  rw [hc] at b
  have e := Option.some.inj (a.symm.trans b)
  exact ⟨kP, by rw [← e]; exact hkP, hkPi⟩
theorem own_selP {s : State} {args args' : Array Value} {C : String} {y y' : MethodName} (hsel : (Jvm.Cond.selects C y' y').before args s = true) (hc : y.cls = y'.cls) (hpriv : s.PrivateAt y) (hinst : (Jvm.Cond.instanceMethod y).before args' s = true) (hy : y.cls ≠ "java/lang/invoke/MethodHandle" ∧ y.cls ≠ "java/lang/invoke/VarHandle") : (Jvm.Cond.selects y.cls y y).before args' s = true := by
  obtain ⟨mk, methM, hnamed, -, -, -⟩ := Cond.instanceMethod_spec hinst
  obtain ⟨k, hk, hni⟩ := own_nf hsel hc mk hnamed
  exact selects_self_of_private (findClass_of_methodNamed hnamed) hk hni hpriv hinst hy
end OwnRun
theorem own_lcLt {x y : Int64} (h : x < y) : lcmpW x y = -1 := by
  have h1 : ¬ (x > y) := by simp only [GT.gt, Int64.lt_iff_toInt_lt] at h ⊢; omega
  have h2 : ¬ (x = y) := by rintro rfl; exact Int64.lt_irrefl h
  simp [lcmpW, h1, h2]
theorem own_lcGt {x y : Int64} (h : y < x) : lcmpW x y = 1 := by
  have h1 : x > y := h
  simp [lcmpW, h1]
theorem own_lcEq {x y : Int64} (h : x = y) : lcmpW x y = 0 := by
  subst h
  have h1 : ¬ (x > x) := Int64.lt_irrefl
  simp [lcmpW, h1]
theorem own_lcNlt {x y : Int64} (h : ¬ x < y) : lcmpW x y = 0 ∨ lcmpW x y = 1 := by
  by_cases q : x = y
  · exact Or.inl (own_lcEq q)
  · refine Or.inr (own_lcGt ?_)
    simp only [Int64.lt_iff_toInt_lt, ← Int64.toInt_inj] at h q ⊢; omega
theorem own_lcNgt {x y : Int64} (h : ¬ y < x) : lcmpW x y = 0 ∨ lcmpW x y = -1 := by
  by_cases q : x = y
  · exact Or.inl (own_lcEq q)
  · refine Or.inr (own_lcLt ?_)
    simp only [Int64.lt_iff_toInt_lt, ← Int64.toInt_inj] at h q ⊢; omega
theorem own_lcNe {x y : Int64} (h : ¬ x = y) : lcmpW x y = 1 ∨ lcmpW x y = -1 := by
  by_cases q : x < y
  · exact Or.inr (own_lcLt q)
  · refine Or.inl (own_lcGt ?_)
    simp only [Int64.lt_iff_toInt_lt, ← Int64.toInt_inj] at h q ⊢; omega
theorem own_lcT {x y : Int64} (h : x < y) : ifCond.holds .lt (lcmpW x y) = true ∧ ifCond.holds .ge (lcmpW x y) = false ∧ ifCond.holds .gt (lcmpW y x) = true ∧ ifCond.holds .le (lcmpW y x) = false := by
  rw [own_lcLt h, own_lcGt h]; decide
theorem own_lcF {x y : Int64} (h : ¬ x < y) : ifCond.holds .lt (lcmpW x y) = false ∧ ifCond.holds .ge (lcmpW x y) = true ∧ ifCond.holds .gt (lcmpW y x) = false ∧ ifCond.holds .le (lcmpW y x) = true := by
  rcases own_lcNlt h with q | q <;> rcases own_lcNgt (x := y) (y := x) h with r | r <;> rw [q, r] <;> decide
theorem own_lcTe {x y : Int64} (h : x = y) : ifCond.holds .eq (lcmpW x y) = true ∧ ifCond.holds .ne (lcmpW x y) = false := by
  rw [own_lcEq h]; decide
theorem own_lcFe {x y : Int64} (h : ¬ x = y) : ifCond.holds .eq (lcmpW x y) = false ∧ ifCond.holds .ne (lcmpW x y) = true := by
  rcases own_lcNe h with q | q <;> rw [q] <;> decide
theorem own_maskI (x : Int32) (M : Nat) (hM : M < 2 ^ 31) : (x &&& Int32.ofNat M).toInt = ((x.toBitVec.toNat &&& M : Nat) : Int) := by
  have h1 : (x &&& Int32.ofNat M).toBitVec.toNat = x.toBitVec.toNat &&& M := by
    rw [Int32.toBitVec_and, BitVec.toNat_and]
    congr 1
    show (BitVec.ofNat 32 M).toNat = M
    rw [BitVec.toNat_ofNat]; omega
  have h2 : x.toBitVec.toNat &&& M ≤ M := Nat.and_le_right
  rw [Int32.toInt, BitVec.toInt_eq_toNat_of_lt (by rw [h1]; omega), h1]
theorem own_mask0 (x : Int32) (M : Nat) (hM : M < 2 ^ 31) : 0 ≤ (x &&& Int32.ofNat M).toInt ∧ (x &&& Int32.ofNat M).toInt ≤ M := by
  rw [own_maskI x M hM]
  have h2 : x.toBitVec.toNat &&& M ≤ M := Nat.and_le_right
  omega
theorem own_rem (x : Int32) (k : Int32) (hx : 0 ≤ x.toInt) (hk : 0 < k.toInt) : 0 ≤ (x % k).toInt ∧ (x % k).toInt < k.toInt := by
  rw [Int32.toInt_mod]
  exact ⟨Int.tmod_nonneg _ hx, Int.tmod_lt_of_pos _ hk⟩
theorem own_bm (z : Int) (h1 : -2147483648 ≤ z) (h2 : z < 2147483648) : z.bmod (2 ^ 32) = z := by
  rw [Int.bmod_def]; split <;> omega
theorem own_addI (a b : Int32) (h1 : -2147483648 ≤ a.toInt + b.toInt) (h2 : a.toInt + b.toInt < 2147483648) : (a + b).toInt = a.toInt + b.toInt := by
  rw [Int32.toInt_add, own_bm _ h1 h2]
theorem own_subI (a b : Int32) (h1 : -2147483648 ≤ a.toInt - b.toInt) (h2 : a.toInt - b.toInt < 2147483648) : (a - b).toInt = a.toInt - b.toInt := by
  rw [Int32.toInt_sub, own_bm _ h1 h2]
theorem own_nz (a : Int32) (h : 0 < a.toInt) : a ≠ 0 := by
  rintro rfl; exact absurd h (by decide)
theorem own_ushr (x k : Int32) (n : Nat) (h : ((k &&& 31).toUInt32.toBitVec % 32).toNat = n) (hn : 0 < n) : ((x.toUInt32 >>> (k &&& 31).toUInt32).toInt32).toInt = ((x.toBitVec.toNat >>> n : Nat) : Int) ∧ x.toBitVec.toNat >>> n < 2 ^ (32 - n) := by
  have e : ((x.toUInt32 >>> (k &&& 31).toUInt32).toInt32).toBitVec = x.toBitVec >>> n := by
    show x.toBitVec >>> ((k &&& 31).toUInt32.toBitVec % 32) = _
    rw [BitVec.ushiftRight_eq', h]
  have hx : x.toBitVec.toNat < 2 ^ 32 := x.toBitVec.isLt
  have e2 : x.toBitVec.toNat >>> n < 2 ^ (32 - n) := by
    rw [Nat.shiftRight_eq_div_pow]
    rcases Nat.lt_or_ge n 32 with q | q
    · rw [Nat.div_lt_iff_lt_mul (Nat.two_pow_pos n), ← Nat.pow_add, Nat.sub_add_cancel (by omega)]; exact hx
    · rw [Nat.div_eq_of_lt (Nat.lt_of_lt_of_le hx (Nat.pow_le_pow_right (by decide) q))]; exact Nat.two_pow_pos _
  refine ⟨?_, e2⟩
  have e3 : 2 ^ (32 - n) ≤ 2 ^ 31 := Nat.pow_le_pow_right (by decide) (by omega)
  rw [Int32.toInt, e, BitVec.toInt_eq_toNat_of_lt (by rw [BitVec.toNat_ushiftRight]; omega), BitVec.toNat_ushiftRight]
theorem own_lit (a : Int32) (n : Int) (b : Int32) (h : a.toInt = n) (hb : b.toInt = n) : a = b := Int32.toInt_inj.mp (h.trans hb.symm)
theorem own_four (a : Int32) (h0 : 0 ≤ a.toInt) (h1 : a.toInt < 4) : a = 0 ∨ a = 1 ∨ a = 2 ∨ a = 3 := by
  have q : a.toInt = 0 ∨ a.toInt = 1 ∨ a.toInt = 2 ∨ a.toInt = 3 := by omega
  rcases q with q | q | q | q
  · exact Or.inl (own_lit _ _ _ q rfl)
  · exact Or.inr (Or.inl (own_lit _ _ _ q rfl))
  · exact Or.inr (Or.inr (Or.inl (own_lit _ _ _ q rfl)))
  · exact Or.inr (Or.inr (Or.inr (own_lit _ _ _ q rfl)))
theorem own_byte (a : Int32) (h0 : 0 ≤ a.toInt) (h1 : a.toInt < 128) : a.toInt8.toInt32 = a := by
  apply Int32.toInt_inj.mp
  rw [Int8.toInt_toInt32, Int32.toInt_toInt8, Int.bmod_def]; split <;> omega
theorem own_rows (p x : Int32) (h : x = (1 : Int32) + (p &&& (2147483647 : Int32)) % (3 : Int32)) : x = (1 : Int32) ∨ x = (2 : Int32) ∨ x = (3 : Int32) := by
  have h1 : (1 : Int32).toInt = 1 := rfl
  have h3 : (3 : Int32).toInt = 3 := rfl
  have a1 := own_rem (p &&& (2147483647 : Int32)) 3 (own_mask0 p 2147483647 (by decide)).1 (by decide)
  have q : x.toInt = 1 + ((p &&& (2147483647 : Int32)) % (3 : Int32)).toInt := by
    rw [h, own_addI _ _ (by omega) (by omega), h1]
  have q2 : x.toInt = 1 ∨ x.toInt = 2 ∨ x.toInt = 3 := by omega
  rcases q2 with q2 | q2 | q2
  · exact Or.inl (own_lit _ _ _ q2 rfl)
  · exact Or.inr (Or.inl (own_lit _ _ _ q2 rfl))
  · exact Or.inr (Or.inr (own_lit _ _ _ q2 rfl))
theorem own_nzR (p x : Int32) (h : x = (1 : Int32) + (p &&& (2147483647 : Int32)) % (3 : Int32)) : x ≠ 0 := by
  rcases own_rows p x h with rfl | rfl | rfl <;> decide
theorem own_nzB (p x y : Int32) (h : x = (1 : Int32) + (p &&& (2147483647 : Int32)) % (3 : Int32)) (hy : y = (6 : Int32) / x) : y ≠ 0 := by
  subst hy
  rcases own_rows p x h with q | q | q <;> rw [q] <;> decide
theorem own_upTo (z a B : Int32) (n : Nat) (hB : B.toInt = n) (hn : 0 < n) (hz : z = (a &&& (65535 : Int32)) % B) : ∃ k : Nat, k < n ∧ z = Int32.ofNat k := by
  have a1 := own_rem (a &&& (65535 : Int32)) B (own_mask0 a 65535 (by decide)).1 (by omega)
  rw [← hz] at a1
  refine ⟨z.toInt.toNat, by omega, own_lit _ z.toInt _ rfl ?_⟩
  have l := Int32.toInt_lt z
  rw [Int32.toInt_ofNat_of_lt (by omega)]; omega
theorem own_cases (p x y z : Int32) (h : x = (1 : Int32) + (p &&& (2147483647 : Int32)) % (3 : Int32)) (hy : y = (6 : Int32) / x) (hz : z = (((p.toUInt32 >>> ((4 : Int32) &&& 31).toUInt32).toInt32) &&& (65535 : Int32)) % y) :
    (x = (1 : Int32) ∧ y = (6 : Int32) ∧ (z = (0 : Int32) ∨ z = (1 : Int32) ∨ z = (2 : Int32) ∨ z = (3 : Int32) ∨ z = (4 : Int32) ∨ z = (5 : Int32))) ∨ (x = (2 : Int32) ∧ y = (3 : Int32) ∧ (z = (0 : Int32) ∨ z = (1 : Int32) ∨ z = (2 : Int32))) ∨ (x = (3 : Int32) ∧ y = (2 : Int32) ∧ (z = (0 : Int32) ∨ z = (1 : Int32))) := by
  rcases own_rows p x h with q | q | q
  · have y1 : y = (6 : Int32) := by rw [hy, q]; decide
    obtain ⟨k, hk, e⟩ := own_upTo z _ y 6 (by rw [y1]; rfl) (by decide) hz
    refine Or.inl ⟨q, y1, ?_⟩
    rw [e]
    match k, hk with
    | 0, _ => exact Or.inl rfl
    | 1, _ => exact Or.inr (Or.inl rfl)
    | 2, _ => exact Or.inr (Or.inr (Or.inl rfl))
    | 3, _ => exact Or.inr (Or.inr (Or.inr (Or.inl rfl)))
    | 4, _ => exact Or.inr (Or.inr (Or.inr (Or.inr (Or.inl rfl))))
    | 5, _ => exact Or.inr (Or.inr (Or.inr (Or.inr (Or.inr rfl))))
  · have y1 : y = (3 : Int32) := by rw [hy, q]; decide
    obtain ⟨k, hk, e⟩ := own_upTo z _ y 3 (by rw [y1]; rfl) (by decide) hz
    refine Or.inr (Or.inl ⟨q, y1, ?_⟩)
    rw [e]
    match k, hk with
    | 0, _ => exact Or.inl rfl
    | 1, _ => exact Or.inr (Or.inl rfl)
    | 2, _ => exact Or.inr (Or.inr rfl)
  · have y1 : y = (2 : Int32) := by rw [hy, q]; decide
    obtain ⟨k, hk, e⟩ := own_upTo z _ y 2 (by rw [y1]; rfl) (by decide) hz
    refine Or.inr (Or.inr ⟨q, y1, ?_⟩)
    rw [e]
    match k, hk with
    | 0, _ => exact Or.inl rfl
    | 1, _ => exact Or.inr rfl
def own_m1 (x : Int64) : Int64 := (x ^^^ ((x.toUInt64 >>> ((30 : Int32) &&& 0x3f).toInt64.toUInt64).toInt64)) * (-4658895280553007687 : Int64)
def own_m2 (x : Int64) : Int64 := (x ^^^ ((x.toUInt64 >>> ((27 : Int32) &&& 0x3f).toInt64.toUInt64).toInt64)) * (-7723592293110705685 : Int64)
def own_m3 (x : Int64) : Int64 := x ^^^ ((x.toUInt64 >>> ((31 : Int32) &&& 0x3f).toInt64.toUInt64).toInt64)
def own_mix (x : Int64) : Int64 := own_m3 (own_m2 (own_m1 x))
theorem d1_0 : decode prog_2_method_1_code 0 = .ok (.aload_n 0, 1) := by decide +kernel
theorem d1_1 : decode prog_2_method_1_code 1 = .ok (.invokespecial 1, 3) := by decide +kernel
theorem d1_4 : decode prog_2_method_1_code 4 = .ok (.iload_n 1, 1) := by decide +kernel
theorem d1_5 : decode prog_2_method_1_code 5 = .ok (.iconst 1, 1) := by decide +kernel
theorem d1_6 : decode prog_2_method_1_code 6 = .ok (.if_icmp .lt 8, 3) := by decide +kernel
theorem d1_9 : decode prog_2_method_1_code 9 = .ok (.iload_n 2, 1) := by decide +kernel
theorem d1_10 : decode prog_2_method_1_code 10 = .ok (.iconst 1, 1) := by decide +kernel
theorem d1_11 : decode prog_2_method_1_code 11 = .ok (.if_icmp .ge 18, 3) := by decide +kernel
theorem d1_14 : decode prog_2_method_1_code 14 = .ok (.new 7, 3) := by decide +kernel
theorem d1_17 : decode prog_2_method_1_code 17 = .ok (.dup, 1) := by decide +kernel
theorem d1_18 : decode prog_2_method_1_code 18 = .ok (.iload_n 1, 1) := by decide +kernel
theorem d1_19 : decode prog_2_method_1_code 19 = .ok (.iload_n 2, 1) := by decide +kernel
theorem d1_25 : decode prog_2_method_1_code 25 = .ok (.invokespecial 13, 3) := by decide +kernel
theorem d1_28 : decode prog_2_method_1_code 28 = .ok (.athrow, 1) := by decide +kernel
theorem d1_29 : decode prog_2_method_1_code 29 = .ok (.iload_n 1, 1) := by decide +kernel
theorem d1_30 : decode prog_2_method_1_code 30 = .ok (.i2l, 1) := by decide +kernel
theorem d1_31 : decode prog_2_method_1_code 31 = .ok (.iload_n 2, 1) := by decide +kernel
theorem d1_32 : decode prog_2_method_1_code 32 = .ok (.i2l, 1) := by decide +kernel
theorem d1_33 : decode prog_2_method_1_code 33 = .ok (.lmul, 1) := by decide +kernel
theorem d1_34 : decode prog_2_method_1_code 34 = .ok (.ldc2_w 18, 3) := by decide +kernel
theorem d1_37 : decode prog_2_method_1_code 37 = .ok (.lcmp, 1) := by decide +kernel
theorem d1_38 : decode prog_2_method_1_code 38 = .ok (.ifCond .le 18, 3) := by decide +kernel
theorem d1_41 : decode prog_2_method_1_code 41 = .ok (.new 7, 3) := by decide +kernel
theorem d1_44 : decode prog_2_method_1_code 44 = .ok (.dup, 1) := by decide +kernel
theorem d1_45 : decode prog_2_method_1_code 45 = .ok (.iload_n 1, 1) := by decide +kernel
theorem d1_46 : decode prog_2_method_1_code 46 = .ok (.iload_n 2, 1) := by decide +kernel
theorem d1_52 : decode prog_2_method_1_code 52 = .ok (.invokespecial 13, 3) := by decide +kernel
theorem d1_55 : decode prog_2_method_1_code 55 = .ok (.athrow, 1) := by decide +kernel
theorem d1_56 : decode prog_2_method_1_code 56 = .ok (.aload_n 0, 1) := by decide +kernel
theorem d1_57 : decode prog_2_method_1_code 57 = .ok (.iload_n 1, 1) := by decide +kernel
theorem d1_58 : decode prog_2_method_1_code 58 = .ok (.putfield 21, 3) := by decide +kernel
theorem d1_61 : decode prog_2_method_1_code 61 = .ok (.aload_n 0, 1) := by decide +kernel
theorem d1_62 : decode prog_2_method_1_code 62 = .ok (.iload_n 2, 1) := by decide +kernel
theorem d1_63 : decode prog_2_method_1_code 63 = .ok (.putfield 27, 3) := by decide +kernel
theorem d1_66 : decode prog_2_method_1_code 66 = .ok (.return_, 1) := by decide +kernel
theorem pn_1 : plainName "com/example/near_duplicate_finder/nearduplicatefinder/Banding" = true := by first | (simp [plainName, overriddenIn]; done) | decide +kernel
theorem ef_1 (m : MethodId) (x0 : Addr) (x1 : Int32) (x2 : Int32) : entryFrame m #[(.ref x0), (.int x1), (.int x2)] 3 = mkF m 0 #[.val (.ref x0), .val (.int x1), .val (.int x2)] [] := by first | (simp [entryFrame, mkF, argsToLocals, Value.category]; done) | rfl
def Q1 (Z : State) (a1 : Addr) (p2 : Int32) (p3 : Int32) (u1 : Value) (u2 : Value) (h0 : Heap) (n0 : Nat) (v : Option Value) (h : Heap) (L : List Loc) : Prop := v = none ∧ Fr n0 L ∧ Keep h0 h [a1] ∧ Exa Z h a1 "com/example/near_duplicate_finder/nearduplicatefinder/Banding" ∧ Fld Z h a1 "com/example/near_duplicate_finder/nearduplicatefinder/Banding" "rows" "I" (.int p3)
set_option maxRecDepth 65536 in
set_option maxHeartbeats 40000000 in
theorem rm1 (l : Launch) (Z : State) (a0 : Array Value) (hw : ∀ d ∈ tables_1, d.before a0 Z = true) (ws : List Jvm.Cond) (a1 : Addr) (p2 : Int32) (p3 : Int32) (u1 : Value) (u2 : Value) (h0 : Heap) (n0 : Nat) (Z0 : n0 ≤ h0.size) (E_a1 : Exa Z h0 a1 "com/example/near_duplicate_finder/nearduplicatefinder/Banding") (F_bands_a1 : Fld Z h0 a1 "com/example/near_duplicate_finder/nearduplicatefinder/Banding" "bands" "I" u1) (F_rows_a1 : Fld Z h0 a1 "com/example/near_duplicate_finder/nearduplicatefinder/Banding" "rows" "I" u2) (g_a1 : n0 ≤ a1) (h1 : ¬ (p2 < (1 : Int32))) (h2 : ¬ (p3 < (1 : Int32))) (h3 : ¬ ((2147483647 : Int64) < ((p2.toInt64) * (p3.toInt64)))) :
    MetFree l (⟨"com/example/near_duplicate_finder/nearduplicatefinder/Banding", "<init>", "(II)V"⟩ : MethodName) (head1 (Jvm.Cond.code (⟨"com/example/near_duplicate_finder/nearduplicatefinder/Banding", "<init>", "(II)V"⟩ : MethodName) prog_2_method_1_code 3 none :: ws) ({ frames := 1, cells := 0, slots := 0, locals := 12 } : Room)) (fun a U => a = #[(.ref a1), (.int p2), (.int p3)] ∧ Z.Warmed39 U.vm ∧ U.heap = h0) (fun _ _ _ _ _ => True) (fun _ U o U' => ∃ v L, o = .returned v ∧ Q1 Z a1 p2 p3 u1 u2 h0 n0 v U'.heap L ∧ FrameEnd U o U' L ({ frames := 1, cells := 0, slots := 0, locals := 12 } : Room).cells ({ frames := 1, cells := 0, slots := 0, locals := 12 } : Room).slots) := by
  refine MetFree.of_bodySF (plainFor_of_name pn_1) hisR ?_
  intro p e s m args below meth c s₁ Bd hml0 hP hK
  obtain ⟨rfl, hZ, hh⟩ := hP
  have hx := Bd.exec
  have hby := Bd.bytes
  have hml : c.maxLocals = 3 := hml0
  have hown : s.vm.findClass "com/example/near_duplicate_finder/nearduplicatefinder/Banding" = some m.cls := findClass_of_methodNamed Bd.named
  have hnm := (name_of_methodNamed Bd.named Bd.method).1
  have hret := Bd.returns
  have hlk : meth.locks = false := BodyLoose.notSynchronized Bd
  have X0 : Stand p l e ({ frames := 1, cells := 0, slots := 0, locals := 12 } : Room) s m #[(.ref a1), (.int p2), (.int p3)] below meth c s₁ [] 0 0 := Stand.of_body Bd
  have e0 : s₁.heap = h0 := by rw [← hh, Bd.state]; rfl
  have N0 := Fr.nil n0
  have W := fun (k : Nat) {d : Jvm.Cond} (h : tables_1[k]? = some d) => hw d (List.mem_of_getElem? h)
  have K0 : Keep h0 h0 [a1] := Keep.refl _ _
  refine own_start (ef_1 m a1 p2 p3) ?_
  show own_Run p e below _ s₁ (mkF m 0 #[.val (.ref a1), .val (.int p2), .val (.int p3)] [])
  refine own_go (fun _ k => XS.aloadN X0.here hx rfl (hb hby d1_0) rfl rfl k) ?_
  show own_Run p e below _ s₁ (mkF m 1 #[.val (.ref a1), .val (.int p2), .val (.int p3)] [(.ref a1)])
  obtain ⟨T1, X1, e1, st1⟩ := initO X0 hx hZ hown (W 9 rfl) (W 10 rfl) (W 11 rfl) e0 (g := (mkF m 1 #[.val (.ref a1), .val (.int p2), .val (.int p3)] [(.ref a1)])) rfl (by rw [hml]; rfl) rfl (hb hby d1_1) (by decide) (W := 0) (by show 2 * 0 + _ ≤ _; exact Nat.le_of_eq rfl) (by decide)
  refine own_go st1 ?_
  show own_Run p e below _ T1 (mkF m 4 #[.val (.ref a1), .val (.int p2), .val (.int p3)] [])
  refine own_go (fun _ k => XS.iloadN X1.here hx rfl (hb hby d1_4) rfl k) ?_
  refine own_go (fun _ k => XS.iconst X1.here hx rfl (hb hby d1_5) k) ?_
  show own_Run p e below _ T1 (mkF m 6 #[.val (.ref a1), .val (.int p2), .val (.int p3)] [(.int (1 : Int32)), (.int p2)])
  refine own_go (fun _ k => XS.icmpNo X1.here hx rfl (hb hby d1_6) rfl (flt h1).1 k) ?_
  show own_Run p e below _ T1 (mkF m 9 #[.val (.ref a1), .val (.int p2), .val (.int p3)] [])
  refine own_go (fun _ k => XS.iloadN X1.here hx rfl (hb hby d1_9) rfl k) ?_
  refine own_go (fun _ k => XS.iconst X1.here hx rfl (hb hby d1_10) k) ?_
  show own_Run p e below _ T1 (mkF m 11 #[.val (.ref a1), .val (.int p2), .val (.int p3)] [(.int (1 : Int32)), (.int p3)])
  refine own_go (fun _ k => XS.icmpYes X1.here hx rfl (pc0 := 11) (pc' := 29) rfl (hb hby d1_11) rfl (flt h2).2.1 (by decide) (by decide) k) ?_
  show own_Run p e below _ T1 (mkF m 29 #[.val (.ref a1), .val (.int p2), .val (.int p3)] [])
  refine own_go (fun _ k => XS.iloadN X1.here hx rfl (hb hby d1_29) rfl k) ?_
  refine own_go (fun _ k => XS.i2l X1.here hx rfl (hb hby d1_30) rfl k) ?_
  refine own_go (fun _ k => XS.iloadN X1.here hx rfl (hb hby d1_31) rfl k) ?_
  refine own_go (fun _ k => XS.i2l X1.here hx rfl (hb hby d1_32) rfl k) ?_
  show own_Run p e below _ T1 (mkF m 33 #[.val (.ref a1), .val (.int p2), .val (.int p3)] [(.long (p3.toInt64)), (.long (p2.toInt64))])
  refine own_go (fun _ k => XS.lmul X1.here hx rfl (hb hby d1_33) rfl k) ?_
  show own_Run p e below _ T1 (mkF m 34 #[.val (.ref a1), .val (.int p2), .val (.int p3)] [(.long ((p2.toInt64) * (p3.toInt64)))])
  refine own_go (X1.ldc2Long hx hown (mvT hZ (W 12 rfl)) (g := (mkF m 34 #[.val (.ref a1), .val (.int p2), .val (.int p3)] [(.long ((p2.toInt64) * (p3.toInt64)))])) rfl (hb hby d1_34)) ?_
  show own_Run p e below _ T1 (mkF m 37 #[.val (.ref a1), .val (.int p2), .val (.int p3)] [(.long (2147483647 : Int64)), (.long ((p2.toInt64) * (p3.toInt64)))])
  refine own_go (fun _ k => XS.lcmp X1.here hx rfl (hb hby d1_37) rfl k) ?_
  show own_Run p e below _ T1 (mkF m 38 #[.val (.ref a1), .val (.int p2), .val (.int p3)] [(.int (lcmpW ((p2.toInt64) * (p3.toInt64)) (2147483647 : Int64)))])
  refine own_go (fun _ k => XS.ifYes X1.here hx rfl (pc0 := 38) (pc' := 56) rfl (hb hby d1_38) rfl (own_lcF h3).2.2.2 (by decide) (by decide) k) ?_
  show own_Run p e below _ T1 (mkF m 56 #[.val (.ref a1), .val (.int p2), .val (.int p3)] [])
  refine own_go (fun _ k => XS.aloadN X1.here hx rfl (hb hby d1_56) rfl rfl k) ?_
  refine own_go (fun _ k => XS.iloadN X1.here hx rfl (hb hby d1_57) rfl k) ?_
  show own_Run p e below _ T1 (mkF m 58 #[.val (.ref a1), .val (.int p2), .val (.int p3)] [(.int p2), (.ref a1)])
  obtain ⟨T2, h2, X2, e2, W2, st2⟩ := putF X1 hx hZ hown (host := "") (Or.inl (W 13 rfl)) Via.refl e1 F_bands_a1 E_a1 (Or.inr ⟨(W 14 rfl), rfl, hnm⟩) (W 4 rfl) (ty := .int) (by decide) rfl rfl (g := (mkF m 58 #[.val (.ref a1), .val (.int p2), .val (.int p3)] [(.int p2), (.ref a1)])) rfl rfl (hb hby d1_58)
  refine own_go st2 ?_
  show own_Run p e below _ T2 (mkF m 61 #[.val (.ref a1), .val (.int p2), .val (.int p3)] [])
  have Z0_c3 := Nat.le_trans Z0 (Keep.of_wr W2).1
  have K0_c3 := K0.wr W2 (Or.inl (List.mem_of_getElem? (i := 0) rfl))
  have E_a1_c3 := E_a1.wr W2
  have F_rows_a1_c3 := F_rows_a1.other W2 (Or.inr (slot_ne (Or.inr (W 16 rfl)) (Or.inr (W 14 rfl)) (by decide) (t := .int) (t' := .int) (by decide) (by decide)))
  have F_bands_a1_c2 : Fld Z h2 a1 "com/example/near_duplicate_finder/nearduplicatefinder/Banding" "bands" "I" (.int p2) := F_bands_a1.same W2
  have N2 := Fr.snoc X2 N0 g_a1
  refine own_go (fun _ k => XS.aloadN X2.here hx rfl (hb hby d1_61) rfl rfl k) ?_
  refine own_go (fun _ k => XS.iloadN X2.here hx rfl (hb hby d1_62) rfl k) ?_
  show own_Run p e below _ T2 (mkF m 63 #[.val (.ref a1), .val (.int p2), .val (.int p3)] [(.int p3), (.ref a1)])
  obtain ⟨T4, h4, X4, e4, W4, st4⟩ := putF X2 hx hZ hown (host := "") (Or.inl (W 15 rfl)) Via.refl e2 F_rows_a1_c3 E_a1_c3 (Or.inr ⟨(W 16 rfl), rfl, hnm⟩) (W 4 rfl) (ty := .int) (by decide) rfl rfl (g := (mkF m 63 #[.val (.ref a1), .val (.int p2), .val (.int p3)] [(.int p3), (.ref a1)])) rfl rfl (hb hby d1_63)
  refine own_go st4 ?_
  show own_Run p e below _ T4 (mkF m 66 #[.val (.ref a1), .val (.int p2), .val (.int p3)] [])
  have Z0_c5 := Nat.le_trans Z0_c3 (Keep.of_wr W4).1
  have K0_c5 := K0_c3.wr W4 (Or.inl (List.mem_of_getElem? (i := 0) rfl))
  have E_a1_c5 := E_a1_c3.wr W4
  have F_bands_a1_c5 := F_bands_a1_c2.other W4 (Or.inr (slot_ne (Or.inr (W 14 rfl)) (Or.inr (W 16 rfl)) (by decide) (t := .int) (t' := .int) (by decide) (by decide)))
  have F_rows_a1_c4 : Fld Z h4 a1 "com/example/near_duplicate_finder/nearduplicatefinder/Banding" "rows" "I" (.int p3) := F_rows_a1_c3.same W4
  have N4 := Fr.snoc X4 N2 g_a1
  refine own_done (Q := fun v h L => Q1 Z a1 p2 p3 u1 u2 h0 n0 v h L) (v := none) X4 (fun _ => rfl) hlk (fun fs hr => X4.returnOut hx hret (hb hby d1_66) hr) ?_ (by decide) (by decide)
  show Q1 Z a1 p2 p3 u1 u2 h0 n0 _ T4.heap _
  rw [e4]
  exact ⟨rfl, N4, K0_c5, E_a1_c5, F_rows_a1_c4⟩
theorem d4_0 : decode prog_34_method_7_code 0 = .ok (.lload_n 0, 1) := by decide +kernel
theorem d4_1 : decode prog_34_method_7_code 1 = .ok (.lload_n 0, 1) := by decide +kernel
theorem d4_2 : decode prog_34_method_7_code 2 = .ok (.bipush 30, 2) := by decide +kernel
theorem d4_4 : decode prog_34_method_7_code 4 = .ok (.lushr, 1) := by decide +kernel
theorem d4_5 : decode prog_34_method_7_code 5 = .ok (.lxor, 1) := by decide +kernel
theorem d4_6 : decode prog_34_method_7_code 6 = .ok (.ldc2_w 45, 3) := by decide +kernel
theorem d4_9 : decode prog_34_method_7_code 9 = .ok (.lmul, 1) := by decide +kernel
theorem d4_10 : decode prog_34_method_7_code 10 = .ok (.lstore_n 0, 1) := by decide +kernel
theorem d4_11 : decode prog_34_method_7_code 11 = .ok (.lload_n 0, 1) := by decide +kernel
theorem d4_12 : decode prog_34_method_7_code 12 = .ok (.lload_n 0, 1) := by decide +kernel
theorem d4_13 : decode prog_34_method_7_code 13 = .ok (.bipush 27, 2) := by decide +kernel
theorem d4_15 : decode prog_34_method_7_code 15 = .ok (.lushr, 1) := by decide +kernel
theorem d4_16 : decode prog_34_method_7_code 16 = .ok (.lxor, 1) := by decide +kernel
theorem d4_17 : decode prog_34_method_7_code 17 = .ok (.ldc2_w 47, 3) := by decide +kernel
theorem d4_20 : decode prog_34_method_7_code 20 = .ok (.lmul, 1) := by decide +kernel
theorem d4_21 : decode prog_34_method_7_code 21 = .ok (.lstore_n 0, 1) := by decide +kernel
theorem d4_22 : decode prog_34_method_7_code 22 = .ok (.lload_n 0, 1) := by decide +kernel
theorem d4_23 : decode prog_34_method_7_code 23 = .ok (.lload_n 0, 1) := by decide +kernel
theorem d4_24 : decode prog_34_method_7_code 24 = .ok (.bipush 31, 2) := by decide +kernel
theorem d4_26 : decode prog_34_method_7_code 26 = .ok (.lushr, 1) := by decide +kernel
theorem d4_27 : decode prog_34_method_7_code 27 = .ok (.lxor, 1) := by decide +kernel
theorem d4_28 : decode prog_34_method_7_code 28 = .ok (.lreturn, 1) := by decide +kernel
theorem pn_4 : plainName "com/example/near_duplicate_finder/nearduplicatefinder/ShingleHash" = true := by first | (simp [plainName, overriddenIn]; done) | decide +kernel
theorem ef_4 (m : MethodId) (x0 : Int64) : entryFrame m #[(.long x0)] 2 = mkF m 0 #[.val (.long x0), .second] [] := by first | (simp [entryFrame, mkF, argsToLocals, Value.category]; done) | rfl
def Q4 (Z : State) (q1 : Int64) (h0 : Heap) (n0 : Nat) (v : Option Value) (h : Heap) (L : List Loc) : Prop := v = some (.long (own_mix q1)) ∧ Fr n0 L ∧ h = h0
set_option maxRecDepth 65536 in
set_option maxHeartbeats 40000000 in
theorem rm4 (l : Launch) (Z : State) (a0 : Array Value) (hw : ∀ d ∈ tables_1, d.before a0 Z = true) (ws : List Jvm.Cond) (q1 : Int64) (h0 : Heap) (n0 : Nat) (Z0 : n0 ≤ h0.size) :
    MetFree l (⟨"com/example/near_duplicate_finder/nearduplicatefinder/ShingleHash", "mix", "(J)J"⟩ : MethodName) (head1 (Jvm.Cond.code (⟨"com/example/near_duplicate_finder/nearduplicatefinder/ShingleHash", "mix", "(J)J"⟩ : MethodName) prog_34_method_7_code 2 (some .long) :: ws) ({ frames := 0, cells := 0, slots := 0, locals := 0 } : Room)) (fun a U => a = #[(.long q1)] ∧ Z.Warmed39 U.vm ∧ U.heap = h0) (fun _ _ _ _ _ => True) (fun _ U o U' => ∃ v L, o = .returned v ∧ Q4 Z q1 h0 n0 v U'.heap L ∧ FrameEnd U o U' L ({ frames := 0, cells := 0, slots := 0, locals := 0 } : Room).cells ({ frames := 0, cells := 0, slots := 0, locals := 0 } : Room).slots) := by
  refine MetFree.of_bodySF (plainFor_of_name pn_4) hisR ?_
  intro p e s m args below meth c s₁ Bd hml0 hP hK
  obtain ⟨rfl, hZ, hh⟩ := hP
  have hx := Bd.exec
  have hby := Bd.bytes
  have hml : c.maxLocals = 2 := hml0
  have hown : s.vm.findClass "com/example/near_duplicate_finder/nearduplicatefinder/ShingleHash" = some m.cls := findClass_of_methodNamed Bd.named
  have hnm := (name_of_methodNamed Bd.named Bd.method).1
  have hret := Bd.returns
  have hlk : meth.locks = false := BodyLoose.notSynchronized Bd
  have X0 : Stand p l e ({ frames := 0, cells := 0, slots := 0, locals := 0 } : Room) s m #[(.long q1)] below meth c s₁ [] 0 0 := Stand.of_body Bd
  have e0 : s₁.heap = h0 := by rw [← hh, Bd.state]; rfl
  have N0 := Fr.nil n0
  have W := fun (k : Nat) {d : Jvm.Cond} (h : tables_1[k]? = some d) => hw d (List.mem_of_getElem? h)
  have K0 : Keep h0 h0 [] := Keep.refl _ _
  refine own_start (ef_4 m q1) ?_
  show own_Run p e below _ s₁ (mkF m 0 #[.val (.long q1), .second] [])
  refine own_go (fun _ k => XS.lloadN X0.here hx rfl (hb hby d4_0) rfl k) ?_
  refine own_go (fun _ k => XS.lloadN X0.here hx rfl (hb hby d4_1) rfl k) ?_
  refine own_go (fun _ k => XS.bipush X0.here hx rfl (hb hby d4_2) k) ?_
  refine own_go (fun _ k => XS.lushr X0.here hx rfl (hb hby d4_4) rfl k) ?_
  show own_Run p e below _ s₁ (mkF m 5 #[.val (.long q1), .second] [(.long ((q1.toUInt64 >>> ((30 : Int32) &&& 0x3f).toInt64.toUInt64).toInt64)), (.long q1)])
  refine own_go (fun _ k => XS.lxor X0.here hx rfl (hb hby d4_5) rfl k) ?_
  show own_Run p e below _ s₁ (mkF m 6 #[.val (.long q1), .second] [(.long (q1 ^^^ ((q1.toUInt64 >>> ((30 : Int32) &&& 0x3f).toInt64.toUInt64).toInt64)))])
  refine own_go (X0.ldc2Long hx hown (mvT hZ (W 27 rfl)) (g := (mkF m 6 #[.val (.long q1), .second] [(.long (q1 ^^^ ((q1.toUInt64 >>> ((30 : Int32) &&& 0x3f).toInt64.toUInt64).toInt64)))])) rfl (hb hby d4_6)) ?_
  show own_Run p e below _ s₁ (mkF m 9 #[.val (.long q1), .second] [(.long (-4658895280553007687 : Int64)), (.long (q1 ^^^ ((q1.toUInt64 >>> ((30 : Int32) &&& 0x3f).toInt64.toUInt64).toInt64)))])
  refine own_go (fun _ k => XS.lmul X0.here hx rfl (hb hby d4_9) rfl k) ?_
  show own_Run p e below _ s₁ (mkF m 10 #[.val (.long q1), .second] [(.long ((q1 ^^^ ((q1.toUInt64 >>> ((30 : Int32) &&& 0x3f).toInt64.toUInt64).toInt64)) * (-4658895280553007687 : Int64)))])
  obtain ⟨v1, hv1⟩ : ∃ z, z = ((q1 ^^^ ((q1.toUInt64 >>> ((30 : Int32) &&& 0x3f).toInt64.toUInt64).toInt64)) * (-4658895280553007687 : Int64)) := ⟨_, rfl⟩
  rw [← hv1]
  show own_Run p e below _ s₁ (mkF m 10 #[.val (.long q1), .second] [(.long v1)])
  refine own_go (fun _ k => XS.lstoreN X0.here hx rfl (hb hby d4_10) rfl (l' := #[.val (.long v1), .second]) rfl k) ?_
  refine own_go (fun _ k => XS.lloadN X0.here hx rfl (hb hby d4_11) rfl k) ?_
  refine own_go (fun _ k => XS.lloadN X0.here hx rfl (hb hby d4_12) rfl k) ?_
  refine own_go (fun _ k => XS.bipush X0.here hx rfl (hb hby d4_13) k) ?_
  show own_Run p e below _ s₁ (mkF m 15 #[.val (.long v1), .second] [(.int (27 : Int32)), (.long v1), (.long v1)])
  refine own_go (fun _ k => XS.lushr X0.here hx rfl (hb hby d4_15) rfl k) ?_
  refine own_go (fun _ k => XS.lxor X0.here hx rfl (hb hby d4_16) rfl k) ?_
  show own_Run p e below _ s₁ (mkF m 17 #[.val (.long v1), .second] [(.long (v1 ^^^ ((v1.toUInt64 >>> ((27 : Int32) &&& 0x3f).toInt64.toUInt64).toInt64)))])
  refine own_go (X0.ldc2Long hx hown (mvT hZ (W 28 rfl)) (g := (mkF m 17 #[.val (.long v1), .second] [(.long (v1 ^^^ ((v1.toUInt64 >>> ((27 : Int32) &&& 0x3f).toInt64.toUInt64).toInt64)))])) rfl (hb hby d4_17)) ?_
  show own_Run p e below _ s₁ (mkF m 20 #[.val (.long v1), .second] [(.long (-7723592293110705685 : Int64)), (.long (v1 ^^^ ((v1.toUInt64 >>> ((27 : Int32) &&& 0x3f).toInt64.toUInt64).toInt64)))])
  refine own_go (fun _ k => XS.lmul X0.here hx rfl (hb hby d4_20) rfl k) ?_
  show own_Run p e below _ s₁ (mkF m 21 #[.val (.long v1), .second] [(.long ((v1 ^^^ ((v1.toUInt64 >>> ((27 : Int32) &&& 0x3f).toInt64.toUInt64).toInt64)) * (-7723592293110705685 : Int64)))])
  obtain ⟨v2, hv2⟩ : ∃ z, z = ((v1 ^^^ ((v1.toUInt64 >>> ((27 : Int32) &&& 0x3f).toInt64.toUInt64).toInt64)) * (-7723592293110705685 : Int64)) := ⟨_, rfl⟩
  rw [← hv2]
  show own_Run p e below _ s₁ (mkF m 21 #[.val (.long v1), .second] [(.long v2)])
  refine own_go (fun _ k => XS.lstoreN X0.here hx rfl (hb hby d4_21) rfl (l' := #[.val (.long v2), .second]) rfl k) ?_
  refine own_go (fun _ k => XS.lloadN X0.here hx rfl (hb hby d4_22) rfl k) ?_
  refine own_go (fun _ k => XS.lloadN X0.here hx rfl (hb hby d4_23) rfl k) ?_
  refine own_go (fun _ k => XS.bipush X0.here hx rfl (hb hby d4_24) k) ?_
  show own_Run p e below _ s₁ (mkF m 26 #[.val (.long v2), .second] [(.int (31 : Int32)), (.long v2), (.long v2)])
  refine own_go (fun _ k => XS.lushr X0.here hx rfl (hb hby d4_26) rfl k) ?_
  refine own_go (fun _ k => XS.lxor X0.here hx rfl (hb hby d4_27) rfl k) ?_
  show own_Run p e below _ s₁ (mkF m 28 #[.val (.long v2), .second] [(.long (v2 ^^^ ((v2.toUInt64 >>> ((31 : Int32) &&& 0x3f).toInt64.toUInt64).toInt64)))])
  refine own_done (Q := fun v h L => Q4 Z q1 h0 n0 v h L) (v := (some (.long (v2 ^^^ ((v2.toUInt64 >>> ((31 : Int32) &&& 0x3f).toInt64.toUInt64).toInt64))))) X0 (fun h => by rw [hret] at h; cases h) hlk (fun fs hr => own_retL X0 hx hret (hb hby d4_28) hr) ?_ (by decide) (by decide)
  show Q4 Z q1 h0 n0 _ s₁.heap _
  rw [e0]
  subst hv2 hv1
  exact ⟨rfl, N0, rfl⟩
theorem d5_0 : decode method_2_code 0 = .ok (.lload_n 0, 1) := by decide +kernel
theorem d5_1 : decode method_2_code 1 = .ok (.lload_n 0, 1) := by decide +kernel
theorem d5_2 : decode method_2_code 2 = .ok (.bipush 30, 2) := by decide +kernel
theorem d5_4 : decode method_2_code 4 = .ok (.lushr, 1) := by decide +kernel
theorem d5_5 : decode method_2_code 5 = .ok (.lxor, 1) := by decide +kernel
theorem d5_6 : decode method_2_code 6 = .ok (.ldc2_w 7, 3) := by decide +kernel
theorem d5_9 : decode method_2_code 9 = .ok (.lmul, 1) := by decide +kernel
theorem d5_10 : decode method_2_code 10 = .ok (.lstore_n 0, 1) := by decide +kernel
theorem d5_11 : decode method_2_code 11 = .ok (.lload_n 0, 1) := by decide +kernel
theorem d5_12 : decode method_2_code 12 = .ok (.lload_n 0, 1) := by decide +kernel
theorem d5_13 : decode method_2_code 13 = .ok (.bipush 27, 2) := by decide +kernel
theorem d5_15 : decode method_2_code 15 = .ok (.lushr, 1) := by decide +kernel
theorem d5_16 : decode method_2_code 16 = .ok (.lxor, 1) := by decide +kernel
theorem d5_17 : decode method_2_code 17 = .ok (.ldc2_w 9, 3) := by decide +kernel
theorem d5_20 : decode method_2_code 20 = .ok (.lmul, 1) := by decide +kernel
theorem d5_21 : decode method_2_code 21 = .ok (.lstore_n 0, 1) := by decide +kernel
theorem d5_22 : decode method_2_code 22 = .ok (.lload_n 0, 1) := by decide +kernel
theorem d5_23 : decode method_2_code 23 = .ok (.lload_n 0, 1) := by decide +kernel
theorem d5_24 : decode method_2_code 24 = .ok (.bipush 31, 2) := by decide +kernel
theorem d5_26 : decode method_2_code 26 = .ok (.lushr, 1) := by decide +kernel
theorem d5_27 : decode method_2_code 27 = .ok (.lxor, 1) := by decide +kernel
theorem d5_28 : decode method_2_code 28 = .ok (.lreturn, 1) := by decide +kernel
theorem pn_5 : plainName "com/example/near_duplicate_finder/nearduplicatefinder/BandingKeyPinLaw" = true := by first | (simp [plainName, overriddenIn]; done) | decide +kernel
theorem ef_5 (m : MethodId) (x0 : Int64) : entryFrame m #[(.long x0)] 2 = mkF m 0 #[.val (.long x0), .second] [] := by first | (simp [entryFrame, mkF, argsToLocals, Value.category]; done) | rfl
def Q5 (Z : State) (q1 : Int64) (h0 : Heap) (n0 : Nat) (v : Option Value) (h : Heap) (L : List Loc) : Prop := v = some (.long (own_mix q1)) ∧ Fr n0 L ∧ h = h0
set_option maxRecDepth 65536 in
set_option maxHeartbeats 40000000 in
theorem rm5 (l : Launch) (Z : State) (a0 : Array Value) (hw : ∀ d ∈ tables_1, d.before a0 Z = true) (ws : List Jvm.Cond) (q1 : Int64) (h0 : Heap) (n0 : Nat) (Z0 : n0 ≤ h0.size) :
    MetFree l (⟨"com/example/near_duplicate_finder/nearduplicatefinder/BandingKeyPinLaw", "mixRef", "(J)J"⟩ : MethodName) (head1 (Jvm.Cond.code (⟨"com/example/near_duplicate_finder/nearduplicatefinder/BandingKeyPinLaw", "mixRef", "(J)J"⟩ : MethodName) method_2_code 2 (some .long) :: ws) ({ frames := 0, cells := 0, slots := 0, locals := 0 } : Room)) (fun a U => a = #[(.long q1)] ∧ Z.Warmed39 U.vm ∧ U.heap = h0) (fun _ _ _ _ _ => True) (fun _ U o U' => ∃ v L, o = .returned v ∧ Q5 Z q1 h0 n0 v U'.heap L ∧ FrameEnd U o U' L ({ frames := 0, cells := 0, slots := 0, locals := 0 } : Room).cells ({ frames := 0, cells := 0, slots := 0, locals := 0 } : Room).slots) := by
  refine MetFree.of_bodySF (plainFor_of_name pn_5) hisR ?_
  intro p e s m args below meth c s₁ Bd hml0 hP hK
  obtain ⟨rfl, hZ, hh⟩ := hP
  have hx := Bd.exec
  have hby := Bd.bytes
  have hml : c.maxLocals = 2 := hml0
  have hown : s.vm.findClass "com/example/near_duplicate_finder/nearduplicatefinder/BandingKeyPinLaw" = some m.cls := findClass_of_methodNamed Bd.named
  have hnm := (name_of_methodNamed Bd.named Bd.method).1
  have hret := Bd.returns
  have hlk : meth.locks = false := BodyLoose.notSynchronized Bd
  have X0 : Stand p l e ({ frames := 0, cells := 0, slots := 0, locals := 0 } : Room) s m #[(.long q1)] below meth c s₁ [] 0 0 := Stand.of_body Bd
  have e0 : s₁.heap = h0 := by rw [← hh, Bd.state]; rfl
  have N0 := Fr.nil n0
  have W := fun (k : Nat) {d : Jvm.Cond} (h : tables_1[k]? = some d) => hw d (List.mem_of_getElem? h)
  have K0 : Keep h0 h0 [] := Keep.refl _ _
  refine own_start (ef_5 m q1) ?_
  show own_Run p e below _ s₁ (mkF m 0 #[.val (.long q1), .second] [])
  refine own_go (fun _ k => XS.lloadN X0.here hx rfl (hb hby d5_0) rfl k) ?_
  refine own_go (fun _ k => XS.lloadN X0.here hx rfl (hb hby d5_1) rfl k) ?_
  refine own_go (fun _ k => XS.bipush X0.here hx rfl (hb hby d5_2) k) ?_
  refine own_go (fun _ k => XS.lushr X0.here hx rfl (hb hby d5_4) rfl k) ?_
  show own_Run p e below _ s₁ (mkF m 5 #[.val (.long q1), .second] [(.long ((q1.toUInt64 >>> ((30 : Int32) &&& 0x3f).toInt64.toUInt64).toInt64)), (.long q1)])
  refine own_go (fun _ k => XS.lxor X0.here hx rfl (hb hby d5_5) rfl k) ?_
  show own_Run p e below _ s₁ (mkF m 6 #[.val (.long q1), .second] [(.long (q1 ^^^ ((q1.toUInt64 >>> ((30 : Int32) &&& 0x3f).toInt64.toUInt64).toInt64)))])
  refine own_go (X0.ldc2Long hx hown (mvT hZ (W 34 rfl)) (g := (mkF m 6 #[.val (.long q1), .second] [(.long (q1 ^^^ ((q1.toUInt64 >>> ((30 : Int32) &&& 0x3f).toInt64.toUInt64).toInt64)))])) rfl (hb hby d5_6)) ?_
  show own_Run p e below _ s₁ (mkF m 9 #[.val (.long q1), .second] [(.long (-4658895280553007687 : Int64)), (.long (q1 ^^^ ((q1.toUInt64 >>> ((30 : Int32) &&& 0x3f).toInt64.toUInt64).toInt64)))])
  refine own_go (fun _ k => XS.lmul X0.here hx rfl (hb hby d5_9) rfl k) ?_
  show own_Run p e below _ s₁ (mkF m 10 #[.val (.long q1), .second] [(.long ((q1 ^^^ ((q1.toUInt64 >>> ((30 : Int32) &&& 0x3f).toInt64.toUInt64).toInt64)) * (-4658895280553007687 : Int64)))])
  obtain ⟨v1, hv1⟩ : ∃ z, z = ((q1 ^^^ ((q1.toUInt64 >>> ((30 : Int32) &&& 0x3f).toInt64.toUInt64).toInt64)) * (-4658895280553007687 : Int64)) := ⟨_, rfl⟩
  rw [← hv1]
  show own_Run p e below _ s₁ (mkF m 10 #[.val (.long q1), .second] [(.long v1)])
  refine own_go (fun _ k => XS.lstoreN X0.here hx rfl (hb hby d5_10) rfl (l' := #[.val (.long v1), .second]) rfl k) ?_
  refine own_go (fun _ k => XS.lloadN X0.here hx rfl (hb hby d5_11) rfl k) ?_
  refine own_go (fun _ k => XS.lloadN X0.here hx rfl (hb hby d5_12) rfl k) ?_
  refine own_go (fun _ k => XS.bipush X0.here hx rfl (hb hby d5_13) k) ?_
  show own_Run p e below _ s₁ (mkF m 15 #[.val (.long v1), .second] [(.int (27 : Int32)), (.long v1), (.long v1)])
  refine own_go (fun _ k => XS.lushr X0.here hx rfl (hb hby d5_15) rfl k) ?_
  refine own_go (fun _ k => XS.lxor X0.here hx rfl (hb hby d5_16) rfl k) ?_
  show own_Run p e below _ s₁ (mkF m 17 #[.val (.long v1), .second] [(.long (v1 ^^^ ((v1.toUInt64 >>> ((27 : Int32) &&& 0x3f).toInt64.toUInt64).toInt64)))])
  refine own_go (X0.ldc2Long hx hown (mvT hZ (W 35 rfl)) (g := (mkF m 17 #[.val (.long v1), .second] [(.long (v1 ^^^ ((v1.toUInt64 >>> ((27 : Int32) &&& 0x3f).toInt64.toUInt64).toInt64)))])) rfl (hb hby d5_17)) ?_
  show own_Run p e below _ s₁ (mkF m 20 #[.val (.long v1), .second] [(.long (-7723592293110705685 : Int64)), (.long (v1 ^^^ ((v1.toUInt64 >>> ((27 : Int32) &&& 0x3f).toInt64.toUInt64).toInt64)))])
  refine own_go (fun _ k => XS.lmul X0.here hx rfl (hb hby d5_20) rfl k) ?_
  show own_Run p e below _ s₁ (mkF m 21 #[.val (.long v1), .second] [(.long ((v1 ^^^ ((v1.toUInt64 >>> ((27 : Int32) &&& 0x3f).toInt64.toUInt64).toInt64)) * (-7723592293110705685 : Int64)))])
  obtain ⟨v2, hv2⟩ : ∃ z, z = ((v1 ^^^ ((v1.toUInt64 >>> ((27 : Int32) &&& 0x3f).toInt64.toUInt64).toInt64)) * (-7723592293110705685 : Int64)) := ⟨_, rfl⟩
  rw [← hv2]
  show own_Run p e below _ s₁ (mkF m 21 #[.val (.long v1), .second] [(.long v2)])
  refine own_go (fun _ k => XS.lstoreN X0.here hx rfl (hb hby d5_21) rfl (l' := #[.val (.long v2), .second]) rfl k) ?_
  refine own_go (fun _ k => XS.lloadN X0.here hx rfl (hb hby d5_22) rfl k) ?_
  refine own_go (fun _ k => XS.lloadN X0.here hx rfl (hb hby d5_23) rfl k) ?_
  refine own_go (fun _ k => XS.bipush X0.here hx rfl (hb hby d5_24) k) ?_
  show own_Run p e below _ s₁ (mkF m 26 #[.val (.long v2), .second] [(.int (31 : Int32)), (.long v2), (.long v2)])
  refine own_go (fun _ k => XS.lushr X0.here hx rfl (hb hby d5_26) rfl k) ?_
  refine own_go (fun _ k => XS.lxor X0.here hx rfl (hb hby d5_27) rfl k) ?_
  show own_Run p e below _ s₁ (mkF m 28 #[.val (.long v2), .second] [(.long (v2 ^^^ ((v2.toUInt64 >>> ((31 : Int32) &&& 0x3f).toInt64.toUInt64).toInt64)))])
  refine own_done (Q := fun v h L => Q5 Z q1 h0 n0 v h L) (v := (some (.long (v2 ^^^ ((v2.toUInt64 >>> ((31 : Int32) &&& 0x3f).toInt64.toUInt64).toInt64))))) X0 (fun h => by rw [hret] at h; cases h) hlk (fun fs hr => own_retL X0 hx hret (hb hby d5_28) hr) ?_ (by decide) (by decide)
  show Q5 Z q1 h0 n0 _ s₁.heap _
  rw [e0]
  subst hv2 hv1
  exact ⟨rfl, N0, rfl⟩
theorem d3_0 : decode prog_2_method_13_code 0 = .ok (.ldc2_w 221, 3) := by decide +kernel
theorem d3_3 : decode prog_2_method_13_code 3 = .ok (.lstore_n 3, 1) := by decide +kernel
theorem d3_4 : decode prog_2_method_13_code 4 = .ok (.iload_n 2, 1) := by decide +kernel
theorem d3_5 : decode prog_2_method_13_code 5 = .ok (.aload_n 0, 1) := by decide +kernel
theorem d3_6 : decode prog_2_method_13_code 6 = .ok (.getfield 27, 3) := by decide +kernel
theorem d3_9 : decode prog_2_method_13_code 9 = .ok (.imul, 1) := by decide +kernel
theorem d3_10 : decode prog_2_method_13_code 10 = .ok (.istore 5, 2) := by decide +kernel
theorem d3_12 : decode prog_2_method_13_code 12 = .ok (.iload 5, 2) := by decide +kernel
theorem d3_14 : decode prog_2_method_13_code 14 = .ok (.iload_n 2, 1) := by decide +kernel
theorem d3_15 : decode prog_2_method_13_code 15 = .ok (.aload_n 0, 1) := by decide +kernel
theorem d3_16 : decode prog_2_method_13_code 16 = .ok (.getfield 27, 3) := by decide +kernel
theorem d3_19 : decode prog_2_method_13_code 19 = .ok (.imul, 1) := by decide +kernel
theorem d3_20 : decode prog_2_method_13_code 20 = .ok (.aload_n 0, 1) := by decide +kernel
theorem d3_21 : decode prog_2_method_13_code 21 = .ok (.getfield 27, 3) := by decide +kernel
theorem d3_24 : decode prog_2_method_13_code 24 = .ok (.iadd, 1) := by decide +kernel
theorem d3_25 : decode prog_2_method_13_code 25 = .ok (.if_icmp .ge 19, 3) := by decide +kernel
theorem d3_28 : decode prog_2_method_13_code 28 = .ok (.lload_n 3, 1) := by decide +kernel
theorem d3_29 : decode prog_2_method_13_code 29 = .ok (.aload_n 1, 1) := by decide +kernel
theorem d3_30 : decode prog_2_method_13_code 30 = .ok (.iload 5, 2) := by decide +kernel
theorem d3_32 : decode prog_2_method_13_code 32 = .ok (.laload, 1) := by decide +kernel
theorem d3_33 : decode prog_2_method_13_code 33 = .ok (.lxor, 1) := by decide +kernel
theorem d3_34 : decode prog_2_method_13_code 34 = .ok (.invokestatic 223, 3) := by decide +kernel
theorem d3_37 : decode prog_2_method_13_code 37 = .ok (.lstore_n 3, 1) := by decide +kernel
theorem d3_38 : decode prog_2_method_13_code 38 = .ok (.iinc 5 1, 3) := by decide +kernel
theorem d3_41 : decode prog_2_method_13_code 41 = .ok (.goto (-29), 3) := by decide +kernel
theorem d3_44 : decode prog_2_method_13_code 44 = .ok (.lload_n 3, 1) := by decide +kernel
theorem d3_45 : decode prog_2_method_13_code 45 = .ok (.lreturn, 1) := by decide +kernel
theorem pn_3 : plainName "com/example/near_duplicate_finder/nearduplicatefinder/Banding" = true := by first | (simp [plainName, overriddenIn]; done) | decide +kernel
theorem ef_3 (m : MethodId) (x0 : Addr) (x1 : Addr) (x2 : Int32) : entryFrame m #[(.ref x0), (.ref x1), (.int x2)] 6 = mkF m 0 #[.val (.ref x0), .val (.ref x1), .val (.int x2), .unset, .unset, .unset] [] := by first | (simp [entryFrame, mkF, argsToLocals, Value.category]; done) | rfl
theorem pd_1 : parseMethodDescriptor "(J)J" = some ⟨[.long], some .long⟩ := by decide +kernel
def Q3 (Z : State) (a1 : Addr) (a2 : Addr) (p3 : Int32) (w1 : Int32) (kk : ClassId) (v0 : Int64) (v1 : Int64) (v2 : Int64) (v3 : Int64) (v4 : Int64) (v5 : Int64) (r : Int64) (h0 : Heap) (n0 : Nat) (v : Option Value) (h : Heap) (L : List Loc) : Prop := v = some (.long r) ∧ Fr n0 L ∧ h = h0
set_option maxRecDepth 65536 in
set_option maxHeartbeats 40000000 in
theorem rm3 (l : Launch) (Z : State) (a0 : Array Value) (hw : ∀ d ∈ tables_1, d.before a0 Z = true) (ws : List Jvm.Cond) (a1 : Addr) (a2 : Addr) (p3 : Int32) (w1 : Int32) (kk : ClassId) (v0 : Int64) (v1 : Int64) (v2 : Int64) (v3 : Int64) (v4 : Int64) (v5 : Int64) (r : Int64) (h0 : Heap) (n0 : Nat) (Z0 : n0 ≤ h0.size) (F_rows_a1 : Fld Z h0 a1 "com/example/near_duplicate_finder/nearduplicatefinder/Banding" "rows" "I" (.int w1)) (V_a2 : Arv Z h0 a2 kk .long (6 : Int32) [(.long v0), (.long v1), (.long v2), (.long v3), (.long v4), (.long v5)] (.long (0 : Int64))) (hp : (p3 = (0 : Int32) ∧ w1 = (1 : Int32) ∧ r = (own_mix ((-7046029254386353131 : Int64) ^^^ v0))) ∨ (p3 = (1 : Int32) ∧ w1 = (1 : Int32) ∧ r = (own_mix ((-7046029254386353131 : Int64) ^^^ v1))) ∨ (p3 = (2 : Int32) ∧ w1 = (1 : Int32) ∧ r = (own_mix ((-7046029254386353131 : Int64) ^^^ v2))) ∨ (p3 = (3 : Int32) ∧ w1 = (1 : Int32) ∧ r = (own_mix ((-7046029254386353131 : Int64) ^^^ v3))) ∨ (p3 = (4 : Int32) ∧ w1 = (1 : Int32) ∧ r = (own_mix ((-7046029254386353131 : Int64) ^^^ v4))) ∨ (p3 = (5 : Int32) ∧ w1 = (1 : Int32) ∧ r = (own_mix ((-7046029254386353131 : Int64) ^^^ v5))) ∨ (p3 = (0 : Int32) ∧ w1 = (2 : Int32) ∧ r = (own_mix ((own_mix ((-7046029254386353131 : Int64) ^^^ v0)) ^^^ v1))) ∨ (p3 = (1 : Int32) ∧ w1 = (2 : Int32) ∧ r = (own_mix ((own_mix ((-7046029254386353131 : Int64) ^^^ v2)) ^^^ v3))) ∨ (p3 = (2 : Int32) ∧ w1 = (2 : Int32) ∧ r = (own_mix ((own_mix ((-7046029254386353131 : Int64) ^^^ v4)) ^^^ v5))) ∨ (p3 = (0 : Int32) ∧ w1 = (3 : Int32) ∧ r = (own_mix ((own_mix ((own_mix ((-7046029254386353131 : Int64) ^^^ v0)) ^^^ v1)) ^^^ v2))) ∨ (p3 = (1 : Int32) ∧ w1 = (3 : Int32) ∧ r = (own_mix ((own_mix ((own_mix ((-7046029254386353131 : Int64) ^^^ v3)) ^^^ v4)) ^^^ v5)))) :
    MetFree l (⟨"com/example/near_duplicate_finder/nearduplicatefinder/Banding", "key", "([JI)J"⟩ : MethodName) (head1 (Jvm.Cond.code (⟨"com/example/near_duplicate_finder/nearduplicatefinder/Banding", "key", "([JI)J"⟩ : MethodName) prog_2_method_13_code 6 (some .long) :: ws) ({ frames := 1, cells := 0, slots := 0, locals := 13 } : Room)) (fun a U => a = #[(.ref a1), (.ref a2), (.int p3)] ∧ Z.Warmed39 U.vm ∧ U.heap = h0) (fun _ _ _ _ _ => True) (fun _ U o U' => ∃ v L, o = .returned v ∧ Q3 Z a1 a2 p3 w1 kk v0 v1 v2 v3 v4 v5 r h0 n0 v U'.heap L ∧ FrameEnd U o U' L ({ frames := 1, cells := 0, slots := 0, locals := 13 } : Room).cells ({ frames := 1, cells := 0, slots := 0, locals := 13 } : Room).slots) := by
  refine MetFree.of_bodySF (plainFor_of_name pn_3) hisR ?_
  intro p e s m args below meth c s₁ Bd hml0 hP hK
  obtain ⟨rfl, hZ, hh⟩ := hP
  have hx := Bd.exec
  have hby := Bd.bytes
  have hml : c.maxLocals = 6 := hml0
  have hown : s.vm.findClass "com/example/near_duplicate_finder/nearduplicatefinder/Banding" = some m.cls := findClass_of_methodNamed Bd.named
  have hnm := (name_of_methodNamed Bd.named Bd.method).1
  have hret := Bd.returns
  have hlk : meth.locks = false := BodyLoose.notSynchronized Bd
  have X0 : Stand p l e ({ frames := 1, cells := 0, slots := 0, locals := 13 } : Room) s m #[(.ref a1), (.ref a2), (.int p3)] below meth c s₁ [] 0 0 := Stand.of_body Bd
  have e0 : s₁.heap = h0 := by rw [← hh, Bd.state]; rfl
  have N0 := Fr.nil n0
  have W := fun (k : Nat) {d : Jvm.Cond} (h : tables_1[k]? = some d) => hw d (List.mem_of_getElem? h)
  have K0 : Keep h0 h0 [] := Keep.refl _ _
  refine own_start (ef_3 m a1 a2 p3) ?_
  show own_Run p e below _ s₁ (mkF m 0 #[.val (.ref a1), .val (.ref a2), .val (.int p3), .unset, .unset, .unset] [])
  rcases hp with ⟨rfl, rfl, rfl⟩ | ⟨rfl, rfl, rfl⟩ | ⟨rfl, rfl, rfl⟩ | ⟨rfl, rfl, rfl⟩ | ⟨rfl, rfl, rfl⟩ | ⟨rfl, rfl, rfl⟩ | ⟨rfl, rfl, rfl⟩ | ⟨rfl, rfl, rfl⟩ | ⟨rfl, rfl, rfl⟩ | ⟨rfl, rfl, rfl⟩ | ⟨rfl, rfl, rfl⟩
  · show own_Run p e below _ s₁ (mkF m 0 #[.val (.ref a1), .val (.ref a2), .val (.int (0 : Int32)), .unset, .unset, .unset] [])
    refine own_go (X0.ldc2Long hx hown (mvT hZ (W 22 rfl)) (g := (mkF m 0 #[.val (.ref a1), .val (.ref a2), .val (.int (0 : Int32)), .unset, .unset, .unset] [])) rfl (hb hby d3_0)) ?_
    show own_Run p e below _ s₁ (mkF m 3 #[.val (.ref a1), .val (.ref a2), .val (.int (0 : Int32)), .unset, .unset, .unset] [(.long (-7046029254386353131 : Int64))])
    refine own_go (fun _ k => XS.lstoreN X0.here hx rfl (hb hby d3_3) rfl (l' := #[.val (.ref a1), .val (.ref a2), .val (.int (0 : Int32)), .val (.long (-7046029254386353131 : Int64)), .second, .unset]) rfl k) ?_
    refine own_go (fun _ k => XS.iloadN X0.here hx rfl (hb hby d3_4) rfl k) ?_
    refine own_go (fun _ k => XS.aloadN X0.here hx rfl (hb hby d3_5) rfl rfl k) ?_
    show own_Run p e below _ s₁ (mkF m 6 #[.val (.ref a1), .val (.ref a2), .val (.int (0 : Int32)), .val (.long (-7046029254386353131 : Int64)), .second, .unset] [(.ref a1), (.int (0 : Int32))])
    obtain ⟨T6, X6, e6, st6⟩ := getF X0 hx hZ hown (host := "") (Or.inl (W 15 rfl)) Via.refl e0 F_rows_a1 (g := (mkF m 6 #[.val (.ref a1), .val (.ref a2), .val (.int (0 : Int32)), .val (.long (-7046029254386353131 : Int64)), .second, .unset] [(.ref a1), (.int (0 : Int32))])) rfl rfl (hb hby d3_6)
    refine own_go st6 ?_
    show own_Run p e below _ T6 (mkF m 9 #[.val (.ref a1), .val (.ref a2), .val (.int (0 : Int32)), .val (.long (-7046029254386353131 : Int64)), .second, .unset] [(.int (1 : Int32)), (.int (0 : Int32))])
    refine own_go (fun _ k => XS.imul X6.here hx rfl (hb hby d3_9) rfl k) ?_
    show own_Run p e below _ T6 (mkF m 10 #[.val (.ref a1), .val (.ref a2), .val (.int (0 : Int32)), .val (.long (-7046029254386353131 : Int64)), .second, .unset] [(.int ((0 : Int32) * (1 : Int32)))])
    rw [show ((0 : Int32) * (1 : Int32)) = (0 : Int32) by decide]
    show own_Run p e below _ T6 (mkF m 10 #[.val (.ref a1), .val (.ref a2), .val (.int (0 : Int32)), .val (.long (-7046029254386353131 : Int64)), .second, .unset] [(.int (0 : Int32))])
    refine own_go (fun _ k => XS.istore X6.here hx rfl (hb hby d3_10) rfl (l' := #[.val (.ref a1), .val (.ref a2), .val (.int (0 : Int32)), .val (.long (-7046029254386353131 : Int64)), .second, .val (.int (0 : Int32))]) rfl k) ?_
    refine own_go (fun _ k => XS.iload X6.here hx rfl (hb hby d3_12) rfl k) ?_
    refine own_go (fun _ k => XS.iloadN X6.here hx rfl (hb hby d3_14) rfl k) ?_
    refine own_go (fun _ k => XS.aloadN X6.here hx rfl (hb hby d3_15) rfl rfl k) ?_
    show own_Run p e below _ T6 (mkF m 16 #[.val (.ref a1), .val (.ref a2), .val (.int (0 : Int32)), .val (.long (-7046029254386353131 : Int64)), .second, .val (.int (0 : Int32))] [(.ref a1), (.int (0 : Int32)), (.int (0 : Int32))])
    obtain ⟨T7, X7, e7, st7⟩ := getF X6 hx hZ hown (host := "") (Or.inl (W 15 rfl)) Via.refl e6 F_rows_a1 (g := (mkF m 16 #[.val (.ref a1), .val (.ref a2), .val (.int (0 : Int32)), .val (.long (-7046029254386353131 : Int64)), .second, .val (.int (0 : Int32))] [(.ref a1), (.int (0 : Int32)), (.int (0 : Int32))])) rfl rfl (hb hby d3_16)
    refine own_go st7 ?_
    show own_Run p e below _ T7 (mkF m 19 #[.val (.ref a1), .val (.ref a2), .val (.int (0 : Int32)), .val (.long (-7046029254386353131 : Int64)), .second, .val (.int (0 : Int32))] [(.int (1 : Int32)), (.int (0 : Int32)), (.int (0 : Int32))])
    refine own_go (fun _ k => XS.imul X7.here hx rfl (hb hby d3_19) rfl k) ?_
    show own_Run p e below _ T7 (mkF m 20 #[.val (.ref a1), .val (.ref a2), .val (.int (0 : Int32)), .val (.long (-7046029254386353131 : Int64)), .second, .val (.int (0 : Int32))] [(.int ((0 : Int32) * (1 : Int32))), (.int (0 : Int32))])
    rw [show ((0 : Int32) * (1 : Int32)) = (0 : Int32) by decide]
    show own_Run p e below _ T7 (mkF m 20 #[.val (.ref a1), .val (.ref a2), .val (.int (0 : Int32)), .val (.long (-7046029254386353131 : Int64)), .second, .val (.int (0 : Int32))] [(.int (0 : Int32)), (.int (0 : Int32))])
    refine own_go (fun _ k => XS.aloadN X7.here hx rfl (hb hby d3_20) rfl rfl k) ?_
    show own_Run p e below _ T7 (mkF m 21 #[.val (.ref a1), .val (.ref a2), .val (.int (0 : Int32)), .val (.long (-7046029254386353131 : Int64)), .second, .val (.int (0 : Int32))] [(.ref a1), (.int (0 : Int32)), (.int (0 : Int32))])
    obtain ⟨T8, X8, e8, st8⟩ := getF X7 hx hZ hown (host := "") (Or.inl (W 15 rfl)) Via.refl e7 F_rows_a1 (g := (mkF m 21 #[.val (.ref a1), .val (.ref a2), .val (.int (0 : Int32)), .val (.long (-7046029254386353131 : Int64)), .second, .val (.int (0 : Int32))] [(.ref a1), (.int (0 : Int32)), (.int (0 : Int32))])) rfl rfl (hb hby d3_21)
    refine own_go st8 ?_
    show own_Run p e below _ T8 (mkF m 24 #[.val (.ref a1), .val (.ref a2), .val (.int (0 : Int32)), .val (.long (-7046029254386353131 : Int64)), .second, .val (.int (0 : Int32))] [(.int (1 : Int32)), (.int (0 : Int32)), (.int (0 : Int32))])
    refine own_go (fun _ k => XS.iadd X8.here hx rfl (hb hby d3_24) rfl k) ?_
    show own_Run p e below _ T8 (mkF m 25 #[.val (.ref a1), .val (.ref a2), .val (.int (0 : Int32)), .val (.long (-7046029254386353131 : Int64)), .second, .val (.int (0 : Int32))] [(.int ((0 : Int32) + (1 : Int32))), (.int (0 : Int32))])
    rw [show ((0 : Int32) + (1 : Int32)) = (1 : Int32) by decide]
    show own_Run p e below _ T8 (mkF m 25 #[.val (.ref a1), .val (.ref a2), .val (.int (0 : Int32)), .val (.long (-7046029254386353131 : Int64)), .second, .val (.int (0 : Int32))] [(.int (1 : Int32)), (.int (0 : Int32))])
    refine own_go (fun _ k => XS.icmpNo X8.here hx rfl (hb hby d3_25) rfl (tlt (by decide : (0 : Int32) < (1 : Int32))).2.1 k) ?_
    show own_Run p e below _ T8 (mkF m 28 #[.val (.ref a1), .val (.ref a2), .val (.int (0 : Int32)), .val (.long (-7046029254386353131 : Int64)), .second, .val (.int (0 : Int32))] [])
    refine own_go (fun _ k => XS.lloadN X8.here hx rfl (hb hby d3_28) rfl k) ?_
    refine own_go (fun _ k => XS.aloadN X8.here hx rfl (hb hby d3_29) rfl rfl k) ?_
    refine own_go (fun _ k => XS.iload X8.here hx rfl (hb hby d3_30) rfl k) ?_
    show own_Run p e below _ T8 (mkF m 32 #[.val (.ref a1), .val (.ref a2), .val (.int (0 : Int32)), .val (.long (-7046029254386353131 : Int64)), .second, .val (.int (0 : Int32))] [(.int (0 : Int32)), (.ref a2), (.long (-7046029254386353131 : Int64))])
    obtain ⟨cl9, Ar9, q9, S9, N9, H9, G9⟩ := id V_a2
    have hin9 : ¬ ((0 : Int32) < 0 ∨ cl9.slots.size ≤ ((0 : Int32)).toNatClampNeg) := inb_of S9 ⟨by decide, by decide⟩
    refine own_go (X8.laload hx (j := (0 : Int32)) (v := (.long v0)) (by rw [e8]; exact Ar9.1) (State.isArrayOf_alike hZ.alike Ar9.2.1) Ar9.2.2 hin9 (H9.at hin9 rfl) (g := (mkF m 32 #[.val (.ref a1), .val (.ref a2), .val (.int (0 : Int32)), .val (.long (-7046029254386353131 : Int64)), .second, .val (.int (0 : Int32))] [(.int (0 : Int32)), (.ref a2), (.long (-7046029254386353131 : Int64))])) rfl rfl (hb hby d3_32)) ?_
    show own_Run p e below _ T8 (mkF m 33 #[.val (.ref a1), .val (.ref a2), .val (.int (0 : Int32)), .val (.long (-7046029254386353131 : Int64)), .second, .val (.int (0 : Int32))] [(.long v0), (.long (-7046029254386353131 : Int64))])
    refine own_go (fun _ k => XS.lxor X8.here hx rfl (hb hby d3_33) rfl k) ?_
    show own_Run p e below _ T8 (mkF m 34 #[.val (.ref a1), .val (.ref a2), .val (.int (0 : Int32)), .val (.long (-7046029254386353131 : Int64)), .second, .val (.int (0 : Int32))] [(.long ((-7046029254386353131 : Int64) ^^^ v0))])
    obtain ⟨_, _, ⟨T10, L10, k10, n10⟩, -, X10, ⟨Lc10, hQ10, l10, y10, z10⟩, st10⟩ := Jvm.LawKit.callS X8 hx (y := (⟨"com/example/near_duplicate_finder/nearduplicatefinder/ShingleHash", "mix", "(J)J"⟩ : MethodName)) hown (mvT hZ (W 23 rfl)) (mvT hZ (W 24 rfl)) (mvT hZ (W 25 rfl)) (mvT hZ (W 26 rfl)) (by decide) (backOf (W := 0) (rm4 l Z a0 hw [] ((-7046029254386353131 : Int64) ^^^ v0) h0 n0 Z0 ) hZ (W 26 rfl) (W 25 rfl) (by decide) (by decide)) (g := (mkF m 34 #[.val (.ref a1), .val (.ref a2), .val (.int (0 : Int32)), .val (.long (-7046029254386353131 : Int64)), .second, .val (.int (0 : Int32))] [(.long ((-7046029254386353131 : Int64) ^^^ v0))])) rfl (by rw [hml]; rfl) (argsL := [(.long ((-7046029254386353131 : Int64) ^^^ v0))]) (rest := []) (lenOf pd_1 rfl) rfl (by show 2 * 0 + _ ≤ _; exact Nat.le_of_eq rfl) (hb hby d3_34) (fun _ _ => ⟨rfl, e8, (by decide : 0 + 0 ≤ _), (by decide : 0 + 0 ≤ _)⟩)
    dsimp only [Pt.U, Pt.locs, Pt.cells, Pt.slots] at X10 l10 y10 z10 st10 hQ10
    subst l10 y10 z10
    obtain ⟨rfl, N10q, e10⟩ := hQ10
    have N10 := Fr.app N0 N10q
    refine own_go st10 ?_
    show own_Run p e below _ T10 (mkF m 37 #[.val (.ref a1), .val (.ref a2), .val (.int (0 : Int32)), .val (.long (-7046029254386353131 : Int64)), .second, .val (.int (0 : Int32))] [(.long (own_mix ((-7046029254386353131 : Int64) ^^^ v0)))])
    refine own_go (fun _ k => XS.lstoreN X10.here hx rfl (hb hby d3_37) rfl (l' := #[.val (.ref a1), .val (.ref a2), .val (.int (0 : Int32)), .val (.long (own_mix ((-7046029254386353131 : Int64) ^^^ v0))), .second, .val (.int (0 : Int32))]) rfl k) ?_
    refine own_go (fun _ k => XS.iinc X10.here hx rfl (hb hby d3_38) rfl (l' := #[.val (.ref a1), .val (.ref a2), .val (.int (0 : Int32)), .val (.long (own_mix ((-7046029254386353131 : Int64) ^^^ v0))), .second, .val (.int ((0 : Int32) + (1 : Int32)))]) rfl k) ?_
    show own_Run p e below _ T10 (mkF m 41 #[.val (.ref a1), .val (.ref a2), .val (.int (0 : Int32)), .val (.long (own_mix ((-7046029254386353131 : Int64) ^^^ v0))), .second, .val (.int ((0 : Int32) + (1 : Int32)))] [])
    rw [show ((0 : Int32) + (1 : Int32)) = (1 : Int32) by decide]
    show own_Run p e below _ T10 (mkF m 41 #[.val (.ref a1), .val (.ref a2), .val (.int (0 : Int32)), .val (.long (own_mix ((-7046029254386353131 : Int64) ^^^ v0))), .second, .val (.int (1 : Int32))] [])
    refine own_go (fun _ k => XS.goto X10.here hx rfl (pc0 := 41) (pc' := 12) rfl (hb hby d3_41) (by decide) (by decide) k) ?_
    refine own_go (fun _ k => XS.iload X10.here hx rfl (hb hby d3_12) rfl k) ?_
    refine own_go (fun _ k => XS.iloadN X10.here hx rfl (hb hby d3_14) rfl k) ?_
    refine own_go (fun _ k => XS.aloadN X10.here hx rfl (hb hby d3_15) rfl rfl k) ?_
    show own_Run p e below _ T10 (mkF m 16 #[.val (.ref a1), .val (.ref a2), .val (.int (0 : Int32)), .val (.long (own_mix ((-7046029254386353131 : Int64) ^^^ v0))), .second, .val (.int (1 : Int32))] [(.ref a1), (.int (0 : Int32)), (.int (1 : Int32))])
    obtain ⟨T11, X11, e11, st11⟩ := getF X10 hx hZ hown (host := "") (Or.inl (W 15 rfl)) Via.refl e10 F_rows_a1 (g := (mkF m 16 #[.val (.ref a1), .val (.ref a2), .val (.int (0 : Int32)), .val (.long (own_mix ((-7046029254386353131 : Int64) ^^^ v0))), .second, .val (.int (1 : Int32))] [(.ref a1), (.int (0 : Int32)), (.int (1 : Int32))])) rfl rfl (hb hby d3_16)
    refine own_go st11 ?_
    show own_Run p e below _ T11 (mkF m 19 #[.val (.ref a1), .val (.ref a2), .val (.int (0 : Int32)), .val (.long (own_mix ((-7046029254386353131 : Int64) ^^^ v0))), .second, .val (.int (1 : Int32))] [(.int (1 : Int32)), (.int (0 : Int32)), (.int (1 : Int32))])
    refine own_go (fun _ k => XS.imul X11.here hx rfl (hb hby d3_19) rfl k) ?_
    show own_Run p e below _ T11 (mkF m 20 #[.val (.ref a1), .val (.ref a2), .val (.int (0 : Int32)), .val (.long (own_mix ((-7046029254386353131 : Int64) ^^^ v0))), .second, .val (.int (1 : Int32))] [(.int ((0 : Int32) * (1 : Int32))), (.int (1 : Int32))])
    rw [show ((0 : Int32) * (1 : Int32)) = (0 : Int32) by decide]
    show own_Run p e below _ T11 (mkF m 20 #[.val (.ref a1), .val (.ref a2), .val (.int (0 : Int32)), .val (.long (own_mix ((-7046029254386353131 : Int64) ^^^ v0))), .second, .val (.int (1 : Int32))] [(.int (0 : Int32)), (.int (1 : Int32))])
    refine own_go (fun _ k => XS.aloadN X11.here hx rfl (hb hby d3_20) rfl rfl k) ?_
    show own_Run p e below _ T11 (mkF m 21 #[.val (.ref a1), .val (.ref a2), .val (.int (0 : Int32)), .val (.long (own_mix ((-7046029254386353131 : Int64) ^^^ v0))), .second, .val (.int (1 : Int32))] [(.ref a1), (.int (0 : Int32)), (.int (1 : Int32))])
    obtain ⟨T12, X12, e12, st12⟩ := getF X11 hx hZ hown (host := "") (Or.inl (W 15 rfl)) Via.refl e11 F_rows_a1 (g := (mkF m 21 #[.val (.ref a1), .val (.ref a2), .val (.int (0 : Int32)), .val (.long (own_mix ((-7046029254386353131 : Int64) ^^^ v0))), .second, .val (.int (1 : Int32))] [(.ref a1), (.int (0 : Int32)), (.int (1 : Int32))])) rfl rfl (hb hby d3_21)
    refine own_go st12 ?_
    show own_Run p e below _ T12 (mkF m 24 #[.val (.ref a1), .val (.ref a2), .val (.int (0 : Int32)), .val (.long (own_mix ((-7046029254386353131 : Int64) ^^^ v0))), .second, .val (.int (1 : Int32))] [(.int (1 : Int32)), (.int (0 : Int32)), (.int (1 : Int32))])
    refine own_go (fun _ k => XS.iadd X12.here hx rfl (hb hby d3_24) rfl k) ?_
    show own_Run p e below _ T12 (mkF m 25 #[.val (.ref a1), .val (.ref a2), .val (.int (0 : Int32)), .val (.long (own_mix ((-7046029254386353131 : Int64) ^^^ v0))), .second, .val (.int (1 : Int32))] [(.int ((0 : Int32) + (1 : Int32))), (.int (1 : Int32))])
    rw [show ((0 : Int32) + (1 : Int32)) = (1 : Int32) by decide]
    show own_Run p e below _ T12 (mkF m 25 #[.val (.ref a1), .val (.ref a2), .val (.int (0 : Int32)), .val (.long (own_mix ((-7046029254386353131 : Int64) ^^^ v0))), .second, .val (.int (1 : Int32))] [(.int (1 : Int32)), (.int (1 : Int32))])
    refine own_go (fun _ k => XS.icmpYes X12.here hx rfl (pc0 := 25) (pc' := 44) rfl (hb hby d3_25) rfl (flt (by decide : ¬ ((1 : Int32) < (1 : Int32)))).2.1 (by decide) (by decide) k) ?_
    show own_Run p e below _ T12 (mkF m 44 #[.val (.ref a1), .val (.ref a2), .val (.int (0 : Int32)), .val (.long (own_mix ((-7046029254386353131 : Int64) ^^^ v0))), .second, .val (.int (1 : Int32))] [])
    refine own_go (fun _ k => XS.lloadN X12.here hx rfl (hb hby d3_44) rfl k) ?_
    show own_Run p e below _ T12 (mkF m 45 #[.val (.ref a1), .val (.ref a2), .val (.int (0 : Int32)), .val (.long (own_mix ((-7046029254386353131 : Int64) ^^^ v0))), .second, .val (.int (1 : Int32))] [(.long (own_mix ((-7046029254386353131 : Int64) ^^^ v0)))])
    refine own_done (Q := fun v h L => Q3 Z a1 a2 (0 : Int32) (1 : Int32) kk v0 v1 v2 v3 v4 v5 (own_mix ((-7046029254386353131 : Int64) ^^^ v0)) h0 n0 v h L) (v := (some (.long (own_mix ((-7046029254386353131 : Int64) ^^^ v0))))) X12 (fun h => by rw [hret] at h; cases h) hlk (fun fs hr => own_retL X12 hx hret (hb hby d3_45) hr) ?_ (by decide) (by decide)
    show Q3 Z a1 a2 (0 : Int32) (1 : Int32) kk v0 v1 v2 v3 v4 v5 (own_mix ((-7046029254386353131 : Int64) ^^^ v0)) h0 n0 _ T12.heap _
    rw [e12]
    exact ⟨rfl, N10, rfl⟩
  · show own_Run p e below _ s₁ (mkF m 0 #[.val (.ref a1), .val (.ref a2), .val (.int (1 : Int32)), .unset, .unset, .unset] [])
    refine own_go (X0.ldc2Long hx hown (mvT hZ (W 22 rfl)) (g := (mkF m 0 #[.val (.ref a1), .val (.ref a2), .val (.int (1 : Int32)), .unset, .unset, .unset] [])) rfl (hb hby d3_0)) ?_
    show own_Run p e below _ s₁ (mkF m 3 #[.val (.ref a1), .val (.ref a2), .val (.int (1 : Int32)), .unset, .unset, .unset] [(.long (-7046029254386353131 : Int64))])
    refine own_go (fun _ k => XS.lstoreN X0.here hx rfl (hb hby d3_3) rfl (l' := #[.val (.ref a1), .val (.ref a2), .val (.int (1 : Int32)), .val (.long (-7046029254386353131 : Int64)), .second, .unset]) rfl k) ?_
    refine own_go (fun _ k => XS.iloadN X0.here hx rfl (hb hby d3_4) rfl k) ?_
    refine own_go (fun _ k => XS.aloadN X0.here hx rfl (hb hby d3_5) rfl rfl k) ?_
    show own_Run p e below _ s₁ (mkF m 6 #[.val (.ref a1), .val (.ref a2), .val (.int (1 : Int32)), .val (.long (-7046029254386353131 : Int64)), .second, .unset] [(.ref a1), (.int (1 : Int32))])
    obtain ⟨T13, X13, e13, st13⟩ := getF X0 hx hZ hown (host := "") (Or.inl (W 15 rfl)) Via.refl e0 F_rows_a1 (g := (mkF m 6 #[.val (.ref a1), .val (.ref a2), .val (.int (1 : Int32)), .val (.long (-7046029254386353131 : Int64)), .second, .unset] [(.ref a1), (.int (1 : Int32))])) rfl rfl (hb hby d3_6)
    refine own_go st13 ?_
    show own_Run p e below _ T13 (mkF m 9 #[.val (.ref a1), .val (.ref a2), .val (.int (1 : Int32)), .val (.long (-7046029254386353131 : Int64)), .second, .unset] [(.int (1 : Int32)), (.int (1 : Int32))])
    refine own_go (fun _ k => XS.imul X13.here hx rfl (hb hby d3_9) rfl k) ?_
    show own_Run p e below _ T13 (mkF m 10 #[.val (.ref a1), .val (.ref a2), .val (.int (1 : Int32)), .val (.long (-7046029254386353131 : Int64)), .second, .unset] [(.int ((1 : Int32) * (1 : Int32)))])
    rw [show ((1 : Int32) * (1 : Int32)) = (1 : Int32) by decide]
    show own_Run p e below _ T13 (mkF m 10 #[.val (.ref a1), .val (.ref a2), .val (.int (1 : Int32)), .val (.long (-7046029254386353131 : Int64)), .second, .unset] [(.int (1 : Int32))])
    refine own_go (fun _ k => XS.istore X13.here hx rfl (hb hby d3_10) rfl (l' := #[.val (.ref a1), .val (.ref a2), .val (.int (1 : Int32)), .val (.long (-7046029254386353131 : Int64)), .second, .val (.int (1 : Int32))]) rfl k) ?_
    refine own_go (fun _ k => XS.iload X13.here hx rfl (hb hby d3_12) rfl k) ?_
    refine own_go (fun _ k => XS.iloadN X13.here hx rfl (hb hby d3_14) rfl k) ?_
    refine own_go (fun _ k => XS.aloadN X13.here hx rfl (hb hby d3_15) rfl rfl k) ?_
    show own_Run p e below _ T13 (mkF m 16 #[.val (.ref a1), .val (.ref a2), .val (.int (1 : Int32)), .val (.long (-7046029254386353131 : Int64)), .second, .val (.int (1 : Int32))] [(.ref a1), (.int (1 : Int32)), (.int (1 : Int32))])
    obtain ⟨T14, X14, e14, st14⟩ := getF X13 hx hZ hown (host := "") (Or.inl (W 15 rfl)) Via.refl e13 F_rows_a1 (g := (mkF m 16 #[.val (.ref a1), .val (.ref a2), .val (.int (1 : Int32)), .val (.long (-7046029254386353131 : Int64)), .second, .val (.int (1 : Int32))] [(.ref a1), (.int (1 : Int32)), (.int (1 : Int32))])) rfl rfl (hb hby d3_16)
    refine own_go st14 ?_
    show own_Run p e below _ T14 (mkF m 19 #[.val (.ref a1), .val (.ref a2), .val (.int (1 : Int32)), .val (.long (-7046029254386353131 : Int64)), .second, .val (.int (1 : Int32))] [(.int (1 : Int32)), (.int (1 : Int32)), (.int (1 : Int32))])
    refine own_go (fun _ k => XS.imul X14.here hx rfl (hb hby d3_19) rfl k) ?_
    show own_Run p e below _ T14 (mkF m 20 #[.val (.ref a1), .val (.ref a2), .val (.int (1 : Int32)), .val (.long (-7046029254386353131 : Int64)), .second, .val (.int (1 : Int32))] [(.int ((1 : Int32) * (1 : Int32))), (.int (1 : Int32))])
    rw [show ((1 : Int32) * (1 : Int32)) = (1 : Int32) by decide]
    show own_Run p e below _ T14 (mkF m 20 #[.val (.ref a1), .val (.ref a2), .val (.int (1 : Int32)), .val (.long (-7046029254386353131 : Int64)), .second, .val (.int (1 : Int32))] [(.int (1 : Int32)), (.int (1 : Int32))])
    refine own_go (fun _ k => XS.aloadN X14.here hx rfl (hb hby d3_20) rfl rfl k) ?_
    show own_Run p e below _ T14 (mkF m 21 #[.val (.ref a1), .val (.ref a2), .val (.int (1 : Int32)), .val (.long (-7046029254386353131 : Int64)), .second, .val (.int (1 : Int32))] [(.ref a1), (.int (1 : Int32)), (.int (1 : Int32))])
    obtain ⟨T15, X15, e15, st15⟩ := getF X14 hx hZ hown (host := "") (Or.inl (W 15 rfl)) Via.refl e14 F_rows_a1 (g := (mkF m 21 #[.val (.ref a1), .val (.ref a2), .val (.int (1 : Int32)), .val (.long (-7046029254386353131 : Int64)), .second, .val (.int (1 : Int32))] [(.ref a1), (.int (1 : Int32)), (.int (1 : Int32))])) rfl rfl (hb hby d3_21)
    refine own_go st15 ?_
    show own_Run p e below _ T15 (mkF m 24 #[.val (.ref a1), .val (.ref a2), .val (.int (1 : Int32)), .val (.long (-7046029254386353131 : Int64)), .second, .val (.int (1 : Int32))] [(.int (1 : Int32)), (.int (1 : Int32)), (.int (1 : Int32))])
    refine own_go (fun _ k => XS.iadd X15.here hx rfl (hb hby d3_24) rfl k) ?_
    show own_Run p e below _ T15 (mkF m 25 #[.val (.ref a1), .val (.ref a2), .val (.int (1 : Int32)), .val (.long (-7046029254386353131 : Int64)), .second, .val (.int (1 : Int32))] [(.int ((1 : Int32) + (1 : Int32))), (.int (1 : Int32))])
    rw [show ((1 : Int32) + (1 : Int32)) = (2 : Int32) by decide]
    show own_Run p e below _ T15 (mkF m 25 #[.val (.ref a1), .val (.ref a2), .val (.int (1 : Int32)), .val (.long (-7046029254386353131 : Int64)), .second, .val (.int (1 : Int32))] [(.int (2 : Int32)), (.int (1 : Int32))])
    refine own_go (fun _ k => XS.icmpNo X15.here hx rfl (hb hby d3_25) rfl (tlt (by decide : (1 : Int32) < (2 : Int32))).2.1 k) ?_
    show own_Run p e below _ T15 (mkF m 28 #[.val (.ref a1), .val (.ref a2), .val (.int (1 : Int32)), .val (.long (-7046029254386353131 : Int64)), .second, .val (.int (1 : Int32))] [])
    refine own_go (fun _ k => XS.lloadN X15.here hx rfl (hb hby d3_28) rfl k) ?_
    refine own_go (fun _ k => XS.aloadN X15.here hx rfl (hb hby d3_29) rfl rfl k) ?_
    refine own_go (fun _ k => XS.iload X15.here hx rfl (hb hby d3_30) rfl k) ?_
    show own_Run p e below _ T15 (mkF m 32 #[.val (.ref a1), .val (.ref a2), .val (.int (1 : Int32)), .val (.long (-7046029254386353131 : Int64)), .second, .val (.int (1 : Int32))] [(.int (1 : Int32)), (.ref a2), (.long (-7046029254386353131 : Int64))])
    obtain ⟨cl16, Ar16, q16, S16, N16, H16, G16⟩ := id V_a2
    have hin16 : ¬ ((1 : Int32) < 0 ∨ cl16.slots.size ≤ ((1 : Int32)).toNatClampNeg) := inb_of S16 ⟨by decide, by decide⟩
    refine own_go (X15.laload hx (j := (1 : Int32)) (v := (.long v1)) (by rw [e15]; exact Ar16.1) (State.isArrayOf_alike hZ.alike Ar16.2.1) Ar16.2.2 hin16 (H16.at hin16 rfl) (g := (mkF m 32 #[.val (.ref a1), .val (.ref a2), .val (.int (1 : Int32)), .val (.long (-7046029254386353131 : Int64)), .second, .val (.int (1 : Int32))] [(.int (1 : Int32)), (.ref a2), (.long (-7046029254386353131 : Int64))])) rfl rfl (hb hby d3_32)) ?_
    show own_Run p e below _ T15 (mkF m 33 #[.val (.ref a1), .val (.ref a2), .val (.int (1 : Int32)), .val (.long (-7046029254386353131 : Int64)), .second, .val (.int (1 : Int32))] [(.long v1), (.long (-7046029254386353131 : Int64))])
    refine own_go (fun _ k => XS.lxor X15.here hx rfl (hb hby d3_33) rfl k) ?_
    show own_Run p e below _ T15 (mkF m 34 #[.val (.ref a1), .val (.ref a2), .val (.int (1 : Int32)), .val (.long (-7046029254386353131 : Int64)), .second, .val (.int (1 : Int32))] [(.long ((-7046029254386353131 : Int64) ^^^ v1))])
    obtain ⟨_, _, ⟨T17, L17, k17, n17⟩, -, X17, ⟨Lc17, hQ17, l17, y17, z17⟩, st17⟩ := Jvm.LawKit.callS X15 hx (y := (⟨"com/example/near_duplicate_finder/nearduplicatefinder/ShingleHash", "mix", "(J)J"⟩ : MethodName)) hown (mvT hZ (W 23 rfl)) (mvT hZ (W 24 rfl)) (mvT hZ (W 25 rfl)) (mvT hZ (W 26 rfl)) (by decide) (backOf (W := 0) (rm4 l Z a0 hw [] ((-7046029254386353131 : Int64) ^^^ v1) h0 n0 Z0 ) hZ (W 26 rfl) (W 25 rfl) (by decide) (by decide)) (g := (mkF m 34 #[.val (.ref a1), .val (.ref a2), .val (.int (1 : Int32)), .val (.long (-7046029254386353131 : Int64)), .second, .val (.int (1 : Int32))] [(.long ((-7046029254386353131 : Int64) ^^^ v1))])) rfl (by rw [hml]; rfl) (argsL := [(.long ((-7046029254386353131 : Int64) ^^^ v1))]) (rest := []) (lenOf pd_1 rfl) rfl (by show 2 * 0 + _ ≤ _; exact Nat.le_of_eq rfl) (hb hby d3_34) (fun _ _ => ⟨rfl, e15, (by decide : 0 + 0 ≤ _), (by decide : 0 + 0 ≤ _)⟩)
    dsimp only [Pt.U, Pt.locs, Pt.cells, Pt.slots] at X17 l17 y17 z17 st17 hQ17
    subst l17 y17 z17
    obtain ⟨rfl, N17q, e17⟩ := hQ17
    have N17 := Fr.app N0 N17q
    refine own_go st17 ?_
    show own_Run p e below _ T17 (mkF m 37 #[.val (.ref a1), .val (.ref a2), .val (.int (1 : Int32)), .val (.long (-7046029254386353131 : Int64)), .second, .val (.int (1 : Int32))] [(.long (own_mix ((-7046029254386353131 : Int64) ^^^ v1)))])
    refine own_go (fun _ k => XS.lstoreN X17.here hx rfl (hb hby d3_37) rfl (l' := #[.val (.ref a1), .val (.ref a2), .val (.int (1 : Int32)), .val (.long (own_mix ((-7046029254386353131 : Int64) ^^^ v1))), .second, .val (.int (1 : Int32))]) rfl k) ?_
    refine own_go (fun _ k => XS.iinc X17.here hx rfl (hb hby d3_38) rfl (l' := #[.val (.ref a1), .val (.ref a2), .val (.int (1 : Int32)), .val (.long (own_mix ((-7046029254386353131 : Int64) ^^^ v1))), .second, .val (.int ((1 : Int32) + (1 : Int32)))]) rfl k) ?_
    show own_Run p e below _ T17 (mkF m 41 #[.val (.ref a1), .val (.ref a2), .val (.int (1 : Int32)), .val (.long (own_mix ((-7046029254386353131 : Int64) ^^^ v1))), .second, .val (.int ((1 : Int32) + (1 : Int32)))] [])
    rw [show ((1 : Int32) + (1 : Int32)) = (2 : Int32) by decide]
    show own_Run p e below _ T17 (mkF m 41 #[.val (.ref a1), .val (.ref a2), .val (.int (1 : Int32)), .val (.long (own_mix ((-7046029254386353131 : Int64) ^^^ v1))), .second, .val (.int (2 : Int32))] [])
    refine own_go (fun _ k => XS.goto X17.here hx rfl (pc0 := 41) (pc' := 12) rfl (hb hby d3_41) (by decide) (by decide) k) ?_
    refine own_go (fun _ k => XS.iload X17.here hx rfl (hb hby d3_12) rfl k) ?_
    refine own_go (fun _ k => XS.iloadN X17.here hx rfl (hb hby d3_14) rfl k) ?_
    refine own_go (fun _ k => XS.aloadN X17.here hx rfl (hb hby d3_15) rfl rfl k) ?_
    show own_Run p e below _ T17 (mkF m 16 #[.val (.ref a1), .val (.ref a2), .val (.int (1 : Int32)), .val (.long (own_mix ((-7046029254386353131 : Int64) ^^^ v1))), .second, .val (.int (2 : Int32))] [(.ref a1), (.int (1 : Int32)), (.int (2 : Int32))])
    obtain ⟨T18, X18, e18, st18⟩ := getF X17 hx hZ hown (host := "") (Or.inl (W 15 rfl)) Via.refl e17 F_rows_a1 (g := (mkF m 16 #[.val (.ref a1), .val (.ref a2), .val (.int (1 : Int32)), .val (.long (own_mix ((-7046029254386353131 : Int64) ^^^ v1))), .second, .val (.int (2 : Int32))] [(.ref a1), (.int (1 : Int32)), (.int (2 : Int32))])) rfl rfl (hb hby d3_16)
    refine own_go st18 ?_
    show own_Run p e below _ T18 (mkF m 19 #[.val (.ref a1), .val (.ref a2), .val (.int (1 : Int32)), .val (.long (own_mix ((-7046029254386353131 : Int64) ^^^ v1))), .second, .val (.int (2 : Int32))] [(.int (1 : Int32)), (.int (1 : Int32)), (.int (2 : Int32))])
    refine own_go (fun _ k => XS.imul X18.here hx rfl (hb hby d3_19) rfl k) ?_
    show own_Run p e below _ T18 (mkF m 20 #[.val (.ref a1), .val (.ref a2), .val (.int (1 : Int32)), .val (.long (own_mix ((-7046029254386353131 : Int64) ^^^ v1))), .second, .val (.int (2 : Int32))] [(.int ((1 : Int32) * (1 : Int32))), (.int (2 : Int32))])
    rw [show ((1 : Int32) * (1 : Int32)) = (1 : Int32) by decide]
    show own_Run p e below _ T18 (mkF m 20 #[.val (.ref a1), .val (.ref a2), .val (.int (1 : Int32)), .val (.long (own_mix ((-7046029254386353131 : Int64) ^^^ v1))), .second, .val (.int (2 : Int32))] [(.int (1 : Int32)), (.int (2 : Int32))])
    refine own_go (fun _ k => XS.aloadN X18.here hx rfl (hb hby d3_20) rfl rfl k) ?_
    show own_Run p e below _ T18 (mkF m 21 #[.val (.ref a1), .val (.ref a2), .val (.int (1 : Int32)), .val (.long (own_mix ((-7046029254386353131 : Int64) ^^^ v1))), .second, .val (.int (2 : Int32))] [(.ref a1), (.int (1 : Int32)), (.int (2 : Int32))])
    obtain ⟨T19, X19, e19, st19⟩ := getF X18 hx hZ hown (host := "") (Or.inl (W 15 rfl)) Via.refl e18 F_rows_a1 (g := (mkF m 21 #[.val (.ref a1), .val (.ref a2), .val (.int (1 : Int32)), .val (.long (own_mix ((-7046029254386353131 : Int64) ^^^ v1))), .second, .val (.int (2 : Int32))] [(.ref a1), (.int (1 : Int32)), (.int (2 : Int32))])) rfl rfl (hb hby d3_21)
    refine own_go st19 ?_
    show own_Run p e below _ T19 (mkF m 24 #[.val (.ref a1), .val (.ref a2), .val (.int (1 : Int32)), .val (.long (own_mix ((-7046029254386353131 : Int64) ^^^ v1))), .second, .val (.int (2 : Int32))] [(.int (1 : Int32)), (.int (1 : Int32)), (.int (2 : Int32))])
    refine own_go (fun _ k => XS.iadd X19.here hx rfl (hb hby d3_24) rfl k) ?_
    show own_Run p e below _ T19 (mkF m 25 #[.val (.ref a1), .val (.ref a2), .val (.int (1 : Int32)), .val (.long (own_mix ((-7046029254386353131 : Int64) ^^^ v1))), .second, .val (.int (2 : Int32))] [(.int ((1 : Int32) + (1 : Int32))), (.int (2 : Int32))])
    rw [show ((1 : Int32) + (1 : Int32)) = (2 : Int32) by decide]
    show own_Run p e below _ T19 (mkF m 25 #[.val (.ref a1), .val (.ref a2), .val (.int (1 : Int32)), .val (.long (own_mix ((-7046029254386353131 : Int64) ^^^ v1))), .second, .val (.int (2 : Int32))] [(.int (2 : Int32)), (.int (2 : Int32))])
    refine own_go (fun _ k => XS.icmpYes X19.here hx rfl (pc0 := 25) (pc' := 44) rfl (hb hby d3_25) rfl (flt (by decide : ¬ ((2 : Int32) < (2 : Int32)))).2.1 (by decide) (by decide) k) ?_
    show own_Run p e below _ T19 (mkF m 44 #[.val (.ref a1), .val (.ref a2), .val (.int (1 : Int32)), .val (.long (own_mix ((-7046029254386353131 : Int64) ^^^ v1))), .second, .val (.int (2 : Int32))] [])
    refine own_go (fun _ k => XS.lloadN X19.here hx rfl (hb hby d3_44) rfl k) ?_
    show own_Run p e below _ T19 (mkF m 45 #[.val (.ref a1), .val (.ref a2), .val (.int (1 : Int32)), .val (.long (own_mix ((-7046029254386353131 : Int64) ^^^ v1))), .second, .val (.int (2 : Int32))] [(.long (own_mix ((-7046029254386353131 : Int64) ^^^ v1)))])
    refine own_done (Q := fun v h L => Q3 Z a1 a2 (1 : Int32) (1 : Int32) kk v0 v1 v2 v3 v4 v5 (own_mix ((-7046029254386353131 : Int64) ^^^ v1)) h0 n0 v h L) (v := (some (.long (own_mix ((-7046029254386353131 : Int64) ^^^ v1))))) X19 (fun h => by rw [hret] at h; cases h) hlk (fun fs hr => own_retL X19 hx hret (hb hby d3_45) hr) ?_ (by decide) (by decide)
    show Q3 Z a1 a2 (1 : Int32) (1 : Int32) kk v0 v1 v2 v3 v4 v5 (own_mix ((-7046029254386353131 : Int64) ^^^ v1)) h0 n0 _ T19.heap _
    rw [e19]
    exact ⟨rfl, N17, rfl⟩
  · show own_Run p e below _ s₁ (mkF m 0 #[.val (.ref a1), .val (.ref a2), .val (.int (2 : Int32)), .unset, .unset, .unset] [])
    refine own_go (X0.ldc2Long hx hown (mvT hZ (W 22 rfl)) (g := (mkF m 0 #[.val (.ref a1), .val (.ref a2), .val (.int (2 : Int32)), .unset, .unset, .unset] [])) rfl (hb hby d3_0)) ?_
    show own_Run p e below _ s₁ (mkF m 3 #[.val (.ref a1), .val (.ref a2), .val (.int (2 : Int32)), .unset, .unset, .unset] [(.long (-7046029254386353131 : Int64))])
    refine own_go (fun _ k => XS.lstoreN X0.here hx rfl (hb hby d3_3) rfl (l' := #[.val (.ref a1), .val (.ref a2), .val (.int (2 : Int32)), .val (.long (-7046029254386353131 : Int64)), .second, .unset]) rfl k) ?_
    refine own_go (fun _ k => XS.iloadN X0.here hx rfl (hb hby d3_4) rfl k) ?_
    refine own_go (fun _ k => XS.aloadN X0.here hx rfl (hb hby d3_5) rfl rfl k) ?_
    show own_Run p e below _ s₁ (mkF m 6 #[.val (.ref a1), .val (.ref a2), .val (.int (2 : Int32)), .val (.long (-7046029254386353131 : Int64)), .second, .unset] [(.ref a1), (.int (2 : Int32))])
    obtain ⟨T20, X20, e20, st20⟩ := getF X0 hx hZ hown (host := "") (Or.inl (W 15 rfl)) Via.refl e0 F_rows_a1 (g := (mkF m 6 #[.val (.ref a1), .val (.ref a2), .val (.int (2 : Int32)), .val (.long (-7046029254386353131 : Int64)), .second, .unset] [(.ref a1), (.int (2 : Int32))])) rfl rfl (hb hby d3_6)
    refine own_go st20 ?_
    show own_Run p e below _ T20 (mkF m 9 #[.val (.ref a1), .val (.ref a2), .val (.int (2 : Int32)), .val (.long (-7046029254386353131 : Int64)), .second, .unset] [(.int (1 : Int32)), (.int (2 : Int32))])
    refine own_go (fun _ k => XS.imul X20.here hx rfl (hb hby d3_9) rfl k) ?_
    show own_Run p e below _ T20 (mkF m 10 #[.val (.ref a1), .val (.ref a2), .val (.int (2 : Int32)), .val (.long (-7046029254386353131 : Int64)), .second, .unset] [(.int ((2 : Int32) * (1 : Int32)))])
    rw [show ((2 : Int32) * (1 : Int32)) = (2 : Int32) by decide]
    show own_Run p e below _ T20 (mkF m 10 #[.val (.ref a1), .val (.ref a2), .val (.int (2 : Int32)), .val (.long (-7046029254386353131 : Int64)), .second, .unset] [(.int (2 : Int32))])
    refine own_go (fun _ k => XS.istore X20.here hx rfl (hb hby d3_10) rfl (l' := #[.val (.ref a1), .val (.ref a2), .val (.int (2 : Int32)), .val (.long (-7046029254386353131 : Int64)), .second, .val (.int (2 : Int32))]) rfl k) ?_
    refine own_go (fun _ k => XS.iload X20.here hx rfl (hb hby d3_12) rfl k) ?_
    refine own_go (fun _ k => XS.iloadN X20.here hx rfl (hb hby d3_14) rfl k) ?_
    refine own_go (fun _ k => XS.aloadN X20.here hx rfl (hb hby d3_15) rfl rfl k) ?_
    show own_Run p e below _ T20 (mkF m 16 #[.val (.ref a1), .val (.ref a2), .val (.int (2 : Int32)), .val (.long (-7046029254386353131 : Int64)), .second, .val (.int (2 : Int32))] [(.ref a1), (.int (2 : Int32)), (.int (2 : Int32))])
    obtain ⟨T21, X21, e21, st21⟩ := getF X20 hx hZ hown (host := "") (Or.inl (W 15 rfl)) Via.refl e20 F_rows_a1 (g := (mkF m 16 #[.val (.ref a1), .val (.ref a2), .val (.int (2 : Int32)), .val (.long (-7046029254386353131 : Int64)), .second, .val (.int (2 : Int32))] [(.ref a1), (.int (2 : Int32)), (.int (2 : Int32))])) rfl rfl (hb hby d3_16)
    refine own_go st21 ?_
    show own_Run p e below _ T21 (mkF m 19 #[.val (.ref a1), .val (.ref a2), .val (.int (2 : Int32)), .val (.long (-7046029254386353131 : Int64)), .second, .val (.int (2 : Int32))] [(.int (1 : Int32)), (.int (2 : Int32)), (.int (2 : Int32))])
    refine own_go (fun _ k => XS.imul X21.here hx rfl (hb hby d3_19) rfl k) ?_
    show own_Run p e below _ T21 (mkF m 20 #[.val (.ref a1), .val (.ref a2), .val (.int (2 : Int32)), .val (.long (-7046029254386353131 : Int64)), .second, .val (.int (2 : Int32))] [(.int ((2 : Int32) * (1 : Int32))), (.int (2 : Int32))])
    rw [show ((2 : Int32) * (1 : Int32)) = (2 : Int32) by decide]
    show own_Run p e below _ T21 (mkF m 20 #[.val (.ref a1), .val (.ref a2), .val (.int (2 : Int32)), .val (.long (-7046029254386353131 : Int64)), .second, .val (.int (2 : Int32))] [(.int (2 : Int32)), (.int (2 : Int32))])
    refine own_go (fun _ k => XS.aloadN X21.here hx rfl (hb hby d3_20) rfl rfl k) ?_
    show own_Run p e below _ T21 (mkF m 21 #[.val (.ref a1), .val (.ref a2), .val (.int (2 : Int32)), .val (.long (-7046029254386353131 : Int64)), .second, .val (.int (2 : Int32))] [(.ref a1), (.int (2 : Int32)), (.int (2 : Int32))])
    obtain ⟨T22, X22, e22, st22⟩ := getF X21 hx hZ hown (host := "") (Or.inl (W 15 rfl)) Via.refl e21 F_rows_a1 (g := (mkF m 21 #[.val (.ref a1), .val (.ref a2), .val (.int (2 : Int32)), .val (.long (-7046029254386353131 : Int64)), .second, .val (.int (2 : Int32))] [(.ref a1), (.int (2 : Int32)), (.int (2 : Int32))])) rfl rfl (hb hby d3_21)
    refine own_go st22 ?_
    show own_Run p e below _ T22 (mkF m 24 #[.val (.ref a1), .val (.ref a2), .val (.int (2 : Int32)), .val (.long (-7046029254386353131 : Int64)), .second, .val (.int (2 : Int32))] [(.int (1 : Int32)), (.int (2 : Int32)), (.int (2 : Int32))])
    refine own_go (fun _ k => XS.iadd X22.here hx rfl (hb hby d3_24) rfl k) ?_
    show own_Run p e below _ T22 (mkF m 25 #[.val (.ref a1), .val (.ref a2), .val (.int (2 : Int32)), .val (.long (-7046029254386353131 : Int64)), .second, .val (.int (2 : Int32))] [(.int ((2 : Int32) + (1 : Int32))), (.int (2 : Int32))])
    rw [show ((2 : Int32) + (1 : Int32)) = (3 : Int32) by decide]
    show own_Run p e below _ T22 (mkF m 25 #[.val (.ref a1), .val (.ref a2), .val (.int (2 : Int32)), .val (.long (-7046029254386353131 : Int64)), .second, .val (.int (2 : Int32))] [(.int (3 : Int32)), (.int (2 : Int32))])
    refine own_go (fun _ k => XS.icmpNo X22.here hx rfl (hb hby d3_25) rfl (tlt (by decide : (2 : Int32) < (3 : Int32))).2.1 k) ?_
    show own_Run p e below _ T22 (mkF m 28 #[.val (.ref a1), .val (.ref a2), .val (.int (2 : Int32)), .val (.long (-7046029254386353131 : Int64)), .second, .val (.int (2 : Int32))] [])
    refine own_go (fun _ k => XS.lloadN X22.here hx rfl (hb hby d3_28) rfl k) ?_
    refine own_go (fun _ k => XS.aloadN X22.here hx rfl (hb hby d3_29) rfl rfl k) ?_
    refine own_go (fun _ k => XS.iload X22.here hx rfl (hb hby d3_30) rfl k) ?_
    show own_Run p e below _ T22 (mkF m 32 #[.val (.ref a1), .val (.ref a2), .val (.int (2 : Int32)), .val (.long (-7046029254386353131 : Int64)), .second, .val (.int (2 : Int32))] [(.int (2 : Int32)), (.ref a2), (.long (-7046029254386353131 : Int64))])
    obtain ⟨cl23, Ar23, q23, S23, N23, H23, G23⟩ := id V_a2
    have hin23 : ¬ ((2 : Int32) < 0 ∨ cl23.slots.size ≤ ((2 : Int32)).toNatClampNeg) := inb_of S23 ⟨by decide, by decide⟩
    refine own_go (X22.laload hx (j := (2 : Int32)) (v := (.long v2)) (by rw [e22]; exact Ar23.1) (State.isArrayOf_alike hZ.alike Ar23.2.1) Ar23.2.2 hin23 (H23.at hin23 rfl) (g := (mkF m 32 #[.val (.ref a1), .val (.ref a2), .val (.int (2 : Int32)), .val (.long (-7046029254386353131 : Int64)), .second, .val (.int (2 : Int32))] [(.int (2 : Int32)), (.ref a2), (.long (-7046029254386353131 : Int64))])) rfl rfl (hb hby d3_32)) ?_
    show own_Run p e below _ T22 (mkF m 33 #[.val (.ref a1), .val (.ref a2), .val (.int (2 : Int32)), .val (.long (-7046029254386353131 : Int64)), .second, .val (.int (2 : Int32))] [(.long v2), (.long (-7046029254386353131 : Int64))])
    refine own_go (fun _ k => XS.lxor X22.here hx rfl (hb hby d3_33) rfl k) ?_
    show own_Run p e below _ T22 (mkF m 34 #[.val (.ref a1), .val (.ref a2), .val (.int (2 : Int32)), .val (.long (-7046029254386353131 : Int64)), .second, .val (.int (2 : Int32))] [(.long ((-7046029254386353131 : Int64) ^^^ v2))])
    obtain ⟨_, _, ⟨T24, L24, k24, n24⟩, -, X24, ⟨Lc24, hQ24, l24, y24, z24⟩, st24⟩ := Jvm.LawKit.callS X22 hx (y := (⟨"com/example/near_duplicate_finder/nearduplicatefinder/ShingleHash", "mix", "(J)J"⟩ : MethodName)) hown (mvT hZ (W 23 rfl)) (mvT hZ (W 24 rfl)) (mvT hZ (W 25 rfl)) (mvT hZ (W 26 rfl)) (by decide) (backOf (W := 0) (rm4 l Z a0 hw [] ((-7046029254386353131 : Int64) ^^^ v2) h0 n0 Z0 ) hZ (W 26 rfl) (W 25 rfl) (by decide) (by decide)) (g := (mkF m 34 #[.val (.ref a1), .val (.ref a2), .val (.int (2 : Int32)), .val (.long (-7046029254386353131 : Int64)), .second, .val (.int (2 : Int32))] [(.long ((-7046029254386353131 : Int64) ^^^ v2))])) rfl (by rw [hml]; rfl) (argsL := [(.long ((-7046029254386353131 : Int64) ^^^ v2))]) (rest := []) (lenOf pd_1 rfl) rfl (by show 2 * 0 + _ ≤ _; exact Nat.le_of_eq rfl) (hb hby d3_34) (fun _ _ => ⟨rfl, e22, (by decide : 0 + 0 ≤ _), (by decide : 0 + 0 ≤ _)⟩)
    dsimp only [Pt.U, Pt.locs, Pt.cells, Pt.slots] at X24 l24 y24 z24 st24 hQ24
    subst l24 y24 z24
    obtain ⟨rfl, N24q, e24⟩ := hQ24
    have N24 := Fr.app N0 N24q
    refine own_go st24 ?_
    show own_Run p e below _ T24 (mkF m 37 #[.val (.ref a1), .val (.ref a2), .val (.int (2 : Int32)), .val (.long (-7046029254386353131 : Int64)), .second, .val (.int (2 : Int32))] [(.long (own_mix ((-7046029254386353131 : Int64) ^^^ v2)))])
    refine own_go (fun _ k => XS.lstoreN X24.here hx rfl (hb hby d3_37) rfl (l' := #[.val (.ref a1), .val (.ref a2), .val (.int (2 : Int32)), .val (.long (own_mix ((-7046029254386353131 : Int64) ^^^ v2))), .second, .val (.int (2 : Int32))]) rfl k) ?_
    refine own_go (fun _ k => XS.iinc X24.here hx rfl (hb hby d3_38) rfl (l' := #[.val (.ref a1), .val (.ref a2), .val (.int (2 : Int32)), .val (.long (own_mix ((-7046029254386353131 : Int64) ^^^ v2))), .second, .val (.int ((2 : Int32) + (1 : Int32)))]) rfl k) ?_
    show own_Run p e below _ T24 (mkF m 41 #[.val (.ref a1), .val (.ref a2), .val (.int (2 : Int32)), .val (.long (own_mix ((-7046029254386353131 : Int64) ^^^ v2))), .second, .val (.int ((2 : Int32) + (1 : Int32)))] [])
    rw [show ((2 : Int32) + (1 : Int32)) = (3 : Int32) by decide]
    show own_Run p e below _ T24 (mkF m 41 #[.val (.ref a1), .val (.ref a2), .val (.int (2 : Int32)), .val (.long (own_mix ((-7046029254386353131 : Int64) ^^^ v2))), .second, .val (.int (3 : Int32))] [])
    refine own_go (fun _ k => XS.goto X24.here hx rfl (pc0 := 41) (pc' := 12) rfl (hb hby d3_41) (by decide) (by decide) k) ?_
    refine own_go (fun _ k => XS.iload X24.here hx rfl (hb hby d3_12) rfl k) ?_
    refine own_go (fun _ k => XS.iloadN X24.here hx rfl (hb hby d3_14) rfl k) ?_
    refine own_go (fun _ k => XS.aloadN X24.here hx rfl (hb hby d3_15) rfl rfl k) ?_
    show own_Run p e below _ T24 (mkF m 16 #[.val (.ref a1), .val (.ref a2), .val (.int (2 : Int32)), .val (.long (own_mix ((-7046029254386353131 : Int64) ^^^ v2))), .second, .val (.int (3 : Int32))] [(.ref a1), (.int (2 : Int32)), (.int (3 : Int32))])
    obtain ⟨T25, X25, e25, st25⟩ := getF X24 hx hZ hown (host := "") (Or.inl (W 15 rfl)) Via.refl e24 F_rows_a1 (g := (mkF m 16 #[.val (.ref a1), .val (.ref a2), .val (.int (2 : Int32)), .val (.long (own_mix ((-7046029254386353131 : Int64) ^^^ v2))), .second, .val (.int (3 : Int32))] [(.ref a1), (.int (2 : Int32)), (.int (3 : Int32))])) rfl rfl (hb hby d3_16)
    refine own_go st25 ?_
    show own_Run p e below _ T25 (mkF m 19 #[.val (.ref a1), .val (.ref a2), .val (.int (2 : Int32)), .val (.long (own_mix ((-7046029254386353131 : Int64) ^^^ v2))), .second, .val (.int (3 : Int32))] [(.int (1 : Int32)), (.int (2 : Int32)), (.int (3 : Int32))])
    refine own_go (fun _ k => XS.imul X25.here hx rfl (hb hby d3_19) rfl k) ?_
    show own_Run p e below _ T25 (mkF m 20 #[.val (.ref a1), .val (.ref a2), .val (.int (2 : Int32)), .val (.long (own_mix ((-7046029254386353131 : Int64) ^^^ v2))), .second, .val (.int (3 : Int32))] [(.int ((2 : Int32) * (1 : Int32))), (.int (3 : Int32))])
    rw [show ((2 : Int32) * (1 : Int32)) = (2 : Int32) by decide]
    show own_Run p e below _ T25 (mkF m 20 #[.val (.ref a1), .val (.ref a2), .val (.int (2 : Int32)), .val (.long (own_mix ((-7046029254386353131 : Int64) ^^^ v2))), .second, .val (.int (3 : Int32))] [(.int (2 : Int32)), (.int (3 : Int32))])
    refine own_go (fun _ k => XS.aloadN X25.here hx rfl (hb hby d3_20) rfl rfl k) ?_
    show own_Run p e below _ T25 (mkF m 21 #[.val (.ref a1), .val (.ref a2), .val (.int (2 : Int32)), .val (.long (own_mix ((-7046029254386353131 : Int64) ^^^ v2))), .second, .val (.int (3 : Int32))] [(.ref a1), (.int (2 : Int32)), (.int (3 : Int32))])
    obtain ⟨T26, X26, e26, st26⟩ := getF X25 hx hZ hown (host := "") (Or.inl (W 15 rfl)) Via.refl e25 F_rows_a1 (g := (mkF m 21 #[.val (.ref a1), .val (.ref a2), .val (.int (2 : Int32)), .val (.long (own_mix ((-7046029254386353131 : Int64) ^^^ v2))), .second, .val (.int (3 : Int32))] [(.ref a1), (.int (2 : Int32)), (.int (3 : Int32))])) rfl rfl (hb hby d3_21)
    refine own_go st26 ?_
    show own_Run p e below _ T26 (mkF m 24 #[.val (.ref a1), .val (.ref a2), .val (.int (2 : Int32)), .val (.long (own_mix ((-7046029254386353131 : Int64) ^^^ v2))), .second, .val (.int (3 : Int32))] [(.int (1 : Int32)), (.int (2 : Int32)), (.int (3 : Int32))])
    refine own_go (fun _ k => XS.iadd X26.here hx rfl (hb hby d3_24) rfl k) ?_
    show own_Run p e below _ T26 (mkF m 25 #[.val (.ref a1), .val (.ref a2), .val (.int (2 : Int32)), .val (.long (own_mix ((-7046029254386353131 : Int64) ^^^ v2))), .second, .val (.int (3 : Int32))] [(.int ((2 : Int32) + (1 : Int32))), (.int (3 : Int32))])
    rw [show ((2 : Int32) + (1 : Int32)) = (3 : Int32) by decide]
    show own_Run p e below _ T26 (mkF m 25 #[.val (.ref a1), .val (.ref a2), .val (.int (2 : Int32)), .val (.long (own_mix ((-7046029254386353131 : Int64) ^^^ v2))), .second, .val (.int (3 : Int32))] [(.int (3 : Int32)), (.int (3 : Int32))])
    refine own_go (fun _ k => XS.icmpYes X26.here hx rfl (pc0 := 25) (pc' := 44) rfl (hb hby d3_25) rfl (flt (by decide : ¬ ((3 : Int32) < (3 : Int32)))).2.1 (by decide) (by decide) k) ?_
    show own_Run p e below _ T26 (mkF m 44 #[.val (.ref a1), .val (.ref a2), .val (.int (2 : Int32)), .val (.long (own_mix ((-7046029254386353131 : Int64) ^^^ v2))), .second, .val (.int (3 : Int32))] [])
    refine own_go (fun _ k => XS.lloadN X26.here hx rfl (hb hby d3_44) rfl k) ?_
    show own_Run p e below _ T26 (mkF m 45 #[.val (.ref a1), .val (.ref a2), .val (.int (2 : Int32)), .val (.long (own_mix ((-7046029254386353131 : Int64) ^^^ v2))), .second, .val (.int (3 : Int32))] [(.long (own_mix ((-7046029254386353131 : Int64) ^^^ v2)))])
    refine own_done (Q := fun v h L => Q3 Z a1 a2 (2 : Int32) (1 : Int32) kk v0 v1 v2 v3 v4 v5 (own_mix ((-7046029254386353131 : Int64) ^^^ v2)) h0 n0 v h L) (v := (some (.long (own_mix ((-7046029254386353131 : Int64) ^^^ v2))))) X26 (fun h => by rw [hret] at h; cases h) hlk (fun fs hr => own_retL X26 hx hret (hb hby d3_45) hr) ?_ (by decide) (by decide)
    show Q3 Z a1 a2 (2 : Int32) (1 : Int32) kk v0 v1 v2 v3 v4 v5 (own_mix ((-7046029254386353131 : Int64) ^^^ v2)) h0 n0 _ T26.heap _
    rw [e26]
    exact ⟨rfl, N24, rfl⟩
  · show own_Run p e below _ s₁ (mkF m 0 #[.val (.ref a1), .val (.ref a2), .val (.int (3 : Int32)), .unset, .unset, .unset] [])
    refine own_go (X0.ldc2Long hx hown (mvT hZ (W 22 rfl)) (g := (mkF m 0 #[.val (.ref a1), .val (.ref a2), .val (.int (3 : Int32)), .unset, .unset, .unset] [])) rfl (hb hby d3_0)) ?_
    show own_Run p e below _ s₁ (mkF m 3 #[.val (.ref a1), .val (.ref a2), .val (.int (3 : Int32)), .unset, .unset, .unset] [(.long (-7046029254386353131 : Int64))])
    refine own_go (fun _ k => XS.lstoreN X0.here hx rfl (hb hby d3_3) rfl (l' := #[.val (.ref a1), .val (.ref a2), .val (.int (3 : Int32)), .val (.long (-7046029254386353131 : Int64)), .second, .unset]) rfl k) ?_
    refine own_go (fun _ k => XS.iloadN X0.here hx rfl (hb hby d3_4) rfl k) ?_
    refine own_go (fun _ k => XS.aloadN X0.here hx rfl (hb hby d3_5) rfl rfl k) ?_
    show own_Run p e below _ s₁ (mkF m 6 #[.val (.ref a1), .val (.ref a2), .val (.int (3 : Int32)), .val (.long (-7046029254386353131 : Int64)), .second, .unset] [(.ref a1), (.int (3 : Int32))])
    obtain ⟨T27, X27, e27, st27⟩ := getF X0 hx hZ hown (host := "") (Or.inl (W 15 rfl)) Via.refl e0 F_rows_a1 (g := (mkF m 6 #[.val (.ref a1), .val (.ref a2), .val (.int (3 : Int32)), .val (.long (-7046029254386353131 : Int64)), .second, .unset] [(.ref a1), (.int (3 : Int32))])) rfl rfl (hb hby d3_6)
    refine own_go st27 ?_
    show own_Run p e below _ T27 (mkF m 9 #[.val (.ref a1), .val (.ref a2), .val (.int (3 : Int32)), .val (.long (-7046029254386353131 : Int64)), .second, .unset] [(.int (1 : Int32)), (.int (3 : Int32))])
    refine own_go (fun _ k => XS.imul X27.here hx rfl (hb hby d3_9) rfl k) ?_
    show own_Run p e below _ T27 (mkF m 10 #[.val (.ref a1), .val (.ref a2), .val (.int (3 : Int32)), .val (.long (-7046029254386353131 : Int64)), .second, .unset] [(.int ((3 : Int32) * (1 : Int32)))])
    rw [show ((3 : Int32) * (1 : Int32)) = (3 : Int32) by decide]
    show own_Run p e below _ T27 (mkF m 10 #[.val (.ref a1), .val (.ref a2), .val (.int (3 : Int32)), .val (.long (-7046029254386353131 : Int64)), .second, .unset] [(.int (3 : Int32))])
    refine own_go (fun _ k => XS.istore X27.here hx rfl (hb hby d3_10) rfl (l' := #[.val (.ref a1), .val (.ref a2), .val (.int (3 : Int32)), .val (.long (-7046029254386353131 : Int64)), .second, .val (.int (3 : Int32))]) rfl k) ?_
    refine own_go (fun _ k => XS.iload X27.here hx rfl (hb hby d3_12) rfl k) ?_
    refine own_go (fun _ k => XS.iloadN X27.here hx rfl (hb hby d3_14) rfl k) ?_
    refine own_go (fun _ k => XS.aloadN X27.here hx rfl (hb hby d3_15) rfl rfl k) ?_
    show own_Run p e below _ T27 (mkF m 16 #[.val (.ref a1), .val (.ref a2), .val (.int (3 : Int32)), .val (.long (-7046029254386353131 : Int64)), .second, .val (.int (3 : Int32))] [(.ref a1), (.int (3 : Int32)), (.int (3 : Int32))])
    obtain ⟨T28, X28, e28, st28⟩ := getF X27 hx hZ hown (host := "") (Or.inl (W 15 rfl)) Via.refl e27 F_rows_a1 (g := (mkF m 16 #[.val (.ref a1), .val (.ref a2), .val (.int (3 : Int32)), .val (.long (-7046029254386353131 : Int64)), .second, .val (.int (3 : Int32))] [(.ref a1), (.int (3 : Int32)), (.int (3 : Int32))])) rfl rfl (hb hby d3_16)
    refine own_go st28 ?_
    show own_Run p e below _ T28 (mkF m 19 #[.val (.ref a1), .val (.ref a2), .val (.int (3 : Int32)), .val (.long (-7046029254386353131 : Int64)), .second, .val (.int (3 : Int32))] [(.int (1 : Int32)), (.int (3 : Int32)), (.int (3 : Int32))])
    refine own_go (fun _ k => XS.imul X28.here hx rfl (hb hby d3_19) rfl k) ?_
    show own_Run p e below _ T28 (mkF m 20 #[.val (.ref a1), .val (.ref a2), .val (.int (3 : Int32)), .val (.long (-7046029254386353131 : Int64)), .second, .val (.int (3 : Int32))] [(.int ((3 : Int32) * (1 : Int32))), (.int (3 : Int32))])
    rw [show ((3 : Int32) * (1 : Int32)) = (3 : Int32) by decide]
    show own_Run p e below _ T28 (mkF m 20 #[.val (.ref a1), .val (.ref a2), .val (.int (3 : Int32)), .val (.long (-7046029254386353131 : Int64)), .second, .val (.int (3 : Int32))] [(.int (3 : Int32)), (.int (3 : Int32))])
    refine own_go (fun _ k => XS.aloadN X28.here hx rfl (hb hby d3_20) rfl rfl k) ?_
    show own_Run p e below _ T28 (mkF m 21 #[.val (.ref a1), .val (.ref a2), .val (.int (3 : Int32)), .val (.long (-7046029254386353131 : Int64)), .second, .val (.int (3 : Int32))] [(.ref a1), (.int (3 : Int32)), (.int (3 : Int32))])
    obtain ⟨T29, X29, e29, st29⟩ := getF X28 hx hZ hown (host := "") (Or.inl (W 15 rfl)) Via.refl e28 F_rows_a1 (g := (mkF m 21 #[.val (.ref a1), .val (.ref a2), .val (.int (3 : Int32)), .val (.long (-7046029254386353131 : Int64)), .second, .val (.int (3 : Int32))] [(.ref a1), (.int (3 : Int32)), (.int (3 : Int32))])) rfl rfl (hb hby d3_21)
    refine own_go st29 ?_
    show own_Run p e below _ T29 (mkF m 24 #[.val (.ref a1), .val (.ref a2), .val (.int (3 : Int32)), .val (.long (-7046029254386353131 : Int64)), .second, .val (.int (3 : Int32))] [(.int (1 : Int32)), (.int (3 : Int32)), (.int (3 : Int32))])
    refine own_go (fun _ k => XS.iadd X29.here hx rfl (hb hby d3_24) rfl k) ?_
    show own_Run p e below _ T29 (mkF m 25 #[.val (.ref a1), .val (.ref a2), .val (.int (3 : Int32)), .val (.long (-7046029254386353131 : Int64)), .second, .val (.int (3 : Int32))] [(.int ((3 : Int32) + (1 : Int32))), (.int (3 : Int32))])
    rw [show ((3 : Int32) + (1 : Int32)) = (4 : Int32) by decide]
    show own_Run p e below _ T29 (mkF m 25 #[.val (.ref a1), .val (.ref a2), .val (.int (3 : Int32)), .val (.long (-7046029254386353131 : Int64)), .second, .val (.int (3 : Int32))] [(.int (4 : Int32)), (.int (3 : Int32))])
    refine own_go (fun _ k => XS.icmpNo X29.here hx rfl (hb hby d3_25) rfl (tlt (by decide : (3 : Int32) < (4 : Int32))).2.1 k) ?_
    show own_Run p e below _ T29 (mkF m 28 #[.val (.ref a1), .val (.ref a2), .val (.int (3 : Int32)), .val (.long (-7046029254386353131 : Int64)), .second, .val (.int (3 : Int32))] [])
    refine own_go (fun _ k => XS.lloadN X29.here hx rfl (hb hby d3_28) rfl k) ?_
    refine own_go (fun _ k => XS.aloadN X29.here hx rfl (hb hby d3_29) rfl rfl k) ?_
    refine own_go (fun _ k => XS.iload X29.here hx rfl (hb hby d3_30) rfl k) ?_
    show own_Run p e below _ T29 (mkF m 32 #[.val (.ref a1), .val (.ref a2), .val (.int (3 : Int32)), .val (.long (-7046029254386353131 : Int64)), .second, .val (.int (3 : Int32))] [(.int (3 : Int32)), (.ref a2), (.long (-7046029254386353131 : Int64))])
    obtain ⟨cl30, Ar30, q30, S30, N30, H30, G30⟩ := id V_a2
    have hin30 : ¬ ((3 : Int32) < 0 ∨ cl30.slots.size ≤ ((3 : Int32)).toNatClampNeg) := inb_of S30 ⟨by decide, by decide⟩
    refine own_go (X29.laload hx (j := (3 : Int32)) (v := (.long v3)) (by rw [e29]; exact Ar30.1) (State.isArrayOf_alike hZ.alike Ar30.2.1) Ar30.2.2 hin30 (H30.at hin30 rfl) (g := (mkF m 32 #[.val (.ref a1), .val (.ref a2), .val (.int (3 : Int32)), .val (.long (-7046029254386353131 : Int64)), .second, .val (.int (3 : Int32))] [(.int (3 : Int32)), (.ref a2), (.long (-7046029254386353131 : Int64))])) rfl rfl (hb hby d3_32)) ?_
    show own_Run p e below _ T29 (mkF m 33 #[.val (.ref a1), .val (.ref a2), .val (.int (3 : Int32)), .val (.long (-7046029254386353131 : Int64)), .second, .val (.int (3 : Int32))] [(.long v3), (.long (-7046029254386353131 : Int64))])
    refine own_go (fun _ k => XS.lxor X29.here hx rfl (hb hby d3_33) rfl k) ?_
    show own_Run p e below _ T29 (mkF m 34 #[.val (.ref a1), .val (.ref a2), .val (.int (3 : Int32)), .val (.long (-7046029254386353131 : Int64)), .second, .val (.int (3 : Int32))] [(.long ((-7046029254386353131 : Int64) ^^^ v3))])
    obtain ⟨_, _, ⟨T31, L31, k31, n31⟩, -, X31, ⟨Lc31, hQ31, l31, y31, z31⟩, st31⟩ := Jvm.LawKit.callS X29 hx (y := (⟨"com/example/near_duplicate_finder/nearduplicatefinder/ShingleHash", "mix", "(J)J"⟩ : MethodName)) hown (mvT hZ (W 23 rfl)) (mvT hZ (W 24 rfl)) (mvT hZ (W 25 rfl)) (mvT hZ (W 26 rfl)) (by decide) (backOf (W := 0) (rm4 l Z a0 hw [] ((-7046029254386353131 : Int64) ^^^ v3) h0 n0 Z0 ) hZ (W 26 rfl) (W 25 rfl) (by decide) (by decide)) (g := (mkF m 34 #[.val (.ref a1), .val (.ref a2), .val (.int (3 : Int32)), .val (.long (-7046029254386353131 : Int64)), .second, .val (.int (3 : Int32))] [(.long ((-7046029254386353131 : Int64) ^^^ v3))])) rfl (by rw [hml]; rfl) (argsL := [(.long ((-7046029254386353131 : Int64) ^^^ v3))]) (rest := []) (lenOf pd_1 rfl) rfl (by show 2 * 0 + _ ≤ _; exact Nat.le_of_eq rfl) (hb hby d3_34) (fun _ _ => ⟨rfl, e29, (by decide : 0 + 0 ≤ _), (by decide : 0 + 0 ≤ _)⟩)
    dsimp only [Pt.U, Pt.locs, Pt.cells, Pt.slots] at X31 l31 y31 z31 st31 hQ31
    subst l31 y31 z31
    obtain ⟨rfl, N31q, e31⟩ := hQ31
    have N31 := Fr.app N0 N31q
    refine own_go st31 ?_
    show own_Run p e below _ T31 (mkF m 37 #[.val (.ref a1), .val (.ref a2), .val (.int (3 : Int32)), .val (.long (-7046029254386353131 : Int64)), .second, .val (.int (3 : Int32))] [(.long (own_mix ((-7046029254386353131 : Int64) ^^^ v3)))])
    refine own_go (fun _ k => XS.lstoreN X31.here hx rfl (hb hby d3_37) rfl (l' := #[.val (.ref a1), .val (.ref a2), .val (.int (3 : Int32)), .val (.long (own_mix ((-7046029254386353131 : Int64) ^^^ v3))), .second, .val (.int (3 : Int32))]) rfl k) ?_
    refine own_go (fun _ k => XS.iinc X31.here hx rfl (hb hby d3_38) rfl (l' := #[.val (.ref a1), .val (.ref a2), .val (.int (3 : Int32)), .val (.long (own_mix ((-7046029254386353131 : Int64) ^^^ v3))), .second, .val (.int ((3 : Int32) + (1 : Int32)))]) rfl k) ?_
    show own_Run p e below _ T31 (mkF m 41 #[.val (.ref a1), .val (.ref a2), .val (.int (3 : Int32)), .val (.long (own_mix ((-7046029254386353131 : Int64) ^^^ v3))), .second, .val (.int ((3 : Int32) + (1 : Int32)))] [])
    rw [show ((3 : Int32) + (1 : Int32)) = (4 : Int32) by decide]
    show own_Run p e below _ T31 (mkF m 41 #[.val (.ref a1), .val (.ref a2), .val (.int (3 : Int32)), .val (.long (own_mix ((-7046029254386353131 : Int64) ^^^ v3))), .second, .val (.int (4 : Int32))] [])
    refine own_go (fun _ k => XS.goto X31.here hx rfl (pc0 := 41) (pc' := 12) rfl (hb hby d3_41) (by decide) (by decide) k) ?_
    refine own_go (fun _ k => XS.iload X31.here hx rfl (hb hby d3_12) rfl k) ?_
    refine own_go (fun _ k => XS.iloadN X31.here hx rfl (hb hby d3_14) rfl k) ?_
    refine own_go (fun _ k => XS.aloadN X31.here hx rfl (hb hby d3_15) rfl rfl k) ?_
    show own_Run p e below _ T31 (mkF m 16 #[.val (.ref a1), .val (.ref a2), .val (.int (3 : Int32)), .val (.long (own_mix ((-7046029254386353131 : Int64) ^^^ v3))), .second, .val (.int (4 : Int32))] [(.ref a1), (.int (3 : Int32)), (.int (4 : Int32))])
    obtain ⟨T32, X32, e32, st32⟩ := getF X31 hx hZ hown (host := "") (Or.inl (W 15 rfl)) Via.refl e31 F_rows_a1 (g := (mkF m 16 #[.val (.ref a1), .val (.ref a2), .val (.int (3 : Int32)), .val (.long (own_mix ((-7046029254386353131 : Int64) ^^^ v3))), .second, .val (.int (4 : Int32))] [(.ref a1), (.int (3 : Int32)), (.int (4 : Int32))])) rfl rfl (hb hby d3_16)
    refine own_go st32 ?_
    show own_Run p e below _ T32 (mkF m 19 #[.val (.ref a1), .val (.ref a2), .val (.int (3 : Int32)), .val (.long (own_mix ((-7046029254386353131 : Int64) ^^^ v3))), .second, .val (.int (4 : Int32))] [(.int (1 : Int32)), (.int (3 : Int32)), (.int (4 : Int32))])
    refine own_go (fun _ k => XS.imul X32.here hx rfl (hb hby d3_19) rfl k) ?_
    show own_Run p e below _ T32 (mkF m 20 #[.val (.ref a1), .val (.ref a2), .val (.int (3 : Int32)), .val (.long (own_mix ((-7046029254386353131 : Int64) ^^^ v3))), .second, .val (.int (4 : Int32))] [(.int ((3 : Int32) * (1 : Int32))), (.int (4 : Int32))])
    rw [show ((3 : Int32) * (1 : Int32)) = (3 : Int32) by decide]
    show own_Run p e below _ T32 (mkF m 20 #[.val (.ref a1), .val (.ref a2), .val (.int (3 : Int32)), .val (.long (own_mix ((-7046029254386353131 : Int64) ^^^ v3))), .second, .val (.int (4 : Int32))] [(.int (3 : Int32)), (.int (4 : Int32))])
    refine own_go (fun _ k => XS.aloadN X32.here hx rfl (hb hby d3_20) rfl rfl k) ?_
    show own_Run p e below _ T32 (mkF m 21 #[.val (.ref a1), .val (.ref a2), .val (.int (3 : Int32)), .val (.long (own_mix ((-7046029254386353131 : Int64) ^^^ v3))), .second, .val (.int (4 : Int32))] [(.ref a1), (.int (3 : Int32)), (.int (4 : Int32))])
    obtain ⟨T33, X33, e33, st33⟩ := getF X32 hx hZ hown (host := "") (Or.inl (W 15 rfl)) Via.refl e32 F_rows_a1 (g := (mkF m 21 #[.val (.ref a1), .val (.ref a2), .val (.int (3 : Int32)), .val (.long (own_mix ((-7046029254386353131 : Int64) ^^^ v3))), .second, .val (.int (4 : Int32))] [(.ref a1), (.int (3 : Int32)), (.int (4 : Int32))])) rfl rfl (hb hby d3_21)
    refine own_go st33 ?_
    show own_Run p e below _ T33 (mkF m 24 #[.val (.ref a1), .val (.ref a2), .val (.int (3 : Int32)), .val (.long (own_mix ((-7046029254386353131 : Int64) ^^^ v3))), .second, .val (.int (4 : Int32))] [(.int (1 : Int32)), (.int (3 : Int32)), (.int (4 : Int32))])
    refine own_go (fun _ k => XS.iadd X33.here hx rfl (hb hby d3_24) rfl k) ?_
    show own_Run p e below _ T33 (mkF m 25 #[.val (.ref a1), .val (.ref a2), .val (.int (3 : Int32)), .val (.long (own_mix ((-7046029254386353131 : Int64) ^^^ v3))), .second, .val (.int (4 : Int32))] [(.int ((3 : Int32) + (1 : Int32))), (.int (4 : Int32))])
    rw [show ((3 : Int32) + (1 : Int32)) = (4 : Int32) by decide]
    show own_Run p e below _ T33 (mkF m 25 #[.val (.ref a1), .val (.ref a2), .val (.int (3 : Int32)), .val (.long (own_mix ((-7046029254386353131 : Int64) ^^^ v3))), .second, .val (.int (4 : Int32))] [(.int (4 : Int32)), (.int (4 : Int32))])
    refine own_go (fun _ k => XS.icmpYes X33.here hx rfl (pc0 := 25) (pc' := 44) rfl (hb hby d3_25) rfl (flt (by decide : ¬ ((4 : Int32) < (4 : Int32)))).2.1 (by decide) (by decide) k) ?_
    show own_Run p e below _ T33 (mkF m 44 #[.val (.ref a1), .val (.ref a2), .val (.int (3 : Int32)), .val (.long (own_mix ((-7046029254386353131 : Int64) ^^^ v3))), .second, .val (.int (4 : Int32))] [])
    refine own_go (fun _ k => XS.lloadN X33.here hx rfl (hb hby d3_44) rfl k) ?_
    show own_Run p e below _ T33 (mkF m 45 #[.val (.ref a1), .val (.ref a2), .val (.int (3 : Int32)), .val (.long (own_mix ((-7046029254386353131 : Int64) ^^^ v3))), .second, .val (.int (4 : Int32))] [(.long (own_mix ((-7046029254386353131 : Int64) ^^^ v3)))])
    refine own_done (Q := fun v h L => Q3 Z a1 a2 (3 : Int32) (1 : Int32) kk v0 v1 v2 v3 v4 v5 (own_mix ((-7046029254386353131 : Int64) ^^^ v3)) h0 n0 v h L) (v := (some (.long (own_mix ((-7046029254386353131 : Int64) ^^^ v3))))) X33 (fun h => by rw [hret] at h; cases h) hlk (fun fs hr => own_retL X33 hx hret (hb hby d3_45) hr) ?_ (by decide) (by decide)
    show Q3 Z a1 a2 (3 : Int32) (1 : Int32) kk v0 v1 v2 v3 v4 v5 (own_mix ((-7046029254386353131 : Int64) ^^^ v3)) h0 n0 _ T33.heap _
    rw [e33]
    exact ⟨rfl, N31, rfl⟩
  · show own_Run p e below _ s₁ (mkF m 0 #[.val (.ref a1), .val (.ref a2), .val (.int (4 : Int32)), .unset, .unset, .unset] [])
    refine own_go (X0.ldc2Long hx hown (mvT hZ (W 22 rfl)) (g := (mkF m 0 #[.val (.ref a1), .val (.ref a2), .val (.int (4 : Int32)), .unset, .unset, .unset] [])) rfl (hb hby d3_0)) ?_
    show own_Run p e below _ s₁ (mkF m 3 #[.val (.ref a1), .val (.ref a2), .val (.int (4 : Int32)), .unset, .unset, .unset] [(.long (-7046029254386353131 : Int64))])
    refine own_go (fun _ k => XS.lstoreN X0.here hx rfl (hb hby d3_3) rfl (l' := #[.val (.ref a1), .val (.ref a2), .val (.int (4 : Int32)), .val (.long (-7046029254386353131 : Int64)), .second, .unset]) rfl k) ?_
    refine own_go (fun _ k => XS.iloadN X0.here hx rfl (hb hby d3_4) rfl k) ?_
    refine own_go (fun _ k => XS.aloadN X0.here hx rfl (hb hby d3_5) rfl rfl k) ?_
    show own_Run p e below _ s₁ (mkF m 6 #[.val (.ref a1), .val (.ref a2), .val (.int (4 : Int32)), .val (.long (-7046029254386353131 : Int64)), .second, .unset] [(.ref a1), (.int (4 : Int32))])
    obtain ⟨T34, X34, e34, st34⟩ := getF X0 hx hZ hown (host := "") (Or.inl (W 15 rfl)) Via.refl e0 F_rows_a1 (g := (mkF m 6 #[.val (.ref a1), .val (.ref a2), .val (.int (4 : Int32)), .val (.long (-7046029254386353131 : Int64)), .second, .unset] [(.ref a1), (.int (4 : Int32))])) rfl rfl (hb hby d3_6)
    refine own_go st34 ?_
    show own_Run p e below _ T34 (mkF m 9 #[.val (.ref a1), .val (.ref a2), .val (.int (4 : Int32)), .val (.long (-7046029254386353131 : Int64)), .second, .unset] [(.int (1 : Int32)), (.int (4 : Int32))])
    refine own_go (fun _ k => XS.imul X34.here hx rfl (hb hby d3_9) rfl k) ?_
    show own_Run p e below _ T34 (mkF m 10 #[.val (.ref a1), .val (.ref a2), .val (.int (4 : Int32)), .val (.long (-7046029254386353131 : Int64)), .second, .unset] [(.int ((4 : Int32) * (1 : Int32)))])
    rw [show ((4 : Int32) * (1 : Int32)) = (4 : Int32) by decide]
    show own_Run p e below _ T34 (mkF m 10 #[.val (.ref a1), .val (.ref a2), .val (.int (4 : Int32)), .val (.long (-7046029254386353131 : Int64)), .second, .unset] [(.int (4 : Int32))])
    refine own_go (fun _ k => XS.istore X34.here hx rfl (hb hby d3_10) rfl (l' := #[.val (.ref a1), .val (.ref a2), .val (.int (4 : Int32)), .val (.long (-7046029254386353131 : Int64)), .second, .val (.int (4 : Int32))]) rfl k) ?_
    refine own_go (fun _ k => XS.iload X34.here hx rfl (hb hby d3_12) rfl k) ?_
    refine own_go (fun _ k => XS.iloadN X34.here hx rfl (hb hby d3_14) rfl k) ?_
    refine own_go (fun _ k => XS.aloadN X34.here hx rfl (hb hby d3_15) rfl rfl k) ?_
    show own_Run p e below _ T34 (mkF m 16 #[.val (.ref a1), .val (.ref a2), .val (.int (4 : Int32)), .val (.long (-7046029254386353131 : Int64)), .second, .val (.int (4 : Int32))] [(.ref a1), (.int (4 : Int32)), (.int (4 : Int32))])
    obtain ⟨T35, X35, e35, st35⟩ := getF X34 hx hZ hown (host := "") (Or.inl (W 15 rfl)) Via.refl e34 F_rows_a1 (g := (mkF m 16 #[.val (.ref a1), .val (.ref a2), .val (.int (4 : Int32)), .val (.long (-7046029254386353131 : Int64)), .second, .val (.int (4 : Int32))] [(.ref a1), (.int (4 : Int32)), (.int (4 : Int32))])) rfl rfl (hb hby d3_16)
    refine own_go st35 ?_
    show own_Run p e below _ T35 (mkF m 19 #[.val (.ref a1), .val (.ref a2), .val (.int (4 : Int32)), .val (.long (-7046029254386353131 : Int64)), .second, .val (.int (4 : Int32))] [(.int (1 : Int32)), (.int (4 : Int32)), (.int (4 : Int32))])
    refine own_go (fun _ k => XS.imul X35.here hx rfl (hb hby d3_19) rfl k) ?_
    show own_Run p e below _ T35 (mkF m 20 #[.val (.ref a1), .val (.ref a2), .val (.int (4 : Int32)), .val (.long (-7046029254386353131 : Int64)), .second, .val (.int (4 : Int32))] [(.int ((4 : Int32) * (1 : Int32))), (.int (4 : Int32))])
    rw [show ((4 : Int32) * (1 : Int32)) = (4 : Int32) by decide]
    show own_Run p e below _ T35 (mkF m 20 #[.val (.ref a1), .val (.ref a2), .val (.int (4 : Int32)), .val (.long (-7046029254386353131 : Int64)), .second, .val (.int (4 : Int32))] [(.int (4 : Int32)), (.int (4 : Int32))])
    refine own_go (fun _ k => XS.aloadN X35.here hx rfl (hb hby d3_20) rfl rfl k) ?_
    show own_Run p e below _ T35 (mkF m 21 #[.val (.ref a1), .val (.ref a2), .val (.int (4 : Int32)), .val (.long (-7046029254386353131 : Int64)), .second, .val (.int (4 : Int32))] [(.ref a1), (.int (4 : Int32)), (.int (4 : Int32))])
    obtain ⟨T36, X36, e36, st36⟩ := getF X35 hx hZ hown (host := "") (Or.inl (W 15 rfl)) Via.refl e35 F_rows_a1 (g := (mkF m 21 #[.val (.ref a1), .val (.ref a2), .val (.int (4 : Int32)), .val (.long (-7046029254386353131 : Int64)), .second, .val (.int (4 : Int32))] [(.ref a1), (.int (4 : Int32)), (.int (4 : Int32))])) rfl rfl (hb hby d3_21)
    refine own_go st36 ?_
    show own_Run p e below _ T36 (mkF m 24 #[.val (.ref a1), .val (.ref a2), .val (.int (4 : Int32)), .val (.long (-7046029254386353131 : Int64)), .second, .val (.int (4 : Int32))] [(.int (1 : Int32)), (.int (4 : Int32)), (.int (4 : Int32))])
    refine own_go (fun _ k => XS.iadd X36.here hx rfl (hb hby d3_24) rfl k) ?_
    show own_Run p e below _ T36 (mkF m 25 #[.val (.ref a1), .val (.ref a2), .val (.int (4 : Int32)), .val (.long (-7046029254386353131 : Int64)), .second, .val (.int (4 : Int32))] [(.int ((4 : Int32) + (1 : Int32))), (.int (4 : Int32))])
    rw [show ((4 : Int32) + (1 : Int32)) = (5 : Int32) by decide]
    show own_Run p e below _ T36 (mkF m 25 #[.val (.ref a1), .val (.ref a2), .val (.int (4 : Int32)), .val (.long (-7046029254386353131 : Int64)), .second, .val (.int (4 : Int32))] [(.int (5 : Int32)), (.int (4 : Int32))])
    refine own_go (fun _ k => XS.icmpNo X36.here hx rfl (hb hby d3_25) rfl (tlt (by decide : (4 : Int32) < (5 : Int32))).2.1 k) ?_
    show own_Run p e below _ T36 (mkF m 28 #[.val (.ref a1), .val (.ref a2), .val (.int (4 : Int32)), .val (.long (-7046029254386353131 : Int64)), .second, .val (.int (4 : Int32))] [])
    refine own_go (fun _ k => XS.lloadN X36.here hx rfl (hb hby d3_28) rfl k) ?_
    refine own_go (fun _ k => XS.aloadN X36.here hx rfl (hb hby d3_29) rfl rfl k) ?_
    refine own_go (fun _ k => XS.iload X36.here hx rfl (hb hby d3_30) rfl k) ?_
    show own_Run p e below _ T36 (mkF m 32 #[.val (.ref a1), .val (.ref a2), .val (.int (4 : Int32)), .val (.long (-7046029254386353131 : Int64)), .second, .val (.int (4 : Int32))] [(.int (4 : Int32)), (.ref a2), (.long (-7046029254386353131 : Int64))])
    obtain ⟨cl37, Ar37, q37, S37, N37, H37, G37⟩ := id V_a2
    have hin37 : ¬ ((4 : Int32) < 0 ∨ cl37.slots.size ≤ ((4 : Int32)).toNatClampNeg) := inb_of S37 ⟨by decide, by decide⟩
    refine own_go (X36.laload hx (j := (4 : Int32)) (v := (.long v4)) (by rw [e36]; exact Ar37.1) (State.isArrayOf_alike hZ.alike Ar37.2.1) Ar37.2.2 hin37 (H37.at hin37 rfl) (g := (mkF m 32 #[.val (.ref a1), .val (.ref a2), .val (.int (4 : Int32)), .val (.long (-7046029254386353131 : Int64)), .second, .val (.int (4 : Int32))] [(.int (4 : Int32)), (.ref a2), (.long (-7046029254386353131 : Int64))])) rfl rfl (hb hby d3_32)) ?_
    show own_Run p e below _ T36 (mkF m 33 #[.val (.ref a1), .val (.ref a2), .val (.int (4 : Int32)), .val (.long (-7046029254386353131 : Int64)), .second, .val (.int (4 : Int32))] [(.long v4), (.long (-7046029254386353131 : Int64))])
    refine own_go (fun _ k => XS.lxor X36.here hx rfl (hb hby d3_33) rfl k) ?_
    show own_Run p e below _ T36 (mkF m 34 #[.val (.ref a1), .val (.ref a2), .val (.int (4 : Int32)), .val (.long (-7046029254386353131 : Int64)), .second, .val (.int (4 : Int32))] [(.long ((-7046029254386353131 : Int64) ^^^ v4))])
    obtain ⟨_, _, ⟨T38, L38, k38, n38⟩, -, X38, ⟨Lc38, hQ38, l38, y38, z38⟩, st38⟩ := Jvm.LawKit.callS X36 hx (y := (⟨"com/example/near_duplicate_finder/nearduplicatefinder/ShingleHash", "mix", "(J)J"⟩ : MethodName)) hown (mvT hZ (W 23 rfl)) (mvT hZ (W 24 rfl)) (mvT hZ (W 25 rfl)) (mvT hZ (W 26 rfl)) (by decide) (backOf (W := 0) (rm4 l Z a0 hw [] ((-7046029254386353131 : Int64) ^^^ v4) h0 n0 Z0 ) hZ (W 26 rfl) (W 25 rfl) (by decide) (by decide)) (g := (mkF m 34 #[.val (.ref a1), .val (.ref a2), .val (.int (4 : Int32)), .val (.long (-7046029254386353131 : Int64)), .second, .val (.int (4 : Int32))] [(.long ((-7046029254386353131 : Int64) ^^^ v4))])) rfl (by rw [hml]; rfl) (argsL := [(.long ((-7046029254386353131 : Int64) ^^^ v4))]) (rest := []) (lenOf pd_1 rfl) rfl (by show 2 * 0 + _ ≤ _; exact Nat.le_of_eq rfl) (hb hby d3_34) (fun _ _ => ⟨rfl, e36, (by decide : 0 + 0 ≤ _), (by decide : 0 + 0 ≤ _)⟩)
    dsimp only [Pt.U, Pt.locs, Pt.cells, Pt.slots] at X38 l38 y38 z38 st38 hQ38
    subst l38 y38 z38
    obtain ⟨rfl, N38q, e38⟩ := hQ38
    have N38 := Fr.app N0 N38q
    refine own_go st38 ?_
    show own_Run p e below _ T38 (mkF m 37 #[.val (.ref a1), .val (.ref a2), .val (.int (4 : Int32)), .val (.long (-7046029254386353131 : Int64)), .second, .val (.int (4 : Int32))] [(.long (own_mix ((-7046029254386353131 : Int64) ^^^ v4)))])
    refine own_go (fun _ k => XS.lstoreN X38.here hx rfl (hb hby d3_37) rfl (l' := #[.val (.ref a1), .val (.ref a2), .val (.int (4 : Int32)), .val (.long (own_mix ((-7046029254386353131 : Int64) ^^^ v4))), .second, .val (.int (4 : Int32))]) rfl k) ?_
    refine own_go (fun _ k => XS.iinc X38.here hx rfl (hb hby d3_38) rfl (l' := #[.val (.ref a1), .val (.ref a2), .val (.int (4 : Int32)), .val (.long (own_mix ((-7046029254386353131 : Int64) ^^^ v4))), .second, .val (.int ((4 : Int32) + (1 : Int32)))]) rfl k) ?_
    show own_Run p e below _ T38 (mkF m 41 #[.val (.ref a1), .val (.ref a2), .val (.int (4 : Int32)), .val (.long (own_mix ((-7046029254386353131 : Int64) ^^^ v4))), .second, .val (.int ((4 : Int32) + (1 : Int32)))] [])
    rw [show ((4 : Int32) + (1 : Int32)) = (5 : Int32) by decide]
    show own_Run p e below _ T38 (mkF m 41 #[.val (.ref a1), .val (.ref a2), .val (.int (4 : Int32)), .val (.long (own_mix ((-7046029254386353131 : Int64) ^^^ v4))), .second, .val (.int (5 : Int32))] [])
    refine own_go (fun _ k => XS.goto X38.here hx rfl (pc0 := 41) (pc' := 12) rfl (hb hby d3_41) (by decide) (by decide) k) ?_
    refine own_go (fun _ k => XS.iload X38.here hx rfl (hb hby d3_12) rfl k) ?_
    refine own_go (fun _ k => XS.iloadN X38.here hx rfl (hb hby d3_14) rfl k) ?_
    refine own_go (fun _ k => XS.aloadN X38.here hx rfl (hb hby d3_15) rfl rfl k) ?_
    show own_Run p e below _ T38 (mkF m 16 #[.val (.ref a1), .val (.ref a2), .val (.int (4 : Int32)), .val (.long (own_mix ((-7046029254386353131 : Int64) ^^^ v4))), .second, .val (.int (5 : Int32))] [(.ref a1), (.int (4 : Int32)), (.int (5 : Int32))])
    obtain ⟨T39, X39, e39, st39⟩ := getF X38 hx hZ hown (host := "") (Or.inl (W 15 rfl)) Via.refl e38 F_rows_a1 (g := (mkF m 16 #[.val (.ref a1), .val (.ref a2), .val (.int (4 : Int32)), .val (.long (own_mix ((-7046029254386353131 : Int64) ^^^ v4))), .second, .val (.int (5 : Int32))] [(.ref a1), (.int (4 : Int32)), (.int (5 : Int32))])) rfl rfl (hb hby d3_16)
    refine own_go st39 ?_
    show own_Run p e below _ T39 (mkF m 19 #[.val (.ref a1), .val (.ref a2), .val (.int (4 : Int32)), .val (.long (own_mix ((-7046029254386353131 : Int64) ^^^ v4))), .second, .val (.int (5 : Int32))] [(.int (1 : Int32)), (.int (4 : Int32)), (.int (5 : Int32))])
    refine own_go (fun _ k => XS.imul X39.here hx rfl (hb hby d3_19) rfl k) ?_
    show own_Run p e below _ T39 (mkF m 20 #[.val (.ref a1), .val (.ref a2), .val (.int (4 : Int32)), .val (.long (own_mix ((-7046029254386353131 : Int64) ^^^ v4))), .second, .val (.int (5 : Int32))] [(.int ((4 : Int32) * (1 : Int32))), (.int (5 : Int32))])
    rw [show ((4 : Int32) * (1 : Int32)) = (4 : Int32) by decide]
    show own_Run p e below _ T39 (mkF m 20 #[.val (.ref a1), .val (.ref a2), .val (.int (4 : Int32)), .val (.long (own_mix ((-7046029254386353131 : Int64) ^^^ v4))), .second, .val (.int (5 : Int32))] [(.int (4 : Int32)), (.int (5 : Int32))])
    refine own_go (fun _ k => XS.aloadN X39.here hx rfl (hb hby d3_20) rfl rfl k) ?_
    show own_Run p e below _ T39 (mkF m 21 #[.val (.ref a1), .val (.ref a2), .val (.int (4 : Int32)), .val (.long (own_mix ((-7046029254386353131 : Int64) ^^^ v4))), .second, .val (.int (5 : Int32))] [(.ref a1), (.int (4 : Int32)), (.int (5 : Int32))])
    obtain ⟨T40, X40, e40, st40⟩ := getF X39 hx hZ hown (host := "") (Or.inl (W 15 rfl)) Via.refl e39 F_rows_a1 (g := (mkF m 21 #[.val (.ref a1), .val (.ref a2), .val (.int (4 : Int32)), .val (.long (own_mix ((-7046029254386353131 : Int64) ^^^ v4))), .second, .val (.int (5 : Int32))] [(.ref a1), (.int (4 : Int32)), (.int (5 : Int32))])) rfl rfl (hb hby d3_21)
    refine own_go st40 ?_
    show own_Run p e below _ T40 (mkF m 24 #[.val (.ref a1), .val (.ref a2), .val (.int (4 : Int32)), .val (.long (own_mix ((-7046029254386353131 : Int64) ^^^ v4))), .second, .val (.int (5 : Int32))] [(.int (1 : Int32)), (.int (4 : Int32)), (.int (5 : Int32))])
    refine own_go (fun _ k => XS.iadd X40.here hx rfl (hb hby d3_24) rfl k) ?_
    show own_Run p e below _ T40 (mkF m 25 #[.val (.ref a1), .val (.ref a2), .val (.int (4 : Int32)), .val (.long (own_mix ((-7046029254386353131 : Int64) ^^^ v4))), .second, .val (.int (5 : Int32))] [(.int ((4 : Int32) + (1 : Int32))), (.int (5 : Int32))])
    rw [show ((4 : Int32) + (1 : Int32)) = (5 : Int32) by decide]
    show own_Run p e below _ T40 (mkF m 25 #[.val (.ref a1), .val (.ref a2), .val (.int (4 : Int32)), .val (.long (own_mix ((-7046029254386353131 : Int64) ^^^ v4))), .second, .val (.int (5 : Int32))] [(.int (5 : Int32)), (.int (5 : Int32))])
    refine own_go (fun _ k => XS.icmpYes X40.here hx rfl (pc0 := 25) (pc' := 44) rfl (hb hby d3_25) rfl (flt (by decide : ¬ ((5 : Int32) < (5 : Int32)))).2.1 (by decide) (by decide) k) ?_
    show own_Run p e below _ T40 (mkF m 44 #[.val (.ref a1), .val (.ref a2), .val (.int (4 : Int32)), .val (.long (own_mix ((-7046029254386353131 : Int64) ^^^ v4))), .second, .val (.int (5 : Int32))] [])
    refine own_go (fun _ k => XS.lloadN X40.here hx rfl (hb hby d3_44) rfl k) ?_
    show own_Run p e below _ T40 (mkF m 45 #[.val (.ref a1), .val (.ref a2), .val (.int (4 : Int32)), .val (.long (own_mix ((-7046029254386353131 : Int64) ^^^ v4))), .second, .val (.int (5 : Int32))] [(.long (own_mix ((-7046029254386353131 : Int64) ^^^ v4)))])
    refine own_done (Q := fun v h L => Q3 Z a1 a2 (4 : Int32) (1 : Int32) kk v0 v1 v2 v3 v4 v5 (own_mix ((-7046029254386353131 : Int64) ^^^ v4)) h0 n0 v h L) (v := (some (.long (own_mix ((-7046029254386353131 : Int64) ^^^ v4))))) X40 (fun h => by rw [hret] at h; cases h) hlk (fun fs hr => own_retL X40 hx hret (hb hby d3_45) hr) ?_ (by decide) (by decide)
    show Q3 Z a1 a2 (4 : Int32) (1 : Int32) kk v0 v1 v2 v3 v4 v5 (own_mix ((-7046029254386353131 : Int64) ^^^ v4)) h0 n0 _ T40.heap _
    rw [e40]
    exact ⟨rfl, N38, rfl⟩
  · show own_Run p e below _ s₁ (mkF m 0 #[.val (.ref a1), .val (.ref a2), .val (.int (5 : Int32)), .unset, .unset, .unset] [])
    refine own_go (X0.ldc2Long hx hown (mvT hZ (W 22 rfl)) (g := (mkF m 0 #[.val (.ref a1), .val (.ref a2), .val (.int (5 : Int32)), .unset, .unset, .unset] [])) rfl (hb hby d3_0)) ?_
    show own_Run p e below _ s₁ (mkF m 3 #[.val (.ref a1), .val (.ref a2), .val (.int (5 : Int32)), .unset, .unset, .unset] [(.long (-7046029254386353131 : Int64))])
    refine own_go (fun _ k => XS.lstoreN X0.here hx rfl (hb hby d3_3) rfl (l' := #[.val (.ref a1), .val (.ref a2), .val (.int (5 : Int32)), .val (.long (-7046029254386353131 : Int64)), .second, .unset]) rfl k) ?_
    refine own_go (fun _ k => XS.iloadN X0.here hx rfl (hb hby d3_4) rfl k) ?_
    refine own_go (fun _ k => XS.aloadN X0.here hx rfl (hb hby d3_5) rfl rfl k) ?_
    show own_Run p e below _ s₁ (mkF m 6 #[.val (.ref a1), .val (.ref a2), .val (.int (5 : Int32)), .val (.long (-7046029254386353131 : Int64)), .second, .unset] [(.ref a1), (.int (5 : Int32))])
    obtain ⟨T41, X41, e41, st41⟩ := getF X0 hx hZ hown (host := "") (Or.inl (W 15 rfl)) Via.refl e0 F_rows_a1 (g := (mkF m 6 #[.val (.ref a1), .val (.ref a2), .val (.int (5 : Int32)), .val (.long (-7046029254386353131 : Int64)), .second, .unset] [(.ref a1), (.int (5 : Int32))])) rfl rfl (hb hby d3_6)
    refine own_go st41 ?_
    show own_Run p e below _ T41 (mkF m 9 #[.val (.ref a1), .val (.ref a2), .val (.int (5 : Int32)), .val (.long (-7046029254386353131 : Int64)), .second, .unset] [(.int (1 : Int32)), (.int (5 : Int32))])
    refine own_go (fun _ k => XS.imul X41.here hx rfl (hb hby d3_9) rfl k) ?_
    show own_Run p e below _ T41 (mkF m 10 #[.val (.ref a1), .val (.ref a2), .val (.int (5 : Int32)), .val (.long (-7046029254386353131 : Int64)), .second, .unset] [(.int ((5 : Int32) * (1 : Int32)))])
    rw [show ((5 : Int32) * (1 : Int32)) = (5 : Int32) by decide]
    show own_Run p e below _ T41 (mkF m 10 #[.val (.ref a1), .val (.ref a2), .val (.int (5 : Int32)), .val (.long (-7046029254386353131 : Int64)), .second, .unset] [(.int (5 : Int32))])
    refine own_go (fun _ k => XS.istore X41.here hx rfl (hb hby d3_10) rfl (l' := #[.val (.ref a1), .val (.ref a2), .val (.int (5 : Int32)), .val (.long (-7046029254386353131 : Int64)), .second, .val (.int (5 : Int32))]) rfl k) ?_
    refine own_go (fun _ k => XS.iload X41.here hx rfl (hb hby d3_12) rfl k) ?_
    refine own_go (fun _ k => XS.iloadN X41.here hx rfl (hb hby d3_14) rfl k) ?_
    refine own_go (fun _ k => XS.aloadN X41.here hx rfl (hb hby d3_15) rfl rfl k) ?_
    show own_Run p e below _ T41 (mkF m 16 #[.val (.ref a1), .val (.ref a2), .val (.int (5 : Int32)), .val (.long (-7046029254386353131 : Int64)), .second, .val (.int (5 : Int32))] [(.ref a1), (.int (5 : Int32)), (.int (5 : Int32))])
    obtain ⟨T42, X42, e42, st42⟩ := getF X41 hx hZ hown (host := "") (Or.inl (W 15 rfl)) Via.refl e41 F_rows_a1 (g := (mkF m 16 #[.val (.ref a1), .val (.ref a2), .val (.int (5 : Int32)), .val (.long (-7046029254386353131 : Int64)), .second, .val (.int (5 : Int32))] [(.ref a1), (.int (5 : Int32)), (.int (5 : Int32))])) rfl rfl (hb hby d3_16)
    refine own_go st42 ?_
    show own_Run p e below _ T42 (mkF m 19 #[.val (.ref a1), .val (.ref a2), .val (.int (5 : Int32)), .val (.long (-7046029254386353131 : Int64)), .second, .val (.int (5 : Int32))] [(.int (1 : Int32)), (.int (5 : Int32)), (.int (5 : Int32))])
    refine own_go (fun _ k => XS.imul X42.here hx rfl (hb hby d3_19) rfl k) ?_
    show own_Run p e below _ T42 (mkF m 20 #[.val (.ref a1), .val (.ref a2), .val (.int (5 : Int32)), .val (.long (-7046029254386353131 : Int64)), .second, .val (.int (5 : Int32))] [(.int ((5 : Int32) * (1 : Int32))), (.int (5 : Int32))])
    rw [show ((5 : Int32) * (1 : Int32)) = (5 : Int32) by decide]
    show own_Run p e below _ T42 (mkF m 20 #[.val (.ref a1), .val (.ref a2), .val (.int (5 : Int32)), .val (.long (-7046029254386353131 : Int64)), .second, .val (.int (5 : Int32))] [(.int (5 : Int32)), (.int (5 : Int32))])
    refine own_go (fun _ k => XS.aloadN X42.here hx rfl (hb hby d3_20) rfl rfl k) ?_
    show own_Run p e below _ T42 (mkF m 21 #[.val (.ref a1), .val (.ref a2), .val (.int (5 : Int32)), .val (.long (-7046029254386353131 : Int64)), .second, .val (.int (5 : Int32))] [(.ref a1), (.int (5 : Int32)), (.int (5 : Int32))])
    obtain ⟨T43, X43, e43, st43⟩ := getF X42 hx hZ hown (host := "") (Or.inl (W 15 rfl)) Via.refl e42 F_rows_a1 (g := (mkF m 21 #[.val (.ref a1), .val (.ref a2), .val (.int (5 : Int32)), .val (.long (-7046029254386353131 : Int64)), .second, .val (.int (5 : Int32))] [(.ref a1), (.int (5 : Int32)), (.int (5 : Int32))])) rfl rfl (hb hby d3_21)
    refine own_go st43 ?_
    show own_Run p e below _ T43 (mkF m 24 #[.val (.ref a1), .val (.ref a2), .val (.int (5 : Int32)), .val (.long (-7046029254386353131 : Int64)), .second, .val (.int (5 : Int32))] [(.int (1 : Int32)), (.int (5 : Int32)), (.int (5 : Int32))])
    refine own_go (fun _ k => XS.iadd X43.here hx rfl (hb hby d3_24) rfl k) ?_
    show own_Run p e below _ T43 (mkF m 25 #[.val (.ref a1), .val (.ref a2), .val (.int (5 : Int32)), .val (.long (-7046029254386353131 : Int64)), .second, .val (.int (5 : Int32))] [(.int ((5 : Int32) + (1 : Int32))), (.int (5 : Int32))])
    rw [show ((5 : Int32) + (1 : Int32)) = (6 : Int32) by decide]
    show own_Run p e below _ T43 (mkF m 25 #[.val (.ref a1), .val (.ref a2), .val (.int (5 : Int32)), .val (.long (-7046029254386353131 : Int64)), .second, .val (.int (5 : Int32))] [(.int (6 : Int32)), (.int (5 : Int32))])
    refine own_go (fun _ k => XS.icmpNo X43.here hx rfl (hb hby d3_25) rfl (tlt (by decide : (5 : Int32) < (6 : Int32))).2.1 k) ?_
    show own_Run p e below _ T43 (mkF m 28 #[.val (.ref a1), .val (.ref a2), .val (.int (5 : Int32)), .val (.long (-7046029254386353131 : Int64)), .second, .val (.int (5 : Int32))] [])
    refine own_go (fun _ k => XS.lloadN X43.here hx rfl (hb hby d3_28) rfl k) ?_
    refine own_go (fun _ k => XS.aloadN X43.here hx rfl (hb hby d3_29) rfl rfl k) ?_
    refine own_go (fun _ k => XS.iload X43.here hx rfl (hb hby d3_30) rfl k) ?_
    show own_Run p e below _ T43 (mkF m 32 #[.val (.ref a1), .val (.ref a2), .val (.int (5 : Int32)), .val (.long (-7046029254386353131 : Int64)), .second, .val (.int (5 : Int32))] [(.int (5 : Int32)), (.ref a2), (.long (-7046029254386353131 : Int64))])
    obtain ⟨cl44, Ar44, q44, S44, N44, H44, G44⟩ := id V_a2
    have hin44 : ¬ ((5 : Int32) < 0 ∨ cl44.slots.size ≤ ((5 : Int32)).toNatClampNeg) := inb_of S44 ⟨by decide, by decide⟩
    refine own_go (X43.laload hx (j := (5 : Int32)) (v := (.long v5)) (by rw [e43]; exact Ar44.1) (State.isArrayOf_alike hZ.alike Ar44.2.1) Ar44.2.2 hin44 (H44.at hin44 rfl) (g := (mkF m 32 #[.val (.ref a1), .val (.ref a2), .val (.int (5 : Int32)), .val (.long (-7046029254386353131 : Int64)), .second, .val (.int (5 : Int32))] [(.int (5 : Int32)), (.ref a2), (.long (-7046029254386353131 : Int64))])) rfl rfl (hb hby d3_32)) ?_
    show own_Run p e below _ T43 (mkF m 33 #[.val (.ref a1), .val (.ref a2), .val (.int (5 : Int32)), .val (.long (-7046029254386353131 : Int64)), .second, .val (.int (5 : Int32))] [(.long v5), (.long (-7046029254386353131 : Int64))])
    refine own_go (fun _ k => XS.lxor X43.here hx rfl (hb hby d3_33) rfl k) ?_
    show own_Run p e below _ T43 (mkF m 34 #[.val (.ref a1), .val (.ref a2), .val (.int (5 : Int32)), .val (.long (-7046029254386353131 : Int64)), .second, .val (.int (5 : Int32))] [(.long ((-7046029254386353131 : Int64) ^^^ v5))])
    obtain ⟨_, _, ⟨T45, L45, k45, n45⟩, -, X45, ⟨Lc45, hQ45, l45, y45, z45⟩, st45⟩ := Jvm.LawKit.callS X43 hx (y := (⟨"com/example/near_duplicate_finder/nearduplicatefinder/ShingleHash", "mix", "(J)J"⟩ : MethodName)) hown (mvT hZ (W 23 rfl)) (mvT hZ (W 24 rfl)) (mvT hZ (W 25 rfl)) (mvT hZ (W 26 rfl)) (by decide) (backOf (W := 0) (rm4 l Z a0 hw [] ((-7046029254386353131 : Int64) ^^^ v5) h0 n0 Z0 ) hZ (W 26 rfl) (W 25 rfl) (by decide) (by decide)) (g := (mkF m 34 #[.val (.ref a1), .val (.ref a2), .val (.int (5 : Int32)), .val (.long (-7046029254386353131 : Int64)), .second, .val (.int (5 : Int32))] [(.long ((-7046029254386353131 : Int64) ^^^ v5))])) rfl (by rw [hml]; rfl) (argsL := [(.long ((-7046029254386353131 : Int64) ^^^ v5))]) (rest := []) (lenOf pd_1 rfl) rfl (by show 2 * 0 + _ ≤ _; exact Nat.le_of_eq rfl) (hb hby d3_34) (fun _ _ => ⟨rfl, e43, (by decide : 0 + 0 ≤ _), (by decide : 0 + 0 ≤ _)⟩)
    dsimp only [Pt.U, Pt.locs, Pt.cells, Pt.slots] at X45 l45 y45 z45 st45 hQ45
    subst l45 y45 z45
    obtain ⟨rfl, N45q, e45⟩ := hQ45
    have N45 := Fr.app N0 N45q
    refine own_go st45 ?_
    show own_Run p e below _ T45 (mkF m 37 #[.val (.ref a1), .val (.ref a2), .val (.int (5 : Int32)), .val (.long (-7046029254386353131 : Int64)), .second, .val (.int (5 : Int32))] [(.long (own_mix ((-7046029254386353131 : Int64) ^^^ v5)))])
    refine own_go (fun _ k => XS.lstoreN X45.here hx rfl (hb hby d3_37) rfl (l' := #[.val (.ref a1), .val (.ref a2), .val (.int (5 : Int32)), .val (.long (own_mix ((-7046029254386353131 : Int64) ^^^ v5))), .second, .val (.int (5 : Int32))]) rfl k) ?_
    refine own_go (fun _ k => XS.iinc X45.here hx rfl (hb hby d3_38) rfl (l' := #[.val (.ref a1), .val (.ref a2), .val (.int (5 : Int32)), .val (.long (own_mix ((-7046029254386353131 : Int64) ^^^ v5))), .second, .val (.int ((5 : Int32) + (1 : Int32)))]) rfl k) ?_
    show own_Run p e below _ T45 (mkF m 41 #[.val (.ref a1), .val (.ref a2), .val (.int (5 : Int32)), .val (.long (own_mix ((-7046029254386353131 : Int64) ^^^ v5))), .second, .val (.int ((5 : Int32) + (1 : Int32)))] [])
    rw [show ((5 : Int32) + (1 : Int32)) = (6 : Int32) by decide]
    show own_Run p e below _ T45 (mkF m 41 #[.val (.ref a1), .val (.ref a2), .val (.int (5 : Int32)), .val (.long (own_mix ((-7046029254386353131 : Int64) ^^^ v5))), .second, .val (.int (6 : Int32))] [])
    refine own_go (fun _ k => XS.goto X45.here hx rfl (pc0 := 41) (pc' := 12) rfl (hb hby d3_41) (by decide) (by decide) k) ?_
    refine own_go (fun _ k => XS.iload X45.here hx rfl (hb hby d3_12) rfl k) ?_
    refine own_go (fun _ k => XS.iloadN X45.here hx rfl (hb hby d3_14) rfl k) ?_
    refine own_go (fun _ k => XS.aloadN X45.here hx rfl (hb hby d3_15) rfl rfl k) ?_
    show own_Run p e below _ T45 (mkF m 16 #[.val (.ref a1), .val (.ref a2), .val (.int (5 : Int32)), .val (.long (own_mix ((-7046029254386353131 : Int64) ^^^ v5))), .second, .val (.int (6 : Int32))] [(.ref a1), (.int (5 : Int32)), (.int (6 : Int32))])
    obtain ⟨T46, X46, e46, st46⟩ := getF X45 hx hZ hown (host := "") (Or.inl (W 15 rfl)) Via.refl e45 F_rows_a1 (g := (mkF m 16 #[.val (.ref a1), .val (.ref a2), .val (.int (5 : Int32)), .val (.long (own_mix ((-7046029254386353131 : Int64) ^^^ v5))), .second, .val (.int (6 : Int32))] [(.ref a1), (.int (5 : Int32)), (.int (6 : Int32))])) rfl rfl (hb hby d3_16)
    refine own_go st46 ?_
    show own_Run p e below _ T46 (mkF m 19 #[.val (.ref a1), .val (.ref a2), .val (.int (5 : Int32)), .val (.long (own_mix ((-7046029254386353131 : Int64) ^^^ v5))), .second, .val (.int (6 : Int32))] [(.int (1 : Int32)), (.int (5 : Int32)), (.int (6 : Int32))])
    refine own_go (fun _ k => XS.imul X46.here hx rfl (hb hby d3_19) rfl k) ?_
    show own_Run p e below _ T46 (mkF m 20 #[.val (.ref a1), .val (.ref a2), .val (.int (5 : Int32)), .val (.long (own_mix ((-7046029254386353131 : Int64) ^^^ v5))), .second, .val (.int (6 : Int32))] [(.int ((5 : Int32) * (1 : Int32))), (.int (6 : Int32))])
    rw [show ((5 : Int32) * (1 : Int32)) = (5 : Int32) by decide]
    show own_Run p e below _ T46 (mkF m 20 #[.val (.ref a1), .val (.ref a2), .val (.int (5 : Int32)), .val (.long (own_mix ((-7046029254386353131 : Int64) ^^^ v5))), .second, .val (.int (6 : Int32))] [(.int (5 : Int32)), (.int (6 : Int32))])
    refine own_go (fun _ k => XS.aloadN X46.here hx rfl (hb hby d3_20) rfl rfl k) ?_
    show own_Run p e below _ T46 (mkF m 21 #[.val (.ref a1), .val (.ref a2), .val (.int (5 : Int32)), .val (.long (own_mix ((-7046029254386353131 : Int64) ^^^ v5))), .second, .val (.int (6 : Int32))] [(.ref a1), (.int (5 : Int32)), (.int (6 : Int32))])
    obtain ⟨T47, X47, e47, st47⟩ := getF X46 hx hZ hown (host := "") (Or.inl (W 15 rfl)) Via.refl e46 F_rows_a1 (g := (mkF m 21 #[.val (.ref a1), .val (.ref a2), .val (.int (5 : Int32)), .val (.long (own_mix ((-7046029254386353131 : Int64) ^^^ v5))), .second, .val (.int (6 : Int32))] [(.ref a1), (.int (5 : Int32)), (.int (6 : Int32))])) rfl rfl (hb hby d3_21)
    refine own_go st47 ?_
    show own_Run p e below _ T47 (mkF m 24 #[.val (.ref a1), .val (.ref a2), .val (.int (5 : Int32)), .val (.long (own_mix ((-7046029254386353131 : Int64) ^^^ v5))), .second, .val (.int (6 : Int32))] [(.int (1 : Int32)), (.int (5 : Int32)), (.int (6 : Int32))])
    refine own_go (fun _ k => XS.iadd X47.here hx rfl (hb hby d3_24) rfl k) ?_
    show own_Run p e below _ T47 (mkF m 25 #[.val (.ref a1), .val (.ref a2), .val (.int (5 : Int32)), .val (.long (own_mix ((-7046029254386353131 : Int64) ^^^ v5))), .second, .val (.int (6 : Int32))] [(.int ((5 : Int32) + (1 : Int32))), (.int (6 : Int32))])
    rw [show ((5 : Int32) + (1 : Int32)) = (6 : Int32) by decide]
    show own_Run p e below _ T47 (mkF m 25 #[.val (.ref a1), .val (.ref a2), .val (.int (5 : Int32)), .val (.long (own_mix ((-7046029254386353131 : Int64) ^^^ v5))), .second, .val (.int (6 : Int32))] [(.int (6 : Int32)), (.int (6 : Int32))])
    refine own_go (fun _ k => XS.icmpYes X47.here hx rfl (pc0 := 25) (pc' := 44) rfl (hb hby d3_25) rfl (flt (by decide : ¬ ((6 : Int32) < (6 : Int32)))).2.1 (by decide) (by decide) k) ?_
    show own_Run p e below _ T47 (mkF m 44 #[.val (.ref a1), .val (.ref a2), .val (.int (5 : Int32)), .val (.long (own_mix ((-7046029254386353131 : Int64) ^^^ v5))), .second, .val (.int (6 : Int32))] [])
    refine own_go (fun _ k => XS.lloadN X47.here hx rfl (hb hby d3_44) rfl k) ?_
    show own_Run p e below _ T47 (mkF m 45 #[.val (.ref a1), .val (.ref a2), .val (.int (5 : Int32)), .val (.long (own_mix ((-7046029254386353131 : Int64) ^^^ v5))), .second, .val (.int (6 : Int32))] [(.long (own_mix ((-7046029254386353131 : Int64) ^^^ v5)))])
    refine own_done (Q := fun v h L => Q3 Z a1 a2 (5 : Int32) (1 : Int32) kk v0 v1 v2 v3 v4 v5 (own_mix ((-7046029254386353131 : Int64) ^^^ v5)) h0 n0 v h L) (v := (some (.long (own_mix ((-7046029254386353131 : Int64) ^^^ v5))))) X47 (fun h => by rw [hret] at h; cases h) hlk (fun fs hr => own_retL X47 hx hret (hb hby d3_45) hr) ?_ (by decide) (by decide)
    show Q3 Z a1 a2 (5 : Int32) (1 : Int32) kk v0 v1 v2 v3 v4 v5 (own_mix ((-7046029254386353131 : Int64) ^^^ v5)) h0 n0 _ T47.heap _
    rw [e47]
    exact ⟨rfl, N45, rfl⟩
  · show own_Run p e below _ s₁ (mkF m 0 #[.val (.ref a1), .val (.ref a2), .val (.int (0 : Int32)), .unset, .unset, .unset] [])
    refine own_go (X0.ldc2Long hx hown (mvT hZ (W 22 rfl)) (g := (mkF m 0 #[.val (.ref a1), .val (.ref a2), .val (.int (0 : Int32)), .unset, .unset, .unset] [])) rfl (hb hby d3_0)) ?_
    show own_Run p e below _ s₁ (mkF m 3 #[.val (.ref a1), .val (.ref a2), .val (.int (0 : Int32)), .unset, .unset, .unset] [(.long (-7046029254386353131 : Int64))])
    refine own_go (fun _ k => XS.lstoreN X0.here hx rfl (hb hby d3_3) rfl (l' := #[.val (.ref a1), .val (.ref a2), .val (.int (0 : Int32)), .val (.long (-7046029254386353131 : Int64)), .second, .unset]) rfl k) ?_
    refine own_go (fun _ k => XS.iloadN X0.here hx rfl (hb hby d3_4) rfl k) ?_
    refine own_go (fun _ k => XS.aloadN X0.here hx rfl (hb hby d3_5) rfl rfl k) ?_
    show own_Run p e below _ s₁ (mkF m 6 #[.val (.ref a1), .val (.ref a2), .val (.int (0 : Int32)), .val (.long (-7046029254386353131 : Int64)), .second, .unset] [(.ref a1), (.int (0 : Int32))])
    obtain ⟨T48, X48, e48, st48⟩ := getF X0 hx hZ hown (host := "") (Or.inl (W 15 rfl)) Via.refl e0 F_rows_a1 (g := (mkF m 6 #[.val (.ref a1), .val (.ref a2), .val (.int (0 : Int32)), .val (.long (-7046029254386353131 : Int64)), .second, .unset] [(.ref a1), (.int (0 : Int32))])) rfl rfl (hb hby d3_6)
    refine own_go st48 ?_
    show own_Run p e below _ T48 (mkF m 9 #[.val (.ref a1), .val (.ref a2), .val (.int (0 : Int32)), .val (.long (-7046029254386353131 : Int64)), .second, .unset] [(.int (2 : Int32)), (.int (0 : Int32))])
    refine own_go (fun _ k => XS.imul X48.here hx rfl (hb hby d3_9) rfl k) ?_
    show own_Run p e below _ T48 (mkF m 10 #[.val (.ref a1), .val (.ref a2), .val (.int (0 : Int32)), .val (.long (-7046029254386353131 : Int64)), .second, .unset] [(.int ((0 : Int32) * (2 : Int32)))])
    rw [show ((0 : Int32) * (2 : Int32)) = (0 : Int32) by decide]
    show own_Run p e below _ T48 (mkF m 10 #[.val (.ref a1), .val (.ref a2), .val (.int (0 : Int32)), .val (.long (-7046029254386353131 : Int64)), .second, .unset] [(.int (0 : Int32))])
    refine own_go (fun _ k => XS.istore X48.here hx rfl (hb hby d3_10) rfl (l' := #[.val (.ref a1), .val (.ref a2), .val (.int (0 : Int32)), .val (.long (-7046029254386353131 : Int64)), .second, .val (.int (0 : Int32))]) rfl k) ?_
    refine own_go (fun _ k => XS.iload X48.here hx rfl (hb hby d3_12) rfl k) ?_
    refine own_go (fun _ k => XS.iloadN X48.here hx rfl (hb hby d3_14) rfl k) ?_
    refine own_go (fun _ k => XS.aloadN X48.here hx rfl (hb hby d3_15) rfl rfl k) ?_
    show own_Run p e below _ T48 (mkF m 16 #[.val (.ref a1), .val (.ref a2), .val (.int (0 : Int32)), .val (.long (-7046029254386353131 : Int64)), .second, .val (.int (0 : Int32))] [(.ref a1), (.int (0 : Int32)), (.int (0 : Int32))])
    obtain ⟨T49, X49, e49, st49⟩ := getF X48 hx hZ hown (host := "") (Or.inl (W 15 rfl)) Via.refl e48 F_rows_a1 (g := (mkF m 16 #[.val (.ref a1), .val (.ref a2), .val (.int (0 : Int32)), .val (.long (-7046029254386353131 : Int64)), .second, .val (.int (0 : Int32))] [(.ref a1), (.int (0 : Int32)), (.int (0 : Int32))])) rfl rfl (hb hby d3_16)
    refine own_go st49 ?_
    show own_Run p e below _ T49 (mkF m 19 #[.val (.ref a1), .val (.ref a2), .val (.int (0 : Int32)), .val (.long (-7046029254386353131 : Int64)), .second, .val (.int (0 : Int32))] [(.int (2 : Int32)), (.int (0 : Int32)), (.int (0 : Int32))])
    refine own_go (fun _ k => XS.imul X49.here hx rfl (hb hby d3_19) rfl k) ?_
    show own_Run p e below _ T49 (mkF m 20 #[.val (.ref a1), .val (.ref a2), .val (.int (0 : Int32)), .val (.long (-7046029254386353131 : Int64)), .second, .val (.int (0 : Int32))] [(.int ((0 : Int32) * (2 : Int32))), (.int (0 : Int32))])
    rw [show ((0 : Int32) * (2 : Int32)) = (0 : Int32) by decide]
    show own_Run p e below _ T49 (mkF m 20 #[.val (.ref a1), .val (.ref a2), .val (.int (0 : Int32)), .val (.long (-7046029254386353131 : Int64)), .second, .val (.int (0 : Int32))] [(.int (0 : Int32)), (.int (0 : Int32))])
    refine own_go (fun _ k => XS.aloadN X49.here hx rfl (hb hby d3_20) rfl rfl k) ?_
    show own_Run p e below _ T49 (mkF m 21 #[.val (.ref a1), .val (.ref a2), .val (.int (0 : Int32)), .val (.long (-7046029254386353131 : Int64)), .second, .val (.int (0 : Int32))] [(.ref a1), (.int (0 : Int32)), (.int (0 : Int32))])
    obtain ⟨T50, X50, e50, st50⟩ := getF X49 hx hZ hown (host := "") (Or.inl (W 15 rfl)) Via.refl e49 F_rows_a1 (g := (mkF m 21 #[.val (.ref a1), .val (.ref a2), .val (.int (0 : Int32)), .val (.long (-7046029254386353131 : Int64)), .second, .val (.int (0 : Int32))] [(.ref a1), (.int (0 : Int32)), (.int (0 : Int32))])) rfl rfl (hb hby d3_21)
    refine own_go st50 ?_
    show own_Run p e below _ T50 (mkF m 24 #[.val (.ref a1), .val (.ref a2), .val (.int (0 : Int32)), .val (.long (-7046029254386353131 : Int64)), .second, .val (.int (0 : Int32))] [(.int (2 : Int32)), (.int (0 : Int32)), (.int (0 : Int32))])
    refine own_go (fun _ k => XS.iadd X50.here hx rfl (hb hby d3_24) rfl k) ?_
    show own_Run p e below _ T50 (mkF m 25 #[.val (.ref a1), .val (.ref a2), .val (.int (0 : Int32)), .val (.long (-7046029254386353131 : Int64)), .second, .val (.int (0 : Int32))] [(.int ((0 : Int32) + (2 : Int32))), (.int (0 : Int32))])
    rw [show ((0 : Int32) + (2 : Int32)) = (2 : Int32) by decide]
    show own_Run p e below _ T50 (mkF m 25 #[.val (.ref a1), .val (.ref a2), .val (.int (0 : Int32)), .val (.long (-7046029254386353131 : Int64)), .second, .val (.int (0 : Int32))] [(.int (2 : Int32)), (.int (0 : Int32))])
    refine own_go (fun _ k => XS.icmpNo X50.here hx rfl (hb hby d3_25) rfl (tlt (by decide : (0 : Int32) < (2 : Int32))).2.1 k) ?_
    show own_Run p e below _ T50 (mkF m 28 #[.val (.ref a1), .val (.ref a2), .val (.int (0 : Int32)), .val (.long (-7046029254386353131 : Int64)), .second, .val (.int (0 : Int32))] [])
    refine own_go (fun _ k => XS.lloadN X50.here hx rfl (hb hby d3_28) rfl k) ?_
    refine own_go (fun _ k => XS.aloadN X50.here hx rfl (hb hby d3_29) rfl rfl k) ?_
    refine own_go (fun _ k => XS.iload X50.here hx rfl (hb hby d3_30) rfl k) ?_
    show own_Run p e below _ T50 (mkF m 32 #[.val (.ref a1), .val (.ref a2), .val (.int (0 : Int32)), .val (.long (-7046029254386353131 : Int64)), .second, .val (.int (0 : Int32))] [(.int (0 : Int32)), (.ref a2), (.long (-7046029254386353131 : Int64))])
    obtain ⟨cl51, Ar51, q51, S51, N51, H51, G51⟩ := id V_a2
    have hin51 : ¬ ((0 : Int32) < 0 ∨ cl51.slots.size ≤ ((0 : Int32)).toNatClampNeg) := inb_of S51 ⟨by decide, by decide⟩
    refine own_go (X50.laload hx (j := (0 : Int32)) (v := (.long v0)) (by rw [e50]; exact Ar51.1) (State.isArrayOf_alike hZ.alike Ar51.2.1) Ar51.2.2 hin51 (H51.at hin51 rfl) (g := (mkF m 32 #[.val (.ref a1), .val (.ref a2), .val (.int (0 : Int32)), .val (.long (-7046029254386353131 : Int64)), .second, .val (.int (0 : Int32))] [(.int (0 : Int32)), (.ref a2), (.long (-7046029254386353131 : Int64))])) rfl rfl (hb hby d3_32)) ?_
    show own_Run p e below _ T50 (mkF m 33 #[.val (.ref a1), .val (.ref a2), .val (.int (0 : Int32)), .val (.long (-7046029254386353131 : Int64)), .second, .val (.int (0 : Int32))] [(.long v0), (.long (-7046029254386353131 : Int64))])
    refine own_go (fun _ k => XS.lxor X50.here hx rfl (hb hby d3_33) rfl k) ?_
    show own_Run p e below _ T50 (mkF m 34 #[.val (.ref a1), .val (.ref a2), .val (.int (0 : Int32)), .val (.long (-7046029254386353131 : Int64)), .second, .val (.int (0 : Int32))] [(.long ((-7046029254386353131 : Int64) ^^^ v0))])
    obtain ⟨_, _, ⟨T52, L52, k52, n52⟩, -, X52, ⟨Lc52, hQ52, l52, y52, z52⟩, st52⟩ := Jvm.LawKit.callS X50 hx (y := (⟨"com/example/near_duplicate_finder/nearduplicatefinder/ShingleHash", "mix", "(J)J"⟩ : MethodName)) hown (mvT hZ (W 23 rfl)) (mvT hZ (W 24 rfl)) (mvT hZ (W 25 rfl)) (mvT hZ (W 26 rfl)) (by decide) (backOf (W := 0) (rm4 l Z a0 hw [] ((-7046029254386353131 : Int64) ^^^ v0) h0 n0 Z0 ) hZ (W 26 rfl) (W 25 rfl) (by decide) (by decide)) (g := (mkF m 34 #[.val (.ref a1), .val (.ref a2), .val (.int (0 : Int32)), .val (.long (-7046029254386353131 : Int64)), .second, .val (.int (0 : Int32))] [(.long ((-7046029254386353131 : Int64) ^^^ v0))])) rfl (by rw [hml]; rfl) (argsL := [(.long ((-7046029254386353131 : Int64) ^^^ v0))]) (rest := []) (lenOf pd_1 rfl) rfl (by show 2 * 0 + _ ≤ _; exact Nat.le_of_eq rfl) (hb hby d3_34) (fun _ _ => ⟨rfl, e50, (by decide : 0 + 0 ≤ _), (by decide : 0 + 0 ≤ _)⟩)
    dsimp only [Pt.U, Pt.locs, Pt.cells, Pt.slots] at X52 l52 y52 z52 st52 hQ52
    subst l52 y52 z52
    obtain ⟨rfl, N52q, e52⟩ := hQ52
    have N52 := Fr.app N0 N52q
    refine own_go st52 ?_
    show own_Run p e below _ T52 (mkF m 37 #[.val (.ref a1), .val (.ref a2), .val (.int (0 : Int32)), .val (.long (-7046029254386353131 : Int64)), .second, .val (.int (0 : Int32))] [(.long (own_mix ((-7046029254386353131 : Int64) ^^^ v0)))])
    refine own_go (fun _ k => XS.lstoreN X52.here hx rfl (hb hby d3_37) rfl (l' := #[.val (.ref a1), .val (.ref a2), .val (.int (0 : Int32)), .val (.long (own_mix ((-7046029254386353131 : Int64) ^^^ v0))), .second, .val (.int (0 : Int32))]) rfl k) ?_
    refine own_go (fun _ k => XS.iinc X52.here hx rfl (hb hby d3_38) rfl (l' := #[.val (.ref a1), .val (.ref a2), .val (.int (0 : Int32)), .val (.long (own_mix ((-7046029254386353131 : Int64) ^^^ v0))), .second, .val (.int ((0 : Int32) + (1 : Int32)))]) rfl k) ?_
    show own_Run p e below _ T52 (mkF m 41 #[.val (.ref a1), .val (.ref a2), .val (.int (0 : Int32)), .val (.long (own_mix ((-7046029254386353131 : Int64) ^^^ v0))), .second, .val (.int ((0 : Int32) + (1 : Int32)))] [])
    rw [show ((0 : Int32) + (1 : Int32)) = (1 : Int32) by decide]
    show own_Run p e below _ T52 (mkF m 41 #[.val (.ref a1), .val (.ref a2), .val (.int (0 : Int32)), .val (.long (own_mix ((-7046029254386353131 : Int64) ^^^ v0))), .second, .val (.int (1 : Int32))] [])
    refine own_go (fun _ k => XS.goto X52.here hx rfl (pc0 := 41) (pc' := 12) rfl (hb hby d3_41) (by decide) (by decide) k) ?_
    refine own_go (fun _ k => XS.iload X52.here hx rfl (hb hby d3_12) rfl k) ?_
    refine own_go (fun _ k => XS.iloadN X52.here hx rfl (hb hby d3_14) rfl k) ?_
    refine own_go (fun _ k => XS.aloadN X52.here hx rfl (hb hby d3_15) rfl rfl k) ?_
    show own_Run p e below _ T52 (mkF m 16 #[.val (.ref a1), .val (.ref a2), .val (.int (0 : Int32)), .val (.long (own_mix ((-7046029254386353131 : Int64) ^^^ v0))), .second, .val (.int (1 : Int32))] [(.ref a1), (.int (0 : Int32)), (.int (1 : Int32))])
    obtain ⟨T53, X53, e53, st53⟩ := getF X52 hx hZ hown (host := "") (Or.inl (W 15 rfl)) Via.refl e52 F_rows_a1 (g := (mkF m 16 #[.val (.ref a1), .val (.ref a2), .val (.int (0 : Int32)), .val (.long (own_mix ((-7046029254386353131 : Int64) ^^^ v0))), .second, .val (.int (1 : Int32))] [(.ref a1), (.int (0 : Int32)), (.int (1 : Int32))])) rfl rfl (hb hby d3_16)
    refine own_go st53 ?_
    show own_Run p e below _ T53 (mkF m 19 #[.val (.ref a1), .val (.ref a2), .val (.int (0 : Int32)), .val (.long (own_mix ((-7046029254386353131 : Int64) ^^^ v0))), .second, .val (.int (1 : Int32))] [(.int (2 : Int32)), (.int (0 : Int32)), (.int (1 : Int32))])
    refine own_go (fun _ k => XS.imul X53.here hx rfl (hb hby d3_19) rfl k) ?_
    show own_Run p e below _ T53 (mkF m 20 #[.val (.ref a1), .val (.ref a2), .val (.int (0 : Int32)), .val (.long (own_mix ((-7046029254386353131 : Int64) ^^^ v0))), .second, .val (.int (1 : Int32))] [(.int ((0 : Int32) * (2 : Int32))), (.int (1 : Int32))])
    rw [show ((0 : Int32) * (2 : Int32)) = (0 : Int32) by decide]
    show own_Run p e below _ T53 (mkF m 20 #[.val (.ref a1), .val (.ref a2), .val (.int (0 : Int32)), .val (.long (own_mix ((-7046029254386353131 : Int64) ^^^ v0))), .second, .val (.int (1 : Int32))] [(.int (0 : Int32)), (.int (1 : Int32))])
    refine own_go (fun _ k => XS.aloadN X53.here hx rfl (hb hby d3_20) rfl rfl k) ?_
    show own_Run p e below _ T53 (mkF m 21 #[.val (.ref a1), .val (.ref a2), .val (.int (0 : Int32)), .val (.long (own_mix ((-7046029254386353131 : Int64) ^^^ v0))), .second, .val (.int (1 : Int32))] [(.ref a1), (.int (0 : Int32)), (.int (1 : Int32))])
    obtain ⟨T54, X54, e54, st54⟩ := getF X53 hx hZ hown (host := "") (Or.inl (W 15 rfl)) Via.refl e53 F_rows_a1 (g := (mkF m 21 #[.val (.ref a1), .val (.ref a2), .val (.int (0 : Int32)), .val (.long (own_mix ((-7046029254386353131 : Int64) ^^^ v0))), .second, .val (.int (1 : Int32))] [(.ref a1), (.int (0 : Int32)), (.int (1 : Int32))])) rfl rfl (hb hby d3_21)
    refine own_go st54 ?_
    show own_Run p e below _ T54 (mkF m 24 #[.val (.ref a1), .val (.ref a2), .val (.int (0 : Int32)), .val (.long (own_mix ((-7046029254386353131 : Int64) ^^^ v0))), .second, .val (.int (1 : Int32))] [(.int (2 : Int32)), (.int (0 : Int32)), (.int (1 : Int32))])
    refine own_go (fun _ k => XS.iadd X54.here hx rfl (hb hby d3_24) rfl k) ?_
    show own_Run p e below _ T54 (mkF m 25 #[.val (.ref a1), .val (.ref a2), .val (.int (0 : Int32)), .val (.long (own_mix ((-7046029254386353131 : Int64) ^^^ v0))), .second, .val (.int (1 : Int32))] [(.int ((0 : Int32) + (2 : Int32))), (.int (1 : Int32))])
    rw [show ((0 : Int32) + (2 : Int32)) = (2 : Int32) by decide]
    show own_Run p e below _ T54 (mkF m 25 #[.val (.ref a1), .val (.ref a2), .val (.int (0 : Int32)), .val (.long (own_mix ((-7046029254386353131 : Int64) ^^^ v0))), .second, .val (.int (1 : Int32))] [(.int (2 : Int32)), (.int (1 : Int32))])
    refine own_go (fun _ k => XS.icmpNo X54.here hx rfl (hb hby d3_25) rfl (tlt (by decide : (1 : Int32) < (2 : Int32))).2.1 k) ?_
    show own_Run p e below _ T54 (mkF m 28 #[.val (.ref a1), .val (.ref a2), .val (.int (0 : Int32)), .val (.long (own_mix ((-7046029254386353131 : Int64) ^^^ v0))), .second, .val (.int (1 : Int32))] [])
    refine own_go (fun _ k => XS.lloadN X54.here hx rfl (hb hby d3_28) rfl k) ?_
    refine own_go (fun _ k => XS.aloadN X54.here hx rfl (hb hby d3_29) rfl rfl k) ?_
    refine own_go (fun _ k => XS.iload X54.here hx rfl (hb hby d3_30) rfl k) ?_
    show own_Run p e below _ T54 (mkF m 32 #[.val (.ref a1), .val (.ref a2), .val (.int (0 : Int32)), .val (.long (own_mix ((-7046029254386353131 : Int64) ^^^ v0))), .second, .val (.int (1 : Int32))] [(.int (1 : Int32)), (.ref a2), (.long (own_mix ((-7046029254386353131 : Int64) ^^^ v0)))])
    obtain ⟨cl55, Ar55, q55, S55, N55, H55, G55⟩ := id V_a2
    have hin55 : ¬ ((1 : Int32) < 0 ∨ cl55.slots.size ≤ ((1 : Int32)).toNatClampNeg) := inb_of S55 ⟨by decide, by decide⟩
    refine own_go (X54.laload hx (j := (1 : Int32)) (v := (.long v1)) (by rw [e54]; exact Ar55.1) (State.isArrayOf_alike hZ.alike Ar55.2.1) Ar55.2.2 hin55 (H55.at hin55 rfl) (g := (mkF m 32 #[.val (.ref a1), .val (.ref a2), .val (.int (0 : Int32)), .val (.long (own_mix ((-7046029254386353131 : Int64) ^^^ v0))), .second, .val (.int (1 : Int32))] [(.int (1 : Int32)), (.ref a2), (.long (own_mix ((-7046029254386353131 : Int64) ^^^ v0)))])) rfl rfl (hb hby d3_32)) ?_
    show own_Run p e below _ T54 (mkF m 33 #[.val (.ref a1), .val (.ref a2), .val (.int (0 : Int32)), .val (.long (own_mix ((-7046029254386353131 : Int64) ^^^ v0))), .second, .val (.int (1 : Int32))] [(.long v1), (.long (own_mix ((-7046029254386353131 : Int64) ^^^ v0)))])
    refine own_go (fun _ k => XS.lxor X54.here hx rfl (hb hby d3_33) rfl k) ?_
    show own_Run p e below _ T54 (mkF m 34 #[.val (.ref a1), .val (.ref a2), .val (.int (0 : Int32)), .val (.long (own_mix ((-7046029254386353131 : Int64) ^^^ v0))), .second, .val (.int (1 : Int32))] [(.long ((own_mix ((-7046029254386353131 : Int64) ^^^ v0)) ^^^ v1))])
    obtain ⟨_, _, ⟨T56, L56, k56, n56⟩, -, X56, ⟨Lc56, hQ56, l56, y56, z56⟩, st56⟩ := Jvm.LawKit.callS X54 hx (y := (⟨"com/example/near_duplicate_finder/nearduplicatefinder/ShingleHash", "mix", "(J)J"⟩ : MethodName)) hown (mvT hZ (W 23 rfl)) (mvT hZ (W 24 rfl)) (mvT hZ (W 25 rfl)) (mvT hZ (W 26 rfl)) (by decide) (backOf (W := 0) (rm4 l Z a0 hw [] ((own_mix ((-7046029254386353131 : Int64) ^^^ v0)) ^^^ v1) h0 n0 Z0 ) hZ (W 26 rfl) (W 25 rfl) (by decide) (by decide)) (g := (mkF m 34 #[.val (.ref a1), .val (.ref a2), .val (.int (0 : Int32)), .val (.long (own_mix ((-7046029254386353131 : Int64) ^^^ v0))), .second, .val (.int (1 : Int32))] [(.long ((own_mix ((-7046029254386353131 : Int64) ^^^ v0)) ^^^ v1))])) rfl (by rw [hml]; rfl) (argsL := [(.long ((own_mix ((-7046029254386353131 : Int64) ^^^ v0)) ^^^ v1))]) (rest := []) (lenOf pd_1 rfl) rfl (by show 2 * 0 + _ ≤ _; exact Nat.le_of_eq rfl) (hb hby d3_34) (fun _ _ => ⟨rfl, e54, (by decide : 0 + 0 ≤ _), (by decide : 0 + 0 ≤ _)⟩)
    dsimp only [Pt.U, Pt.locs, Pt.cells, Pt.slots] at X56 l56 y56 z56 st56 hQ56
    subst l56 y56 z56
    obtain ⟨rfl, N56q, e56⟩ := hQ56
    have N56 := Fr.app N52 N56q
    refine own_go st56 ?_
    show own_Run p e below _ T56 (mkF m 37 #[.val (.ref a1), .val (.ref a2), .val (.int (0 : Int32)), .val (.long (own_mix ((-7046029254386353131 : Int64) ^^^ v0))), .second, .val (.int (1 : Int32))] [(.long (own_mix ((own_mix ((-7046029254386353131 : Int64) ^^^ v0)) ^^^ v1)))])
    refine own_go (fun _ k => XS.lstoreN X56.here hx rfl (hb hby d3_37) rfl (l' := #[.val (.ref a1), .val (.ref a2), .val (.int (0 : Int32)), .val (.long (own_mix ((own_mix ((-7046029254386353131 : Int64) ^^^ v0)) ^^^ v1))), .second, .val (.int (1 : Int32))]) rfl k) ?_
    refine own_go (fun _ k => XS.iinc X56.here hx rfl (hb hby d3_38) rfl (l' := #[.val (.ref a1), .val (.ref a2), .val (.int (0 : Int32)), .val (.long (own_mix ((own_mix ((-7046029254386353131 : Int64) ^^^ v0)) ^^^ v1))), .second, .val (.int ((1 : Int32) + (1 : Int32)))]) rfl k) ?_
    show own_Run p e below _ T56 (mkF m 41 #[.val (.ref a1), .val (.ref a2), .val (.int (0 : Int32)), .val (.long (own_mix ((own_mix ((-7046029254386353131 : Int64) ^^^ v0)) ^^^ v1))), .second, .val (.int ((1 : Int32) + (1 : Int32)))] [])
    rw [show ((1 : Int32) + (1 : Int32)) = (2 : Int32) by decide]
    show own_Run p e below _ T56 (mkF m 41 #[.val (.ref a1), .val (.ref a2), .val (.int (0 : Int32)), .val (.long (own_mix ((own_mix ((-7046029254386353131 : Int64) ^^^ v0)) ^^^ v1))), .second, .val (.int (2 : Int32))] [])
    refine own_go (fun _ k => XS.goto X56.here hx rfl (pc0 := 41) (pc' := 12) rfl (hb hby d3_41) (by decide) (by decide) k) ?_
    refine own_go (fun _ k => XS.iload X56.here hx rfl (hb hby d3_12) rfl k) ?_
    refine own_go (fun _ k => XS.iloadN X56.here hx rfl (hb hby d3_14) rfl k) ?_
    refine own_go (fun _ k => XS.aloadN X56.here hx rfl (hb hby d3_15) rfl rfl k) ?_
    show own_Run p e below _ T56 (mkF m 16 #[.val (.ref a1), .val (.ref a2), .val (.int (0 : Int32)), .val (.long (own_mix ((own_mix ((-7046029254386353131 : Int64) ^^^ v0)) ^^^ v1))), .second, .val (.int (2 : Int32))] [(.ref a1), (.int (0 : Int32)), (.int (2 : Int32))])
    obtain ⟨T57, X57, e57, st57⟩ := getF X56 hx hZ hown (host := "") (Or.inl (W 15 rfl)) Via.refl e56 F_rows_a1 (g := (mkF m 16 #[.val (.ref a1), .val (.ref a2), .val (.int (0 : Int32)), .val (.long (own_mix ((own_mix ((-7046029254386353131 : Int64) ^^^ v0)) ^^^ v1))), .second, .val (.int (2 : Int32))] [(.ref a1), (.int (0 : Int32)), (.int (2 : Int32))])) rfl rfl (hb hby d3_16)
    refine own_go st57 ?_
    show own_Run p e below _ T57 (mkF m 19 #[.val (.ref a1), .val (.ref a2), .val (.int (0 : Int32)), .val (.long (own_mix ((own_mix ((-7046029254386353131 : Int64) ^^^ v0)) ^^^ v1))), .second, .val (.int (2 : Int32))] [(.int (2 : Int32)), (.int (0 : Int32)), (.int (2 : Int32))])
    refine own_go (fun _ k => XS.imul X57.here hx rfl (hb hby d3_19) rfl k) ?_
    show own_Run p e below _ T57 (mkF m 20 #[.val (.ref a1), .val (.ref a2), .val (.int (0 : Int32)), .val (.long (own_mix ((own_mix ((-7046029254386353131 : Int64) ^^^ v0)) ^^^ v1))), .second, .val (.int (2 : Int32))] [(.int ((0 : Int32) * (2 : Int32))), (.int (2 : Int32))])
    rw [show ((0 : Int32) * (2 : Int32)) = (0 : Int32) by decide]
    show own_Run p e below _ T57 (mkF m 20 #[.val (.ref a1), .val (.ref a2), .val (.int (0 : Int32)), .val (.long (own_mix ((own_mix ((-7046029254386353131 : Int64) ^^^ v0)) ^^^ v1))), .second, .val (.int (2 : Int32))] [(.int (0 : Int32)), (.int (2 : Int32))])
    refine own_go (fun _ k => XS.aloadN X57.here hx rfl (hb hby d3_20) rfl rfl k) ?_
    show own_Run p e below _ T57 (mkF m 21 #[.val (.ref a1), .val (.ref a2), .val (.int (0 : Int32)), .val (.long (own_mix ((own_mix ((-7046029254386353131 : Int64) ^^^ v0)) ^^^ v1))), .second, .val (.int (2 : Int32))] [(.ref a1), (.int (0 : Int32)), (.int (2 : Int32))])
    obtain ⟨T58, X58, e58, st58⟩ := getF X57 hx hZ hown (host := "") (Or.inl (W 15 rfl)) Via.refl e57 F_rows_a1 (g := (mkF m 21 #[.val (.ref a1), .val (.ref a2), .val (.int (0 : Int32)), .val (.long (own_mix ((own_mix ((-7046029254386353131 : Int64) ^^^ v0)) ^^^ v1))), .second, .val (.int (2 : Int32))] [(.ref a1), (.int (0 : Int32)), (.int (2 : Int32))])) rfl rfl (hb hby d3_21)
    refine own_go st58 ?_
    show own_Run p e below _ T58 (mkF m 24 #[.val (.ref a1), .val (.ref a2), .val (.int (0 : Int32)), .val (.long (own_mix ((own_mix ((-7046029254386353131 : Int64) ^^^ v0)) ^^^ v1))), .second, .val (.int (2 : Int32))] [(.int (2 : Int32)), (.int (0 : Int32)), (.int (2 : Int32))])
    refine own_go (fun _ k => XS.iadd X58.here hx rfl (hb hby d3_24) rfl k) ?_
    show own_Run p e below _ T58 (mkF m 25 #[.val (.ref a1), .val (.ref a2), .val (.int (0 : Int32)), .val (.long (own_mix ((own_mix ((-7046029254386353131 : Int64) ^^^ v0)) ^^^ v1))), .second, .val (.int (2 : Int32))] [(.int ((0 : Int32) + (2 : Int32))), (.int (2 : Int32))])
    rw [show ((0 : Int32) + (2 : Int32)) = (2 : Int32) by decide]
    show own_Run p e below _ T58 (mkF m 25 #[.val (.ref a1), .val (.ref a2), .val (.int (0 : Int32)), .val (.long (own_mix ((own_mix ((-7046029254386353131 : Int64) ^^^ v0)) ^^^ v1))), .second, .val (.int (2 : Int32))] [(.int (2 : Int32)), (.int (2 : Int32))])
    refine own_go (fun _ k => XS.icmpYes X58.here hx rfl (pc0 := 25) (pc' := 44) rfl (hb hby d3_25) rfl (flt (by decide : ¬ ((2 : Int32) < (2 : Int32)))).2.1 (by decide) (by decide) k) ?_
    show own_Run p e below _ T58 (mkF m 44 #[.val (.ref a1), .val (.ref a2), .val (.int (0 : Int32)), .val (.long (own_mix ((own_mix ((-7046029254386353131 : Int64) ^^^ v0)) ^^^ v1))), .second, .val (.int (2 : Int32))] [])
    refine own_go (fun _ k => XS.lloadN X58.here hx rfl (hb hby d3_44) rfl k) ?_
    show own_Run p e below _ T58 (mkF m 45 #[.val (.ref a1), .val (.ref a2), .val (.int (0 : Int32)), .val (.long (own_mix ((own_mix ((-7046029254386353131 : Int64) ^^^ v0)) ^^^ v1))), .second, .val (.int (2 : Int32))] [(.long (own_mix ((own_mix ((-7046029254386353131 : Int64) ^^^ v0)) ^^^ v1)))])
    refine own_done (Q := fun v h L => Q3 Z a1 a2 (0 : Int32) (2 : Int32) kk v0 v1 v2 v3 v4 v5 (own_mix ((own_mix ((-7046029254386353131 : Int64) ^^^ v0)) ^^^ v1)) h0 n0 v h L) (v := (some (.long (own_mix ((own_mix ((-7046029254386353131 : Int64) ^^^ v0)) ^^^ v1))))) X58 (fun h => by rw [hret] at h; cases h) hlk (fun fs hr => own_retL X58 hx hret (hb hby d3_45) hr) ?_ (by decide) (by decide)
    show Q3 Z a1 a2 (0 : Int32) (2 : Int32) kk v0 v1 v2 v3 v4 v5 (own_mix ((own_mix ((-7046029254386353131 : Int64) ^^^ v0)) ^^^ v1)) h0 n0 _ T58.heap _
    rw [e58]
    exact ⟨rfl, N56, rfl⟩
  · show own_Run p e below _ s₁ (mkF m 0 #[.val (.ref a1), .val (.ref a2), .val (.int (1 : Int32)), .unset, .unset, .unset] [])
    refine own_go (X0.ldc2Long hx hown (mvT hZ (W 22 rfl)) (g := (mkF m 0 #[.val (.ref a1), .val (.ref a2), .val (.int (1 : Int32)), .unset, .unset, .unset] [])) rfl (hb hby d3_0)) ?_
    show own_Run p e below _ s₁ (mkF m 3 #[.val (.ref a1), .val (.ref a2), .val (.int (1 : Int32)), .unset, .unset, .unset] [(.long (-7046029254386353131 : Int64))])
    refine own_go (fun _ k => XS.lstoreN X0.here hx rfl (hb hby d3_3) rfl (l' := #[.val (.ref a1), .val (.ref a2), .val (.int (1 : Int32)), .val (.long (-7046029254386353131 : Int64)), .second, .unset]) rfl k) ?_
    refine own_go (fun _ k => XS.iloadN X0.here hx rfl (hb hby d3_4) rfl k) ?_
    refine own_go (fun _ k => XS.aloadN X0.here hx rfl (hb hby d3_5) rfl rfl k) ?_
    show own_Run p e below _ s₁ (mkF m 6 #[.val (.ref a1), .val (.ref a2), .val (.int (1 : Int32)), .val (.long (-7046029254386353131 : Int64)), .second, .unset] [(.ref a1), (.int (1 : Int32))])
    obtain ⟨T59, X59, e59, st59⟩ := getF X0 hx hZ hown (host := "") (Or.inl (W 15 rfl)) Via.refl e0 F_rows_a1 (g := (mkF m 6 #[.val (.ref a1), .val (.ref a2), .val (.int (1 : Int32)), .val (.long (-7046029254386353131 : Int64)), .second, .unset] [(.ref a1), (.int (1 : Int32))])) rfl rfl (hb hby d3_6)
    refine own_go st59 ?_
    show own_Run p e below _ T59 (mkF m 9 #[.val (.ref a1), .val (.ref a2), .val (.int (1 : Int32)), .val (.long (-7046029254386353131 : Int64)), .second, .unset] [(.int (2 : Int32)), (.int (1 : Int32))])
    refine own_go (fun _ k => XS.imul X59.here hx rfl (hb hby d3_9) rfl k) ?_
    show own_Run p e below _ T59 (mkF m 10 #[.val (.ref a1), .val (.ref a2), .val (.int (1 : Int32)), .val (.long (-7046029254386353131 : Int64)), .second, .unset] [(.int ((1 : Int32) * (2 : Int32)))])
    rw [show ((1 : Int32) * (2 : Int32)) = (2 : Int32) by decide]
    show own_Run p e below _ T59 (mkF m 10 #[.val (.ref a1), .val (.ref a2), .val (.int (1 : Int32)), .val (.long (-7046029254386353131 : Int64)), .second, .unset] [(.int (2 : Int32))])
    refine own_go (fun _ k => XS.istore X59.here hx rfl (hb hby d3_10) rfl (l' := #[.val (.ref a1), .val (.ref a2), .val (.int (1 : Int32)), .val (.long (-7046029254386353131 : Int64)), .second, .val (.int (2 : Int32))]) rfl k) ?_
    refine own_go (fun _ k => XS.iload X59.here hx rfl (hb hby d3_12) rfl k) ?_
    refine own_go (fun _ k => XS.iloadN X59.here hx rfl (hb hby d3_14) rfl k) ?_
    refine own_go (fun _ k => XS.aloadN X59.here hx rfl (hb hby d3_15) rfl rfl k) ?_
    show own_Run p e below _ T59 (mkF m 16 #[.val (.ref a1), .val (.ref a2), .val (.int (1 : Int32)), .val (.long (-7046029254386353131 : Int64)), .second, .val (.int (2 : Int32))] [(.ref a1), (.int (1 : Int32)), (.int (2 : Int32))])
    obtain ⟨T60, X60, e60, st60⟩ := getF X59 hx hZ hown (host := "") (Or.inl (W 15 rfl)) Via.refl e59 F_rows_a1 (g := (mkF m 16 #[.val (.ref a1), .val (.ref a2), .val (.int (1 : Int32)), .val (.long (-7046029254386353131 : Int64)), .second, .val (.int (2 : Int32))] [(.ref a1), (.int (1 : Int32)), (.int (2 : Int32))])) rfl rfl (hb hby d3_16)
    refine own_go st60 ?_
    show own_Run p e below _ T60 (mkF m 19 #[.val (.ref a1), .val (.ref a2), .val (.int (1 : Int32)), .val (.long (-7046029254386353131 : Int64)), .second, .val (.int (2 : Int32))] [(.int (2 : Int32)), (.int (1 : Int32)), (.int (2 : Int32))])
    refine own_go (fun _ k => XS.imul X60.here hx rfl (hb hby d3_19) rfl k) ?_
    show own_Run p e below _ T60 (mkF m 20 #[.val (.ref a1), .val (.ref a2), .val (.int (1 : Int32)), .val (.long (-7046029254386353131 : Int64)), .second, .val (.int (2 : Int32))] [(.int ((1 : Int32) * (2 : Int32))), (.int (2 : Int32))])
    rw [show ((1 : Int32) * (2 : Int32)) = (2 : Int32) by decide]
    show own_Run p e below _ T60 (mkF m 20 #[.val (.ref a1), .val (.ref a2), .val (.int (1 : Int32)), .val (.long (-7046029254386353131 : Int64)), .second, .val (.int (2 : Int32))] [(.int (2 : Int32)), (.int (2 : Int32))])
    refine own_go (fun _ k => XS.aloadN X60.here hx rfl (hb hby d3_20) rfl rfl k) ?_
    show own_Run p e below _ T60 (mkF m 21 #[.val (.ref a1), .val (.ref a2), .val (.int (1 : Int32)), .val (.long (-7046029254386353131 : Int64)), .second, .val (.int (2 : Int32))] [(.ref a1), (.int (2 : Int32)), (.int (2 : Int32))])
    obtain ⟨T61, X61, e61, st61⟩ := getF X60 hx hZ hown (host := "") (Or.inl (W 15 rfl)) Via.refl e60 F_rows_a1 (g := (mkF m 21 #[.val (.ref a1), .val (.ref a2), .val (.int (1 : Int32)), .val (.long (-7046029254386353131 : Int64)), .second, .val (.int (2 : Int32))] [(.ref a1), (.int (2 : Int32)), (.int (2 : Int32))])) rfl rfl (hb hby d3_21)
    refine own_go st61 ?_
    show own_Run p e below _ T61 (mkF m 24 #[.val (.ref a1), .val (.ref a2), .val (.int (1 : Int32)), .val (.long (-7046029254386353131 : Int64)), .second, .val (.int (2 : Int32))] [(.int (2 : Int32)), (.int (2 : Int32)), (.int (2 : Int32))])
    refine own_go (fun _ k => XS.iadd X61.here hx rfl (hb hby d3_24) rfl k) ?_
    show own_Run p e below _ T61 (mkF m 25 #[.val (.ref a1), .val (.ref a2), .val (.int (1 : Int32)), .val (.long (-7046029254386353131 : Int64)), .second, .val (.int (2 : Int32))] [(.int ((2 : Int32) + (2 : Int32))), (.int (2 : Int32))])
    rw [show ((2 : Int32) + (2 : Int32)) = (4 : Int32) by decide]
    show own_Run p e below _ T61 (mkF m 25 #[.val (.ref a1), .val (.ref a2), .val (.int (1 : Int32)), .val (.long (-7046029254386353131 : Int64)), .second, .val (.int (2 : Int32))] [(.int (4 : Int32)), (.int (2 : Int32))])
    refine own_go (fun _ k => XS.icmpNo X61.here hx rfl (hb hby d3_25) rfl (tlt (by decide : (2 : Int32) < (4 : Int32))).2.1 k) ?_
    show own_Run p e below _ T61 (mkF m 28 #[.val (.ref a1), .val (.ref a2), .val (.int (1 : Int32)), .val (.long (-7046029254386353131 : Int64)), .second, .val (.int (2 : Int32))] [])
    refine own_go (fun _ k => XS.lloadN X61.here hx rfl (hb hby d3_28) rfl k) ?_
    refine own_go (fun _ k => XS.aloadN X61.here hx rfl (hb hby d3_29) rfl rfl k) ?_
    refine own_go (fun _ k => XS.iload X61.here hx rfl (hb hby d3_30) rfl k) ?_
    show own_Run p e below _ T61 (mkF m 32 #[.val (.ref a1), .val (.ref a2), .val (.int (1 : Int32)), .val (.long (-7046029254386353131 : Int64)), .second, .val (.int (2 : Int32))] [(.int (2 : Int32)), (.ref a2), (.long (-7046029254386353131 : Int64))])
    obtain ⟨cl62, Ar62, q62, S62, N62, H62, G62⟩ := id V_a2
    have hin62 : ¬ ((2 : Int32) < 0 ∨ cl62.slots.size ≤ ((2 : Int32)).toNatClampNeg) := inb_of S62 ⟨by decide, by decide⟩
    refine own_go (X61.laload hx (j := (2 : Int32)) (v := (.long v2)) (by rw [e61]; exact Ar62.1) (State.isArrayOf_alike hZ.alike Ar62.2.1) Ar62.2.2 hin62 (H62.at hin62 rfl) (g := (mkF m 32 #[.val (.ref a1), .val (.ref a2), .val (.int (1 : Int32)), .val (.long (-7046029254386353131 : Int64)), .second, .val (.int (2 : Int32))] [(.int (2 : Int32)), (.ref a2), (.long (-7046029254386353131 : Int64))])) rfl rfl (hb hby d3_32)) ?_
    show own_Run p e below _ T61 (mkF m 33 #[.val (.ref a1), .val (.ref a2), .val (.int (1 : Int32)), .val (.long (-7046029254386353131 : Int64)), .second, .val (.int (2 : Int32))] [(.long v2), (.long (-7046029254386353131 : Int64))])
    refine own_go (fun _ k => XS.lxor X61.here hx rfl (hb hby d3_33) rfl k) ?_
    show own_Run p e below _ T61 (mkF m 34 #[.val (.ref a1), .val (.ref a2), .val (.int (1 : Int32)), .val (.long (-7046029254386353131 : Int64)), .second, .val (.int (2 : Int32))] [(.long ((-7046029254386353131 : Int64) ^^^ v2))])
    obtain ⟨_, _, ⟨T63, L63, k63, n63⟩, -, X63, ⟨Lc63, hQ63, l63, y63, z63⟩, st63⟩ := Jvm.LawKit.callS X61 hx (y := (⟨"com/example/near_duplicate_finder/nearduplicatefinder/ShingleHash", "mix", "(J)J"⟩ : MethodName)) hown (mvT hZ (W 23 rfl)) (mvT hZ (W 24 rfl)) (mvT hZ (W 25 rfl)) (mvT hZ (W 26 rfl)) (by decide) (backOf (W := 0) (rm4 l Z a0 hw [] ((-7046029254386353131 : Int64) ^^^ v2) h0 n0 Z0 ) hZ (W 26 rfl) (W 25 rfl) (by decide) (by decide)) (g := (mkF m 34 #[.val (.ref a1), .val (.ref a2), .val (.int (1 : Int32)), .val (.long (-7046029254386353131 : Int64)), .second, .val (.int (2 : Int32))] [(.long ((-7046029254386353131 : Int64) ^^^ v2))])) rfl (by rw [hml]; rfl) (argsL := [(.long ((-7046029254386353131 : Int64) ^^^ v2))]) (rest := []) (lenOf pd_1 rfl) rfl (by show 2 * 0 + _ ≤ _; exact Nat.le_of_eq rfl) (hb hby d3_34) (fun _ _ => ⟨rfl, e61, (by decide : 0 + 0 ≤ _), (by decide : 0 + 0 ≤ _)⟩)
    dsimp only [Pt.U, Pt.locs, Pt.cells, Pt.slots] at X63 l63 y63 z63 st63 hQ63
    subst l63 y63 z63
    obtain ⟨rfl, N63q, e63⟩ := hQ63
    have N63 := Fr.app N0 N63q
    refine own_go st63 ?_
    show own_Run p e below _ T63 (mkF m 37 #[.val (.ref a1), .val (.ref a2), .val (.int (1 : Int32)), .val (.long (-7046029254386353131 : Int64)), .second, .val (.int (2 : Int32))] [(.long (own_mix ((-7046029254386353131 : Int64) ^^^ v2)))])
    refine own_go (fun _ k => XS.lstoreN X63.here hx rfl (hb hby d3_37) rfl (l' := #[.val (.ref a1), .val (.ref a2), .val (.int (1 : Int32)), .val (.long (own_mix ((-7046029254386353131 : Int64) ^^^ v2))), .second, .val (.int (2 : Int32))]) rfl k) ?_
    refine own_go (fun _ k => XS.iinc X63.here hx rfl (hb hby d3_38) rfl (l' := #[.val (.ref a1), .val (.ref a2), .val (.int (1 : Int32)), .val (.long (own_mix ((-7046029254386353131 : Int64) ^^^ v2))), .second, .val (.int ((2 : Int32) + (1 : Int32)))]) rfl k) ?_
    show own_Run p e below _ T63 (mkF m 41 #[.val (.ref a1), .val (.ref a2), .val (.int (1 : Int32)), .val (.long (own_mix ((-7046029254386353131 : Int64) ^^^ v2))), .second, .val (.int ((2 : Int32) + (1 : Int32)))] [])
    rw [show ((2 : Int32) + (1 : Int32)) = (3 : Int32) by decide]
    show own_Run p e below _ T63 (mkF m 41 #[.val (.ref a1), .val (.ref a2), .val (.int (1 : Int32)), .val (.long (own_mix ((-7046029254386353131 : Int64) ^^^ v2))), .second, .val (.int (3 : Int32))] [])
    refine own_go (fun _ k => XS.goto X63.here hx rfl (pc0 := 41) (pc' := 12) rfl (hb hby d3_41) (by decide) (by decide) k) ?_
    refine own_go (fun _ k => XS.iload X63.here hx rfl (hb hby d3_12) rfl k) ?_
    refine own_go (fun _ k => XS.iloadN X63.here hx rfl (hb hby d3_14) rfl k) ?_
    refine own_go (fun _ k => XS.aloadN X63.here hx rfl (hb hby d3_15) rfl rfl k) ?_
    show own_Run p e below _ T63 (mkF m 16 #[.val (.ref a1), .val (.ref a2), .val (.int (1 : Int32)), .val (.long (own_mix ((-7046029254386353131 : Int64) ^^^ v2))), .second, .val (.int (3 : Int32))] [(.ref a1), (.int (1 : Int32)), (.int (3 : Int32))])
    obtain ⟨T64, X64, e64, st64⟩ := getF X63 hx hZ hown (host := "") (Or.inl (W 15 rfl)) Via.refl e63 F_rows_a1 (g := (mkF m 16 #[.val (.ref a1), .val (.ref a2), .val (.int (1 : Int32)), .val (.long (own_mix ((-7046029254386353131 : Int64) ^^^ v2))), .second, .val (.int (3 : Int32))] [(.ref a1), (.int (1 : Int32)), (.int (3 : Int32))])) rfl rfl (hb hby d3_16)
    refine own_go st64 ?_
    show own_Run p e below _ T64 (mkF m 19 #[.val (.ref a1), .val (.ref a2), .val (.int (1 : Int32)), .val (.long (own_mix ((-7046029254386353131 : Int64) ^^^ v2))), .second, .val (.int (3 : Int32))] [(.int (2 : Int32)), (.int (1 : Int32)), (.int (3 : Int32))])
    refine own_go (fun _ k => XS.imul X64.here hx rfl (hb hby d3_19) rfl k) ?_
    show own_Run p e below _ T64 (mkF m 20 #[.val (.ref a1), .val (.ref a2), .val (.int (1 : Int32)), .val (.long (own_mix ((-7046029254386353131 : Int64) ^^^ v2))), .second, .val (.int (3 : Int32))] [(.int ((1 : Int32) * (2 : Int32))), (.int (3 : Int32))])
    rw [show ((1 : Int32) * (2 : Int32)) = (2 : Int32) by decide]
    show own_Run p e below _ T64 (mkF m 20 #[.val (.ref a1), .val (.ref a2), .val (.int (1 : Int32)), .val (.long (own_mix ((-7046029254386353131 : Int64) ^^^ v2))), .second, .val (.int (3 : Int32))] [(.int (2 : Int32)), (.int (3 : Int32))])
    refine own_go (fun _ k => XS.aloadN X64.here hx rfl (hb hby d3_20) rfl rfl k) ?_
    show own_Run p e below _ T64 (mkF m 21 #[.val (.ref a1), .val (.ref a2), .val (.int (1 : Int32)), .val (.long (own_mix ((-7046029254386353131 : Int64) ^^^ v2))), .second, .val (.int (3 : Int32))] [(.ref a1), (.int (2 : Int32)), (.int (3 : Int32))])
    obtain ⟨T65, X65, e65, st65⟩ := getF X64 hx hZ hown (host := "") (Or.inl (W 15 rfl)) Via.refl e64 F_rows_a1 (g := (mkF m 21 #[.val (.ref a1), .val (.ref a2), .val (.int (1 : Int32)), .val (.long (own_mix ((-7046029254386353131 : Int64) ^^^ v2))), .second, .val (.int (3 : Int32))] [(.ref a1), (.int (2 : Int32)), (.int (3 : Int32))])) rfl rfl (hb hby d3_21)
    refine own_go st65 ?_
    show own_Run p e below _ T65 (mkF m 24 #[.val (.ref a1), .val (.ref a2), .val (.int (1 : Int32)), .val (.long (own_mix ((-7046029254386353131 : Int64) ^^^ v2))), .second, .val (.int (3 : Int32))] [(.int (2 : Int32)), (.int (2 : Int32)), (.int (3 : Int32))])
    refine own_go (fun _ k => XS.iadd X65.here hx rfl (hb hby d3_24) rfl k) ?_
    show own_Run p e below _ T65 (mkF m 25 #[.val (.ref a1), .val (.ref a2), .val (.int (1 : Int32)), .val (.long (own_mix ((-7046029254386353131 : Int64) ^^^ v2))), .second, .val (.int (3 : Int32))] [(.int ((2 : Int32) + (2 : Int32))), (.int (3 : Int32))])
    rw [show ((2 : Int32) + (2 : Int32)) = (4 : Int32) by decide]
    show own_Run p e below _ T65 (mkF m 25 #[.val (.ref a1), .val (.ref a2), .val (.int (1 : Int32)), .val (.long (own_mix ((-7046029254386353131 : Int64) ^^^ v2))), .second, .val (.int (3 : Int32))] [(.int (4 : Int32)), (.int (3 : Int32))])
    refine own_go (fun _ k => XS.icmpNo X65.here hx rfl (hb hby d3_25) rfl (tlt (by decide : (3 : Int32) < (4 : Int32))).2.1 k) ?_
    show own_Run p e below _ T65 (mkF m 28 #[.val (.ref a1), .val (.ref a2), .val (.int (1 : Int32)), .val (.long (own_mix ((-7046029254386353131 : Int64) ^^^ v2))), .second, .val (.int (3 : Int32))] [])
    refine own_go (fun _ k => XS.lloadN X65.here hx rfl (hb hby d3_28) rfl k) ?_
    refine own_go (fun _ k => XS.aloadN X65.here hx rfl (hb hby d3_29) rfl rfl k) ?_
    refine own_go (fun _ k => XS.iload X65.here hx rfl (hb hby d3_30) rfl k) ?_
    show own_Run p e below _ T65 (mkF m 32 #[.val (.ref a1), .val (.ref a2), .val (.int (1 : Int32)), .val (.long (own_mix ((-7046029254386353131 : Int64) ^^^ v2))), .second, .val (.int (3 : Int32))] [(.int (3 : Int32)), (.ref a2), (.long (own_mix ((-7046029254386353131 : Int64) ^^^ v2)))])
    obtain ⟨cl66, Ar66, q66, S66, N66, H66, G66⟩ := id V_a2
    have hin66 : ¬ ((3 : Int32) < 0 ∨ cl66.slots.size ≤ ((3 : Int32)).toNatClampNeg) := inb_of S66 ⟨by decide, by decide⟩
    refine own_go (X65.laload hx (j := (3 : Int32)) (v := (.long v3)) (by rw [e65]; exact Ar66.1) (State.isArrayOf_alike hZ.alike Ar66.2.1) Ar66.2.2 hin66 (H66.at hin66 rfl) (g := (mkF m 32 #[.val (.ref a1), .val (.ref a2), .val (.int (1 : Int32)), .val (.long (own_mix ((-7046029254386353131 : Int64) ^^^ v2))), .second, .val (.int (3 : Int32))] [(.int (3 : Int32)), (.ref a2), (.long (own_mix ((-7046029254386353131 : Int64) ^^^ v2)))])) rfl rfl (hb hby d3_32)) ?_
    show own_Run p e below _ T65 (mkF m 33 #[.val (.ref a1), .val (.ref a2), .val (.int (1 : Int32)), .val (.long (own_mix ((-7046029254386353131 : Int64) ^^^ v2))), .second, .val (.int (3 : Int32))] [(.long v3), (.long (own_mix ((-7046029254386353131 : Int64) ^^^ v2)))])
    refine own_go (fun _ k => XS.lxor X65.here hx rfl (hb hby d3_33) rfl k) ?_
    show own_Run p e below _ T65 (mkF m 34 #[.val (.ref a1), .val (.ref a2), .val (.int (1 : Int32)), .val (.long (own_mix ((-7046029254386353131 : Int64) ^^^ v2))), .second, .val (.int (3 : Int32))] [(.long ((own_mix ((-7046029254386353131 : Int64) ^^^ v2)) ^^^ v3))])
    obtain ⟨_, _, ⟨T67, L67, k67, n67⟩, -, X67, ⟨Lc67, hQ67, l67, y67, z67⟩, st67⟩ := Jvm.LawKit.callS X65 hx (y := (⟨"com/example/near_duplicate_finder/nearduplicatefinder/ShingleHash", "mix", "(J)J"⟩ : MethodName)) hown (mvT hZ (W 23 rfl)) (mvT hZ (W 24 rfl)) (mvT hZ (W 25 rfl)) (mvT hZ (W 26 rfl)) (by decide) (backOf (W := 0) (rm4 l Z a0 hw [] ((own_mix ((-7046029254386353131 : Int64) ^^^ v2)) ^^^ v3) h0 n0 Z0 ) hZ (W 26 rfl) (W 25 rfl) (by decide) (by decide)) (g := (mkF m 34 #[.val (.ref a1), .val (.ref a2), .val (.int (1 : Int32)), .val (.long (own_mix ((-7046029254386353131 : Int64) ^^^ v2))), .second, .val (.int (3 : Int32))] [(.long ((own_mix ((-7046029254386353131 : Int64) ^^^ v2)) ^^^ v3))])) rfl (by rw [hml]; rfl) (argsL := [(.long ((own_mix ((-7046029254386353131 : Int64) ^^^ v2)) ^^^ v3))]) (rest := []) (lenOf pd_1 rfl) rfl (by show 2 * 0 + _ ≤ _; exact Nat.le_of_eq rfl) (hb hby d3_34) (fun _ _ => ⟨rfl, e65, (by decide : 0 + 0 ≤ _), (by decide : 0 + 0 ≤ _)⟩)
    dsimp only [Pt.U, Pt.locs, Pt.cells, Pt.slots] at X67 l67 y67 z67 st67 hQ67
    subst l67 y67 z67
    obtain ⟨rfl, N67q, e67⟩ := hQ67
    have N67 := Fr.app N63 N67q
    refine own_go st67 ?_
    show own_Run p e below _ T67 (mkF m 37 #[.val (.ref a1), .val (.ref a2), .val (.int (1 : Int32)), .val (.long (own_mix ((-7046029254386353131 : Int64) ^^^ v2))), .second, .val (.int (3 : Int32))] [(.long (own_mix ((own_mix ((-7046029254386353131 : Int64) ^^^ v2)) ^^^ v3)))])
    refine own_go (fun _ k => XS.lstoreN X67.here hx rfl (hb hby d3_37) rfl (l' := #[.val (.ref a1), .val (.ref a2), .val (.int (1 : Int32)), .val (.long (own_mix ((own_mix ((-7046029254386353131 : Int64) ^^^ v2)) ^^^ v3))), .second, .val (.int (3 : Int32))]) rfl k) ?_
    refine own_go (fun _ k => XS.iinc X67.here hx rfl (hb hby d3_38) rfl (l' := #[.val (.ref a1), .val (.ref a2), .val (.int (1 : Int32)), .val (.long (own_mix ((own_mix ((-7046029254386353131 : Int64) ^^^ v2)) ^^^ v3))), .second, .val (.int ((3 : Int32) + (1 : Int32)))]) rfl k) ?_
    show own_Run p e below _ T67 (mkF m 41 #[.val (.ref a1), .val (.ref a2), .val (.int (1 : Int32)), .val (.long (own_mix ((own_mix ((-7046029254386353131 : Int64) ^^^ v2)) ^^^ v3))), .second, .val (.int ((3 : Int32) + (1 : Int32)))] [])
    rw [show ((3 : Int32) + (1 : Int32)) = (4 : Int32) by decide]
    show own_Run p e below _ T67 (mkF m 41 #[.val (.ref a1), .val (.ref a2), .val (.int (1 : Int32)), .val (.long (own_mix ((own_mix ((-7046029254386353131 : Int64) ^^^ v2)) ^^^ v3))), .second, .val (.int (4 : Int32))] [])
    refine own_go (fun _ k => XS.goto X67.here hx rfl (pc0 := 41) (pc' := 12) rfl (hb hby d3_41) (by decide) (by decide) k) ?_
    refine own_go (fun _ k => XS.iload X67.here hx rfl (hb hby d3_12) rfl k) ?_
    refine own_go (fun _ k => XS.iloadN X67.here hx rfl (hb hby d3_14) rfl k) ?_
    refine own_go (fun _ k => XS.aloadN X67.here hx rfl (hb hby d3_15) rfl rfl k) ?_
    show own_Run p e below _ T67 (mkF m 16 #[.val (.ref a1), .val (.ref a2), .val (.int (1 : Int32)), .val (.long (own_mix ((own_mix ((-7046029254386353131 : Int64) ^^^ v2)) ^^^ v3))), .second, .val (.int (4 : Int32))] [(.ref a1), (.int (1 : Int32)), (.int (4 : Int32))])
    obtain ⟨T68, X68, e68, st68⟩ := getF X67 hx hZ hown (host := "") (Or.inl (W 15 rfl)) Via.refl e67 F_rows_a1 (g := (mkF m 16 #[.val (.ref a1), .val (.ref a2), .val (.int (1 : Int32)), .val (.long (own_mix ((own_mix ((-7046029254386353131 : Int64) ^^^ v2)) ^^^ v3))), .second, .val (.int (4 : Int32))] [(.ref a1), (.int (1 : Int32)), (.int (4 : Int32))])) rfl rfl (hb hby d3_16)
    refine own_go st68 ?_
    show own_Run p e below _ T68 (mkF m 19 #[.val (.ref a1), .val (.ref a2), .val (.int (1 : Int32)), .val (.long (own_mix ((own_mix ((-7046029254386353131 : Int64) ^^^ v2)) ^^^ v3))), .second, .val (.int (4 : Int32))] [(.int (2 : Int32)), (.int (1 : Int32)), (.int (4 : Int32))])
    refine own_go (fun _ k => XS.imul X68.here hx rfl (hb hby d3_19) rfl k) ?_
    show own_Run p e below _ T68 (mkF m 20 #[.val (.ref a1), .val (.ref a2), .val (.int (1 : Int32)), .val (.long (own_mix ((own_mix ((-7046029254386353131 : Int64) ^^^ v2)) ^^^ v3))), .second, .val (.int (4 : Int32))] [(.int ((1 : Int32) * (2 : Int32))), (.int (4 : Int32))])
    rw [show ((1 : Int32) * (2 : Int32)) = (2 : Int32) by decide]
    show own_Run p e below _ T68 (mkF m 20 #[.val (.ref a1), .val (.ref a2), .val (.int (1 : Int32)), .val (.long (own_mix ((own_mix ((-7046029254386353131 : Int64) ^^^ v2)) ^^^ v3))), .second, .val (.int (4 : Int32))] [(.int (2 : Int32)), (.int (4 : Int32))])
    refine own_go (fun _ k => XS.aloadN X68.here hx rfl (hb hby d3_20) rfl rfl k) ?_
    show own_Run p e below _ T68 (mkF m 21 #[.val (.ref a1), .val (.ref a2), .val (.int (1 : Int32)), .val (.long (own_mix ((own_mix ((-7046029254386353131 : Int64) ^^^ v2)) ^^^ v3))), .second, .val (.int (4 : Int32))] [(.ref a1), (.int (2 : Int32)), (.int (4 : Int32))])
    obtain ⟨T69, X69, e69, st69⟩ := getF X68 hx hZ hown (host := "") (Or.inl (W 15 rfl)) Via.refl e68 F_rows_a1 (g := (mkF m 21 #[.val (.ref a1), .val (.ref a2), .val (.int (1 : Int32)), .val (.long (own_mix ((own_mix ((-7046029254386353131 : Int64) ^^^ v2)) ^^^ v3))), .second, .val (.int (4 : Int32))] [(.ref a1), (.int (2 : Int32)), (.int (4 : Int32))])) rfl rfl (hb hby d3_21)
    refine own_go st69 ?_
    show own_Run p e below _ T69 (mkF m 24 #[.val (.ref a1), .val (.ref a2), .val (.int (1 : Int32)), .val (.long (own_mix ((own_mix ((-7046029254386353131 : Int64) ^^^ v2)) ^^^ v3))), .second, .val (.int (4 : Int32))] [(.int (2 : Int32)), (.int (2 : Int32)), (.int (4 : Int32))])
    refine own_go (fun _ k => XS.iadd X69.here hx rfl (hb hby d3_24) rfl k) ?_
    show own_Run p e below _ T69 (mkF m 25 #[.val (.ref a1), .val (.ref a2), .val (.int (1 : Int32)), .val (.long (own_mix ((own_mix ((-7046029254386353131 : Int64) ^^^ v2)) ^^^ v3))), .second, .val (.int (4 : Int32))] [(.int ((2 : Int32) + (2 : Int32))), (.int (4 : Int32))])
    rw [show ((2 : Int32) + (2 : Int32)) = (4 : Int32) by decide]
    show own_Run p e below _ T69 (mkF m 25 #[.val (.ref a1), .val (.ref a2), .val (.int (1 : Int32)), .val (.long (own_mix ((own_mix ((-7046029254386353131 : Int64) ^^^ v2)) ^^^ v3))), .second, .val (.int (4 : Int32))] [(.int (4 : Int32)), (.int (4 : Int32))])
    refine own_go (fun _ k => XS.icmpYes X69.here hx rfl (pc0 := 25) (pc' := 44) rfl (hb hby d3_25) rfl (flt (by decide : ¬ ((4 : Int32) < (4 : Int32)))).2.1 (by decide) (by decide) k) ?_
    show own_Run p e below _ T69 (mkF m 44 #[.val (.ref a1), .val (.ref a2), .val (.int (1 : Int32)), .val (.long (own_mix ((own_mix ((-7046029254386353131 : Int64) ^^^ v2)) ^^^ v3))), .second, .val (.int (4 : Int32))] [])
    refine own_go (fun _ k => XS.lloadN X69.here hx rfl (hb hby d3_44) rfl k) ?_
    show own_Run p e below _ T69 (mkF m 45 #[.val (.ref a1), .val (.ref a2), .val (.int (1 : Int32)), .val (.long (own_mix ((own_mix ((-7046029254386353131 : Int64) ^^^ v2)) ^^^ v3))), .second, .val (.int (4 : Int32))] [(.long (own_mix ((own_mix ((-7046029254386353131 : Int64) ^^^ v2)) ^^^ v3)))])
    refine own_done (Q := fun v h L => Q3 Z a1 a2 (1 : Int32) (2 : Int32) kk v0 v1 v2 v3 v4 v5 (own_mix ((own_mix ((-7046029254386353131 : Int64) ^^^ v2)) ^^^ v3)) h0 n0 v h L) (v := (some (.long (own_mix ((own_mix ((-7046029254386353131 : Int64) ^^^ v2)) ^^^ v3))))) X69 (fun h => by rw [hret] at h; cases h) hlk (fun fs hr => own_retL X69 hx hret (hb hby d3_45) hr) ?_ (by decide) (by decide)
    show Q3 Z a1 a2 (1 : Int32) (2 : Int32) kk v0 v1 v2 v3 v4 v5 (own_mix ((own_mix ((-7046029254386353131 : Int64) ^^^ v2)) ^^^ v3)) h0 n0 _ T69.heap _
    rw [e69]
    exact ⟨rfl, N67, rfl⟩
  · show own_Run p e below _ s₁ (mkF m 0 #[.val (.ref a1), .val (.ref a2), .val (.int (2 : Int32)), .unset, .unset, .unset] [])
    refine own_go (X0.ldc2Long hx hown (mvT hZ (W 22 rfl)) (g := (mkF m 0 #[.val (.ref a1), .val (.ref a2), .val (.int (2 : Int32)), .unset, .unset, .unset] [])) rfl (hb hby d3_0)) ?_
    show own_Run p e below _ s₁ (mkF m 3 #[.val (.ref a1), .val (.ref a2), .val (.int (2 : Int32)), .unset, .unset, .unset] [(.long (-7046029254386353131 : Int64))])
    refine own_go (fun _ k => XS.lstoreN X0.here hx rfl (hb hby d3_3) rfl (l' := #[.val (.ref a1), .val (.ref a2), .val (.int (2 : Int32)), .val (.long (-7046029254386353131 : Int64)), .second, .unset]) rfl k) ?_
    refine own_go (fun _ k => XS.iloadN X0.here hx rfl (hb hby d3_4) rfl k) ?_
    refine own_go (fun _ k => XS.aloadN X0.here hx rfl (hb hby d3_5) rfl rfl k) ?_
    show own_Run p e below _ s₁ (mkF m 6 #[.val (.ref a1), .val (.ref a2), .val (.int (2 : Int32)), .val (.long (-7046029254386353131 : Int64)), .second, .unset] [(.ref a1), (.int (2 : Int32))])
    obtain ⟨T70, X70, e70, st70⟩ := getF X0 hx hZ hown (host := "") (Or.inl (W 15 rfl)) Via.refl e0 F_rows_a1 (g := (mkF m 6 #[.val (.ref a1), .val (.ref a2), .val (.int (2 : Int32)), .val (.long (-7046029254386353131 : Int64)), .second, .unset] [(.ref a1), (.int (2 : Int32))])) rfl rfl (hb hby d3_6)
    refine own_go st70 ?_
    show own_Run p e below _ T70 (mkF m 9 #[.val (.ref a1), .val (.ref a2), .val (.int (2 : Int32)), .val (.long (-7046029254386353131 : Int64)), .second, .unset] [(.int (2 : Int32)), (.int (2 : Int32))])
    refine own_go (fun _ k => XS.imul X70.here hx rfl (hb hby d3_9) rfl k) ?_
    show own_Run p e below _ T70 (mkF m 10 #[.val (.ref a1), .val (.ref a2), .val (.int (2 : Int32)), .val (.long (-7046029254386353131 : Int64)), .second, .unset] [(.int ((2 : Int32) * (2 : Int32)))])
    rw [show ((2 : Int32) * (2 : Int32)) = (4 : Int32) by decide]
    show own_Run p e below _ T70 (mkF m 10 #[.val (.ref a1), .val (.ref a2), .val (.int (2 : Int32)), .val (.long (-7046029254386353131 : Int64)), .second, .unset] [(.int (4 : Int32))])
    refine own_go (fun _ k => XS.istore X70.here hx rfl (hb hby d3_10) rfl (l' := #[.val (.ref a1), .val (.ref a2), .val (.int (2 : Int32)), .val (.long (-7046029254386353131 : Int64)), .second, .val (.int (4 : Int32))]) rfl k) ?_
    refine own_go (fun _ k => XS.iload X70.here hx rfl (hb hby d3_12) rfl k) ?_
    refine own_go (fun _ k => XS.iloadN X70.here hx rfl (hb hby d3_14) rfl k) ?_
    refine own_go (fun _ k => XS.aloadN X70.here hx rfl (hb hby d3_15) rfl rfl k) ?_
    show own_Run p e below _ T70 (mkF m 16 #[.val (.ref a1), .val (.ref a2), .val (.int (2 : Int32)), .val (.long (-7046029254386353131 : Int64)), .second, .val (.int (4 : Int32))] [(.ref a1), (.int (2 : Int32)), (.int (4 : Int32))])
    obtain ⟨T71, X71, e71, st71⟩ := getF X70 hx hZ hown (host := "") (Or.inl (W 15 rfl)) Via.refl e70 F_rows_a1 (g := (mkF m 16 #[.val (.ref a1), .val (.ref a2), .val (.int (2 : Int32)), .val (.long (-7046029254386353131 : Int64)), .second, .val (.int (4 : Int32))] [(.ref a1), (.int (2 : Int32)), (.int (4 : Int32))])) rfl rfl (hb hby d3_16)
    refine own_go st71 ?_
    show own_Run p e below _ T71 (mkF m 19 #[.val (.ref a1), .val (.ref a2), .val (.int (2 : Int32)), .val (.long (-7046029254386353131 : Int64)), .second, .val (.int (4 : Int32))] [(.int (2 : Int32)), (.int (2 : Int32)), (.int (4 : Int32))])
    refine own_go (fun _ k => XS.imul X71.here hx rfl (hb hby d3_19) rfl k) ?_
    show own_Run p e below _ T71 (mkF m 20 #[.val (.ref a1), .val (.ref a2), .val (.int (2 : Int32)), .val (.long (-7046029254386353131 : Int64)), .second, .val (.int (4 : Int32))] [(.int ((2 : Int32) * (2 : Int32))), (.int (4 : Int32))])
    rw [show ((2 : Int32) * (2 : Int32)) = (4 : Int32) by decide]
    show own_Run p e below _ T71 (mkF m 20 #[.val (.ref a1), .val (.ref a2), .val (.int (2 : Int32)), .val (.long (-7046029254386353131 : Int64)), .second, .val (.int (4 : Int32))] [(.int (4 : Int32)), (.int (4 : Int32))])
    refine own_go (fun _ k => XS.aloadN X71.here hx rfl (hb hby d3_20) rfl rfl k) ?_
    show own_Run p e below _ T71 (mkF m 21 #[.val (.ref a1), .val (.ref a2), .val (.int (2 : Int32)), .val (.long (-7046029254386353131 : Int64)), .second, .val (.int (4 : Int32))] [(.ref a1), (.int (4 : Int32)), (.int (4 : Int32))])
    obtain ⟨T72, X72, e72, st72⟩ := getF X71 hx hZ hown (host := "") (Or.inl (W 15 rfl)) Via.refl e71 F_rows_a1 (g := (mkF m 21 #[.val (.ref a1), .val (.ref a2), .val (.int (2 : Int32)), .val (.long (-7046029254386353131 : Int64)), .second, .val (.int (4 : Int32))] [(.ref a1), (.int (4 : Int32)), (.int (4 : Int32))])) rfl rfl (hb hby d3_21)
    refine own_go st72 ?_
    show own_Run p e below _ T72 (mkF m 24 #[.val (.ref a1), .val (.ref a2), .val (.int (2 : Int32)), .val (.long (-7046029254386353131 : Int64)), .second, .val (.int (4 : Int32))] [(.int (2 : Int32)), (.int (4 : Int32)), (.int (4 : Int32))])
    refine own_go (fun _ k => XS.iadd X72.here hx rfl (hb hby d3_24) rfl k) ?_
    show own_Run p e below _ T72 (mkF m 25 #[.val (.ref a1), .val (.ref a2), .val (.int (2 : Int32)), .val (.long (-7046029254386353131 : Int64)), .second, .val (.int (4 : Int32))] [(.int ((4 : Int32) + (2 : Int32))), (.int (4 : Int32))])
    rw [show ((4 : Int32) + (2 : Int32)) = (6 : Int32) by decide]
    show own_Run p e below _ T72 (mkF m 25 #[.val (.ref a1), .val (.ref a2), .val (.int (2 : Int32)), .val (.long (-7046029254386353131 : Int64)), .second, .val (.int (4 : Int32))] [(.int (6 : Int32)), (.int (4 : Int32))])
    refine own_go (fun _ k => XS.icmpNo X72.here hx rfl (hb hby d3_25) rfl (tlt (by decide : (4 : Int32) < (6 : Int32))).2.1 k) ?_
    show own_Run p e below _ T72 (mkF m 28 #[.val (.ref a1), .val (.ref a2), .val (.int (2 : Int32)), .val (.long (-7046029254386353131 : Int64)), .second, .val (.int (4 : Int32))] [])
    refine own_go (fun _ k => XS.lloadN X72.here hx rfl (hb hby d3_28) rfl k) ?_
    refine own_go (fun _ k => XS.aloadN X72.here hx rfl (hb hby d3_29) rfl rfl k) ?_
    refine own_go (fun _ k => XS.iload X72.here hx rfl (hb hby d3_30) rfl k) ?_
    show own_Run p e below _ T72 (mkF m 32 #[.val (.ref a1), .val (.ref a2), .val (.int (2 : Int32)), .val (.long (-7046029254386353131 : Int64)), .second, .val (.int (4 : Int32))] [(.int (4 : Int32)), (.ref a2), (.long (-7046029254386353131 : Int64))])
    obtain ⟨cl73, Ar73, q73, S73, N73, H73, G73⟩ := id V_a2
    have hin73 : ¬ ((4 : Int32) < 0 ∨ cl73.slots.size ≤ ((4 : Int32)).toNatClampNeg) := inb_of S73 ⟨by decide, by decide⟩
    refine own_go (X72.laload hx (j := (4 : Int32)) (v := (.long v4)) (by rw [e72]; exact Ar73.1) (State.isArrayOf_alike hZ.alike Ar73.2.1) Ar73.2.2 hin73 (H73.at hin73 rfl) (g := (mkF m 32 #[.val (.ref a1), .val (.ref a2), .val (.int (2 : Int32)), .val (.long (-7046029254386353131 : Int64)), .second, .val (.int (4 : Int32))] [(.int (4 : Int32)), (.ref a2), (.long (-7046029254386353131 : Int64))])) rfl rfl (hb hby d3_32)) ?_
    show own_Run p e below _ T72 (mkF m 33 #[.val (.ref a1), .val (.ref a2), .val (.int (2 : Int32)), .val (.long (-7046029254386353131 : Int64)), .second, .val (.int (4 : Int32))] [(.long v4), (.long (-7046029254386353131 : Int64))])
    refine own_go (fun _ k => XS.lxor X72.here hx rfl (hb hby d3_33) rfl k) ?_
    show own_Run p e below _ T72 (mkF m 34 #[.val (.ref a1), .val (.ref a2), .val (.int (2 : Int32)), .val (.long (-7046029254386353131 : Int64)), .second, .val (.int (4 : Int32))] [(.long ((-7046029254386353131 : Int64) ^^^ v4))])
    obtain ⟨_, _, ⟨T74, L74, k74, n74⟩, -, X74, ⟨Lc74, hQ74, l74, y74, z74⟩, st74⟩ := Jvm.LawKit.callS X72 hx (y := (⟨"com/example/near_duplicate_finder/nearduplicatefinder/ShingleHash", "mix", "(J)J"⟩ : MethodName)) hown (mvT hZ (W 23 rfl)) (mvT hZ (W 24 rfl)) (mvT hZ (W 25 rfl)) (mvT hZ (W 26 rfl)) (by decide) (backOf (W := 0) (rm4 l Z a0 hw [] ((-7046029254386353131 : Int64) ^^^ v4) h0 n0 Z0 ) hZ (W 26 rfl) (W 25 rfl) (by decide) (by decide)) (g := (mkF m 34 #[.val (.ref a1), .val (.ref a2), .val (.int (2 : Int32)), .val (.long (-7046029254386353131 : Int64)), .second, .val (.int (4 : Int32))] [(.long ((-7046029254386353131 : Int64) ^^^ v4))])) rfl (by rw [hml]; rfl) (argsL := [(.long ((-7046029254386353131 : Int64) ^^^ v4))]) (rest := []) (lenOf pd_1 rfl) rfl (by show 2 * 0 + _ ≤ _; exact Nat.le_of_eq rfl) (hb hby d3_34) (fun _ _ => ⟨rfl, e72, (by decide : 0 + 0 ≤ _), (by decide : 0 + 0 ≤ _)⟩)
    dsimp only [Pt.U, Pt.locs, Pt.cells, Pt.slots] at X74 l74 y74 z74 st74 hQ74
    subst l74 y74 z74
    obtain ⟨rfl, N74q, e74⟩ := hQ74
    have N74 := Fr.app N0 N74q
    refine own_go st74 ?_
    show own_Run p e below _ T74 (mkF m 37 #[.val (.ref a1), .val (.ref a2), .val (.int (2 : Int32)), .val (.long (-7046029254386353131 : Int64)), .second, .val (.int (4 : Int32))] [(.long (own_mix ((-7046029254386353131 : Int64) ^^^ v4)))])
    refine own_go (fun _ k => XS.lstoreN X74.here hx rfl (hb hby d3_37) rfl (l' := #[.val (.ref a1), .val (.ref a2), .val (.int (2 : Int32)), .val (.long (own_mix ((-7046029254386353131 : Int64) ^^^ v4))), .second, .val (.int (4 : Int32))]) rfl k) ?_
    refine own_go (fun _ k => XS.iinc X74.here hx rfl (hb hby d3_38) rfl (l' := #[.val (.ref a1), .val (.ref a2), .val (.int (2 : Int32)), .val (.long (own_mix ((-7046029254386353131 : Int64) ^^^ v4))), .second, .val (.int ((4 : Int32) + (1 : Int32)))]) rfl k) ?_
    show own_Run p e below _ T74 (mkF m 41 #[.val (.ref a1), .val (.ref a2), .val (.int (2 : Int32)), .val (.long (own_mix ((-7046029254386353131 : Int64) ^^^ v4))), .second, .val (.int ((4 : Int32) + (1 : Int32)))] [])
    rw [show ((4 : Int32) + (1 : Int32)) = (5 : Int32) by decide]
    show own_Run p e below _ T74 (mkF m 41 #[.val (.ref a1), .val (.ref a2), .val (.int (2 : Int32)), .val (.long (own_mix ((-7046029254386353131 : Int64) ^^^ v4))), .second, .val (.int (5 : Int32))] [])
    refine own_go (fun _ k => XS.goto X74.here hx rfl (pc0 := 41) (pc' := 12) rfl (hb hby d3_41) (by decide) (by decide) k) ?_
    refine own_go (fun _ k => XS.iload X74.here hx rfl (hb hby d3_12) rfl k) ?_
    refine own_go (fun _ k => XS.iloadN X74.here hx rfl (hb hby d3_14) rfl k) ?_
    refine own_go (fun _ k => XS.aloadN X74.here hx rfl (hb hby d3_15) rfl rfl k) ?_
    show own_Run p e below _ T74 (mkF m 16 #[.val (.ref a1), .val (.ref a2), .val (.int (2 : Int32)), .val (.long (own_mix ((-7046029254386353131 : Int64) ^^^ v4))), .second, .val (.int (5 : Int32))] [(.ref a1), (.int (2 : Int32)), (.int (5 : Int32))])
    obtain ⟨T75, X75, e75, st75⟩ := getF X74 hx hZ hown (host := "") (Or.inl (W 15 rfl)) Via.refl e74 F_rows_a1 (g := (mkF m 16 #[.val (.ref a1), .val (.ref a2), .val (.int (2 : Int32)), .val (.long (own_mix ((-7046029254386353131 : Int64) ^^^ v4))), .second, .val (.int (5 : Int32))] [(.ref a1), (.int (2 : Int32)), (.int (5 : Int32))])) rfl rfl (hb hby d3_16)
    refine own_go st75 ?_
    show own_Run p e below _ T75 (mkF m 19 #[.val (.ref a1), .val (.ref a2), .val (.int (2 : Int32)), .val (.long (own_mix ((-7046029254386353131 : Int64) ^^^ v4))), .second, .val (.int (5 : Int32))] [(.int (2 : Int32)), (.int (2 : Int32)), (.int (5 : Int32))])
    refine own_go (fun _ k => XS.imul X75.here hx rfl (hb hby d3_19) rfl k) ?_
    show own_Run p e below _ T75 (mkF m 20 #[.val (.ref a1), .val (.ref a2), .val (.int (2 : Int32)), .val (.long (own_mix ((-7046029254386353131 : Int64) ^^^ v4))), .second, .val (.int (5 : Int32))] [(.int ((2 : Int32) * (2 : Int32))), (.int (5 : Int32))])
    rw [show ((2 : Int32) * (2 : Int32)) = (4 : Int32) by decide]
    show own_Run p e below _ T75 (mkF m 20 #[.val (.ref a1), .val (.ref a2), .val (.int (2 : Int32)), .val (.long (own_mix ((-7046029254386353131 : Int64) ^^^ v4))), .second, .val (.int (5 : Int32))] [(.int (4 : Int32)), (.int (5 : Int32))])
    refine own_go (fun _ k => XS.aloadN X75.here hx rfl (hb hby d3_20) rfl rfl k) ?_
    show own_Run p e below _ T75 (mkF m 21 #[.val (.ref a1), .val (.ref a2), .val (.int (2 : Int32)), .val (.long (own_mix ((-7046029254386353131 : Int64) ^^^ v4))), .second, .val (.int (5 : Int32))] [(.ref a1), (.int (4 : Int32)), (.int (5 : Int32))])
    obtain ⟨T76, X76, e76, st76⟩ := getF X75 hx hZ hown (host := "") (Or.inl (W 15 rfl)) Via.refl e75 F_rows_a1 (g := (mkF m 21 #[.val (.ref a1), .val (.ref a2), .val (.int (2 : Int32)), .val (.long (own_mix ((-7046029254386353131 : Int64) ^^^ v4))), .second, .val (.int (5 : Int32))] [(.ref a1), (.int (4 : Int32)), (.int (5 : Int32))])) rfl rfl (hb hby d3_21)
    refine own_go st76 ?_
    show own_Run p e below _ T76 (mkF m 24 #[.val (.ref a1), .val (.ref a2), .val (.int (2 : Int32)), .val (.long (own_mix ((-7046029254386353131 : Int64) ^^^ v4))), .second, .val (.int (5 : Int32))] [(.int (2 : Int32)), (.int (4 : Int32)), (.int (5 : Int32))])
    refine own_go (fun _ k => XS.iadd X76.here hx rfl (hb hby d3_24) rfl k) ?_
    show own_Run p e below _ T76 (mkF m 25 #[.val (.ref a1), .val (.ref a2), .val (.int (2 : Int32)), .val (.long (own_mix ((-7046029254386353131 : Int64) ^^^ v4))), .second, .val (.int (5 : Int32))] [(.int ((4 : Int32) + (2 : Int32))), (.int (5 : Int32))])
    rw [show ((4 : Int32) + (2 : Int32)) = (6 : Int32) by decide]
    show own_Run p e below _ T76 (mkF m 25 #[.val (.ref a1), .val (.ref a2), .val (.int (2 : Int32)), .val (.long (own_mix ((-7046029254386353131 : Int64) ^^^ v4))), .second, .val (.int (5 : Int32))] [(.int (6 : Int32)), (.int (5 : Int32))])
    refine own_go (fun _ k => XS.icmpNo X76.here hx rfl (hb hby d3_25) rfl (tlt (by decide : (5 : Int32) < (6 : Int32))).2.1 k) ?_
    show own_Run p e below _ T76 (mkF m 28 #[.val (.ref a1), .val (.ref a2), .val (.int (2 : Int32)), .val (.long (own_mix ((-7046029254386353131 : Int64) ^^^ v4))), .second, .val (.int (5 : Int32))] [])
    refine own_go (fun _ k => XS.lloadN X76.here hx rfl (hb hby d3_28) rfl k) ?_
    refine own_go (fun _ k => XS.aloadN X76.here hx rfl (hb hby d3_29) rfl rfl k) ?_
    refine own_go (fun _ k => XS.iload X76.here hx rfl (hb hby d3_30) rfl k) ?_
    show own_Run p e below _ T76 (mkF m 32 #[.val (.ref a1), .val (.ref a2), .val (.int (2 : Int32)), .val (.long (own_mix ((-7046029254386353131 : Int64) ^^^ v4))), .second, .val (.int (5 : Int32))] [(.int (5 : Int32)), (.ref a2), (.long (own_mix ((-7046029254386353131 : Int64) ^^^ v4)))])
    obtain ⟨cl77, Ar77, q77, S77, N77, H77, G77⟩ := id V_a2
    have hin77 : ¬ ((5 : Int32) < 0 ∨ cl77.slots.size ≤ ((5 : Int32)).toNatClampNeg) := inb_of S77 ⟨by decide, by decide⟩
    refine own_go (X76.laload hx (j := (5 : Int32)) (v := (.long v5)) (by rw [e76]; exact Ar77.1) (State.isArrayOf_alike hZ.alike Ar77.2.1) Ar77.2.2 hin77 (H77.at hin77 rfl) (g := (mkF m 32 #[.val (.ref a1), .val (.ref a2), .val (.int (2 : Int32)), .val (.long (own_mix ((-7046029254386353131 : Int64) ^^^ v4))), .second, .val (.int (5 : Int32))] [(.int (5 : Int32)), (.ref a2), (.long (own_mix ((-7046029254386353131 : Int64) ^^^ v4)))])) rfl rfl (hb hby d3_32)) ?_
    show own_Run p e below _ T76 (mkF m 33 #[.val (.ref a1), .val (.ref a2), .val (.int (2 : Int32)), .val (.long (own_mix ((-7046029254386353131 : Int64) ^^^ v4))), .second, .val (.int (5 : Int32))] [(.long v5), (.long (own_mix ((-7046029254386353131 : Int64) ^^^ v4)))])
    refine own_go (fun _ k => XS.lxor X76.here hx rfl (hb hby d3_33) rfl k) ?_
    show own_Run p e below _ T76 (mkF m 34 #[.val (.ref a1), .val (.ref a2), .val (.int (2 : Int32)), .val (.long (own_mix ((-7046029254386353131 : Int64) ^^^ v4))), .second, .val (.int (5 : Int32))] [(.long ((own_mix ((-7046029254386353131 : Int64) ^^^ v4)) ^^^ v5))])
    obtain ⟨_, _, ⟨T78, L78, k78, n78⟩, -, X78, ⟨Lc78, hQ78, l78, y78, z78⟩, st78⟩ := Jvm.LawKit.callS X76 hx (y := (⟨"com/example/near_duplicate_finder/nearduplicatefinder/ShingleHash", "mix", "(J)J"⟩ : MethodName)) hown (mvT hZ (W 23 rfl)) (mvT hZ (W 24 rfl)) (mvT hZ (W 25 rfl)) (mvT hZ (W 26 rfl)) (by decide) (backOf (W := 0) (rm4 l Z a0 hw [] ((own_mix ((-7046029254386353131 : Int64) ^^^ v4)) ^^^ v5) h0 n0 Z0 ) hZ (W 26 rfl) (W 25 rfl) (by decide) (by decide)) (g := (mkF m 34 #[.val (.ref a1), .val (.ref a2), .val (.int (2 : Int32)), .val (.long (own_mix ((-7046029254386353131 : Int64) ^^^ v4))), .second, .val (.int (5 : Int32))] [(.long ((own_mix ((-7046029254386353131 : Int64) ^^^ v4)) ^^^ v5))])) rfl (by rw [hml]; rfl) (argsL := [(.long ((own_mix ((-7046029254386353131 : Int64) ^^^ v4)) ^^^ v5))]) (rest := []) (lenOf pd_1 rfl) rfl (by show 2 * 0 + _ ≤ _; exact Nat.le_of_eq rfl) (hb hby d3_34) (fun _ _ => ⟨rfl, e76, (by decide : 0 + 0 ≤ _), (by decide : 0 + 0 ≤ _)⟩)
    dsimp only [Pt.U, Pt.locs, Pt.cells, Pt.slots] at X78 l78 y78 z78 st78 hQ78
    subst l78 y78 z78
    obtain ⟨rfl, N78q, e78⟩ := hQ78
    have N78 := Fr.app N74 N78q
    refine own_go st78 ?_
    show own_Run p e below _ T78 (mkF m 37 #[.val (.ref a1), .val (.ref a2), .val (.int (2 : Int32)), .val (.long (own_mix ((-7046029254386353131 : Int64) ^^^ v4))), .second, .val (.int (5 : Int32))] [(.long (own_mix ((own_mix ((-7046029254386353131 : Int64) ^^^ v4)) ^^^ v5)))])
    refine own_go (fun _ k => XS.lstoreN X78.here hx rfl (hb hby d3_37) rfl (l' := #[.val (.ref a1), .val (.ref a2), .val (.int (2 : Int32)), .val (.long (own_mix ((own_mix ((-7046029254386353131 : Int64) ^^^ v4)) ^^^ v5))), .second, .val (.int (5 : Int32))]) rfl k) ?_
    refine own_go (fun _ k => XS.iinc X78.here hx rfl (hb hby d3_38) rfl (l' := #[.val (.ref a1), .val (.ref a2), .val (.int (2 : Int32)), .val (.long (own_mix ((own_mix ((-7046029254386353131 : Int64) ^^^ v4)) ^^^ v5))), .second, .val (.int ((5 : Int32) + (1 : Int32)))]) rfl k) ?_
    show own_Run p e below _ T78 (mkF m 41 #[.val (.ref a1), .val (.ref a2), .val (.int (2 : Int32)), .val (.long (own_mix ((own_mix ((-7046029254386353131 : Int64) ^^^ v4)) ^^^ v5))), .second, .val (.int ((5 : Int32) + (1 : Int32)))] [])
    rw [show ((5 : Int32) + (1 : Int32)) = (6 : Int32) by decide]
    show own_Run p e below _ T78 (mkF m 41 #[.val (.ref a1), .val (.ref a2), .val (.int (2 : Int32)), .val (.long (own_mix ((own_mix ((-7046029254386353131 : Int64) ^^^ v4)) ^^^ v5))), .second, .val (.int (6 : Int32))] [])
    refine own_go (fun _ k => XS.goto X78.here hx rfl (pc0 := 41) (pc' := 12) rfl (hb hby d3_41) (by decide) (by decide) k) ?_
    refine own_go (fun _ k => XS.iload X78.here hx rfl (hb hby d3_12) rfl k) ?_
    refine own_go (fun _ k => XS.iloadN X78.here hx rfl (hb hby d3_14) rfl k) ?_
    refine own_go (fun _ k => XS.aloadN X78.here hx rfl (hb hby d3_15) rfl rfl k) ?_
    show own_Run p e below _ T78 (mkF m 16 #[.val (.ref a1), .val (.ref a2), .val (.int (2 : Int32)), .val (.long (own_mix ((own_mix ((-7046029254386353131 : Int64) ^^^ v4)) ^^^ v5))), .second, .val (.int (6 : Int32))] [(.ref a1), (.int (2 : Int32)), (.int (6 : Int32))])
    obtain ⟨T79, X79, e79, st79⟩ := getF X78 hx hZ hown (host := "") (Or.inl (W 15 rfl)) Via.refl e78 F_rows_a1 (g := (mkF m 16 #[.val (.ref a1), .val (.ref a2), .val (.int (2 : Int32)), .val (.long (own_mix ((own_mix ((-7046029254386353131 : Int64) ^^^ v4)) ^^^ v5))), .second, .val (.int (6 : Int32))] [(.ref a1), (.int (2 : Int32)), (.int (6 : Int32))])) rfl rfl (hb hby d3_16)
    refine own_go st79 ?_
    show own_Run p e below _ T79 (mkF m 19 #[.val (.ref a1), .val (.ref a2), .val (.int (2 : Int32)), .val (.long (own_mix ((own_mix ((-7046029254386353131 : Int64) ^^^ v4)) ^^^ v5))), .second, .val (.int (6 : Int32))] [(.int (2 : Int32)), (.int (2 : Int32)), (.int (6 : Int32))])
    refine own_go (fun _ k => XS.imul X79.here hx rfl (hb hby d3_19) rfl k) ?_
    show own_Run p e below _ T79 (mkF m 20 #[.val (.ref a1), .val (.ref a2), .val (.int (2 : Int32)), .val (.long (own_mix ((own_mix ((-7046029254386353131 : Int64) ^^^ v4)) ^^^ v5))), .second, .val (.int (6 : Int32))] [(.int ((2 : Int32) * (2 : Int32))), (.int (6 : Int32))])
    rw [show ((2 : Int32) * (2 : Int32)) = (4 : Int32) by decide]
    show own_Run p e below _ T79 (mkF m 20 #[.val (.ref a1), .val (.ref a2), .val (.int (2 : Int32)), .val (.long (own_mix ((own_mix ((-7046029254386353131 : Int64) ^^^ v4)) ^^^ v5))), .second, .val (.int (6 : Int32))] [(.int (4 : Int32)), (.int (6 : Int32))])
    refine own_go (fun _ k => XS.aloadN X79.here hx rfl (hb hby d3_20) rfl rfl k) ?_
    show own_Run p e below _ T79 (mkF m 21 #[.val (.ref a1), .val (.ref a2), .val (.int (2 : Int32)), .val (.long (own_mix ((own_mix ((-7046029254386353131 : Int64) ^^^ v4)) ^^^ v5))), .second, .val (.int (6 : Int32))] [(.ref a1), (.int (4 : Int32)), (.int (6 : Int32))])
    obtain ⟨T80, X80, e80, st80⟩ := getF X79 hx hZ hown (host := "") (Or.inl (W 15 rfl)) Via.refl e79 F_rows_a1 (g := (mkF m 21 #[.val (.ref a1), .val (.ref a2), .val (.int (2 : Int32)), .val (.long (own_mix ((own_mix ((-7046029254386353131 : Int64) ^^^ v4)) ^^^ v5))), .second, .val (.int (6 : Int32))] [(.ref a1), (.int (4 : Int32)), (.int (6 : Int32))])) rfl rfl (hb hby d3_21)
    refine own_go st80 ?_
    show own_Run p e below _ T80 (mkF m 24 #[.val (.ref a1), .val (.ref a2), .val (.int (2 : Int32)), .val (.long (own_mix ((own_mix ((-7046029254386353131 : Int64) ^^^ v4)) ^^^ v5))), .second, .val (.int (6 : Int32))] [(.int (2 : Int32)), (.int (4 : Int32)), (.int (6 : Int32))])
    refine own_go (fun _ k => XS.iadd X80.here hx rfl (hb hby d3_24) rfl k) ?_
    show own_Run p e below _ T80 (mkF m 25 #[.val (.ref a1), .val (.ref a2), .val (.int (2 : Int32)), .val (.long (own_mix ((own_mix ((-7046029254386353131 : Int64) ^^^ v4)) ^^^ v5))), .second, .val (.int (6 : Int32))] [(.int ((4 : Int32) + (2 : Int32))), (.int (6 : Int32))])
    rw [show ((4 : Int32) + (2 : Int32)) = (6 : Int32) by decide]
    show own_Run p e below _ T80 (mkF m 25 #[.val (.ref a1), .val (.ref a2), .val (.int (2 : Int32)), .val (.long (own_mix ((own_mix ((-7046029254386353131 : Int64) ^^^ v4)) ^^^ v5))), .second, .val (.int (6 : Int32))] [(.int (6 : Int32)), (.int (6 : Int32))])
    refine own_go (fun _ k => XS.icmpYes X80.here hx rfl (pc0 := 25) (pc' := 44) rfl (hb hby d3_25) rfl (flt (by decide : ¬ ((6 : Int32) < (6 : Int32)))).2.1 (by decide) (by decide) k) ?_
    show own_Run p e below _ T80 (mkF m 44 #[.val (.ref a1), .val (.ref a2), .val (.int (2 : Int32)), .val (.long (own_mix ((own_mix ((-7046029254386353131 : Int64) ^^^ v4)) ^^^ v5))), .second, .val (.int (6 : Int32))] [])
    refine own_go (fun _ k => XS.lloadN X80.here hx rfl (hb hby d3_44) rfl k) ?_
    show own_Run p e below _ T80 (mkF m 45 #[.val (.ref a1), .val (.ref a2), .val (.int (2 : Int32)), .val (.long (own_mix ((own_mix ((-7046029254386353131 : Int64) ^^^ v4)) ^^^ v5))), .second, .val (.int (6 : Int32))] [(.long (own_mix ((own_mix ((-7046029254386353131 : Int64) ^^^ v4)) ^^^ v5)))])
    refine own_done (Q := fun v h L => Q3 Z a1 a2 (2 : Int32) (2 : Int32) kk v0 v1 v2 v3 v4 v5 (own_mix ((own_mix ((-7046029254386353131 : Int64) ^^^ v4)) ^^^ v5)) h0 n0 v h L) (v := (some (.long (own_mix ((own_mix ((-7046029254386353131 : Int64) ^^^ v4)) ^^^ v5))))) X80 (fun h => by rw [hret] at h; cases h) hlk (fun fs hr => own_retL X80 hx hret (hb hby d3_45) hr) ?_ (by decide) (by decide)
    show Q3 Z a1 a2 (2 : Int32) (2 : Int32) kk v0 v1 v2 v3 v4 v5 (own_mix ((own_mix ((-7046029254386353131 : Int64) ^^^ v4)) ^^^ v5)) h0 n0 _ T80.heap _
    rw [e80]
    exact ⟨rfl, N78, rfl⟩
  · show own_Run p e below _ s₁ (mkF m 0 #[.val (.ref a1), .val (.ref a2), .val (.int (0 : Int32)), .unset, .unset, .unset] [])
    refine own_go (X0.ldc2Long hx hown (mvT hZ (W 22 rfl)) (g := (mkF m 0 #[.val (.ref a1), .val (.ref a2), .val (.int (0 : Int32)), .unset, .unset, .unset] [])) rfl (hb hby d3_0)) ?_
    show own_Run p e below _ s₁ (mkF m 3 #[.val (.ref a1), .val (.ref a2), .val (.int (0 : Int32)), .unset, .unset, .unset] [(.long (-7046029254386353131 : Int64))])
    refine own_go (fun _ k => XS.lstoreN X0.here hx rfl (hb hby d3_3) rfl (l' := #[.val (.ref a1), .val (.ref a2), .val (.int (0 : Int32)), .val (.long (-7046029254386353131 : Int64)), .second, .unset]) rfl k) ?_
    refine own_go (fun _ k => XS.iloadN X0.here hx rfl (hb hby d3_4) rfl k) ?_
    refine own_go (fun _ k => XS.aloadN X0.here hx rfl (hb hby d3_5) rfl rfl k) ?_
    show own_Run p e below _ s₁ (mkF m 6 #[.val (.ref a1), .val (.ref a2), .val (.int (0 : Int32)), .val (.long (-7046029254386353131 : Int64)), .second, .unset] [(.ref a1), (.int (0 : Int32))])
    obtain ⟨T81, X81, e81, st81⟩ := getF X0 hx hZ hown (host := "") (Or.inl (W 15 rfl)) Via.refl e0 F_rows_a1 (g := (mkF m 6 #[.val (.ref a1), .val (.ref a2), .val (.int (0 : Int32)), .val (.long (-7046029254386353131 : Int64)), .second, .unset] [(.ref a1), (.int (0 : Int32))])) rfl rfl (hb hby d3_6)
    refine own_go st81 ?_
    show own_Run p e below _ T81 (mkF m 9 #[.val (.ref a1), .val (.ref a2), .val (.int (0 : Int32)), .val (.long (-7046029254386353131 : Int64)), .second, .unset] [(.int (3 : Int32)), (.int (0 : Int32))])
    refine own_go (fun _ k => XS.imul X81.here hx rfl (hb hby d3_9) rfl k) ?_
    show own_Run p e below _ T81 (mkF m 10 #[.val (.ref a1), .val (.ref a2), .val (.int (0 : Int32)), .val (.long (-7046029254386353131 : Int64)), .second, .unset] [(.int ((0 : Int32) * (3 : Int32)))])
    rw [show ((0 : Int32) * (3 : Int32)) = (0 : Int32) by decide]
    show own_Run p e below _ T81 (mkF m 10 #[.val (.ref a1), .val (.ref a2), .val (.int (0 : Int32)), .val (.long (-7046029254386353131 : Int64)), .second, .unset] [(.int (0 : Int32))])
    refine own_go (fun _ k => XS.istore X81.here hx rfl (hb hby d3_10) rfl (l' := #[.val (.ref a1), .val (.ref a2), .val (.int (0 : Int32)), .val (.long (-7046029254386353131 : Int64)), .second, .val (.int (0 : Int32))]) rfl k) ?_
    refine own_go (fun _ k => XS.iload X81.here hx rfl (hb hby d3_12) rfl k) ?_
    refine own_go (fun _ k => XS.iloadN X81.here hx rfl (hb hby d3_14) rfl k) ?_
    refine own_go (fun _ k => XS.aloadN X81.here hx rfl (hb hby d3_15) rfl rfl k) ?_
    show own_Run p e below _ T81 (mkF m 16 #[.val (.ref a1), .val (.ref a2), .val (.int (0 : Int32)), .val (.long (-7046029254386353131 : Int64)), .second, .val (.int (0 : Int32))] [(.ref a1), (.int (0 : Int32)), (.int (0 : Int32))])
    obtain ⟨T82, X82, e82, st82⟩ := getF X81 hx hZ hown (host := "") (Or.inl (W 15 rfl)) Via.refl e81 F_rows_a1 (g := (mkF m 16 #[.val (.ref a1), .val (.ref a2), .val (.int (0 : Int32)), .val (.long (-7046029254386353131 : Int64)), .second, .val (.int (0 : Int32))] [(.ref a1), (.int (0 : Int32)), (.int (0 : Int32))])) rfl rfl (hb hby d3_16)
    refine own_go st82 ?_
    show own_Run p e below _ T82 (mkF m 19 #[.val (.ref a1), .val (.ref a2), .val (.int (0 : Int32)), .val (.long (-7046029254386353131 : Int64)), .second, .val (.int (0 : Int32))] [(.int (3 : Int32)), (.int (0 : Int32)), (.int (0 : Int32))])
    refine own_go (fun _ k => XS.imul X82.here hx rfl (hb hby d3_19) rfl k) ?_
    show own_Run p e below _ T82 (mkF m 20 #[.val (.ref a1), .val (.ref a2), .val (.int (0 : Int32)), .val (.long (-7046029254386353131 : Int64)), .second, .val (.int (0 : Int32))] [(.int ((0 : Int32) * (3 : Int32))), (.int (0 : Int32))])
    rw [show ((0 : Int32) * (3 : Int32)) = (0 : Int32) by decide]
    show own_Run p e below _ T82 (mkF m 20 #[.val (.ref a1), .val (.ref a2), .val (.int (0 : Int32)), .val (.long (-7046029254386353131 : Int64)), .second, .val (.int (0 : Int32))] [(.int (0 : Int32)), (.int (0 : Int32))])
    refine own_go (fun _ k => XS.aloadN X82.here hx rfl (hb hby d3_20) rfl rfl k) ?_
    show own_Run p e below _ T82 (mkF m 21 #[.val (.ref a1), .val (.ref a2), .val (.int (0 : Int32)), .val (.long (-7046029254386353131 : Int64)), .second, .val (.int (0 : Int32))] [(.ref a1), (.int (0 : Int32)), (.int (0 : Int32))])
    obtain ⟨T83, X83, e83, st83⟩ := getF X82 hx hZ hown (host := "") (Or.inl (W 15 rfl)) Via.refl e82 F_rows_a1 (g := (mkF m 21 #[.val (.ref a1), .val (.ref a2), .val (.int (0 : Int32)), .val (.long (-7046029254386353131 : Int64)), .second, .val (.int (0 : Int32))] [(.ref a1), (.int (0 : Int32)), (.int (0 : Int32))])) rfl rfl (hb hby d3_21)
    refine own_go st83 ?_
    show own_Run p e below _ T83 (mkF m 24 #[.val (.ref a1), .val (.ref a2), .val (.int (0 : Int32)), .val (.long (-7046029254386353131 : Int64)), .second, .val (.int (0 : Int32))] [(.int (3 : Int32)), (.int (0 : Int32)), (.int (0 : Int32))])
    refine own_go (fun _ k => XS.iadd X83.here hx rfl (hb hby d3_24) rfl k) ?_
    show own_Run p e below _ T83 (mkF m 25 #[.val (.ref a1), .val (.ref a2), .val (.int (0 : Int32)), .val (.long (-7046029254386353131 : Int64)), .second, .val (.int (0 : Int32))] [(.int ((0 : Int32) + (3 : Int32))), (.int (0 : Int32))])
    rw [show ((0 : Int32) + (3 : Int32)) = (3 : Int32) by decide]
    show own_Run p e below _ T83 (mkF m 25 #[.val (.ref a1), .val (.ref a2), .val (.int (0 : Int32)), .val (.long (-7046029254386353131 : Int64)), .second, .val (.int (0 : Int32))] [(.int (3 : Int32)), (.int (0 : Int32))])
    refine own_go (fun _ k => XS.icmpNo X83.here hx rfl (hb hby d3_25) rfl (tlt (by decide : (0 : Int32) < (3 : Int32))).2.1 k) ?_
    show own_Run p e below _ T83 (mkF m 28 #[.val (.ref a1), .val (.ref a2), .val (.int (0 : Int32)), .val (.long (-7046029254386353131 : Int64)), .second, .val (.int (0 : Int32))] [])
    refine own_go (fun _ k => XS.lloadN X83.here hx rfl (hb hby d3_28) rfl k) ?_
    refine own_go (fun _ k => XS.aloadN X83.here hx rfl (hb hby d3_29) rfl rfl k) ?_
    refine own_go (fun _ k => XS.iload X83.here hx rfl (hb hby d3_30) rfl k) ?_
    show own_Run p e below _ T83 (mkF m 32 #[.val (.ref a1), .val (.ref a2), .val (.int (0 : Int32)), .val (.long (-7046029254386353131 : Int64)), .second, .val (.int (0 : Int32))] [(.int (0 : Int32)), (.ref a2), (.long (-7046029254386353131 : Int64))])
    obtain ⟨cl84, Ar84, q84, S84, N84, H84, G84⟩ := id V_a2
    have hin84 : ¬ ((0 : Int32) < 0 ∨ cl84.slots.size ≤ ((0 : Int32)).toNatClampNeg) := inb_of S84 ⟨by decide, by decide⟩
    refine own_go (X83.laload hx (j := (0 : Int32)) (v := (.long v0)) (by rw [e83]; exact Ar84.1) (State.isArrayOf_alike hZ.alike Ar84.2.1) Ar84.2.2 hin84 (H84.at hin84 rfl) (g := (mkF m 32 #[.val (.ref a1), .val (.ref a2), .val (.int (0 : Int32)), .val (.long (-7046029254386353131 : Int64)), .second, .val (.int (0 : Int32))] [(.int (0 : Int32)), (.ref a2), (.long (-7046029254386353131 : Int64))])) rfl rfl (hb hby d3_32)) ?_
    show own_Run p e below _ T83 (mkF m 33 #[.val (.ref a1), .val (.ref a2), .val (.int (0 : Int32)), .val (.long (-7046029254386353131 : Int64)), .second, .val (.int (0 : Int32))] [(.long v0), (.long (-7046029254386353131 : Int64))])
    refine own_go (fun _ k => XS.lxor X83.here hx rfl (hb hby d3_33) rfl k) ?_
    show own_Run p e below _ T83 (mkF m 34 #[.val (.ref a1), .val (.ref a2), .val (.int (0 : Int32)), .val (.long (-7046029254386353131 : Int64)), .second, .val (.int (0 : Int32))] [(.long ((-7046029254386353131 : Int64) ^^^ v0))])
    obtain ⟨_, _, ⟨T85, L85, k85, n85⟩, -, X85, ⟨Lc85, hQ85, l85, y85, z85⟩, st85⟩ := Jvm.LawKit.callS X83 hx (y := (⟨"com/example/near_duplicate_finder/nearduplicatefinder/ShingleHash", "mix", "(J)J"⟩ : MethodName)) hown (mvT hZ (W 23 rfl)) (mvT hZ (W 24 rfl)) (mvT hZ (W 25 rfl)) (mvT hZ (W 26 rfl)) (by decide) (backOf (W := 0) (rm4 l Z a0 hw [] ((-7046029254386353131 : Int64) ^^^ v0) h0 n0 Z0 ) hZ (W 26 rfl) (W 25 rfl) (by decide) (by decide)) (g := (mkF m 34 #[.val (.ref a1), .val (.ref a2), .val (.int (0 : Int32)), .val (.long (-7046029254386353131 : Int64)), .second, .val (.int (0 : Int32))] [(.long ((-7046029254386353131 : Int64) ^^^ v0))])) rfl (by rw [hml]; rfl) (argsL := [(.long ((-7046029254386353131 : Int64) ^^^ v0))]) (rest := []) (lenOf pd_1 rfl) rfl (by show 2 * 0 + _ ≤ _; exact Nat.le_of_eq rfl) (hb hby d3_34) (fun _ _ => ⟨rfl, e83, (by decide : 0 + 0 ≤ _), (by decide : 0 + 0 ≤ _)⟩)
    dsimp only [Pt.U, Pt.locs, Pt.cells, Pt.slots] at X85 l85 y85 z85 st85 hQ85
    subst l85 y85 z85
    obtain ⟨rfl, N85q, e85⟩ := hQ85
    have N85 := Fr.app N0 N85q
    refine own_go st85 ?_
    show own_Run p e below _ T85 (mkF m 37 #[.val (.ref a1), .val (.ref a2), .val (.int (0 : Int32)), .val (.long (-7046029254386353131 : Int64)), .second, .val (.int (0 : Int32))] [(.long (own_mix ((-7046029254386353131 : Int64) ^^^ v0)))])
    refine own_go (fun _ k => XS.lstoreN X85.here hx rfl (hb hby d3_37) rfl (l' := #[.val (.ref a1), .val (.ref a2), .val (.int (0 : Int32)), .val (.long (own_mix ((-7046029254386353131 : Int64) ^^^ v0))), .second, .val (.int (0 : Int32))]) rfl k) ?_
    refine own_go (fun _ k => XS.iinc X85.here hx rfl (hb hby d3_38) rfl (l' := #[.val (.ref a1), .val (.ref a2), .val (.int (0 : Int32)), .val (.long (own_mix ((-7046029254386353131 : Int64) ^^^ v0))), .second, .val (.int ((0 : Int32) + (1 : Int32)))]) rfl k) ?_
    show own_Run p e below _ T85 (mkF m 41 #[.val (.ref a1), .val (.ref a2), .val (.int (0 : Int32)), .val (.long (own_mix ((-7046029254386353131 : Int64) ^^^ v0))), .second, .val (.int ((0 : Int32) + (1 : Int32)))] [])
    rw [show ((0 : Int32) + (1 : Int32)) = (1 : Int32) by decide]
    show own_Run p e below _ T85 (mkF m 41 #[.val (.ref a1), .val (.ref a2), .val (.int (0 : Int32)), .val (.long (own_mix ((-7046029254386353131 : Int64) ^^^ v0))), .second, .val (.int (1 : Int32))] [])
    refine own_go (fun _ k => XS.goto X85.here hx rfl (pc0 := 41) (pc' := 12) rfl (hb hby d3_41) (by decide) (by decide) k) ?_
    refine own_go (fun _ k => XS.iload X85.here hx rfl (hb hby d3_12) rfl k) ?_
    refine own_go (fun _ k => XS.iloadN X85.here hx rfl (hb hby d3_14) rfl k) ?_
    refine own_go (fun _ k => XS.aloadN X85.here hx rfl (hb hby d3_15) rfl rfl k) ?_
    show own_Run p e below _ T85 (mkF m 16 #[.val (.ref a1), .val (.ref a2), .val (.int (0 : Int32)), .val (.long (own_mix ((-7046029254386353131 : Int64) ^^^ v0))), .second, .val (.int (1 : Int32))] [(.ref a1), (.int (0 : Int32)), (.int (1 : Int32))])
    obtain ⟨T86, X86, e86, st86⟩ := getF X85 hx hZ hown (host := "") (Or.inl (W 15 rfl)) Via.refl e85 F_rows_a1 (g := (mkF m 16 #[.val (.ref a1), .val (.ref a2), .val (.int (0 : Int32)), .val (.long (own_mix ((-7046029254386353131 : Int64) ^^^ v0))), .second, .val (.int (1 : Int32))] [(.ref a1), (.int (0 : Int32)), (.int (1 : Int32))])) rfl rfl (hb hby d3_16)
    refine own_go st86 ?_
    show own_Run p e below _ T86 (mkF m 19 #[.val (.ref a1), .val (.ref a2), .val (.int (0 : Int32)), .val (.long (own_mix ((-7046029254386353131 : Int64) ^^^ v0))), .second, .val (.int (1 : Int32))] [(.int (3 : Int32)), (.int (0 : Int32)), (.int (1 : Int32))])
    refine own_go (fun _ k => XS.imul X86.here hx rfl (hb hby d3_19) rfl k) ?_
    show own_Run p e below _ T86 (mkF m 20 #[.val (.ref a1), .val (.ref a2), .val (.int (0 : Int32)), .val (.long (own_mix ((-7046029254386353131 : Int64) ^^^ v0))), .second, .val (.int (1 : Int32))] [(.int ((0 : Int32) * (3 : Int32))), (.int (1 : Int32))])
    rw [show ((0 : Int32) * (3 : Int32)) = (0 : Int32) by decide]
    show own_Run p e below _ T86 (mkF m 20 #[.val (.ref a1), .val (.ref a2), .val (.int (0 : Int32)), .val (.long (own_mix ((-7046029254386353131 : Int64) ^^^ v0))), .second, .val (.int (1 : Int32))] [(.int (0 : Int32)), (.int (1 : Int32))])
    refine own_go (fun _ k => XS.aloadN X86.here hx rfl (hb hby d3_20) rfl rfl k) ?_
    show own_Run p e below _ T86 (mkF m 21 #[.val (.ref a1), .val (.ref a2), .val (.int (0 : Int32)), .val (.long (own_mix ((-7046029254386353131 : Int64) ^^^ v0))), .second, .val (.int (1 : Int32))] [(.ref a1), (.int (0 : Int32)), (.int (1 : Int32))])
    obtain ⟨T87, X87, e87, st87⟩ := getF X86 hx hZ hown (host := "") (Or.inl (W 15 rfl)) Via.refl e86 F_rows_a1 (g := (mkF m 21 #[.val (.ref a1), .val (.ref a2), .val (.int (0 : Int32)), .val (.long (own_mix ((-7046029254386353131 : Int64) ^^^ v0))), .second, .val (.int (1 : Int32))] [(.ref a1), (.int (0 : Int32)), (.int (1 : Int32))])) rfl rfl (hb hby d3_21)
    refine own_go st87 ?_
    show own_Run p e below _ T87 (mkF m 24 #[.val (.ref a1), .val (.ref a2), .val (.int (0 : Int32)), .val (.long (own_mix ((-7046029254386353131 : Int64) ^^^ v0))), .second, .val (.int (1 : Int32))] [(.int (3 : Int32)), (.int (0 : Int32)), (.int (1 : Int32))])
    refine own_go (fun _ k => XS.iadd X87.here hx rfl (hb hby d3_24) rfl k) ?_
    show own_Run p e below _ T87 (mkF m 25 #[.val (.ref a1), .val (.ref a2), .val (.int (0 : Int32)), .val (.long (own_mix ((-7046029254386353131 : Int64) ^^^ v0))), .second, .val (.int (1 : Int32))] [(.int ((0 : Int32) + (3 : Int32))), (.int (1 : Int32))])
    rw [show ((0 : Int32) + (3 : Int32)) = (3 : Int32) by decide]
    show own_Run p e below _ T87 (mkF m 25 #[.val (.ref a1), .val (.ref a2), .val (.int (0 : Int32)), .val (.long (own_mix ((-7046029254386353131 : Int64) ^^^ v0))), .second, .val (.int (1 : Int32))] [(.int (3 : Int32)), (.int (1 : Int32))])
    refine own_go (fun _ k => XS.icmpNo X87.here hx rfl (hb hby d3_25) rfl (tlt (by decide : (1 : Int32) < (3 : Int32))).2.1 k) ?_
    show own_Run p e below _ T87 (mkF m 28 #[.val (.ref a1), .val (.ref a2), .val (.int (0 : Int32)), .val (.long (own_mix ((-7046029254386353131 : Int64) ^^^ v0))), .second, .val (.int (1 : Int32))] [])
    refine own_go (fun _ k => XS.lloadN X87.here hx rfl (hb hby d3_28) rfl k) ?_
    refine own_go (fun _ k => XS.aloadN X87.here hx rfl (hb hby d3_29) rfl rfl k) ?_
    refine own_go (fun _ k => XS.iload X87.here hx rfl (hb hby d3_30) rfl k) ?_
    show own_Run p e below _ T87 (mkF m 32 #[.val (.ref a1), .val (.ref a2), .val (.int (0 : Int32)), .val (.long (own_mix ((-7046029254386353131 : Int64) ^^^ v0))), .second, .val (.int (1 : Int32))] [(.int (1 : Int32)), (.ref a2), (.long (own_mix ((-7046029254386353131 : Int64) ^^^ v0)))])
    obtain ⟨cl88, Ar88, q88, S88, N88, H88, G88⟩ := id V_a2
    have hin88 : ¬ ((1 : Int32) < 0 ∨ cl88.slots.size ≤ ((1 : Int32)).toNatClampNeg) := inb_of S88 ⟨by decide, by decide⟩
    refine own_go (X87.laload hx (j := (1 : Int32)) (v := (.long v1)) (by rw [e87]; exact Ar88.1) (State.isArrayOf_alike hZ.alike Ar88.2.1) Ar88.2.2 hin88 (H88.at hin88 rfl) (g := (mkF m 32 #[.val (.ref a1), .val (.ref a2), .val (.int (0 : Int32)), .val (.long (own_mix ((-7046029254386353131 : Int64) ^^^ v0))), .second, .val (.int (1 : Int32))] [(.int (1 : Int32)), (.ref a2), (.long (own_mix ((-7046029254386353131 : Int64) ^^^ v0)))])) rfl rfl (hb hby d3_32)) ?_
    show own_Run p e below _ T87 (mkF m 33 #[.val (.ref a1), .val (.ref a2), .val (.int (0 : Int32)), .val (.long (own_mix ((-7046029254386353131 : Int64) ^^^ v0))), .second, .val (.int (1 : Int32))] [(.long v1), (.long (own_mix ((-7046029254386353131 : Int64) ^^^ v0)))])
    refine own_go (fun _ k => XS.lxor X87.here hx rfl (hb hby d3_33) rfl k) ?_
    show own_Run p e below _ T87 (mkF m 34 #[.val (.ref a1), .val (.ref a2), .val (.int (0 : Int32)), .val (.long (own_mix ((-7046029254386353131 : Int64) ^^^ v0))), .second, .val (.int (1 : Int32))] [(.long ((own_mix ((-7046029254386353131 : Int64) ^^^ v0)) ^^^ v1))])
    obtain ⟨_, _, ⟨T89, L89, k89, n89⟩, -, X89, ⟨Lc89, hQ89, l89, y89, z89⟩, st89⟩ := Jvm.LawKit.callS X87 hx (y := (⟨"com/example/near_duplicate_finder/nearduplicatefinder/ShingleHash", "mix", "(J)J"⟩ : MethodName)) hown (mvT hZ (W 23 rfl)) (mvT hZ (W 24 rfl)) (mvT hZ (W 25 rfl)) (mvT hZ (W 26 rfl)) (by decide) (backOf (W := 0) (rm4 l Z a0 hw [] ((own_mix ((-7046029254386353131 : Int64) ^^^ v0)) ^^^ v1) h0 n0 Z0 ) hZ (W 26 rfl) (W 25 rfl) (by decide) (by decide)) (g := (mkF m 34 #[.val (.ref a1), .val (.ref a2), .val (.int (0 : Int32)), .val (.long (own_mix ((-7046029254386353131 : Int64) ^^^ v0))), .second, .val (.int (1 : Int32))] [(.long ((own_mix ((-7046029254386353131 : Int64) ^^^ v0)) ^^^ v1))])) rfl (by rw [hml]; rfl) (argsL := [(.long ((own_mix ((-7046029254386353131 : Int64) ^^^ v0)) ^^^ v1))]) (rest := []) (lenOf pd_1 rfl) rfl (by show 2 * 0 + _ ≤ _; exact Nat.le_of_eq rfl) (hb hby d3_34) (fun _ _ => ⟨rfl, e87, (by decide : 0 + 0 ≤ _), (by decide : 0 + 0 ≤ _)⟩)
    dsimp only [Pt.U, Pt.locs, Pt.cells, Pt.slots] at X89 l89 y89 z89 st89 hQ89
    subst l89 y89 z89
    obtain ⟨rfl, N89q, e89⟩ := hQ89
    have N89 := Fr.app N85 N89q
    refine own_go st89 ?_
    show own_Run p e below _ T89 (mkF m 37 #[.val (.ref a1), .val (.ref a2), .val (.int (0 : Int32)), .val (.long (own_mix ((-7046029254386353131 : Int64) ^^^ v0))), .second, .val (.int (1 : Int32))] [(.long (own_mix ((own_mix ((-7046029254386353131 : Int64) ^^^ v0)) ^^^ v1)))])
    refine own_go (fun _ k => XS.lstoreN X89.here hx rfl (hb hby d3_37) rfl (l' := #[.val (.ref a1), .val (.ref a2), .val (.int (0 : Int32)), .val (.long (own_mix ((own_mix ((-7046029254386353131 : Int64) ^^^ v0)) ^^^ v1))), .second, .val (.int (1 : Int32))]) rfl k) ?_
    refine own_go (fun _ k => XS.iinc X89.here hx rfl (hb hby d3_38) rfl (l' := #[.val (.ref a1), .val (.ref a2), .val (.int (0 : Int32)), .val (.long (own_mix ((own_mix ((-7046029254386353131 : Int64) ^^^ v0)) ^^^ v1))), .second, .val (.int ((1 : Int32) + (1 : Int32)))]) rfl k) ?_
    show own_Run p e below _ T89 (mkF m 41 #[.val (.ref a1), .val (.ref a2), .val (.int (0 : Int32)), .val (.long (own_mix ((own_mix ((-7046029254386353131 : Int64) ^^^ v0)) ^^^ v1))), .second, .val (.int ((1 : Int32) + (1 : Int32)))] [])
    rw [show ((1 : Int32) + (1 : Int32)) = (2 : Int32) by decide]
    show own_Run p e below _ T89 (mkF m 41 #[.val (.ref a1), .val (.ref a2), .val (.int (0 : Int32)), .val (.long (own_mix ((own_mix ((-7046029254386353131 : Int64) ^^^ v0)) ^^^ v1))), .second, .val (.int (2 : Int32))] [])
    refine own_go (fun _ k => XS.goto X89.here hx rfl (pc0 := 41) (pc' := 12) rfl (hb hby d3_41) (by decide) (by decide) k) ?_
    refine own_go (fun _ k => XS.iload X89.here hx rfl (hb hby d3_12) rfl k) ?_
    refine own_go (fun _ k => XS.iloadN X89.here hx rfl (hb hby d3_14) rfl k) ?_
    refine own_go (fun _ k => XS.aloadN X89.here hx rfl (hb hby d3_15) rfl rfl k) ?_
    show own_Run p e below _ T89 (mkF m 16 #[.val (.ref a1), .val (.ref a2), .val (.int (0 : Int32)), .val (.long (own_mix ((own_mix ((-7046029254386353131 : Int64) ^^^ v0)) ^^^ v1))), .second, .val (.int (2 : Int32))] [(.ref a1), (.int (0 : Int32)), (.int (2 : Int32))])
    obtain ⟨T90, X90, e90, st90⟩ := getF X89 hx hZ hown (host := "") (Or.inl (W 15 rfl)) Via.refl e89 F_rows_a1 (g := (mkF m 16 #[.val (.ref a1), .val (.ref a2), .val (.int (0 : Int32)), .val (.long (own_mix ((own_mix ((-7046029254386353131 : Int64) ^^^ v0)) ^^^ v1))), .second, .val (.int (2 : Int32))] [(.ref a1), (.int (0 : Int32)), (.int (2 : Int32))])) rfl rfl (hb hby d3_16)
    refine own_go st90 ?_
    show own_Run p e below _ T90 (mkF m 19 #[.val (.ref a1), .val (.ref a2), .val (.int (0 : Int32)), .val (.long (own_mix ((own_mix ((-7046029254386353131 : Int64) ^^^ v0)) ^^^ v1))), .second, .val (.int (2 : Int32))] [(.int (3 : Int32)), (.int (0 : Int32)), (.int (2 : Int32))])
    refine own_go (fun _ k => XS.imul X90.here hx rfl (hb hby d3_19) rfl k) ?_
    show own_Run p e below _ T90 (mkF m 20 #[.val (.ref a1), .val (.ref a2), .val (.int (0 : Int32)), .val (.long (own_mix ((own_mix ((-7046029254386353131 : Int64) ^^^ v0)) ^^^ v1))), .second, .val (.int (2 : Int32))] [(.int ((0 : Int32) * (3 : Int32))), (.int (2 : Int32))])
    rw [show ((0 : Int32) * (3 : Int32)) = (0 : Int32) by decide]
    show own_Run p e below _ T90 (mkF m 20 #[.val (.ref a1), .val (.ref a2), .val (.int (0 : Int32)), .val (.long (own_mix ((own_mix ((-7046029254386353131 : Int64) ^^^ v0)) ^^^ v1))), .second, .val (.int (2 : Int32))] [(.int (0 : Int32)), (.int (2 : Int32))])
    refine own_go (fun _ k => XS.aloadN X90.here hx rfl (hb hby d3_20) rfl rfl k) ?_
    show own_Run p e below _ T90 (mkF m 21 #[.val (.ref a1), .val (.ref a2), .val (.int (0 : Int32)), .val (.long (own_mix ((own_mix ((-7046029254386353131 : Int64) ^^^ v0)) ^^^ v1))), .second, .val (.int (2 : Int32))] [(.ref a1), (.int (0 : Int32)), (.int (2 : Int32))])
    obtain ⟨T91, X91, e91, st91⟩ := getF X90 hx hZ hown (host := "") (Or.inl (W 15 rfl)) Via.refl e90 F_rows_a1 (g := (mkF m 21 #[.val (.ref a1), .val (.ref a2), .val (.int (0 : Int32)), .val (.long (own_mix ((own_mix ((-7046029254386353131 : Int64) ^^^ v0)) ^^^ v1))), .second, .val (.int (2 : Int32))] [(.ref a1), (.int (0 : Int32)), (.int (2 : Int32))])) rfl rfl (hb hby d3_21)
    refine own_go st91 ?_
    show own_Run p e below _ T91 (mkF m 24 #[.val (.ref a1), .val (.ref a2), .val (.int (0 : Int32)), .val (.long (own_mix ((own_mix ((-7046029254386353131 : Int64) ^^^ v0)) ^^^ v1))), .second, .val (.int (2 : Int32))] [(.int (3 : Int32)), (.int (0 : Int32)), (.int (2 : Int32))])
    refine own_go (fun _ k => XS.iadd X91.here hx rfl (hb hby d3_24) rfl k) ?_
    show own_Run p e below _ T91 (mkF m 25 #[.val (.ref a1), .val (.ref a2), .val (.int (0 : Int32)), .val (.long (own_mix ((own_mix ((-7046029254386353131 : Int64) ^^^ v0)) ^^^ v1))), .second, .val (.int (2 : Int32))] [(.int ((0 : Int32) + (3 : Int32))), (.int (2 : Int32))])
    rw [show ((0 : Int32) + (3 : Int32)) = (3 : Int32) by decide]
    show own_Run p e below _ T91 (mkF m 25 #[.val (.ref a1), .val (.ref a2), .val (.int (0 : Int32)), .val (.long (own_mix ((own_mix ((-7046029254386353131 : Int64) ^^^ v0)) ^^^ v1))), .second, .val (.int (2 : Int32))] [(.int (3 : Int32)), (.int (2 : Int32))])
    refine own_go (fun _ k => XS.icmpNo X91.here hx rfl (hb hby d3_25) rfl (tlt (by decide : (2 : Int32) < (3 : Int32))).2.1 k) ?_
    show own_Run p e below _ T91 (mkF m 28 #[.val (.ref a1), .val (.ref a2), .val (.int (0 : Int32)), .val (.long (own_mix ((own_mix ((-7046029254386353131 : Int64) ^^^ v0)) ^^^ v1))), .second, .val (.int (2 : Int32))] [])
    refine own_go (fun _ k => XS.lloadN X91.here hx rfl (hb hby d3_28) rfl k) ?_
    refine own_go (fun _ k => XS.aloadN X91.here hx rfl (hb hby d3_29) rfl rfl k) ?_
    refine own_go (fun _ k => XS.iload X91.here hx rfl (hb hby d3_30) rfl k) ?_
    show own_Run p e below _ T91 (mkF m 32 #[.val (.ref a1), .val (.ref a2), .val (.int (0 : Int32)), .val (.long (own_mix ((own_mix ((-7046029254386353131 : Int64) ^^^ v0)) ^^^ v1))), .second, .val (.int (2 : Int32))] [(.int (2 : Int32)), (.ref a2), (.long (own_mix ((own_mix ((-7046029254386353131 : Int64) ^^^ v0)) ^^^ v1)))])
    obtain ⟨cl92, Ar92, q92, S92, N92, H92, G92⟩ := id V_a2
    have hin92 : ¬ ((2 : Int32) < 0 ∨ cl92.slots.size ≤ ((2 : Int32)).toNatClampNeg) := inb_of S92 ⟨by decide, by decide⟩
    refine own_go (X91.laload hx (j := (2 : Int32)) (v := (.long v2)) (by rw [e91]; exact Ar92.1) (State.isArrayOf_alike hZ.alike Ar92.2.1) Ar92.2.2 hin92 (H92.at hin92 rfl) (g := (mkF m 32 #[.val (.ref a1), .val (.ref a2), .val (.int (0 : Int32)), .val (.long (own_mix ((own_mix ((-7046029254386353131 : Int64) ^^^ v0)) ^^^ v1))), .second, .val (.int (2 : Int32))] [(.int (2 : Int32)), (.ref a2), (.long (own_mix ((own_mix ((-7046029254386353131 : Int64) ^^^ v0)) ^^^ v1)))])) rfl rfl (hb hby d3_32)) ?_
    show own_Run p e below _ T91 (mkF m 33 #[.val (.ref a1), .val (.ref a2), .val (.int (0 : Int32)), .val (.long (own_mix ((own_mix ((-7046029254386353131 : Int64) ^^^ v0)) ^^^ v1))), .second, .val (.int (2 : Int32))] [(.long v2), (.long (own_mix ((own_mix ((-7046029254386353131 : Int64) ^^^ v0)) ^^^ v1)))])
    refine own_go (fun _ k => XS.lxor X91.here hx rfl (hb hby d3_33) rfl k) ?_
    show own_Run p e below _ T91 (mkF m 34 #[.val (.ref a1), .val (.ref a2), .val (.int (0 : Int32)), .val (.long (own_mix ((own_mix ((-7046029254386353131 : Int64) ^^^ v0)) ^^^ v1))), .second, .val (.int (2 : Int32))] [(.long ((own_mix ((own_mix ((-7046029254386353131 : Int64) ^^^ v0)) ^^^ v1)) ^^^ v2))])
    obtain ⟨_, _, ⟨T93, L93, k93, n93⟩, -, X93, ⟨Lc93, hQ93, l93, y93, z93⟩, st93⟩ := Jvm.LawKit.callS X91 hx (y := (⟨"com/example/near_duplicate_finder/nearduplicatefinder/ShingleHash", "mix", "(J)J"⟩ : MethodName)) hown (mvT hZ (W 23 rfl)) (mvT hZ (W 24 rfl)) (mvT hZ (W 25 rfl)) (mvT hZ (W 26 rfl)) (by decide) (backOf (W := 0) (rm4 l Z a0 hw [] ((own_mix ((own_mix ((-7046029254386353131 : Int64) ^^^ v0)) ^^^ v1)) ^^^ v2) h0 n0 Z0 ) hZ (W 26 rfl) (W 25 rfl) (by decide) (by decide)) (g := (mkF m 34 #[.val (.ref a1), .val (.ref a2), .val (.int (0 : Int32)), .val (.long (own_mix ((own_mix ((-7046029254386353131 : Int64) ^^^ v0)) ^^^ v1))), .second, .val (.int (2 : Int32))] [(.long ((own_mix ((own_mix ((-7046029254386353131 : Int64) ^^^ v0)) ^^^ v1)) ^^^ v2))])) rfl (by rw [hml]; rfl) (argsL := [(.long ((own_mix ((own_mix ((-7046029254386353131 : Int64) ^^^ v0)) ^^^ v1)) ^^^ v2))]) (rest := []) (lenOf pd_1 rfl) rfl (by show 2 * 0 + _ ≤ _; exact Nat.le_of_eq rfl) (hb hby d3_34) (fun _ _ => ⟨rfl, e91, (by decide : 0 + 0 ≤ _), (by decide : 0 + 0 ≤ _)⟩)
    dsimp only [Pt.U, Pt.locs, Pt.cells, Pt.slots] at X93 l93 y93 z93 st93 hQ93
    subst l93 y93 z93
    obtain ⟨rfl, N93q, e93⟩ := hQ93
    have N93 := Fr.app N89 N93q
    refine own_go st93 ?_
    show own_Run p e below _ T93 (mkF m 37 #[.val (.ref a1), .val (.ref a2), .val (.int (0 : Int32)), .val (.long (own_mix ((own_mix ((-7046029254386353131 : Int64) ^^^ v0)) ^^^ v1))), .second, .val (.int (2 : Int32))] [(.long (own_mix ((own_mix ((own_mix ((-7046029254386353131 : Int64) ^^^ v0)) ^^^ v1)) ^^^ v2)))])
    refine own_go (fun _ k => XS.lstoreN X93.here hx rfl (hb hby d3_37) rfl (l' := #[.val (.ref a1), .val (.ref a2), .val (.int (0 : Int32)), .val (.long (own_mix ((own_mix ((own_mix ((-7046029254386353131 : Int64) ^^^ v0)) ^^^ v1)) ^^^ v2))), .second, .val (.int (2 : Int32))]) rfl k) ?_
    refine own_go (fun _ k => XS.iinc X93.here hx rfl (hb hby d3_38) rfl (l' := #[.val (.ref a1), .val (.ref a2), .val (.int (0 : Int32)), .val (.long (own_mix ((own_mix ((own_mix ((-7046029254386353131 : Int64) ^^^ v0)) ^^^ v1)) ^^^ v2))), .second, .val (.int ((2 : Int32) + (1 : Int32)))]) rfl k) ?_
    show own_Run p e below _ T93 (mkF m 41 #[.val (.ref a1), .val (.ref a2), .val (.int (0 : Int32)), .val (.long (own_mix ((own_mix ((own_mix ((-7046029254386353131 : Int64) ^^^ v0)) ^^^ v1)) ^^^ v2))), .second, .val (.int ((2 : Int32) + (1 : Int32)))] [])
    rw [show ((2 : Int32) + (1 : Int32)) = (3 : Int32) by decide]
    show own_Run p e below _ T93 (mkF m 41 #[.val (.ref a1), .val (.ref a2), .val (.int (0 : Int32)), .val (.long (own_mix ((own_mix ((own_mix ((-7046029254386353131 : Int64) ^^^ v0)) ^^^ v1)) ^^^ v2))), .second, .val (.int (3 : Int32))] [])
    refine own_go (fun _ k => XS.goto X93.here hx rfl (pc0 := 41) (pc' := 12) rfl (hb hby d3_41) (by decide) (by decide) k) ?_
    refine own_go (fun _ k => XS.iload X93.here hx rfl (hb hby d3_12) rfl k) ?_
    refine own_go (fun _ k => XS.iloadN X93.here hx rfl (hb hby d3_14) rfl k) ?_
    refine own_go (fun _ k => XS.aloadN X93.here hx rfl (hb hby d3_15) rfl rfl k) ?_
    show own_Run p e below _ T93 (mkF m 16 #[.val (.ref a1), .val (.ref a2), .val (.int (0 : Int32)), .val (.long (own_mix ((own_mix ((own_mix ((-7046029254386353131 : Int64) ^^^ v0)) ^^^ v1)) ^^^ v2))), .second, .val (.int (3 : Int32))] [(.ref a1), (.int (0 : Int32)), (.int (3 : Int32))])
    obtain ⟨T94, X94, e94, st94⟩ := getF X93 hx hZ hown (host := "") (Or.inl (W 15 rfl)) Via.refl e93 F_rows_a1 (g := (mkF m 16 #[.val (.ref a1), .val (.ref a2), .val (.int (0 : Int32)), .val (.long (own_mix ((own_mix ((own_mix ((-7046029254386353131 : Int64) ^^^ v0)) ^^^ v1)) ^^^ v2))), .second, .val (.int (3 : Int32))] [(.ref a1), (.int (0 : Int32)), (.int (3 : Int32))])) rfl rfl (hb hby d3_16)
    refine own_go st94 ?_
    show own_Run p e below _ T94 (mkF m 19 #[.val (.ref a1), .val (.ref a2), .val (.int (0 : Int32)), .val (.long (own_mix ((own_mix ((own_mix ((-7046029254386353131 : Int64) ^^^ v0)) ^^^ v1)) ^^^ v2))), .second, .val (.int (3 : Int32))] [(.int (3 : Int32)), (.int (0 : Int32)), (.int (3 : Int32))])
    refine own_go (fun _ k => XS.imul X94.here hx rfl (hb hby d3_19) rfl k) ?_
    show own_Run p e below _ T94 (mkF m 20 #[.val (.ref a1), .val (.ref a2), .val (.int (0 : Int32)), .val (.long (own_mix ((own_mix ((own_mix ((-7046029254386353131 : Int64) ^^^ v0)) ^^^ v1)) ^^^ v2))), .second, .val (.int (3 : Int32))] [(.int ((0 : Int32) * (3 : Int32))), (.int (3 : Int32))])
    rw [show ((0 : Int32) * (3 : Int32)) = (0 : Int32) by decide]
    show own_Run p e below _ T94 (mkF m 20 #[.val (.ref a1), .val (.ref a2), .val (.int (0 : Int32)), .val (.long (own_mix ((own_mix ((own_mix ((-7046029254386353131 : Int64) ^^^ v0)) ^^^ v1)) ^^^ v2))), .second, .val (.int (3 : Int32))] [(.int (0 : Int32)), (.int (3 : Int32))])
    refine own_go (fun _ k => XS.aloadN X94.here hx rfl (hb hby d3_20) rfl rfl k) ?_
    show own_Run p e below _ T94 (mkF m 21 #[.val (.ref a1), .val (.ref a2), .val (.int (0 : Int32)), .val (.long (own_mix ((own_mix ((own_mix ((-7046029254386353131 : Int64) ^^^ v0)) ^^^ v1)) ^^^ v2))), .second, .val (.int (3 : Int32))] [(.ref a1), (.int (0 : Int32)), (.int (3 : Int32))])
    obtain ⟨T95, X95, e95, st95⟩ := getF X94 hx hZ hown (host := "") (Or.inl (W 15 rfl)) Via.refl e94 F_rows_a1 (g := (mkF m 21 #[.val (.ref a1), .val (.ref a2), .val (.int (0 : Int32)), .val (.long (own_mix ((own_mix ((own_mix ((-7046029254386353131 : Int64) ^^^ v0)) ^^^ v1)) ^^^ v2))), .second, .val (.int (3 : Int32))] [(.ref a1), (.int (0 : Int32)), (.int (3 : Int32))])) rfl rfl (hb hby d3_21)
    refine own_go st95 ?_
    show own_Run p e below _ T95 (mkF m 24 #[.val (.ref a1), .val (.ref a2), .val (.int (0 : Int32)), .val (.long (own_mix ((own_mix ((own_mix ((-7046029254386353131 : Int64) ^^^ v0)) ^^^ v1)) ^^^ v2))), .second, .val (.int (3 : Int32))] [(.int (3 : Int32)), (.int (0 : Int32)), (.int (3 : Int32))])
    refine own_go (fun _ k => XS.iadd X95.here hx rfl (hb hby d3_24) rfl k) ?_
    show own_Run p e below _ T95 (mkF m 25 #[.val (.ref a1), .val (.ref a2), .val (.int (0 : Int32)), .val (.long (own_mix ((own_mix ((own_mix ((-7046029254386353131 : Int64) ^^^ v0)) ^^^ v1)) ^^^ v2))), .second, .val (.int (3 : Int32))] [(.int ((0 : Int32) + (3 : Int32))), (.int (3 : Int32))])
    rw [show ((0 : Int32) + (3 : Int32)) = (3 : Int32) by decide]
    show own_Run p e below _ T95 (mkF m 25 #[.val (.ref a1), .val (.ref a2), .val (.int (0 : Int32)), .val (.long (own_mix ((own_mix ((own_mix ((-7046029254386353131 : Int64) ^^^ v0)) ^^^ v1)) ^^^ v2))), .second, .val (.int (3 : Int32))] [(.int (3 : Int32)), (.int (3 : Int32))])
    refine own_go (fun _ k => XS.icmpYes X95.here hx rfl (pc0 := 25) (pc' := 44) rfl (hb hby d3_25) rfl (flt (by decide : ¬ ((3 : Int32) < (3 : Int32)))).2.1 (by decide) (by decide) k) ?_
    show own_Run p e below _ T95 (mkF m 44 #[.val (.ref a1), .val (.ref a2), .val (.int (0 : Int32)), .val (.long (own_mix ((own_mix ((own_mix ((-7046029254386353131 : Int64) ^^^ v0)) ^^^ v1)) ^^^ v2))), .second, .val (.int (3 : Int32))] [])
    refine own_go (fun _ k => XS.lloadN X95.here hx rfl (hb hby d3_44) rfl k) ?_
    show own_Run p e below _ T95 (mkF m 45 #[.val (.ref a1), .val (.ref a2), .val (.int (0 : Int32)), .val (.long (own_mix ((own_mix ((own_mix ((-7046029254386353131 : Int64) ^^^ v0)) ^^^ v1)) ^^^ v2))), .second, .val (.int (3 : Int32))] [(.long (own_mix ((own_mix ((own_mix ((-7046029254386353131 : Int64) ^^^ v0)) ^^^ v1)) ^^^ v2)))])
    refine own_done (Q := fun v h L => Q3 Z a1 a2 (0 : Int32) (3 : Int32) kk v0 v1 v2 v3 v4 v5 (own_mix ((own_mix ((own_mix ((-7046029254386353131 : Int64) ^^^ v0)) ^^^ v1)) ^^^ v2)) h0 n0 v h L) (v := (some (.long (own_mix ((own_mix ((own_mix ((-7046029254386353131 : Int64) ^^^ v0)) ^^^ v1)) ^^^ v2))))) X95 (fun h => by rw [hret] at h; cases h) hlk (fun fs hr => own_retL X95 hx hret (hb hby d3_45) hr) ?_ (by decide) (by decide)
    show Q3 Z a1 a2 (0 : Int32) (3 : Int32) kk v0 v1 v2 v3 v4 v5 (own_mix ((own_mix ((own_mix ((-7046029254386353131 : Int64) ^^^ v0)) ^^^ v1)) ^^^ v2)) h0 n0 _ T95.heap _
    rw [e95]
    exact ⟨rfl, N93, rfl⟩
  · show own_Run p e below _ s₁ (mkF m 0 #[.val (.ref a1), .val (.ref a2), .val (.int (1 : Int32)), .unset, .unset, .unset] [])
    refine own_go (X0.ldc2Long hx hown (mvT hZ (W 22 rfl)) (g := (mkF m 0 #[.val (.ref a1), .val (.ref a2), .val (.int (1 : Int32)), .unset, .unset, .unset] [])) rfl (hb hby d3_0)) ?_
    show own_Run p e below _ s₁ (mkF m 3 #[.val (.ref a1), .val (.ref a2), .val (.int (1 : Int32)), .unset, .unset, .unset] [(.long (-7046029254386353131 : Int64))])
    refine own_go (fun _ k => XS.lstoreN X0.here hx rfl (hb hby d3_3) rfl (l' := #[.val (.ref a1), .val (.ref a2), .val (.int (1 : Int32)), .val (.long (-7046029254386353131 : Int64)), .second, .unset]) rfl k) ?_
    refine own_go (fun _ k => XS.iloadN X0.here hx rfl (hb hby d3_4) rfl k) ?_
    refine own_go (fun _ k => XS.aloadN X0.here hx rfl (hb hby d3_5) rfl rfl k) ?_
    show own_Run p e below _ s₁ (mkF m 6 #[.val (.ref a1), .val (.ref a2), .val (.int (1 : Int32)), .val (.long (-7046029254386353131 : Int64)), .second, .unset] [(.ref a1), (.int (1 : Int32))])
    obtain ⟨T96, X96, e96, st96⟩ := getF X0 hx hZ hown (host := "") (Or.inl (W 15 rfl)) Via.refl e0 F_rows_a1 (g := (mkF m 6 #[.val (.ref a1), .val (.ref a2), .val (.int (1 : Int32)), .val (.long (-7046029254386353131 : Int64)), .second, .unset] [(.ref a1), (.int (1 : Int32))])) rfl rfl (hb hby d3_6)
    refine own_go st96 ?_
    show own_Run p e below _ T96 (mkF m 9 #[.val (.ref a1), .val (.ref a2), .val (.int (1 : Int32)), .val (.long (-7046029254386353131 : Int64)), .second, .unset] [(.int (3 : Int32)), (.int (1 : Int32))])
    refine own_go (fun _ k => XS.imul X96.here hx rfl (hb hby d3_9) rfl k) ?_
    show own_Run p e below _ T96 (mkF m 10 #[.val (.ref a1), .val (.ref a2), .val (.int (1 : Int32)), .val (.long (-7046029254386353131 : Int64)), .second, .unset] [(.int ((1 : Int32) * (3 : Int32)))])
    rw [show ((1 : Int32) * (3 : Int32)) = (3 : Int32) by decide]
    show own_Run p e below _ T96 (mkF m 10 #[.val (.ref a1), .val (.ref a2), .val (.int (1 : Int32)), .val (.long (-7046029254386353131 : Int64)), .second, .unset] [(.int (3 : Int32))])
    refine own_go (fun _ k => XS.istore X96.here hx rfl (hb hby d3_10) rfl (l' := #[.val (.ref a1), .val (.ref a2), .val (.int (1 : Int32)), .val (.long (-7046029254386353131 : Int64)), .second, .val (.int (3 : Int32))]) rfl k) ?_
    refine own_go (fun _ k => XS.iload X96.here hx rfl (hb hby d3_12) rfl k) ?_
    refine own_go (fun _ k => XS.iloadN X96.here hx rfl (hb hby d3_14) rfl k) ?_
    refine own_go (fun _ k => XS.aloadN X96.here hx rfl (hb hby d3_15) rfl rfl k) ?_
    show own_Run p e below _ T96 (mkF m 16 #[.val (.ref a1), .val (.ref a2), .val (.int (1 : Int32)), .val (.long (-7046029254386353131 : Int64)), .second, .val (.int (3 : Int32))] [(.ref a1), (.int (1 : Int32)), (.int (3 : Int32))])
    obtain ⟨T97, X97, e97, st97⟩ := getF X96 hx hZ hown (host := "") (Or.inl (W 15 rfl)) Via.refl e96 F_rows_a1 (g := (mkF m 16 #[.val (.ref a1), .val (.ref a2), .val (.int (1 : Int32)), .val (.long (-7046029254386353131 : Int64)), .second, .val (.int (3 : Int32))] [(.ref a1), (.int (1 : Int32)), (.int (3 : Int32))])) rfl rfl (hb hby d3_16)
    refine own_go st97 ?_
    show own_Run p e below _ T97 (mkF m 19 #[.val (.ref a1), .val (.ref a2), .val (.int (1 : Int32)), .val (.long (-7046029254386353131 : Int64)), .second, .val (.int (3 : Int32))] [(.int (3 : Int32)), (.int (1 : Int32)), (.int (3 : Int32))])
    refine own_go (fun _ k => XS.imul X97.here hx rfl (hb hby d3_19) rfl k) ?_
    show own_Run p e below _ T97 (mkF m 20 #[.val (.ref a1), .val (.ref a2), .val (.int (1 : Int32)), .val (.long (-7046029254386353131 : Int64)), .second, .val (.int (3 : Int32))] [(.int ((1 : Int32) * (3 : Int32))), (.int (3 : Int32))])
    rw [show ((1 : Int32) * (3 : Int32)) = (3 : Int32) by decide]
    show own_Run p e below _ T97 (mkF m 20 #[.val (.ref a1), .val (.ref a2), .val (.int (1 : Int32)), .val (.long (-7046029254386353131 : Int64)), .second, .val (.int (3 : Int32))] [(.int (3 : Int32)), (.int (3 : Int32))])
    refine own_go (fun _ k => XS.aloadN X97.here hx rfl (hb hby d3_20) rfl rfl k) ?_
    show own_Run p e below _ T97 (mkF m 21 #[.val (.ref a1), .val (.ref a2), .val (.int (1 : Int32)), .val (.long (-7046029254386353131 : Int64)), .second, .val (.int (3 : Int32))] [(.ref a1), (.int (3 : Int32)), (.int (3 : Int32))])
    obtain ⟨T98, X98, e98, st98⟩ := getF X97 hx hZ hown (host := "") (Or.inl (W 15 rfl)) Via.refl e97 F_rows_a1 (g := (mkF m 21 #[.val (.ref a1), .val (.ref a2), .val (.int (1 : Int32)), .val (.long (-7046029254386353131 : Int64)), .second, .val (.int (3 : Int32))] [(.ref a1), (.int (3 : Int32)), (.int (3 : Int32))])) rfl rfl (hb hby d3_21)
    refine own_go st98 ?_
    show own_Run p e below _ T98 (mkF m 24 #[.val (.ref a1), .val (.ref a2), .val (.int (1 : Int32)), .val (.long (-7046029254386353131 : Int64)), .second, .val (.int (3 : Int32))] [(.int (3 : Int32)), (.int (3 : Int32)), (.int (3 : Int32))])
    refine own_go (fun _ k => XS.iadd X98.here hx rfl (hb hby d3_24) rfl k) ?_
    show own_Run p e below _ T98 (mkF m 25 #[.val (.ref a1), .val (.ref a2), .val (.int (1 : Int32)), .val (.long (-7046029254386353131 : Int64)), .second, .val (.int (3 : Int32))] [(.int ((3 : Int32) + (3 : Int32))), (.int (3 : Int32))])
    rw [show ((3 : Int32) + (3 : Int32)) = (6 : Int32) by decide]
    show own_Run p e below _ T98 (mkF m 25 #[.val (.ref a1), .val (.ref a2), .val (.int (1 : Int32)), .val (.long (-7046029254386353131 : Int64)), .second, .val (.int (3 : Int32))] [(.int (6 : Int32)), (.int (3 : Int32))])
    refine own_go (fun _ k => XS.icmpNo X98.here hx rfl (hb hby d3_25) rfl (tlt (by decide : (3 : Int32) < (6 : Int32))).2.1 k) ?_
    show own_Run p e below _ T98 (mkF m 28 #[.val (.ref a1), .val (.ref a2), .val (.int (1 : Int32)), .val (.long (-7046029254386353131 : Int64)), .second, .val (.int (3 : Int32))] [])
    refine own_go (fun _ k => XS.lloadN X98.here hx rfl (hb hby d3_28) rfl k) ?_
    refine own_go (fun _ k => XS.aloadN X98.here hx rfl (hb hby d3_29) rfl rfl k) ?_
    refine own_go (fun _ k => XS.iload X98.here hx rfl (hb hby d3_30) rfl k) ?_
    show own_Run p e below _ T98 (mkF m 32 #[.val (.ref a1), .val (.ref a2), .val (.int (1 : Int32)), .val (.long (-7046029254386353131 : Int64)), .second, .val (.int (3 : Int32))] [(.int (3 : Int32)), (.ref a2), (.long (-7046029254386353131 : Int64))])
    obtain ⟨cl99, Ar99, q99, S99, N99, H99, G99⟩ := id V_a2
    have hin99 : ¬ ((3 : Int32) < 0 ∨ cl99.slots.size ≤ ((3 : Int32)).toNatClampNeg) := inb_of S99 ⟨by decide, by decide⟩
    refine own_go (X98.laload hx (j := (3 : Int32)) (v := (.long v3)) (by rw [e98]; exact Ar99.1) (State.isArrayOf_alike hZ.alike Ar99.2.1) Ar99.2.2 hin99 (H99.at hin99 rfl) (g := (mkF m 32 #[.val (.ref a1), .val (.ref a2), .val (.int (1 : Int32)), .val (.long (-7046029254386353131 : Int64)), .second, .val (.int (3 : Int32))] [(.int (3 : Int32)), (.ref a2), (.long (-7046029254386353131 : Int64))])) rfl rfl (hb hby d3_32)) ?_
    show own_Run p e below _ T98 (mkF m 33 #[.val (.ref a1), .val (.ref a2), .val (.int (1 : Int32)), .val (.long (-7046029254386353131 : Int64)), .second, .val (.int (3 : Int32))] [(.long v3), (.long (-7046029254386353131 : Int64))])
    refine own_go (fun _ k => XS.lxor X98.here hx rfl (hb hby d3_33) rfl k) ?_
    show own_Run p e below _ T98 (mkF m 34 #[.val (.ref a1), .val (.ref a2), .val (.int (1 : Int32)), .val (.long (-7046029254386353131 : Int64)), .second, .val (.int (3 : Int32))] [(.long ((-7046029254386353131 : Int64) ^^^ v3))])
    obtain ⟨_, _, ⟨T100, L100, k100, n100⟩, -, X100, ⟨Lc100, hQ100, l100, y100, z100⟩, st100⟩ := Jvm.LawKit.callS X98 hx (y := (⟨"com/example/near_duplicate_finder/nearduplicatefinder/ShingleHash", "mix", "(J)J"⟩ : MethodName)) hown (mvT hZ (W 23 rfl)) (mvT hZ (W 24 rfl)) (mvT hZ (W 25 rfl)) (mvT hZ (W 26 rfl)) (by decide) (backOf (W := 0) (rm4 l Z a0 hw [] ((-7046029254386353131 : Int64) ^^^ v3) h0 n0 Z0 ) hZ (W 26 rfl) (W 25 rfl) (by decide) (by decide)) (g := (mkF m 34 #[.val (.ref a1), .val (.ref a2), .val (.int (1 : Int32)), .val (.long (-7046029254386353131 : Int64)), .second, .val (.int (3 : Int32))] [(.long ((-7046029254386353131 : Int64) ^^^ v3))])) rfl (by rw [hml]; rfl) (argsL := [(.long ((-7046029254386353131 : Int64) ^^^ v3))]) (rest := []) (lenOf pd_1 rfl) rfl (by show 2 * 0 + _ ≤ _; exact Nat.le_of_eq rfl) (hb hby d3_34) (fun _ _ => ⟨rfl, e98, (by decide : 0 + 0 ≤ _), (by decide : 0 + 0 ≤ _)⟩)
    dsimp only [Pt.U, Pt.locs, Pt.cells, Pt.slots] at X100 l100 y100 z100 st100 hQ100
    subst l100 y100 z100
    obtain ⟨rfl, N100q, e100⟩ := hQ100
    have N100 := Fr.app N0 N100q
    refine own_go st100 ?_
    show own_Run p e below _ T100 (mkF m 37 #[.val (.ref a1), .val (.ref a2), .val (.int (1 : Int32)), .val (.long (-7046029254386353131 : Int64)), .second, .val (.int (3 : Int32))] [(.long (own_mix ((-7046029254386353131 : Int64) ^^^ v3)))])
    refine own_go (fun _ k => XS.lstoreN X100.here hx rfl (hb hby d3_37) rfl (l' := #[.val (.ref a1), .val (.ref a2), .val (.int (1 : Int32)), .val (.long (own_mix ((-7046029254386353131 : Int64) ^^^ v3))), .second, .val (.int (3 : Int32))]) rfl k) ?_
    refine own_go (fun _ k => XS.iinc X100.here hx rfl (hb hby d3_38) rfl (l' := #[.val (.ref a1), .val (.ref a2), .val (.int (1 : Int32)), .val (.long (own_mix ((-7046029254386353131 : Int64) ^^^ v3))), .second, .val (.int ((3 : Int32) + (1 : Int32)))]) rfl k) ?_
    show own_Run p e below _ T100 (mkF m 41 #[.val (.ref a1), .val (.ref a2), .val (.int (1 : Int32)), .val (.long (own_mix ((-7046029254386353131 : Int64) ^^^ v3))), .second, .val (.int ((3 : Int32) + (1 : Int32)))] [])
    rw [show ((3 : Int32) + (1 : Int32)) = (4 : Int32) by decide]
    show own_Run p e below _ T100 (mkF m 41 #[.val (.ref a1), .val (.ref a2), .val (.int (1 : Int32)), .val (.long (own_mix ((-7046029254386353131 : Int64) ^^^ v3))), .second, .val (.int (4 : Int32))] [])
    refine own_go (fun _ k => XS.goto X100.here hx rfl (pc0 := 41) (pc' := 12) rfl (hb hby d3_41) (by decide) (by decide) k) ?_
    refine own_go (fun _ k => XS.iload X100.here hx rfl (hb hby d3_12) rfl k) ?_
    refine own_go (fun _ k => XS.iloadN X100.here hx rfl (hb hby d3_14) rfl k) ?_
    refine own_go (fun _ k => XS.aloadN X100.here hx rfl (hb hby d3_15) rfl rfl k) ?_
    show own_Run p e below _ T100 (mkF m 16 #[.val (.ref a1), .val (.ref a2), .val (.int (1 : Int32)), .val (.long (own_mix ((-7046029254386353131 : Int64) ^^^ v3))), .second, .val (.int (4 : Int32))] [(.ref a1), (.int (1 : Int32)), (.int (4 : Int32))])
    obtain ⟨T101, X101, e101, st101⟩ := getF X100 hx hZ hown (host := "") (Or.inl (W 15 rfl)) Via.refl e100 F_rows_a1 (g := (mkF m 16 #[.val (.ref a1), .val (.ref a2), .val (.int (1 : Int32)), .val (.long (own_mix ((-7046029254386353131 : Int64) ^^^ v3))), .second, .val (.int (4 : Int32))] [(.ref a1), (.int (1 : Int32)), (.int (4 : Int32))])) rfl rfl (hb hby d3_16)
    refine own_go st101 ?_
    show own_Run p e below _ T101 (mkF m 19 #[.val (.ref a1), .val (.ref a2), .val (.int (1 : Int32)), .val (.long (own_mix ((-7046029254386353131 : Int64) ^^^ v3))), .second, .val (.int (4 : Int32))] [(.int (3 : Int32)), (.int (1 : Int32)), (.int (4 : Int32))])
    refine own_go (fun _ k => XS.imul X101.here hx rfl (hb hby d3_19) rfl k) ?_
    show own_Run p e below _ T101 (mkF m 20 #[.val (.ref a1), .val (.ref a2), .val (.int (1 : Int32)), .val (.long (own_mix ((-7046029254386353131 : Int64) ^^^ v3))), .second, .val (.int (4 : Int32))] [(.int ((1 : Int32) * (3 : Int32))), (.int (4 : Int32))])
    rw [show ((1 : Int32) * (3 : Int32)) = (3 : Int32) by decide]
    show own_Run p e below _ T101 (mkF m 20 #[.val (.ref a1), .val (.ref a2), .val (.int (1 : Int32)), .val (.long (own_mix ((-7046029254386353131 : Int64) ^^^ v3))), .second, .val (.int (4 : Int32))] [(.int (3 : Int32)), (.int (4 : Int32))])
    refine own_go (fun _ k => XS.aloadN X101.here hx rfl (hb hby d3_20) rfl rfl k) ?_
    show own_Run p e below _ T101 (mkF m 21 #[.val (.ref a1), .val (.ref a2), .val (.int (1 : Int32)), .val (.long (own_mix ((-7046029254386353131 : Int64) ^^^ v3))), .second, .val (.int (4 : Int32))] [(.ref a1), (.int (3 : Int32)), (.int (4 : Int32))])
    obtain ⟨T102, X102, e102, st102⟩ := getF X101 hx hZ hown (host := "") (Or.inl (W 15 rfl)) Via.refl e101 F_rows_a1 (g := (mkF m 21 #[.val (.ref a1), .val (.ref a2), .val (.int (1 : Int32)), .val (.long (own_mix ((-7046029254386353131 : Int64) ^^^ v3))), .second, .val (.int (4 : Int32))] [(.ref a1), (.int (3 : Int32)), (.int (4 : Int32))])) rfl rfl (hb hby d3_21)
    refine own_go st102 ?_
    show own_Run p e below _ T102 (mkF m 24 #[.val (.ref a1), .val (.ref a2), .val (.int (1 : Int32)), .val (.long (own_mix ((-7046029254386353131 : Int64) ^^^ v3))), .second, .val (.int (4 : Int32))] [(.int (3 : Int32)), (.int (3 : Int32)), (.int (4 : Int32))])
    refine own_go (fun _ k => XS.iadd X102.here hx rfl (hb hby d3_24) rfl k) ?_
    show own_Run p e below _ T102 (mkF m 25 #[.val (.ref a1), .val (.ref a2), .val (.int (1 : Int32)), .val (.long (own_mix ((-7046029254386353131 : Int64) ^^^ v3))), .second, .val (.int (4 : Int32))] [(.int ((3 : Int32) + (3 : Int32))), (.int (4 : Int32))])
    rw [show ((3 : Int32) + (3 : Int32)) = (6 : Int32) by decide]
    show own_Run p e below _ T102 (mkF m 25 #[.val (.ref a1), .val (.ref a2), .val (.int (1 : Int32)), .val (.long (own_mix ((-7046029254386353131 : Int64) ^^^ v3))), .second, .val (.int (4 : Int32))] [(.int (6 : Int32)), (.int (4 : Int32))])
    refine own_go (fun _ k => XS.icmpNo X102.here hx rfl (hb hby d3_25) rfl (tlt (by decide : (4 : Int32) < (6 : Int32))).2.1 k) ?_
    show own_Run p e below _ T102 (mkF m 28 #[.val (.ref a1), .val (.ref a2), .val (.int (1 : Int32)), .val (.long (own_mix ((-7046029254386353131 : Int64) ^^^ v3))), .second, .val (.int (4 : Int32))] [])
    refine own_go (fun _ k => XS.lloadN X102.here hx rfl (hb hby d3_28) rfl k) ?_
    refine own_go (fun _ k => XS.aloadN X102.here hx rfl (hb hby d3_29) rfl rfl k) ?_
    refine own_go (fun _ k => XS.iload X102.here hx rfl (hb hby d3_30) rfl k) ?_
    show own_Run p e below _ T102 (mkF m 32 #[.val (.ref a1), .val (.ref a2), .val (.int (1 : Int32)), .val (.long (own_mix ((-7046029254386353131 : Int64) ^^^ v3))), .second, .val (.int (4 : Int32))] [(.int (4 : Int32)), (.ref a2), (.long (own_mix ((-7046029254386353131 : Int64) ^^^ v3)))])
    obtain ⟨cl103, Ar103, q103, S103, N103, H103, G103⟩ := id V_a2
    have hin103 : ¬ ((4 : Int32) < 0 ∨ cl103.slots.size ≤ ((4 : Int32)).toNatClampNeg) := inb_of S103 ⟨by decide, by decide⟩
    refine own_go (X102.laload hx (j := (4 : Int32)) (v := (.long v4)) (by rw [e102]; exact Ar103.1) (State.isArrayOf_alike hZ.alike Ar103.2.1) Ar103.2.2 hin103 (H103.at hin103 rfl) (g := (mkF m 32 #[.val (.ref a1), .val (.ref a2), .val (.int (1 : Int32)), .val (.long (own_mix ((-7046029254386353131 : Int64) ^^^ v3))), .second, .val (.int (4 : Int32))] [(.int (4 : Int32)), (.ref a2), (.long (own_mix ((-7046029254386353131 : Int64) ^^^ v3)))])) rfl rfl (hb hby d3_32)) ?_
    show own_Run p e below _ T102 (mkF m 33 #[.val (.ref a1), .val (.ref a2), .val (.int (1 : Int32)), .val (.long (own_mix ((-7046029254386353131 : Int64) ^^^ v3))), .second, .val (.int (4 : Int32))] [(.long v4), (.long (own_mix ((-7046029254386353131 : Int64) ^^^ v3)))])
    refine own_go (fun _ k => XS.lxor X102.here hx rfl (hb hby d3_33) rfl k) ?_
    show own_Run p e below _ T102 (mkF m 34 #[.val (.ref a1), .val (.ref a2), .val (.int (1 : Int32)), .val (.long (own_mix ((-7046029254386353131 : Int64) ^^^ v3))), .second, .val (.int (4 : Int32))] [(.long ((own_mix ((-7046029254386353131 : Int64) ^^^ v3)) ^^^ v4))])
    obtain ⟨_, _, ⟨T104, L104, k104, n104⟩, -, X104, ⟨Lc104, hQ104, l104, y104, z104⟩, st104⟩ := Jvm.LawKit.callS X102 hx (y := (⟨"com/example/near_duplicate_finder/nearduplicatefinder/ShingleHash", "mix", "(J)J"⟩ : MethodName)) hown (mvT hZ (W 23 rfl)) (mvT hZ (W 24 rfl)) (mvT hZ (W 25 rfl)) (mvT hZ (W 26 rfl)) (by decide) (backOf (W := 0) (rm4 l Z a0 hw [] ((own_mix ((-7046029254386353131 : Int64) ^^^ v3)) ^^^ v4) h0 n0 Z0 ) hZ (W 26 rfl) (W 25 rfl) (by decide) (by decide)) (g := (mkF m 34 #[.val (.ref a1), .val (.ref a2), .val (.int (1 : Int32)), .val (.long (own_mix ((-7046029254386353131 : Int64) ^^^ v3))), .second, .val (.int (4 : Int32))] [(.long ((own_mix ((-7046029254386353131 : Int64) ^^^ v3)) ^^^ v4))])) rfl (by rw [hml]; rfl) (argsL := [(.long ((own_mix ((-7046029254386353131 : Int64) ^^^ v3)) ^^^ v4))]) (rest := []) (lenOf pd_1 rfl) rfl (by show 2 * 0 + _ ≤ _; exact Nat.le_of_eq rfl) (hb hby d3_34) (fun _ _ => ⟨rfl, e102, (by decide : 0 + 0 ≤ _), (by decide : 0 + 0 ≤ _)⟩)
    dsimp only [Pt.U, Pt.locs, Pt.cells, Pt.slots] at X104 l104 y104 z104 st104 hQ104
    subst l104 y104 z104
    obtain ⟨rfl, N104q, e104⟩ := hQ104
    have N104 := Fr.app N100 N104q
    refine own_go st104 ?_
    show own_Run p e below _ T104 (mkF m 37 #[.val (.ref a1), .val (.ref a2), .val (.int (1 : Int32)), .val (.long (own_mix ((-7046029254386353131 : Int64) ^^^ v3))), .second, .val (.int (4 : Int32))] [(.long (own_mix ((own_mix ((-7046029254386353131 : Int64) ^^^ v3)) ^^^ v4)))])
    refine own_go (fun _ k => XS.lstoreN X104.here hx rfl (hb hby d3_37) rfl (l' := #[.val (.ref a1), .val (.ref a2), .val (.int (1 : Int32)), .val (.long (own_mix ((own_mix ((-7046029254386353131 : Int64) ^^^ v3)) ^^^ v4))), .second, .val (.int (4 : Int32))]) rfl k) ?_
    refine own_go (fun _ k => XS.iinc X104.here hx rfl (hb hby d3_38) rfl (l' := #[.val (.ref a1), .val (.ref a2), .val (.int (1 : Int32)), .val (.long (own_mix ((own_mix ((-7046029254386353131 : Int64) ^^^ v3)) ^^^ v4))), .second, .val (.int ((4 : Int32) + (1 : Int32)))]) rfl k) ?_
    show own_Run p e below _ T104 (mkF m 41 #[.val (.ref a1), .val (.ref a2), .val (.int (1 : Int32)), .val (.long (own_mix ((own_mix ((-7046029254386353131 : Int64) ^^^ v3)) ^^^ v4))), .second, .val (.int ((4 : Int32) + (1 : Int32)))] [])
    rw [show ((4 : Int32) + (1 : Int32)) = (5 : Int32) by decide]
    show own_Run p e below _ T104 (mkF m 41 #[.val (.ref a1), .val (.ref a2), .val (.int (1 : Int32)), .val (.long (own_mix ((own_mix ((-7046029254386353131 : Int64) ^^^ v3)) ^^^ v4))), .second, .val (.int (5 : Int32))] [])
    refine own_go (fun _ k => XS.goto X104.here hx rfl (pc0 := 41) (pc' := 12) rfl (hb hby d3_41) (by decide) (by decide) k) ?_
    refine own_go (fun _ k => XS.iload X104.here hx rfl (hb hby d3_12) rfl k) ?_
    refine own_go (fun _ k => XS.iloadN X104.here hx rfl (hb hby d3_14) rfl k) ?_
    refine own_go (fun _ k => XS.aloadN X104.here hx rfl (hb hby d3_15) rfl rfl k) ?_
    show own_Run p e below _ T104 (mkF m 16 #[.val (.ref a1), .val (.ref a2), .val (.int (1 : Int32)), .val (.long (own_mix ((own_mix ((-7046029254386353131 : Int64) ^^^ v3)) ^^^ v4))), .second, .val (.int (5 : Int32))] [(.ref a1), (.int (1 : Int32)), (.int (5 : Int32))])
    obtain ⟨T105, X105, e105, st105⟩ := getF X104 hx hZ hown (host := "") (Or.inl (W 15 rfl)) Via.refl e104 F_rows_a1 (g := (mkF m 16 #[.val (.ref a1), .val (.ref a2), .val (.int (1 : Int32)), .val (.long (own_mix ((own_mix ((-7046029254386353131 : Int64) ^^^ v3)) ^^^ v4))), .second, .val (.int (5 : Int32))] [(.ref a1), (.int (1 : Int32)), (.int (5 : Int32))])) rfl rfl (hb hby d3_16)
    refine own_go st105 ?_
    show own_Run p e below _ T105 (mkF m 19 #[.val (.ref a1), .val (.ref a2), .val (.int (1 : Int32)), .val (.long (own_mix ((own_mix ((-7046029254386353131 : Int64) ^^^ v3)) ^^^ v4))), .second, .val (.int (5 : Int32))] [(.int (3 : Int32)), (.int (1 : Int32)), (.int (5 : Int32))])
    refine own_go (fun _ k => XS.imul X105.here hx rfl (hb hby d3_19) rfl k) ?_
    show own_Run p e below _ T105 (mkF m 20 #[.val (.ref a1), .val (.ref a2), .val (.int (1 : Int32)), .val (.long (own_mix ((own_mix ((-7046029254386353131 : Int64) ^^^ v3)) ^^^ v4))), .second, .val (.int (5 : Int32))] [(.int ((1 : Int32) * (3 : Int32))), (.int (5 : Int32))])
    rw [show ((1 : Int32) * (3 : Int32)) = (3 : Int32) by decide]
    show own_Run p e below _ T105 (mkF m 20 #[.val (.ref a1), .val (.ref a2), .val (.int (1 : Int32)), .val (.long (own_mix ((own_mix ((-7046029254386353131 : Int64) ^^^ v3)) ^^^ v4))), .second, .val (.int (5 : Int32))] [(.int (3 : Int32)), (.int (5 : Int32))])
    refine own_go (fun _ k => XS.aloadN X105.here hx rfl (hb hby d3_20) rfl rfl k) ?_
    show own_Run p e below _ T105 (mkF m 21 #[.val (.ref a1), .val (.ref a2), .val (.int (1 : Int32)), .val (.long (own_mix ((own_mix ((-7046029254386353131 : Int64) ^^^ v3)) ^^^ v4))), .second, .val (.int (5 : Int32))] [(.ref a1), (.int (3 : Int32)), (.int (5 : Int32))])
    obtain ⟨T106, X106, e106, st106⟩ := getF X105 hx hZ hown (host := "") (Or.inl (W 15 rfl)) Via.refl e105 F_rows_a1 (g := (mkF m 21 #[.val (.ref a1), .val (.ref a2), .val (.int (1 : Int32)), .val (.long (own_mix ((own_mix ((-7046029254386353131 : Int64) ^^^ v3)) ^^^ v4))), .second, .val (.int (5 : Int32))] [(.ref a1), (.int (3 : Int32)), (.int (5 : Int32))])) rfl rfl (hb hby d3_21)
    refine own_go st106 ?_
    show own_Run p e below _ T106 (mkF m 24 #[.val (.ref a1), .val (.ref a2), .val (.int (1 : Int32)), .val (.long (own_mix ((own_mix ((-7046029254386353131 : Int64) ^^^ v3)) ^^^ v4))), .second, .val (.int (5 : Int32))] [(.int (3 : Int32)), (.int (3 : Int32)), (.int (5 : Int32))])
    refine own_go (fun _ k => XS.iadd X106.here hx rfl (hb hby d3_24) rfl k) ?_
    show own_Run p e below _ T106 (mkF m 25 #[.val (.ref a1), .val (.ref a2), .val (.int (1 : Int32)), .val (.long (own_mix ((own_mix ((-7046029254386353131 : Int64) ^^^ v3)) ^^^ v4))), .second, .val (.int (5 : Int32))] [(.int ((3 : Int32) + (3 : Int32))), (.int (5 : Int32))])
    rw [show ((3 : Int32) + (3 : Int32)) = (6 : Int32) by decide]
    show own_Run p e below _ T106 (mkF m 25 #[.val (.ref a1), .val (.ref a2), .val (.int (1 : Int32)), .val (.long (own_mix ((own_mix ((-7046029254386353131 : Int64) ^^^ v3)) ^^^ v4))), .second, .val (.int (5 : Int32))] [(.int (6 : Int32)), (.int (5 : Int32))])
    refine own_go (fun _ k => XS.icmpNo X106.here hx rfl (hb hby d3_25) rfl (tlt (by decide : (5 : Int32) < (6 : Int32))).2.1 k) ?_
    show own_Run p e below _ T106 (mkF m 28 #[.val (.ref a1), .val (.ref a2), .val (.int (1 : Int32)), .val (.long (own_mix ((own_mix ((-7046029254386353131 : Int64) ^^^ v3)) ^^^ v4))), .second, .val (.int (5 : Int32))] [])
    refine own_go (fun _ k => XS.lloadN X106.here hx rfl (hb hby d3_28) rfl k) ?_
    refine own_go (fun _ k => XS.aloadN X106.here hx rfl (hb hby d3_29) rfl rfl k) ?_
    refine own_go (fun _ k => XS.iload X106.here hx rfl (hb hby d3_30) rfl k) ?_
    show own_Run p e below _ T106 (mkF m 32 #[.val (.ref a1), .val (.ref a2), .val (.int (1 : Int32)), .val (.long (own_mix ((own_mix ((-7046029254386353131 : Int64) ^^^ v3)) ^^^ v4))), .second, .val (.int (5 : Int32))] [(.int (5 : Int32)), (.ref a2), (.long (own_mix ((own_mix ((-7046029254386353131 : Int64) ^^^ v3)) ^^^ v4)))])
    obtain ⟨cl107, Ar107, q107, S107, N107, H107, G107⟩ := id V_a2
    have hin107 : ¬ ((5 : Int32) < 0 ∨ cl107.slots.size ≤ ((5 : Int32)).toNatClampNeg) := inb_of S107 ⟨by decide, by decide⟩
    refine own_go (X106.laload hx (j := (5 : Int32)) (v := (.long v5)) (by rw [e106]; exact Ar107.1) (State.isArrayOf_alike hZ.alike Ar107.2.1) Ar107.2.2 hin107 (H107.at hin107 rfl) (g := (mkF m 32 #[.val (.ref a1), .val (.ref a2), .val (.int (1 : Int32)), .val (.long (own_mix ((own_mix ((-7046029254386353131 : Int64) ^^^ v3)) ^^^ v4))), .second, .val (.int (5 : Int32))] [(.int (5 : Int32)), (.ref a2), (.long (own_mix ((own_mix ((-7046029254386353131 : Int64) ^^^ v3)) ^^^ v4)))])) rfl rfl (hb hby d3_32)) ?_
    show own_Run p e below _ T106 (mkF m 33 #[.val (.ref a1), .val (.ref a2), .val (.int (1 : Int32)), .val (.long (own_mix ((own_mix ((-7046029254386353131 : Int64) ^^^ v3)) ^^^ v4))), .second, .val (.int (5 : Int32))] [(.long v5), (.long (own_mix ((own_mix ((-7046029254386353131 : Int64) ^^^ v3)) ^^^ v4)))])
    refine own_go (fun _ k => XS.lxor X106.here hx rfl (hb hby d3_33) rfl k) ?_
    show own_Run p e below _ T106 (mkF m 34 #[.val (.ref a1), .val (.ref a2), .val (.int (1 : Int32)), .val (.long (own_mix ((own_mix ((-7046029254386353131 : Int64) ^^^ v3)) ^^^ v4))), .second, .val (.int (5 : Int32))] [(.long ((own_mix ((own_mix ((-7046029254386353131 : Int64) ^^^ v3)) ^^^ v4)) ^^^ v5))])
    obtain ⟨_, _, ⟨T108, L108, k108, n108⟩, -, X108, ⟨Lc108, hQ108, l108, y108, z108⟩, st108⟩ := Jvm.LawKit.callS X106 hx (y := (⟨"com/example/near_duplicate_finder/nearduplicatefinder/ShingleHash", "mix", "(J)J"⟩ : MethodName)) hown (mvT hZ (W 23 rfl)) (mvT hZ (W 24 rfl)) (mvT hZ (W 25 rfl)) (mvT hZ (W 26 rfl)) (by decide) (backOf (W := 0) (rm4 l Z a0 hw [] ((own_mix ((own_mix ((-7046029254386353131 : Int64) ^^^ v3)) ^^^ v4)) ^^^ v5) h0 n0 Z0 ) hZ (W 26 rfl) (W 25 rfl) (by decide) (by decide)) (g := (mkF m 34 #[.val (.ref a1), .val (.ref a2), .val (.int (1 : Int32)), .val (.long (own_mix ((own_mix ((-7046029254386353131 : Int64) ^^^ v3)) ^^^ v4))), .second, .val (.int (5 : Int32))] [(.long ((own_mix ((own_mix ((-7046029254386353131 : Int64) ^^^ v3)) ^^^ v4)) ^^^ v5))])) rfl (by rw [hml]; rfl) (argsL := [(.long ((own_mix ((own_mix ((-7046029254386353131 : Int64) ^^^ v3)) ^^^ v4)) ^^^ v5))]) (rest := []) (lenOf pd_1 rfl) rfl (by show 2 * 0 + _ ≤ _; exact Nat.le_of_eq rfl) (hb hby d3_34) (fun _ _ => ⟨rfl, e106, (by decide : 0 + 0 ≤ _), (by decide : 0 + 0 ≤ _)⟩)
    dsimp only [Pt.U, Pt.locs, Pt.cells, Pt.slots] at X108 l108 y108 z108 st108 hQ108
    subst l108 y108 z108
    obtain ⟨rfl, N108q, e108⟩ := hQ108
    have N108 := Fr.app N104 N108q
    refine own_go st108 ?_
    show own_Run p e below _ T108 (mkF m 37 #[.val (.ref a1), .val (.ref a2), .val (.int (1 : Int32)), .val (.long (own_mix ((own_mix ((-7046029254386353131 : Int64) ^^^ v3)) ^^^ v4))), .second, .val (.int (5 : Int32))] [(.long (own_mix ((own_mix ((own_mix ((-7046029254386353131 : Int64) ^^^ v3)) ^^^ v4)) ^^^ v5)))])
    refine own_go (fun _ k => XS.lstoreN X108.here hx rfl (hb hby d3_37) rfl (l' := #[.val (.ref a1), .val (.ref a2), .val (.int (1 : Int32)), .val (.long (own_mix ((own_mix ((own_mix ((-7046029254386353131 : Int64) ^^^ v3)) ^^^ v4)) ^^^ v5))), .second, .val (.int (5 : Int32))]) rfl k) ?_
    refine own_go (fun _ k => XS.iinc X108.here hx rfl (hb hby d3_38) rfl (l' := #[.val (.ref a1), .val (.ref a2), .val (.int (1 : Int32)), .val (.long (own_mix ((own_mix ((own_mix ((-7046029254386353131 : Int64) ^^^ v3)) ^^^ v4)) ^^^ v5))), .second, .val (.int ((5 : Int32) + (1 : Int32)))]) rfl k) ?_
    show own_Run p e below _ T108 (mkF m 41 #[.val (.ref a1), .val (.ref a2), .val (.int (1 : Int32)), .val (.long (own_mix ((own_mix ((own_mix ((-7046029254386353131 : Int64) ^^^ v3)) ^^^ v4)) ^^^ v5))), .second, .val (.int ((5 : Int32) + (1 : Int32)))] [])
    rw [show ((5 : Int32) + (1 : Int32)) = (6 : Int32) by decide]
    show own_Run p e below _ T108 (mkF m 41 #[.val (.ref a1), .val (.ref a2), .val (.int (1 : Int32)), .val (.long (own_mix ((own_mix ((own_mix ((-7046029254386353131 : Int64) ^^^ v3)) ^^^ v4)) ^^^ v5))), .second, .val (.int (6 : Int32))] [])
    refine own_go (fun _ k => XS.goto X108.here hx rfl (pc0 := 41) (pc' := 12) rfl (hb hby d3_41) (by decide) (by decide) k) ?_
    refine own_go (fun _ k => XS.iload X108.here hx rfl (hb hby d3_12) rfl k) ?_
    refine own_go (fun _ k => XS.iloadN X108.here hx rfl (hb hby d3_14) rfl k) ?_
    refine own_go (fun _ k => XS.aloadN X108.here hx rfl (hb hby d3_15) rfl rfl k) ?_
    show own_Run p e below _ T108 (mkF m 16 #[.val (.ref a1), .val (.ref a2), .val (.int (1 : Int32)), .val (.long (own_mix ((own_mix ((own_mix ((-7046029254386353131 : Int64) ^^^ v3)) ^^^ v4)) ^^^ v5))), .second, .val (.int (6 : Int32))] [(.ref a1), (.int (1 : Int32)), (.int (6 : Int32))])
    obtain ⟨T109, X109, e109, st109⟩ := getF X108 hx hZ hown (host := "") (Or.inl (W 15 rfl)) Via.refl e108 F_rows_a1 (g := (mkF m 16 #[.val (.ref a1), .val (.ref a2), .val (.int (1 : Int32)), .val (.long (own_mix ((own_mix ((own_mix ((-7046029254386353131 : Int64) ^^^ v3)) ^^^ v4)) ^^^ v5))), .second, .val (.int (6 : Int32))] [(.ref a1), (.int (1 : Int32)), (.int (6 : Int32))])) rfl rfl (hb hby d3_16)
    refine own_go st109 ?_
    show own_Run p e below _ T109 (mkF m 19 #[.val (.ref a1), .val (.ref a2), .val (.int (1 : Int32)), .val (.long (own_mix ((own_mix ((own_mix ((-7046029254386353131 : Int64) ^^^ v3)) ^^^ v4)) ^^^ v5))), .second, .val (.int (6 : Int32))] [(.int (3 : Int32)), (.int (1 : Int32)), (.int (6 : Int32))])
    refine own_go (fun _ k => XS.imul X109.here hx rfl (hb hby d3_19) rfl k) ?_
    show own_Run p e below _ T109 (mkF m 20 #[.val (.ref a1), .val (.ref a2), .val (.int (1 : Int32)), .val (.long (own_mix ((own_mix ((own_mix ((-7046029254386353131 : Int64) ^^^ v3)) ^^^ v4)) ^^^ v5))), .second, .val (.int (6 : Int32))] [(.int ((1 : Int32) * (3 : Int32))), (.int (6 : Int32))])
    rw [show ((1 : Int32) * (3 : Int32)) = (3 : Int32) by decide]
    show own_Run p e below _ T109 (mkF m 20 #[.val (.ref a1), .val (.ref a2), .val (.int (1 : Int32)), .val (.long (own_mix ((own_mix ((own_mix ((-7046029254386353131 : Int64) ^^^ v3)) ^^^ v4)) ^^^ v5))), .second, .val (.int (6 : Int32))] [(.int (3 : Int32)), (.int (6 : Int32))])
    refine own_go (fun _ k => XS.aloadN X109.here hx rfl (hb hby d3_20) rfl rfl k) ?_
    show own_Run p e below _ T109 (mkF m 21 #[.val (.ref a1), .val (.ref a2), .val (.int (1 : Int32)), .val (.long (own_mix ((own_mix ((own_mix ((-7046029254386353131 : Int64) ^^^ v3)) ^^^ v4)) ^^^ v5))), .second, .val (.int (6 : Int32))] [(.ref a1), (.int (3 : Int32)), (.int (6 : Int32))])
    obtain ⟨T110, X110, e110, st110⟩ := getF X109 hx hZ hown (host := "") (Or.inl (W 15 rfl)) Via.refl e109 F_rows_a1 (g := (mkF m 21 #[.val (.ref a1), .val (.ref a2), .val (.int (1 : Int32)), .val (.long (own_mix ((own_mix ((own_mix ((-7046029254386353131 : Int64) ^^^ v3)) ^^^ v4)) ^^^ v5))), .second, .val (.int (6 : Int32))] [(.ref a1), (.int (3 : Int32)), (.int (6 : Int32))])) rfl rfl (hb hby d3_21)
    refine own_go st110 ?_
    show own_Run p e below _ T110 (mkF m 24 #[.val (.ref a1), .val (.ref a2), .val (.int (1 : Int32)), .val (.long (own_mix ((own_mix ((own_mix ((-7046029254386353131 : Int64) ^^^ v3)) ^^^ v4)) ^^^ v5))), .second, .val (.int (6 : Int32))] [(.int (3 : Int32)), (.int (3 : Int32)), (.int (6 : Int32))])
    refine own_go (fun _ k => XS.iadd X110.here hx rfl (hb hby d3_24) rfl k) ?_
    show own_Run p e below _ T110 (mkF m 25 #[.val (.ref a1), .val (.ref a2), .val (.int (1 : Int32)), .val (.long (own_mix ((own_mix ((own_mix ((-7046029254386353131 : Int64) ^^^ v3)) ^^^ v4)) ^^^ v5))), .second, .val (.int (6 : Int32))] [(.int ((3 : Int32) + (3 : Int32))), (.int (6 : Int32))])
    rw [show ((3 : Int32) + (3 : Int32)) = (6 : Int32) by decide]
    show own_Run p e below _ T110 (mkF m 25 #[.val (.ref a1), .val (.ref a2), .val (.int (1 : Int32)), .val (.long (own_mix ((own_mix ((own_mix ((-7046029254386353131 : Int64) ^^^ v3)) ^^^ v4)) ^^^ v5))), .second, .val (.int (6 : Int32))] [(.int (6 : Int32)), (.int (6 : Int32))])
    refine own_go (fun _ k => XS.icmpYes X110.here hx rfl (pc0 := 25) (pc' := 44) rfl (hb hby d3_25) rfl (flt (by decide : ¬ ((6 : Int32) < (6 : Int32)))).2.1 (by decide) (by decide) k) ?_
    show own_Run p e below _ T110 (mkF m 44 #[.val (.ref a1), .val (.ref a2), .val (.int (1 : Int32)), .val (.long (own_mix ((own_mix ((own_mix ((-7046029254386353131 : Int64) ^^^ v3)) ^^^ v4)) ^^^ v5))), .second, .val (.int (6 : Int32))] [])
    refine own_go (fun _ k => XS.lloadN X110.here hx rfl (hb hby d3_44) rfl k) ?_
    show own_Run p e below _ T110 (mkF m 45 #[.val (.ref a1), .val (.ref a2), .val (.int (1 : Int32)), .val (.long (own_mix ((own_mix ((own_mix ((-7046029254386353131 : Int64) ^^^ v3)) ^^^ v4)) ^^^ v5))), .second, .val (.int (6 : Int32))] [(.long (own_mix ((own_mix ((own_mix ((-7046029254386353131 : Int64) ^^^ v3)) ^^^ v4)) ^^^ v5)))])
    refine own_done (Q := fun v h L => Q3 Z a1 a2 (1 : Int32) (3 : Int32) kk v0 v1 v2 v3 v4 v5 (own_mix ((own_mix ((own_mix ((-7046029254386353131 : Int64) ^^^ v3)) ^^^ v4)) ^^^ v5)) h0 n0 v h L) (v := (some (.long (own_mix ((own_mix ((own_mix ((-7046029254386353131 : Int64) ^^^ v3)) ^^^ v4)) ^^^ v5))))) X110 (fun h => by rw [hret] at h; cases h) hlk (fun fs hr => own_retL X110 hx hret (hb hby d3_45) hr) ?_ (by decide) (by decide)
    show Q3 Z a1 a2 (1 : Int32) (3 : Int32) kk v0 v1 v2 v3 v4 v5 (own_mix ((own_mix ((own_mix ((-7046029254386353131 : Int64) ^^^ v3)) ^^^ v4)) ^^^ v5)) h0 n0 _ T110.heap _
    rw [e110]
    exact ⟨rfl, N108, rfl⟩
theorem pn_0 : plainName "com/example/near_duplicate_finder/nearduplicatefinder/BandingKeyPinLaw" = true := by first | (simp [plainName, overriddenIn]; done) | decide +kernel
theorem ef_0 (m : MethodId) (x0 : Int32) (x1 : Int64) (x2 : Int64) (x3 : Int64) (x4 : Int64) (x5 : Int64) : entryFrame m #[(.int x0), (.long x1), (.long x2), (.long x3), (.long x4), (.long x5)] maxLocals = mkF m 0 #[.val (.int x0), .val (.long x1), .second, .val (.long x2), .second, .val (.long x3), .second, .val (.long x4), .second, .val (.long x5), .second, .unset, .unset, .unset, .unset, .unset, .unset, .unset, .unset, .unset, .unset] [] := by first | (simp [entryFrame, mkF, argsToLocals, Value.category, maxLocals]; done) | rfl
theorem pd_2 : parseMethodDescriptor "(II)V" = some ⟨[.int, .int], none⟩ := by decide +kernel
theorem pd_3 : parseMethodDescriptor "([JI)J" = some ⟨[(.array .long), .int], some .long⟩ := by decide +kernel
def Q0 (Z : State) (p1 : Int32) (q2 : Int64) (q3 : Int64) (q4 : Int64) (q5 : Int64) (q6 : Int64) (h0 : Heap) (n0 : Nat) (v : Option Value) (h : Heap) (L : List Loc) : Prop := v = some (.int (1 : Int32)) ∧ Fr n0 L
set_option maxRecDepth 65536 in
set_option maxHeartbeats 40000000 in
theorem rm0 (l : Launch) (Z : State) (a0 : Array Value) (hw : ∀ d ∈ tables_1, d.before a0 Z = true) (ws : List Jvm.Cond) (p1 : Int32) (q2 : Int64) (q3 : Int64) (q4 : Int64) (q5 : Int64) (q6 : Int64) (h0 : Heap) (n0 : Nat) (Z0 : n0 ≤ h0.size) :
    MetFree l x (head1 (Jvm.Cond.code x code maxLocals ret :: ws) room_1) (fun a U => a = #[(.int p1), (.long q2), (.long q3), (.long q4), (.long q5), (.long q6)] ∧ Z.Warmed39 U.vm ∧ U.heap = h0) (fun _ _ _ _ _ => True) (fun _ U o U' => ∃ v L, o = .returned v ∧ Q0 Z p1 q2 q3 q4 q5 q6 h0 n0 v U'.heap L ∧ FrameEnd U o U' L room_1.cells room_1.slots) := by
  refine MetFree.of_bodySF (plainFor_of_name pn_0) hisR ?_
  intro p e s m args below meth c s₁ Bd hml0 hP hK
  obtain ⟨rfl, hZ, hh⟩ := hP
  have hx := Bd.exec
  have hby := Bd.bytes
  have hml : c.maxLocals = 21 := hml0
  have hown : s.vm.findClass "com/example/near_duplicate_finder/nearduplicatefinder/BandingKeyPinLaw" = some m.cls := findClass_of_methodNamed Bd.named
  have hnm := (name_of_methodNamed Bd.named Bd.method).1
  have hret := Bd.returns
  have hlk : meth.locks = false := BodyLoose.notSynchronized Bd
  have X0 : Stand p l e room_1 s m #[(.int p1), (.long q2), (.long q3), (.long q4), (.long q5), (.long q6)] below meth c s₁ [] 0 0 := Stand.of_body Bd
  have e0 : s₁.heap = h0 := by rw [← hh, Bd.state]; rfl
  have N0 := Fr.nil n0
  have W := fun (k : Nat) {d : Jvm.Cond} (h : tables_1[k]? = some d) => hw d (List.mem_of_getElem? h)
  have K0 : Keep h0 h0 [] := Keep.refl _ _
  refine own_start (ef_0 m p1 q2 q3 q4 q5 q6) ?_
  show own_Run p e below _ s₁ (mkF m 0 #[.val (.int p1), .val (.long q2), .second, .val (.long q3), .second, .val (.long q4), .second, .val (.long q5), .second, .val (.long q6), .second, .unset, .unset, .unset, .unset, .unset, .unset, .unset, .unset, .unset, .unset] [])
  refine own_go (fun _ k => XS.iconst X0.here hx rfl (hb hby at_0) k) ?_
  refine own_go (fun _ k => XS.iloadN X0.here hx rfl (hb hby at_1) rfl k) ?_
  show own_Run p e below _ s₁ (mkF m 2 #[.val (.int p1), .val (.long q2), .second, .val (.long q3), .second, .val (.long q4), .second, .val (.long q5), .second, .val (.long q6), .second, .unset, .unset, .unset, .unset, .unset, .unset, .unset, .unset, .unset, .unset] [(.int p1), (.int (1 : Int32))])
  refine own_go (X0.ldcInt hx hown (mvT hZ (W 0 rfl)) (g := (mkF m 2 #[.val (.int p1), .val (.long q2), .second, .val (.long q3), .second, .val (.long q4), .second, .val (.long q5), .second, .val (.long q6), .second, .unset, .unset, .unset, .unset, .unset, .unset, .unset, .unset, .unset, .unset] [(.int p1), (.int (1 : Int32))])) rfl (hb hby at_2)) ?_
  show own_Run p e below _ s₁ (mkF m 4 #[.val (.int p1), .val (.long q2), .second, .val (.long q3), .second, .val (.long q4), .second, .val (.long q5), .second, .val (.long q6), .second, .unset, .unset, .unset, .unset, .unset, .unset, .unset, .unset, .unset, .unset] [(.int (2147483647 : Int32)), (.int p1), (.int (1 : Int32))])
  refine own_go (fun _ k => XS.iand X0.here hx rfl (hb hby at_4) rfl k) ?_
  refine own_go (fun _ k => XS.iconst X0.here hx rfl (hb hby at_5) k) ?_
  refine own_go (fun _ k => iremM X0 hx rfl (hb hby at_6) rfl (by decide) k) ?_
  refine own_go (fun _ k => XS.iadd X0.here hx rfl (hb hby at_7) rfl k) ?_
  show own_Run p e below _ s₁ (mkF m 8 #[.val (.int p1), .val (.long q2), .second, .val (.long q3), .second, .val (.long q4), .second, .val (.long q5), .second, .val (.long q6), .second, .unset, .unset, .unset, .unset, .unset, .unset, .unset, .unset, .unset, .unset] [(.int ((1 : Int32) + ((p1 &&& (2147483647 : Int32)) % (3 : Int32))))])
  obtain ⟨x11, hx11⟩ : ∃ z, z = ((1 : Int32) + ((p1 &&& (2147483647 : Int32)) % (3 : Int32))) := ⟨_, rfl⟩
  rw [← hx11]
  show own_Run p e below _ s₁ (mkF m 8 #[.val (.int p1), .val (.long q2), .second, .val (.long q3), .second, .val (.long q4), .second, .val (.long q5), .second, .val (.long q6), .second, .unset, .unset, .unset, .unset, .unset, .unset, .unset, .unset, .unset, .unset] [(.int x11)])
  refine own_go (fun _ k => XS.istore X0.here hx rfl (hb hby at_8) rfl (l' := #[.val (.int p1), .val (.long q2), .second, .val (.long q3), .second, .val (.long q4), .second, .val (.long q5), .second, .val (.long q6), .second, .val (.int x11), .unset, .unset, .unset, .unset, .unset, .unset, .unset, .unset, .unset]) rfl k) ?_
  refine own_go (fun _ k => XS.bipush X0.here hx rfl (hb hby at_10) k) ?_
  refine own_go (fun _ k => XS.iload X0.here hx rfl (hb hby at_12) rfl k) ?_
  refine own_go (fun _ k => XS.idiv X0.here hx rfl (hb hby at_14) rfl (own_nzR p1 x11 hx11) k) ?_
  show own_Run p e below _ s₁ (mkF m 15 #[.val (.int p1), .val (.long q2), .second, .val (.long q3), .second, .val (.long q4), .second, .val (.long q5), .second, .val (.long q6), .second, .val (.int x11), .unset, .unset, .unset, .unset, .unset, .unset, .unset, .unset, .unset] [(.int ((6 : Int32) / x11))])
  obtain ⟨x12, hx12⟩ : ∃ z, z = ((6 : Int32) / x11) := ⟨_, rfl⟩
  rw [← hx12]
  show own_Run p e below _ s₁ (mkF m 15 #[.val (.int p1), .val (.long q2), .second, .val (.long q3), .second, .val (.long q4), .second, .val (.long q5), .second, .val (.long q6), .second, .val (.int x11), .unset, .unset, .unset, .unset, .unset, .unset, .unset, .unset, .unset] [(.int x12)])
  refine own_go (fun _ k => XS.istore X0.here hx rfl (hb hby at_15) rfl (l' := #[.val (.int p1), .val (.long q2), .second, .val (.long q3), .second, .val (.long q4), .second, .val (.long q5), .second, .val (.long q6), .second, .val (.int x11), .val (.int x12), .unset, .unset, .unset, .unset, .unset, .unset, .unset, .unset]) rfl k) ?_
  refine own_go (fun _ k => XS.iloadN X0.here hx rfl (hb hby at_17) rfl k) ?_
  refine own_go (fun _ k => XS.iconst X0.here hx rfl (hb hby at_18) k) ?_
  refine own_go (fun _ k => XS.iushr X0.here hx rfl (hb hby at_19) rfl k) ?_
  show own_Run p e below _ s₁ (mkF m 20 #[.val (.int p1), .val (.long q2), .second, .val (.long q3), .second, .val (.long q4), .second, .val (.long q5), .second, .val (.long q6), .second, .val (.int x11), .val (.int x12), .unset, .unset, .unset, .unset, .unset, .unset, .unset, .unset] [(.int ((p1.toUInt32 >>> ((4 : Int32) &&& 31).toUInt32).toInt32))])
  refine own_go (X0.ldcInt hx hown (mvT hZ (W 1 rfl)) (g := (mkF m 20 #[.val (.int p1), .val (.long q2), .second, .val (.long q3), .second, .val (.long q4), .second, .val (.long q5), .second, .val (.long q6), .second, .val (.int x11), .val (.int x12), .unset, .unset, .unset, .unset, .unset, .unset, .unset, .unset] [(.int ((p1.toUInt32 >>> ((4 : Int32) &&& 31).toUInt32).toInt32))])) rfl (hb hby at_20)) ?_
  show own_Run p e below _ s₁ (mkF m 22 #[.val (.int p1), .val (.long q2), .second, .val (.long q3), .second, .val (.long q4), .second, .val (.long q5), .second, .val (.long q6), .second, .val (.int x11), .val (.int x12), .unset, .unset, .unset, .unset, .unset, .unset, .unset, .unset] [(.int (65535 : Int32)), (.int ((p1.toUInt32 >>> ((4 : Int32) &&& 31).toUInt32).toInt32))])
  refine own_go (fun _ k => XS.iand X0.here hx rfl (hb hby at_22) rfl k) ?_
  refine own_go (fun _ k => XS.iload X0.here hx rfl (hb hby at_23) rfl k) ?_
  refine own_go (fun _ k => iremM X0 hx rfl (hb hby at_25) rfl (own_nzB p1 x11 x12 hx11 hx12) k) ?_
  show own_Run p e below _ s₁ (mkF m 26 #[.val (.int p1), .val (.long q2), .second, .val (.long q3), .second, .val (.long q4), .second, .val (.long q5), .second, .val (.long q6), .second, .val (.int x11), .val (.int x12), .unset, .unset, .unset, .unset, .unset, .unset, .unset, .unset] [(.int ((((p1.toUInt32 >>> ((4 : Int32) &&& 31).toUInt32).toInt32) &&& (65535 : Int32)) % x12))])
  obtain ⟨x13, hx13⟩ : ∃ z, z = ((((p1.toUInt32 >>> ((4 : Int32) &&& 31).toUInt32).toInt32) &&& (65535 : Int32)) % x12) := ⟨_, rfl⟩
  rw [← hx13]
  show own_Run p e below _ s₁ (mkF m 26 #[.val (.int p1), .val (.long q2), .second, .val (.long q3), .second, .val (.long q4), .second, .val (.long q5), .second, .val (.long q6), .second, .val (.int x11), .val (.int x12), .unset, .unset, .unset, .unset, .unset, .unset, .unset, .unset] [(.int x13)])
  refine own_go (fun _ k => XS.istore X0.here hx rfl (hb hby at_26) rfl (l' := #[.val (.int p1), .val (.long q2), .second, .val (.long q3), .second, .val (.long q4), .second, .val (.long q5), .second, .val (.long q6), .second, .val (.int x11), .val (.int x12), .val (.int x13), .unset, .unset, .unset, .unset, .unset, .unset, .unset]) rfl k) ?_
  refine own_go (fun _ k => XS.bipush X0.here hx rfl (hb hby at_28) k) ?_
  show own_Run p e below _ s₁ (mkF m 30 #[.val (.int p1), .val (.long q2), .second, .val (.long q3), .second, .val (.long q4), .second, .val (.long q5), .second, .val (.long q6), .second, .val (.int x11), .val (.int x12), .val (.int x13), .unset, .unset, .unset, .unset, .unset, .unset, .unset] [(.int (6 : Int32))])
  obtain ⟨T111, h111, k111, X111, e111, E111, A111, st111⟩ := newP X0 hx hZ (W 2 rfl) e0 (g := (mkF m 30 #[.val (.int p1), .val (.long q2), .second, .val (.long q3), .second, .val (.long q4), .second, .val (.long q5), .second, .val (.long q6), .second, .val (.int x11), .val (.int x12), .val (.int x13), .unset, .unset, .unset, .unset, .unset, .unset, .unset] [(.int (6 : Int32))])) rfl (hb hby at_30) rfl (by decide) (cap := 6) (by decide) (by decide) (by decide) (by decide)
  refine own_go st111 ?_
  obtain ⟨b111, g111⟩ : ∃ z, z = h0.size := ⟨_, rfl⟩
  rw [← g111] at A111
  rw [← g111]
  show own_Run p e below _ T111 (mkF m 32 #[.val (.int p1), .val (.long q2), .second, .val (.long q3), .second, .val (.long q4), .second, .val (.long q5), .second, .val (.long q6), .second, .val (.int x11), .val (.int x12), .val (.int x13), .unset, .unset, .unset, .unset, .unset, .unset, .unset] [(.ref b111)])
  have g_b111 : n0 ≤ b111 := Nat.le_trans Z0 (Nat.le_of_eq g111.symm)
  have sz_b111 : h0.size ≤ b111 := Nat.le_trans K0.1 (Nat.le_of_eq g111.symm)
  have Z0_c112 := Nat.le_trans Z0 E111.1
  have K0_c112 := K0.ext E111
  have V_b111 : Arv Z h111 b111 k111 .long (6 : Int32) [(.long (0 : Int64)), (.long (0 : Int64)), (.long (0 : Int64)), (.long (0 : Int64)), (.long (0 : Int64)), (.long (0 : Int64))] (.long (0 : Int64)) := (Arv.new A111 (by decide)).pad (pad_rep [] (.long (0 : Int64)) 6)
  refine own_go (fun _ k => XS.dup X111.here hx rfl (hb hby at_32) rfl rfl k) ?_
  refine own_go (fun _ k => XS.iconst X111.here hx rfl (hb hby at_33) k) ?_
  refine own_go (fun _ k => XS.lloadN X111.here hx rfl (hb hby at_34) rfl k) ?_
  show own_Run p e below _ T111 (mkF m 35 #[.val (.int p1), .val (.long q2), .second, .val (.long q3), .second, .val (.long q4), .second, .val (.long q5), .second, .val (.long q6), .second, .val (.int x11), .val (.int x12), .val (.int x13), .unset, .unset, .unset, .unset, .unset, .unset, .unset] [(.long q2), (.int (0 : Int32)), (.ref b111), (.ref b111)])
  obtain ⟨cl113, Ar113, q113, S113, N113, H113, G113⟩ := id V_b111
  have hin113 : ¬ ((0 : Int32) < 0 ∨ cl113.slots.size ≤ ((0 : Int32)).toNatClampNeg) := inb_of S113 ⟨by decide, by decide⟩
  obtain ⟨T114, h114, X114, e114, W114, st114⟩ := stJ X111 hx hZ e111 Ar113 (j := (0 : Int32)) hin113 (g := (mkF m 35 #[.val (.int p1), .val (.long q2), .second, .val (.long q3), .second, .val (.long q4), .second, .val (.long q5), .second, .val (.long q6), .second, .val (.int x11), .val (.int x12), .val (.int x13), .unset, .unset, .unset, .unset, .unset, .unset, .unset] [(.long q2), (.int (0 : Int32)), (.ref b111), (.ref b111)])) rfl rfl (hb hby at_35)
  refine own_go st114 ?_
  show own_Run p e below _ T114 (mkF m 36 #[.val (.int p1), .val (.long q2), .second, .val (.long q3), .second, .val (.long q4), .second, .val (.long q5), .second, .val (.long q6), .second, .val (.int x11), .val (.int x12), .val (.int x13), .unset, .unset, .unset, .unset, .unset, .unset, .unset] [(.ref b111)])
  have Z0_c115 := Nat.le_trans Z0_c112 (Keep.of_wr W114).1
  have K0_c115 := K0_c112.wr W114 (Or.inr sz_b111)
  have V_b111_c114 : Arv Z h114 b111 k111 .long (6 : Int32) [(.long q2), (.long (0 : Int64)), (.long (0 : Int64)), (.long (0 : Int64)), (.long (0 : Int64)), (.long (0 : Int64))] (.long (0 : Int64)) := Arv.set Ar113 q113 S113 N113 H113 G113 rfl W114 0 rfl (Nat.le_of_ble_eq_true rfl)
  have N114 := Fr.snoc X114 N0 g_b111
  refine own_go (fun _ k => XS.dup X114.here hx rfl (hb hby at_36) rfl rfl k) ?_
  refine own_go (fun _ k => XS.iconst X114.here hx rfl (hb hby at_37) k) ?_
  refine own_go (fun _ k => XS.lloadN X114.here hx rfl (hb hby at_38) rfl k) ?_
  show own_Run p e below _ T114 (mkF m 39 #[.val (.int p1), .val (.long q2), .second, .val (.long q3), .second, .val (.long q4), .second, .val (.long q5), .second, .val (.long q6), .second, .val (.int x11), .val (.int x12), .val (.int x13), .unset, .unset, .unset, .unset, .unset, .unset, .unset] [(.long q3), (.int (1 : Int32)), (.ref b111), (.ref b111)])
  obtain ⟨cl116, Ar116, q116, S116, N116, H116, G116⟩ := id V_b111_c114
  have hin116 : ¬ ((1 : Int32) < 0 ∨ cl116.slots.size ≤ ((1 : Int32)).toNatClampNeg) := inb_of S116 ⟨by decide, by decide⟩
  obtain ⟨T117, h117, X117, e117, W117, st117⟩ := stJ X114 hx hZ e114 Ar116 (j := (1 : Int32)) hin116 (g := (mkF m 39 #[.val (.int p1), .val (.long q2), .second, .val (.long q3), .second, .val (.long q4), .second, .val (.long q5), .second, .val (.long q6), .second, .val (.int x11), .val (.int x12), .val (.int x13), .unset, .unset, .unset, .unset, .unset, .unset, .unset] [(.long q3), (.int (1 : Int32)), (.ref b111), (.ref b111)])) rfl rfl (hb hby at_39)
  refine own_go st117 ?_
  show own_Run p e below _ T117 (mkF m 40 #[.val (.int p1), .val (.long q2), .second, .val (.long q3), .second, .val (.long q4), .second, .val (.long q5), .second, .val (.long q6), .second, .val (.int x11), .val (.int x12), .val (.int x13), .unset, .unset, .unset, .unset, .unset, .unset, .unset] [(.ref b111)])
  have Z0_c118 := Nat.le_trans Z0_c115 (Keep.of_wr W117).1
  have K0_c118 := K0_c115.wr W117 (Or.inr sz_b111)
  have V_b111_c117 : Arv Z h117 b111 k111 .long (6 : Int32) [(.long q2), (.long q3), (.long (0 : Int64)), (.long (0 : Int64)), (.long (0 : Int64)), (.long (0 : Int64))] (.long (0 : Int64)) := Arv.set Ar116 q116 S116 N116 H116 G116 rfl W117 1 rfl (Nat.le_of_ble_eq_true rfl)
  have N117 := Fr.snoc X117 N114 g_b111
  refine own_go (fun _ k => XS.dup X117.here hx rfl (hb hby at_40) rfl rfl k) ?_
  refine own_go (fun _ k => XS.iconst X117.here hx rfl (hb hby at_41) k) ?_
  refine own_go (fun _ k => XS.lload X117.here hx rfl (hb hby at_42) rfl k) ?_
  show own_Run p e below _ T117 (mkF m 44 #[.val (.int p1), .val (.long q2), .second, .val (.long q3), .second, .val (.long q4), .second, .val (.long q5), .second, .val (.long q6), .second, .val (.int x11), .val (.int x12), .val (.int x13), .unset, .unset, .unset, .unset, .unset, .unset, .unset] [(.long q4), (.int (2 : Int32)), (.ref b111), (.ref b111)])
  obtain ⟨cl119, Ar119, q119, S119, N119, H119, G119⟩ := id V_b111_c117
  have hin119 : ¬ ((2 : Int32) < 0 ∨ cl119.slots.size ≤ ((2 : Int32)).toNatClampNeg) := inb_of S119 ⟨by decide, by decide⟩
  obtain ⟨T120, h120, X120, e120, W120, st120⟩ := stJ X117 hx hZ e117 Ar119 (j := (2 : Int32)) hin119 (g := (mkF m 44 #[.val (.int p1), .val (.long q2), .second, .val (.long q3), .second, .val (.long q4), .second, .val (.long q5), .second, .val (.long q6), .second, .val (.int x11), .val (.int x12), .val (.int x13), .unset, .unset, .unset, .unset, .unset, .unset, .unset] [(.long q4), (.int (2 : Int32)), (.ref b111), (.ref b111)])) rfl rfl (hb hby at_44)
  refine own_go st120 ?_
  show own_Run p e below _ T120 (mkF m 45 #[.val (.int p1), .val (.long q2), .second, .val (.long q3), .second, .val (.long q4), .second, .val (.long q5), .second, .val (.long q6), .second, .val (.int x11), .val (.int x12), .val (.int x13), .unset, .unset, .unset, .unset, .unset, .unset, .unset] [(.ref b111)])
  have Z0_c121 := Nat.le_trans Z0_c118 (Keep.of_wr W120).1
  have K0_c121 := K0_c118.wr W120 (Or.inr sz_b111)
  have V_b111_c120 : Arv Z h120 b111 k111 .long (6 : Int32) [(.long q2), (.long q3), (.long q4), (.long (0 : Int64)), (.long (0 : Int64)), (.long (0 : Int64))] (.long (0 : Int64)) := Arv.set Ar119 q119 S119 N119 H119 G119 rfl W120 2 rfl (Nat.le_of_ble_eq_true rfl)
  have N120 := Fr.snoc X120 N117 g_b111
  refine own_go (fun _ k => XS.dup X120.here hx rfl (hb hby at_45) rfl rfl k) ?_
  refine own_go (fun _ k => XS.iconst X120.here hx rfl (hb hby at_46) k) ?_
  refine own_go (fun _ k => XS.lload X120.here hx rfl (hb hby at_47) rfl k) ?_
  show own_Run p e below _ T120 (mkF m 49 #[.val (.int p1), .val (.long q2), .second, .val (.long q3), .second, .val (.long q4), .second, .val (.long q5), .second, .val (.long q6), .second, .val (.int x11), .val (.int x12), .val (.int x13), .unset, .unset, .unset, .unset, .unset, .unset, .unset] [(.long q5), (.int (3 : Int32)), (.ref b111), (.ref b111)])
  obtain ⟨cl122, Ar122, q122, S122, N122, H122, G122⟩ := id V_b111_c120
  have hin122 : ¬ ((3 : Int32) < 0 ∨ cl122.slots.size ≤ ((3 : Int32)).toNatClampNeg) := inb_of S122 ⟨by decide, by decide⟩
  obtain ⟨T123, h123, X123, e123, W123, st123⟩ := stJ X120 hx hZ e120 Ar122 (j := (3 : Int32)) hin122 (g := (mkF m 49 #[.val (.int p1), .val (.long q2), .second, .val (.long q3), .second, .val (.long q4), .second, .val (.long q5), .second, .val (.long q6), .second, .val (.int x11), .val (.int x12), .val (.int x13), .unset, .unset, .unset, .unset, .unset, .unset, .unset] [(.long q5), (.int (3 : Int32)), (.ref b111), (.ref b111)])) rfl rfl (hb hby at_49)
  refine own_go st123 ?_
  show own_Run p e below _ T123 (mkF m 50 #[.val (.int p1), .val (.long q2), .second, .val (.long q3), .second, .val (.long q4), .second, .val (.long q5), .second, .val (.long q6), .second, .val (.int x11), .val (.int x12), .val (.int x13), .unset, .unset, .unset, .unset, .unset, .unset, .unset] [(.ref b111)])
  have Z0_c124 := Nat.le_trans Z0_c121 (Keep.of_wr W123).1
  have K0_c124 := K0_c121.wr W123 (Or.inr sz_b111)
  have V_b111_c123 : Arv Z h123 b111 k111 .long (6 : Int32) [(.long q2), (.long q3), (.long q4), (.long q5), (.long (0 : Int64)), (.long (0 : Int64))] (.long (0 : Int64)) := Arv.set Ar122 q122 S122 N122 H122 G122 rfl W123 3 rfl (Nat.le_of_ble_eq_true rfl)
  have N123 := Fr.snoc X123 N120 g_b111
  refine own_go (fun _ k => XS.dup X123.here hx rfl (hb hby at_50) rfl rfl k) ?_
  refine own_go (fun _ k => XS.iconst X123.here hx rfl (hb hby at_51) k) ?_
  refine own_go (fun _ k => XS.lload X123.here hx rfl (hb hby at_52) rfl k) ?_
  show own_Run p e below _ T123 (mkF m 54 #[.val (.int p1), .val (.long q2), .second, .val (.long q3), .second, .val (.long q4), .second, .val (.long q5), .second, .val (.long q6), .second, .val (.int x11), .val (.int x12), .val (.int x13), .unset, .unset, .unset, .unset, .unset, .unset, .unset] [(.long q6), (.int (4 : Int32)), (.ref b111), (.ref b111)])
  obtain ⟨cl125, Ar125, q125, S125, N125, H125, G125⟩ := id V_b111_c123
  have hin125 : ¬ ((4 : Int32) < 0 ∨ cl125.slots.size ≤ ((4 : Int32)).toNatClampNeg) := inb_of S125 ⟨by decide, by decide⟩
  obtain ⟨T126, h126, X126, e126, W126, st126⟩ := stJ X123 hx hZ e123 Ar125 (j := (4 : Int32)) hin125 (g := (mkF m 54 #[.val (.int p1), .val (.long q2), .second, .val (.long q3), .second, .val (.long q4), .second, .val (.long q5), .second, .val (.long q6), .second, .val (.int x11), .val (.int x12), .val (.int x13), .unset, .unset, .unset, .unset, .unset, .unset, .unset] [(.long q6), (.int (4 : Int32)), (.ref b111), (.ref b111)])) rfl rfl (hb hby at_54)
  refine own_go st126 ?_
  show own_Run p e below _ T126 (mkF m 55 #[.val (.int p1), .val (.long q2), .second, .val (.long q3), .second, .val (.long q4), .second, .val (.long q5), .second, .val (.long q6), .second, .val (.int x11), .val (.int x12), .val (.int x13), .unset, .unset, .unset, .unset, .unset, .unset, .unset] [(.ref b111)])
  have Z0_c127 := Nat.le_trans Z0_c124 (Keep.of_wr W126).1
  have K0_c127 := K0_c124.wr W126 (Or.inr sz_b111)
  have V_b111_c126 : Arv Z h126 b111 k111 .long (6 : Int32) [(.long q2), (.long q3), (.long q4), (.long q5), (.long q6), (.long (0 : Int64))] (.long (0 : Int64)) := Arv.set Ar125 q125 S125 N125 H125 G125 rfl W126 4 rfl (Nat.le_of_ble_eq_true rfl)
  have N126 := Fr.snoc X126 N123 g_b111
  refine own_go (fun _ k => XS.dup X126.here hx rfl (hb hby at_55) rfl rfl k) ?_
  refine own_go (fun _ k => XS.iconst X126.here hx rfl (hb hby at_56) k) ?_
  refine own_go (fun _ k => XS.lloadN X126.here hx rfl (hb hby at_57) rfl k) ?_
  refine own_go (fun _ k => XS.lload X126.here hx rfl (hb hby at_58) rfl k) ?_
  show own_Run p e below _ T126 (mkF m 60 #[.val (.int p1), .val (.long q2), .second, .val (.long q3), .second, .val (.long q4), .second, .val (.long q5), .second, .val (.long q6), .second, .val (.int x11), .val (.int x12), .val (.int x13), .unset, .unset, .unset, .unset, .unset, .unset, .unset] [(.long q6), (.long q2), (.int (5 : Int32)), (.ref b111), (.ref b111)])
  refine own_go (fun _ k => XS.ladd X126.here hx rfl (hb hby at_60) rfl k) ?_
  show own_Run p e below _ T126 (mkF m 61 #[.val (.int p1), .val (.long q2), .second, .val (.long q3), .second, .val (.long q4), .second, .val (.long q5), .second, .val (.long q6), .second, .val (.int x11), .val (.int x12), .val (.int x13), .unset, .unset, .unset, .unset, .unset, .unset, .unset] [(.long (q2 + q6)), (.int (5 : Int32)), (.ref b111), (.ref b111)])
  obtain ⟨cl128, Ar128, q128, S128, N128, H128, G128⟩ := id V_b111_c126
  have hin128 : ¬ ((5 : Int32) < 0 ∨ cl128.slots.size ≤ ((5 : Int32)).toNatClampNeg) := inb_of S128 ⟨by decide, by decide⟩
  obtain ⟨T129, h129, X129, e129, W129, st129⟩ := stJ X126 hx hZ e126 Ar128 (j := (5 : Int32)) hin128 (g := (mkF m 61 #[.val (.int p1), .val (.long q2), .second, .val (.long q3), .second, .val (.long q4), .second, .val (.long q5), .second, .val (.long q6), .second, .val (.int x11), .val (.int x12), .val (.int x13), .unset, .unset, .unset, .unset, .unset, .unset, .unset] [(.long (q2 + q6)), (.int (5 : Int32)), (.ref b111), (.ref b111)])) rfl rfl (hb hby at_61)
  refine own_go st129 ?_
  show own_Run p e below _ T129 (mkF m 62 #[.val (.int p1), .val (.long q2), .second, .val (.long q3), .second, .val (.long q4), .second, .val (.long q5), .second, .val (.long q6), .second, .val (.int x11), .val (.int x12), .val (.int x13), .unset, .unset, .unset, .unset, .unset, .unset, .unset] [(.ref b111)])
  have Z0_c130 := Nat.le_trans Z0_c127 (Keep.of_wr W129).1
  have K0_c130 := K0_c127.wr W129 (Or.inr sz_b111)
  have V_b111_c129 : Arv Z h129 b111 k111 .long (6 : Int32) [(.long q2), (.long q3), (.long q4), (.long q5), (.long q6), (.long (q2 + q6))] (.long (0 : Int64)) := Arv.set Ar128 q128 S128 N128 H128 G128 rfl W129 5 rfl (Nat.le_of_ble_eq_true rfl)
  have N129 := Fr.snoc X129 N126 g_b111
  refine own_go (fun _ k => XS.astore X129.here hx rfl (hb hby at_62) rfl rfl (l' := #[.val (.int p1), .val (.long q2), .second, .val (.long q3), .second, .val (.long q4), .second, .val (.long q5), .second, .val (.long q6), .second, .val (.int x11), .val (.int x12), .val (.int x13), .val (.ref b111), .unset, .unset, .unset, .unset, .unset, .unset]) rfl k) ?_
  show own_Run p e below _ T129 (mkF m 64 #[.val (.int p1), .val (.long q2), .second, .val (.long q3), .second, .val (.long q4), .second, .val (.long q5), .second, .val (.long q6), .second, .val (.int x11), .val (.int x12), .val (.int x13), .val (.ref b111), .unset, .unset, .unset, .unset, .unset, .unset] [])
  have hcs := own_cases p1 x11 x12 x13 hx11 hx12 hx13
  rcases hcs with ⟨rfl, rfl, (rfl | rfl | rfl | rfl | rfl | rfl)⟩ | ⟨rfl, rfl, (rfl | rfl | rfl)⟩ | ⟨rfl, rfl, (rfl | rfl)⟩
  · show own_Run p e below _ T129 (mkF m 64 #[.val (.int p1), .val (.long q2), .second, .val (.long q3), .second, .val (.long q4), .second, .val (.long q5), .second, .val (.long q6), .second, .val (.int (1 : Int32)), .val (.int (6 : Int32)), .val (.int (0 : Int32)), .val (.ref b111), .unset, .unset, .unset, .unset, .unset, .unset] [])
    obtain ⟨T131, h131, X131, e131, E131, A131, D131, -, st131⟩ := newO X129 hx hZ hown (W 3 rfl) (W 4 rfl) (W 5 rfl) e129 (g := (mkF m 64 #[.val (.int p1), .val (.long q2), .second, .val (.long q3), .second, .val (.long q4), .second, .val (.long q5), .second, .val (.long q6), .second, .val (.int (1 : Int32)), .val (.int (6 : Int32)), .val (.int (0 : Int32)), .val (.ref b111), .unset, .unset, .unset, .unset, .unset, .unset] [])) rfl (hb hby at_64) (by decide) (by decide)
    refine own_go st131 ?_
    obtain ⟨b131, g131⟩ : ∃ z, z = h129.size := ⟨_, rfl⟩
    rw [← g131] at A131 D131
    rw [← g131]
    show own_Run p e below _ T131 (mkF m 67 #[.val (.int p1), .val (.long q2), .second, .val (.long q3), .second, .val (.long q4), .second, .val (.long q5), .second, .val (.long q6), .second, .val (.int (1 : Int32)), .val (.int (6 : Int32)), .val (.int (0 : Int32)), .val (.ref b111), .unset, .unset, .unset, .unset, .unset, .unset] [(.ref b131)])
    have ne_b111_b131 : b111 ≠ b131 := Nat.ne_of_lt (Nat.lt_of_lt_of_eq V_b111_c129.lt g131.symm)
    have g_b131 : n0 ≤ b131 := Nat.le_trans Z0_c130 (Nat.le_of_eq g131.symm)
    have sz_b131 : h0.size ≤ b131 := Nat.le_trans K0_c130.1 (Nat.le_of_eq g131.symm)
    have Z0_c132 := Nat.le_trans Z0_c130 E131.1
    have K0_c132 := K0_c130.ext E131
    have V_b111_c132 := V_b111_c129.ext E131
    have F_bands_b131 : Fld Z h131 b131 "com/example/near_duplicate_finder/nearduplicatefinder/Banding" "bands" "I" (.int (0 : Int32)) := D131 (Or.inr (W 14 rfl)) (ty := .int) (by decide)
    have F_rows_b131 : Fld Z h131 b131 "com/example/near_duplicate_finder/nearduplicatefinder/Banding" "rows" "I" (.int (0 : Int32)) := D131 (Or.inr (W 16 rfl)) (ty := .int) (by decide)
    refine own_go (fun _ k => XS.dup X131.here hx rfl (hb hby at_67) rfl rfl k) ?_
    refine own_go (fun _ k => XS.iload X131.here hx rfl (hb hby at_68) rfl k) ?_
    refine own_go (fun _ k => XS.iload X131.here hx rfl (hb hby at_70) rfl k) ?_
    show own_Run p e below _ T131 (mkF m 72 #[.val (.int p1), .val (.long q2), .second, .val (.long q3), .second, .val (.long q4), .second, .val (.long q5), .second, .val (.long q6), .second, .val (.int (1 : Int32)), .val (.int (6 : Int32)), .val (.int (0 : Int32)), .val (.ref b111), .unset, .unset, .unset, .unset, .unset, .unset] [(.int (1 : Int32)), (.int (6 : Int32)), (.ref b131), (.ref b131)])
    obtain ⟨_, _, ⟨T133, L133, k133, n133⟩, -, X133, ⟨Lc133, hQ133, l133, y133, z133⟩, st133⟩ := X131.specialBack hx (y := (⟨"com/example/near_duplicate_finder/nearduplicatefinder/Banding", "<init>", "(II)V"⟩ : MethodName)) rfl hown (mvT hZ (W 6 rfl)) (mvT hZ (W 7 rfl)) (mvT hZ (W 8 rfl)) (by decide) (backOf (W := 1) (rm1 l Z a0 hw [] b131 (6 : Int32) (1 : Int32) (.int (0 : Int32)) (.int (0 : Int32)) h131 n0 Z0_c132 A131 F_bands_b131 F_rows_b131 g_b131 (by decide) (by decide) (by decide)) hZ (W 8 rfl) (W 5 rfl) (by decide) (by decide)) (g := (mkF m 72 #[.val (.int p1), .val (.long q2), .second, .val (.long q3), .second, .val (.long q4), .second, .val (.long q5), .second, .val (.long q6), .second, .val (.int (1 : Int32)), .val (.int (6 : Int32)), .val (.int (0 : Int32)), .val (.ref b111), .unset, .unset, .unset, .unset, .unset, .unset] [(.int (1 : Int32)), (.int (6 : Int32)), (.ref b131), (.ref b131)])) rfl (by rw [hml]; rfl) (Steps.refl _) (a := b131) (argsL := [(.int (6 : Int32)), (.int (1 : Int32))]) (rest := [(.ref b131)]) (lenOf pd_2 rfl) rfl (by show 2 * 0 + _ ≤ _; exact Nat.le_of_eq rfl) (hb hby at_72) (fun _ _ => ⟨rfl, e131, (by decide : 2 + 0 ≤ _), (by decide : 8 + 0 ≤ _)⟩)
    dsimp only [Pt.U, Pt.locs, Pt.cells, Pt.slots] at X133 l133 y133 z133 st133 hQ133
    subst l133 y133 z133
    obtain ⟨rfl, N133q, K133, P133_0, P133_1⟩ := hQ133
    have N133 := Fr.app N129 N133q
    refine own_goT st133 ?_
    show own_Run p e below _ T133 (mkF m 75 #[.val (.int p1), .val (.long q2), .second, .val (.long q3), .second, .val (.long q4), .second, .val (.long q5), .second, .val (.long q6), .second, .val (.int (1 : Int32)), .val (.int (6 : Int32)), .val (.int (0 : Int32)), .val (.ref b111), .unset, .unset, .unset, .unset, .unset, .unset] [(.ref b131)])
    have Z0_c134 := Nat.le_trans Z0_c132 K133.1
    have K0_c134 := K0_c132.trans K133 (allS (Or.inr sz_b131) all0)
    have V_b111_c134 := V_b111_c132.keep K133 (ninS ne_b111_b131 nin0)
    have A131_c134 := A131.keep K133
    refine own_go (fun _ k => XS.astore X133.here hx rfl (hb hby at_75) rfl rfl (l' := #[.val (.int p1), .val (.long q2), .second, .val (.long q3), .second, .val (.long q4), .second, .val (.long q5), .second, .val (.long q6), .second, .val (.int (1 : Int32)), .val (.int (6 : Int32)), .val (.int (0 : Int32)), .val (.ref b111), .val (.ref b131), .unset, .unset, .unset, .unset, .unset]) rfl k) ?_
    refine own_go (fun _ k => XS.aload X133.here hx rfl (hb hby at_77) rfl rfl k) ?_
    refine own_go (fun _ k => XS.aload X133.here hx rfl (hb hby at_79) rfl rfl k) ?_
    refine own_go (fun _ k => XS.iload X133.here hx rfl (hb hby at_81) rfl k) ?_
    show own_Run p e below _ T133 (mkF m 83 #[.val (.int p1), .val (.long q2), .second, .val (.long q3), .second, .val (.long q4), .second, .val (.long q5), .second, .val (.long q6), .second, .val (.int (1 : Int32)), .val (.int (6 : Int32)), .val (.int (0 : Int32)), .val (.ref b111), .val (.ref b131), .unset, .unset, .unset, .unset, .unset] [(.int (0 : Int32)), (.ref b111), (.ref b131)])
    obtain ⟨cq135, kq135, q135a, q135b, q135c⟩ := isOf hZ rfl P133_0
    obtain ⟨_, _, ⟨T135, L135, k135, n135⟩, -, X135, ⟨Lc135, hQ135, l135, y135, z135⟩, st135⟩ := X133.virtualBack hx (y := (⟨"com/example/near_duplicate_finder/nearduplicatefinder/Banding", "key", "([JI)J"⟩ : MethodName)) (z := (⟨"com/example/near_duplicate_finder/nearduplicatefinder/Banding", "key", "([JI)J"⟩ : MethodName)) hown (mvT hZ (W 17 rfl)) (mvT hZ (W 18 rfl)) (notFace_of_selects (args := #[]) (mvT hZ (W 20 rfl))) (mvT hZ (W 20 rfl)) (mvT hZ (W 19 rfl)) (by decide) (backOf (W := 0) (rm3 l Z a0 hw [] b131 b111 (0 : Int32) (1 : Int32) k111 q2 q3 q4 q5 q6 (q2 + q6) (own_mix ((-7046029254386353131 : Int64) ^^^ q2)) T133.heap n0 Z0_c134 P133_1 V_b111_c134 (Or.inl ⟨rfl, rfl, rfl⟩)) hZ (W 21 rfl) (W 5 rfl) (by decide) (by decide)) q135a q135c (g := (mkF m 83 #[.val (.int p1), .val (.long q2), .second, .val (.long q3), .second, .val (.long q4), .second, .val (.long q5), .second, .val (.long q6), .second, .val (.int (1 : Int32)), .val (.int (6 : Int32)), .val (.int (0 : Int32)), .val (.ref b111), .val (.ref b131), .unset, .unset, .unset, .unset, .unset] [(.int (0 : Int32)), (.ref b111), (.ref b131)])) rfl (by rw [hml]; rfl) (Steps.refl _) (argsL := [(.ref b111), (.int (0 : Int32))]) (rest := []) (lenOf pd_3 rfl) rfl (by show 2 * 0 + _ ≤ _; exact Nat.le_of_eq rfl) (hb hby at_83) (fun _ _ => ⟨rfl, rfl, (by decide : 2 + 0 ≤ _), (by decide : 8 + 0 ≤ _)⟩)
    dsimp only [Pt.U, Pt.locs, Pt.cells, Pt.slots] at X135 l135 y135 z135 st135 hQ135
    subst l135 y135 z135
    obtain ⟨rfl, N135q, e135⟩ := hQ135
    have N135 := Fr.app N133 N135q
    refine own_goT st135 ?_
    show own_Run p e below _ T135 (mkF m 86 #[.val (.int p1), .val (.long q2), .second, .val (.long q3), .second, .val (.long q4), .second, .val (.long q5), .second, .val (.long q6), .second, .val (.int (1 : Int32)), .val (.int (6 : Int32)), .val (.int (0 : Int32)), .val (.ref b111), .val (.ref b131), .unset, .unset, .unset, .unset, .unset] [(.long (own_mix ((-7046029254386353131 : Int64) ^^^ q2)))])
    refine own_go (fun _ k => XS.lstore X135.here hx rfl (hb hby at_86) rfl (l' := #[.val (.int p1), .val (.long q2), .second, .val (.long q3), .second, .val (.long q4), .second, .val (.long q5), .second, .val (.long q6), .second, .val (.int (1 : Int32)), .val (.int (6 : Int32)), .val (.int (0 : Int32)), .val (.ref b111), .val (.ref b131), .val (.long (own_mix ((-7046029254386353131 : Int64) ^^^ q2))), .second, .unset, .unset, .unset]) rfl k) ?_
    refine own_go (fun _ k => XS.iload X135.here hx rfl (hb hby at_88) rfl k) ?_
    refine own_go (fun _ k => XS.iload X135.here hx rfl (hb hby at_90) rfl k) ?_
    refine own_go (fun _ k => XS.imul X135.here hx rfl (hb hby at_92) rfl k) ?_
    show own_Run p e below _ T135 (mkF m 93 #[.val (.int p1), .val (.long q2), .second, .val (.long q3), .second, .val (.long q4), .second, .val (.long q5), .second, .val (.long q6), .second, .val (.int (1 : Int32)), .val (.int (6 : Int32)), .val (.int (0 : Int32)), .val (.ref b111), .val (.ref b131), .val (.long (own_mix ((-7046029254386353131 : Int64) ^^^ q2))), .second, .unset, .unset, .unset] [(.int ((0 : Int32) * (1 : Int32)))])
    rw [show ((0 : Int32) * (1 : Int32)) = (0 : Int32) by decide]
    show own_Run p e below _ T135 (mkF m 93 #[.val (.int p1), .val (.long q2), .second, .val (.long q3), .second, .val (.long q4), .second, .val (.long q5), .second, .val (.long q6), .second, .val (.int (1 : Int32)), .val (.int (6 : Int32)), .val (.int (0 : Int32)), .val (.ref b111), .val (.ref b131), .val (.long (own_mix ((-7046029254386353131 : Int64) ^^^ q2))), .second, .unset, .unset, .unset] [(.int (0 : Int32))])
    refine own_go (fun _ k => XS.istore X135.here hx rfl (hb hby at_93) rfl (l' := #[.val (.int p1), .val (.long q2), .second, .val (.long q3), .second, .val (.long q4), .second, .val (.long q5), .second, .val (.long q6), .second, .val (.int (1 : Int32)), .val (.int (6 : Int32)), .val (.int (0 : Int32)), .val (.ref b111), .val (.ref b131), .val (.long (own_mix ((-7046029254386353131 : Int64) ^^^ q2))), .second, .val (.int (0 : Int32)), .unset, .unset]) rfl k) ?_
    show own_Run p e below _ T135 (mkF m 95 #[.val (.int p1), .val (.long q2), .second, .val (.long q3), .second, .val (.long q4), .second, .val (.long q5), .second, .val (.long q6), .second, .val (.int (1 : Int32)), .val (.int (6 : Int32)), .val (.int (0 : Int32)), .val (.ref b111), .val (.ref b131), .val (.long (own_mix ((-7046029254386353131 : Int64) ^^^ q2))), .second, .val (.int (0 : Int32)), .unset, .unset] [])
    refine own_go (X135.ldc2Long hx hown (mvT hZ (W 29 rfl)) (g := (mkF m 95 #[.val (.int p1), .val (.long q2), .second, .val (.long q3), .second, .val (.long q4), .second, .val (.long q5), .second, .val (.long q6), .second, .val (.int (1 : Int32)), .val (.int (6 : Int32)), .val (.int (0 : Int32)), .val (.ref b111), .val (.ref b131), .val (.long (own_mix ((-7046029254386353131 : Int64) ^^^ q2))), .second, .val (.int (0 : Int32)), .unset, .unset] [])) rfl (hb hby at_95)) ?_
    show own_Run p e below _ T135 (mkF m 98 #[.val (.int p1), .val (.long q2), .second, .val (.long q3), .second, .val (.long q4), .second, .val (.long q5), .second, .val (.long q6), .second, .val (.int (1 : Int32)), .val (.int (6 : Int32)), .val (.int (0 : Int32)), .val (.ref b111), .val (.ref b131), .val (.long (own_mix ((-7046029254386353131 : Int64) ^^^ q2))), .second, .val (.int (0 : Int32)), .unset, .unset] [(.long (-7046029254386353131 : Int64))])
    refine own_go (fun _ k => XS.aload X135.here hx rfl (hb hby at_98) rfl rfl k) ?_
    refine own_go (fun _ k => XS.iload X135.here hx rfl (hb hby at_100) rfl k) ?_
    show own_Run p e below _ T135 (mkF m 102 #[.val (.int p1), .val (.long q2), .second, .val (.long q3), .second, .val (.long q4), .second, .val (.long q5), .second, .val (.long q6), .second, .val (.int (1 : Int32)), .val (.int (6 : Int32)), .val (.int (0 : Int32)), .val (.ref b111), .val (.ref b131), .val (.long (own_mix ((-7046029254386353131 : Int64) ^^^ q2))), .second, .val (.int (0 : Int32)), .unset, .unset] [(.int (0 : Int32)), (.ref b111), (.long (-7046029254386353131 : Int64))])
    obtain ⟨cl136, Ar136, q136, S136, N136, H136, G136⟩ := id V_b111_c134
    have hin136 : ¬ ((0 : Int32) < 0 ∨ cl136.slots.size ≤ ((0 : Int32)).toNatClampNeg) := inb_of S136 ⟨by decide, by decide⟩
    refine own_go (X135.laload hx (j := (0 : Int32)) (v := (.long q2)) (by rw [e135]; exact Ar136.1) (State.isArrayOf_alike hZ.alike Ar136.2.1) Ar136.2.2 hin136 (H136.at hin136 rfl) (g := (mkF m 102 #[.val (.int p1), .val (.long q2), .second, .val (.long q3), .second, .val (.long q4), .second, .val (.long q5), .second, .val (.long q6), .second, .val (.int (1 : Int32)), .val (.int (6 : Int32)), .val (.int (0 : Int32)), .val (.ref b111), .val (.ref b131), .val (.long (own_mix ((-7046029254386353131 : Int64) ^^^ q2))), .second, .val (.int (0 : Int32)), .unset, .unset] [(.int (0 : Int32)), (.ref b111), (.long (-7046029254386353131 : Int64))])) rfl rfl (hb hby at_102)) ?_
    show own_Run p e below _ T135 (mkF m 103 #[.val (.int p1), .val (.long q2), .second, .val (.long q3), .second, .val (.long q4), .second, .val (.long q5), .second, .val (.long q6), .second, .val (.int (1 : Int32)), .val (.int (6 : Int32)), .val (.int (0 : Int32)), .val (.ref b111), .val (.ref b131), .val (.long (own_mix ((-7046029254386353131 : Int64) ^^^ q2))), .second, .val (.int (0 : Int32)), .unset, .unset] [(.long q2), (.long (-7046029254386353131 : Int64))])
    refine own_go (fun _ k => XS.lxor X135.here hx rfl (hb hby at_103) rfl k) ?_
    show own_Run p e below _ T135 (mkF m 104 #[.val (.int p1), .val (.long q2), .second, .val (.long q3), .second, .val (.long q4), .second, .val (.long q5), .second, .val (.long q6), .second, .val (.int (1 : Int32)), .val (.int (6 : Int32)), .val (.int (0 : Int32)), .val (.ref b111), .val (.ref b131), .val (.long (own_mix ((-7046029254386353131 : Int64) ^^^ q2))), .second, .val (.int (0 : Int32)), .unset, .unset] [(.long ((-7046029254386353131 : Int64) ^^^ q2))])
    obtain ⟨_, _, ⟨T137, L137, k137, n137⟩, -, X137, ⟨Lc137, hQ137, l137, y137, z137⟩, st137⟩ := Jvm.LawKit.callS X135 hx (y := (⟨"com/example/near_duplicate_finder/nearduplicatefinder/BandingKeyPinLaw", "mixRef", "(J)J"⟩ : MethodName)) hown (mvT hZ (W 30 rfl)) (mvT hZ (W 31 rfl)) (mvT hZ (W 32 rfl)) (mvT hZ (W 33 rfl)) (by decide) (backOf (W := 0) (rm5 l Z a0 hw [] ((-7046029254386353131 : Int64) ^^^ q2) T133.heap n0 Z0_c134 ) hZ (W 33 rfl) (W 32 rfl) (by decide) (by decide)) (g := (mkF m 104 #[.val (.int p1), .val (.long q2), .second, .val (.long q3), .second, .val (.long q4), .second, .val (.long q5), .second, .val (.long q6), .second, .val (.int (1 : Int32)), .val (.int (6 : Int32)), .val (.int (0 : Int32)), .val (.ref b111), .val (.ref b131), .val (.long (own_mix ((-7046029254386353131 : Int64) ^^^ q2))), .second, .val (.int (0 : Int32)), .unset, .unset] [(.long ((-7046029254386353131 : Int64) ^^^ q2))])) rfl (by rw [hml]; rfl) (argsL := [(.long ((-7046029254386353131 : Int64) ^^^ q2))]) (rest := []) (lenOf pd_1 rfl) rfl (by show 2 * 0 + _ ≤ _; exact Nat.le_of_eq rfl) (hb hby at_104) (fun _ _ => ⟨rfl, e135, (by decide : 2 + 0 ≤ _), (by decide : 8 + 0 ≤ _)⟩)
    dsimp only [Pt.U, Pt.locs, Pt.cells, Pt.slots] at X137 l137 y137 z137 st137 hQ137
    subst l137 y137 z137
    obtain ⟨rfl, N137q, e137⟩ := hQ137
    have N137 := Fr.app N135 N137q
    refine own_go st137 ?_
    show own_Run p e below _ T137 (mkF m 107 #[.val (.int p1), .val (.long q2), .second, .val (.long q3), .second, .val (.long q4), .second, .val (.long q5), .second, .val (.long q6), .second, .val (.int (1 : Int32)), .val (.int (6 : Int32)), .val (.int (0 : Int32)), .val (.ref b111), .val (.ref b131), .val (.long (own_mix ((-7046029254386353131 : Int64) ^^^ q2))), .second, .val (.int (0 : Int32)), .unset, .unset] [(.long (own_mix ((-7046029254386353131 : Int64) ^^^ q2)))])
    refine own_go (fun _ k => XS.lstore X137.here hx rfl (hb hby at_107) rfl (l' := #[.val (.int p1), .val (.long q2), .second, .val (.long q3), .second, .val (.long q4), .second, .val (.long q5), .second, .val (.long q6), .second, .val (.int (1 : Int32)), .val (.int (6 : Int32)), .val (.int (0 : Int32)), .val (.ref b111), .val (.ref b131), .val (.long (own_mix ((-7046029254386353131 : Int64) ^^^ q2))), .second, .val (.int (0 : Int32)), .val (.long (own_mix ((-7046029254386353131 : Int64) ^^^ q2))), .second]) rfl k) ?_
    refine own_go (fun _ k => XS.iload X137.here hx rfl (hb hby at_109) rfl k) ?_
    refine own_go (fun _ k => XS.iconst X137.here hx rfl (hb hby at_111) k) ?_
    show own_Run p e below _ T137 (mkF m 112 #[.val (.int p1), .val (.long q2), .second, .val (.long q3), .second, .val (.long q4), .second, .val (.long q5), .second, .val (.long q6), .second, .val (.int (1 : Int32)), .val (.int (6 : Int32)), .val (.int (0 : Int32)), .val (.ref b111), .val (.ref b131), .val (.long (own_mix ((-7046029254386353131 : Int64) ^^^ q2))), .second, .val (.int (0 : Int32)), .val (.long (own_mix ((-7046029254386353131 : Int64) ^^^ q2))), .second] [(.int (2 : Int32)), (.int (1 : Int32))])
    refine own_go (fun _ k => XS.icmpYes X137.here hx rfl (pc0 := 112) (pc' := 130) rfl (hb hby at_112) rfl (tlt (by decide : (1 : Int32) < (2 : Int32))).1 (by decide) (by decide) k) ?_
    show own_Run p e below _ T137 (mkF m 130 #[.val (.int p1), .val (.long q2), .second, .val (.long q3), .second, .val (.long q4), .second, .val (.long q5), .second, .val (.long q6), .second, .val (.int (1 : Int32)), .val (.int (6 : Int32)), .val (.int (0 : Int32)), .val (.ref b111), .val (.ref b131), .val (.long (own_mix ((-7046029254386353131 : Int64) ^^^ q2))), .second, .val (.int (0 : Int32)), .val (.long (own_mix ((-7046029254386353131 : Int64) ^^^ q2))), .second] [])
    refine own_go (fun _ k => XS.iload X137.here hx rfl (hb hby at_130) rfl k) ?_
    refine own_go (fun _ k => XS.iconst X137.here hx rfl (hb hby at_132) k) ?_
    show own_Run p e below _ T137 (mkF m 133 #[.val (.int p1), .val (.long q2), .second, .val (.long q3), .second, .val (.long q4), .second, .val (.long q5), .second, .val (.long q6), .second, .val (.int (1 : Int32)), .val (.int (6 : Int32)), .val (.int (0 : Int32)), .val (.ref b111), .val (.ref b131), .val (.long (own_mix ((-7046029254386353131 : Int64) ^^^ q2))), .second, .val (.int (0 : Int32)), .val (.long (own_mix ((-7046029254386353131 : Int64) ^^^ q2))), .second] [(.int (3 : Int32)), (.int (1 : Int32))])
    refine own_go (fun _ k => XS.icmpYes X137.here hx rfl (pc0 := 133) (pc' := 151) rfl (hb hby at_133) rfl (tlt (by decide : (1 : Int32) < (3 : Int32))).1 (by decide) (by decide) k) ?_
    show own_Run p e below _ T137 (mkF m 151 #[.val (.int p1), .val (.long q2), .second, .val (.long q3), .second, .val (.long q4), .second, .val (.long q5), .second, .val (.long q6), .second, .val (.int (1 : Int32)), .val (.int (6 : Int32)), .val (.int (0 : Int32)), .val (.ref b111), .val (.ref b131), .val (.long (own_mix ((-7046029254386353131 : Int64) ^^^ q2))), .second, .val (.int (0 : Int32)), .val (.long (own_mix ((-7046029254386353131 : Int64) ^^^ q2))), .second] [])
    refine own_go (fun _ k => XS.lload X137.here hx rfl (hb hby at_151) rfl k) ?_
    refine own_go (fun _ k => XS.lload X137.here hx rfl (hb hby at_153) rfl k) ?_
    refine own_go (fun _ k => XS.lcmp X137.here hx rfl (hb hby at_155) rfl k) ?_
    show own_Run p e below _ T137 (mkF m 156 #[.val (.int p1), .val (.long q2), .second, .val (.long q3), .second, .val (.long q4), .second, .val (.long q5), .second, .val (.long q6), .second, .val (.int (1 : Int32)), .val (.int (6 : Int32)), .val (.int (0 : Int32)), .val (.ref b111), .val (.ref b131), .val (.long (own_mix ((-7046029254386353131 : Int64) ^^^ q2))), .second, .val (.int (0 : Int32)), .val (.long (own_mix ((-7046029254386353131 : Int64) ^^^ q2))), .second] [(.int (lcmpW (own_mix ((-7046029254386353131 : Int64) ^^^ q2)) (own_mix ((-7046029254386353131 : Int64) ^^^ q2))))])
    refine own_go (fun _ k => XS.ifNo X137.here hx rfl (hb hby at_156) rfl (own_lcTe rfl).2 k) ?_
    show own_Run p e below _ T137 (mkF m 159 #[.val (.int p1), .val (.long q2), .second, .val (.long q3), .second, .val (.long q4), .second, .val (.long q5), .second, .val (.long q6), .second, .val (.int (1 : Int32)), .val (.int (6 : Int32)), .val (.int (0 : Int32)), .val (.ref b111), .val (.ref b131), .val (.long (own_mix ((-7046029254386353131 : Int64) ^^^ q2))), .second, .val (.int (0 : Int32)), .val (.long (own_mix ((-7046029254386353131 : Int64) ^^^ q2))), .second] [])
    refine own_go (fun _ k => XS.iconst X137.here hx rfl (hb hby at_159) k) ?_
    refine own_go (fun _ k => XS.goto X137.here hx rfl (pc0 := 160) (pc' := 164) rfl (hb hby at_160) (by decide) (by decide) k) ?_
    show own_Run p e below _ T137 (mkF m 164 #[.val (.int p1), .val (.long q2), .second, .val (.long q3), .second, .val (.long q4), .second, .val (.long q5), .second, .val (.long q6), .second, .val (.int (1 : Int32)), .val (.int (6 : Int32)), .val (.int (0 : Int32)), .val (.ref b111), .val (.ref b131), .val (.long (own_mix ((-7046029254386353131 : Int64) ^^^ q2))), .second, .val (.int (0 : Int32)), .val (.long (own_mix ((-7046029254386353131 : Int64) ^^^ q2))), .second] [(.int (1 : Int32))])
    refine own_done (Q := fun v h L => Q0 Z p1 q2 q3 q4 q5 q6 h0 n0 v h L) (v := (some (.int (1 : Int32)))) X137 (fun h => by rw [hret] at h; cases h) hlk (fun fs hr => retN X137 hx (t := .boolean) hret (by simp) (hb hby at_164) hr) ?_ (by decide) (by decide)
    show Q0 Z p1 q2 q3 q4 q5 q6 h0 n0 _ T137.heap _
    rw [e137]
    exact ⟨rfl, N137⟩
  · show own_Run p e below _ T129 (mkF m 64 #[.val (.int p1), .val (.long q2), .second, .val (.long q3), .second, .val (.long q4), .second, .val (.long q5), .second, .val (.long q6), .second, .val (.int (1 : Int32)), .val (.int (6 : Int32)), .val (.int (1 : Int32)), .val (.ref b111), .unset, .unset, .unset, .unset, .unset, .unset] [])
    obtain ⟨T138, h138, X138, e138, E138, A138, D138, -, st138⟩ := newO X129 hx hZ hown (W 3 rfl) (W 4 rfl) (W 5 rfl) e129 (g := (mkF m 64 #[.val (.int p1), .val (.long q2), .second, .val (.long q3), .second, .val (.long q4), .second, .val (.long q5), .second, .val (.long q6), .second, .val (.int (1 : Int32)), .val (.int (6 : Int32)), .val (.int (1 : Int32)), .val (.ref b111), .unset, .unset, .unset, .unset, .unset, .unset] [])) rfl (hb hby at_64) (by decide) (by decide)
    refine own_go st138 ?_
    obtain ⟨b138, g138⟩ : ∃ z, z = h129.size := ⟨_, rfl⟩
    rw [← g138] at A138 D138
    rw [← g138]
    show own_Run p e below _ T138 (mkF m 67 #[.val (.int p1), .val (.long q2), .second, .val (.long q3), .second, .val (.long q4), .second, .val (.long q5), .second, .val (.long q6), .second, .val (.int (1 : Int32)), .val (.int (6 : Int32)), .val (.int (1 : Int32)), .val (.ref b111), .unset, .unset, .unset, .unset, .unset, .unset] [(.ref b138)])
    have ne_b111_b138 : b111 ≠ b138 := Nat.ne_of_lt (Nat.lt_of_lt_of_eq V_b111_c129.lt g138.symm)
    have g_b138 : n0 ≤ b138 := Nat.le_trans Z0_c130 (Nat.le_of_eq g138.symm)
    have sz_b138 : h0.size ≤ b138 := Nat.le_trans K0_c130.1 (Nat.le_of_eq g138.symm)
    have Z0_c139 := Nat.le_trans Z0_c130 E138.1
    have K0_c139 := K0_c130.ext E138
    have V_b111_c139 := V_b111_c129.ext E138
    have F_bands_b138 : Fld Z h138 b138 "com/example/near_duplicate_finder/nearduplicatefinder/Banding" "bands" "I" (.int (0 : Int32)) := D138 (Or.inr (W 14 rfl)) (ty := .int) (by decide)
    have F_rows_b138 : Fld Z h138 b138 "com/example/near_duplicate_finder/nearduplicatefinder/Banding" "rows" "I" (.int (0 : Int32)) := D138 (Or.inr (W 16 rfl)) (ty := .int) (by decide)
    refine own_go (fun _ k => XS.dup X138.here hx rfl (hb hby at_67) rfl rfl k) ?_
    refine own_go (fun _ k => XS.iload X138.here hx rfl (hb hby at_68) rfl k) ?_
    refine own_go (fun _ k => XS.iload X138.here hx rfl (hb hby at_70) rfl k) ?_
    show own_Run p e below _ T138 (mkF m 72 #[.val (.int p1), .val (.long q2), .second, .val (.long q3), .second, .val (.long q4), .second, .val (.long q5), .second, .val (.long q6), .second, .val (.int (1 : Int32)), .val (.int (6 : Int32)), .val (.int (1 : Int32)), .val (.ref b111), .unset, .unset, .unset, .unset, .unset, .unset] [(.int (1 : Int32)), (.int (6 : Int32)), (.ref b138), (.ref b138)])
    obtain ⟨_, _, ⟨T140, L140, k140, n140⟩, -, X140, ⟨Lc140, hQ140, l140, y140, z140⟩, st140⟩ := X138.specialBack hx (y := (⟨"com/example/near_duplicate_finder/nearduplicatefinder/Banding", "<init>", "(II)V"⟩ : MethodName)) rfl hown (mvT hZ (W 6 rfl)) (mvT hZ (W 7 rfl)) (mvT hZ (W 8 rfl)) (by decide) (backOf (W := 1) (rm1 l Z a0 hw [] b138 (6 : Int32) (1 : Int32) (.int (0 : Int32)) (.int (0 : Int32)) h138 n0 Z0_c139 A138 F_bands_b138 F_rows_b138 g_b138 (by decide) (by decide) (by decide)) hZ (W 8 rfl) (W 5 rfl) (by decide) (by decide)) (g := (mkF m 72 #[.val (.int p1), .val (.long q2), .second, .val (.long q3), .second, .val (.long q4), .second, .val (.long q5), .second, .val (.long q6), .second, .val (.int (1 : Int32)), .val (.int (6 : Int32)), .val (.int (1 : Int32)), .val (.ref b111), .unset, .unset, .unset, .unset, .unset, .unset] [(.int (1 : Int32)), (.int (6 : Int32)), (.ref b138), (.ref b138)])) rfl (by rw [hml]; rfl) (Steps.refl _) (a := b138) (argsL := [(.int (6 : Int32)), (.int (1 : Int32))]) (rest := [(.ref b138)]) (lenOf pd_2 rfl) rfl (by show 2 * 0 + _ ≤ _; exact Nat.le_of_eq rfl) (hb hby at_72) (fun _ _ => ⟨rfl, e138, (by decide : 2 + 0 ≤ _), (by decide : 8 + 0 ≤ _)⟩)
    dsimp only [Pt.U, Pt.locs, Pt.cells, Pt.slots] at X140 l140 y140 z140 st140 hQ140
    subst l140 y140 z140
    obtain ⟨rfl, N140q, K140, P140_0, P140_1⟩ := hQ140
    have N140 := Fr.app N129 N140q
    refine own_goT st140 ?_
    show own_Run p e below _ T140 (mkF m 75 #[.val (.int p1), .val (.long q2), .second, .val (.long q3), .second, .val (.long q4), .second, .val (.long q5), .second, .val (.long q6), .second, .val (.int (1 : Int32)), .val (.int (6 : Int32)), .val (.int (1 : Int32)), .val (.ref b111), .unset, .unset, .unset, .unset, .unset, .unset] [(.ref b138)])
    have Z0_c141 := Nat.le_trans Z0_c139 K140.1
    have K0_c141 := K0_c139.trans K140 (allS (Or.inr sz_b138) all0)
    have V_b111_c141 := V_b111_c139.keep K140 (ninS ne_b111_b138 nin0)
    have A138_c141 := A138.keep K140
    refine own_go (fun _ k => XS.astore X140.here hx rfl (hb hby at_75) rfl rfl (l' := #[.val (.int p1), .val (.long q2), .second, .val (.long q3), .second, .val (.long q4), .second, .val (.long q5), .second, .val (.long q6), .second, .val (.int (1 : Int32)), .val (.int (6 : Int32)), .val (.int (1 : Int32)), .val (.ref b111), .val (.ref b138), .unset, .unset, .unset, .unset, .unset]) rfl k) ?_
    refine own_go (fun _ k => XS.aload X140.here hx rfl (hb hby at_77) rfl rfl k) ?_
    refine own_go (fun _ k => XS.aload X140.here hx rfl (hb hby at_79) rfl rfl k) ?_
    refine own_go (fun _ k => XS.iload X140.here hx rfl (hb hby at_81) rfl k) ?_
    show own_Run p e below _ T140 (mkF m 83 #[.val (.int p1), .val (.long q2), .second, .val (.long q3), .second, .val (.long q4), .second, .val (.long q5), .second, .val (.long q6), .second, .val (.int (1 : Int32)), .val (.int (6 : Int32)), .val (.int (1 : Int32)), .val (.ref b111), .val (.ref b138), .unset, .unset, .unset, .unset, .unset] [(.int (1 : Int32)), (.ref b111), (.ref b138)])
    obtain ⟨cq142, kq142, q142a, q142b, q142c⟩ := isOf hZ rfl P140_0
    obtain ⟨_, _, ⟨T142, L142, k142, n142⟩, -, X142, ⟨Lc142, hQ142, l142, y142, z142⟩, st142⟩ := X140.virtualBack hx (y := (⟨"com/example/near_duplicate_finder/nearduplicatefinder/Banding", "key", "([JI)J"⟩ : MethodName)) (z := (⟨"com/example/near_duplicate_finder/nearduplicatefinder/Banding", "key", "([JI)J"⟩ : MethodName)) hown (mvT hZ (W 17 rfl)) (mvT hZ (W 18 rfl)) (notFace_of_selects (args := #[]) (mvT hZ (W 20 rfl))) (mvT hZ (W 20 rfl)) (mvT hZ (W 19 rfl)) (by decide) (backOf (W := 0) (rm3 l Z a0 hw [] b138 b111 (1 : Int32) (1 : Int32) k111 q2 q3 q4 q5 q6 (q2 + q6) (own_mix ((-7046029254386353131 : Int64) ^^^ q3)) T140.heap n0 Z0_c141 P140_1 V_b111_c141 (Or.inr (Or.inl ⟨rfl, rfl, rfl⟩))) hZ (W 21 rfl) (W 5 rfl) (by decide) (by decide)) q142a q142c (g := (mkF m 83 #[.val (.int p1), .val (.long q2), .second, .val (.long q3), .second, .val (.long q4), .second, .val (.long q5), .second, .val (.long q6), .second, .val (.int (1 : Int32)), .val (.int (6 : Int32)), .val (.int (1 : Int32)), .val (.ref b111), .val (.ref b138), .unset, .unset, .unset, .unset, .unset] [(.int (1 : Int32)), (.ref b111), (.ref b138)])) rfl (by rw [hml]; rfl) (Steps.refl _) (argsL := [(.ref b111), (.int (1 : Int32))]) (rest := []) (lenOf pd_3 rfl) rfl (by show 2 * 0 + _ ≤ _; exact Nat.le_of_eq rfl) (hb hby at_83) (fun _ _ => ⟨rfl, rfl, (by decide : 2 + 0 ≤ _), (by decide : 8 + 0 ≤ _)⟩)
    dsimp only [Pt.U, Pt.locs, Pt.cells, Pt.slots] at X142 l142 y142 z142 st142 hQ142
    subst l142 y142 z142
    obtain ⟨rfl, N142q, e142⟩ := hQ142
    have N142 := Fr.app N140 N142q
    refine own_goT st142 ?_
    show own_Run p e below _ T142 (mkF m 86 #[.val (.int p1), .val (.long q2), .second, .val (.long q3), .second, .val (.long q4), .second, .val (.long q5), .second, .val (.long q6), .second, .val (.int (1 : Int32)), .val (.int (6 : Int32)), .val (.int (1 : Int32)), .val (.ref b111), .val (.ref b138), .unset, .unset, .unset, .unset, .unset] [(.long (own_mix ((-7046029254386353131 : Int64) ^^^ q3)))])
    refine own_go (fun _ k => XS.lstore X142.here hx rfl (hb hby at_86) rfl (l' := #[.val (.int p1), .val (.long q2), .second, .val (.long q3), .second, .val (.long q4), .second, .val (.long q5), .second, .val (.long q6), .second, .val (.int (1 : Int32)), .val (.int (6 : Int32)), .val (.int (1 : Int32)), .val (.ref b111), .val (.ref b138), .val (.long (own_mix ((-7046029254386353131 : Int64) ^^^ q3))), .second, .unset, .unset, .unset]) rfl k) ?_
    refine own_go (fun _ k => XS.iload X142.here hx rfl (hb hby at_88) rfl k) ?_
    refine own_go (fun _ k => XS.iload X142.here hx rfl (hb hby at_90) rfl k) ?_
    refine own_go (fun _ k => XS.imul X142.here hx rfl (hb hby at_92) rfl k) ?_
    show own_Run p e below _ T142 (mkF m 93 #[.val (.int p1), .val (.long q2), .second, .val (.long q3), .second, .val (.long q4), .second, .val (.long q5), .second, .val (.long q6), .second, .val (.int (1 : Int32)), .val (.int (6 : Int32)), .val (.int (1 : Int32)), .val (.ref b111), .val (.ref b138), .val (.long (own_mix ((-7046029254386353131 : Int64) ^^^ q3))), .second, .unset, .unset, .unset] [(.int ((1 : Int32) * (1 : Int32)))])
    rw [show ((1 : Int32) * (1 : Int32)) = (1 : Int32) by decide]
    show own_Run p e below _ T142 (mkF m 93 #[.val (.int p1), .val (.long q2), .second, .val (.long q3), .second, .val (.long q4), .second, .val (.long q5), .second, .val (.long q6), .second, .val (.int (1 : Int32)), .val (.int (6 : Int32)), .val (.int (1 : Int32)), .val (.ref b111), .val (.ref b138), .val (.long (own_mix ((-7046029254386353131 : Int64) ^^^ q3))), .second, .unset, .unset, .unset] [(.int (1 : Int32))])
    refine own_go (fun _ k => XS.istore X142.here hx rfl (hb hby at_93) rfl (l' := #[.val (.int p1), .val (.long q2), .second, .val (.long q3), .second, .val (.long q4), .second, .val (.long q5), .second, .val (.long q6), .second, .val (.int (1 : Int32)), .val (.int (6 : Int32)), .val (.int (1 : Int32)), .val (.ref b111), .val (.ref b138), .val (.long (own_mix ((-7046029254386353131 : Int64) ^^^ q3))), .second, .val (.int (1 : Int32)), .unset, .unset]) rfl k) ?_
    show own_Run p e below _ T142 (mkF m 95 #[.val (.int p1), .val (.long q2), .second, .val (.long q3), .second, .val (.long q4), .second, .val (.long q5), .second, .val (.long q6), .second, .val (.int (1 : Int32)), .val (.int (6 : Int32)), .val (.int (1 : Int32)), .val (.ref b111), .val (.ref b138), .val (.long (own_mix ((-7046029254386353131 : Int64) ^^^ q3))), .second, .val (.int (1 : Int32)), .unset, .unset] [])
    refine own_go (X142.ldc2Long hx hown (mvT hZ (W 29 rfl)) (g := (mkF m 95 #[.val (.int p1), .val (.long q2), .second, .val (.long q3), .second, .val (.long q4), .second, .val (.long q5), .second, .val (.long q6), .second, .val (.int (1 : Int32)), .val (.int (6 : Int32)), .val (.int (1 : Int32)), .val (.ref b111), .val (.ref b138), .val (.long (own_mix ((-7046029254386353131 : Int64) ^^^ q3))), .second, .val (.int (1 : Int32)), .unset, .unset] [])) rfl (hb hby at_95)) ?_
    show own_Run p e below _ T142 (mkF m 98 #[.val (.int p1), .val (.long q2), .second, .val (.long q3), .second, .val (.long q4), .second, .val (.long q5), .second, .val (.long q6), .second, .val (.int (1 : Int32)), .val (.int (6 : Int32)), .val (.int (1 : Int32)), .val (.ref b111), .val (.ref b138), .val (.long (own_mix ((-7046029254386353131 : Int64) ^^^ q3))), .second, .val (.int (1 : Int32)), .unset, .unset] [(.long (-7046029254386353131 : Int64))])
    refine own_go (fun _ k => XS.aload X142.here hx rfl (hb hby at_98) rfl rfl k) ?_
    refine own_go (fun _ k => XS.iload X142.here hx rfl (hb hby at_100) rfl k) ?_
    show own_Run p e below _ T142 (mkF m 102 #[.val (.int p1), .val (.long q2), .second, .val (.long q3), .second, .val (.long q4), .second, .val (.long q5), .second, .val (.long q6), .second, .val (.int (1 : Int32)), .val (.int (6 : Int32)), .val (.int (1 : Int32)), .val (.ref b111), .val (.ref b138), .val (.long (own_mix ((-7046029254386353131 : Int64) ^^^ q3))), .second, .val (.int (1 : Int32)), .unset, .unset] [(.int (1 : Int32)), (.ref b111), (.long (-7046029254386353131 : Int64))])
    obtain ⟨cl143, Ar143, q143, S143, N143, H143, G143⟩ := id V_b111_c141
    have hin143 : ¬ ((1 : Int32) < 0 ∨ cl143.slots.size ≤ ((1 : Int32)).toNatClampNeg) := inb_of S143 ⟨by decide, by decide⟩
    refine own_go (X142.laload hx (j := (1 : Int32)) (v := (.long q3)) (by rw [e142]; exact Ar143.1) (State.isArrayOf_alike hZ.alike Ar143.2.1) Ar143.2.2 hin143 (H143.at hin143 rfl) (g := (mkF m 102 #[.val (.int p1), .val (.long q2), .second, .val (.long q3), .second, .val (.long q4), .second, .val (.long q5), .second, .val (.long q6), .second, .val (.int (1 : Int32)), .val (.int (6 : Int32)), .val (.int (1 : Int32)), .val (.ref b111), .val (.ref b138), .val (.long (own_mix ((-7046029254386353131 : Int64) ^^^ q3))), .second, .val (.int (1 : Int32)), .unset, .unset] [(.int (1 : Int32)), (.ref b111), (.long (-7046029254386353131 : Int64))])) rfl rfl (hb hby at_102)) ?_
    show own_Run p e below _ T142 (mkF m 103 #[.val (.int p1), .val (.long q2), .second, .val (.long q3), .second, .val (.long q4), .second, .val (.long q5), .second, .val (.long q6), .second, .val (.int (1 : Int32)), .val (.int (6 : Int32)), .val (.int (1 : Int32)), .val (.ref b111), .val (.ref b138), .val (.long (own_mix ((-7046029254386353131 : Int64) ^^^ q3))), .second, .val (.int (1 : Int32)), .unset, .unset] [(.long q3), (.long (-7046029254386353131 : Int64))])
    refine own_go (fun _ k => XS.lxor X142.here hx rfl (hb hby at_103) rfl k) ?_
    show own_Run p e below _ T142 (mkF m 104 #[.val (.int p1), .val (.long q2), .second, .val (.long q3), .second, .val (.long q4), .second, .val (.long q5), .second, .val (.long q6), .second, .val (.int (1 : Int32)), .val (.int (6 : Int32)), .val (.int (1 : Int32)), .val (.ref b111), .val (.ref b138), .val (.long (own_mix ((-7046029254386353131 : Int64) ^^^ q3))), .second, .val (.int (1 : Int32)), .unset, .unset] [(.long ((-7046029254386353131 : Int64) ^^^ q3))])
    obtain ⟨_, _, ⟨T144, L144, k144, n144⟩, -, X144, ⟨Lc144, hQ144, l144, y144, z144⟩, st144⟩ := Jvm.LawKit.callS X142 hx (y := (⟨"com/example/near_duplicate_finder/nearduplicatefinder/BandingKeyPinLaw", "mixRef", "(J)J"⟩ : MethodName)) hown (mvT hZ (W 30 rfl)) (mvT hZ (W 31 rfl)) (mvT hZ (W 32 rfl)) (mvT hZ (W 33 rfl)) (by decide) (backOf (W := 0) (rm5 l Z a0 hw [] ((-7046029254386353131 : Int64) ^^^ q3) T140.heap n0 Z0_c141 ) hZ (W 33 rfl) (W 32 rfl) (by decide) (by decide)) (g := (mkF m 104 #[.val (.int p1), .val (.long q2), .second, .val (.long q3), .second, .val (.long q4), .second, .val (.long q5), .second, .val (.long q6), .second, .val (.int (1 : Int32)), .val (.int (6 : Int32)), .val (.int (1 : Int32)), .val (.ref b111), .val (.ref b138), .val (.long (own_mix ((-7046029254386353131 : Int64) ^^^ q3))), .second, .val (.int (1 : Int32)), .unset, .unset] [(.long ((-7046029254386353131 : Int64) ^^^ q3))])) rfl (by rw [hml]; rfl) (argsL := [(.long ((-7046029254386353131 : Int64) ^^^ q3))]) (rest := []) (lenOf pd_1 rfl) rfl (by show 2 * 0 + _ ≤ _; exact Nat.le_of_eq rfl) (hb hby at_104) (fun _ _ => ⟨rfl, e142, (by decide : 2 + 0 ≤ _), (by decide : 8 + 0 ≤ _)⟩)
    dsimp only [Pt.U, Pt.locs, Pt.cells, Pt.slots] at X144 l144 y144 z144 st144 hQ144
    subst l144 y144 z144
    obtain ⟨rfl, N144q, e144⟩ := hQ144
    have N144 := Fr.app N142 N144q
    refine own_go st144 ?_
    show own_Run p e below _ T144 (mkF m 107 #[.val (.int p1), .val (.long q2), .second, .val (.long q3), .second, .val (.long q4), .second, .val (.long q5), .second, .val (.long q6), .second, .val (.int (1 : Int32)), .val (.int (6 : Int32)), .val (.int (1 : Int32)), .val (.ref b111), .val (.ref b138), .val (.long (own_mix ((-7046029254386353131 : Int64) ^^^ q3))), .second, .val (.int (1 : Int32)), .unset, .unset] [(.long (own_mix ((-7046029254386353131 : Int64) ^^^ q3)))])
    refine own_go (fun _ k => XS.lstore X144.here hx rfl (hb hby at_107) rfl (l' := #[.val (.int p1), .val (.long q2), .second, .val (.long q3), .second, .val (.long q4), .second, .val (.long q5), .second, .val (.long q6), .second, .val (.int (1 : Int32)), .val (.int (6 : Int32)), .val (.int (1 : Int32)), .val (.ref b111), .val (.ref b138), .val (.long (own_mix ((-7046029254386353131 : Int64) ^^^ q3))), .second, .val (.int (1 : Int32)), .val (.long (own_mix ((-7046029254386353131 : Int64) ^^^ q3))), .second]) rfl k) ?_
    refine own_go (fun _ k => XS.iload X144.here hx rfl (hb hby at_109) rfl k) ?_
    refine own_go (fun _ k => XS.iconst X144.here hx rfl (hb hby at_111) k) ?_
    show own_Run p e below _ T144 (mkF m 112 #[.val (.int p1), .val (.long q2), .second, .val (.long q3), .second, .val (.long q4), .second, .val (.long q5), .second, .val (.long q6), .second, .val (.int (1 : Int32)), .val (.int (6 : Int32)), .val (.int (1 : Int32)), .val (.ref b111), .val (.ref b138), .val (.long (own_mix ((-7046029254386353131 : Int64) ^^^ q3))), .second, .val (.int (1 : Int32)), .val (.long (own_mix ((-7046029254386353131 : Int64) ^^^ q3))), .second] [(.int (2 : Int32)), (.int (1 : Int32))])
    refine own_go (fun _ k => XS.icmpYes X144.here hx rfl (pc0 := 112) (pc' := 130) rfl (hb hby at_112) rfl (tlt (by decide : (1 : Int32) < (2 : Int32))).1 (by decide) (by decide) k) ?_
    show own_Run p e below _ T144 (mkF m 130 #[.val (.int p1), .val (.long q2), .second, .val (.long q3), .second, .val (.long q4), .second, .val (.long q5), .second, .val (.long q6), .second, .val (.int (1 : Int32)), .val (.int (6 : Int32)), .val (.int (1 : Int32)), .val (.ref b111), .val (.ref b138), .val (.long (own_mix ((-7046029254386353131 : Int64) ^^^ q3))), .second, .val (.int (1 : Int32)), .val (.long (own_mix ((-7046029254386353131 : Int64) ^^^ q3))), .second] [])
    refine own_go (fun _ k => XS.iload X144.here hx rfl (hb hby at_130) rfl k) ?_
    refine own_go (fun _ k => XS.iconst X144.here hx rfl (hb hby at_132) k) ?_
    show own_Run p e below _ T144 (mkF m 133 #[.val (.int p1), .val (.long q2), .second, .val (.long q3), .second, .val (.long q4), .second, .val (.long q5), .second, .val (.long q6), .second, .val (.int (1 : Int32)), .val (.int (6 : Int32)), .val (.int (1 : Int32)), .val (.ref b111), .val (.ref b138), .val (.long (own_mix ((-7046029254386353131 : Int64) ^^^ q3))), .second, .val (.int (1 : Int32)), .val (.long (own_mix ((-7046029254386353131 : Int64) ^^^ q3))), .second] [(.int (3 : Int32)), (.int (1 : Int32))])
    refine own_go (fun _ k => XS.icmpYes X144.here hx rfl (pc0 := 133) (pc' := 151) rfl (hb hby at_133) rfl (tlt (by decide : (1 : Int32) < (3 : Int32))).1 (by decide) (by decide) k) ?_
    show own_Run p e below _ T144 (mkF m 151 #[.val (.int p1), .val (.long q2), .second, .val (.long q3), .second, .val (.long q4), .second, .val (.long q5), .second, .val (.long q6), .second, .val (.int (1 : Int32)), .val (.int (6 : Int32)), .val (.int (1 : Int32)), .val (.ref b111), .val (.ref b138), .val (.long (own_mix ((-7046029254386353131 : Int64) ^^^ q3))), .second, .val (.int (1 : Int32)), .val (.long (own_mix ((-7046029254386353131 : Int64) ^^^ q3))), .second] [])
    refine own_go (fun _ k => XS.lload X144.here hx rfl (hb hby at_151) rfl k) ?_
    refine own_go (fun _ k => XS.lload X144.here hx rfl (hb hby at_153) rfl k) ?_
    refine own_go (fun _ k => XS.lcmp X144.here hx rfl (hb hby at_155) rfl k) ?_
    show own_Run p e below _ T144 (mkF m 156 #[.val (.int p1), .val (.long q2), .second, .val (.long q3), .second, .val (.long q4), .second, .val (.long q5), .second, .val (.long q6), .second, .val (.int (1 : Int32)), .val (.int (6 : Int32)), .val (.int (1 : Int32)), .val (.ref b111), .val (.ref b138), .val (.long (own_mix ((-7046029254386353131 : Int64) ^^^ q3))), .second, .val (.int (1 : Int32)), .val (.long (own_mix ((-7046029254386353131 : Int64) ^^^ q3))), .second] [(.int (lcmpW (own_mix ((-7046029254386353131 : Int64) ^^^ q3)) (own_mix ((-7046029254386353131 : Int64) ^^^ q3))))])
    refine own_go (fun _ k => XS.ifNo X144.here hx rfl (hb hby at_156) rfl (own_lcTe rfl).2 k) ?_
    show own_Run p e below _ T144 (mkF m 159 #[.val (.int p1), .val (.long q2), .second, .val (.long q3), .second, .val (.long q4), .second, .val (.long q5), .second, .val (.long q6), .second, .val (.int (1 : Int32)), .val (.int (6 : Int32)), .val (.int (1 : Int32)), .val (.ref b111), .val (.ref b138), .val (.long (own_mix ((-7046029254386353131 : Int64) ^^^ q3))), .second, .val (.int (1 : Int32)), .val (.long (own_mix ((-7046029254386353131 : Int64) ^^^ q3))), .second] [])
    refine own_go (fun _ k => XS.iconst X144.here hx rfl (hb hby at_159) k) ?_
    refine own_go (fun _ k => XS.goto X144.here hx rfl (pc0 := 160) (pc' := 164) rfl (hb hby at_160) (by decide) (by decide) k) ?_
    show own_Run p e below _ T144 (mkF m 164 #[.val (.int p1), .val (.long q2), .second, .val (.long q3), .second, .val (.long q4), .second, .val (.long q5), .second, .val (.long q6), .second, .val (.int (1 : Int32)), .val (.int (6 : Int32)), .val (.int (1 : Int32)), .val (.ref b111), .val (.ref b138), .val (.long (own_mix ((-7046029254386353131 : Int64) ^^^ q3))), .second, .val (.int (1 : Int32)), .val (.long (own_mix ((-7046029254386353131 : Int64) ^^^ q3))), .second] [(.int (1 : Int32))])
    refine own_done (Q := fun v h L => Q0 Z p1 q2 q3 q4 q5 q6 h0 n0 v h L) (v := (some (.int (1 : Int32)))) X144 (fun h => by rw [hret] at h; cases h) hlk (fun fs hr => retN X144 hx (t := .boolean) hret (by simp) (hb hby at_164) hr) ?_ (by decide) (by decide)
    show Q0 Z p1 q2 q3 q4 q5 q6 h0 n0 _ T144.heap _
    rw [e144]
    exact ⟨rfl, N144⟩
  · show own_Run p e below _ T129 (mkF m 64 #[.val (.int p1), .val (.long q2), .second, .val (.long q3), .second, .val (.long q4), .second, .val (.long q5), .second, .val (.long q6), .second, .val (.int (1 : Int32)), .val (.int (6 : Int32)), .val (.int (2 : Int32)), .val (.ref b111), .unset, .unset, .unset, .unset, .unset, .unset] [])
    obtain ⟨T145, h145, X145, e145, E145, A145, D145, -, st145⟩ := newO X129 hx hZ hown (W 3 rfl) (W 4 rfl) (W 5 rfl) e129 (g := (mkF m 64 #[.val (.int p1), .val (.long q2), .second, .val (.long q3), .second, .val (.long q4), .second, .val (.long q5), .second, .val (.long q6), .second, .val (.int (1 : Int32)), .val (.int (6 : Int32)), .val (.int (2 : Int32)), .val (.ref b111), .unset, .unset, .unset, .unset, .unset, .unset] [])) rfl (hb hby at_64) (by decide) (by decide)
    refine own_go st145 ?_
    obtain ⟨b145, g145⟩ : ∃ z, z = h129.size := ⟨_, rfl⟩
    rw [← g145] at A145 D145
    rw [← g145]
    show own_Run p e below _ T145 (mkF m 67 #[.val (.int p1), .val (.long q2), .second, .val (.long q3), .second, .val (.long q4), .second, .val (.long q5), .second, .val (.long q6), .second, .val (.int (1 : Int32)), .val (.int (6 : Int32)), .val (.int (2 : Int32)), .val (.ref b111), .unset, .unset, .unset, .unset, .unset, .unset] [(.ref b145)])
    have ne_b111_b145 : b111 ≠ b145 := Nat.ne_of_lt (Nat.lt_of_lt_of_eq V_b111_c129.lt g145.symm)
    have g_b145 : n0 ≤ b145 := Nat.le_trans Z0_c130 (Nat.le_of_eq g145.symm)
    have sz_b145 : h0.size ≤ b145 := Nat.le_trans K0_c130.1 (Nat.le_of_eq g145.symm)
    have Z0_c146 := Nat.le_trans Z0_c130 E145.1
    have K0_c146 := K0_c130.ext E145
    have V_b111_c146 := V_b111_c129.ext E145
    have F_bands_b145 : Fld Z h145 b145 "com/example/near_duplicate_finder/nearduplicatefinder/Banding" "bands" "I" (.int (0 : Int32)) := D145 (Or.inr (W 14 rfl)) (ty := .int) (by decide)
    have F_rows_b145 : Fld Z h145 b145 "com/example/near_duplicate_finder/nearduplicatefinder/Banding" "rows" "I" (.int (0 : Int32)) := D145 (Or.inr (W 16 rfl)) (ty := .int) (by decide)
    refine own_go (fun _ k => XS.dup X145.here hx rfl (hb hby at_67) rfl rfl k) ?_
    refine own_go (fun _ k => XS.iload X145.here hx rfl (hb hby at_68) rfl k) ?_
    refine own_go (fun _ k => XS.iload X145.here hx rfl (hb hby at_70) rfl k) ?_
    show own_Run p e below _ T145 (mkF m 72 #[.val (.int p1), .val (.long q2), .second, .val (.long q3), .second, .val (.long q4), .second, .val (.long q5), .second, .val (.long q6), .second, .val (.int (1 : Int32)), .val (.int (6 : Int32)), .val (.int (2 : Int32)), .val (.ref b111), .unset, .unset, .unset, .unset, .unset, .unset] [(.int (1 : Int32)), (.int (6 : Int32)), (.ref b145), (.ref b145)])
    obtain ⟨_, _, ⟨T147, L147, k147, n147⟩, -, X147, ⟨Lc147, hQ147, l147, y147, z147⟩, st147⟩ := X145.specialBack hx (y := (⟨"com/example/near_duplicate_finder/nearduplicatefinder/Banding", "<init>", "(II)V"⟩ : MethodName)) rfl hown (mvT hZ (W 6 rfl)) (mvT hZ (W 7 rfl)) (mvT hZ (W 8 rfl)) (by decide) (backOf (W := 1) (rm1 l Z a0 hw [] b145 (6 : Int32) (1 : Int32) (.int (0 : Int32)) (.int (0 : Int32)) h145 n0 Z0_c146 A145 F_bands_b145 F_rows_b145 g_b145 (by decide) (by decide) (by decide)) hZ (W 8 rfl) (W 5 rfl) (by decide) (by decide)) (g := (mkF m 72 #[.val (.int p1), .val (.long q2), .second, .val (.long q3), .second, .val (.long q4), .second, .val (.long q5), .second, .val (.long q6), .second, .val (.int (1 : Int32)), .val (.int (6 : Int32)), .val (.int (2 : Int32)), .val (.ref b111), .unset, .unset, .unset, .unset, .unset, .unset] [(.int (1 : Int32)), (.int (6 : Int32)), (.ref b145), (.ref b145)])) rfl (by rw [hml]; rfl) (Steps.refl _) (a := b145) (argsL := [(.int (6 : Int32)), (.int (1 : Int32))]) (rest := [(.ref b145)]) (lenOf pd_2 rfl) rfl (by show 2 * 0 + _ ≤ _; exact Nat.le_of_eq rfl) (hb hby at_72) (fun _ _ => ⟨rfl, e145, (by decide : 2 + 0 ≤ _), (by decide : 8 + 0 ≤ _)⟩)
    dsimp only [Pt.U, Pt.locs, Pt.cells, Pt.slots] at X147 l147 y147 z147 st147 hQ147
    subst l147 y147 z147
    obtain ⟨rfl, N147q, K147, P147_0, P147_1⟩ := hQ147
    have N147 := Fr.app N129 N147q
    refine own_goT st147 ?_
    show own_Run p e below _ T147 (mkF m 75 #[.val (.int p1), .val (.long q2), .second, .val (.long q3), .second, .val (.long q4), .second, .val (.long q5), .second, .val (.long q6), .second, .val (.int (1 : Int32)), .val (.int (6 : Int32)), .val (.int (2 : Int32)), .val (.ref b111), .unset, .unset, .unset, .unset, .unset, .unset] [(.ref b145)])
    have Z0_c148 := Nat.le_trans Z0_c146 K147.1
    have K0_c148 := K0_c146.trans K147 (allS (Or.inr sz_b145) all0)
    have V_b111_c148 := V_b111_c146.keep K147 (ninS ne_b111_b145 nin0)
    have A145_c148 := A145.keep K147
    refine own_go (fun _ k => XS.astore X147.here hx rfl (hb hby at_75) rfl rfl (l' := #[.val (.int p1), .val (.long q2), .second, .val (.long q3), .second, .val (.long q4), .second, .val (.long q5), .second, .val (.long q6), .second, .val (.int (1 : Int32)), .val (.int (6 : Int32)), .val (.int (2 : Int32)), .val (.ref b111), .val (.ref b145), .unset, .unset, .unset, .unset, .unset]) rfl k) ?_
    refine own_go (fun _ k => XS.aload X147.here hx rfl (hb hby at_77) rfl rfl k) ?_
    refine own_go (fun _ k => XS.aload X147.here hx rfl (hb hby at_79) rfl rfl k) ?_
    refine own_go (fun _ k => XS.iload X147.here hx rfl (hb hby at_81) rfl k) ?_
    show own_Run p e below _ T147 (mkF m 83 #[.val (.int p1), .val (.long q2), .second, .val (.long q3), .second, .val (.long q4), .second, .val (.long q5), .second, .val (.long q6), .second, .val (.int (1 : Int32)), .val (.int (6 : Int32)), .val (.int (2 : Int32)), .val (.ref b111), .val (.ref b145), .unset, .unset, .unset, .unset, .unset] [(.int (2 : Int32)), (.ref b111), (.ref b145)])
    obtain ⟨cq149, kq149, q149a, q149b, q149c⟩ := isOf hZ rfl P147_0
    obtain ⟨_, _, ⟨T149, L149, k149, n149⟩, -, X149, ⟨Lc149, hQ149, l149, y149, z149⟩, st149⟩ := X147.virtualBack hx (y := (⟨"com/example/near_duplicate_finder/nearduplicatefinder/Banding", "key", "([JI)J"⟩ : MethodName)) (z := (⟨"com/example/near_duplicate_finder/nearduplicatefinder/Banding", "key", "([JI)J"⟩ : MethodName)) hown (mvT hZ (W 17 rfl)) (mvT hZ (W 18 rfl)) (notFace_of_selects (args := #[]) (mvT hZ (W 20 rfl))) (mvT hZ (W 20 rfl)) (mvT hZ (W 19 rfl)) (by decide) (backOf (W := 0) (rm3 l Z a0 hw [] b145 b111 (2 : Int32) (1 : Int32) k111 q2 q3 q4 q5 q6 (q2 + q6) (own_mix ((-7046029254386353131 : Int64) ^^^ q4)) T147.heap n0 Z0_c148 P147_1 V_b111_c148 (Or.inr (Or.inr (Or.inl ⟨rfl, rfl, rfl⟩)))) hZ (W 21 rfl) (W 5 rfl) (by decide) (by decide)) q149a q149c (g := (mkF m 83 #[.val (.int p1), .val (.long q2), .second, .val (.long q3), .second, .val (.long q4), .second, .val (.long q5), .second, .val (.long q6), .second, .val (.int (1 : Int32)), .val (.int (6 : Int32)), .val (.int (2 : Int32)), .val (.ref b111), .val (.ref b145), .unset, .unset, .unset, .unset, .unset] [(.int (2 : Int32)), (.ref b111), (.ref b145)])) rfl (by rw [hml]; rfl) (Steps.refl _) (argsL := [(.ref b111), (.int (2 : Int32))]) (rest := []) (lenOf pd_3 rfl) rfl (by show 2 * 0 + _ ≤ _; exact Nat.le_of_eq rfl) (hb hby at_83) (fun _ _ => ⟨rfl, rfl, (by decide : 2 + 0 ≤ _), (by decide : 8 + 0 ≤ _)⟩)
    dsimp only [Pt.U, Pt.locs, Pt.cells, Pt.slots] at X149 l149 y149 z149 st149 hQ149
    subst l149 y149 z149
    obtain ⟨rfl, N149q, e149⟩ := hQ149
    have N149 := Fr.app N147 N149q
    refine own_goT st149 ?_
    show own_Run p e below _ T149 (mkF m 86 #[.val (.int p1), .val (.long q2), .second, .val (.long q3), .second, .val (.long q4), .second, .val (.long q5), .second, .val (.long q6), .second, .val (.int (1 : Int32)), .val (.int (6 : Int32)), .val (.int (2 : Int32)), .val (.ref b111), .val (.ref b145), .unset, .unset, .unset, .unset, .unset] [(.long (own_mix ((-7046029254386353131 : Int64) ^^^ q4)))])
    refine own_go (fun _ k => XS.lstore X149.here hx rfl (hb hby at_86) rfl (l' := #[.val (.int p1), .val (.long q2), .second, .val (.long q3), .second, .val (.long q4), .second, .val (.long q5), .second, .val (.long q6), .second, .val (.int (1 : Int32)), .val (.int (6 : Int32)), .val (.int (2 : Int32)), .val (.ref b111), .val (.ref b145), .val (.long (own_mix ((-7046029254386353131 : Int64) ^^^ q4))), .second, .unset, .unset, .unset]) rfl k) ?_
    refine own_go (fun _ k => XS.iload X149.here hx rfl (hb hby at_88) rfl k) ?_
    refine own_go (fun _ k => XS.iload X149.here hx rfl (hb hby at_90) rfl k) ?_
    refine own_go (fun _ k => XS.imul X149.here hx rfl (hb hby at_92) rfl k) ?_
    show own_Run p e below _ T149 (mkF m 93 #[.val (.int p1), .val (.long q2), .second, .val (.long q3), .second, .val (.long q4), .second, .val (.long q5), .second, .val (.long q6), .second, .val (.int (1 : Int32)), .val (.int (6 : Int32)), .val (.int (2 : Int32)), .val (.ref b111), .val (.ref b145), .val (.long (own_mix ((-7046029254386353131 : Int64) ^^^ q4))), .second, .unset, .unset, .unset] [(.int ((2 : Int32) * (1 : Int32)))])
    rw [show ((2 : Int32) * (1 : Int32)) = (2 : Int32) by decide]
    show own_Run p e below _ T149 (mkF m 93 #[.val (.int p1), .val (.long q2), .second, .val (.long q3), .second, .val (.long q4), .second, .val (.long q5), .second, .val (.long q6), .second, .val (.int (1 : Int32)), .val (.int (6 : Int32)), .val (.int (2 : Int32)), .val (.ref b111), .val (.ref b145), .val (.long (own_mix ((-7046029254386353131 : Int64) ^^^ q4))), .second, .unset, .unset, .unset] [(.int (2 : Int32))])
    refine own_go (fun _ k => XS.istore X149.here hx rfl (hb hby at_93) rfl (l' := #[.val (.int p1), .val (.long q2), .second, .val (.long q3), .second, .val (.long q4), .second, .val (.long q5), .second, .val (.long q6), .second, .val (.int (1 : Int32)), .val (.int (6 : Int32)), .val (.int (2 : Int32)), .val (.ref b111), .val (.ref b145), .val (.long (own_mix ((-7046029254386353131 : Int64) ^^^ q4))), .second, .val (.int (2 : Int32)), .unset, .unset]) rfl k) ?_
    show own_Run p e below _ T149 (mkF m 95 #[.val (.int p1), .val (.long q2), .second, .val (.long q3), .second, .val (.long q4), .second, .val (.long q5), .second, .val (.long q6), .second, .val (.int (1 : Int32)), .val (.int (6 : Int32)), .val (.int (2 : Int32)), .val (.ref b111), .val (.ref b145), .val (.long (own_mix ((-7046029254386353131 : Int64) ^^^ q4))), .second, .val (.int (2 : Int32)), .unset, .unset] [])
    refine own_go (X149.ldc2Long hx hown (mvT hZ (W 29 rfl)) (g := (mkF m 95 #[.val (.int p1), .val (.long q2), .second, .val (.long q3), .second, .val (.long q4), .second, .val (.long q5), .second, .val (.long q6), .second, .val (.int (1 : Int32)), .val (.int (6 : Int32)), .val (.int (2 : Int32)), .val (.ref b111), .val (.ref b145), .val (.long (own_mix ((-7046029254386353131 : Int64) ^^^ q4))), .second, .val (.int (2 : Int32)), .unset, .unset] [])) rfl (hb hby at_95)) ?_
    show own_Run p e below _ T149 (mkF m 98 #[.val (.int p1), .val (.long q2), .second, .val (.long q3), .second, .val (.long q4), .second, .val (.long q5), .second, .val (.long q6), .second, .val (.int (1 : Int32)), .val (.int (6 : Int32)), .val (.int (2 : Int32)), .val (.ref b111), .val (.ref b145), .val (.long (own_mix ((-7046029254386353131 : Int64) ^^^ q4))), .second, .val (.int (2 : Int32)), .unset, .unset] [(.long (-7046029254386353131 : Int64))])
    refine own_go (fun _ k => XS.aload X149.here hx rfl (hb hby at_98) rfl rfl k) ?_
    refine own_go (fun _ k => XS.iload X149.here hx rfl (hb hby at_100) rfl k) ?_
    show own_Run p e below _ T149 (mkF m 102 #[.val (.int p1), .val (.long q2), .second, .val (.long q3), .second, .val (.long q4), .second, .val (.long q5), .second, .val (.long q6), .second, .val (.int (1 : Int32)), .val (.int (6 : Int32)), .val (.int (2 : Int32)), .val (.ref b111), .val (.ref b145), .val (.long (own_mix ((-7046029254386353131 : Int64) ^^^ q4))), .second, .val (.int (2 : Int32)), .unset, .unset] [(.int (2 : Int32)), (.ref b111), (.long (-7046029254386353131 : Int64))])
    obtain ⟨cl150, Ar150, q150, S150, N150, H150, G150⟩ := id V_b111_c148
    have hin150 : ¬ ((2 : Int32) < 0 ∨ cl150.slots.size ≤ ((2 : Int32)).toNatClampNeg) := inb_of S150 ⟨by decide, by decide⟩
    refine own_go (X149.laload hx (j := (2 : Int32)) (v := (.long q4)) (by rw [e149]; exact Ar150.1) (State.isArrayOf_alike hZ.alike Ar150.2.1) Ar150.2.2 hin150 (H150.at hin150 rfl) (g := (mkF m 102 #[.val (.int p1), .val (.long q2), .second, .val (.long q3), .second, .val (.long q4), .second, .val (.long q5), .second, .val (.long q6), .second, .val (.int (1 : Int32)), .val (.int (6 : Int32)), .val (.int (2 : Int32)), .val (.ref b111), .val (.ref b145), .val (.long (own_mix ((-7046029254386353131 : Int64) ^^^ q4))), .second, .val (.int (2 : Int32)), .unset, .unset] [(.int (2 : Int32)), (.ref b111), (.long (-7046029254386353131 : Int64))])) rfl rfl (hb hby at_102)) ?_
    show own_Run p e below _ T149 (mkF m 103 #[.val (.int p1), .val (.long q2), .second, .val (.long q3), .second, .val (.long q4), .second, .val (.long q5), .second, .val (.long q6), .second, .val (.int (1 : Int32)), .val (.int (6 : Int32)), .val (.int (2 : Int32)), .val (.ref b111), .val (.ref b145), .val (.long (own_mix ((-7046029254386353131 : Int64) ^^^ q4))), .second, .val (.int (2 : Int32)), .unset, .unset] [(.long q4), (.long (-7046029254386353131 : Int64))])
    refine own_go (fun _ k => XS.lxor X149.here hx rfl (hb hby at_103) rfl k) ?_
    show own_Run p e below _ T149 (mkF m 104 #[.val (.int p1), .val (.long q2), .second, .val (.long q3), .second, .val (.long q4), .second, .val (.long q5), .second, .val (.long q6), .second, .val (.int (1 : Int32)), .val (.int (6 : Int32)), .val (.int (2 : Int32)), .val (.ref b111), .val (.ref b145), .val (.long (own_mix ((-7046029254386353131 : Int64) ^^^ q4))), .second, .val (.int (2 : Int32)), .unset, .unset] [(.long ((-7046029254386353131 : Int64) ^^^ q4))])
    obtain ⟨_, _, ⟨T151, L151, k151, n151⟩, -, X151, ⟨Lc151, hQ151, l151, y151, z151⟩, st151⟩ := Jvm.LawKit.callS X149 hx (y := (⟨"com/example/near_duplicate_finder/nearduplicatefinder/BandingKeyPinLaw", "mixRef", "(J)J"⟩ : MethodName)) hown (mvT hZ (W 30 rfl)) (mvT hZ (W 31 rfl)) (mvT hZ (W 32 rfl)) (mvT hZ (W 33 rfl)) (by decide) (backOf (W := 0) (rm5 l Z a0 hw [] ((-7046029254386353131 : Int64) ^^^ q4) T147.heap n0 Z0_c148 ) hZ (W 33 rfl) (W 32 rfl) (by decide) (by decide)) (g := (mkF m 104 #[.val (.int p1), .val (.long q2), .second, .val (.long q3), .second, .val (.long q4), .second, .val (.long q5), .second, .val (.long q6), .second, .val (.int (1 : Int32)), .val (.int (6 : Int32)), .val (.int (2 : Int32)), .val (.ref b111), .val (.ref b145), .val (.long (own_mix ((-7046029254386353131 : Int64) ^^^ q4))), .second, .val (.int (2 : Int32)), .unset, .unset] [(.long ((-7046029254386353131 : Int64) ^^^ q4))])) rfl (by rw [hml]; rfl) (argsL := [(.long ((-7046029254386353131 : Int64) ^^^ q4))]) (rest := []) (lenOf pd_1 rfl) rfl (by show 2 * 0 + _ ≤ _; exact Nat.le_of_eq rfl) (hb hby at_104) (fun _ _ => ⟨rfl, e149, (by decide : 2 + 0 ≤ _), (by decide : 8 + 0 ≤ _)⟩)
    dsimp only [Pt.U, Pt.locs, Pt.cells, Pt.slots] at X151 l151 y151 z151 st151 hQ151
    subst l151 y151 z151
    obtain ⟨rfl, N151q, e151⟩ := hQ151
    have N151 := Fr.app N149 N151q
    refine own_go st151 ?_
    show own_Run p e below _ T151 (mkF m 107 #[.val (.int p1), .val (.long q2), .second, .val (.long q3), .second, .val (.long q4), .second, .val (.long q5), .second, .val (.long q6), .second, .val (.int (1 : Int32)), .val (.int (6 : Int32)), .val (.int (2 : Int32)), .val (.ref b111), .val (.ref b145), .val (.long (own_mix ((-7046029254386353131 : Int64) ^^^ q4))), .second, .val (.int (2 : Int32)), .unset, .unset] [(.long (own_mix ((-7046029254386353131 : Int64) ^^^ q4)))])
    refine own_go (fun _ k => XS.lstore X151.here hx rfl (hb hby at_107) rfl (l' := #[.val (.int p1), .val (.long q2), .second, .val (.long q3), .second, .val (.long q4), .second, .val (.long q5), .second, .val (.long q6), .second, .val (.int (1 : Int32)), .val (.int (6 : Int32)), .val (.int (2 : Int32)), .val (.ref b111), .val (.ref b145), .val (.long (own_mix ((-7046029254386353131 : Int64) ^^^ q4))), .second, .val (.int (2 : Int32)), .val (.long (own_mix ((-7046029254386353131 : Int64) ^^^ q4))), .second]) rfl k) ?_
    refine own_go (fun _ k => XS.iload X151.here hx rfl (hb hby at_109) rfl k) ?_
    refine own_go (fun _ k => XS.iconst X151.here hx rfl (hb hby at_111) k) ?_
    show own_Run p e below _ T151 (mkF m 112 #[.val (.int p1), .val (.long q2), .second, .val (.long q3), .second, .val (.long q4), .second, .val (.long q5), .second, .val (.long q6), .second, .val (.int (1 : Int32)), .val (.int (6 : Int32)), .val (.int (2 : Int32)), .val (.ref b111), .val (.ref b145), .val (.long (own_mix ((-7046029254386353131 : Int64) ^^^ q4))), .second, .val (.int (2 : Int32)), .val (.long (own_mix ((-7046029254386353131 : Int64) ^^^ q4))), .second] [(.int (2 : Int32)), (.int (1 : Int32))])
    refine own_go (fun _ k => XS.icmpYes X151.here hx rfl (pc0 := 112) (pc' := 130) rfl (hb hby at_112) rfl (tlt (by decide : (1 : Int32) < (2 : Int32))).1 (by decide) (by decide) k) ?_
    show own_Run p e below _ T151 (mkF m 130 #[.val (.int p1), .val (.long q2), .second, .val (.long q3), .second, .val (.long q4), .second, .val (.long q5), .second, .val (.long q6), .second, .val (.int (1 : Int32)), .val (.int (6 : Int32)), .val (.int (2 : Int32)), .val (.ref b111), .val (.ref b145), .val (.long (own_mix ((-7046029254386353131 : Int64) ^^^ q4))), .second, .val (.int (2 : Int32)), .val (.long (own_mix ((-7046029254386353131 : Int64) ^^^ q4))), .second] [])
    refine own_go (fun _ k => XS.iload X151.here hx rfl (hb hby at_130) rfl k) ?_
    refine own_go (fun _ k => XS.iconst X151.here hx rfl (hb hby at_132) k) ?_
    show own_Run p e below _ T151 (mkF m 133 #[.val (.int p1), .val (.long q2), .second, .val (.long q3), .second, .val (.long q4), .second, .val (.long q5), .second, .val (.long q6), .second, .val (.int (1 : Int32)), .val (.int (6 : Int32)), .val (.int (2 : Int32)), .val (.ref b111), .val (.ref b145), .val (.long (own_mix ((-7046029254386353131 : Int64) ^^^ q4))), .second, .val (.int (2 : Int32)), .val (.long (own_mix ((-7046029254386353131 : Int64) ^^^ q4))), .second] [(.int (3 : Int32)), (.int (1 : Int32))])
    refine own_go (fun _ k => XS.icmpYes X151.here hx rfl (pc0 := 133) (pc' := 151) rfl (hb hby at_133) rfl (tlt (by decide : (1 : Int32) < (3 : Int32))).1 (by decide) (by decide) k) ?_
    show own_Run p e below _ T151 (mkF m 151 #[.val (.int p1), .val (.long q2), .second, .val (.long q3), .second, .val (.long q4), .second, .val (.long q5), .second, .val (.long q6), .second, .val (.int (1 : Int32)), .val (.int (6 : Int32)), .val (.int (2 : Int32)), .val (.ref b111), .val (.ref b145), .val (.long (own_mix ((-7046029254386353131 : Int64) ^^^ q4))), .second, .val (.int (2 : Int32)), .val (.long (own_mix ((-7046029254386353131 : Int64) ^^^ q4))), .second] [])
    refine own_go (fun _ k => XS.lload X151.here hx rfl (hb hby at_151) rfl k) ?_
    refine own_go (fun _ k => XS.lload X151.here hx rfl (hb hby at_153) rfl k) ?_
    refine own_go (fun _ k => XS.lcmp X151.here hx rfl (hb hby at_155) rfl k) ?_
    show own_Run p e below _ T151 (mkF m 156 #[.val (.int p1), .val (.long q2), .second, .val (.long q3), .second, .val (.long q4), .second, .val (.long q5), .second, .val (.long q6), .second, .val (.int (1 : Int32)), .val (.int (6 : Int32)), .val (.int (2 : Int32)), .val (.ref b111), .val (.ref b145), .val (.long (own_mix ((-7046029254386353131 : Int64) ^^^ q4))), .second, .val (.int (2 : Int32)), .val (.long (own_mix ((-7046029254386353131 : Int64) ^^^ q4))), .second] [(.int (lcmpW (own_mix ((-7046029254386353131 : Int64) ^^^ q4)) (own_mix ((-7046029254386353131 : Int64) ^^^ q4))))])
    refine own_go (fun _ k => XS.ifNo X151.here hx rfl (hb hby at_156) rfl (own_lcTe rfl).2 k) ?_
    show own_Run p e below _ T151 (mkF m 159 #[.val (.int p1), .val (.long q2), .second, .val (.long q3), .second, .val (.long q4), .second, .val (.long q5), .second, .val (.long q6), .second, .val (.int (1 : Int32)), .val (.int (6 : Int32)), .val (.int (2 : Int32)), .val (.ref b111), .val (.ref b145), .val (.long (own_mix ((-7046029254386353131 : Int64) ^^^ q4))), .second, .val (.int (2 : Int32)), .val (.long (own_mix ((-7046029254386353131 : Int64) ^^^ q4))), .second] [])
    refine own_go (fun _ k => XS.iconst X151.here hx rfl (hb hby at_159) k) ?_
    refine own_go (fun _ k => XS.goto X151.here hx rfl (pc0 := 160) (pc' := 164) rfl (hb hby at_160) (by decide) (by decide) k) ?_
    show own_Run p e below _ T151 (mkF m 164 #[.val (.int p1), .val (.long q2), .second, .val (.long q3), .second, .val (.long q4), .second, .val (.long q5), .second, .val (.long q6), .second, .val (.int (1 : Int32)), .val (.int (6 : Int32)), .val (.int (2 : Int32)), .val (.ref b111), .val (.ref b145), .val (.long (own_mix ((-7046029254386353131 : Int64) ^^^ q4))), .second, .val (.int (2 : Int32)), .val (.long (own_mix ((-7046029254386353131 : Int64) ^^^ q4))), .second] [(.int (1 : Int32))])
    refine own_done (Q := fun v h L => Q0 Z p1 q2 q3 q4 q5 q6 h0 n0 v h L) (v := (some (.int (1 : Int32)))) X151 (fun h => by rw [hret] at h; cases h) hlk (fun fs hr => retN X151 hx (t := .boolean) hret (by simp) (hb hby at_164) hr) ?_ (by decide) (by decide)
    show Q0 Z p1 q2 q3 q4 q5 q6 h0 n0 _ T151.heap _
    rw [e151]
    exact ⟨rfl, N151⟩
  · show own_Run p e below _ T129 (mkF m 64 #[.val (.int p1), .val (.long q2), .second, .val (.long q3), .second, .val (.long q4), .second, .val (.long q5), .second, .val (.long q6), .second, .val (.int (1 : Int32)), .val (.int (6 : Int32)), .val (.int (3 : Int32)), .val (.ref b111), .unset, .unset, .unset, .unset, .unset, .unset] [])
    obtain ⟨T152, h152, X152, e152, E152, A152, D152, -, st152⟩ := newO X129 hx hZ hown (W 3 rfl) (W 4 rfl) (W 5 rfl) e129 (g := (mkF m 64 #[.val (.int p1), .val (.long q2), .second, .val (.long q3), .second, .val (.long q4), .second, .val (.long q5), .second, .val (.long q6), .second, .val (.int (1 : Int32)), .val (.int (6 : Int32)), .val (.int (3 : Int32)), .val (.ref b111), .unset, .unset, .unset, .unset, .unset, .unset] [])) rfl (hb hby at_64) (by decide) (by decide)
    refine own_go st152 ?_
    obtain ⟨b152, g152⟩ : ∃ z, z = h129.size := ⟨_, rfl⟩
    rw [← g152] at A152 D152
    rw [← g152]
    show own_Run p e below _ T152 (mkF m 67 #[.val (.int p1), .val (.long q2), .second, .val (.long q3), .second, .val (.long q4), .second, .val (.long q5), .second, .val (.long q6), .second, .val (.int (1 : Int32)), .val (.int (6 : Int32)), .val (.int (3 : Int32)), .val (.ref b111), .unset, .unset, .unset, .unset, .unset, .unset] [(.ref b152)])
    have ne_b111_b152 : b111 ≠ b152 := Nat.ne_of_lt (Nat.lt_of_lt_of_eq V_b111_c129.lt g152.symm)
    have g_b152 : n0 ≤ b152 := Nat.le_trans Z0_c130 (Nat.le_of_eq g152.symm)
    have sz_b152 : h0.size ≤ b152 := Nat.le_trans K0_c130.1 (Nat.le_of_eq g152.symm)
    have Z0_c153 := Nat.le_trans Z0_c130 E152.1
    have K0_c153 := K0_c130.ext E152
    have V_b111_c153 := V_b111_c129.ext E152
    have F_bands_b152 : Fld Z h152 b152 "com/example/near_duplicate_finder/nearduplicatefinder/Banding" "bands" "I" (.int (0 : Int32)) := D152 (Or.inr (W 14 rfl)) (ty := .int) (by decide)
    have F_rows_b152 : Fld Z h152 b152 "com/example/near_duplicate_finder/nearduplicatefinder/Banding" "rows" "I" (.int (0 : Int32)) := D152 (Or.inr (W 16 rfl)) (ty := .int) (by decide)
    refine own_go (fun _ k => XS.dup X152.here hx rfl (hb hby at_67) rfl rfl k) ?_
    refine own_go (fun _ k => XS.iload X152.here hx rfl (hb hby at_68) rfl k) ?_
    refine own_go (fun _ k => XS.iload X152.here hx rfl (hb hby at_70) rfl k) ?_
    show own_Run p e below _ T152 (mkF m 72 #[.val (.int p1), .val (.long q2), .second, .val (.long q3), .second, .val (.long q4), .second, .val (.long q5), .second, .val (.long q6), .second, .val (.int (1 : Int32)), .val (.int (6 : Int32)), .val (.int (3 : Int32)), .val (.ref b111), .unset, .unset, .unset, .unset, .unset, .unset] [(.int (1 : Int32)), (.int (6 : Int32)), (.ref b152), (.ref b152)])
    obtain ⟨_, _, ⟨T154, L154, k154, n154⟩, -, X154, ⟨Lc154, hQ154, l154, y154, z154⟩, st154⟩ := X152.specialBack hx (y := (⟨"com/example/near_duplicate_finder/nearduplicatefinder/Banding", "<init>", "(II)V"⟩ : MethodName)) rfl hown (mvT hZ (W 6 rfl)) (mvT hZ (W 7 rfl)) (mvT hZ (W 8 rfl)) (by decide) (backOf (W := 1) (rm1 l Z a0 hw [] b152 (6 : Int32) (1 : Int32) (.int (0 : Int32)) (.int (0 : Int32)) h152 n0 Z0_c153 A152 F_bands_b152 F_rows_b152 g_b152 (by decide) (by decide) (by decide)) hZ (W 8 rfl) (W 5 rfl) (by decide) (by decide)) (g := (mkF m 72 #[.val (.int p1), .val (.long q2), .second, .val (.long q3), .second, .val (.long q4), .second, .val (.long q5), .second, .val (.long q6), .second, .val (.int (1 : Int32)), .val (.int (6 : Int32)), .val (.int (3 : Int32)), .val (.ref b111), .unset, .unset, .unset, .unset, .unset, .unset] [(.int (1 : Int32)), (.int (6 : Int32)), (.ref b152), (.ref b152)])) rfl (by rw [hml]; rfl) (Steps.refl _) (a := b152) (argsL := [(.int (6 : Int32)), (.int (1 : Int32))]) (rest := [(.ref b152)]) (lenOf pd_2 rfl) rfl (by show 2 * 0 + _ ≤ _; exact Nat.le_of_eq rfl) (hb hby at_72) (fun _ _ => ⟨rfl, e152, (by decide : 2 + 0 ≤ _), (by decide : 8 + 0 ≤ _)⟩)
    dsimp only [Pt.U, Pt.locs, Pt.cells, Pt.slots] at X154 l154 y154 z154 st154 hQ154
    subst l154 y154 z154
    obtain ⟨rfl, N154q, K154, P154_0, P154_1⟩ := hQ154
    have N154 := Fr.app N129 N154q
    refine own_goT st154 ?_
    show own_Run p e below _ T154 (mkF m 75 #[.val (.int p1), .val (.long q2), .second, .val (.long q3), .second, .val (.long q4), .second, .val (.long q5), .second, .val (.long q6), .second, .val (.int (1 : Int32)), .val (.int (6 : Int32)), .val (.int (3 : Int32)), .val (.ref b111), .unset, .unset, .unset, .unset, .unset, .unset] [(.ref b152)])
    have Z0_c155 := Nat.le_trans Z0_c153 K154.1
    have K0_c155 := K0_c153.trans K154 (allS (Or.inr sz_b152) all0)
    have V_b111_c155 := V_b111_c153.keep K154 (ninS ne_b111_b152 nin0)
    have A152_c155 := A152.keep K154
    refine own_go (fun _ k => XS.astore X154.here hx rfl (hb hby at_75) rfl rfl (l' := #[.val (.int p1), .val (.long q2), .second, .val (.long q3), .second, .val (.long q4), .second, .val (.long q5), .second, .val (.long q6), .second, .val (.int (1 : Int32)), .val (.int (6 : Int32)), .val (.int (3 : Int32)), .val (.ref b111), .val (.ref b152), .unset, .unset, .unset, .unset, .unset]) rfl k) ?_
    refine own_go (fun _ k => XS.aload X154.here hx rfl (hb hby at_77) rfl rfl k) ?_
    refine own_go (fun _ k => XS.aload X154.here hx rfl (hb hby at_79) rfl rfl k) ?_
    refine own_go (fun _ k => XS.iload X154.here hx rfl (hb hby at_81) rfl k) ?_
    show own_Run p e below _ T154 (mkF m 83 #[.val (.int p1), .val (.long q2), .second, .val (.long q3), .second, .val (.long q4), .second, .val (.long q5), .second, .val (.long q6), .second, .val (.int (1 : Int32)), .val (.int (6 : Int32)), .val (.int (3 : Int32)), .val (.ref b111), .val (.ref b152), .unset, .unset, .unset, .unset, .unset] [(.int (3 : Int32)), (.ref b111), (.ref b152)])
    obtain ⟨cq156, kq156, q156a, q156b, q156c⟩ := isOf hZ rfl P154_0
    obtain ⟨_, _, ⟨T156, L156, k156, n156⟩, -, X156, ⟨Lc156, hQ156, l156, y156, z156⟩, st156⟩ := X154.virtualBack hx (y := (⟨"com/example/near_duplicate_finder/nearduplicatefinder/Banding", "key", "([JI)J"⟩ : MethodName)) (z := (⟨"com/example/near_duplicate_finder/nearduplicatefinder/Banding", "key", "([JI)J"⟩ : MethodName)) hown (mvT hZ (W 17 rfl)) (mvT hZ (W 18 rfl)) (notFace_of_selects (args := #[]) (mvT hZ (W 20 rfl))) (mvT hZ (W 20 rfl)) (mvT hZ (W 19 rfl)) (by decide) (backOf (W := 0) (rm3 l Z a0 hw [] b152 b111 (3 : Int32) (1 : Int32) k111 q2 q3 q4 q5 q6 (q2 + q6) (own_mix ((-7046029254386353131 : Int64) ^^^ q5)) T154.heap n0 Z0_c155 P154_1 V_b111_c155 (Or.inr (Or.inr (Or.inr (Or.inl ⟨rfl, rfl, rfl⟩))))) hZ (W 21 rfl) (W 5 rfl) (by decide) (by decide)) q156a q156c (g := (mkF m 83 #[.val (.int p1), .val (.long q2), .second, .val (.long q3), .second, .val (.long q4), .second, .val (.long q5), .second, .val (.long q6), .second, .val (.int (1 : Int32)), .val (.int (6 : Int32)), .val (.int (3 : Int32)), .val (.ref b111), .val (.ref b152), .unset, .unset, .unset, .unset, .unset] [(.int (3 : Int32)), (.ref b111), (.ref b152)])) rfl (by rw [hml]; rfl) (Steps.refl _) (argsL := [(.ref b111), (.int (3 : Int32))]) (rest := []) (lenOf pd_3 rfl) rfl (by show 2 * 0 + _ ≤ _; exact Nat.le_of_eq rfl) (hb hby at_83) (fun _ _ => ⟨rfl, rfl, (by decide : 2 + 0 ≤ _), (by decide : 8 + 0 ≤ _)⟩)
    dsimp only [Pt.U, Pt.locs, Pt.cells, Pt.slots] at X156 l156 y156 z156 st156 hQ156
    subst l156 y156 z156
    obtain ⟨rfl, N156q, e156⟩ := hQ156
    have N156 := Fr.app N154 N156q
    refine own_goT st156 ?_
    show own_Run p e below _ T156 (mkF m 86 #[.val (.int p1), .val (.long q2), .second, .val (.long q3), .second, .val (.long q4), .second, .val (.long q5), .second, .val (.long q6), .second, .val (.int (1 : Int32)), .val (.int (6 : Int32)), .val (.int (3 : Int32)), .val (.ref b111), .val (.ref b152), .unset, .unset, .unset, .unset, .unset] [(.long (own_mix ((-7046029254386353131 : Int64) ^^^ q5)))])
    refine own_go (fun _ k => XS.lstore X156.here hx rfl (hb hby at_86) rfl (l' := #[.val (.int p1), .val (.long q2), .second, .val (.long q3), .second, .val (.long q4), .second, .val (.long q5), .second, .val (.long q6), .second, .val (.int (1 : Int32)), .val (.int (6 : Int32)), .val (.int (3 : Int32)), .val (.ref b111), .val (.ref b152), .val (.long (own_mix ((-7046029254386353131 : Int64) ^^^ q5))), .second, .unset, .unset, .unset]) rfl k) ?_
    refine own_go (fun _ k => XS.iload X156.here hx rfl (hb hby at_88) rfl k) ?_
    refine own_go (fun _ k => XS.iload X156.here hx rfl (hb hby at_90) rfl k) ?_
    refine own_go (fun _ k => XS.imul X156.here hx rfl (hb hby at_92) rfl k) ?_
    show own_Run p e below _ T156 (mkF m 93 #[.val (.int p1), .val (.long q2), .second, .val (.long q3), .second, .val (.long q4), .second, .val (.long q5), .second, .val (.long q6), .second, .val (.int (1 : Int32)), .val (.int (6 : Int32)), .val (.int (3 : Int32)), .val (.ref b111), .val (.ref b152), .val (.long (own_mix ((-7046029254386353131 : Int64) ^^^ q5))), .second, .unset, .unset, .unset] [(.int ((3 : Int32) * (1 : Int32)))])
    rw [show ((3 : Int32) * (1 : Int32)) = (3 : Int32) by decide]
    show own_Run p e below _ T156 (mkF m 93 #[.val (.int p1), .val (.long q2), .second, .val (.long q3), .second, .val (.long q4), .second, .val (.long q5), .second, .val (.long q6), .second, .val (.int (1 : Int32)), .val (.int (6 : Int32)), .val (.int (3 : Int32)), .val (.ref b111), .val (.ref b152), .val (.long (own_mix ((-7046029254386353131 : Int64) ^^^ q5))), .second, .unset, .unset, .unset] [(.int (3 : Int32))])
    refine own_go (fun _ k => XS.istore X156.here hx rfl (hb hby at_93) rfl (l' := #[.val (.int p1), .val (.long q2), .second, .val (.long q3), .second, .val (.long q4), .second, .val (.long q5), .second, .val (.long q6), .second, .val (.int (1 : Int32)), .val (.int (6 : Int32)), .val (.int (3 : Int32)), .val (.ref b111), .val (.ref b152), .val (.long (own_mix ((-7046029254386353131 : Int64) ^^^ q5))), .second, .val (.int (3 : Int32)), .unset, .unset]) rfl k) ?_
    show own_Run p e below _ T156 (mkF m 95 #[.val (.int p1), .val (.long q2), .second, .val (.long q3), .second, .val (.long q4), .second, .val (.long q5), .second, .val (.long q6), .second, .val (.int (1 : Int32)), .val (.int (6 : Int32)), .val (.int (3 : Int32)), .val (.ref b111), .val (.ref b152), .val (.long (own_mix ((-7046029254386353131 : Int64) ^^^ q5))), .second, .val (.int (3 : Int32)), .unset, .unset] [])
    refine own_go (X156.ldc2Long hx hown (mvT hZ (W 29 rfl)) (g := (mkF m 95 #[.val (.int p1), .val (.long q2), .second, .val (.long q3), .second, .val (.long q4), .second, .val (.long q5), .second, .val (.long q6), .second, .val (.int (1 : Int32)), .val (.int (6 : Int32)), .val (.int (3 : Int32)), .val (.ref b111), .val (.ref b152), .val (.long (own_mix ((-7046029254386353131 : Int64) ^^^ q5))), .second, .val (.int (3 : Int32)), .unset, .unset] [])) rfl (hb hby at_95)) ?_
    show own_Run p e below _ T156 (mkF m 98 #[.val (.int p1), .val (.long q2), .second, .val (.long q3), .second, .val (.long q4), .second, .val (.long q5), .second, .val (.long q6), .second, .val (.int (1 : Int32)), .val (.int (6 : Int32)), .val (.int (3 : Int32)), .val (.ref b111), .val (.ref b152), .val (.long (own_mix ((-7046029254386353131 : Int64) ^^^ q5))), .second, .val (.int (3 : Int32)), .unset, .unset] [(.long (-7046029254386353131 : Int64))])
    refine own_go (fun _ k => XS.aload X156.here hx rfl (hb hby at_98) rfl rfl k) ?_
    refine own_go (fun _ k => XS.iload X156.here hx rfl (hb hby at_100) rfl k) ?_
    show own_Run p e below _ T156 (mkF m 102 #[.val (.int p1), .val (.long q2), .second, .val (.long q3), .second, .val (.long q4), .second, .val (.long q5), .second, .val (.long q6), .second, .val (.int (1 : Int32)), .val (.int (6 : Int32)), .val (.int (3 : Int32)), .val (.ref b111), .val (.ref b152), .val (.long (own_mix ((-7046029254386353131 : Int64) ^^^ q5))), .second, .val (.int (3 : Int32)), .unset, .unset] [(.int (3 : Int32)), (.ref b111), (.long (-7046029254386353131 : Int64))])
    obtain ⟨cl157, Ar157, q157, S157, N157, H157, G157⟩ := id V_b111_c155
    have hin157 : ¬ ((3 : Int32) < 0 ∨ cl157.slots.size ≤ ((3 : Int32)).toNatClampNeg) := inb_of S157 ⟨by decide, by decide⟩
    refine own_go (X156.laload hx (j := (3 : Int32)) (v := (.long q5)) (by rw [e156]; exact Ar157.1) (State.isArrayOf_alike hZ.alike Ar157.2.1) Ar157.2.2 hin157 (H157.at hin157 rfl) (g := (mkF m 102 #[.val (.int p1), .val (.long q2), .second, .val (.long q3), .second, .val (.long q4), .second, .val (.long q5), .second, .val (.long q6), .second, .val (.int (1 : Int32)), .val (.int (6 : Int32)), .val (.int (3 : Int32)), .val (.ref b111), .val (.ref b152), .val (.long (own_mix ((-7046029254386353131 : Int64) ^^^ q5))), .second, .val (.int (3 : Int32)), .unset, .unset] [(.int (3 : Int32)), (.ref b111), (.long (-7046029254386353131 : Int64))])) rfl rfl (hb hby at_102)) ?_
    show own_Run p e below _ T156 (mkF m 103 #[.val (.int p1), .val (.long q2), .second, .val (.long q3), .second, .val (.long q4), .second, .val (.long q5), .second, .val (.long q6), .second, .val (.int (1 : Int32)), .val (.int (6 : Int32)), .val (.int (3 : Int32)), .val (.ref b111), .val (.ref b152), .val (.long (own_mix ((-7046029254386353131 : Int64) ^^^ q5))), .second, .val (.int (3 : Int32)), .unset, .unset] [(.long q5), (.long (-7046029254386353131 : Int64))])
    refine own_go (fun _ k => XS.lxor X156.here hx rfl (hb hby at_103) rfl k) ?_
    show own_Run p e below _ T156 (mkF m 104 #[.val (.int p1), .val (.long q2), .second, .val (.long q3), .second, .val (.long q4), .second, .val (.long q5), .second, .val (.long q6), .second, .val (.int (1 : Int32)), .val (.int (6 : Int32)), .val (.int (3 : Int32)), .val (.ref b111), .val (.ref b152), .val (.long (own_mix ((-7046029254386353131 : Int64) ^^^ q5))), .second, .val (.int (3 : Int32)), .unset, .unset] [(.long ((-7046029254386353131 : Int64) ^^^ q5))])
    obtain ⟨_, _, ⟨T158, L158, k158, n158⟩, -, X158, ⟨Lc158, hQ158, l158, y158, z158⟩, st158⟩ := Jvm.LawKit.callS X156 hx (y := (⟨"com/example/near_duplicate_finder/nearduplicatefinder/BandingKeyPinLaw", "mixRef", "(J)J"⟩ : MethodName)) hown (mvT hZ (W 30 rfl)) (mvT hZ (W 31 rfl)) (mvT hZ (W 32 rfl)) (mvT hZ (W 33 rfl)) (by decide) (backOf (W := 0) (rm5 l Z a0 hw [] ((-7046029254386353131 : Int64) ^^^ q5) T154.heap n0 Z0_c155 ) hZ (W 33 rfl) (W 32 rfl) (by decide) (by decide)) (g := (mkF m 104 #[.val (.int p1), .val (.long q2), .second, .val (.long q3), .second, .val (.long q4), .second, .val (.long q5), .second, .val (.long q6), .second, .val (.int (1 : Int32)), .val (.int (6 : Int32)), .val (.int (3 : Int32)), .val (.ref b111), .val (.ref b152), .val (.long (own_mix ((-7046029254386353131 : Int64) ^^^ q5))), .second, .val (.int (3 : Int32)), .unset, .unset] [(.long ((-7046029254386353131 : Int64) ^^^ q5))])) rfl (by rw [hml]; rfl) (argsL := [(.long ((-7046029254386353131 : Int64) ^^^ q5))]) (rest := []) (lenOf pd_1 rfl) rfl (by show 2 * 0 + _ ≤ _; exact Nat.le_of_eq rfl) (hb hby at_104) (fun _ _ => ⟨rfl, e156, (by decide : 2 + 0 ≤ _), (by decide : 8 + 0 ≤ _)⟩)
    dsimp only [Pt.U, Pt.locs, Pt.cells, Pt.slots] at X158 l158 y158 z158 st158 hQ158
    subst l158 y158 z158
    obtain ⟨rfl, N158q, e158⟩ := hQ158
    have N158 := Fr.app N156 N158q
    refine own_go st158 ?_
    show own_Run p e below _ T158 (mkF m 107 #[.val (.int p1), .val (.long q2), .second, .val (.long q3), .second, .val (.long q4), .second, .val (.long q5), .second, .val (.long q6), .second, .val (.int (1 : Int32)), .val (.int (6 : Int32)), .val (.int (3 : Int32)), .val (.ref b111), .val (.ref b152), .val (.long (own_mix ((-7046029254386353131 : Int64) ^^^ q5))), .second, .val (.int (3 : Int32)), .unset, .unset] [(.long (own_mix ((-7046029254386353131 : Int64) ^^^ q5)))])
    refine own_go (fun _ k => XS.lstore X158.here hx rfl (hb hby at_107) rfl (l' := #[.val (.int p1), .val (.long q2), .second, .val (.long q3), .second, .val (.long q4), .second, .val (.long q5), .second, .val (.long q6), .second, .val (.int (1 : Int32)), .val (.int (6 : Int32)), .val (.int (3 : Int32)), .val (.ref b111), .val (.ref b152), .val (.long (own_mix ((-7046029254386353131 : Int64) ^^^ q5))), .second, .val (.int (3 : Int32)), .val (.long (own_mix ((-7046029254386353131 : Int64) ^^^ q5))), .second]) rfl k) ?_
    refine own_go (fun _ k => XS.iload X158.here hx rfl (hb hby at_109) rfl k) ?_
    refine own_go (fun _ k => XS.iconst X158.here hx rfl (hb hby at_111) k) ?_
    show own_Run p e below _ T158 (mkF m 112 #[.val (.int p1), .val (.long q2), .second, .val (.long q3), .second, .val (.long q4), .second, .val (.long q5), .second, .val (.long q6), .second, .val (.int (1 : Int32)), .val (.int (6 : Int32)), .val (.int (3 : Int32)), .val (.ref b111), .val (.ref b152), .val (.long (own_mix ((-7046029254386353131 : Int64) ^^^ q5))), .second, .val (.int (3 : Int32)), .val (.long (own_mix ((-7046029254386353131 : Int64) ^^^ q5))), .second] [(.int (2 : Int32)), (.int (1 : Int32))])
    refine own_go (fun _ k => XS.icmpYes X158.here hx rfl (pc0 := 112) (pc' := 130) rfl (hb hby at_112) rfl (tlt (by decide : (1 : Int32) < (2 : Int32))).1 (by decide) (by decide) k) ?_
    show own_Run p e below _ T158 (mkF m 130 #[.val (.int p1), .val (.long q2), .second, .val (.long q3), .second, .val (.long q4), .second, .val (.long q5), .second, .val (.long q6), .second, .val (.int (1 : Int32)), .val (.int (6 : Int32)), .val (.int (3 : Int32)), .val (.ref b111), .val (.ref b152), .val (.long (own_mix ((-7046029254386353131 : Int64) ^^^ q5))), .second, .val (.int (3 : Int32)), .val (.long (own_mix ((-7046029254386353131 : Int64) ^^^ q5))), .second] [])
    refine own_go (fun _ k => XS.iload X158.here hx rfl (hb hby at_130) rfl k) ?_
    refine own_go (fun _ k => XS.iconst X158.here hx rfl (hb hby at_132) k) ?_
    show own_Run p e below _ T158 (mkF m 133 #[.val (.int p1), .val (.long q2), .second, .val (.long q3), .second, .val (.long q4), .second, .val (.long q5), .second, .val (.long q6), .second, .val (.int (1 : Int32)), .val (.int (6 : Int32)), .val (.int (3 : Int32)), .val (.ref b111), .val (.ref b152), .val (.long (own_mix ((-7046029254386353131 : Int64) ^^^ q5))), .second, .val (.int (3 : Int32)), .val (.long (own_mix ((-7046029254386353131 : Int64) ^^^ q5))), .second] [(.int (3 : Int32)), (.int (1 : Int32))])
    refine own_go (fun _ k => XS.icmpYes X158.here hx rfl (pc0 := 133) (pc' := 151) rfl (hb hby at_133) rfl (tlt (by decide : (1 : Int32) < (3 : Int32))).1 (by decide) (by decide) k) ?_
    show own_Run p e below _ T158 (mkF m 151 #[.val (.int p1), .val (.long q2), .second, .val (.long q3), .second, .val (.long q4), .second, .val (.long q5), .second, .val (.long q6), .second, .val (.int (1 : Int32)), .val (.int (6 : Int32)), .val (.int (3 : Int32)), .val (.ref b111), .val (.ref b152), .val (.long (own_mix ((-7046029254386353131 : Int64) ^^^ q5))), .second, .val (.int (3 : Int32)), .val (.long (own_mix ((-7046029254386353131 : Int64) ^^^ q5))), .second] [])
    refine own_go (fun _ k => XS.lload X158.here hx rfl (hb hby at_151) rfl k) ?_
    refine own_go (fun _ k => XS.lload X158.here hx rfl (hb hby at_153) rfl k) ?_
    refine own_go (fun _ k => XS.lcmp X158.here hx rfl (hb hby at_155) rfl k) ?_
    show own_Run p e below _ T158 (mkF m 156 #[.val (.int p1), .val (.long q2), .second, .val (.long q3), .second, .val (.long q4), .second, .val (.long q5), .second, .val (.long q6), .second, .val (.int (1 : Int32)), .val (.int (6 : Int32)), .val (.int (3 : Int32)), .val (.ref b111), .val (.ref b152), .val (.long (own_mix ((-7046029254386353131 : Int64) ^^^ q5))), .second, .val (.int (3 : Int32)), .val (.long (own_mix ((-7046029254386353131 : Int64) ^^^ q5))), .second] [(.int (lcmpW (own_mix ((-7046029254386353131 : Int64) ^^^ q5)) (own_mix ((-7046029254386353131 : Int64) ^^^ q5))))])
    refine own_go (fun _ k => XS.ifNo X158.here hx rfl (hb hby at_156) rfl (own_lcTe rfl).2 k) ?_
    show own_Run p e below _ T158 (mkF m 159 #[.val (.int p1), .val (.long q2), .second, .val (.long q3), .second, .val (.long q4), .second, .val (.long q5), .second, .val (.long q6), .second, .val (.int (1 : Int32)), .val (.int (6 : Int32)), .val (.int (3 : Int32)), .val (.ref b111), .val (.ref b152), .val (.long (own_mix ((-7046029254386353131 : Int64) ^^^ q5))), .second, .val (.int (3 : Int32)), .val (.long (own_mix ((-7046029254386353131 : Int64) ^^^ q5))), .second] [])
    refine own_go (fun _ k => XS.iconst X158.here hx rfl (hb hby at_159) k) ?_
    refine own_go (fun _ k => XS.goto X158.here hx rfl (pc0 := 160) (pc' := 164) rfl (hb hby at_160) (by decide) (by decide) k) ?_
    show own_Run p e below _ T158 (mkF m 164 #[.val (.int p1), .val (.long q2), .second, .val (.long q3), .second, .val (.long q4), .second, .val (.long q5), .second, .val (.long q6), .second, .val (.int (1 : Int32)), .val (.int (6 : Int32)), .val (.int (3 : Int32)), .val (.ref b111), .val (.ref b152), .val (.long (own_mix ((-7046029254386353131 : Int64) ^^^ q5))), .second, .val (.int (3 : Int32)), .val (.long (own_mix ((-7046029254386353131 : Int64) ^^^ q5))), .second] [(.int (1 : Int32))])
    refine own_done (Q := fun v h L => Q0 Z p1 q2 q3 q4 q5 q6 h0 n0 v h L) (v := (some (.int (1 : Int32)))) X158 (fun h => by rw [hret] at h; cases h) hlk (fun fs hr => retN X158 hx (t := .boolean) hret (by simp) (hb hby at_164) hr) ?_ (by decide) (by decide)
    show Q0 Z p1 q2 q3 q4 q5 q6 h0 n0 _ T158.heap _
    rw [e158]
    exact ⟨rfl, N158⟩
  · show own_Run p e below _ T129 (mkF m 64 #[.val (.int p1), .val (.long q2), .second, .val (.long q3), .second, .val (.long q4), .second, .val (.long q5), .second, .val (.long q6), .second, .val (.int (1 : Int32)), .val (.int (6 : Int32)), .val (.int (4 : Int32)), .val (.ref b111), .unset, .unset, .unset, .unset, .unset, .unset] [])
    obtain ⟨T159, h159, X159, e159, E159, A159, D159, -, st159⟩ := newO X129 hx hZ hown (W 3 rfl) (W 4 rfl) (W 5 rfl) e129 (g := (mkF m 64 #[.val (.int p1), .val (.long q2), .second, .val (.long q3), .second, .val (.long q4), .second, .val (.long q5), .second, .val (.long q6), .second, .val (.int (1 : Int32)), .val (.int (6 : Int32)), .val (.int (4 : Int32)), .val (.ref b111), .unset, .unset, .unset, .unset, .unset, .unset] [])) rfl (hb hby at_64) (by decide) (by decide)
    refine own_go st159 ?_
    obtain ⟨b159, g159⟩ : ∃ z, z = h129.size := ⟨_, rfl⟩
    rw [← g159] at A159 D159
    rw [← g159]
    show own_Run p e below _ T159 (mkF m 67 #[.val (.int p1), .val (.long q2), .second, .val (.long q3), .second, .val (.long q4), .second, .val (.long q5), .second, .val (.long q6), .second, .val (.int (1 : Int32)), .val (.int (6 : Int32)), .val (.int (4 : Int32)), .val (.ref b111), .unset, .unset, .unset, .unset, .unset, .unset] [(.ref b159)])
    have ne_b111_b159 : b111 ≠ b159 := Nat.ne_of_lt (Nat.lt_of_lt_of_eq V_b111_c129.lt g159.symm)
    have g_b159 : n0 ≤ b159 := Nat.le_trans Z0_c130 (Nat.le_of_eq g159.symm)
    have sz_b159 : h0.size ≤ b159 := Nat.le_trans K0_c130.1 (Nat.le_of_eq g159.symm)
    have Z0_c160 := Nat.le_trans Z0_c130 E159.1
    have K0_c160 := K0_c130.ext E159
    have V_b111_c160 := V_b111_c129.ext E159
    have F_bands_b159 : Fld Z h159 b159 "com/example/near_duplicate_finder/nearduplicatefinder/Banding" "bands" "I" (.int (0 : Int32)) := D159 (Or.inr (W 14 rfl)) (ty := .int) (by decide)
    have F_rows_b159 : Fld Z h159 b159 "com/example/near_duplicate_finder/nearduplicatefinder/Banding" "rows" "I" (.int (0 : Int32)) := D159 (Or.inr (W 16 rfl)) (ty := .int) (by decide)
    refine own_go (fun _ k => XS.dup X159.here hx rfl (hb hby at_67) rfl rfl k) ?_
    refine own_go (fun _ k => XS.iload X159.here hx rfl (hb hby at_68) rfl k) ?_
    refine own_go (fun _ k => XS.iload X159.here hx rfl (hb hby at_70) rfl k) ?_
    show own_Run p e below _ T159 (mkF m 72 #[.val (.int p1), .val (.long q2), .second, .val (.long q3), .second, .val (.long q4), .second, .val (.long q5), .second, .val (.long q6), .second, .val (.int (1 : Int32)), .val (.int (6 : Int32)), .val (.int (4 : Int32)), .val (.ref b111), .unset, .unset, .unset, .unset, .unset, .unset] [(.int (1 : Int32)), (.int (6 : Int32)), (.ref b159), (.ref b159)])
    obtain ⟨_, _, ⟨T161, L161, k161, n161⟩, -, X161, ⟨Lc161, hQ161, l161, y161, z161⟩, st161⟩ := X159.specialBack hx (y := (⟨"com/example/near_duplicate_finder/nearduplicatefinder/Banding", "<init>", "(II)V"⟩ : MethodName)) rfl hown (mvT hZ (W 6 rfl)) (mvT hZ (W 7 rfl)) (mvT hZ (W 8 rfl)) (by decide) (backOf (W := 1) (rm1 l Z a0 hw [] b159 (6 : Int32) (1 : Int32) (.int (0 : Int32)) (.int (0 : Int32)) h159 n0 Z0_c160 A159 F_bands_b159 F_rows_b159 g_b159 (by decide) (by decide) (by decide)) hZ (W 8 rfl) (W 5 rfl) (by decide) (by decide)) (g := (mkF m 72 #[.val (.int p1), .val (.long q2), .second, .val (.long q3), .second, .val (.long q4), .second, .val (.long q5), .second, .val (.long q6), .second, .val (.int (1 : Int32)), .val (.int (6 : Int32)), .val (.int (4 : Int32)), .val (.ref b111), .unset, .unset, .unset, .unset, .unset, .unset] [(.int (1 : Int32)), (.int (6 : Int32)), (.ref b159), (.ref b159)])) rfl (by rw [hml]; rfl) (Steps.refl _) (a := b159) (argsL := [(.int (6 : Int32)), (.int (1 : Int32))]) (rest := [(.ref b159)]) (lenOf pd_2 rfl) rfl (by show 2 * 0 + _ ≤ _; exact Nat.le_of_eq rfl) (hb hby at_72) (fun _ _ => ⟨rfl, e159, (by decide : 2 + 0 ≤ _), (by decide : 8 + 0 ≤ _)⟩)
    dsimp only [Pt.U, Pt.locs, Pt.cells, Pt.slots] at X161 l161 y161 z161 st161 hQ161
    subst l161 y161 z161
    obtain ⟨rfl, N161q, K161, P161_0, P161_1⟩ := hQ161
    have N161 := Fr.app N129 N161q
    refine own_goT st161 ?_
    show own_Run p e below _ T161 (mkF m 75 #[.val (.int p1), .val (.long q2), .second, .val (.long q3), .second, .val (.long q4), .second, .val (.long q5), .second, .val (.long q6), .second, .val (.int (1 : Int32)), .val (.int (6 : Int32)), .val (.int (4 : Int32)), .val (.ref b111), .unset, .unset, .unset, .unset, .unset, .unset] [(.ref b159)])
    have Z0_c162 := Nat.le_trans Z0_c160 K161.1
    have K0_c162 := K0_c160.trans K161 (allS (Or.inr sz_b159) all0)
    have V_b111_c162 := V_b111_c160.keep K161 (ninS ne_b111_b159 nin0)
    have A159_c162 := A159.keep K161
    refine own_go (fun _ k => XS.astore X161.here hx rfl (hb hby at_75) rfl rfl (l' := #[.val (.int p1), .val (.long q2), .second, .val (.long q3), .second, .val (.long q4), .second, .val (.long q5), .second, .val (.long q6), .second, .val (.int (1 : Int32)), .val (.int (6 : Int32)), .val (.int (4 : Int32)), .val (.ref b111), .val (.ref b159), .unset, .unset, .unset, .unset, .unset]) rfl k) ?_
    refine own_go (fun _ k => XS.aload X161.here hx rfl (hb hby at_77) rfl rfl k) ?_
    refine own_go (fun _ k => XS.aload X161.here hx rfl (hb hby at_79) rfl rfl k) ?_
    refine own_go (fun _ k => XS.iload X161.here hx rfl (hb hby at_81) rfl k) ?_
    show own_Run p e below _ T161 (mkF m 83 #[.val (.int p1), .val (.long q2), .second, .val (.long q3), .second, .val (.long q4), .second, .val (.long q5), .second, .val (.long q6), .second, .val (.int (1 : Int32)), .val (.int (6 : Int32)), .val (.int (4 : Int32)), .val (.ref b111), .val (.ref b159), .unset, .unset, .unset, .unset, .unset] [(.int (4 : Int32)), (.ref b111), (.ref b159)])
    obtain ⟨cq163, kq163, q163a, q163b, q163c⟩ := isOf hZ rfl P161_0
    obtain ⟨_, _, ⟨T163, L163, k163, n163⟩, -, X163, ⟨Lc163, hQ163, l163, y163, z163⟩, st163⟩ := X161.virtualBack hx (y := (⟨"com/example/near_duplicate_finder/nearduplicatefinder/Banding", "key", "([JI)J"⟩ : MethodName)) (z := (⟨"com/example/near_duplicate_finder/nearduplicatefinder/Banding", "key", "([JI)J"⟩ : MethodName)) hown (mvT hZ (W 17 rfl)) (mvT hZ (W 18 rfl)) (notFace_of_selects (args := #[]) (mvT hZ (W 20 rfl))) (mvT hZ (W 20 rfl)) (mvT hZ (W 19 rfl)) (by decide) (backOf (W := 0) (rm3 l Z a0 hw [] b159 b111 (4 : Int32) (1 : Int32) k111 q2 q3 q4 q5 q6 (q2 + q6) (own_mix ((-7046029254386353131 : Int64) ^^^ q6)) T161.heap n0 Z0_c162 P161_1 V_b111_c162 (Or.inr (Or.inr (Or.inr (Or.inr (Or.inl ⟨rfl, rfl, rfl⟩)))))) hZ (W 21 rfl) (W 5 rfl) (by decide) (by decide)) q163a q163c (g := (mkF m 83 #[.val (.int p1), .val (.long q2), .second, .val (.long q3), .second, .val (.long q4), .second, .val (.long q5), .second, .val (.long q6), .second, .val (.int (1 : Int32)), .val (.int (6 : Int32)), .val (.int (4 : Int32)), .val (.ref b111), .val (.ref b159), .unset, .unset, .unset, .unset, .unset] [(.int (4 : Int32)), (.ref b111), (.ref b159)])) rfl (by rw [hml]; rfl) (Steps.refl _) (argsL := [(.ref b111), (.int (4 : Int32))]) (rest := []) (lenOf pd_3 rfl) rfl (by show 2 * 0 + _ ≤ _; exact Nat.le_of_eq rfl) (hb hby at_83) (fun _ _ => ⟨rfl, rfl, (by decide : 2 + 0 ≤ _), (by decide : 8 + 0 ≤ _)⟩)
    dsimp only [Pt.U, Pt.locs, Pt.cells, Pt.slots] at X163 l163 y163 z163 st163 hQ163
    subst l163 y163 z163
    obtain ⟨rfl, N163q, e163⟩ := hQ163
    have N163 := Fr.app N161 N163q
    refine own_goT st163 ?_
    show own_Run p e below _ T163 (mkF m 86 #[.val (.int p1), .val (.long q2), .second, .val (.long q3), .second, .val (.long q4), .second, .val (.long q5), .second, .val (.long q6), .second, .val (.int (1 : Int32)), .val (.int (6 : Int32)), .val (.int (4 : Int32)), .val (.ref b111), .val (.ref b159), .unset, .unset, .unset, .unset, .unset] [(.long (own_mix ((-7046029254386353131 : Int64) ^^^ q6)))])
    refine own_go (fun _ k => XS.lstore X163.here hx rfl (hb hby at_86) rfl (l' := #[.val (.int p1), .val (.long q2), .second, .val (.long q3), .second, .val (.long q4), .second, .val (.long q5), .second, .val (.long q6), .second, .val (.int (1 : Int32)), .val (.int (6 : Int32)), .val (.int (4 : Int32)), .val (.ref b111), .val (.ref b159), .val (.long (own_mix ((-7046029254386353131 : Int64) ^^^ q6))), .second, .unset, .unset, .unset]) rfl k) ?_
    refine own_go (fun _ k => XS.iload X163.here hx rfl (hb hby at_88) rfl k) ?_
    refine own_go (fun _ k => XS.iload X163.here hx rfl (hb hby at_90) rfl k) ?_
    refine own_go (fun _ k => XS.imul X163.here hx rfl (hb hby at_92) rfl k) ?_
    show own_Run p e below _ T163 (mkF m 93 #[.val (.int p1), .val (.long q2), .second, .val (.long q3), .second, .val (.long q4), .second, .val (.long q5), .second, .val (.long q6), .second, .val (.int (1 : Int32)), .val (.int (6 : Int32)), .val (.int (4 : Int32)), .val (.ref b111), .val (.ref b159), .val (.long (own_mix ((-7046029254386353131 : Int64) ^^^ q6))), .second, .unset, .unset, .unset] [(.int ((4 : Int32) * (1 : Int32)))])
    rw [show ((4 : Int32) * (1 : Int32)) = (4 : Int32) by decide]
    show own_Run p e below _ T163 (mkF m 93 #[.val (.int p1), .val (.long q2), .second, .val (.long q3), .second, .val (.long q4), .second, .val (.long q5), .second, .val (.long q6), .second, .val (.int (1 : Int32)), .val (.int (6 : Int32)), .val (.int (4 : Int32)), .val (.ref b111), .val (.ref b159), .val (.long (own_mix ((-7046029254386353131 : Int64) ^^^ q6))), .second, .unset, .unset, .unset] [(.int (4 : Int32))])
    refine own_go (fun _ k => XS.istore X163.here hx rfl (hb hby at_93) rfl (l' := #[.val (.int p1), .val (.long q2), .second, .val (.long q3), .second, .val (.long q4), .second, .val (.long q5), .second, .val (.long q6), .second, .val (.int (1 : Int32)), .val (.int (6 : Int32)), .val (.int (4 : Int32)), .val (.ref b111), .val (.ref b159), .val (.long (own_mix ((-7046029254386353131 : Int64) ^^^ q6))), .second, .val (.int (4 : Int32)), .unset, .unset]) rfl k) ?_
    show own_Run p e below _ T163 (mkF m 95 #[.val (.int p1), .val (.long q2), .second, .val (.long q3), .second, .val (.long q4), .second, .val (.long q5), .second, .val (.long q6), .second, .val (.int (1 : Int32)), .val (.int (6 : Int32)), .val (.int (4 : Int32)), .val (.ref b111), .val (.ref b159), .val (.long (own_mix ((-7046029254386353131 : Int64) ^^^ q6))), .second, .val (.int (4 : Int32)), .unset, .unset] [])
    refine own_go (X163.ldc2Long hx hown (mvT hZ (W 29 rfl)) (g := (mkF m 95 #[.val (.int p1), .val (.long q2), .second, .val (.long q3), .second, .val (.long q4), .second, .val (.long q5), .second, .val (.long q6), .second, .val (.int (1 : Int32)), .val (.int (6 : Int32)), .val (.int (4 : Int32)), .val (.ref b111), .val (.ref b159), .val (.long (own_mix ((-7046029254386353131 : Int64) ^^^ q6))), .second, .val (.int (4 : Int32)), .unset, .unset] [])) rfl (hb hby at_95)) ?_
    show own_Run p e below _ T163 (mkF m 98 #[.val (.int p1), .val (.long q2), .second, .val (.long q3), .second, .val (.long q4), .second, .val (.long q5), .second, .val (.long q6), .second, .val (.int (1 : Int32)), .val (.int (6 : Int32)), .val (.int (4 : Int32)), .val (.ref b111), .val (.ref b159), .val (.long (own_mix ((-7046029254386353131 : Int64) ^^^ q6))), .second, .val (.int (4 : Int32)), .unset, .unset] [(.long (-7046029254386353131 : Int64))])
    refine own_go (fun _ k => XS.aload X163.here hx rfl (hb hby at_98) rfl rfl k) ?_
    refine own_go (fun _ k => XS.iload X163.here hx rfl (hb hby at_100) rfl k) ?_
    show own_Run p e below _ T163 (mkF m 102 #[.val (.int p1), .val (.long q2), .second, .val (.long q3), .second, .val (.long q4), .second, .val (.long q5), .second, .val (.long q6), .second, .val (.int (1 : Int32)), .val (.int (6 : Int32)), .val (.int (4 : Int32)), .val (.ref b111), .val (.ref b159), .val (.long (own_mix ((-7046029254386353131 : Int64) ^^^ q6))), .second, .val (.int (4 : Int32)), .unset, .unset] [(.int (4 : Int32)), (.ref b111), (.long (-7046029254386353131 : Int64))])
    obtain ⟨cl164, Ar164, q164, S164, N164, H164, G164⟩ := id V_b111_c162
    have hin164 : ¬ ((4 : Int32) < 0 ∨ cl164.slots.size ≤ ((4 : Int32)).toNatClampNeg) := inb_of S164 ⟨by decide, by decide⟩
    refine own_go (X163.laload hx (j := (4 : Int32)) (v := (.long q6)) (by rw [e163]; exact Ar164.1) (State.isArrayOf_alike hZ.alike Ar164.2.1) Ar164.2.2 hin164 (H164.at hin164 rfl) (g := (mkF m 102 #[.val (.int p1), .val (.long q2), .second, .val (.long q3), .second, .val (.long q4), .second, .val (.long q5), .second, .val (.long q6), .second, .val (.int (1 : Int32)), .val (.int (6 : Int32)), .val (.int (4 : Int32)), .val (.ref b111), .val (.ref b159), .val (.long (own_mix ((-7046029254386353131 : Int64) ^^^ q6))), .second, .val (.int (4 : Int32)), .unset, .unset] [(.int (4 : Int32)), (.ref b111), (.long (-7046029254386353131 : Int64))])) rfl rfl (hb hby at_102)) ?_
    show own_Run p e below _ T163 (mkF m 103 #[.val (.int p1), .val (.long q2), .second, .val (.long q3), .second, .val (.long q4), .second, .val (.long q5), .second, .val (.long q6), .second, .val (.int (1 : Int32)), .val (.int (6 : Int32)), .val (.int (4 : Int32)), .val (.ref b111), .val (.ref b159), .val (.long (own_mix ((-7046029254386353131 : Int64) ^^^ q6))), .second, .val (.int (4 : Int32)), .unset, .unset] [(.long q6), (.long (-7046029254386353131 : Int64))])
    refine own_go (fun _ k => XS.lxor X163.here hx rfl (hb hby at_103) rfl k) ?_
    show own_Run p e below _ T163 (mkF m 104 #[.val (.int p1), .val (.long q2), .second, .val (.long q3), .second, .val (.long q4), .second, .val (.long q5), .second, .val (.long q6), .second, .val (.int (1 : Int32)), .val (.int (6 : Int32)), .val (.int (4 : Int32)), .val (.ref b111), .val (.ref b159), .val (.long (own_mix ((-7046029254386353131 : Int64) ^^^ q6))), .second, .val (.int (4 : Int32)), .unset, .unset] [(.long ((-7046029254386353131 : Int64) ^^^ q6))])
    obtain ⟨_, _, ⟨T165, L165, k165, n165⟩, -, X165, ⟨Lc165, hQ165, l165, y165, z165⟩, st165⟩ := Jvm.LawKit.callS X163 hx (y := (⟨"com/example/near_duplicate_finder/nearduplicatefinder/BandingKeyPinLaw", "mixRef", "(J)J"⟩ : MethodName)) hown (mvT hZ (W 30 rfl)) (mvT hZ (W 31 rfl)) (mvT hZ (W 32 rfl)) (mvT hZ (W 33 rfl)) (by decide) (backOf (W := 0) (rm5 l Z a0 hw [] ((-7046029254386353131 : Int64) ^^^ q6) T161.heap n0 Z0_c162 ) hZ (W 33 rfl) (W 32 rfl) (by decide) (by decide)) (g := (mkF m 104 #[.val (.int p1), .val (.long q2), .second, .val (.long q3), .second, .val (.long q4), .second, .val (.long q5), .second, .val (.long q6), .second, .val (.int (1 : Int32)), .val (.int (6 : Int32)), .val (.int (4 : Int32)), .val (.ref b111), .val (.ref b159), .val (.long (own_mix ((-7046029254386353131 : Int64) ^^^ q6))), .second, .val (.int (4 : Int32)), .unset, .unset] [(.long ((-7046029254386353131 : Int64) ^^^ q6))])) rfl (by rw [hml]; rfl) (argsL := [(.long ((-7046029254386353131 : Int64) ^^^ q6))]) (rest := []) (lenOf pd_1 rfl) rfl (by show 2 * 0 + _ ≤ _; exact Nat.le_of_eq rfl) (hb hby at_104) (fun _ _ => ⟨rfl, e163, (by decide : 2 + 0 ≤ _), (by decide : 8 + 0 ≤ _)⟩)
    dsimp only [Pt.U, Pt.locs, Pt.cells, Pt.slots] at X165 l165 y165 z165 st165 hQ165
    subst l165 y165 z165
    obtain ⟨rfl, N165q, e165⟩ := hQ165
    have N165 := Fr.app N163 N165q
    refine own_go st165 ?_
    show own_Run p e below _ T165 (mkF m 107 #[.val (.int p1), .val (.long q2), .second, .val (.long q3), .second, .val (.long q4), .second, .val (.long q5), .second, .val (.long q6), .second, .val (.int (1 : Int32)), .val (.int (6 : Int32)), .val (.int (4 : Int32)), .val (.ref b111), .val (.ref b159), .val (.long (own_mix ((-7046029254386353131 : Int64) ^^^ q6))), .second, .val (.int (4 : Int32)), .unset, .unset] [(.long (own_mix ((-7046029254386353131 : Int64) ^^^ q6)))])
    refine own_go (fun _ k => XS.lstore X165.here hx rfl (hb hby at_107) rfl (l' := #[.val (.int p1), .val (.long q2), .second, .val (.long q3), .second, .val (.long q4), .second, .val (.long q5), .second, .val (.long q6), .second, .val (.int (1 : Int32)), .val (.int (6 : Int32)), .val (.int (4 : Int32)), .val (.ref b111), .val (.ref b159), .val (.long (own_mix ((-7046029254386353131 : Int64) ^^^ q6))), .second, .val (.int (4 : Int32)), .val (.long (own_mix ((-7046029254386353131 : Int64) ^^^ q6))), .second]) rfl k) ?_
    refine own_go (fun _ k => XS.iload X165.here hx rfl (hb hby at_109) rfl k) ?_
    refine own_go (fun _ k => XS.iconst X165.here hx rfl (hb hby at_111) k) ?_
    show own_Run p e below _ T165 (mkF m 112 #[.val (.int p1), .val (.long q2), .second, .val (.long q3), .second, .val (.long q4), .second, .val (.long q5), .second, .val (.long q6), .second, .val (.int (1 : Int32)), .val (.int (6 : Int32)), .val (.int (4 : Int32)), .val (.ref b111), .val (.ref b159), .val (.long (own_mix ((-7046029254386353131 : Int64) ^^^ q6))), .second, .val (.int (4 : Int32)), .val (.long (own_mix ((-7046029254386353131 : Int64) ^^^ q6))), .second] [(.int (2 : Int32)), (.int (1 : Int32))])
    refine own_go (fun _ k => XS.icmpYes X165.here hx rfl (pc0 := 112) (pc' := 130) rfl (hb hby at_112) rfl (tlt (by decide : (1 : Int32) < (2 : Int32))).1 (by decide) (by decide) k) ?_
    show own_Run p e below _ T165 (mkF m 130 #[.val (.int p1), .val (.long q2), .second, .val (.long q3), .second, .val (.long q4), .second, .val (.long q5), .second, .val (.long q6), .second, .val (.int (1 : Int32)), .val (.int (6 : Int32)), .val (.int (4 : Int32)), .val (.ref b111), .val (.ref b159), .val (.long (own_mix ((-7046029254386353131 : Int64) ^^^ q6))), .second, .val (.int (4 : Int32)), .val (.long (own_mix ((-7046029254386353131 : Int64) ^^^ q6))), .second] [])
    refine own_go (fun _ k => XS.iload X165.here hx rfl (hb hby at_130) rfl k) ?_
    refine own_go (fun _ k => XS.iconst X165.here hx rfl (hb hby at_132) k) ?_
    show own_Run p e below _ T165 (mkF m 133 #[.val (.int p1), .val (.long q2), .second, .val (.long q3), .second, .val (.long q4), .second, .val (.long q5), .second, .val (.long q6), .second, .val (.int (1 : Int32)), .val (.int (6 : Int32)), .val (.int (4 : Int32)), .val (.ref b111), .val (.ref b159), .val (.long (own_mix ((-7046029254386353131 : Int64) ^^^ q6))), .second, .val (.int (4 : Int32)), .val (.long (own_mix ((-7046029254386353131 : Int64) ^^^ q6))), .second] [(.int (3 : Int32)), (.int (1 : Int32))])
    refine own_go (fun _ k => XS.icmpYes X165.here hx rfl (pc0 := 133) (pc' := 151) rfl (hb hby at_133) rfl (tlt (by decide : (1 : Int32) < (3 : Int32))).1 (by decide) (by decide) k) ?_
    show own_Run p e below _ T165 (mkF m 151 #[.val (.int p1), .val (.long q2), .second, .val (.long q3), .second, .val (.long q4), .second, .val (.long q5), .second, .val (.long q6), .second, .val (.int (1 : Int32)), .val (.int (6 : Int32)), .val (.int (4 : Int32)), .val (.ref b111), .val (.ref b159), .val (.long (own_mix ((-7046029254386353131 : Int64) ^^^ q6))), .second, .val (.int (4 : Int32)), .val (.long (own_mix ((-7046029254386353131 : Int64) ^^^ q6))), .second] [])
    refine own_go (fun _ k => XS.lload X165.here hx rfl (hb hby at_151) rfl k) ?_
    refine own_go (fun _ k => XS.lload X165.here hx rfl (hb hby at_153) rfl k) ?_
    refine own_go (fun _ k => XS.lcmp X165.here hx rfl (hb hby at_155) rfl k) ?_
    show own_Run p e below _ T165 (mkF m 156 #[.val (.int p1), .val (.long q2), .second, .val (.long q3), .second, .val (.long q4), .second, .val (.long q5), .second, .val (.long q6), .second, .val (.int (1 : Int32)), .val (.int (6 : Int32)), .val (.int (4 : Int32)), .val (.ref b111), .val (.ref b159), .val (.long (own_mix ((-7046029254386353131 : Int64) ^^^ q6))), .second, .val (.int (4 : Int32)), .val (.long (own_mix ((-7046029254386353131 : Int64) ^^^ q6))), .second] [(.int (lcmpW (own_mix ((-7046029254386353131 : Int64) ^^^ q6)) (own_mix ((-7046029254386353131 : Int64) ^^^ q6))))])
    refine own_go (fun _ k => XS.ifNo X165.here hx rfl (hb hby at_156) rfl (own_lcTe rfl).2 k) ?_
    show own_Run p e below _ T165 (mkF m 159 #[.val (.int p1), .val (.long q2), .second, .val (.long q3), .second, .val (.long q4), .second, .val (.long q5), .second, .val (.long q6), .second, .val (.int (1 : Int32)), .val (.int (6 : Int32)), .val (.int (4 : Int32)), .val (.ref b111), .val (.ref b159), .val (.long (own_mix ((-7046029254386353131 : Int64) ^^^ q6))), .second, .val (.int (4 : Int32)), .val (.long (own_mix ((-7046029254386353131 : Int64) ^^^ q6))), .second] [])
    refine own_go (fun _ k => XS.iconst X165.here hx rfl (hb hby at_159) k) ?_
    refine own_go (fun _ k => XS.goto X165.here hx rfl (pc0 := 160) (pc' := 164) rfl (hb hby at_160) (by decide) (by decide) k) ?_
    show own_Run p e below _ T165 (mkF m 164 #[.val (.int p1), .val (.long q2), .second, .val (.long q3), .second, .val (.long q4), .second, .val (.long q5), .second, .val (.long q6), .second, .val (.int (1 : Int32)), .val (.int (6 : Int32)), .val (.int (4 : Int32)), .val (.ref b111), .val (.ref b159), .val (.long (own_mix ((-7046029254386353131 : Int64) ^^^ q6))), .second, .val (.int (4 : Int32)), .val (.long (own_mix ((-7046029254386353131 : Int64) ^^^ q6))), .second] [(.int (1 : Int32))])
    refine own_done (Q := fun v h L => Q0 Z p1 q2 q3 q4 q5 q6 h0 n0 v h L) (v := (some (.int (1 : Int32)))) X165 (fun h => by rw [hret] at h; cases h) hlk (fun fs hr => retN X165 hx (t := .boolean) hret (by simp) (hb hby at_164) hr) ?_ (by decide) (by decide)
    show Q0 Z p1 q2 q3 q4 q5 q6 h0 n0 _ T165.heap _
    rw [e165]
    exact ⟨rfl, N165⟩
  · show own_Run p e below _ T129 (mkF m 64 #[.val (.int p1), .val (.long q2), .second, .val (.long q3), .second, .val (.long q4), .second, .val (.long q5), .second, .val (.long q6), .second, .val (.int (1 : Int32)), .val (.int (6 : Int32)), .val (.int (5 : Int32)), .val (.ref b111), .unset, .unset, .unset, .unset, .unset, .unset] [])
    obtain ⟨T166, h166, X166, e166, E166, A166, D166, -, st166⟩ := newO X129 hx hZ hown (W 3 rfl) (W 4 rfl) (W 5 rfl) e129 (g := (mkF m 64 #[.val (.int p1), .val (.long q2), .second, .val (.long q3), .second, .val (.long q4), .second, .val (.long q5), .second, .val (.long q6), .second, .val (.int (1 : Int32)), .val (.int (6 : Int32)), .val (.int (5 : Int32)), .val (.ref b111), .unset, .unset, .unset, .unset, .unset, .unset] [])) rfl (hb hby at_64) (by decide) (by decide)
    refine own_go st166 ?_
    obtain ⟨b166, g166⟩ : ∃ z, z = h129.size := ⟨_, rfl⟩
    rw [← g166] at A166 D166
    rw [← g166]
    show own_Run p e below _ T166 (mkF m 67 #[.val (.int p1), .val (.long q2), .second, .val (.long q3), .second, .val (.long q4), .second, .val (.long q5), .second, .val (.long q6), .second, .val (.int (1 : Int32)), .val (.int (6 : Int32)), .val (.int (5 : Int32)), .val (.ref b111), .unset, .unset, .unset, .unset, .unset, .unset] [(.ref b166)])
    have ne_b111_b166 : b111 ≠ b166 := Nat.ne_of_lt (Nat.lt_of_lt_of_eq V_b111_c129.lt g166.symm)
    have g_b166 : n0 ≤ b166 := Nat.le_trans Z0_c130 (Nat.le_of_eq g166.symm)
    have sz_b166 : h0.size ≤ b166 := Nat.le_trans K0_c130.1 (Nat.le_of_eq g166.symm)
    have Z0_c167 := Nat.le_trans Z0_c130 E166.1
    have K0_c167 := K0_c130.ext E166
    have V_b111_c167 := V_b111_c129.ext E166
    have F_bands_b166 : Fld Z h166 b166 "com/example/near_duplicate_finder/nearduplicatefinder/Banding" "bands" "I" (.int (0 : Int32)) := D166 (Or.inr (W 14 rfl)) (ty := .int) (by decide)
    have F_rows_b166 : Fld Z h166 b166 "com/example/near_duplicate_finder/nearduplicatefinder/Banding" "rows" "I" (.int (0 : Int32)) := D166 (Or.inr (W 16 rfl)) (ty := .int) (by decide)
    refine own_go (fun _ k => XS.dup X166.here hx rfl (hb hby at_67) rfl rfl k) ?_
    refine own_go (fun _ k => XS.iload X166.here hx rfl (hb hby at_68) rfl k) ?_
    refine own_go (fun _ k => XS.iload X166.here hx rfl (hb hby at_70) rfl k) ?_
    show own_Run p e below _ T166 (mkF m 72 #[.val (.int p1), .val (.long q2), .second, .val (.long q3), .second, .val (.long q4), .second, .val (.long q5), .second, .val (.long q6), .second, .val (.int (1 : Int32)), .val (.int (6 : Int32)), .val (.int (5 : Int32)), .val (.ref b111), .unset, .unset, .unset, .unset, .unset, .unset] [(.int (1 : Int32)), (.int (6 : Int32)), (.ref b166), (.ref b166)])
    obtain ⟨_, _, ⟨T168, L168, k168, n168⟩, -, X168, ⟨Lc168, hQ168, l168, y168, z168⟩, st168⟩ := X166.specialBack hx (y := (⟨"com/example/near_duplicate_finder/nearduplicatefinder/Banding", "<init>", "(II)V"⟩ : MethodName)) rfl hown (mvT hZ (W 6 rfl)) (mvT hZ (W 7 rfl)) (mvT hZ (W 8 rfl)) (by decide) (backOf (W := 1) (rm1 l Z a0 hw [] b166 (6 : Int32) (1 : Int32) (.int (0 : Int32)) (.int (0 : Int32)) h166 n0 Z0_c167 A166 F_bands_b166 F_rows_b166 g_b166 (by decide) (by decide) (by decide)) hZ (W 8 rfl) (W 5 rfl) (by decide) (by decide)) (g := (mkF m 72 #[.val (.int p1), .val (.long q2), .second, .val (.long q3), .second, .val (.long q4), .second, .val (.long q5), .second, .val (.long q6), .second, .val (.int (1 : Int32)), .val (.int (6 : Int32)), .val (.int (5 : Int32)), .val (.ref b111), .unset, .unset, .unset, .unset, .unset, .unset] [(.int (1 : Int32)), (.int (6 : Int32)), (.ref b166), (.ref b166)])) rfl (by rw [hml]; rfl) (Steps.refl _) (a := b166) (argsL := [(.int (6 : Int32)), (.int (1 : Int32))]) (rest := [(.ref b166)]) (lenOf pd_2 rfl) rfl (by show 2 * 0 + _ ≤ _; exact Nat.le_of_eq rfl) (hb hby at_72) (fun _ _ => ⟨rfl, e166, (by decide : 2 + 0 ≤ _), (by decide : 8 + 0 ≤ _)⟩)
    dsimp only [Pt.U, Pt.locs, Pt.cells, Pt.slots] at X168 l168 y168 z168 st168 hQ168
    subst l168 y168 z168
    obtain ⟨rfl, N168q, K168, P168_0, P168_1⟩ := hQ168
    have N168 := Fr.app N129 N168q
    refine own_goT st168 ?_
    show own_Run p e below _ T168 (mkF m 75 #[.val (.int p1), .val (.long q2), .second, .val (.long q3), .second, .val (.long q4), .second, .val (.long q5), .second, .val (.long q6), .second, .val (.int (1 : Int32)), .val (.int (6 : Int32)), .val (.int (5 : Int32)), .val (.ref b111), .unset, .unset, .unset, .unset, .unset, .unset] [(.ref b166)])
    have Z0_c169 := Nat.le_trans Z0_c167 K168.1
    have K0_c169 := K0_c167.trans K168 (allS (Or.inr sz_b166) all0)
    have V_b111_c169 := V_b111_c167.keep K168 (ninS ne_b111_b166 nin0)
    have A166_c169 := A166.keep K168
    refine own_go (fun _ k => XS.astore X168.here hx rfl (hb hby at_75) rfl rfl (l' := #[.val (.int p1), .val (.long q2), .second, .val (.long q3), .second, .val (.long q4), .second, .val (.long q5), .second, .val (.long q6), .second, .val (.int (1 : Int32)), .val (.int (6 : Int32)), .val (.int (5 : Int32)), .val (.ref b111), .val (.ref b166), .unset, .unset, .unset, .unset, .unset]) rfl k) ?_
    refine own_go (fun _ k => XS.aload X168.here hx rfl (hb hby at_77) rfl rfl k) ?_
    refine own_go (fun _ k => XS.aload X168.here hx rfl (hb hby at_79) rfl rfl k) ?_
    refine own_go (fun _ k => XS.iload X168.here hx rfl (hb hby at_81) rfl k) ?_
    show own_Run p e below _ T168 (mkF m 83 #[.val (.int p1), .val (.long q2), .second, .val (.long q3), .second, .val (.long q4), .second, .val (.long q5), .second, .val (.long q6), .second, .val (.int (1 : Int32)), .val (.int (6 : Int32)), .val (.int (5 : Int32)), .val (.ref b111), .val (.ref b166), .unset, .unset, .unset, .unset, .unset] [(.int (5 : Int32)), (.ref b111), (.ref b166)])
    obtain ⟨cq170, kq170, q170a, q170b, q170c⟩ := isOf hZ rfl P168_0
    obtain ⟨_, _, ⟨T170, L170, k170, n170⟩, -, X170, ⟨Lc170, hQ170, l170, y170, z170⟩, st170⟩ := X168.virtualBack hx (y := (⟨"com/example/near_duplicate_finder/nearduplicatefinder/Banding", "key", "([JI)J"⟩ : MethodName)) (z := (⟨"com/example/near_duplicate_finder/nearduplicatefinder/Banding", "key", "([JI)J"⟩ : MethodName)) hown (mvT hZ (W 17 rfl)) (mvT hZ (W 18 rfl)) (notFace_of_selects (args := #[]) (mvT hZ (W 20 rfl))) (mvT hZ (W 20 rfl)) (mvT hZ (W 19 rfl)) (by decide) (backOf (W := 0) (rm3 l Z a0 hw [] b166 b111 (5 : Int32) (1 : Int32) k111 q2 q3 q4 q5 q6 (q2 + q6) (own_mix ((-7046029254386353131 : Int64) ^^^ (q2 + q6))) T168.heap n0 Z0_c169 P168_1 V_b111_c169 (Or.inr (Or.inr (Or.inr (Or.inr (Or.inr (Or.inl ⟨rfl, rfl, rfl⟩))))))) hZ (W 21 rfl) (W 5 rfl) (by decide) (by decide)) q170a q170c (g := (mkF m 83 #[.val (.int p1), .val (.long q2), .second, .val (.long q3), .second, .val (.long q4), .second, .val (.long q5), .second, .val (.long q6), .second, .val (.int (1 : Int32)), .val (.int (6 : Int32)), .val (.int (5 : Int32)), .val (.ref b111), .val (.ref b166), .unset, .unset, .unset, .unset, .unset] [(.int (5 : Int32)), (.ref b111), (.ref b166)])) rfl (by rw [hml]; rfl) (Steps.refl _) (argsL := [(.ref b111), (.int (5 : Int32))]) (rest := []) (lenOf pd_3 rfl) rfl (by show 2 * 0 + _ ≤ _; exact Nat.le_of_eq rfl) (hb hby at_83) (fun _ _ => ⟨rfl, rfl, (by decide : 2 + 0 ≤ _), (by decide : 8 + 0 ≤ _)⟩)
    dsimp only [Pt.U, Pt.locs, Pt.cells, Pt.slots] at X170 l170 y170 z170 st170 hQ170
    subst l170 y170 z170
    obtain ⟨rfl, N170q, e170⟩ := hQ170
    have N170 := Fr.app N168 N170q
    refine own_goT st170 ?_
    show own_Run p e below _ T170 (mkF m 86 #[.val (.int p1), .val (.long q2), .second, .val (.long q3), .second, .val (.long q4), .second, .val (.long q5), .second, .val (.long q6), .second, .val (.int (1 : Int32)), .val (.int (6 : Int32)), .val (.int (5 : Int32)), .val (.ref b111), .val (.ref b166), .unset, .unset, .unset, .unset, .unset] [(.long (own_mix ((-7046029254386353131 : Int64) ^^^ (q2 + q6))))])
    refine own_go (fun _ k => XS.lstore X170.here hx rfl (hb hby at_86) rfl (l' := #[.val (.int p1), .val (.long q2), .second, .val (.long q3), .second, .val (.long q4), .second, .val (.long q5), .second, .val (.long q6), .second, .val (.int (1 : Int32)), .val (.int (6 : Int32)), .val (.int (5 : Int32)), .val (.ref b111), .val (.ref b166), .val (.long (own_mix ((-7046029254386353131 : Int64) ^^^ (q2 + q6)))), .second, .unset, .unset, .unset]) rfl k) ?_
    refine own_go (fun _ k => XS.iload X170.here hx rfl (hb hby at_88) rfl k) ?_
    refine own_go (fun _ k => XS.iload X170.here hx rfl (hb hby at_90) rfl k) ?_
    refine own_go (fun _ k => XS.imul X170.here hx rfl (hb hby at_92) rfl k) ?_
    show own_Run p e below _ T170 (mkF m 93 #[.val (.int p1), .val (.long q2), .second, .val (.long q3), .second, .val (.long q4), .second, .val (.long q5), .second, .val (.long q6), .second, .val (.int (1 : Int32)), .val (.int (6 : Int32)), .val (.int (5 : Int32)), .val (.ref b111), .val (.ref b166), .val (.long (own_mix ((-7046029254386353131 : Int64) ^^^ (q2 + q6)))), .second, .unset, .unset, .unset] [(.int ((5 : Int32) * (1 : Int32)))])
    rw [show ((5 : Int32) * (1 : Int32)) = (5 : Int32) by decide]
    show own_Run p e below _ T170 (mkF m 93 #[.val (.int p1), .val (.long q2), .second, .val (.long q3), .second, .val (.long q4), .second, .val (.long q5), .second, .val (.long q6), .second, .val (.int (1 : Int32)), .val (.int (6 : Int32)), .val (.int (5 : Int32)), .val (.ref b111), .val (.ref b166), .val (.long (own_mix ((-7046029254386353131 : Int64) ^^^ (q2 + q6)))), .second, .unset, .unset, .unset] [(.int (5 : Int32))])
    refine own_go (fun _ k => XS.istore X170.here hx rfl (hb hby at_93) rfl (l' := #[.val (.int p1), .val (.long q2), .second, .val (.long q3), .second, .val (.long q4), .second, .val (.long q5), .second, .val (.long q6), .second, .val (.int (1 : Int32)), .val (.int (6 : Int32)), .val (.int (5 : Int32)), .val (.ref b111), .val (.ref b166), .val (.long (own_mix ((-7046029254386353131 : Int64) ^^^ (q2 + q6)))), .second, .val (.int (5 : Int32)), .unset, .unset]) rfl k) ?_
    show own_Run p e below _ T170 (mkF m 95 #[.val (.int p1), .val (.long q2), .second, .val (.long q3), .second, .val (.long q4), .second, .val (.long q5), .second, .val (.long q6), .second, .val (.int (1 : Int32)), .val (.int (6 : Int32)), .val (.int (5 : Int32)), .val (.ref b111), .val (.ref b166), .val (.long (own_mix ((-7046029254386353131 : Int64) ^^^ (q2 + q6)))), .second, .val (.int (5 : Int32)), .unset, .unset] [])
    refine own_go (X170.ldc2Long hx hown (mvT hZ (W 29 rfl)) (g := (mkF m 95 #[.val (.int p1), .val (.long q2), .second, .val (.long q3), .second, .val (.long q4), .second, .val (.long q5), .second, .val (.long q6), .second, .val (.int (1 : Int32)), .val (.int (6 : Int32)), .val (.int (5 : Int32)), .val (.ref b111), .val (.ref b166), .val (.long (own_mix ((-7046029254386353131 : Int64) ^^^ (q2 + q6)))), .second, .val (.int (5 : Int32)), .unset, .unset] [])) rfl (hb hby at_95)) ?_
    show own_Run p e below _ T170 (mkF m 98 #[.val (.int p1), .val (.long q2), .second, .val (.long q3), .second, .val (.long q4), .second, .val (.long q5), .second, .val (.long q6), .second, .val (.int (1 : Int32)), .val (.int (6 : Int32)), .val (.int (5 : Int32)), .val (.ref b111), .val (.ref b166), .val (.long (own_mix ((-7046029254386353131 : Int64) ^^^ (q2 + q6)))), .second, .val (.int (5 : Int32)), .unset, .unset] [(.long (-7046029254386353131 : Int64))])
    refine own_go (fun _ k => XS.aload X170.here hx rfl (hb hby at_98) rfl rfl k) ?_
    refine own_go (fun _ k => XS.iload X170.here hx rfl (hb hby at_100) rfl k) ?_
    show own_Run p e below _ T170 (mkF m 102 #[.val (.int p1), .val (.long q2), .second, .val (.long q3), .second, .val (.long q4), .second, .val (.long q5), .second, .val (.long q6), .second, .val (.int (1 : Int32)), .val (.int (6 : Int32)), .val (.int (5 : Int32)), .val (.ref b111), .val (.ref b166), .val (.long (own_mix ((-7046029254386353131 : Int64) ^^^ (q2 + q6)))), .second, .val (.int (5 : Int32)), .unset, .unset] [(.int (5 : Int32)), (.ref b111), (.long (-7046029254386353131 : Int64))])
    obtain ⟨cl171, Ar171, q171, S171, N171, H171, G171⟩ := id V_b111_c169
    have hin171 : ¬ ((5 : Int32) < 0 ∨ cl171.slots.size ≤ ((5 : Int32)).toNatClampNeg) := inb_of S171 ⟨by decide, by decide⟩
    refine own_go (X170.laload hx (j := (5 : Int32)) (v := (.long (q2 + q6))) (by rw [e170]; exact Ar171.1) (State.isArrayOf_alike hZ.alike Ar171.2.1) Ar171.2.2 hin171 (H171.at hin171 rfl) (g := (mkF m 102 #[.val (.int p1), .val (.long q2), .second, .val (.long q3), .second, .val (.long q4), .second, .val (.long q5), .second, .val (.long q6), .second, .val (.int (1 : Int32)), .val (.int (6 : Int32)), .val (.int (5 : Int32)), .val (.ref b111), .val (.ref b166), .val (.long (own_mix ((-7046029254386353131 : Int64) ^^^ (q2 + q6)))), .second, .val (.int (5 : Int32)), .unset, .unset] [(.int (5 : Int32)), (.ref b111), (.long (-7046029254386353131 : Int64))])) rfl rfl (hb hby at_102)) ?_
    show own_Run p e below _ T170 (mkF m 103 #[.val (.int p1), .val (.long q2), .second, .val (.long q3), .second, .val (.long q4), .second, .val (.long q5), .second, .val (.long q6), .second, .val (.int (1 : Int32)), .val (.int (6 : Int32)), .val (.int (5 : Int32)), .val (.ref b111), .val (.ref b166), .val (.long (own_mix ((-7046029254386353131 : Int64) ^^^ (q2 + q6)))), .second, .val (.int (5 : Int32)), .unset, .unset] [(.long (q2 + q6)), (.long (-7046029254386353131 : Int64))])
    refine own_go (fun _ k => XS.lxor X170.here hx rfl (hb hby at_103) rfl k) ?_
    show own_Run p e below _ T170 (mkF m 104 #[.val (.int p1), .val (.long q2), .second, .val (.long q3), .second, .val (.long q4), .second, .val (.long q5), .second, .val (.long q6), .second, .val (.int (1 : Int32)), .val (.int (6 : Int32)), .val (.int (5 : Int32)), .val (.ref b111), .val (.ref b166), .val (.long (own_mix ((-7046029254386353131 : Int64) ^^^ (q2 + q6)))), .second, .val (.int (5 : Int32)), .unset, .unset] [(.long ((-7046029254386353131 : Int64) ^^^ (q2 + q6)))])
    obtain ⟨_, _, ⟨T172, L172, k172, n172⟩, -, X172, ⟨Lc172, hQ172, l172, y172, z172⟩, st172⟩ := Jvm.LawKit.callS X170 hx (y := (⟨"com/example/near_duplicate_finder/nearduplicatefinder/BandingKeyPinLaw", "mixRef", "(J)J"⟩ : MethodName)) hown (mvT hZ (W 30 rfl)) (mvT hZ (W 31 rfl)) (mvT hZ (W 32 rfl)) (mvT hZ (W 33 rfl)) (by decide) (backOf (W := 0) (rm5 l Z a0 hw [] ((-7046029254386353131 : Int64) ^^^ (q2 + q6)) T168.heap n0 Z0_c169 ) hZ (W 33 rfl) (W 32 rfl) (by decide) (by decide)) (g := (mkF m 104 #[.val (.int p1), .val (.long q2), .second, .val (.long q3), .second, .val (.long q4), .second, .val (.long q5), .second, .val (.long q6), .second, .val (.int (1 : Int32)), .val (.int (6 : Int32)), .val (.int (5 : Int32)), .val (.ref b111), .val (.ref b166), .val (.long (own_mix ((-7046029254386353131 : Int64) ^^^ (q2 + q6)))), .second, .val (.int (5 : Int32)), .unset, .unset] [(.long ((-7046029254386353131 : Int64) ^^^ (q2 + q6)))])) rfl (by rw [hml]; rfl) (argsL := [(.long ((-7046029254386353131 : Int64) ^^^ (q2 + q6)))]) (rest := []) (lenOf pd_1 rfl) rfl (by show 2 * 0 + _ ≤ _; exact Nat.le_of_eq rfl) (hb hby at_104) (fun _ _ => ⟨rfl, e170, (by decide : 2 + 0 ≤ _), (by decide : 8 + 0 ≤ _)⟩)
    dsimp only [Pt.U, Pt.locs, Pt.cells, Pt.slots] at X172 l172 y172 z172 st172 hQ172
    subst l172 y172 z172
    obtain ⟨rfl, N172q, e172⟩ := hQ172
    have N172 := Fr.app N170 N172q
    refine own_go st172 ?_
    show own_Run p e below _ T172 (mkF m 107 #[.val (.int p1), .val (.long q2), .second, .val (.long q3), .second, .val (.long q4), .second, .val (.long q5), .second, .val (.long q6), .second, .val (.int (1 : Int32)), .val (.int (6 : Int32)), .val (.int (5 : Int32)), .val (.ref b111), .val (.ref b166), .val (.long (own_mix ((-7046029254386353131 : Int64) ^^^ (q2 + q6)))), .second, .val (.int (5 : Int32)), .unset, .unset] [(.long (own_mix ((-7046029254386353131 : Int64) ^^^ (q2 + q6))))])
    refine own_go (fun _ k => XS.lstore X172.here hx rfl (hb hby at_107) rfl (l' := #[.val (.int p1), .val (.long q2), .second, .val (.long q3), .second, .val (.long q4), .second, .val (.long q5), .second, .val (.long q6), .second, .val (.int (1 : Int32)), .val (.int (6 : Int32)), .val (.int (5 : Int32)), .val (.ref b111), .val (.ref b166), .val (.long (own_mix ((-7046029254386353131 : Int64) ^^^ (q2 + q6)))), .second, .val (.int (5 : Int32)), .val (.long (own_mix ((-7046029254386353131 : Int64) ^^^ (q2 + q6)))), .second]) rfl k) ?_
    refine own_go (fun _ k => XS.iload X172.here hx rfl (hb hby at_109) rfl k) ?_
    refine own_go (fun _ k => XS.iconst X172.here hx rfl (hb hby at_111) k) ?_
    show own_Run p e below _ T172 (mkF m 112 #[.val (.int p1), .val (.long q2), .second, .val (.long q3), .second, .val (.long q4), .second, .val (.long q5), .second, .val (.long q6), .second, .val (.int (1 : Int32)), .val (.int (6 : Int32)), .val (.int (5 : Int32)), .val (.ref b111), .val (.ref b166), .val (.long (own_mix ((-7046029254386353131 : Int64) ^^^ (q2 + q6)))), .second, .val (.int (5 : Int32)), .val (.long (own_mix ((-7046029254386353131 : Int64) ^^^ (q2 + q6)))), .second] [(.int (2 : Int32)), (.int (1 : Int32))])
    refine own_go (fun _ k => XS.icmpYes X172.here hx rfl (pc0 := 112) (pc' := 130) rfl (hb hby at_112) rfl (tlt (by decide : (1 : Int32) < (2 : Int32))).1 (by decide) (by decide) k) ?_
    show own_Run p e below _ T172 (mkF m 130 #[.val (.int p1), .val (.long q2), .second, .val (.long q3), .second, .val (.long q4), .second, .val (.long q5), .second, .val (.long q6), .second, .val (.int (1 : Int32)), .val (.int (6 : Int32)), .val (.int (5 : Int32)), .val (.ref b111), .val (.ref b166), .val (.long (own_mix ((-7046029254386353131 : Int64) ^^^ (q2 + q6)))), .second, .val (.int (5 : Int32)), .val (.long (own_mix ((-7046029254386353131 : Int64) ^^^ (q2 + q6)))), .second] [])
    refine own_go (fun _ k => XS.iload X172.here hx rfl (hb hby at_130) rfl k) ?_
    refine own_go (fun _ k => XS.iconst X172.here hx rfl (hb hby at_132) k) ?_
    show own_Run p e below _ T172 (mkF m 133 #[.val (.int p1), .val (.long q2), .second, .val (.long q3), .second, .val (.long q4), .second, .val (.long q5), .second, .val (.long q6), .second, .val (.int (1 : Int32)), .val (.int (6 : Int32)), .val (.int (5 : Int32)), .val (.ref b111), .val (.ref b166), .val (.long (own_mix ((-7046029254386353131 : Int64) ^^^ (q2 + q6)))), .second, .val (.int (5 : Int32)), .val (.long (own_mix ((-7046029254386353131 : Int64) ^^^ (q2 + q6)))), .second] [(.int (3 : Int32)), (.int (1 : Int32))])
    refine own_go (fun _ k => XS.icmpYes X172.here hx rfl (pc0 := 133) (pc' := 151) rfl (hb hby at_133) rfl (tlt (by decide : (1 : Int32) < (3 : Int32))).1 (by decide) (by decide) k) ?_
    show own_Run p e below _ T172 (mkF m 151 #[.val (.int p1), .val (.long q2), .second, .val (.long q3), .second, .val (.long q4), .second, .val (.long q5), .second, .val (.long q6), .second, .val (.int (1 : Int32)), .val (.int (6 : Int32)), .val (.int (5 : Int32)), .val (.ref b111), .val (.ref b166), .val (.long (own_mix ((-7046029254386353131 : Int64) ^^^ (q2 + q6)))), .second, .val (.int (5 : Int32)), .val (.long (own_mix ((-7046029254386353131 : Int64) ^^^ (q2 + q6)))), .second] [])
    refine own_go (fun _ k => XS.lload X172.here hx rfl (hb hby at_151) rfl k) ?_
    refine own_go (fun _ k => XS.lload X172.here hx rfl (hb hby at_153) rfl k) ?_
    refine own_go (fun _ k => XS.lcmp X172.here hx rfl (hb hby at_155) rfl k) ?_
    show own_Run p e below _ T172 (mkF m 156 #[.val (.int p1), .val (.long q2), .second, .val (.long q3), .second, .val (.long q4), .second, .val (.long q5), .second, .val (.long q6), .second, .val (.int (1 : Int32)), .val (.int (6 : Int32)), .val (.int (5 : Int32)), .val (.ref b111), .val (.ref b166), .val (.long (own_mix ((-7046029254386353131 : Int64) ^^^ (q2 + q6)))), .second, .val (.int (5 : Int32)), .val (.long (own_mix ((-7046029254386353131 : Int64) ^^^ (q2 + q6)))), .second] [(.int (lcmpW (own_mix ((-7046029254386353131 : Int64) ^^^ (q2 + q6))) (own_mix ((-7046029254386353131 : Int64) ^^^ (q2 + q6)))))])
    refine own_go (fun _ k => XS.ifNo X172.here hx rfl (hb hby at_156) rfl (own_lcTe rfl).2 k) ?_
    show own_Run p e below _ T172 (mkF m 159 #[.val (.int p1), .val (.long q2), .second, .val (.long q3), .second, .val (.long q4), .second, .val (.long q5), .second, .val (.long q6), .second, .val (.int (1 : Int32)), .val (.int (6 : Int32)), .val (.int (5 : Int32)), .val (.ref b111), .val (.ref b166), .val (.long (own_mix ((-7046029254386353131 : Int64) ^^^ (q2 + q6)))), .second, .val (.int (5 : Int32)), .val (.long (own_mix ((-7046029254386353131 : Int64) ^^^ (q2 + q6)))), .second] [])
    refine own_go (fun _ k => XS.iconst X172.here hx rfl (hb hby at_159) k) ?_
    refine own_go (fun _ k => XS.goto X172.here hx rfl (pc0 := 160) (pc' := 164) rfl (hb hby at_160) (by decide) (by decide) k) ?_
    show own_Run p e below _ T172 (mkF m 164 #[.val (.int p1), .val (.long q2), .second, .val (.long q3), .second, .val (.long q4), .second, .val (.long q5), .second, .val (.long q6), .second, .val (.int (1 : Int32)), .val (.int (6 : Int32)), .val (.int (5 : Int32)), .val (.ref b111), .val (.ref b166), .val (.long (own_mix ((-7046029254386353131 : Int64) ^^^ (q2 + q6)))), .second, .val (.int (5 : Int32)), .val (.long (own_mix ((-7046029254386353131 : Int64) ^^^ (q2 + q6)))), .second] [(.int (1 : Int32))])
    refine own_done (Q := fun v h L => Q0 Z p1 q2 q3 q4 q5 q6 h0 n0 v h L) (v := (some (.int (1 : Int32)))) X172 (fun h => by rw [hret] at h; cases h) hlk (fun fs hr => retN X172 hx (t := .boolean) hret (by simp) (hb hby at_164) hr) ?_ (by decide) (by decide)
    show Q0 Z p1 q2 q3 q4 q5 q6 h0 n0 _ T172.heap _
    rw [e172]
    exact ⟨rfl, N172⟩
  · show own_Run p e below _ T129 (mkF m 64 #[.val (.int p1), .val (.long q2), .second, .val (.long q3), .second, .val (.long q4), .second, .val (.long q5), .second, .val (.long q6), .second, .val (.int (2 : Int32)), .val (.int (3 : Int32)), .val (.int (0 : Int32)), .val (.ref b111), .unset, .unset, .unset, .unset, .unset, .unset] [])
    obtain ⟨T173, h173, X173, e173, E173, A173, D173, -, st173⟩ := newO X129 hx hZ hown (W 3 rfl) (W 4 rfl) (W 5 rfl) e129 (g := (mkF m 64 #[.val (.int p1), .val (.long q2), .second, .val (.long q3), .second, .val (.long q4), .second, .val (.long q5), .second, .val (.long q6), .second, .val (.int (2 : Int32)), .val (.int (3 : Int32)), .val (.int (0 : Int32)), .val (.ref b111), .unset, .unset, .unset, .unset, .unset, .unset] [])) rfl (hb hby at_64) (by decide) (by decide)
    refine own_go st173 ?_
    obtain ⟨b173, g173⟩ : ∃ z, z = h129.size := ⟨_, rfl⟩
    rw [← g173] at A173 D173
    rw [← g173]
    show own_Run p e below _ T173 (mkF m 67 #[.val (.int p1), .val (.long q2), .second, .val (.long q3), .second, .val (.long q4), .second, .val (.long q5), .second, .val (.long q6), .second, .val (.int (2 : Int32)), .val (.int (3 : Int32)), .val (.int (0 : Int32)), .val (.ref b111), .unset, .unset, .unset, .unset, .unset, .unset] [(.ref b173)])
    have ne_b111_b173 : b111 ≠ b173 := Nat.ne_of_lt (Nat.lt_of_lt_of_eq V_b111_c129.lt g173.symm)
    have g_b173 : n0 ≤ b173 := Nat.le_trans Z0_c130 (Nat.le_of_eq g173.symm)
    have sz_b173 : h0.size ≤ b173 := Nat.le_trans K0_c130.1 (Nat.le_of_eq g173.symm)
    have Z0_c174 := Nat.le_trans Z0_c130 E173.1
    have K0_c174 := K0_c130.ext E173
    have V_b111_c174 := V_b111_c129.ext E173
    have F_bands_b173 : Fld Z h173 b173 "com/example/near_duplicate_finder/nearduplicatefinder/Banding" "bands" "I" (.int (0 : Int32)) := D173 (Or.inr (W 14 rfl)) (ty := .int) (by decide)
    have F_rows_b173 : Fld Z h173 b173 "com/example/near_duplicate_finder/nearduplicatefinder/Banding" "rows" "I" (.int (0 : Int32)) := D173 (Or.inr (W 16 rfl)) (ty := .int) (by decide)
    refine own_go (fun _ k => XS.dup X173.here hx rfl (hb hby at_67) rfl rfl k) ?_
    refine own_go (fun _ k => XS.iload X173.here hx rfl (hb hby at_68) rfl k) ?_
    refine own_go (fun _ k => XS.iload X173.here hx rfl (hb hby at_70) rfl k) ?_
    show own_Run p e below _ T173 (mkF m 72 #[.val (.int p1), .val (.long q2), .second, .val (.long q3), .second, .val (.long q4), .second, .val (.long q5), .second, .val (.long q6), .second, .val (.int (2 : Int32)), .val (.int (3 : Int32)), .val (.int (0 : Int32)), .val (.ref b111), .unset, .unset, .unset, .unset, .unset, .unset] [(.int (2 : Int32)), (.int (3 : Int32)), (.ref b173), (.ref b173)])
    obtain ⟨_, _, ⟨T175, L175, k175, n175⟩, -, X175, ⟨Lc175, hQ175, l175, y175, z175⟩, st175⟩ := X173.specialBack hx (y := (⟨"com/example/near_duplicate_finder/nearduplicatefinder/Banding", "<init>", "(II)V"⟩ : MethodName)) rfl hown (mvT hZ (W 6 rfl)) (mvT hZ (W 7 rfl)) (mvT hZ (W 8 rfl)) (by decide) (backOf (W := 1) (rm1 l Z a0 hw [] b173 (3 : Int32) (2 : Int32) (.int (0 : Int32)) (.int (0 : Int32)) h173 n0 Z0_c174 A173 F_bands_b173 F_rows_b173 g_b173 (by decide) (by decide) (by decide)) hZ (W 8 rfl) (W 5 rfl) (by decide) (by decide)) (g := (mkF m 72 #[.val (.int p1), .val (.long q2), .second, .val (.long q3), .second, .val (.long q4), .second, .val (.long q5), .second, .val (.long q6), .second, .val (.int (2 : Int32)), .val (.int (3 : Int32)), .val (.int (0 : Int32)), .val (.ref b111), .unset, .unset, .unset, .unset, .unset, .unset] [(.int (2 : Int32)), (.int (3 : Int32)), (.ref b173), (.ref b173)])) rfl (by rw [hml]; rfl) (Steps.refl _) (a := b173) (argsL := [(.int (3 : Int32)), (.int (2 : Int32))]) (rest := [(.ref b173)]) (lenOf pd_2 rfl) rfl (by show 2 * 0 + _ ≤ _; exact Nat.le_of_eq rfl) (hb hby at_72) (fun _ _ => ⟨rfl, e173, (by decide : 2 + 0 ≤ _), (by decide : 8 + 0 ≤ _)⟩)
    dsimp only [Pt.U, Pt.locs, Pt.cells, Pt.slots] at X175 l175 y175 z175 st175 hQ175
    subst l175 y175 z175
    obtain ⟨rfl, N175q, K175, P175_0, P175_1⟩ := hQ175
    have N175 := Fr.app N129 N175q
    refine own_goT st175 ?_
    show own_Run p e below _ T175 (mkF m 75 #[.val (.int p1), .val (.long q2), .second, .val (.long q3), .second, .val (.long q4), .second, .val (.long q5), .second, .val (.long q6), .second, .val (.int (2 : Int32)), .val (.int (3 : Int32)), .val (.int (0 : Int32)), .val (.ref b111), .unset, .unset, .unset, .unset, .unset, .unset] [(.ref b173)])
    have Z0_c176 := Nat.le_trans Z0_c174 K175.1
    have K0_c176 := K0_c174.trans K175 (allS (Or.inr sz_b173) all0)
    have V_b111_c176 := V_b111_c174.keep K175 (ninS ne_b111_b173 nin0)
    have A173_c176 := A173.keep K175
    refine own_go (fun _ k => XS.astore X175.here hx rfl (hb hby at_75) rfl rfl (l' := #[.val (.int p1), .val (.long q2), .second, .val (.long q3), .second, .val (.long q4), .second, .val (.long q5), .second, .val (.long q6), .second, .val (.int (2 : Int32)), .val (.int (3 : Int32)), .val (.int (0 : Int32)), .val (.ref b111), .val (.ref b173), .unset, .unset, .unset, .unset, .unset]) rfl k) ?_
    refine own_go (fun _ k => XS.aload X175.here hx rfl (hb hby at_77) rfl rfl k) ?_
    refine own_go (fun _ k => XS.aload X175.here hx rfl (hb hby at_79) rfl rfl k) ?_
    refine own_go (fun _ k => XS.iload X175.here hx rfl (hb hby at_81) rfl k) ?_
    show own_Run p e below _ T175 (mkF m 83 #[.val (.int p1), .val (.long q2), .second, .val (.long q3), .second, .val (.long q4), .second, .val (.long q5), .second, .val (.long q6), .second, .val (.int (2 : Int32)), .val (.int (3 : Int32)), .val (.int (0 : Int32)), .val (.ref b111), .val (.ref b173), .unset, .unset, .unset, .unset, .unset] [(.int (0 : Int32)), (.ref b111), (.ref b173)])
    obtain ⟨cq177, kq177, q177a, q177b, q177c⟩ := isOf hZ rfl P175_0
    obtain ⟨_, _, ⟨T177, L177, k177, n177⟩, -, X177, ⟨Lc177, hQ177, l177, y177, z177⟩, st177⟩ := X175.virtualBack hx (y := (⟨"com/example/near_duplicate_finder/nearduplicatefinder/Banding", "key", "([JI)J"⟩ : MethodName)) (z := (⟨"com/example/near_duplicate_finder/nearduplicatefinder/Banding", "key", "([JI)J"⟩ : MethodName)) hown (mvT hZ (W 17 rfl)) (mvT hZ (W 18 rfl)) (notFace_of_selects (args := #[]) (mvT hZ (W 20 rfl))) (mvT hZ (W 20 rfl)) (mvT hZ (W 19 rfl)) (by decide) (backOf (W := 0) (rm3 l Z a0 hw [] b173 b111 (0 : Int32) (2 : Int32) k111 q2 q3 q4 q5 q6 (q2 + q6) (own_mix ((own_mix ((-7046029254386353131 : Int64) ^^^ q2)) ^^^ q3)) T175.heap n0 Z0_c176 P175_1 V_b111_c176 (Or.inr (Or.inr (Or.inr (Or.inr (Or.inr (Or.inr (Or.inl ⟨rfl, rfl, rfl⟩)))))))) hZ (W 21 rfl) (W 5 rfl) (by decide) (by decide)) q177a q177c (g := (mkF m 83 #[.val (.int p1), .val (.long q2), .second, .val (.long q3), .second, .val (.long q4), .second, .val (.long q5), .second, .val (.long q6), .second, .val (.int (2 : Int32)), .val (.int (3 : Int32)), .val (.int (0 : Int32)), .val (.ref b111), .val (.ref b173), .unset, .unset, .unset, .unset, .unset] [(.int (0 : Int32)), (.ref b111), (.ref b173)])) rfl (by rw [hml]; rfl) (Steps.refl _) (argsL := [(.ref b111), (.int (0 : Int32))]) (rest := []) (lenOf pd_3 rfl) rfl (by show 2 * 0 + _ ≤ _; exact Nat.le_of_eq rfl) (hb hby at_83) (fun _ _ => ⟨rfl, rfl, (by decide : 2 + 0 ≤ _), (by decide : 8 + 0 ≤ _)⟩)
    dsimp only [Pt.U, Pt.locs, Pt.cells, Pt.slots] at X177 l177 y177 z177 st177 hQ177
    subst l177 y177 z177
    obtain ⟨rfl, N177q, e177⟩ := hQ177
    have N177 := Fr.app N175 N177q
    refine own_goT st177 ?_
    show own_Run p e below _ T177 (mkF m 86 #[.val (.int p1), .val (.long q2), .second, .val (.long q3), .second, .val (.long q4), .second, .val (.long q5), .second, .val (.long q6), .second, .val (.int (2 : Int32)), .val (.int (3 : Int32)), .val (.int (0 : Int32)), .val (.ref b111), .val (.ref b173), .unset, .unset, .unset, .unset, .unset] [(.long (own_mix ((own_mix ((-7046029254386353131 : Int64) ^^^ q2)) ^^^ q3)))])
    refine own_go (fun _ k => XS.lstore X177.here hx rfl (hb hby at_86) rfl (l' := #[.val (.int p1), .val (.long q2), .second, .val (.long q3), .second, .val (.long q4), .second, .val (.long q5), .second, .val (.long q6), .second, .val (.int (2 : Int32)), .val (.int (3 : Int32)), .val (.int (0 : Int32)), .val (.ref b111), .val (.ref b173), .val (.long (own_mix ((own_mix ((-7046029254386353131 : Int64) ^^^ q2)) ^^^ q3))), .second, .unset, .unset, .unset]) rfl k) ?_
    refine own_go (fun _ k => XS.iload X177.here hx rfl (hb hby at_88) rfl k) ?_
    refine own_go (fun _ k => XS.iload X177.here hx rfl (hb hby at_90) rfl k) ?_
    refine own_go (fun _ k => XS.imul X177.here hx rfl (hb hby at_92) rfl k) ?_
    show own_Run p e below _ T177 (mkF m 93 #[.val (.int p1), .val (.long q2), .second, .val (.long q3), .second, .val (.long q4), .second, .val (.long q5), .second, .val (.long q6), .second, .val (.int (2 : Int32)), .val (.int (3 : Int32)), .val (.int (0 : Int32)), .val (.ref b111), .val (.ref b173), .val (.long (own_mix ((own_mix ((-7046029254386353131 : Int64) ^^^ q2)) ^^^ q3))), .second, .unset, .unset, .unset] [(.int ((0 : Int32) * (2 : Int32)))])
    rw [show ((0 : Int32) * (2 : Int32)) = (0 : Int32) by decide]
    show own_Run p e below _ T177 (mkF m 93 #[.val (.int p1), .val (.long q2), .second, .val (.long q3), .second, .val (.long q4), .second, .val (.long q5), .second, .val (.long q6), .second, .val (.int (2 : Int32)), .val (.int (3 : Int32)), .val (.int (0 : Int32)), .val (.ref b111), .val (.ref b173), .val (.long (own_mix ((own_mix ((-7046029254386353131 : Int64) ^^^ q2)) ^^^ q3))), .second, .unset, .unset, .unset] [(.int (0 : Int32))])
    refine own_go (fun _ k => XS.istore X177.here hx rfl (hb hby at_93) rfl (l' := #[.val (.int p1), .val (.long q2), .second, .val (.long q3), .second, .val (.long q4), .second, .val (.long q5), .second, .val (.long q6), .second, .val (.int (2 : Int32)), .val (.int (3 : Int32)), .val (.int (0 : Int32)), .val (.ref b111), .val (.ref b173), .val (.long (own_mix ((own_mix ((-7046029254386353131 : Int64) ^^^ q2)) ^^^ q3))), .second, .val (.int (0 : Int32)), .unset, .unset]) rfl k) ?_
    show own_Run p e below _ T177 (mkF m 95 #[.val (.int p1), .val (.long q2), .second, .val (.long q3), .second, .val (.long q4), .second, .val (.long q5), .second, .val (.long q6), .second, .val (.int (2 : Int32)), .val (.int (3 : Int32)), .val (.int (0 : Int32)), .val (.ref b111), .val (.ref b173), .val (.long (own_mix ((own_mix ((-7046029254386353131 : Int64) ^^^ q2)) ^^^ q3))), .second, .val (.int (0 : Int32)), .unset, .unset] [])
    refine own_go (X177.ldc2Long hx hown (mvT hZ (W 29 rfl)) (g := (mkF m 95 #[.val (.int p1), .val (.long q2), .second, .val (.long q3), .second, .val (.long q4), .second, .val (.long q5), .second, .val (.long q6), .second, .val (.int (2 : Int32)), .val (.int (3 : Int32)), .val (.int (0 : Int32)), .val (.ref b111), .val (.ref b173), .val (.long (own_mix ((own_mix ((-7046029254386353131 : Int64) ^^^ q2)) ^^^ q3))), .second, .val (.int (0 : Int32)), .unset, .unset] [])) rfl (hb hby at_95)) ?_
    show own_Run p e below _ T177 (mkF m 98 #[.val (.int p1), .val (.long q2), .second, .val (.long q3), .second, .val (.long q4), .second, .val (.long q5), .second, .val (.long q6), .second, .val (.int (2 : Int32)), .val (.int (3 : Int32)), .val (.int (0 : Int32)), .val (.ref b111), .val (.ref b173), .val (.long (own_mix ((own_mix ((-7046029254386353131 : Int64) ^^^ q2)) ^^^ q3))), .second, .val (.int (0 : Int32)), .unset, .unset] [(.long (-7046029254386353131 : Int64))])
    refine own_go (fun _ k => XS.aload X177.here hx rfl (hb hby at_98) rfl rfl k) ?_
    refine own_go (fun _ k => XS.iload X177.here hx rfl (hb hby at_100) rfl k) ?_
    show own_Run p e below _ T177 (mkF m 102 #[.val (.int p1), .val (.long q2), .second, .val (.long q3), .second, .val (.long q4), .second, .val (.long q5), .second, .val (.long q6), .second, .val (.int (2 : Int32)), .val (.int (3 : Int32)), .val (.int (0 : Int32)), .val (.ref b111), .val (.ref b173), .val (.long (own_mix ((own_mix ((-7046029254386353131 : Int64) ^^^ q2)) ^^^ q3))), .second, .val (.int (0 : Int32)), .unset, .unset] [(.int (0 : Int32)), (.ref b111), (.long (-7046029254386353131 : Int64))])
    obtain ⟨cl178, Ar178, q178, S178, N178, H178, G178⟩ := id V_b111_c176
    have hin178 : ¬ ((0 : Int32) < 0 ∨ cl178.slots.size ≤ ((0 : Int32)).toNatClampNeg) := inb_of S178 ⟨by decide, by decide⟩
    refine own_go (X177.laload hx (j := (0 : Int32)) (v := (.long q2)) (by rw [e177]; exact Ar178.1) (State.isArrayOf_alike hZ.alike Ar178.2.1) Ar178.2.2 hin178 (H178.at hin178 rfl) (g := (mkF m 102 #[.val (.int p1), .val (.long q2), .second, .val (.long q3), .second, .val (.long q4), .second, .val (.long q5), .second, .val (.long q6), .second, .val (.int (2 : Int32)), .val (.int (3 : Int32)), .val (.int (0 : Int32)), .val (.ref b111), .val (.ref b173), .val (.long (own_mix ((own_mix ((-7046029254386353131 : Int64) ^^^ q2)) ^^^ q3))), .second, .val (.int (0 : Int32)), .unset, .unset] [(.int (0 : Int32)), (.ref b111), (.long (-7046029254386353131 : Int64))])) rfl rfl (hb hby at_102)) ?_
    show own_Run p e below _ T177 (mkF m 103 #[.val (.int p1), .val (.long q2), .second, .val (.long q3), .second, .val (.long q4), .second, .val (.long q5), .second, .val (.long q6), .second, .val (.int (2 : Int32)), .val (.int (3 : Int32)), .val (.int (0 : Int32)), .val (.ref b111), .val (.ref b173), .val (.long (own_mix ((own_mix ((-7046029254386353131 : Int64) ^^^ q2)) ^^^ q3))), .second, .val (.int (0 : Int32)), .unset, .unset] [(.long q2), (.long (-7046029254386353131 : Int64))])
    refine own_go (fun _ k => XS.lxor X177.here hx rfl (hb hby at_103) rfl k) ?_
    show own_Run p e below _ T177 (mkF m 104 #[.val (.int p1), .val (.long q2), .second, .val (.long q3), .second, .val (.long q4), .second, .val (.long q5), .second, .val (.long q6), .second, .val (.int (2 : Int32)), .val (.int (3 : Int32)), .val (.int (0 : Int32)), .val (.ref b111), .val (.ref b173), .val (.long (own_mix ((own_mix ((-7046029254386353131 : Int64) ^^^ q2)) ^^^ q3))), .second, .val (.int (0 : Int32)), .unset, .unset] [(.long ((-7046029254386353131 : Int64) ^^^ q2))])
    obtain ⟨_, _, ⟨T179, L179, k179, n179⟩, -, X179, ⟨Lc179, hQ179, l179, y179, z179⟩, st179⟩ := Jvm.LawKit.callS X177 hx (y := (⟨"com/example/near_duplicate_finder/nearduplicatefinder/BandingKeyPinLaw", "mixRef", "(J)J"⟩ : MethodName)) hown (mvT hZ (W 30 rfl)) (mvT hZ (W 31 rfl)) (mvT hZ (W 32 rfl)) (mvT hZ (W 33 rfl)) (by decide) (backOf (W := 0) (rm5 l Z a0 hw [] ((-7046029254386353131 : Int64) ^^^ q2) T175.heap n0 Z0_c176 ) hZ (W 33 rfl) (W 32 rfl) (by decide) (by decide)) (g := (mkF m 104 #[.val (.int p1), .val (.long q2), .second, .val (.long q3), .second, .val (.long q4), .second, .val (.long q5), .second, .val (.long q6), .second, .val (.int (2 : Int32)), .val (.int (3 : Int32)), .val (.int (0 : Int32)), .val (.ref b111), .val (.ref b173), .val (.long (own_mix ((own_mix ((-7046029254386353131 : Int64) ^^^ q2)) ^^^ q3))), .second, .val (.int (0 : Int32)), .unset, .unset] [(.long ((-7046029254386353131 : Int64) ^^^ q2))])) rfl (by rw [hml]; rfl) (argsL := [(.long ((-7046029254386353131 : Int64) ^^^ q2))]) (rest := []) (lenOf pd_1 rfl) rfl (by show 2 * 0 + _ ≤ _; exact Nat.le_of_eq rfl) (hb hby at_104) (fun _ _ => ⟨rfl, e177, (by decide : 2 + 0 ≤ _), (by decide : 8 + 0 ≤ _)⟩)
    dsimp only [Pt.U, Pt.locs, Pt.cells, Pt.slots] at X179 l179 y179 z179 st179 hQ179
    subst l179 y179 z179
    obtain ⟨rfl, N179q, e179⟩ := hQ179
    have N179 := Fr.app N177 N179q
    refine own_go st179 ?_
    show own_Run p e below _ T179 (mkF m 107 #[.val (.int p1), .val (.long q2), .second, .val (.long q3), .second, .val (.long q4), .second, .val (.long q5), .second, .val (.long q6), .second, .val (.int (2 : Int32)), .val (.int (3 : Int32)), .val (.int (0 : Int32)), .val (.ref b111), .val (.ref b173), .val (.long (own_mix ((own_mix ((-7046029254386353131 : Int64) ^^^ q2)) ^^^ q3))), .second, .val (.int (0 : Int32)), .unset, .unset] [(.long (own_mix ((-7046029254386353131 : Int64) ^^^ q2)))])
    refine own_go (fun _ k => XS.lstore X179.here hx rfl (hb hby at_107) rfl (l' := #[.val (.int p1), .val (.long q2), .second, .val (.long q3), .second, .val (.long q4), .second, .val (.long q5), .second, .val (.long q6), .second, .val (.int (2 : Int32)), .val (.int (3 : Int32)), .val (.int (0 : Int32)), .val (.ref b111), .val (.ref b173), .val (.long (own_mix ((own_mix ((-7046029254386353131 : Int64) ^^^ q2)) ^^^ q3))), .second, .val (.int (0 : Int32)), .val (.long (own_mix ((-7046029254386353131 : Int64) ^^^ q2))), .second]) rfl k) ?_
    refine own_go (fun _ k => XS.iload X179.here hx rfl (hb hby at_109) rfl k) ?_
    refine own_go (fun _ k => XS.iconst X179.here hx rfl (hb hby at_111) k) ?_
    show own_Run p e below _ T179 (mkF m 112 #[.val (.int p1), .val (.long q2), .second, .val (.long q3), .second, .val (.long q4), .second, .val (.long q5), .second, .val (.long q6), .second, .val (.int (2 : Int32)), .val (.int (3 : Int32)), .val (.int (0 : Int32)), .val (.ref b111), .val (.ref b173), .val (.long (own_mix ((own_mix ((-7046029254386353131 : Int64) ^^^ q2)) ^^^ q3))), .second, .val (.int (0 : Int32)), .val (.long (own_mix ((-7046029254386353131 : Int64) ^^^ q2))), .second] [(.int (2 : Int32)), (.int (2 : Int32))])
    refine own_go (fun _ k => XS.icmpNo X179.here hx rfl (hb hby at_112) rfl (flt (by decide : ¬ ((2 : Int32) < (2 : Int32)))).1 k) ?_
    show own_Run p e below _ T179 (mkF m 115 #[.val (.int p1), .val (.long q2), .second, .val (.long q3), .second, .val (.long q4), .second, .val (.long q5), .second, .val (.long q6), .second, .val (.int (2 : Int32)), .val (.int (3 : Int32)), .val (.int (0 : Int32)), .val (.ref b111), .val (.ref b173), .val (.long (own_mix ((own_mix ((-7046029254386353131 : Int64) ^^^ q2)) ^^^ q3))), .second, .val (.int (0 : Int32)), .val (.long (own_mix ((-7046029254386353131 : Int64) ^^^ q2))), .second] [])
    refine own_go (fun _ k => XS.lload X179.here hx rfl (hb hby at_115) rfl k) ?_
    refine own_go (fun _ k => XS.aload X179.here hx rfl (hb hby at_117) rfl rfl k) ?_
    refine own_go (fun _ k => XS.iload X179.here hx rfl (hb hby at_119) rfl k) ?_
    refine own_go (fun _ k => XS.iconst X179.here hx rfl (hb hby at_121) k) ?_
    show own_Run p e below _ T179 (mkF m 122 #[.val (.int p1), .val (.long q2), .second, .val (.long q3), .second, .val (.long q4), .second, .val (.long q5), .second, .val (.long q6), .second, .val (.int (2 : Int32)), .val (.int (3 : Int32)), .val (.int (0 : Int32)), .val (.ref b111), .val (.ref b173), .val (.long (own_mix ((own_mix ((-7046029254386353131 : Int64) ^^^ q2)) ^^^ q3))), .second, .val (.int (0 : Int32)), .val (.long (own_mix ((-7046029254386353131 : Int64) ^^^ q2))), .second] [(.int (1 : Int32)), (.int (0 : Int32)), (.ref b111), (.long (own_mix ((-7046029254386353131 : Int64) ^^^ q2)))])
    refine own_go (fun _ k => XS.iadd X179.here hx rfl (hb hby at_122) rfl k) ?_
    show own_Run p e below _ T179 (mkF m 123 #[.val (.int p1), .val (.long q2), .second, .val (.long q3), .second, .val (.long q4), .second, .val (.long q5), .second, .val (.long q6), .second, .val (.int (2 : Int32)), .val (.int (3 : Int32)), .val (.int (0 : Int32)), .val (.ref b111), .val (.ref b173), .val (.long (own_mix ((own_mix ((-7046029254386353131 : Int64) ^^^ q2)) ^^^ q3))), .second, .val (.int (0 : Int32)), .val (.long (own_mix ((-7046029254386353131 : Int64) ^^^ q2))), .second] [(.int ((0 : Int32) + (1 : Int32))), (.ref b111), (.long (own_mix ((-7046029254386353131 : Int64) ^^^ q2)))])
    rw [show ((0 : Int32) + (1 : Int32)) = (1 : Int32) by decide]
    show own_Run p e below _ T179 (mkF m 123 #[.val (.int p1), .val (.long q2), .second, .val (.long q3), .second, .val (.long q4), .second, .val (.long q5), .second, .val (.long q6), .second, .val (.int (2 : Int32)), .val (.int (3 : Int32)), .val (.int (0 : Int32)), .val (.ref b111), .val (.ref b173), .val (.long (own_mix ((own_mix ((-7046029254386353131 : Int64) ^^^ q2)) ^^^ q3))), .second, .val (.int (0 : Int32)), .val (.long (own_mix ((-7046029254386353131 : Int64) ^^^ q2))), .second] [(.int (1 : Int32)), (.ref b111), (.long (own_mix ((-7046029254386353131 : Int64) ^^^ q2)))])
    obtain ⟨cl180, Ar180, q180, S180, N180, H180, G180⟩ := id V_b111_c176
    have hin180 : ¬ ((1 : Int32) < 0 ∨ cl180.slots.size ≤ ((1 : Int32)).toNatClampNeg) := inb_of S180 ⟨by decide, by decide⟩
    refine own_go (X179.laload hx (j := (1 : Int32)) (v := (.long q3)) (by rw [e179]; exact Ar180.1) (State.isArrayOf_alike hZ.alike Ar180.2.1) Ar180.2.2 hin180 (H180.at hin180 rfl) (g := (mkF m 123 #[.val (.int p1), .val (.long q2), .second, .val (.long q3), .second, .val (.long q4), .second, .val (.long q5), .second, .val (.long q6), .second, .val (.int (2 : Int32)), .val (.int (3 : Int32)), .val (.int (0 : Int32)), .val (.ref b111), .val (.ref b173), .val (.long (own_mix ((own_mix ((-7046029254386353131 : Int64) ^^^ q2)) ^^^ q3))), .second, .val (.int (0 : Int32)), .val (.long (own_mix ((-7046029254386353131 : Int64) ^^^ q2))), .second] [(.int (1 : Int32)), (.ref b111), (.long (own_mix ((-7046029254386353131 : Int64) ^^^ q2)))])) rfl rfl (hb hby at_123)) ?_
    show own_Run p e below _ T179 (mkF m 124 #[.val (.int p1), .val (.long q2), .second, .val (.long q3), .second, .val (.long q4), .second, .val (.long q5), .second, .val (.long q6), .second, .val (.int (2 : Int32)), .val (.int (3 : Int32)), .val (.int (0 : Int32)), .val (.ref b111), .val (.ref b173), .val (.long (own_mix ((own_mix ((-7046029254386353131 : Int64) ^^^ q2)) ^^^ q3))), .second, .val (.int (0 : Int32)), .val (.long (own_mix ((-7046029254386353131 : Int64) ^^^ q2))), .second] [(.long q3), (.long (own_mix ((-7046029254386353131 : Int64) ^^^ q2)))])
    refine own_go (fun _ k => XS.lxor X179.here hx rfl (hb hby at_124) rfl k) ?_
    show own_Run p e below _ T179 (mkF m 125 #[.val (.int p1), .val (.long q2), .second, .val (.long q3), .second, .val (.long q4), .second, .val (.long q5), .second, .val (.long q6), .second, .val (.int (2 : Int32)), .val (.int (3 : Int32)), .val (.int (0 : Int32)), .val (.ref b111), .val (.ref b173), .val (.long (own_mix ((own_mix ((-7046029254386353131 : Int64) ^^^ q2)) ^^^ q3))), .second, .val (.int (0 : Int32)), .val (.long (own_mix ((-7046029254386353131 : Int64) ^^^ q2))), .second] [(.long ((own_mix ((-7046029254386353131 : Int64) ^^^ q2)) ^^^ q3))])
    obtain ⟨_, _, ⟨T181, L181, k181, n181⟩, -, X181, ⟨Lc181, hQ181, l181, y181, z181⟩, st181⟩ := Jvm.LawKit.callS X179 hx (y := (⟨"com/example/near_duplicate_finder/nearduplicatefinder/BandingKeyPinLaw", "mixRef", "(J)J"⟩ : MethodName)) hown (mvT hZ (W 30 rfl)) (mvT hZ (W 31 rfl)) (mvT hZ (W 32 rfl)) (mvT hZ (W 33 rfl)) (by decide) (backOf (W := 0) (rm5 l Z a0 hw [] ((own_mix ((-7046029254386353131 : Int64) ^^^ q2)) ^^^ q3) T175.heap n0 Z0_c176 ) hZ (W 33 rfl) (W 32 rfl) (by decide) (by decide)) (g := (mkF m 125 #[.val (.int p1), .val (.long q2), .second, .val (.long q3), .second, .val (.long q4), .second, .val (.long q5), .second, .val (.long q6), .second, .val (.int (2 : Int32)), .val (.int (3 : Int32)), .val (.int (0 : Int32)), .val (.ref b111), .val (.ref b173), .val (.long (own_mix ((own_mix ((-7046029254386353131 : Int64) ^^^ q2)) ^^^ q3))), .second, .val (.int (0 : Int32)), .val (.long (own_mix ((-7046029254386353131 : Int64) ^^^ q2))), .second] [(.long ((own_mix ((-7046029254386353131 : Int64) ^^^ q2)) ^^^ q3))])) rfl (by rw [hml]; rfl) (argsL := [(.long ((own_mix ((-7046029254386353131 : Int64) ^^^ q2)) ^^^ q3))]) (rest := []) (lenOf pd_1 rfl) rfl (by show 2 * 0 + _ ≤ _; exact Nat.le_of_eq rfl) (hb hby at_125) (fun _ _ => ⟨rfl, e179, (by decide : 2 + 0 ≤ _), (by decide : 8 + 0 ≤ _)⟩)
    dsimp only [Pt.U, Pt.locs, Pt.cells, Pt.slots] at X181 l181 y181 z181 st181 hQ181
    subst l181 y181 z181
    obtain ⟨rfl, N181q, e181⟩ := hQ181
    have N181 := Fr.app N179 N181q
    refine own_go st181 ?_
    show own_Run p e below _ T181 (mkF m 128 #[.val (.int p1), .val (.long q2), .second, .val (.long q3), .second, .val (.long q4), .second, .val (.long q5), .second, .val (.long q6), .second, .val (.int (2 : Int32)), .val (.int (3 : Int32)), .val (.int (0 : Int32)), .val (.ref b111), .val (.ref b173), .val (.long (own_mix ((own_mix ((-7046029254386353131 : Int64) ^^^ q2)) ^^^ q3))), .second, .val (.int (0 : Int32)), .val (.long (own_mix ((-7046029254386353131 : Int64) ^^^ q2))), .second] [(.long (own_mix ((own_mix ((-7046029254386353131 : Int64) ^^^ q2)) ^^^ q3)))])
    refine own_go (fun _ k => XS.lstore X181.here hx rfl (hb hby at_128) rfl (l' := #[.val (.int p1), .val (.long q2), .second, .val (.long q3), .second, .val (.long q4), .second, .val (.long q5), .second, .val (.long q6), .second, .val (.int (2 : Int32)), .val (.int (3 : Int32)), .val (.int (0 : Int32)), .val (.ref b111), .val (.ref b173), .val (.long (own_mix ((own_mix ((-7046029254386353131 : Int64) ^^^ q2)) ^^^ q3))), .second, .val (.int (0 : Int32)), .val (.long (own_mix ((own_mix ((-7046029254386353131 : Int64) ^^^ q2)) ^^^ q3))), .second]) rfl k) ?_
    refine own_go (fun _ k => XS.iload X181.here hx rfl (hb hby at_130) rfl k) ?_
    refine own_go (fun _ k => XS.iconst X181.here hx rfl (hb hby at_132) k) ?_
    show own_Run p e below _ T181 (mkF m 133 #[.val (.int p1), .val (.long q2), .second, .val (.long q3), .second, .val (.long q4), .second, .val (.long q5), .second, .val (.long q6), .second, .val (.int (2 : Int32)), .val (.int (3 : Int32)), .val (.int (0 : Int32)), .val (.ref b111), .val (.ref b173), .val (.long (own_mix ((own_mix ((-7046029254386353131 : Int64) ^^^ q2)) ^^^ q3))), .second, .val (.int (0 : Int32)), .val (.long (own_mix ((own_mix ((-7046029254386353131 : Int64) ^^^ q2)) ^^^ q3))), .second] [(.int (3 : Int32)), (.int (2 : Int32))])
    refine own_go (fun _ k => XS.icmpYes X181.here hx rfl (pc0 := 133) (pc' := 151) rfl (hb hby at_133) rfl (tlt (by decide : (2 : Int32) < (3 : Int32))).1 (by decide) (by decide) k) ?_
    show own_Run p e below _ T181 (mkF m 151 #[.val (.int p1), .val (.long q2), .second, .val (.long q3), .second, .val (.long q4), .second, .val (.long q5), .second, .val (.long q6), .second, .val (.int (2 : Int32)), .val (.int (3 : Int32)), .val (.int (0 : Int32)), .val (.ref b111), .val (.ref b173), .val (.long (own_mix ((own_mix ((-7046029254386353131 : Int64) ^^^ q2)) ^^^ q3))), .second, .val (.int (0 : Int32)), .val (.long (own_mix ((own_mix ((-7046029254386353131 : Int64) ^^^ q2)) ^^^ q3))), .second] [])
    refine own_go (fun _ k => XS.lload X181.here hx rfl (hb hby at_151) rfl k) ?_
    refine own_go (fun _ k => XS.lload X181.here hx rfl (hb hby at_153) rfl k) ?_
    refine own_go (fun _ k => XS.lcmp X181.here hx rfl (hb hby at_155) rfl k) ?_
    show own_Run p e below _ T181 (mkF m 156 #[.val (.int p1), .val (.long q2), .second, .val (.long q3), .second, .val (.long q4), .second, .val (.long q5), .second, .val (.long q6), .second, .val (.int (2 : Int32)), .val (.int (3 : Int32)), .val (.int (0 : Int32)), .val (.ref b111), .val (.ref b173), .val (.long (own_mix ((own_mix ((-7046029254386353131 : Int64) ^^^ q2)) ^^^ q3))), .second, .val (.int (0 : Int32)), .val (.long (own_mix ((own_mix ((-7046029254386353131 : Int64) ^^^ q2)) ^^^ q3))), .second] [(.int (lcmpW (own_mix ((own_mix ((-7046029254386353131 : Int64) ^^^ q2)) ^^^ q3)) (own_mix ((own_mix ((-7046029254386353131 : Int64) ^^^ q2)) ^^^ q3))))])
    refine own_go (fun _ k => XS.ifNo X181.here hx rfl (hb hby at_156) rfl (own_lcTe rfl).2 k) ?_
    show own_Run p e below _ T181 (mkF m 159 #[.val (.int p1), .val (.long q2), .second, .val (.long q3), .second, .val (.long q4), .second, .val (.long q5), .second, .val (.long q6), .second, .val (.int (2 : Int32)), .val (.int (3 : Int32)), .val (.int (0 : Int32)), .val (.ref b111), .val (.ref b173), .val (.long (own_mix ((own_mix ((-7046029254386353131 : Int64) ^^^ q2)) ^^^ q3))), .second, .val (.int (0 : Int32)), .val (.long (own_mix ((own_mix ((-7046029254386353131 : Int64) ^^^ q2)) ^^^ q3))), .second] [])
    refine own_go (fun _ k => XS.iconst X181.here hx rfl (hb hby at_159) k) ?_
    refine own_go (fun _ k => XS.goto X181.here hx rfl (pc0 := 160) (pc' := 164) rfl (hb hby at_160) (by decide) (by decide) k) ?_
    show own_Run p e below _ T181 (mkF m 164 #[.val (.int p1), .val (.long q2), .second, .val (.long q3), .second, .val (.long q4), .second, .val (.long q5), .second, .val (.long q6), .second, .val (.int (2 : Int32)), .val (.int (3 : Int32)), .val (.int (0 : Int32)), .val (.ref b111), .val (.ref b173), .val (.long (own_mix ((own_mix ((-7046029254386353131 : Int64) ^^^ q2)) ^^^ q3))), .second, .val (.int (0 : Int32)), .val (.long (own_mix ((own_mix ((-7046029254386353131 : Int64) ^^^ q2)) ^^^ q3))), .second] [(.int (1 : Int32))])
    refine own_done (Q := fun v h L => Q0 Z p1 q2 q3 q4 q5 q6 h0 n0 v h L) (v := (some (.int (1 : Int32)))) X181 (fun h => by rw [hret] at h; cases h) hlk (fun fs hr => retN X181 hx (t := .boolean) hret (by simp) (hb hby at_164) hr) ?_ (by decide) (by decide)
    show Q0 Z p1 q2 q3 q4 q5 q6 h0 n0 _ T181.heap _
    rw [e181]
    exact ⟨rfl, N181⟩
  · show own_Run p e below _ T129 (mkF m 64 #[.val (.int p1), .val (.long q2), .second, .val (.long q3), .second, .val (.long q4), .second, .val (.long q5), .second, .val (.long q6), .second, .val (.int (2 : Int32)), .val (.int (3 : Int32)), .val (.int (1 : Int32)), .val (.ref b111), .unset, .unset, .unset, .unset, .unset, .unset] [])
    obtain ⟨T182, h182, X182, e182, E182, A182, D182, -, st182⟩ := newO X129 hx hZ hown (W 3 rfl) (W 4 rfl) (W 5 rfl) e129 (g := (mkF m 64 #[.val (.int p1), .val (.long q2), .second, .val (.long q3), .second, .val (.long q4), .second, .val (.long q5), .second, .val (.long q6), .second, .val (.int (2 : Int32)), .val (.int (3 : Int32)), .val (.int (1 : Int32)), .val (.ref b111), .unset, .unset, .unset, .unset, .unset, .unset] [])) rfl (hb hby at_64) (by decide) (by decide)
    refine own_go st182 ?_
    obtain ⟨b182, g182⟩ : ∃ z, z = h129.size := ⟨_, rfl⟩
    rw [← g182] at A182 D182
    rw [← g182]
    show own_Run p e below _ T182 (mkF m 67 #[.val (.int p1), .val (.long q2), .second, .val (.long q3), .second, .val (.long q4), .second, .val (.long q5), .second, .val (.long q6), .second, .val (.int (2 : Int32)), .val (.int (3 : Int32)), .val (.int (1 : Int32)), .val (.ref b111), .unset, .unset, .unset, .unset, .unset, .unset] [(.ref b182)])
    have ne_b111_b182 : b111 ≠ b182 := Nat.ne_of_lt (Nat.lt_of_lt_of_eq V_b111_c129.lt g182.symm)
    have g_b182 : n0 ≤ b182 := Nat.le_trans Z0_c130 (Nat.le_of_eq g182.symm)
    have sz_b182 : h0.size ≤ b182 := Nat.le_trans K0_c130.1 (Nat.le_of_eq g182.symm)
    have Z0_c183 := Nat.le_trans Z0_c130 E182.1
    have K0_c183 := K0_c130.ext E182
    have V_b111_c183 := V_b111_c129.ext E182
    have F_bands_b182 : Fld Z h182 b182 "com/example/near_duplicate_finder/nearduplicatefinder/Banding" "bands" "I" (.int (0 : Int32)) := D182 (Or.inr (W 14 rfl)) (ty := .int) (by decide)
    have F_rows_b182 : Fld Z h182 b182 "com/example/near_duplicate_finder/nearduplicatefinder/Banding" "rows" "I" (.int (0 : Int32)) := D182 (Or.inr (W 16 rfl)) (ty := .int) (by decide)
    refine own_go (fun _ k => XS.dup X182.here hx rfl (hb hby at_67) rfl rfl k) ?_
    refine own_go (fun _ k => XS.iload X182.here hx rfl (hb hby at_68) rfl k) ?_
    refine own_go (fun _ k => XS.iload X182.here hx rfl (hb hby at_70) rfl k) ?_
    show own_Run p e below _ T182 (mkF m 72 #[.val (.int p1), .val (.long q2), .second, .val (.long q3), .second, .val (.long q4), .second, .val (.long q5), .second, .val (.long q6), .second, .val (.int (2 : Int32)), .val (.int (3 : Int32)), .val (.int (1 : Int32)), .val (.ref b111), .unset, .unset, .unset, .unset, .unset, .unset] [(.int (2 : Int32)), (.int (3 : Int32)), (.ref b182), (.ref b182)])
    obtain ⟨_, _, ⟨T184, L184, k184, n184⟩, -, X184, ⟨Lc184, hQ184, l184, y184, z184⟩, st184⟩ := X182.specialBack hx (y := (⟨"com/example/near_duplicate_finder/nearduplicatefinder/Banding", "<init>", "(II)V"⟩ : MethodName)) rfl hown (mvT hZ (W 6 rfl)) (mvT hZ (W 7 rfl)) (mvT hZ (W 8 rfl)) (by decide) (backOf (W := 1) (rm1 l Z a0 hw [] b182 (3 : Int32) (2 : Int32) (.int (0 : Int32)) (.int (0 : Int32)) h182 n0 Z0_c183 A182 F_bands_b182 F_rows_b182 g_b182 (by decide) (by decide) (by decide)) hZ (W 8 rfl) (W 5 rfl) (by decide) (by decide)) (g := (mkF m 72 #[.val (.int p1), .val (.long q2), .second, .val (.long q3), .second, .val (.long q4), .second, .val (.long q5), .second, .val (.long q6), .second, .val (.int (2 : Int32)), .val (.int (3 : Int32)), .val (.int (1 : Int32)), .val (.ref b111), .unset, .unset, .unset, .unset, .unset, .unset] [(.int (2 : Int32)), (.int (3 : Int32)), (.ref b182), (.ref b182)])) rfl (by rw [hml]; rfl) (Steps.refl _) (a := b182) (argsL := [(.int (3 : Int32)), (.int (2 : Int32))]) (rest := [(.ref b182)]) (lenOf pd_2 rfl) rfl (by show 2 * 0 + _ ≤ _; exact Nat.le_of_eq rfl) (hb hby at_72) (fun _ _ => ⟨rfl, e182, (by decide : 2 + 0 ≤ _), (by decide : 8 + 0 ≤ _)⟩)
    dsimp only [Pt.U, Pt.locs, Pt.cells, Pt.slots] at X184 l184 y184 z184 st184 hQ184
    subst l184 y184 z184
    obtain ⟨rfl, N184q, K184, P184_0, P184_1⟩ := hQ184
    have N184 := Fr.app N129 N184q
    refine own_goT st184 ?_
    show own_Run p e below _ T184 (mkF m 75 #[.val (.int p1), .val (.long q2), .second, .val (.long q3), .second, .val (.long q4), .second, .val (.long q5), .second, .val (.long q6), .second, .val (.int (2 : Int32)), .val (.int (3 : Int32)), .val (.int (1 : Int32)), .val (.ref b111), .unset, .unset, .unset, .unset, .unset, .unset] [(.ref b182)])
    have Z0_c185 := Nat.le_trans Z0_c183 K184.1
    have K0_c185 := K0_c183.trans K184 (allS (Or.inr sz_b182) all0)
    have V_b111_c185 := V_b111_c183.keep K184 (ninS ne_b111_b182 nin0)
    have A182_c185 := A182.keep K184
    refine own_go (fun _ k => XS.astore X184.here hx rfl (hb hby at_75) rfl rfl (l' := #[.val (.int p1), .val (.long q2), .second, .val (.long q3), .second, .val (.long q4), .second, .val (.long q5), .second, .val (.long q6), .second, .val (.int (2 : Int32)), .val (.int (3 : Int32)), .val (.int (1 : Int32)), .val (.ref b111), .val (.ref b182), .unset, .unset, .unset, .unset, .unset]) rfl k) ?_
    refine own_go (fun _ k => XS.aload X184.here hx rfl (hb hby at_77) rfl rfl k) ?_
    refine own_go (fun _ k => XS.aload X184.here hx rfl (hb hby at_79) rfl rfl k) ?_
    refine own_go (fun _ k => XS.iload X184.here hx rfl (hb hby at_81) rfl k) ?_
    show own_Run p e below _ T184 (mkF m 83 #[.val (.int p1), .val (.long q2), .second, .val (.long q3), .second, .val (.long q4), .second, .val (.long q5), .second, .val (.long q6), .second, .val (.int (2 : Int32)), .val (.int (3 : Int32)), .val (.int (1 : Int32)), .val (.ref b111), .val (.ref b182), .unset, .unset, .unset, .unset, .unset] [(.int (1 : Int32)), (.ref b111), (.ref b182)])
    obtain ⟨cq186, kq186, q186a, q186b, q186c⟩ := isOf hZ rfl P184_0
    obtain ⟨_, _, ⟨T186, L186, k186, n186⟩, -, X186, ⟨Lc186, hQ186, l186, y186, z186⟩, st186⟩ := X184.virtualBack hx (y := (⟨"com/example/near_duplicate_finder/nearduplicatefinder/Banding", "key", "([JI)J"⟩ : MethodName)) (z := (⟨"com/example/near_duplicate_finder/nearduplicatefinder/Banding", "key", "([JI)J"⟩ : MethodName)) hown (mvT hZ (W 17 rfl)) (mvT hZ (W 18 rfl)) (notFace_of_selects (args := #[]) (mvT hZ (W 20 rfl))) (mvT hZ (W 20 rfl)) (mvT hZ (W 19 rfl)) (by decide) (backOf (W := 0) (rm3 l Z a0 hw [] b182 b111 (1 : Int32) (2 : Int32) k111 q2 q3 q4 q5 q6 (q2 + q6) (own_mix ((own_mix ((-7046029254386353131 : Int64) ^^^ q4)) ^^^ q5)) T184.heap n0 Z0_c185 P184_1 V_b111_c185 (Or.inr (Or.inr (Or.inr (Or.inr (Or.inr (Or.inr (Or.inr (Or.inl ⟨rfl, rfl, rfl⟩))))))))) hZ (W 21 rfl) (W 5 rfl) (by decide) (by decide)) q186a q186c (g := (mkF m 83 #[.val (.int p1), .val (.long q2), .second, .val (.long q3), .second, .val (.long q4), .second, .val (.long q5), .second, .val (.long q6), .second, .val (.int (2 : Int32)), .val (.int (3 : Int32)), .val (.int (1 : Int32)), .val (.ref b111), .val (.ref b182), .unset, .unset, .unset, .unset, .unset] [(.int (1 : Int32)), (.ref b111), (.ref b182)])) rfl (by rw [hml]; rfl) (Steps.refl _) (argsL := [(.ref b111), (.int (1 : Int32))]) (rest := []) (lenOf pd_3 rfl) rfl (by show 2 * 0 + _ ≤ _; exact Nat.le_of_eq rfl) (hb hby at_83) (fun _ _ => ⟨rfl, rfl, (by decide : 2 + 0 ≤ _), (by decide : 8 + 0 ≤ _)⟩)
    dsimp only [Pt.U, Pt.locs, Pt.cells, Pt.slots] at X186 l186 y186 z186 st186 hQ186
    subst l186 y186 z186
    obtain ⟨rfl, N186q, e186⟩ := hQ186
    have N186 := Fr.app N184 N186q
    refine own_goT st186 ?_
    show own_Run p e below _ T186 (mkF m 86 #[.val (.int p1), .val (.long q2), .second, .val (.long q3), .second, .val (.long q4), .second, .val (.long q5), .second, .val (.long q6), .second, .val (.int (2 : Int32)), .val (.int (3 : Int32)), .val (.int (1 : Int32)), .val (.ref b111), .val (.ref b182), .unset, .unset, .unset, .unset, .unset] [(.long (own_mix ((own_mix ((-7046029254386353131 : Int64) ^^^ q4)) ^^^ q5)))])
    refine own_go (fun _ k => XS.lstore X186.here hx rfl (hb hby at_86) rfl (l' := #[.val (.int p1), .val (.long q2), .second, .val (.long q3), .second, .val (.long q4), .second, .val (.long q5), .second, .val (.long q6), .second, .val (.int (2 : Int32)), .val (.int (3 : Int32)), .val (.int (1 : Int32)), .val (.ref b111), .val (.ref b182), .val (.long (own_mix ((own_mix ((-7046029254386353131 : Int64) ^^^ q4)) ^^^ q5))), .second, .unset, .unset, .unset]) rfl k) ?_
    refine own_go (fun _ k => XS.iload X186.here hx rfl (hb hby at_88) rfl k) ?_
    refine own_go (fun _ k => XS.iload X186.here hx rfl (hb hby at_90) rfl k) ?_
    refine own_go (fun _ k => XS.imul X186.here hx rfl (hb hby at_92) rfl k) ?_
    show own_Run p e below _ T186 (mkF m 93 #[.val (.int p1), .val (.long q2), .second, .val (.long q3), .second, .val (.long q4), .second, .val (.long q5), .second, .val (.long q6), .second, .val (.int (2 : Int32)), .val (.int (3 : Int32)), .val (.int (1 : Int32)), .val (.ref b111), .val (.ref b182), .val (.long (own_mix ((own_mix ((-7046029254386353131 : Int64) ^^^ q4)) ^^^ q5))), .second, .unset, .unset, .unset] [(.int ((1 : Int32) * (2 : Int32)))])
    rw [show ((1 : Int32) * (2 : Int32)) = (2 : Int32) by decide]
    show own_Run p e below _ T186 (mkF m 93 #[.val (.int p1), .val (.long q2), .second, .val (.long q3), .second, .val (.long q4), .second, .val (.long q5), .second, .val (.long q6), .second, .val (.int (2 : Int32)), .val (.int (3 : Int32)), .val (.int (1 : Int32)), .val (.ref b111), .val (.ref b182), .val (.long (own_mix ((own_mix ((-7046029254386353131 : Int64) ^^^ q4)) ^^^ q5))), .second, .unset, .unset, .unset] [(.int (2 : Int32))])
    refine own_go (fun _ k => XS.istore X186.here hx rfl (hb hby at_93) rfl (l' := #[.val (.int p1), .val (.long q2), .second, .val (.long q3), .second, .val (.long q4), .second, .val (.long q5), .second, .val (.long q6), .second, .val (.int (2 : Int32)), .val (.int (3 : Int32)), .val (.int (1 : Int32)), .val (.ref b111), .val (.ref b182), .val (.long (own_mix ((own_mix ((-7046029254386353131 : Int64) ^^^ q4)) ^^^ q5))), .second, .val (.int (2 : Int32)), .unset, .unset]) rfl k) ?_
    show own_Run p e below _ T186 (mkF m 95 #[.val (.int p1), .val (.long q2), .second, .val (.long q3), .second, .val (.long q4), .second, .val (.long q5), .second, .val (.long q6), .second, .val (.int (2 : Int32)), .val (.int (3 : Int32)), .val (.int (1 : Int32)), .val (.ref b111), .val (.ref b182), .val (.long (own_mix ((own_mix ((-7046029254386353131 : Int64) ^^^ q4)) ^^^ q5))), .second, .val (.int (2 : Int32)), .unset, .unset] [])
    refine own_go (X186.ldc2Long hx hown (mvT hZ (W 29 rfl)) (g := (mkF m 95 #[.val (.int p1), .val (.long q2), .second, .val (.long q3), .second, .val (.long q4), .second, .val (.long q5), .second, .val (.long q6), .second, .val (.int (2 : Int32)), .val (.int (3 : Int32)), .val (.int (1 : Int32)), .val (.ref b111), .val (.ref b182), .val (.long (own_mix ((own_mix ((-7046029254386353131 : Int64) ^^^ q4)) ^^^ q5))), .second, .val (.int (2 : Int32)), .unset, .unset] [])) rfl (hb hby at_95)) ?_
    show own_Run p e below _ T186 (mkF m 98 #[.val (.int p1), .val (.long q2), .second, .val (.long q3), .second, .val (.long q4), .second, .val (.long q5), .second, .val (.long q6), .second, .val (.int (2 : Int32)), .val (.int (3 : Int32)), .val (.int (1 : Int32)), .val (.ref b111), .val (.ref b182), .val (.long (own_mix ((own_mix ((-7046029254386353131 : Int64) ^^^ q4)) ^^^ q5))), .second, .val (.int (2 : Int32)), .unset, .unset] [(.long (-7046029254386353131 : Int64))])
    refine own_go (fun _ k => XS.aload X186.here hx rfl (hb hby at_98) rfl rfl k) ?_
    refine own_go (fun _ k => XS.iload X186.here hx rfl (hb hby at_100) rfl k) ?_
    show own_Run p e below _ T186 (mkF m 102 #[.val (.int p1), .val (.long q2), .second, .val (.long q3), .second, .val (.long q4), .second, .val (.long q5), .second, .val (.long q6), .second, .val (.int (2 : Int32)), .val (.int (3 : Int32)), .val (.int (1 : Int32)), .val (.ref b111), .val (.ref b182), .val (.long (own_mix ((own_mix ((-7046029254386353131 : Int64) ^^^ q4)) ^^^ q5))), .second, .val (.int (2 : Int32)), .unset, .unset] [(.int (2 : Int32)), (.ref b111), (.long (-7046029254386353131 : Int64))])
    obtain ⟨cl187, Ar187, q187, S187, N187, H187, G187⟩ := id V_b111_c185
    have hin187 : ¬ ((2 : Int32) < 0 ∨ cl187.slots.size ≤ ((2 : Int32)).toNatClampNeg) := inb_of S187 ⟨by decide, by decide⟩
    refine own_go (X186.laload hx (j := (2 : Int32)) (v := (.long q4)) (by rw [e186]; exact Ar187.1) (State.isArrayOf_alike hZ.alike Ar187.2.1) Ar187.2.2 hin187 (H187.at hin187 rfl) (g := (mkF m 102 #[.val (.int p1), .val (.long q2), .second, .val (.long q3), .second, .val (.long q4), .second, .val (.long q5), .second, .val (.long q6), .second, .val (.int (2 : Int32)), .val (.int (3 : Int32)), .val (.int (1 : Int32)), .val (.ref b111), .val (.ref b182), .val (.long (own_mix ((own_mix ((-7046029254386353131 : Int64) ^^^ q4)) ^^^ q5))), .second, .val (.int (2 : Int32)), .unset, .unset] [(.int (2 : Int32)), (.ref b111), (.long (-7046029254386353131 : Int64))])) rfl rfl (hb hby at_102)) ?_
    show own_Run p e below _ T186 (mkF m 103 #[.val (.int p1), .val (.long q2), .second, .val (.long q3), .second, .val (.long q4), .second, .val (.long q5), .second, .val (.long q6), .second, .val (.int (2 : Int32)), .val (.int (3 : Int32)), .val (.int (1 : Int32)), .val (.ref b111), .val (.ref b182), .val (.long (own_mix ((own_mix ((-7046029254386353131 : Int64) ^^^ q4)) ^^^ q5))), .second, .val (.int (2 : Int32)), .unset, .unset] [(.long q4), (.long (-7046029254386353131 : Int64))])
    refine own_go (fun _ k => XS.lxor X186.here hx rfl (hb hby at_103) rfl k) ?_
    show own_Run p e below _ T186 (mkF m 104 #[.val (.int p1), .val (.long q2), .second, .val (.long q3), .second, .val (.long q4), .second, .val (.long q5), .second, .val (.long q6), .second, .val (.int (2 : Int32)), .val (.int (3 : Int32)), .val (.int (1 : Int32)), .val (.ref b111), .val (.ref b182), .val (.long (own_mix ((own_mix ((-7046029254386353131 : Int64) ^^^ q4)) ^^^ q5))), .second, .val (.int (2 : Int32)), .unset, .unset] [(.long ((-7046029254386353131 : Int64) ^^^ q4))])
    obtain ⟨_, _, ⟨T188, L188, k188, n188⟩, -, X188, ⟨Lc188, hQ188, l188, y188, z188⟩, st188⟩ := Jvm.LawKit.callS X186 hx (y := (⟨"com/example/near_duplicate_finder/nearduplicatefinder/BandingKeyPinLaw", "mixRef", "(J)J"⟩ : MethodName)) hown (mvT hZ (W 30 rfl)) (mvT hZ (W 31 rfl)) (mvT hZ (W 32 rfl)) (mvT hZ (W 33 rfl)) (by decide) (backOf (W := 0) (rm5 l Z a0 hw [] ((-7046029254386353131 : Int64) ^^^ q4) T184.heap n0 Z0_c185 ) hZ (W 33 rfl) (W 32 rfl) (by decide) (by decide)) (g := (mkF m 104 #[.val (.int p1), .val (.long q2), .second, .val (.long q3), .second, .val (.long q4), .second, .val (.long q5), .second, .val (.long q6), .second, .val (.int (2 : Int32)), .val (.int (3 : Int32)), .val (.int (1 : Int32)), .val (.ref b111), .val (.ref b182), .val (.long (own_mix ((own_mix ((-7046029254386353131 : Int64) ^^^ q4)) ^^^ q5))), .second, .val (.int (2 : Int32)), .unset, .unset] [(.long ((-7046029254386353131 : Int64) ^^^ q4))])) rfl (by rw [hml]; rfl) (argsL := [(.long ((-7046029254386353131 : Int64) ^^^ q4))]) (rest := []) (lenOf pd_1 rfl) rfl (by show 2 * 0 + _ ≤ _; exact Nat.le_of_eq rfl) (hb hby at_104) (fun _ _ => ⟨rfl, e186, (by decide : 2 + 0 ≤ _), (by decide : 8 + 0 ≤ _)⟩)
    dsimp only [Pt.U, Pt.locs, Pt.cells, Pt.slots] at X188 l188 y188 z188 st188 hQ188
    subst l188 y188 z188
    obtain ⟨rfl, N188q, e188⟩ := hQ188
    have N188 := Fr.app N186 N188q
    refine own_go st188 ?_
    show own_Run p e below _ T188 (mkF m 107 #[.val (.int p1), .val (.long q2), .second, .val (.long q3), .second, .val (.long q4), .second, .val (.long q5), .second, .val (.long q6), .second, .val (.int (2 : Int32)), .val (.int (3 : Int32)), .val (.int (1 : Int32)), .val (.ref b111), .val (.ref b182), .val (.long (own_mix ((own_mix ((-7046029254386353131 : Int64) ^^^ q4)) ^^^ q5))), .second, .val (.int (2 : Int32)), .unset, .unset] [(.long (own_mix ((-7046029254386353131 : Int64) ^^^ q4)))])
    refine own_go (fun _ k => XS.lstore X188.here hx rfl (hb hby at_107) rfl (l' := #[.val (.int p1), .val (.long q2), .second, .val (.long q3), .second, .val (.long q4), .second, .val (.long q5), .second, .val (.long q6), .second, .val (.int (2 : Int32)), .val (.int (3 : Int32)), .val (.int (1 : Int32)), .val (.ref b111), .val (.ref b182), .val (.long (own_mix ((own_mix ((-7046029254386353131 : Int64) ^^^ q4)) ^^^ q5))), .second, .val (.int (2 : Int32)), .val (.long (own_mix ((-7046029254386353131 : Int64) ^^^ q4))), .second]) rfl k) ?_
    refine own_go (fun _ k => XS.iload X188.here hx rfl (hb hby at_109) rfl k) ?_
    refine own_go (fun _ k => XS.iconst X188.here hx rfl (hb hby at_111) k) ?_
    show own_Run p e below _ T188 (mkF m 112 #[.val (.int p1), .val (.long q2), .second, .val (.long q3), .second, .val (.long q4), .second, .val (.long q5), .second, .val (.long q6), .second, .val (.int (2 : Int32)), .val (.int (3 : Int32)), .val (.int (1 : Int32)), .val (.ref b111), .val (.ref b182), .val (.long (own_mix ((own_mix ((-7046029254386353131 : Int64) ^^^ q4)) ^^^ q5))), .second, .val (.int (2 : Int32)), .val (.long (own_mix ((-7046029254386353131 : Int64) ^^^ q4))), .second] [(.int (2 : Int32)), (.int (2 : Int32))])
    refine own_go (fun _ k => XS.icmpNo X188.here hx rfl (hb hby at_112) rfl (flt (by decide : ¬ ((2 : Int32) < (2 : Int32)))).1 k) ?_
    show own_Run p e below _ T188 (mkF m 115 #[.val (.int p1), .val (.long q2), .second, .val (.long q3), .second, .val (.long q4), .second, .val (.long q5), .second, .val (.long q6), .second, .val (.int (2 : Int32)), .val (.int (3 : Int32)), .val (.int (1 : Int32)), .val (.ref b111), .val (.ref b182), .val (.long (own_mix ((own_mix ((-7046029254386353131 : Int64) ^^^ q4)) ^^^ q5))), .second, .val (.int (2 : Int32)), .val (.long (own_mix ((-7046029254386353131 : Int64) ^^^ q4))), .second] [])
    refine own_go (fun _ k => XS.lload X188.here hx rfl (hb hby at_115) rfl k) ?_
    refine own_go (fun _ k => XS.aload X188.here hx rfl (hb hby at_117) rfl rfl k) ?_
    refine own_go (fun _ k => XS.iload X188.here hx rfl (hb hby at_119) rfl k) ?_
    refine own_go (fun _ k => XS.iconst X188.here hx rfl (hb hby at_121) k) ?_
    show own_Run p e below _ T188 (mkF m 122 #[.val (.int p1), .val (.long q2), .second, .val (.long q3), .second, .val (.long q4), .second, .val (.long q5), .second, .val (.long q6), .second, .val (.int (2 : Int32)), .val (.int (3 : Int32)), .val (.int (1 : Int32)), .val (.ref b111), .val (.ref b182), .val (.long (own_mix ((own_mix ((-7046029254386353131 : Int64) ^^^ q4)) ^^^ q5))), .second, .val (.int (2 : Int32)), .val (.long (own_mix ((-7046029254386353131 : Int64) ^^^ q4))), .second] [(.int (1 : Int32)), (.int (2 : Int32)), (.ref b111), (.long (own_mix ((-7046029254386353131 : Int64) ^^^ q4)))])
    refine own_go (fun _ k => XS.iadd X188.here hx rfl (hb hby at_122) rfl k) ?_
    show own_Run p e below _ T188 (mkF m 123 #[.val (.int p1), .val (.long q2), .second, .val (.long q3), .second, .val (.long q4), .second, .val (.long q5), .second, .val (.long q6), .second, .val (.int (2 : Int32)), .val (.int (3 : Int32)), .val (.int (1 : Int32)), .val (.ref b111), .val (.ref b182), .val (.long (own_mix ((own_mix ((-7046029254386353131 : Int64) ^^^ q4)) ^^^ q5))), .second, .val (.int (2 : Int32)), .val (.long (own_mix ((-7046029254386353131 : Int64) ^^^ q4))), .second] [(.int ((2 : Int32) + (1 : Int32))), (.ref b111), (.long (own_mix ((-7046029254386353131 : Int64) ^^^ q4)))])
    rw [show ((2 : Int32) + (1 : Int32)) = (3 : Int32) by decide]
    show own_Run p e below _ T188 (mkF m 123 #[.val (.int p1), .val (.long q2), .second, .val (.long q3), .second, .val (.long q4), .second, .val (.long q5), .second, .val (.long q6), .second, .val (.int (2 : Int32)), .val (.int (3 : Int32)), .val (.int (1 : Int32)), .val (.ref b111), .val (.ref b182), .val (.long (own_mix ((own_mix ((-7046029254386353131 : Int64) ^^^ q4)) ^^^ q5))), .second, .val (.int (2 : Int32)), .val (.long (own_mix ((-7046029254386353131 : Int64) ^^^ q4))), .second] [(.int (3 : Int32)), (.ref b111), (.long (own_mix ((-7046029254386353131 : Int64) ^^^ q4)))])
    obtain ⟨cl189, Ar189, q189, S189, N189, H189, G189⟩ := id V_b111_c185
    have hin189 : ¬ ((3 : Int32) < 0 ∨ cl189.slots.size ≤ ((3 : Int32)).toNatClampNeg) := inb_of S189 ⟨by decide, by decide⟩
    refine own_go (X188.laload hx (j := (3 : Int32)) (v := (.long q5)) (by rw [e188]; exact Ar189.1) (State.isArrayOf_alike hZ.alike Ar189.2.1) Ar189.2.2 hin189 (H189.at hin189 rfl) (g := (mkF m 123 #[.val (.int p1), .val (.long q2), .second, .val (.long q3), .second, .val (.long q4), .second, .val (.long q5), .second, .val (.long q6), .second, .val (.int (2 : Int32)), .val (.int (3 : Int32)), .val (.int (1 : Int32)), .val (.ref b111), .val (.ref b182), .val (.long (own_mix ((own_mix ((-7046029254386353131 : Int64) ^^^ q4)) ^^^ q5))), .second, .val (.int (2 : Int32)), .val (.long (own_mix ((-7046029254386353131 : Int64) ^^^ q4))), .second] [(.int (3 : Int32)), (.ref b111), (.long (own_mix ((-7046029254386353131 : Int64) ^^^ q4)))])) rfl rfl (hb hby at_123)) ?_
    show own_Run p e below _ T188 (mkF m 124 #[.val (.int p1), .val (.long q2), .second, .val (.long q3), .second, .val (.long q4), .second, .val (.long q5), .second, .val (.long q6), .second, .val (.int (2 : Int32)), .val (.int (3 : Int32)), .val (.int (1 : Int32)), .val (.ref b111), .val (.ref b182), .val (.long (own_mix ((own_mix ((-7046029254386353131 : Int64) ^^^ q4)) ^^^ q5))), .second, .val (.int (2 : Int32)), .val (.long (own_mix ((-7046029254386353131 : Int64) ^^^ q4))), .second] [(.long q5), (.long (own_mix ((-7046029254386353131 : Int64) ^^^ q4)))])
    refine own_go (fun _ k => XS.lxor X188.here hx rfl (hb hby at_124) rfl k) ?_
    show own_Run p e below _ T188 (mkF m 125 #[.val (.int p1), .val (.long q2), .second, .val (.long q3), .second, .val (.long q4), .second, .val (.long q5), .second, .val (.long q6), .second, .val (.int (2 : Int32)), .val (.int (3 : Int32)), .val (.int (1 : Int32)), .val (.ref b111), .val (.ref b182), .val (.long (own_mix ((own_mix ((-7046029254386353131 : Int64) ^^^ q4)) ^^^ q5))), .second, .val (.int (2 : Int32)), .val (.long (own_mix ((-7046029254386353131 : Int64) ^^^ q4))), .second] [(.long ((own_mix ((-7046029254386353131 : Int64) ^^^ q4)) ^^^ q5))])
    obtain ⟨_, _, ⟨T190, L190, k190, n190⟩, -, X190, ⟨Lc190, hQ190, l190, y190, z190⟩, st190⟩ := Jvm.LawKit.callS X188 hx (y := (⟨"com/example/near_duplicate_finder/nearduplicatefinder/BandingKeyPinLaw", "mixRef", "(J)J"⟩ : MethodName)) hown (mvT hZ (W 30 rfl)) (mvT hZ (W 31 rfl)) (mvT hZ (W 32 rfl)) (mvT hZ (W 33 rfl)) (by decide) (backOf (W := 0) (rm5 l Z a0 hw [] ((own_mix ((-7046029254386353131 : Int64) ^^^ q4)) ^^^ q5) T184.heap n0 Z0_c185 ) hZ (W 33 rfl) (W 32 rfl) (by decide) (by decide)) (g := (mkF m 125 #[.val (.int p1), .val (.long q2), .second, .val (.long q3), .second, .val (.long q4), .second, .val (.long q5), .second, .val (.long q6), .second, .val (.int (2 : Int32)), .val (.int (3 : Int32)), .val (.int (1 : Int32)), .val (.ref b111), .val (.ref b182), .val (.long (own_mix ((own_mix ((-7046029254386353131 : Int64) ^^^ q4)) ^^^ q5))), .second, .val (.int (2 : Int32)), .val (.long (own_mix ((-7046029254386353131 : Int64) ^^^ q4))), .second] [(.long ((own_mix ((-7046029254386353131 : Int64) ^^^ q4)) ^^^ q5))])) rfl (by rw [hml]; rfl) (argsL := [(.long ((own_mix ((-7046029254386353131 : Int64) ^^^ q4)) ^^^ q5))]) (rest := []) (lenOf pd_1 rfl) rfl (by show 2 * 0 + _ ≤ _; exact Nat.le_of_eq rfl) (hb hby at_125) (fun _ _ => ⟨rfl, e188, (by decide : 2 + 0 ≤ _), (by decide : 8 + 0 ≤ _)⟩)
    dsimp only [Pt.U, Pt.locs, Pt.cells, Pt.slots] at X190 l190 y190 z190 st190 hQ190
    subst l190 y190 z190
    obtain ⟨rfl, N190q, e190⟩ := hQ190
    have N190 := Fr.app N188 N190q
    refine own_go st190 ?_
    show own_Run p e below _ T190 (mkF m 128 #[.val (.int p1), .val (.long q2), .second, .val (.long q3), .second, .val (.long q4), .second, .val (.long q5), .second, .val (.long q6), .second, .val (.int (2 : Int32)), .val (.int (3 : Int32)), .val (.int (1 : Int32)), .val (.ref b111), .val (.ref b182), .val (.long (own_mix ((own_mix ((-7046029254386353131 : Int64) ^^^ q4)) ^^^ q5))), .second, .val (.int (2 : Int32)), .val (.long (own_mix ((-7046029254386353131 : Int64) ^^^ q4))), .second] [(.long (own_mix ((own_mix ((-7046029254386353131 : Int64) ^^^ q4)) ^^^ q5)))])
    refine own_go (fun _ k => XS.lstore X190.here hx rfl (hb hby at_128) rfl (l' := #[.val (.int p1), .val (.long q2), .second, .val (.long q3), .second, .val (.long q4), .second, .val (.long q5), .second, .val (.long q6), .second, .val (.int (2 : Int32)), .val (.int (3 : Int32)), .val (.int (1 : Int32)), .val (.ref b111), .val (.ref b182), .val (.long (own_mix ((own_mix ((-7046029254386353131 : Int64) ^^^ q4)) ^^^ q5))), .second, .val (.int (2 : Int32)), .val (.long (own_mix ((own_mix ((-7046029254386353131 : Int64) ^^^ q4)) ^^^ q5))), .second]) rfl k) ?_
    refine own_go (fun _ k => XS.iload X190.here hx rfl (hb hby at_130) rfl k) ?_
    refine own_go (fun _ k => XS.iconst X190.here hx rfl (hb hby at_132) k) ?_
    show own_Run p e below _ T190 (mkF m 133 #[.val (.int p1), .val (.long q2), .second, .val (.long q3), .second, .val (.long q4), .second, .val (.long q5), .second, .val (.long q6), .second, .val (.int (2 : Int32)), .val (.int (3 : Int32)), .val (.int (1 : Int32)), .val (.ref b111), .val (.ref b182), .val (.long (own_mix ((own_mix ((-7046029254386353131 : Int64) ^^^ q4)) ^^^ q5))), .second, .val (.int (2 : Int32)), .val (.long (own_mix ((own_mix ((-7046029254386353131 : Int64) ^^^ q4)) ^^^ q5))), .second] [(.int (3 : Int32)), (.int (2 : Int32))])
    refine own_go (fun _ k => XS.icmpYes X190.here hx rfl (pc0 := 133) (pc' := 151) rfl (hb hby at_133) rfl (tlt (by decide : (2 : Int32) < (3 : Int32))).1 (by decide) (by decide) k) ?_
    show own_Run p e below _ T190 (mkF m 151 #[.val (.int p1), .val (.long q2), .second, .val (.long q3), .second, .val (.long q4), .second, .val (.long q5), .second, .val (.long q6), .second, .val (.int (2 : Int32)), .val (.int (3 : Int32)), .val (.int (1 : Int32)), .val (.ref b111), .val (.ref b182), .val (.long (own_mix ((own_mix ((-7046029254386353131 : Int64) ^^^ q4)) ^^^ q5))), .second, .val (.int (2 : Int32)), .val (.long (own_mix ((own_mix ((-7046029254386353131 : Int64) ^^^ q4)) ^^^ q5))), .second] [])
    refine own_go (fun _ k => XS.lload X190.here hx rfl (hb hby at_151) rfl k) ?_
    refine own_go (fun _ k => XS.lload X190.here hx rfl (hb hby at_153) rfl k) ?_
    refine own_go (fun _ k => XS.lcmp X190.here hx rfl (hb hby at_155) rfl k) ?_
    show own_Run p e below _ T190 (mkF m 156 #[.val (.int p1), .val (.long q2), .second, .val (.long q3), .second, .val (.long q4), .second, .val (.long q5), .second, .val (.long q6), .second, .val (.int (2 : Int32)), .val (.int (3 : Int32)), .val (.int (1 : Int32)), .val (.ref b111), .val (.ref b182), .val (.long (own_mix ((own_mix ((-7046029254386353131 : Int64) ^^^ q4)) ^^^ q5))), .second, .val (.int (2 : Int32)), .val (.long (own_mix ((own_mix ((-7046029254386353131 : Int64) ^^^ q4)) ^^^ q5))), .second] [(.int (lcmpW (own_mix ((own_mix ((-7046029254386353131 : Int64) ^^^ q4)) ^^^ q5)) (own_mix ((own_mix ((-7046029254386353131 : Int64) ^^^ q4)) ^^^ q5))))])
    refine own_go (fun _ k => XS.ifNo X190.here hx rfl (hb hby at_156) rfl (own_lcTe rfl).2 k) ?_
    show own_Run p e below _ T190 (mkF m 159 #[.val (.int p1), .val (.long q2), .second, .val (.long q3), .second, .val (.long q4), .second, .val (.long q5), .second, .val (.long q6), .second, .val (.int (2 : Int32)), .val (.int (3 : Int32)), .val (.int (1 : Int32)), .val (.ref b111), .val (.ref b182), .val (.long (own_mix ((own_mix ((-7046029254386353131 : Int64) ^^^ q4)) ^^^ q5))), .second, .val (.int (2 : Int32)), .val (.long (own_mix ((own_mix ((-7046029254386353131 : Int64) ^^^ q4)) ^^^ q5))), .second] [])
    refine own_go (fun _ k => XS.iconst X190.here hx rfl (hb hby at_159) k) ?_
    refine own_go (fun _ k => XS.goto X190.here hx rfl (pc0 := 160) (pc' := 164) rfl (hb hby at_160) (by decide) (by decide) k) ?_
    show own_Run p e below _ T190 (mkF m 164 #[.val (.int p1), .val (.long q2), .second, .val (.long q3), .second, .val (.long q4), .second, .val (.long q5), .second, .val (.long q6), .second, .val (.int (2 : Int32)), .val (.int (3 : Int32)), .val (.int (1 : Int32)), .val (.ref b111), .val (.ref b182), .val (.long (own_mix ((own_mix ((-7046029254386353131 : Int64) ^^^ q4)) ^^^ q5))), .second, .val (.int (2 : Int32)), .val (.long (own_mix ((own_mix ((-7046029254386353131 : Int64) ^^^ q4)) ^^^ q5))), .second] [(.int (1 : Int32))])
    refine own_done (Q := fun v h L => Q0 Z p1 q2 q3 q4 q5 q6 h0 n0 v h L) (v := (some (.int (1 : Int32)))) X190 (fun h => by rw [hret] at h; cases h) hlk (fun fs hr => retN X190 hx (t := .boolean) hret (by simp) (hb hby at_164) hr) ?_ (by decide) (by decide)
    show Q0 Z p1 q2 q3 q4 q5 q6 h0 n0 _ T190.heap _
    rw [e190]
    exact ⟨rfl, N190⟩
  · show own_Run p e below _ T129 (mkF m 64 #[.val (.int p1), .val (.long q2), .second, .val (.long q3), .second, .val (.long q4), .second, .val (.long q5), .second, .val (.long q6), .second, .val (.int (2 : Int32)), .val (.int (3 : Int32)), .val (.int (2 : Int32)), .val (.ref b111), .unset, .unset, .unset, .unset, .unset, .unset] [])
    obtain ⟨T191, h191, X191, e191, E191, A191, D191, -, st191⟩ := newO X129 hx hZ hown (W 3 rfl) (W 4 rfl) (W 5 rfl) e129 (g := (mkF m 64 #[.val (.int p1), .val (.long q2), .second, .val (.long q3), .second, .val (.long q4), .second, .val (.long q5), .second, .val (.long q6), .second, .val (.int (2 : Int32)), .val (.int (3 : Int32)), .val (.int (2 : Int32)), .val (.ref b111), .unset, .unset, .unset, .unset, .unset, .unset] [])) rfl (hb hby at_64) (by decide) (by decide)
    refine own_go st191 ?_
    obtain ⟨b191, g191⟩ : ∃ z, z = h129.size := ⟨_, rfl⟩
    rw [← g191] at A191 D191
    rw [← g191]
    show own_Run p e below _ T191 (mkF m 67 #[.val (.int p1), .val (.long q2), .second, .val (.long q3), .second, .val (.long q4), .second, .val (.long q5), .second, .val (.long q6), .second, .val (.int (2 : Int32)), .val (.int (3 : Int32)), .val (.int (2 : Int32)), .val (.ref b111), .unset, .unset, .unset, .unset, .unset, .unset] [(.ref b191)])
    have ne_b111_b191 : b111 ≠ b191 := Nat.ne_of_lt (Nat.lt_of_lt_of_eq V_b111_c129.lt g191.symm)
    have g_b191 : n0 ≤ b191 := Nat.le_trans Z0_c130 (Nat.le_of_eq g191.symm)
    have sz_b191 : h0.size ≤ b191 := Nat.le_trans K0_c130.1 (Nat.le_of_eq g191.symm)
    have Z0_c192 := Nat.le_trans Z0_c130 E191.1
    have K0_c192 := K0_c130.ext E191
    have V_b111_c192 := V_b111_c129.ext E191
    have F_bands_b191 : Fld Z h191 b191 "com/example/near_duplicate_finder/nearduplicatefinder/Banding" "bands" "I" (.int (0 : Int32)) := D191 (Or.inr (W 14 rfl)) (ty := .int) (by decide)
    have F_rows_b191 : Fld Z h191 b191 "com/example/near_duplicate_finder/nearduplicatefinder/Banding" "rows" "I" (.int (0 : Int32)) := D191 (Or.inr (W 16 rfl)) (ty := .int) (by decide)
    refine own_go (fun _ k => XS.dup X191.here hx rfl (hb hby at_67) rfl rfl k) ?_
    refine own_go (fun _ k => XS.iload X191.here hx rfl (hb hby at_68) rfl k) ?_
    refine own_go (fun _ k => XS.iload X191.here hx rfl (hb hby at_70) rfl k) ?_
    show own_Run p e below _ T191 (mkF m 72 #[.val (.int p1), .val (.long q2), .second, .val (.long q3), .second, .val (.long q4), .second, .val (.long q5), .second, .val (.long q6), .second, .val (.int (2 : Int32)), .val (.int (3 : Int32)), .val (.int (2 : Int32)), .val (.ref b111), .unset, .unset, .unset, .unset, .unset, .unset] [(.int (2 : Int32)), (.int (3 : Int32)), (.ref b191), (.ref b191)])
    obtain ⟨_, _, ⟨T193, L193, k193, n193⟩, -, X193, ⟨Lc193, hQ193, l193, y193, z193⟩, st193⟩ := X191.specialBack hx (y := (⟨"com/example/near_duplicate_finder/nearduplicatefinder/Banding", "<init>", "(II)V"⟩ : MethodName)) rfl hown (mvT hZ (W 6 rfl)) (mvT hZ (W 7 rfl)) (mvT hZ (W 8 rfl)) (by decide) (backOf (W := 1) (rm1 l Z a0 hw [] b191 (3 : Int32) (2 : Int32) (.int (0 : Int32)) (.int (0 : Int32)) h191 n0 Z0_c192 A191 F_bands_b191 F_rows_b191 g_b191 (by decide) (by decide) (by decide)) hZ (W 8 rfl) (W 5 rfl) (by decide) (by decide)) (g := (mkF m 72 #[.val (.int p1), .val (.long q2), .second, .val (.long q3), .second, .val (.long q4), .second, .val (.long q5), .second, .val (.long q6), .second, .val (.int (2 : Int32)), .val (.int (3 : Int32)), .val (.int (2 : Int32)), .val (.ref b111), .unset, .unset, .unset, .unset, .unset, .unset] [(.int (2 : Int32)), (.int (3 : Int32)), (.ref b191), (.ref b191)])) rfl (by rw [hml]; rfl) (Steps.refl _) (a := b191) (argsL := [(.int (3 : Int32)), (.int (2 : Int32))]) (rest := [(.ref b191)]) (lenOf pd_2 rfl) rfl (by show 2 * 0 + _ ≤ _; exact Nat.le_of_eq rfl) (hb hby at_72) (fun _ _ => ⟨rfl, e191, (by decide : 2 + 0 ≤ _), (by decide : 8 + 0 ≤ _)⟩)
    dsimp only [Pt.U, Pt.locs, Pt.cells, Pt.slots] at X193 l193 y193 z193 st193 hQ193
    subst l193 y193 z193
    obtain ⟨rfl, N193q, K193, P193_0, P193_1⟩ := hQ193
    have N193 := Fr.app N129 N193q
    refine own_goT st193 ?_
    show own_Run p e below _ T193 (mkF m 75 #[.val (.int p1), .val (.long q2), .second, .val (.long q3), .second, .val (.long q4), .second, .val (.long q5), .second, .val (.long q6), .second, .val (.int (2 : Int32)), .val (.int (3 : Int32)), .val (.int (2 : Int32)), .val (.ref b111), .unset, .unset, .unset, .unset, .unset, .unset] [(.ref b191)])
    have Z0_c194 := Nat.le_trans Z0_c192 K193.1
    have K0_c194 := K0_c192.trans K193 (allS (Or.inr sz_b191) all0)
    have V_b111_c194 := V_b111_c192.keep K193 (ninS ne_b111_b191 nin0)
    have A191_c194 := A191.keep K193
    refine own_go (fun _ k => XS.astore X193.here hx rfl (hb hby at_75) rfl rfl (l' := #[.val (.int p1), .val (.long q2), .second, .val (.long q3), .second, .val (.long q4), .second, .val (.long q5), .second, .val (.long q6), .second, .val (.int (2 : Int32)), .val (.int (3 : Int32)), .val (.int (2 : Int32)), .val (.ref b111), .val (.ref b191), .unset, .unset, .unset, .unset, .unset]) rfl k) ?_
    refine own_go (fun _ k => XS.aload X193.here hx rfl (hb hby at_77) rfl rfl k) ?_
    refine own_go (fun _ k => XS.aload X193.here hx rfl (hb hby at_79) rfl rfl k) ?_
    refine own_go (fun _ k => XS.iload X193.here hx rfl (hb hby at_81) rfl k) ?_
    show own_Run p e below _ T193 (mkF m 83 #[.val (.int p1), .val (.long q2), .second, .val (.long q3), .second, .val (.long q4), .second, .val (.long q5), .second, .val (.long q6), .second, .val (.int (2 : Int32)), .val (.int (3 : Int32)), .val (.int (2 : Int32)), .val (.ref b111), .val (.ref b191), .unset, .unset, .unset, .unset, .unset] [(.int (2 : Int32)), (.ref b111), (.ref b191)])
    obtain ⟨cq195, kq195, q195a, q195b, q195c⟩ := isOf hZ rfl P193_0
    obtain ⟨_, _, ⟨T195, L195, k195, n195⟩, -, X195, ⟨Lc195, hQ195, l195, y195, z195⟩, st195⟩ := X193.virtualBack hx (y := (⟨"com/example/near_duplicate_finder/nearduplicatefinder/Banding", "key", "([JI)J"⟩ : MethodName)) (z := (⟨"com/example/near_duplicate_finder/nearduplicatefinder/Banding", "key", "([JI)J"⟩ : MethodName)) hown (mvT hZ (W 17 rfl)) (mvT hZ (W 18 rfl)) (notFace_of_selects (args := #[]) (mvT hZ (W 20 rfl))) (mvT hZ (W 20 rfl)) (mvT hZ (W 19 rfl)) (by decide) (backOf (W := 0) (rm3 l Z a0 hw [] b191 b111 (2 : Int32) (2 : Int32) k111 q2 q3 q4 q5 q6 (q2 + q6) (own_mix ((own_mix ((-7046029254386353131 : Int64) ^^^ q6)) ^^^ (q2 + q6))) T193.heap n0 Z0_c194 P193_1 V_b111_c194 (Or.inr (Or.inr (Or.inr (Or.inr (Or.inr (Or.inr (Or.inr (Or.inr (Or.inl ⟨rfl, rfl, rfl⟩)))))))))) hZ (W 21 rfl) (W 5 rfl) (by decide) (by decide)) q195a q195c (g := (mkF m 83 #[.val (.int p1), .val (.long q2), .second, .val (.long q3), .second, .val (.long q4), .second, .val (.long q5), .second, .val (.long q6), .second, .val (.int (2 : Int32)), .val (.int (3 : Int32)), .val (.int (2 : Int32)), .val (.ref b111), .val (.ref b191), .unset, .unset, .unset, .unset, .unset] [(.int (2 : Int32)), (.ref b111), (.ref b191)])) rfl (by rw [hml]; rfl) (Steps.refl _) (argsL := [(.ref b111), (.int (2 : Int32))]) (rest := []) (lenOf pd_3 rfl) rfl (by show 2 * 0 + _ ≤ _; exact Nat.le_of_eq rfl) (hb hby at_83) (fun _ _ => ⟨rfl, rfl, (by decide : 2 + 0 ≤ _), (by decide : 8 + 0 ≤ _)⟩)
    dsimp only [Pt.U, Pt.locs, Pt.cells, Pt.slots] at X195 l195 y195 z195 st195 hQ195
    subst l195 y195 z195
    obtain ⟨rfl, N195q, e195⟩ := hQ195
    have N195 := Fr.app N193 N195q
    refine own_goT st195 ?_
    show own_Run p e below _ T195 (mkF m 86 #[.val (.int p1), .val (.long q2), .second, .val (.long q3), .second, .val (.long q4), .second, .val (.long q5), .second, .val (.long q6), .second, .val (.int (2 : Int32)), .val (.int (3 : Int32)), .val (.int (2 : Int32)), .val (.ref b111), .val (.ref b191), .unset, .unset, .unset, .unset, .unset] [(.long (own_mix ((own_mix ((-7046029254386353131 : Int64) ^^^ q6)) ^^^ (q2 + q6))))])
    refine own_go (fun _ k => XS.lstore X195.here hx rfl (hb hby at_86) rfl (l' := #[.val (.int p1), .val (.long q2), .second, .val (.long q3), .second, .val (.long q4), .second, .val (.long q5), .second, .val (.long q6), .second, .val (.int (2 : Int32)), .val (.int (3 : Int32)), .val (.int (2 : Int32)), .val (.ref b111), .val (.ref b191), .val (.long (own_mix ((own_mix ((-7046029254386353131 : Int64) ^^^ q6)) ^^^ (q2 + q6)))), .second, .unset, .unset, .unset]) rfl k) ?_
    refine own_go (fun _ k => XS.iload X195.here hx rfl (hb hby at_88) rfl k) ?_
    refine own_go (fun _ k => XS.iload X195.here hx rfl (hb hby at_90) rfl k) ?_
    refine own_go (fun _ k => XS.imul X195.here hx rfl (hb hby at_92) rfl k) ?_
    show own_Run p e below _ T195 (mkF m 93 #[.val (.int p1), .val (.long q2), .second, .val (.long q3), .second, .val (.long q4), .second, .val (.long q5), .second, .val (.long q6), .second, .val (.int (2 : Int32)), .val (.int (3 : Int32)), .val (.int (2 : Int32)), .val (.ref b111), .val (.ref b191), .val (.long (own_mix ((own_mix ((-7046029254386353131 : Int64) ^^^ q6)) ^^^ (q2 + q6)))), .second, .unset, .unset, .unset] [(.int ((2 : Int32) * (2 : Int32)))])
    rw [show ((2 : Int32) * (2 : Int32)) = (4 : Int32) by decide]
    show own_Run p e below _ T195 (mkF m 93 #[.val (.int p1), .val (.long q2), .second, .val (.long q3), .second, .val (.long q4), .second, .val (.long q5), .second, .val (.long q6), .second, .val (.int (2 : Int32)), .val (.int (3 : Int32)), .val (.int (2 : Int32)), .val (.ref b111), .val (.ref b191), .val (.long (own_mix ((own_mix ((-7046029254386353131 : Int64) ^^^ q6)) ^^^ (q2 + q6)))), .second, .unset, .unset, .unset] [(.int (4 : Int32))])
    refine own_go (fun _ k => XS.istore X195.here hx rfl (hb hby at_93) rfl (l' := #[.val (.int p1), .val (.long q2), .second, .val (.long q3), .second, .val (.long q4), .second, .val (.long q5), .second, .val (.long q6), .second, .val (.int (2 : Int32)), .val (.int (3 : Int32)), .val (.int (2 : Int32)), .val (.ref b111), .val (.ref b191), .val (.long (own_mix ((own_mix ((-7046029254386353131 : Int64) ^^^ q6)) ^^^ (q2 + q6)))), .second, .val (.int (4 : Int32)), .unset, .unset]) rfl k) ?_
    show own_Run p e below _ T195 (mkF m 95 #[.val (.int p1), .val (.long q2), .second, .val (.long q3), .second, .val (.long q4), .second, .val (.long q5), .second, .val (.long q6), .second, .val (.int (2 : Int32)), .val (.int (3 : Int32)), .val (.int (2 : Int32)), .val (.ref b111), .val (.ref b191), .val (.long (own_mix ((own_mix ((-7046029254386353131 : Int64) ^^^ q6)) ^^^ (q2 + q6)))), .second, .val (.int (4 : Int32)), .unset, .unset] [])
    refine own_go (X195.ldc2Long hx hown (mvT hZ (W 29 rfl)) (g := (mkF m 95 #[.val (.int p1), .val (.long q2), .second, .val (.long q3), .second, .val (.long q4), .second, .val (.long q5), .second, .val (.long q6), .second, .val (.int (2 : Int32)), .val (.int (3 : Int32)), .val (.int (2 : Int32)), .val (.ref b111), .val (.ref b191), .val (.long (own_mix ((own_mix ((-7046029254386353131 : Int64) ^^^ q6)) ^^^ (q2 + q6)))), .second, .val (.int (4 : Int32)), .unset, .unset] [])) rfl (hb hby at_95)) ?_
    show own_Run p e below _ T195 (mkF m 98 #[.val (.int p1), .val (.long q2), .second, .val (.long q3), .second, .val (.long q4), .second, .val (.long q5), .second, .val (.long q6), .second, .val (.int (2 : Int32)), .val (.int (3 : Int32)), .val (.int (2 : Int32)), .val (.ref b111), .val (.ref b191), .val (.long (own_mix ((own_mix ((-7046029254386353131 : Int64) ^^^ q6)) ^^^ (q2 + q6)))), .second, .val (.int (4 : Int32)), .unset, .unset] [(.long (-7046029254386353131 : Int64))])
    refine own_go (fun _ k => XS.aload X195.here hx rfl (hb hby at_98) rfl rfl k) ?_
    refine own_go (fun _ k => XS.iload X195.here hx rfl (hb hby at_100) rfl k) ?_
    show own_Run p e below _ T195 (mkF m 102 #[.val (.int p1), .val (.long q2), .second, .val (.long q3), .second, .val (.long q4), .second, .val (.long q5), .second, .val (.long q6), .second, .val (.int (2 : Int32)), .val (.int (3 : Int32)), .val (.int (2 : Int32)), .val (.ref b111), .val (.ref b191), .val (.long (own_mix ((own_mix ((-7046029254386353131 : Int64) ^^^ q6)) ^^^ (q2 + q6)))), .second, .val (.int (4 : Int32)), .unset, .unset] [(.int (4 : Int32)), (.ref b111), (.long (-7046029254386353131 : Int64))])
    obtain ⟨cl196, Ar196, q196, S196, N196, H196, G196⟩ := id V_b111_c194
    have hin196 : ¬ ((4 : Int32) < 0 ∨ cl196.slots.size ≤ ((4 : Int32)).toNatClampNeg) := inb_of S196 ⟨by decide, by decide⟩
    refine own_go (X195.laload hx (j := (4 : Int32)) (v := (.long q6)) (by rw [e195]; exact Ar196.1) (State.isArrayOf_alike hZ.alike Ar196.2.1) Ar196.2.2 hin196 (H196.at hin196 rfl) (g := (mkF m 102 #[.val (.int p1), .val (.long q2), .second, .val (.long q3), .second, .val (.long q4), .second, .val (.long q5), .second, .val (.long q6), .second, .val (.int (2 : Int32)), .val (.int (3 : Int32)), .val (.int (2 : Int32)), .val (.ref b111), .val (.ref b191), .val (.long (own_mix ((own_mix ((-7046029254386353131 : Int64) ^^^ q6)) ^^^ (q2 + q6)))), .second, .val (.int (4 : Int32)), .unset, .unset] [(.int (4 : Int32)), (.ref b111), (.long (-7046029254386353131 : Int64))])) rfl rfl (hb hby at_102)) ?_
    show own_Run p e below _ T195 (mkF m 103 #[.val (.int p1), .val (.long q2), .second, .val (.long q3), .second, .val (.long q4), .second, .val (.long q5), .second, .val (.long q6), .second, .val (.int (2 : Int32)), .val (.int (3 : Int32)), .val (.int (2 : Int32)), .val (.ref b111), .val (.ref b191), .val (.long (own_mix ((own_mix ((-7046029254386353131 : Int64) ^^^ q6)) ^^^ (q2 + q6)))), .second, .val (.int (4 : Int32)), .unset, .unset] [(.long q6), (.long (-7046029254386353131 : Int64))])
    refine own_go (fun _ k => XS.lxor X195.here hx rfl (hb hby at_103) rfl k) ?_
    show own_Run p e below _ T195 (mkF m 104 #[.val (.int p1), .val (.long q2), .second, .val (.long q3), .second, .val (.long q4), .second, .val (.long q5), .second, .val (.long q6), .second, .val (.int (2 : Int32)), .val (.int (3 : Int32)), .val (.int (2 : Int32)), .val (.ref b111), .val (.ref b191), .val (.long (own_mix ((own_mix ((-7046029254386353131 : Int64) ^^^ q6)) ^^^ (q2 + q6)))), .second, .val (.int (4 : Int32)), .unset, .unset] [(.long ((-7046029254386353131 : Int64) ^^^ q6))])
    obtain ⟨_, _, ⟨T197, L197, k197, n197⟩, -, X197, ⟨Lc197, hQ197, l197, y197, z197⟩, st197⟩ := Jvm.LawKit.callS X195 hx (y := (⟨"com/example/near_duplicate_finder/nearduplicatefinder/BandingKeyPinLaw", "mixRef", "(J)J"⟩ : MethodName)) hown (mvT hZ (W 30 rfl)) (mvT hZ (W 31 rfl)) (mvT hZ (W 32 rfl)) (mvT hZ (W 33 rfl)) (by decide) (backOf (W := 0) (rm5 l Z a0 hw [] ((-7046029254386353131 : Int64) ^^^ q6) T193.heap n0 Z0_c194 ) hZ (W 33 rfl) (W 32 rfl) (by decide) (by decide)) (g := (mkF m 104 #[.val (.int p1), .val (.long q2), .second, .val (.long q3), .second, .val (.long q4), .second, .val (.long q5), .second, .val (.long q6), .second, .val (.int (2 : Int32)), .val (.int (3 : Int32)), .val (.int (2 : Int32)), .val (.ref b111), .val (.ref b191), .val (.long (own_mix ((own_mix ((-7046029254386353131 : Int64) ^^^ q6)) ^^^ (q2 + q6)))), .second, .val (.int (4 : Int32)), .unset, .unset] [(.long ((-7046029254386353131 : Int64) ^^^ q6))])) rfl (by rw [hml]; rfl) (argsL := [(.long ((-7046029254386353131 : Int64) ^^^ q6))]) (rest := []) (lenOf pd_1 rfl) rfl (by show 2 * 0 + _ ≤ _; exact Nat.le_of_eq rfl) (hb hby at_104) (fun _ _ => ⟨rfl, e195, (by decide : 2 + 0 ≤ _), (by decide : 8 + 0 ≤ _)⟩)
    dsimp only [Pt.U, Pt.locs, Pt.cells, Pt.slots] at X197 l197 y197 z197 st197 hQ197
    subst l197 y197 z197
    obtain ⟨rfl, N197q, e197⟩ := hQ197
    have N197 := Fr.app N195 N197q
    refine own_go st197 ?_
    show own_Run p e below _ T197 (mkF m 107 #[.val (.int p1), .val (.long q2), .second, .val (.long q3), .second, .val (.long q4), .second, .val (.long q5), .second, .val (.long q6), .second, .val (.int (2 : Int32)), .val (.int (3 : Int32)), .val (.int (2 : Int32)), .val (.ref b111), .val (.ref b191), .val (.long (own_mix ((own_mix ((-7046029254386353131 : Int64) ^^^ q6)) ^^^ (q2 + q6)))), .second, .val (.int (4 : Int32)), .unset, .unset] [(.long (own_mix ((-7046029254386353131 : Int64) ^^^ q6)))])
    refine own_go (fun _ k => XS.lstore X197.here hx rfl (hb hby at_107) rfl (l' := #[.val (.int p1), .val (.long q2), .second, .val (.long q3), .second, .val (.long q4), .second, .val (.long q5), .second, .val (.long q6), .second, .val (.int (2 : Int32)), .val (.int (3 : Int32)), .val (.int (2 : Int32)), .val (.ref b111), .val (.ref b191), .val (.long (own_mix ((own_mix ((-7046029254386353131 : Int64) ^^^ q6)) ^^^ (q2 + q6)))), .second, .val (.int (4 : Int32)), .val (.long (own_mix ((-7046029254386353131 : Int64) ^^^ q6))), .second]) rfl k) ?_
    refine own_go (fun _ k => XS.iload X197.here hx rfl (hb hby at_109) rfl k) ?_
    refine own_go (fun _ k => XS.iconst X197.here hx rfl (hb hby at_111) k) ?_
    show own_Run p e below _ T197 (mkF m 112 #[.val (.int p1), .val (.long q2), .second, .val (.long q3), .second, .val (.long q4), .second, .val (.long q5), .second, .val (.long q6), .second, .val (.int (2 : Int32)), .val (.int (3 : Int32)), .val (.int (2 : Int32)), .val (.ref b111), .val (.ref b191), .val (.long (own_mix ((own_mix ((-7046029254386353131 : Int64) ^^^ q6)) ^^^ (q2 + q6)))), .second, .val (.int (4 : Int32)), .val (.long (own_mix ((-7046029254386353131 : Int64) ^^^ q6))), .second] [(.int (2 : Int32)), (.int (2 : Int32))])
    refine own_go (fun _ k => XS.icmpNo X197.here hx rfl (hb hby at_112) rfl (flt (by decide : ¬ ((2 : Int32) < (2 : Int32)))).1 k) ?_
    show own_Run p e below _ T197 (mkF m 115 #[.val (.int p1), .val (.long q2), .second, .val (.long q3), .second, .val (.long q4), .second, .val (.long q5), .second, .val (.long q6), .second, .val (.int (2 : Int32)), .val (.int (3 : Int32)), .val (.int (2 : Int32)), .val (.ref b111), .val (.ref b191), .val (.long (own_mix ((own_mix ((-7046029254386353131 : Int64) ^^^ q6)) ^^^ (q2 + q6)))), .second, .val (.int (4 : Int32)), .val (.long (own_mix ((-7046029254386353131 : Int64) ^^^ q6))), .second] [])
    refine own_go (fun _ k => XS.lload X197.here hx rfl (hb hby at_115) rfl k) ?_
    refine own_go (fun _ k => XS.aload X197.here hx rfl (hb hby at_117) rfl rfl k) ?_
    refine own_go (fun _ k => XS.iload X197.here hx rfl (hb hby at_119) rfl k) ?_
    refine own_go (fun _ k => XS.iconst X197.here hx rfl (hb hby at_121) k) ?_
    show own_Run p e below _ T197 (mkF m 122 #[.val (.int p1), .val (.long q2), .second, .val (.long q3), .second, .val (.long q4), .second, .val (.long q5), .second, .val (.long q6), .second, .val (.int (2 : Int32)), .val (.int (3 : Int32)), .val (.int (2 : Int32)), .val (.ref b111), .val (.ref b191), .val (.long (own_mix ((own_mix ((-7046029254386353131 : Int64) ^^^ q6)) ^^^ (q2 + q6)))), .second, .val (.int (4 : Int32)), .val (.long (own_mix ((-7046029254386353131 : Int64) ^^^ q6))), .second] [(.int (1 : Int32)), (.int (4 : Int32)), (.ref b111), (.long (own_mix ((-7046029254386353131 : Int64) ^^^ q6)))])
    refine own_go (fun _ k => XS.iadd X197.here hx rfl (hb hby at_122) rfl k) ?_
    show own_Run p e below _ T197 (mkF m 123 #[.val (.int p1), .val (.long q2), .second, .val (.long q3), .second, .val (.long q4), .second, .val (.long q5), .second, .val (.long q6), .second, .val (.int (2 : Int32)), .val (.int (3 : Int32)), .val (.int (2 : Int32)), .val (.ref b111), .val (.ref b191), .val (.long (own_mix ((own_mix ((-7046029254386353131 : Int64) ^^^ q6)) ^^^ (q2 + q6)))), .second, .val (.int (4 : Int32)), .val (.long (own_mix ((-7046029254386353131 : Int64) ^^^ q6))), .second] [(.int ((4 : Int32) + (1 : Int32))), (.ref b111), (.long (own_mix ((-7046029254386353131 : Int64) ^^^ q6)))])
    rw [show ((4 : Int32) + (1 : Int32)) = (5 : Int32) by decide]
    show own_Run p e below _ T197 (mkF m 123 #[.val (.int p1), .val (.long q2), .second, .val (.long q3), .second, .val (.long q4), .second, .val (.long q5), .second, .val (.long q6), .second, .val (.int (2 : Int32)), .val (.int (3 : Int32)), .val (.int (2 : Int32)), .val (.ref b111), .val (.ref b191), .val (.long (own_mix ((own_mix ((-7046029254386353131 : Int64) ^^^ q6)) ^^^ (q2 + q6)))), .second, .val (.int (4 : Int32)), .val (.long (own_mix ((-7046029254386353131 : Int64) ^^^ q6))), .second] [(.int (5 : Int32)), (.ref b111), (.long (own_mix ((-7046029254386353131 : Int64) ^^^ q6)))])
    obtain ⟨cl198, Ar198, q198, S198, N198, H198, G198⟩ := id V_b111_c194
    have hin198 : ¬ ((5 : Int32) < 0 ∨ cl198.slots.size ≤ ((5 : Int32)).toNatClampNeg) := inb_of S198 ⟨by decide, by decide⟩
    refine own_go (X197.laload hx (j := (5 : Int32)) (v := (.long (q2 + q6))) (by rw [e197]; exact Ar198.1) (State.isArrayOf_alike hZ.alike Ar198.2.1) Ar198.2.2 hin198 (H198.at hin198 rfl) (g := (mkF m 123 #[.val (.int p1), .val (.long q2), .second, .val (.long q3), .second, .val (.long q4), .second, .val (.long q5), .second, .val (.long q6), .second, .val (.int (2 : Int32)), .val (.int (3 : Int32)), .val (.int (2 : Int32)), .val (.ref b111), .val (.ref b191), .val (.long (own_mix ((own_mix ((-7046029254386353131 : Int64) ^^^ q6)) ^^^ (q2 + q6)))), .second, .val (.int (4 : Int32)), .val (.long (own_mix ((-7046029254386353131 : Int64) ^^^ q6))), .second] [(.int (5 : Int32)), (.ref b111), (.long (own_mix ((-7046029254386353131 : Int64) ^^^ q6)))])) rfl rfl (hb hby at_123)) ?_
    show own_Run p e below _ T197 (mkF m 124 #[.val (.int p1), .val (.long q2), .second, .val (.long q3), .second, .val (.long q4), .second, .val (.long q5), .second, .val (.long q6), .second, .val (.int (2 : Int32)), .val (.int (3 : Int32)), .val (.int (2 : Int32)), .val (.ref b111), .val (.ref b191), .val (.long (own_mix ((own_mix ((-7046029254386353131 : Int64) ^^^ q6)) ^^^ (q2 + q6)))), .second, .val (.int (4 : Int32)), .val (.long (own_mix ((-7046029254386353131 : Int64) ^^^ q6))), .second] [(.long (q2 + q6)), (.long (own_mix ((-7046029254386353131 : Int64) ^^^ q6)))])
    refine own_go (fun _ k => XS.lxor X197.here hx rfl (hb hby at_124) rfl k) ?_
    show own_Run p e below _ T197 (mkF m 125 #[.val (.int p1), .val (.long q2), .second, .val (.long q3), .second, .val (.long q4), .second, .val (.long q5), .second, .val (.long q6), .second, .val (.int (2 : Int32)), .val (.int (3 : Int32)), .val (.int (2 : Int32)), .val (.ref b111), .val (.ref b191), .val (.long (own_mix ((own_mix ((-7046029254386353131 : Int64) ^^^ q6)) ^^^ (q2 + q6)))), .second, .val (.int (4 : Int32)), .val (.long (own_mix ((-7046029254386353131 : Int64) ^^^ q6))), .second] [(.long ((own_mix ((-7046029254386353131 : Int64) ^^^ q6)) ^^^ (q2 + q6)))])
    obtain ⟨_, _, ⟨T199, L199, k199, n199⟩, -, X199, ⟨Lc199, hQ199, l199, y199, z199⟩, st199⟩ := Jvm.LawKit.callS X197 hx (y := (⟨"com/example/near_duplicate_finder/nearduplicatefinder/BandingKeyPinLaw", "mixRef", "(J)J"⟩ : MethodName)) hown (mvT hZ (W 30 rfl)) (mvT hZ (W 31 rfl)) (mvT hZ (W 32 rfl)) (mvT hZ (W 33 rfl)) (by decide) (backOf (W := 0) (rm5 l Z a0 hw [] ((own_mix ((-7046029254386353131 : Int64) ^^^ q6)) ^^^ (q2 + q6)) T193.heap n0 Z0_c194 ) hZ (W 33 rfl) (W 32 rfl) (by decide) (by decide)) (g := (mkF m 125 #[.val (.int p1), .val (.long q2), .second, .val (.long q3), .second, .val (.long q4), .second, .val (.long q5), .second, .val (.long q6), .second, .val (.int (2 : Int32)), .val (.int (3 : Int32)), .val (.int (2 : Int32)), .val (.ref b111), .val (.ref b191), .val (.long (own_mix ((own_mix ((-7046029254386353131 : Int64) ^^^ q6)) ^^^ (q2 + q6)))), .second, .val (.int (4 : Int32)), .val (.long (own_mix ((-7046029254386353131 : Int64) ^^^ q6))), .second] [(.long ((own_mix ((-7046029254386353131 : Int64) ^^^ q6)) ^^^ (q2 + q6)))])) rfl (by rw [hml]; rfl) (argsL := [(.long ((own_mix ((-7046029254386353131 : Int64) ^^^ q6)) ^^^ (q2 + q6)))]) (rest := []) (lenOf pd_1 rfl) rfl (by show 2 * 0 + _ ≤ _; exact Nat.le_of_eq rfl) (hb hby at_125) (fun _ _ => ⟨rfl, e197, (by decide : 2 + 0 ≤ _), (by decide : 8 + 0 ≤ _)⟩)
    dsimp only [Pt.U, Pt.locs, Pt.cells, Pt.slots] at X199 l199 y199 z199 st199 hQ199
    subst l199 y199 z199
    obtain ⟨rfl, N199q, e199⟩ := hQ199
    have N199 := Fr.app N197 N199q
    refine own_go st199 ?_
    show own_Run p e below _ T199 (mkF m 128 #[.val (.int p1), .val (.long q2), .second, .val (.long q3), .second, .val (.long q4), .second, .val (.long q5), .second, .val (.long q6), .second, .val (.int (2 : Int32)), .val (.int (3 : Int32)), .val (.int (2 : Int32)), .val (.ref b111), .val (.ref b191), .val (.long (own_mix ((own_mix ((-7046029254386353131 : Int64) ^^^ q6)) ^^^ (q2 + q6)))), .second, .val (.int (4 : Int32)), .val (.long (own_mix ((-7046029254386353131 : Int64) ^^^ q6))), .second] [(.long (own_mix ((own_mix ((-7046029254386353131 : Int64) ^^^ q6)) ^^^ (q2 + q6))))])
    refine own_go (fun _ k => XS.lstore X199.here hx rfl (hb hby at_128) rfl (l' := #[.val (.int p1), .val (.long q2), .second, .val (.long q3), .second, .val (.long q4), .second, .val (.long q5), .second, .val (.long q6), .second, .val (.int (2 : Int32)), .val (.int (3 : Int32)), .val (.int (2 : Int32)), .val (.ref b111), .val (.ref b191), .val (.long (own_mix ((own_mix ((-7046029254386353131 : Int64) ^^^ q6)) ^^^ (q2 + q6)))), .second, .val (.int (4 : Int32)), .val (.long (own_mix ((own_mix ((-7046029254386353131 : Int64) ^^^ q6)) ^^^ (q2 + q6)))), .second]) rfl k) ?_
    refine own_go (fun _ k => XS.iload X199.here hx rfl (hb hby at_130) rfl k) ?_
    refine own_go (fun _ k => XS.iconst X199.here hx rfl (hb hby at_132) k) ?_
    show own_Run p e below _ T199 (mkF m 133 #[.val (.int p1), .val (.long q2), .second, .val (.long q3), .second, .val (.long q4), .second, .val (.long q5), .second, .val (.long q6), .second, .val (.int (2 : Int32)), .val (.int (3 : Int32)), .val (.int (2 : Int32)), .val (.ref b111), .val (.ref b191), .val (.long (own_mix ((own_mix ((-7046029254386353131 : Int64) ^^^ q6)) ^^^ (q2 + q6)))), .second, .val (.int (4 : Int32)), .val (.long (own_mix ((own_mix ((-7046029254386353131 : Int64) ^^^ q6)) ^^^ (q2 + q6)))), .second] [(.int (3 : Int32)), (.int (2 : Int32))])
    refine own_go (fun _ k => XS.icmpYes X199.here hx rfl (pc0 := 133) (pc' := 151) rfl (hb hby at_133) rfl (tlt (by decide : (2 : Int32) < (3 : Int32))).1 (by decide) (by decide) k) ?_
    show own_Run p e below _ T199 (mkF m 151 #[.val (.int p1), .val (.long q2), .second, .val (.long q3), .second, .val (.long q4), .second, .val (.long q5), .second, .val (.long q6), .second, .val (.int (2 : Int32)), .val (.int (3 : Int32)), .val (.int (2 : Int32)), .val (.ref b111), .val (.ref b191), .val (.long (own_mix ((own_mix ((-7046029254386353131 : Int64) ^^^ q6)) ^^^ (q2 + q6)))), .second, .val (.int (4 : Int32)), .val (.long (own_mix ((own_mix ((-7046029254386353131 : Int64) ^^^ q6)) ^^^ (q2 + q6)))), .second] [])
    refine own_go (fun _ k => XS.lload X199.here hx rfl (hb hby at_151) rfl k) ?_
    refine own_go (fun _ k => XS.lload X199.here hx rfl (hb hby at_153) rfl k) ?_
    refine own_go (fun _ k => XS.lcmp X199.here hx rfl (hb hby at_155) rfl k) ?_
    show own_Run p e below _ T199 (mkF m 156 #[.val (.int p1), .val (.long q2), .second, .val (.long q3), .second, .val (.long q4), .second, .val (.long q5), .second, .val (.long q6), .second, .val (.int (2 : Int32)), .val (.int (3 : Int32)), .val (.int (2 : Int32)), .val (.ref b111), .val (.ref b191), .val (.long (own_mix ((own_mix ((-7046029254386353131 : Int64) ^^^ q6)) ^^^ (q2 + q6)))), .second, .val (.int (4 : Int32)), .val (.long (own_mix ((own_mix ((-7046029254386353131 : Int64) ^^^ q6)) ^^^ (q2 + q6)))), .second] [(.int (lcmpW (own_mix ((own_mix ((-7046029254386353131 : Int64) ^^^ q6)) ^^^ (q2 + q6))) (own_mix ((own_mix ((-7046029254386353131 : Int64) ^^^ q6)) ^^^ (q2 + q6)))))])
    refine own_go (fun _ k => XS.ifNo X199.here hx rfl (hb hby at_156) rfl (own_lcTe rfl).2 k) ?_
    show own_Run p e below _ T199 (mkF m 159 #[.val (.int p1), .val (.long q2), .second, .val (.long q3), .second, .val (.long q4), .second, .val (.long q5), .second, .val (.long q6), .second, .val (.int (2 : Int32)), .val (.int (3 : Int32)), .val (.int (2 : Int32)), .val (.ref b111), .val (.ref b191), .val (.long (own_mix ((own_mix ((-7046029254386353131 : Int64) ^^^ q6)) ^^^ (q2 + q6)))), .second, .val (.int (4 : Int32)), .val (.long (own_mix ((own_mix ((-7046029254386353131 : Int64) ^^^ q6)) ^^^ (q2 + q6)))), .second] [])
    refine own_go (fun _ k => XS.iconst X199.here hx rfl (hb hby at_159) k) ?_
    refine own_go (fun _ k => XS.goto X199.here hx rfl (pc0 := 160) (pc' := 164) rfl (hb hby at_160) (by decide) (by decide) k) ?_
    show own_Run p e below _ T199 (mkF m 164 #[.val (.int p1), .val (.long q2), .second, .val (.long q3), .second, .val (.long q4), .second, .val (.long q5), .second, .val (.long q6), .second, .val (.int (2 : Int32)), .val (.int (3 : Int32)), .val (.int (2 : Int32)), .val (.ref b111), .val (.ref b191), .val (.long (own_mix ((own_mix ((-7046029254386353131 : Int64) ^^^ q6)) ^^^ (q2 + q6)))), .second, .val (.int (4 : Int32)), .val (.long (own_mix ((own_mix ((-7046029254386353131 : Int64) ^^^ q6)) ^^^ (q2 + q6)))), .second] [(.int (1 : Int32))])
    refine own_done (Q := fun v h L => Q0 Z p1 q2 q3 q4 q5 q6 h0 n0 v h L) (v := (some (.int (1 : Int32)))) X199 (fun h => by rw [hret] at h; cases h) hlk (fun fs hr => retN X199 hx (t := .boolean) hret (by simp) (hb hby at_164) hr) ?_ (by decide) (by decide)
    show Q0 Z p1 q2 q3 q4 q5 q6 h0 n0 _ T199.heap _
    rw [e199]
    exact ⟨rfl, N199⟩
  · show own_Run p e below _ T129 (mkF m 64 #[.val (.int p1), .val (.long q2), .second, .val (.long q3), .second, .val (.long q4), .second, .val (.long q5), .second, .val (.long q6), .second, .val (.int (3 : Int32)), .val (.int (2 : Int32)), .val (.int (0 : Int32)), .val (.ref b111), .unset, .unset, .unset, .unset, .unset, .unset] [])
    obtain ⟨T200, h200, X200, e200, E200, A200, D200, -, st200⟩ := newO X129 hx hZ hown (W 3 rfl) (W 4 rfl) (W 5 rfl) e129 (g := (mkF m 64 #[.val (.int p1), .val (.long q2), .second, .val (.long q3), .second, .val (.long q4), .second, .val (.long q5), .second, .val (.long q6), .second, .val (.int (3 : Int32)), .val (.int (2 : Int32)), .val (.int (0 : Int32)), .val (.ref b111), .unset, .unset, .unset, .unset, .unset, .unset] [])) rfl (hb hby at_64) (by decide) (by decide)
    refine own_go st200 ?_
    obtain ⟨b200, g200⟩ : ∃ z, z = h129.size := ⟨_, rfl⟩
    rw [← g200] at A200 D200
    rw [← g200]
    show own_Run p e below _ T200 (mkF m 67 #[.val (.int p1), .val (.long q2), .second, .val (.long q3), .second, .val (.long q4), .second, .val (.long q5), .second, .val (.long q6), .second, .val (.int (3 : Int32)), .val (.int (2 : Int32)), .val (.int (0 : Int32)), .val (.ref b111), .unset, .unset, .unset, .unset, .unset, .unset] [(.ref b200)])
    have ne_b111_b200 : b111 ≠ b200 := Nat.ne_of_lt (Nat.lt_of_lt_of_eq V_b111_c129.lt g200.symm)
    have g_b200 : n0 ≤ b200 := Nat.le_trans Z0_c130 (Nat.le_of_eq g200.symm)
    have sz_b200 : h0.size ≤ b200 := Nat.le_trans K0_c130.1 (Nat.le_of_eq g200.symm)
    have Z0_c201 := Nat.le_trans Z0_c130 E200.1
    have K0_c201 := K0_c130.ext E200
    have V_b111_c201 := V_b111_c129.ext E200
    have F_bands_b200 : Fld Z h200 b200 "com/example/near_duplicate_finder/nearduplicatefinder/Banding" "bands" "I" (.int (0 : Int32)) := D200 (Or.inr (W 14 rfl)) (ty := .int) (by decide)
    have F_rows_b200 : Fld Z h200 b200 "com/example/near_duplicate_finder/nearduplicatefinder/Banding" "rows" "I" (.int (0 : Int32)) := D200 (Or.inr (W 16 rfl)) (ty := .int) (by decide)
    refine own_go (fun _ k => XS.dup X200.here hx rfl (hb hby at_67) rfl rfl k) ?_
    refine own_go (fun _ k => XS.iload X200.here hx rfl (hb hby at_68) rfl k) ?_
    refine own_go (fun _ k => XS.iload X200.here hx rfl (hb hby at_70) rfl k) ?_
    show own_Run p e below _ T200 (mkF m 72 #[.val (.int p1), .val (.long q2), .second, .val (.long q3), .second, .val (.long q4), .second, .val (.long q5), .second, .val (.long q6), .second, .val (.int (3 : Int32)), .val (.int (2 : Int32)), .val (.int (0 : Int32)), .val (.ref b111), .unset, .unset, .unset, .unset, .unset, .unset] [(.int (3 : Int32)), (.int (2 : Int32)), (.ref b200), (.ref b200)])
    obtain ⟨_, _, ⟨T202, L202, k202, n202⟩, -, X202, ⟨Lc202, hQ202, l202, y202, z202⟩, st202⟩ := X200.specialBack hx (y := (⟨"com/example/near_duplicate_finder/nearduplicatefinder/Banding", "<init>", "(II)V"⟩ : MethodName)) rfl hown (mvT hZ (W 6 rfl)) (mvT hZ (W 7 rfl)) (mvT hZ (W 8 rfl)) (by decide) (backOf (W := 1) (rm1 l Z a0 hw [] b200 (2 : Int32) (3 : Int32) (.int (0 : Int32)) (.int (0 : Int32)) h200 n0 Z0_c201 A200 F_bands_b200 F_rows_b200 g_b200 (by decide) (by decide) (by decide)) hZ (W 8 rfl) (W 5 rfl) (by decide) (by decide)) (g := (mkF m 72 #[.val (.int p1), .val (.long q2), .second, .val (.long q3), .second, .val (.long q4), .second, .val (.long q5), .second, .val (.long q6), .second, .val (.int (3 : Int32)), .val (.int (2 : Int32)), .val (.int (0 : Int32)), .val (.ref b111), .unset, .unset, .unset, .unset, .unset, .unset] [(.int (3 : Int32)), (.int (2 : Int32)), (.ref b200), (.ref b200)])) rfl (by rw [hml]; rfl) (Steps.refl _) (a := b200) (argsL := [(.int (2 : Int32)), (.int (3 : Int32))]) (rest := [(.ref b200)]) (lenOf pd_2 rfl) rfl (by show 2 * 0 + _ ≤ _; exact Nat.le_of_eq rfl) (hb hby at_72) (fun _ _ => ⟨rfl, e200, (by decide : 2 + 0 ≤ _), (by decide : 8 + 0 ≤ _)⟩)
    dsimp only [Pt.U, Pt.locs, Pt.cells, Pt.slots] at X202 l202 y202 z202 st202 hQ202
    subst l202 y202 z202
    obtain ⟨rfl, N202q, K202, P202_0, P202_1⟩ := hQ202
    have N202 := Fr.app N129 N202q
    refine own_goT st202 ?_
    show own_Run p e below _ T202 (mkF m 75 #[.val (.int p1), .val (.long q2), .second, .val (.long q3), .second, .val (.long q4), .second, .val (.long q5), .second, .val (.long q6), .second, .val (.int (3 : Int32)), .val (.int (2 : Int32)), .val (.int (0 : Int32)), .val (.ref b111), .unset, .unset, .unset, .unset, .unset, .unset] [(.ref b200)])
    have Z0_c203 := Nat.le_trans Z0_c201 K202.1
    have K0_c203 := K0_c201.trans K202 (allS (Or.inr sz_b200) all0)
    have V_b111_c203 := V_b111_c201.keep K202 (ninS ne_b111_b200 nin0)
    have A200_c203 := A200.keep K202
    refine own_go (fun _ k => XS.astore X202.here hx rfl (hb hby at_75) rfl rfl (l' := #[.val (.int p1), .val (.long q2), .second, .val (.long q3), .second, .val (.long q4), .second, .val (.long q5), .second, .val (.long q6), .second, .val (.int (3 : Int32)), .val (.int (2 : Int32)), .val (.int (0 : Int32)), .val (.ref b111), .val (.ref b200), .unset, .unset, .unset, .unset, .unset]) rfl k) ?_
    refine own_go (fun _ k => XS.aload X202.here hx rfl (hb hby at_77) rfl rfl k) ?_
    refine own_go (fun _ k => XS.aload X202.here hx rfl (hb hby at_79) rfl rfl k) ?_
    refine own_go (fun _ k => XS.iload X202.here hx rfl (hb hby at_81) rfl k) ?_
    show own_Run p e below _ T202 (mkF m 83 #[.val (.int p1), .val (.long q2), .second, .val (.long q3), .second, .val (.long q4), .second, .val (.long q5), .second, .val (.long q6), .second, .val (.int (3 : Int32)), .val (.int (2 : Int32)), .val (.int (0 : Int32)), .val (.ref b111), .val (.ref b200), .unset, .unset, .unset, .unset, .unset] [(.int (0 : Int32)), (.ref b111), (.ref b200)])
    obtain ⟨cq204, kq204, q204a, q204b, q204c⟩ := isOf hZ rfl P202_0
    obtain ⟨_, _, ⟨T204, L204, k204, n204⟩, -, X204, ⟨Lc204, hQ204, l204, y204, z204⟩, st204⟩ := X202.virtualBack hx (y := (⟨"com/example/near_duplicate_finder/nearduplicatefinder/Banding", "key", "([JI)J"⟩ : MethodName)) (z := (⟨"com/example/near_duplicate_finder/nearduplicatefinder/Banding", "key", "([JI)J"⟩ : MethodName)) hown (mvT hZ (W 17 rfl)) (mvT hZ (W 18 rfl)) (notFace_of_selects (args := #[]) (mvT hZ (W 20 rfl))) (mvT hZ (W 20 rfl)) (mvT hZ (W 19 rfl)) (by decide) (backOf (W := 0) (rm3 l Z a0 hw [] b200 b111 (0 : Int32) (3 : Int32) k111 q2 q3 q4 q5 q6 (q2 + q6) (own_mix ((own_mix ((own_mix ((-7046029254386353131 : Int64) ^^^ q2)) ^^^ q3)) ^^^ q4)) T202.heap n0 Z0_c203 P202_1 V_b111_c203 (Or.inr (Or.inr (Or.inr (Or.inr (Or.inr (Or.inr (Or.inr (Or.inr (Or.inr (Or.inl ⟨rfl, rfl, rfl⟩))))))))))) hZ (W 21 rfl) (W 5 rfl) (by decide) (by decide)) q204a q204c (g := (mkF m 83 #[.val (.int p1), .val (.long q2), .second, .val (.long q3), .second, .val (.long q4), .second, .val (.long q5), .second, .val (.long q6), .second, .val (.int (3 : Int32)), .val (.int (2 : Int32)), .val (.int (0 : Int32)), .val (.ref b111), .val (.ref b200), .unset, .unset, .unset, .unset, .unset] [(.int (0 : Int32)), (.ref b111), (.ref b200)])) rfl (by rw [hml]; rfl) (Steps.refl _) (argsL := [(.ref b111), (.int (0 : Int32))]) (rest := []) (lenOf pd_3 rfl) rfl (by show 2 * 0 + _ ≤ _; exact Nat.le_of_eq rfl) (hb hby at_83) (fun _ _ => ⟨rfl, rfl, (by decide : 2 + 0 ≤ _), (by decide : 8 + 0 ≤ _)⟩)
    dsimp only [Pt.U, Pt.locs, Pt.cells, Pt.slots] at X204 l204 y204 z204 st204 hQ204
    subst l204 y204 z204
    obtain ⟨rfl, N204q, e204⟩ := hQ204
    have N204 := Fr.app N202 N204q
    refine own_goT st204 ?_
    show own_Run p e below _ T204 (mkF m 86 #[.val (.int p1), .val (.long q2), .second, .val (.long q3), .second, .val (.long q4), .second, .val (.long q5), .second, .val (.long q6), .second, .val (.int (3 : Int32)), .val (.int (2 : Int32)), .val (.int (0 : Int32)), .val (.ref b111), .val (.ref b200), .unset, .unset, .unset, .unset, .unset] [(.long (own_mix ((own_mix ((own_mix ((-7046029254386353131 : Int64) ^^^ q2)) ^^^ q3)) ^^^ q4)))])
    refine own_go (fun _ k => XS.lstore X204.here hx rfl (hb hby at_86) rfl (l' := #[.val (.int p1), .val (.long q2), .second, .val (.long q3), .second, .val (.long q4), .second, .val (.long q5), .second, .val (.long q6), .second, .val (.int (3 : Int32)), .val (.int (2 : Int32)), .val (.int (0 : Int32)), .val (.ref b111), .val (.ref b200), .val (.long (own_mix ((own_mix ((own_mix ((-7046029254386353131 : Int64) ^^^ q2)) ^^^ q3)) ^^^ q4))), .second, .unset, .unset, .unset]) rfl k) ?_
    refine own_go (fun _ k => XS.iload X204.here hx rfl (hb hby at_88) rfl k) ?_
    refine own_go (fun _ k => XS.iload X204.here hx rfl (hb hby at_90) rfl k) ?_
    refine own_go (fun _ k => XS.imul X204.here hx rfl (hb hby at_92) rfl k) ?_
    show own_Run p e below _ T204 (mkF m 93 #[.val (.int p1), .val (.long q2), .second, .val (.long q3), .second, .val (.long q4), .second, .val (.long q5), .second, .val (.long q6), .second, .val (.int (3 : Int32)), .val (.int (2 : Int32)), .val (.int (0 : Int32)), .val (.ref b111), .val (.ref b200), .val (.long (own_mix ((own_mix ((own_mix ((-7046029254386353131 : Int64) ^^^ q2)) ^^^ q3)) ^^^ q4))), .second, .unset, .unset, .unset] [(.int ((0 : Int32) * (3 : Int32)))])
    rw [show ((0 : Int32) * (3 : Int32)) = (0 : Int32) by decide]
    show own_Run p e below _ T204 (mkF m 93 #[.val (.int p1), .val (.long q2), .second, .val (.long q3), .second, .val (.long q4), .second, .val (.long q5), .second, .val (.long q6), .second, .val (.int (3 : Int32)), .val (.int (2 : Int32)), .val (.int (0 : Int32)), .val (.ref b111), .val (.ref b200), .val (.long (own_mix ((own_mix ((own_mix ((-7046029254386353131 : Int64) ^^^ q2)) ^^^ q3)) ^^^ q4))), .second, .unset, .unset, .unset] [(.int (0 : Int32))])
    refine own_go (fun _ k => XS.istore X204.here hx rfl (hb hby at_93) rfl (l' := #[.val (.int p1), .val (.long q2), .second, .val (.long q3), .second, .val (.long q4), .second, .val (.long q5), .second, .val (.long q6), .second, .val (.int (3 : Int32)), .val (.int (2 : Int32)), .val (.int (0 : Int32)), .val (.ref b111), .val (.ref b200), .val (.long (own_mix ((own_mix ((own_mix ((-7046029254386353131 : Int64) ^^^ q2)) ^^^ q3)) ^^^ q4))), .second, .val (.int (0 : Int32)), .unset, .unset]) rfl k) ?_
    show own_Run p e below _ T204 (mkF m 95 #[.val (.int p1), .val (.long q2), .second, .val (.long q3), .second, .val (.long q4), .second, .val (.long q5), .second, .val (.long q6), .second, .val (.int (3 : Int32)), .val (.int (2 : Int32)), .val (.int (0 : Int32)), .val (.ref b111), .val (.ref b200), .val (.long (own_mix ((own_mix ((own_mix ((-7046029254386353131 : Int64) ^^^ q2)) ^^^ q3)) ^^^ q4))), .second, .val (.int (0 : Int32)), .unset, .unset] [])
    refine own_go (X204.ldc2Long hx hown (mvT hZ (W 29 rfl)) (g := (mkF m 95 #[.val (.int p1), .val (.long q2), .second, .val (.long q3), .second, .val (.long q4), .second, .val (.long q5), .second, .val (.long q6), .second, .val (.int (3 : Int32)), .val (.int (2 : Int32)), .val (.int (0 : Int32)), .val (.ref b111), .val (.ref b200), .val (.long (own_mix ((own_mix ((own_mix ((-7046029254386353131 : Int64) ^^^ q2)) ^^^ q3)) ^^^ q4))), .second, .val (.int (0 : Int32)), .unset, .unset] [])) rfl (hb hby at_95)) ?_
    show own_Run p e below _ T204 (mkF m 98 #[.val (.int p1), .val (.long q2), .second, .val (.long q3), .second, .val (.long q4), .second, .val (.long q5), .second, .val (.long q6), .second, .val (.int (3 : Int32)), .val (.int (2 : Int32)), .val (.int (0 : Int32)), .val (.ref b111), .val (.ref b200), .val (.long (own_mix ((own_mix ((own_mix ((-7046029254386353131 : Int64) ^^^ q2)) ^^^ q3)) ^^^ q4))), .second, .val (.int (0 : Int32)), .unset, .unset] [(.long (-7046029254386353131 : Int64))])
    refine own_go (fun _ k => XS.aload X204.here hx rfl (hb hby at_98) rfl rfl k) ?_
    refine own_go (fun _ k => XS.iload X204.here hx rfl (hb hby at_100) rfl k) ?_
    show own_Run p e below _ T204 (mkF m 102 #[.val (.int p1), .val (.long q2), .second, .val (.long q3), .second, .val (.long q4), .second, .val (.long q5), .second, .val (.long q6), .second, .val (.int (3 : Int32)), .val (.int (2 : Int32)), .val (.int (0 : Int32)), .val (.ref b111), .val (.ref b200), .val (.long (own_mix ((own_mix ((own_mix ((-7046029254386353131 : Int64) ^^^ q2)) ^^^ q3)) ^^^ q4))), .second, .val (.int (0 : Int32)), .unset, .unset] [(.int (0 : Int32)), (.ref b111), (.long (-7046029254386353131 : Int64))])
    obtain ⟨cl205, Ar205, q205, S205, N205, H205, G205⟩ := id V_b111_c203
    have hin205 : ¬ ((0 : Int32) < 0 ∨ cl205.slots.size ≤ ((0 : Int32)).toNatClampNeg) := inb_of S205 ⟨by decide, by decide⟩
    refine own_go (X204.laload hx (j := (0 : Int32)) (v := (.long q2)) (by rw [e204]; exact Ar205.1) (State.isArrayOf_alike hZ.alike Ar205.2.1) Ar205.2.2 hin205 (H205.at hin205 rfl) (g := (mkF m 102 #[.val (.int p1), .val (.long q2), .second, .val (.long q3), .second, .val (.long q4), .second, .val (.long q5), .second, .val (.long q6), .second, .val (.int (3 : Int32)), .val (.int (2 : Int32)), .val (.int (0 : Int32)), .val (.ref b111), .val (.ref b200), .val (.long (own_mix ((own_mix ((own_mix ((-7046029254386353131 : Int64) ^^^ q2)) ^^^ q3)) ^^^ q4))), .second, .val (.int (0 : Int32)), .unset, .unset] [(.int (0 : Int32)), (.ref b111), (.long (-7046029254386353131 : Int64))])) rfl rfl (hb hby at_102)) ?_
    show own_Run p e below _ T204 (mkF m 103 #[.val (.int p1), .val (.long q2), .second, .val (.long q3), .second, .val (.long q4), .second, .val (.long q5), .second, .val (.long q6), .second, .val (.int (3 : Int32)), .val (.int (2 : Int32)), .val (.int (0 : Int32)), .val (.ref b111), .val (.ref b200), .val (.long (own_mix ((own_mix ((own_mix ((-7046029254386353131 : Int64) ^^^ q2)) ^^^ q3)) ^^^ q4))), .second, .val (.int (0 : Int32)), .unset, .unset] [(.long q2), (.long (-7046029254386353131 : Int64))])
    refine own_go (fun _ k => XS.lxor X204.here hx rfl (hb hby at_103) rfl k) ?_
    show own_Run p e below _ T204 (mkF m 104 #[.val (.int p1), .val (.long q2), .second, .val (.long q3), .second, .val (.long q4), .second, .val (.long q5), .second, .val (.long q6), .second, .val (.int (3 : Int32)), .val (.int (2 : Int32)), .val (.int (0 : Int32)), .val (.ref b111), .val (.ref b200), .val (.long (own_mix ((own_mix ((own_mix ((-7046029254386353131 : Int64) ^^^ q2)) ^^^ q3)) ^^^ q4))), .second, .val (.int (0 : Int32)), .unset, .unset] [(.long ((-7046029254386353131 : Int64) ^^^ q2))])
    obtain ⟨_, _, ⟨T206, L206, k206, n206⟩, -, X206, ⟨Lc206, hQ206, l206, y206, z206⟩, st206⟩ := Jvm.LawKit.callS X204 hx (y := (⟨"com/example/near_duplicate_finder/nearduplicatefinder/BandingKeyPinLaw", "mixRef", "(J)J"⟩ : MethodName)) hown (mvT hZ (W 30 rfl)) (mvT hZ (W 31 rfl)) (mvT hZ (W 32 rfl)) (mvT hZ (W 33 rfl)) (by decide) (backOf (W := 0) (rm5 l Z a0 hw [] ((-7046029254386353131 : Int64) ^^^ q2) T202.heap n0 Z0_c203 ) hZ (W 33 rfl) (W 32 rfl) (by decide) (by decide)) (g := (mkF m 104 #[.val (.int p1), .val (.long q2), .second, .val (.long q3), .second, .val (.long q4), .second, .val (.long q5), .second, .val (.long q6), .second, .val (.int (3 : Int32)), .val (.int (2 : Int32)), .val (.int (0 : Int32)), .val (.ref b111), .val (.ref b200), .val (.long (own_mix ((own_mix ((own_mix ((-7046029254386353131 : Int64) ^^^ q2)) ^^^ q3)) ^^^ q4))), .second, .val (.int (0 : Int32)), .unset, .unset] [(.long ((-7046029254386353131 : Int64) ^^^ q2))])) rfl (by rw [hml]; rfl) (argsL := [(.long ((-7046029254386353131 : Int64) ^^^ q2))]) (rest := []) (lenOf pd_1 rfl) rfl (by show 2 * 0 + _ ≤ _; exact Nat.le_of_eq rfl) (hb hby at_104) (fun _ _ => ⟨rfl, e204, (by decide : 2 + 0 ≤ _), (by decide : 8 + 0 ≤ _)⟩)
    dsimp only [Pt.U, Pt.locs, Pt.cells, Pt.slots] at X206 l206 y206 z206 st206 hQ206
    subst l206 y206 z206
    obtain ⟨rfl, N206q, e206⟩ := hQ206
    have N206 := Fr.app N204 N206q
    refine own_go st206 ?_
    show own_Run p e below _ T206 (mkF m 107 #[.val (.int p1), .val (.long q2), .second, .val (.long q3), .second, .val (.long q4), .second, .val (.long q5), .second, .val (.long q6), .second, .val (.int (3 : Int32)), .val (.int (2 : Int32)), .val (.int (0 : Int32)), .val (.ref b111), .val (.ref b200), .val (.long (own_mix ((own_mix ((own_mix ((-7046029254386353131 : Int64) ^^^ q2)) ^^^ q3)) ^^^ q4))), .second, .val (.int (0 : Int32)), .unset, .unset] [(.long (own_mix ((-7046029254386353131 : Int64) ^^^ q2)))])
    refine own_go (fun _ k => XS.lstore X206.here hx rfl (hb hby at_107) rfl (l' := #[.val (.int p1), .val (.long q2), .second, .val (.long q3), .second, .val (.long q4), .second, .val (.long q5), .second, .val (.long q6), .second, .val (.int (3 : Int32)), .val (.int (2 : Int32)), .val (.int (0 : Int32)), .val (.ref b111), .val (.ref b200), .val (.long (own_mix ((own_mix ((own_mix ((-7046029254386353131 : Int64) ^^^ q2)) ^^^ q3)) ^^^ q4))), .second, .val (.int (0 : Int32)), .val (.long (own_mix ((-7046029254386353131 : Int64) ^^^ q2))), .second]) rfl k) ?_
    refine own_go (fun _ k => XS.iload X206.here hx rfl (hb hby at_109) rfl k) ?_
    refine own_go (fun _ k => XS.iconst X206.here hx rfl (hb hby at_111) k) ?_
    show own_Run p e below _ T206 (mkF m 112 #[.val (.int p1), .val (.long q2), .second, .val (.long q3), .second, .val (.long q4), .second, .val (.long q5), .second, .val (.long q6), .second, .val (.int (3 : Int32)), .val (.int (2 : Int32)), .val (.int (0 : Int32)), .val (.ref b111), .val (.ref b200), .val (.long (own_mix ((own_mix ((own_mix ((-7046029254386353131 : Int64) ^^^ q2)) ^^^ q3)) ^^^ q4))), .second, .val (.int (0 : Int32)), .val (.long (own_mix ((-7046029254386353131 : Int64) ^^^ q2))), .second] [(.int (2 : Int32)), (.int (3 : Int32))])
    refine own_go (fun _ k => XS.icmpNo X206.here hx rfl (hb hby at_112) rfl (flt (by decide : ¬ ((3 : Int32) < (2 : Int32)))).1 k) ?_
    show own_Run p e below _ T206 (mkF m 115 #[.val (.int p1), .val (.long q2), .second, .val (.long q3), .second, .val (.long q4), .second, .val (.long q5), .second, .val (.long q6), .second, .val (.int (3 : Int32)), .val (.int (2 : Int32)), .val (.int (0 : Int32)), .val (.ref b111), .val (.ref b200), .val (.long (own_mix ((own_mix ((own_mix ((-7046029254386353131 : Int64) ^^^ q2)) ^^^ q3)) ^^^ q4))), .second, .val (.int (0 : Int32)), .val (.long (own_mix ((-7046029254386353131 : Int64) ^^^ q2))), .second] [])
    refine own_go (fun _ k => XS.lload X206.here hx rfl (hb hby at_115) rfl k) ?_
    refine own_go (fun _ k => XS.aload X206.here hx rfl (hb hby at_117) rfl rfl k) ?_
    refine own_go (fun _ k => XS.iload X206.here hx rfl (hb hby at_119) rfl k) ?_
    refine own_go (fun _ k => XS.iconst X206.here hx rfl (hb hby at_121) k) ?_
    show own_Run p e below _ T206 (mkF m 122 #[.val (.int p1), .val (.long q2), .second, .val (.long q3), .second, .val (.long q4), .second, .val (.long q5), .second, .val (.long q6), .second, .val (.int (3 : Int32)), .val (.int (2 : Int32)), .val (.int (0 : Int32)), .val (.ref b111), .val (.ref b200), .val (.long (own_mix ((own_mix ((own_mix ((-7046029254386353131 : Int64) ^^^ q2)) ^^^ q3)) ^^^ q4))), .second, .val (.int (0 : Int32)), .val (.long (own_mix ((-7046029254386353131 : Int64) ^^^ q2))), .second] [(.int (1 : Int32)), (.int (0 : Int32)), (.ref b111), (.long (own_mix ((-7046029254386353131 : Int64) ^^^ q2)))])
    refine own_go (fun _ k => XS.iadd X206.here hx rfl (hb hby at_122) rfl k) ?_
    show own_Run p e below _ T206 (mkF m 123 #[.val (.int p1), .val (.long q2), .second, .val (.long q3), .second, .val (.long q4), .second, .val (.long q5), .second, .val (.long q6), .second, .val (.int (3 : Int32)), .val (.int (2 : Int32)), .val (.int (0 : Int32)), .val (.ref b111), .val (.ref b200), .val (.long (own_mix ((own_mix ((own_mix ((-7046029254386353131 : Int64) ^^^ q2)) ^^^ q3)) ^^^ q4))), .second, .val (.int (0 : Int32)), .val (.long (own_mix ((-7046029254386353131 : Int64) ^^^ q2))), .second] [(.int ((0 : Int32) + (1 : Int32))), (.ref b111), (.long (own_mix ((-7046029254386353131 : Int64) ^^^ q2)))])
    rw [show ((0 : Int32) + (1 : Int32)) = (1 : Int32) by decide]
    show own_Run p e below _ T206 (mkF m 123 #[.val (.int p1), .val (.long q2), .second, .val (.long q3), .second, .val (.long q4), .second, .val (.long q5), .second, .val (.long q6), .second, .val (.int (3 : Int32)), .val (.int (2 : Int32)), .val (.int (0 : Int32)), .val (.ref b111), .val (.ref b200), .val (.long (own_mix ((own_mix ((own_mix ((-7046029254386353131 : Int64) ^^^ q2)) ^^^ q3)) ^^^ q4))), .second, .val (.int (0 : Int32)), .val (.long (own_mix ((-7046029254386353131 : Int64) ^^^ q2))), .second] [(.int (1 : Int32)), (.ref b111), (.long (own_mix ((-7046029254386353131 : Int64) ^^^ q2)))])
    obtain ⟨cl207, Ar207, q207, S207, N207, H207, G207⟩ := id V_b111_c203
    have hin207 : ¬ ((1 : Int32) < 0 ∨ cl207.slots.size ≤ ((1 : Int32)).toNatClampNeg) := inb_of S207 ⟨by decide, by decide⟩
    refine own_go (X206.laload hx (j := (1 : Int32)) (v := (.long q3)) (by rw [e206]; exact Ar207.1) (State.isArrayOf_alike hZ.alike Ar207.2.1) Ar207.2.2 hin207 (H207.at hin207 rfl) (g := (mkF m 123 #[.val (.int p1), .val (.long q2), .second, .val (.long q3), .second, .val (.long q4), .second, .val (.long q5), .second, .val (.long q6), .second, .val (.int (3 : Int32)), .val (.int (2 : Int32)), .val (.int (0 : Int32)), .val (.ref b111), .val (.ref b200), .val (.long (own_mix ((own_mix ((own_mix ((-7046029254386353131 : Int64) ^^^ q2)) ^^^ q3)) ^^^ q4))), .second, .val (.int (0 : Int32)), .val (.long (own_mix ((-7046029254386353131 : Int64) ^^^ q2))), .second] [(.int (1 : Int32)), (.ref b111), (.long (own_mix ((-7046029254386353131 : Int64) ^^^ q2)))])) rfl rfl (hb hby at_123)) ?_
    show own_Run p e below _ T206 (mkF m 124 #[.val (.int p1), .val (.long q2), .second, .val (.long q3), .second, .val (.long q4), .second, .val (.long q5), .second, .val (.long q6), .second, .val (.int (3 : Int32)), .val (.int (2 : Int32)), .val (.int (0 : Int32)), .val (.ref b111), .val (.ref b200), .val (.long (own_mix ((own_mix ((own_mix ((-7046029254386353131 : Int64) ^^^ q2)) ^^^ q3)) ^^^ q4))), .second, .val (.int (0 : Int32)), .val (.long (own_mix ((-7046029254386353131 : Int64) ^^^ q2))), .second] [(.long q3), (.long (own_mix ((-7046029254386353131 : Int64) ^^^ q2)))])
    refine own_go (fun _ k => XS.lxor X206.here hx rfl (hb hby at_124) rfl k) ?_
    show own_Run p e below _ T206 (mkF m 125 #[.val (.int p1), .val (.long q2), .second, .val (.long q3), .second, .val (.long q4), .second, .val (.long q5), .second, .val (.long q6), .second, .val (.int (3 : Int32)), .val (.int (2 : Int32)), .val (.int (0 : Int32)), .val (.ref b111), .val (.ref b200), .val (.long (own_mix ((own_mix ((own_mix ((-7046029254386353131 : Int64) ^^^ q2)) ^^^ q3)) ^^^ q4))), .second, .val (.int (0 : Int32)), .val (.long (own_mix ((-7046029254386353131 : Int64) ^^^ q2))), .second] [(.long ((own_mix ((-7046029254386353131 : Int64) ^^^ q2)) ^^^ q3))])
    obtain ⟨_, _, ⟨T208, L208, k208, n208⟩, -, X208, ⟨Lc208, hQ208, l208, y208, z208⟩, st208⟩ := Jvm.LawKit.callS X206 hx (y := (⟨"com/example/near_duplicate_finder/nearduplicatefinder/BandingKeyPinLaw", "mixRef", "(J)J"⟩ : MethodName)) hown (mvT hZ (W 30 rfl)) (mvT hZ (W 31 rfl)) (mvT hZ (W 32 rfl)) (mvT hZ (W 33 rfl)) (by decide) (backOf (W := 0) (rm5 l Z a0 hw [] ((own_mix ((-7046029254386353131 : Int64) ^^^ q2)) ^^^ q3) T202.heap n0 Z0_c203 ) hZ (W 33 rfl) (W 32 rfl) (by decide) (by decide)) (g := (mkF m 125 #[.val (.int p1), .val (.long q2), .second, .val (.long q3), .second, .val (.long q4), .second, .val (.long q5), .second, .val (.long q6), .second, .val (.int (3 : Int32)), .val (.int (2 : Int32)), .val (.int (0 : Int32)), .val (.ref b111), .val (.ref b200), .val (.long (own_mix ((own_mix ((own_mix ((-7046029254386353131 : Int64) ^^^ q2)) ^^^ q3)) ^^^ q4))), .second, .val (.int (0 : Int32)), .val (.long (own_mix ((-7046029254386353131 : Int64) ^^^ q2))), .second] [(.long ((own_mix ((-7046029254386353131 : Int64) ^^^ q2)) ^^^ q3))])) rfl (by rw [hml]; rfl) (argsL := [(.long ((own_mix ((-7046029254386353131 : Int64) ^^^ q2)) ^^^ q3))]) (rest := []) (lenOf pd_1 rfl) rfl (by show 2 * 0 + _ ≤ _; exact Nat.le_of_eq rfl) (hb hby at_125) (fun _ _ => ⟨rfl, e206, (by decide : 2 + 0 ≤ _), (by decide : 8 + 0 ≤ _)⟩)
    dsimp only [Pt.U, Pt.locs, Pt.cells, Pt.slots] at X208 l208 y208 z208 st208 hQ208
    subst l208 y208 z208
    obtain ⟨rfl, N208q, e208⟩ := hQ208
    have N208 := Fr.app N206 N208q
    refine own_go st208 ?_
    show own_Run p e below _ T208 (mkF m 128 #[.val (.int p1), .val (.long q2), .second, .val (.long q3), .second, .val (.long q4), .second, .val (.long q5), .second, .val (.long q6), .second, .val (.int (3 : Int32)), .val (.int (2 : Int32)), .val (.int (0 : Int32)), .val (.ref b111), .val (.ref b200), .val (.long (own_mix ((own_mix ((own_mix ((-7046029254386353131 : Int64) ^^^ q2)) ^^^ q3)) ^^^ q4))), .second, .val (.int (0 : Int32)), .val (.long (own_mix ((-7046029254386353131 : Int64) ^^^ q2))), .second] [(.long (own_mix ((own_mix ((-7046029254386353131 : Int64) ^^^ q2)) ^^^ q3)))])
    refine own_go (fun _ k => XS.lstore X208.here hx rfl (hb hby at_128) rfl (l' := #[.val (.int p1), .val (.long q2), .second, .val (.long q3), .second, .val (.long q4), .second, .val (.long q5), .second, .val (.long q6), .second, .val (.int (3 : Int32)), .val (.int (2 : Int32)), .val (.int (0 : Int32)), .val (.ref b111), .val (.ref b200), .val (.long (own_mix ((own_mix ((own_mix ((-7046029254386353131 : Int64) ^^^ q2)) ^^^ q3)) ^^^ q4))), .second, .val (.int (0 : Int32)), .val (.long (own_mix ((own_mix ((-7046029254386353131 : Int64) ^^^ q2)) ^^^ q3))), .second]) rfl k) ?_
    refine own_go (fun _ k => XS.iload X208.here hx rfl (hb hby at_130) rfl k) ?_
    refine own_go (fun _ k => XS.iconst X208.here hx rfl (hb hby at_132) k) ?_
    show own_Run p e below _ T208 (mkF m 133 #[.val (.int p1), .val (.long q2), .second, .val (.long q3), .second, .val (.long q4), .second, .val (.long q5), .second, .val (.long q6), .second, .val (.int (3 : Int32)), .val (.int (2 : Int32)), .val (.int (0 : Int32)), .val (.ref b111), .val (.ref b200), .val (.long (own_mix ((own_mix ((own_mix ((-7046029254386353131 : Int64) ^^^ q2)) ^^^ q3)) ^^^ q4))), .second, .val (.int (0 : Int32)), .val (.long (own_mix ((own_mix ((-7046029254386353131 : Int64) ^^^ q2)) ^^^ q3))), .second] [(.int (3 : Int32)), (.int (3 : Int32))])
    refine own_go (fun _ k => XS.icmpNo X208.here hx rfl (hb hby at_133) rfl (flt (by decide : ¬ ((3 : Int32) < (3 : Int32)))).1 k) ?_
    show own_Run p e below _ T208 (mkF m 136 #[.val (.int p1), .val (.long q2), .second, .val (.long q3), .second, .val (.long q4), .second, .val (.long q5), .second, .val (.long q6), .second, .val (.int (3 : Int32)), .val (.int (2 : Int32)), .val (.int (0 : Int32)), .val (.ref b111), .val (.ref b200), .val (.long (own_mix ((own_mix ((own_mix ((-7046029254386353131 : Int64) ^^^ q2)) ^^^ q3)) ^^^ q4))), .second, .val (.int (0 : Int32)), .val (.long (own_mix ((own_mix ((-7046029254386353131 : Int64) ^^^ q2)) ^^^ q3))), .second] [])
    refine own_go (fun _ k => XS.lload X208.here hx rfl (hb hby at_136) rfl k) ?_
    refine own_go (fun _ k => XS.aload X208.here hx rfl (hb hby at_138) rfl rfl k) ?_
    refine own_go (fun _ k => XS.iload X208.here hx rfl (hb hby at_140) rfl k) ?_
    refine own_go (fun _ k => XS.iconst X208.here hx rfl (hb hby at_142) k) ?_
    show own_Run p e below _ T208 (mkF m 143 #[.val (.int p1), .val (.long q2), .second, .val (.long q3), .second, .val (.long q4), .second, .val (.long q5), .second, .val (.long q6), .second, .val (.int (3 : Int32)), .val (.int (2 : Int32)), .val (.int (0 : Int32)), .val (.ref b111), .val (.ref b200), .val (.long (own_mix ((own_mix ((own_mix ((-7046029254386353131 : Int64) ^^^ q2)) ^^^ q3)) ^^^ q4))), .second, .val (.int (0 : Int32)), .val (.long (own_mix ((own_mix ((-7046029254386353131 : Int64) ^^^ q2)) ^^^ q3))), .second] [(.int (2 : Int32)), (.int (0 : Int32)), (.ref b111), (.long (own_mix ((own_mix ((-7046029254386353131 : Int64) ^^^ q2)) ^^^ q3)))])
    refine own_go (fun _ k => XS.iadd X208.here hx rfl (hb hby at_143) rfl k) ?_
    show own_Run p e below _ T208 (mkF m 144 #[.val (.int p1), .val (.long q2), .second, .val (.long q3), .second, .val (.long q4), .second, .val (.long q5), .second, .val (.long q6), .second, .val (.int (3 : Int32)), .val (.int (2 : Int32)), .val (.int (0 : Int32)), .val (.ref b111), .val (.ref b200), .val (.long (own_mix ((own_mix ((own_mix ((-7046029254386353131 : Int64) ^^^ q2)) ^^^ q3)) ^^^ q4))), .second, .val (.int (0 : Int32)), .val (.long (own_mix ((own_mix ((-7046029254386353131 : Int64) ^^^ q2)) ^^^ q3))), .second] [(.int ((0 : Int32) + (2 : Int32))), (.ref b111), (.long (own_mix ((own_mix ((-7046029254386353131 : Int64) ^^^ q2)) ^^^ q3)))])
    rw [show ((0 : Int32) + (2 : Int32)) = (2 : Int32) by decide]
    show own_Run p e below _ T208 (mkF m 144 #[.val (.int p1), .val (.long q2), .second, .val (.long q3), .second, .val (.long q4), .second, .val (.long q5), .second, .val (.long q6), .second, .val (.int (3 : Int32)), .val (.int (2 : Int32)), .val (.int (0 : Int32)), .val (.ref b111), .val (.ref b200), .val (.long (own_mix ((own_mix ((own_mix ((-7046029254386353131 : Int64) ^^^ q2)) ^^^ q3)) ^^^ q4))), .second, .val (.int (0 : Int32)), .val (.long (own_mix ((own_mix ((-7046029254386353131 : Int64) ^^^ q2)) ^^^ q3))), .second] [(.int (2 : Int32)), (.ref b111), (.long (own_mix ((own_mix ((-7046029254386353131 : Int64) ^^^ q2)) ^^^ q3)))])
    obtain ⟨cl209, Ar209, q209, S209, N209, H209, G209⟩ := id V_b111_c203
    have hin209 : ¬ ((2 : Int32) < 0 ∨ cl209.slots.size ≤ ((2 : Int32)).toNatClampNeg) := inb_of S209 ⟨by decide, by decide⟩
    refine own_go (X208.laload hx (j := (2 : Int32)) (v := (.long q4)) (by rw [e208]; exact Ar209.1) (State.isArrayOf_alike hZ.alike Ar209.2.1) Ar209.2.2 hin209 (H209.at hin209 rfl) (g := (mkF m 144 #[.val (.int p1), .val (.long q2), .second, .val (.long q3), .second, .val (.long q4), .second, .val (.long q5), .second, .val (.long q6), .second, .val (.int (3 : Int32)), .val (.int (2 : Int32)), .val (.int (0 : Int32)), .val (.ref b111), .val (.ref b200), .val (.long (own_mix ((own_mix ((own_mix ((-7046029254386353131 : Int64) ^^^ q2)) ^^^ q3)) ^^^ q4))), .second, .val (.int (0 : Int32)), .val (.long (own_mix ((own_mix ((-7046029254386353131 : Int64) ^^^ q2)) ^^^ q3))), .second] [(.int (2 : Int32)), (.ref b111), (.long (own_mix ((own_mix ((-7046029254386353131 : Int64) ^^^ q2)) ^^^ q3)))])) rfl rfl (hb hby at_144)) ?_
    show own_Run p e below _ T208 (mkF m 145 #[.val (.int p1), .val (.long q2), .second, .val (.long q3), .second, .val (.long q4), .second, .val (.long q5), .second, .val (.long q6), .second, .val (.int (3 : Int32)), .val (.int (2 : Int32)), .val (.int (0 : Int32)), .val (.ref b111), .val (.ref b200), .val (.long (own_mix ((own_mix ((own_mix ((-7046029254386353131 : Int64) ^^^ q2)) ^^^ q3)) ^^^ q4))), .second, .val (.int (0 : Int32)), .val (.long (own_mix ((own_mix ((-7046029254386353131 : Int64) ^^^ q2)) ^^^ q3))), .second] [(.long q4), (.long (own_mix ((own_mix ((-7046029254386353131 : Int64) ^^^ q2)) ^^^ q3)))])
    refine own_go (fun _ k => XS.lxor X208.here hx rfl (hb hby at_145) rfl k) ?_
    show own_Run p e below _ T208 (mkF m 146 #[.val (.int p1), .val (.long q2), .second, .val (.long q3), .second, .val (.long q4), .second, .val (.long q5), .second, .val (.long q6), .second, .val (.int (3 : Int32)), .val (.int (2 : Int32)), .val (.int (0 : Int32)), .val (.ref b111), .val (.ref b200), .val (.long (own_mix ((own_mix ((own_mix ((-7046029254386353131 : Int64) ^^^ q2)) ^^^ q3)) ^^^ q4))), .second, .val (.int (0 : Int32)), .val (.long (own_mix ((own_mix ((-7046029254386353131 : Int64) ^^^ q2)) ^^^ q3))), .second] [(.long ((own_mix ((own_mix ((-7046029254386353131 : Int64) ^^^ q2)) ^^^ q3)) ^^^ q4))])
    obtain ⟨_, _, ⟨T210, L210, k210, n210⟩, -, X210, ⟨Lc210, hQ210, l210, y210, z210⟩, st210⟩ := Jvm.LawKit.callS X208 hx (y := (⟨"com/example/near_duplicate_finder/nearduplicatefinder/BandingKeyPinLaw", "mixRef", "(J)J"⟩ : MethodName)) hown (mvT hZ (W 30 rfl)) (mvT hZ (W 31 rfl)) (mvT hZ (W 32 rfl)) (mvT hZ (W 33 rfl)) (by decide) (backOf (W := 0) (rm5 l Z a0 hw [] ((own_mix ((own_mix ((-7046029254386353131 : Int64) ^^^ q2)) ^^^ q3)) ^^^ q4) T202.heap n0 Z0_c203 ) hZ (W 33 rfl) (W 32 rfl) (by decide) (by decide)) (g := (mkF m 146 #[.val (.int p1), .val (.long q2), .second, .val (.long q3), .second, .val (.long q4), .second, .val (.long q5), .second, .val (.long q6), .second, .val (.int (3 : Int32)), .val (.int (2 : Int32)), .val (.int (0 : Int32)), .val (.ref b111), .val (.ref b200), .val (.long (own_mix ((own_mix ((own_mix ((-7046029254386353131 : Int64) ^^^ q2)) ^^^ q3)) ^^^ q4))), .second, .val (.int (0 : Int32)), .val (.long (own_mix ((own_mix ((-7046029254386353131 : Int64) ^^^ q2)) ^^^ q3))), .second] [(.long ((own_mix ((own_mix ((-7046029254386353131 : Int64) ^^^ q2)) ^^^ q3)) ^^^ q4))])) rfl (by rw [hml]; rfl) (argsL := [(.long ((own_mix ((own_mix ((-7046029254386353131 : Int64) ^^^ q2)) ^^^ q3)) ^^^ q4))]) (rest := []) (lenOf pd_1 rfl) rfl (by show 2 * 0 + _ ≤ _; exact Nat.le_of_eq rfl) (hb hby at_146) (fun _ _ => ⟨rfl, e208, (by decide : 2 + 0 ≤ _), (by decide : 8 + 0 ≤ _)⟩)
    dsimp only [Pt.U, Pt.locs, Pt.cells, Pt.slots] at X210 l210 y210 z210 st210 hQ210
    subst l210 y210 z210
    obtain ⟨rfl, N210q, e210⟩ := hQ210
    have N210 := Fr.app N208 N210q
    refine own_go st210 ?_
    show own_Run p e below _ T210 (mkF m 149 #[.val (.int p1), .val (.long q2), .second, .val (.long q3), .second, .val (.long q4), .second, .val (.long q5), .second, .val (.long q6), .second, .val (.int (3 : Int32)), .val (.int (2 : Int32)), .val (.int (0 : Int32)), .val (.ref b111), .val (.ref b200), .val (.long (own_mix ((own_mix ((own_mix ((-7046029254386353131 : Int64) ^^^ q2)) ^^^ q3)) ^^^ q4))), .second, .val (.int (0 : Int32)), .val (.long (own_mix ((own_mix ((-7046029254386353131 : Int64) ^^^ q2)) ^^^ q3))), .second] [(.long (own_mix ((own_mix ((own_mix ((-7046029254386353131 : Int64) ^^^ q2)) ^^^ q3)) ^^^ q4)))])
    refine own_go (fun _ k => XS.lstore X210.here hx rfl (hb hby at_149) rfl (l' := #[.val (.int p1), .val (.long q2), .second, .val (.long q3), .second, .val (.long q4), .second, .val (.long q5), .second, .val (.long q6), .second, .val (.int (3 : Int32)), .val (.int (2 : Int32)), .val (.int (0 : Int32)), .val (.ref b111), .val (.ref b200), .val (.long (own_mix ((own_mix ((own_mix ((-7046029254386353131 : Int64) ^^^ q2)) ^^^ q3)) ^^^ q4))), .second, .val (.int (0 : Int32)), .val (.long (own_mix ((own_mix ((own_mix ((-7046029254386353131 : Int64) ^^^ q2)) ^^^ q3)) ^^^ q4))), .second]) rfl k) ?_
    refine own_go (fun _ k => XS.lload X210.here hx rfl (hb hby at_151) rfl k) ?_
    refine own_go (fun _ k => XS.lload X210.here hx rfl (hb hby at_153) rfl k) ?_
    refine own_go (fun _ k => XS.lcmp X210.here hx rfl (hb hby at_155) rfl k) ?_
    show own_Run p e below _ T210 (mkF m 156 #[.val (.int p1), .val (.long q2), .second, .val (.long q3), .second, .val (.long q4), .second, .val (.long q5), .second, .val (.long q6), .second, .val (.int (3 : Int32)), .val (.int (2 : Int32)), .val (.int (0 : Int32)), .val (.ref b111), .val (.ref b200), .val (.long (own_mix ((own_mix ((own_mix ((-7046029254386353131 : Int64) ^^^ q2)) ^^^ q3)) ^^^ q4))), .second, .val (.int (0 : Int32)), .val (.long (own_mix ((own_mix ((own_mix ((-7046029254386353131 : Int64) ^^^ q2)) ^^^ q3)) ^^^ q4))), .second] [(.int (lcmpW (own_mix ((own_mix ((own_mix ((-7046029254386353131 : Int64) ^^^ q2)) ^^^ q3)) ^^^ q4)) (own_mix ((own_mix ((own_mix ((-7046029254386353131 : Int64) ^^^ q2)) ^^^ q3)) ^^^ q4))))])
    refine own_go (fun _ k => XS.ifNo X210.here hx rfl (hb hby at_156) rfl (own_lcTe rfl).2 k) ?_
    show own_Run p e below _ T210 (mkF m 159 #[.val (.int p1), .val (.long q2), .second, .val (.long q3), .second, .val (.long q4), .second, .val (.long q5), .second, .val (.long q6), .second, .val (.int (3 : Int32)), .val (.int (2 : Int32)), .val (.int (0 : Int32)), .val (.ref b111), .val (.ref b200), .val (.long (own_mix ((own_mix ((own_mix ((-7046029254386353131 : Int64) ^^^ q2)) ^^^ q3)) ^^^ q4))), .second, .val (.int (0 : Int32)), .val (.long (own_mix ((own_mix ((own_mix ((-7046029254386353131 : Int64) ^^^ q2)) ^^^ q3)) ^^^ q4))), .second] [])
    refine own_go (fun _ k => XS.iconst X210.here hx rfl (hb hby at_159) k) ?_
    refine own_go (fun _ k => XS.goto X210.here hx rfl (pc0 := 160) (pc' := 164) rfl (hb hby at_160) (by decide) (by decide) k) ?_
    show own_Run p e below _ T210 (mkF m 164 #[.val (.int p1), .val (.long q2), .second, .val (.long q3), .second, .val (.long q4), .second, .val (.long q5), .second, .val (.long q6), .second, .val (.int (3 : Int32)), .val (.int (2 : Int32)), .val (.int (0 : Int32)), .val (.ref b111), .val (.ref b200), .val (.long (own_mix ((own_mix ((own_mix ((-7046029254386353131 : Int64) ^^^ q2)) ^^^ q3)) ^^^ q4))), .second, .val (.int (0 : Int32)), .val (.long (own_mix ((own_mix ((own_mix ((-7046029254386353131 : Int64) ^^^ q2)) ^^^ q3)) ^^^ q4))), .second] [(.int (1 : Int32))])
    refine own_done (Q := fun v h L => Q0 Z p1 q2 q3 q4 q5 q6 h0 n0 v h L) (v := (some (.int (1 : Int32)))) X210 (fun h => by rw [hret] at h; cases h) hlk (fun fs hr => retN X210 hx (t := .boolean) hret (by simp) (hb hby at_164) hr) ?_ (by decide) (by decide)
    show Q0 Z p1 q2 q3 q4 q5 q6 h0 n0 _ T210.heap _
    rw [e210]
    exact ⟨rfl, N210⟩
  · show own_Run p e below _ T129 (mkF m 64 #[.val (.int p1), .val (.long q2), .second, .val (.long q3), .second, .val (.long q4), .second, .val (.long q5), .second, .val (.long q6), .second, .val (.int (3 : Int32)), .val (.int (2 : Int32)), .val (.int (1 : Int32)), .val (.ref b111), .unset, .unset, .unset, .unset, .unset, .unset] [])
    obtain ⟨T211, h211, X211, e211, E211, A211, D211, -, st211⟩ := newO X129 hx hZ hown (W 3 rfl) (W 4 rfl) (W 5 rfl) e129 (g := (mkF m 64 #[.val (.int p1), .val (.long q2), .second, .val (.long q3), .second, .val (.long q4), .second, .val (.long q5), .second, .val (.long q6), .second, .val (.int (3 : Int32)), .val (.int (2 : Int32)), .val (.int (1 : Int32)), .val (.ref b111), .unset, .unset, .unset, .unset, .unset, .unset] [])) rfl (hb hby at_64) (by decide) (by decide)
    refine own_go st211 ?_
    obtain ⟨b211, g211⟩ : ∃ z, z = h129.size := ⟨_, rfl⟩
    rw [← g211] at A211 D211
    rw [← g211]
    show own_Run p e below _ T211 (mkF m 67 #[.val (.int p1), .val (.long q2), .second, .val (.long q3), .second, .val (.long q4), .second, .val (.long q5), .second, .val (.long q6), .second, .val (.int (3 : Int32)), .val (.int (2 : Int32)), .val (.int (1 : Int32)), .val (.ref b111), .unset, .unset, .unset, .unset, .unset, .unset] [(.ref b211)])
    have ne_b111_b211 : b111 ≠ b211 := Nat.ne_of_lt (Nat.lt_of_lt_of_eq V_b111_c129.lt g211.symm)
    have g_b211 : n0 ≤ b211 := Nat.le_trans Z0_c130 (Nat.le_of_eq g211.symm)
    have sz_b211 : h0.size ≤ b211 := Nat.le_trans K0_c130.1 (Nat.le_of_eq g211.symm)
    have Z0_c212 := Nat.le_trans Z0_c130 E211.1
    have K0_c212 := K0_c130.ext E211
    have V_b111_c212 := V_b111_c129.ext E211
    have F_bands_b211 : Fld Z h211 b211 "com/example/near_duplicate_finder/nearduplicatefinder/Banding" "bands" "I" (.int (0 : Int32)) := D211 (Or.inr (W 14 rfl)) (ty := .int) (by decide)
    have F_rows_b211 : Fld Z h211 b211 "com/example/near_duplicate_finder/nearduplicatefinder/Banding" "rows" "I" (.int (0 : Int32)) := D211 (Or.inr (W 16 rfl)) (ty := .int) (by decide)
    refine own_go (fun _ k => XS.dup X211.here hx rfl (hb hby at_67) rfl rfl k) ?_
    refine own_go (fun _ k => XS.iload X211.here hx rfl (hb hby at_68) rfl k) ?_
    refine own_go (fun _ k => XS.iload X211.here hx rfl (hb hby at_70) rfl k) ?_
    show own_Run p e below _ T211 (mkF m 72 #[.val (.int p1), .val (.long q2), .second, .val (.long q3), .second, .val (.long q4), .second, .val (.long q5), .second, .val (.long q6), .second, .val (.int (3 : Int32)), .val (.int (2 : Int32)), .val (.int (1 : Int32)), .val (.ref b111), .unset, .unset, .unset, .unset, .unset, .unset] [(.int (3 : Int32)), (.int (2 : Int32)), (.ref b211), (.ref b211)])
    obtain ⟨_, _, ⟨T213, L213, k213, n213⟩, -, X213, ⟨Lc213, hQ213, l213, y213, z213⟩, st213⟩ := X211.specialBack hx (y := (⟨"com/example/near_duplicate_finder/nearduplicatefinder/Banding", "<init>", "(II)V"⟩ : MethodName)) rfl hown (mvT hZ (W 6 rfl)) (mvT hZ (W 7 rfl)) (mvT hZ (W 8 rfl)) (by decide) (backOf (W := 1) (rm1 l Z a0 hw [] b211 (2 : Int32) (3 : Int32) (.int (0 : Int32)) (.int (0 : Int32)) h211 n0 Z0_c212 A211 F_bands_b211 F_rows_b211 g_b211 (by decide) (by decide) (by decide)) hZ (W 8 rfl) (W 5 rfl) (by decide) (by decide)) (g := (mkF m 72 #[.val (.int p1), .val (.long q2), .second, .val (.long q3), .second, .val (.long q4), .second, .val (.long q5), .second, .val (.long q6), .second, .val (.int (3 : Int32)), .val (.int (2 : Int32)), .val (.int (1 : Int32)), .val (.ref b111), .unset, .unset, .unset, .unset, .unset, .unset] [(.int (3 : Int32)), (.int (2 : Int32)), (.ref b211), (.ref b211)])) rfl (by rw [hml]; rfl) (Steps.refl _) (a := b211) (argsL := [(.int (2 : Int32)), (.int (3 : Int32))]) (rest := [(.ref b211)]) (lenOf pd_2 rfl) rfl (by show 2 * 0 + _ ≤ _; exact Nat.le_of_eq rfl) (hb hby at_72) (fun _ _ => ⟨rfl, e211, (by decide : 2 + 0 ≤ _), (by decide : 8 + 0 ≤ _)⟩)
    dsimp only [Pt.U, Pt.locs, Pt.cells, Pt.slots] at X213 l213 y213 z213 st213 hQ213
    subst l213 y213 z213
    obtain ⟨rfl, N213q, K213, P213_0, P213_1⟩ := hQ213
    have N213 := Fr.app N129 N213q
    refine own_goT st213 ?_
    show own_Run p e below _ T213 (mkF m 75 #[.val (.int p1), .val (.long q2), .second, .val (.long q3), .second, .val (.long q4), .second, .val (.long q5), .second, .val (.long q6), .second, .val (.int (3 : Int32)), .val (.int (2 : Int32)), .val (.int (1 : Int32)), .val (.ref b111), .unset, .unset, .unset, .unset, .unset, .unset] [(.ref b211)])
    have Z0_c214 := Nat.le_trans Z0_c212 K213.1
    have K0_c214 := K0_c212.trans K213 (allS (Or.inr sz_b211) all0)
    have V_b111_c214 := V_b111_c212.keep K213 (ninS ne_b111_b211 nin0)
    have A211_c214 := A211.keep K213
    refine own_go (fun _ k => XS.astore X213.here hx rfl (hb hby at_75) rfl rfl (l' := #[.val (.int p1), .val (.long q2), .second, .val (.long q3), .second, .val (.long q4), .second, .val (.long q5), .second, .val (.long q6), .second, .val (.int (3 : Int32)), .val (.int (2 : Int32)), .val (.int (1 : Int32)), .val (.ref b111), .val (.ref b211), .unset, .unset, .unset, .unset, .unset]) rfl k) ?_
    refine own_go (fun _ k => XS.aload X213.here hx rfl (hb hby at_77) rfl rfl k) ?_
    refine own_go (fun _ k => XS.aload X213.here hx rfl (hb hby at_79) rfl rfl k) ?_
    refine own_go (fun _ k => XS.iload X213.here hx rfl (hb hby at_81) rfl k) ?_
    show own_Run p e below _ T213 (mkF m 83 #[.val (.int p1), .val (.long q2), .second, .val (.long q3), .second, .val (.long q4), .second, .val (.long q5), .second, .val (.long q6), .second, .val (.int (3 : Int32)), .val (.int (2 : Int32)), .val (.int (1 : Int32)), .val (.ref b111), .val (.ref b211), .unset, .unset, .unset, .unset, .unset] [(.int (1 : Int32)), (.ref b111), (.ref b211)])
    obtain ⟨cq215, kq215, q215a, q215b, q215c⟩ := isOf hZ rfl P213_0
    obtain ⟨_, _, ⟨T215, L215, k215, n215⟩, -, X215, ⟨Lc215, hQ215, l215, y215, z215⟩, st215⟩ := X213.virtualBack hx (y := (⟨"com/example/near_duplicate_finder/nearduplicatefinder/Banding", "key", "([JI)J"⟩ : MethodName)) (z := (⟨"com/example/near_duplicate_finder/nearduplicatefinder/Banding", "key", "([JI)J"⟩ : MethodName)) hown (mvT hZ (W 17 rfl)) (mvT hZ (W 18 rfl)) (notFace_of_selects (args := #[]) (mvT hZ (W 20 rfl))) (mvT hZ (W 20 rfl)) (mvT hZ (W 19 rfl)) (by decide) (backOf (W := 0) (rm3 l Z a0 hw [] b211 b111 (1 : Int32) (3 : Int32) k111 q2 q3 q4 q5 q6 (q2 + q6) (own_mix ((own_mix ((own_mix ((-7046029254386353131 : Int64) ^^^ q5)) ^^^ q6)) ^^^ (q2 + q6))) T213.heap n0 Z0_c214 P213_1 V_b111_c214 (Or.inr (Or.inr (Or.inr (Or.inr (Or.inr (Or.inr (Or.inr (Or.inr (Or.inr (Or.inr (⟨rfl, rfl, rfl⟩)))))))))))) hZ (W 21 rfl) (W 5 rfl) (by decide) (by decide)) q215a q215c (g := (mkF m 83 #[.val (.int p1), .val (.long q2), .second, .val (.long q3), .second, .val (.long q4), .second, .val (.long q5), .second, .val (.long q6), .second, .val (.int (3 : Int32)), .val (.int (2 : Int32)), .val (.int (1 : Int32)), .val (.ref b111), .val (.ref b211), .unset, .unset, .unset, .unset, .unset] [(.int (1 : Int32)), (.ref b111), (.ref b211)])) rfl (by rw [hml]; rfl) (Steps.refl _) (argsL := [(.ref b111), (.int (1 : Int32))]) (rest := []) (lenOf pd_3 rfl) rfl (by show 2 * 0 + _ ≤ _; exact Nat.le_of_eq rfl) (hb hby at_83) (fun _ _ => ⟨rfl, rfl, (by decide : 2 + 0 ≤ _), (by decide : 8 + 0 ≤ _)⟩)
    dsimp only [Pt.U, Pt.locs, Pt.cells, Pt.slots] at X215 l215 y215 z215 st215 hQ215
    subst l215 y215 z215
    obtain ⟨rfl, N215q, e215⟩ := hQ215
    have N215 := Fr.app N213 N215q
    refine own_goT st215 ?_
    show own_Run p e below _ T215 (mkF m 86 #[.val (.int p1), .val (.long q2), .second, .val (.long q3), .second, .val (.long q4), .second, .val (.long q5), .second, .val (.long q6), .second, .val (.int (3 : Int32)), .val (.int (2 : Int32)), .val (.int (1 : Int32)), .val (.ref b111), .val (.ref b211), .unset, .unset, .unset, .unset, .unset] [(.long (own_mix ((own_mix ((own_mix ((-7046029254386353131 : Int64) ^^^ q5)) ^^^ q6)) ^^^ (q2 + q6))))])
    refine own_go (fun _ k => XS.lstore X215.here hx rfl (hb hby at_86) rfl (l' := #[.val (.int p1), .val (.long q2), .second, .val (.long q3), .second, .val (.long q4), .second, .val (.long q5), .second, .val (.long q6), .second, .val (.int (3 : Int32)), .val (.int (2 : Int32)), .val (.int (1 : Int32)), .val (.ref b111), .val (.ref b211), .val (.long (own_mix ((own_mix ((own_mix ((-7046029254386353131 : Int64) ^^^ q5)) ^^^ q6)) ^^^ (q2 + q6)))), .second, .unset, .unset, .unset]) rfl k) ?_
    refine own_go (fun _ k => XS.iload X215.here hx rfl (hb hby at_88) rfl k) ?_
    refine own_go (fun _ k => XS.iload X215.here hx rfl (hb hby at_90) rfl k) ?_
    refine own_go (fun _ k => XS.imul X215.here hx rfl (hb hby at_92) rfl k) ?_
    show own_Run p e below _ T215 (mkF m 93 #[.val (.int p1), .val (.long q2), .second, .val (.long q3), .second, .val (.long q4), .second, .val (.long q5), .second, .val (.long q6), .second, .val (.int (3 : Int32)), .val (.int (2 : Int32)), .val (.int (1 : Int32)), .val (.ref b111), .val (.ref b211), .val (.long (own_mix ((own_mix ((own_mix ((-7046029254386353131 : Int64) ^^^ q5)) ^^^ q6)) ^^^ (q2 + q6)))), .second, .unset, .unset, .unset] [(.int ((1 : Int32) * (3 : Int32)))])
    rw [show ((1 : Int32) * (3 : Int32)) = (3 : Int32) by decide]
    show own_Run p e below _ T215 (mkF m 93 #[.val (.int p1), .val (.long q2), .second, .val (.long q3), .second, .val (.long q4), .second, .val (.long q5), .second, .val (.long q6), .second, .val (.int (3 : Int32)), .val (.int (2 : Int32)), .val (.int (1 : Int32)), .val (.ref b111), .val (.ref b211), .val (.long (own_mix ((own_mix ((own_mix ((-7046029254386353131 : Int64) ^^^ q5)) ^^^ q6)) ^^^ (q2 + q6)))), .second, .unset, .unset, .unset] [(.int (3 : Int32))])
    refine own_go (fun _ k => XS.istore X215.here hx rfl (hb hby at_93) rfl (l' := #[.val (.int p1), .val (.long q2), .second, .val (.long q3), .second, .val (.long q4), .second, .val (.long q5), .second, .val (.long q6), .second, .val (.int (3 : Int32)), .val (.int (2 : Int32)), .val (.int (1 : Int32)), .val (.ref b111), .val (.ref b211), .val (.long (own_mix ((own_mix ((own_mix ((-7046029254386353131 : Int64) ^^^ q5)) ^^^ q6)) ^^^ (q2 + q6)))), .second, .val (.int (3 : Int32)), .unset, .unset]) rfl k) ?_
    show own_Run p e below _ T215 (mkF m 95 #[.val (.int p1), .val (.long q2), .second, .val (.long q3), .second, .val (.long q4), .second, .val (.long q5), .second, .val (.long q6), .second, .val (.int (3 : Int32)), .val (.int (2 : Int32)), .val (.int (1 : Int32)), .val (.ref b111), .val (.ref b211), .val (.long (own_mix ((own_mix ((own_mix ((-7046029254386353131 : Int64) ^^^ q5)) ^^^ q6)) ^^^ (q2 + q6)))), .second, .val (.int (3 : Int32)), .unset, .unset] [])
    refine own_go (X215.ldc2Long hx hown (mvT hZ (W 29 rfl)) (g := (mkF m 95 #[.val (.int p1), .val (.long q2), .second, .val (.long q3), .second, .val (.long q4), .second, .val (.long q5), .second, .val (.long q6), .second, .val (.int (3 : Int32)), .val (.int (2 : Int32)), .val (.int (1 : Int32)), .val (.ref b111), .val (.ref b211), .val (.long (own_mix ((own_mix ((own_mix ((-7046029254386353131 : Int64) ^^^ q5)) ^^^ q6)) ^^^ (q2 + q6)))), .second, .val (.int (3 : Int32)), .unset, .unset] [])) rfl (hb hby at_95)) ?_
    show own_Run p e below _ T215 (mkF m 98 #[.val (.int p1), .val (.long q2), .second, .val (.long q3), .second, .val (.long q4), .second, .val (.long q5), .second, .val (.long q6), .second, .val (.int (3 : Int32)), .val (.int (2 : Int32)), .val (.int (1 : Int32)), .val (.ref b111), .val (.ref b211), .val (.long (own_mix ((own_mix ((own_mix ((-7046029254386353131 : Int64) ^^^ q5)) ^^^ q6)) ^^^ (q2 + q6)))), .second, .val (.int (3 : Int32)), .unset, .unset] [(.long (-7046029254386353131 : Int64))])
    refine own_go (fun _ k => XS.aload X215.here hx rfl (hb hby at_98) rfl rfl k) ?_
    refine own_go (fun _ k => XS.iload X215.here hx rfl (hb hby at_100) rfl k) ?_
    show own_Run p e below _ T215 (mkF m 102 #[.val (.int p1), .val (.long q2), .second, .val (.long q3), .second, .val (.long q4), .second, .val (.long q5), .second, .val (.long q6), .second, .val (.int (3 : Int32)), .val (.int (2 : Int32)), .val (.int (1 : Int32)), .val (.ref b111), .val (.ref b211), .val (.long (own_mix ((own_mix ((own_mix ((-7046029254386353131 : Int64) ^^^ q5)) ^^^ q6)) ^^^ (q2 + q6)))), .second, .val (.int (3 : Int32)), .unset, .unset] [(.int (3 : Int32)), (.ref b111), (.long (-7046029254386353131 : Int64))])
    obtain ⟨cl216, Ar216, q216, S216, N216, H216, G216⟩ := id V_b111_c214
    have hin216 : ¬ ((3 : Int32) < 0 ∨ cl216.slots.size ≤ ((3 : Int32)).toNatClampNeg) := inb_of S216 ⟨by decide, by decide⟩
    refine own_go (X215.laload hx (j := (3 : Int32)) (v := (.long q5)) (by rw [e215]; exact Ar216.1) (State.isArrayOf_alike hZ.alike Ar216.2.1) Ar216.2.2 hin216 (H216.at hin216 rfl) (g := (mkF m 102 #[.val (.int p1), .val (.long q2), .second, .val (.long q3), .second, .val (.long q4), .second, .val (.long q5), .second, .val (.long q6), .second, .val (.int (3 : Int32)), .val (.int (2 : Int32)), .val (.int (1 : Int32)), .val (.ref b111), .val (.ref b211), .val (.long (own_mix ((own_mix ((own_mix ((-7046029254386353131 : Int64) ^^^ q5)) ^^^ q6)) ^^^ (q2 + q6)))), .second, .val (.int (3 : Int32)), .unset, .unset] [(.int (3 : Int32)), (.ref b111), (.long (-7046029254386353131 : Int64))])) rfl rfl (hb hby at_102)) ?_
    show own_Run p e below _ T215 (mkF m 103 #[.val (.int p1), .val (.long q2), .second, .val (.long q3), .second, .val (.long q4), .second, .val (.long q5), .second, .val (.long q6), .second, .val (.int (3 : Int32)), .val (.int (2 : Int32)), .val (.int (1 : Int32)), .val (.ref b111), .val (.ref b211), .val (.long (own_mix ((own_mix ((own_mix ((-7046029254386353131 : Int64) ^^^ q5)) ^^^ q6)) ^^^ (q2 + q6)))), .second, .val (.int (3 : Int32)), .unset, .unset] [(.long q5), (.long (-7046029254386353131 : Int64))])
    refine own_go (fun _ k => XS.lxor X215.here hx rfl (hb hby at_103) rfl k) ?_
    show own_Run p e below _ T215 (mkF m 104 #[.val (.int p1), .val (.long q2), .second, .val (.long q3), .second, .val (.long q4), .second, .val (.long q5), .second, .val (.long q6), .second, .val (.int (3 : Int32)), .val (.int (2 : Int32)), .val (.int (1 : Int32)), .val (.ref b111), .val (.ref b211), .val (.long (own_mix ((own_mix ((own_mix ((-7046029254386353131 : Int64) ^^^ q5)) ^^^ q6)) ^^^ (q2 + q6)))), .second, .val (.int (3 : Int32)), .unset, .unset] [(.long ((-7046029254386353131 : Int64) ^^^ q5))])
    obtain ⟨_, _, ⟨T217, L217, k217, n217⟩, -, X217, ⟨Lc217, hQ217, l217, y217, z217⟩, st217⟩ := Jvm.LawKit.callS X215 hx (y := (⟨"com/example/near_duplicate_finder/nearduplicatefinder/BandingKeyPinLaw", "mixRef", "(J)J"⟩ : MethodName)) hown (mvT hZ (W 30 rfl)) (mvT hZ (W 31 rfl)) (mvT hZ (W 32 rfl)) (mvT hZ (W 33 rfl)) (by decide) (backOf (W := 0) (rm5 l Z a0 hw [] ((-7046029254386353131 : Int64) ^^^ q5) T213.heap n0 Z0_c214 ) hZ (W 33 rfl) (W 32 rfl) (by decide) (by decide)) (g := (mkF m 104 #[.val (.int p1), .val (.long q2), .second, .val (.long q3), .second, .val (.long q4), .second, .val (.long q5), .second, .val (.long q6), .second, .val (.int (3 : Int32)), .val (.int (2 : Int32)), .val (.int (1 : Int32)), .val (.ref b111), .val (.ref b211), .val (.long (own_mix ((own_mix ((own_mix ((-7046029254386353131 : Int64) ^^^ q5)) ^^^ q6)) ^^^ (q2 + q6)))), .second, .val (.int (3 : Int32)), .unset, .unset] [(.long ((-7046029254386353131 : Int64) ^^^ q5))])) rfl (by rw [hml]; rfl) (argsL := [(.long ((-7046029254386353131 : Int64) ^^^ q5))]) (rest := []) (lenOf pd_1 rfl) rfl (by show 2 * 0 + _ ≤ _; exact Nat.le_of_eq rfl) (hb hby at_104) (fun _ _ => ⟨rfl, e215, (by decide : 2 + 0 ≤ _), (by decide : 8 + 0 ≤ _)⟩)
    dsimp only [Pt.U, Pt.locs, Pt.cells, Pt.slots] at X217 l217 y217 z217 st217 hQ217
    subst l217 y217 z217
    obtain ⟨rfl, N217q, e217⟩ := hQ217
    have N217 := Fr.app N215 N217q
    refine own_go st217 ?_
    show own_Run p e below _ T217 (mkF m 107 #[.val (.int p1), .val (.long q2), .second, .val (.long q3), .second, .val (.long q4), .second, .val (.long q5), .second, .val (.long q6), .second, .val (.int (3 : Int32)), .val (.int (2 : Int32)), .val (.int (1 : Int32)), .val (.ref b111), .val (.ref b211), .val (.long (own_mix ((own_mix ((own_mix ((-7046029254386353131 : Int64) ^^^ q5)) ^^^ q6)) ^^^ (q2 + q6)))), .second, .val (.int (3 : Int32)), .unset, .unset] [(.long (own_mix ((-7046029254386353131 : Int64) ^^^ q5)))])
    refine own_go (fun _ k => XS.lstore X217.here hx rfl (hb hby at_107) rfl (l' := #[.val (.int p1), .val (.long q2), .second, .val (.long q3), .second, .val (.long q4), .second, .val (.long q5), .second, .val (.long q6), .second, .val (.int (3 : Int32)), .val (.int (2 : Int32)), .val (.int (1 : Int32)), .val (.ref b111), .val (.ref b211), .val (.long (own_mix ((own_mix ((own_mix ((-7046029254386353131 : Int64) ^^^ q5)) ^^^ q6)) ^^^ (q2 + q6)))), .second, .val (.int (3 : Int32)), .val (.long (own_mix ((-7046029254386353131 : Int64) ^^^ q5))), .second]) rfl k) ?_
    refine own_go (fun _ k => XS.iload X217.here hx rfl (hb hby at_109) rfl k) ?_
    refine own_go (fun _ k => XS.iconst X217.here hx rfl (hb hby at_111) k) ?_
    show own_Run p e below _ T217 (mkF m 112 #[.val (.int p1), .val (.long q2), .second, .val (.long q3), .second, .val (.long q4), .second, .val (.long q5), .second, .val (.long q6), .second, .val (.int (3 : Int32)), .val (.int (2 : Int32)), .val (.int (1 : Int32)), .val (.ref b111), .val (.ref b211), .val (.long (own_mix ((own_mix ((own_mix ((-7046029254386353131 : Int64) ^^^ q5)) ^^^ q6)) ^^^ (q2 + q6)))), .second, .val (.int (3 : Int32)), .val (.long (own_mix ((-7046029254386353131 : Int64) ^^^ q5))), .second] [(.int (2 : Int32)), (.int (3 : Int32))])
    refine own_go (fun _ k => XS.icmpNo X217.here hx rfl (hb hby at_112) rfl (flt (by decide : ¬ ((3 : Int32) < (2 : Int32)))).1 k) ?_
    show own_Run p e below _ T217 (mkF m 115 #[.val (.int p1), .val (.long q2), .second, .val (.long q3), .second, .val (.long q4), .second, .val (.long q5), .second, .val (.long q6), .second, .val (.int (3 : Int32)), .val (.int (2 : Int32)), .val (.int (1 : Int32)), .val (.ref b111), .val (.ref b211), .val (.long (own_mix ((own_mix ((own_mix ((-7046029254386353131 : Int64) ^^^ q5)) ^^^ q6)) ^^^ (q2 + q6)))), .second, .val (.int (3 : Int32)), .val (.long (own_mix ((-7046029254386353131 : Int64) ^^^ q5))), .second] [])
    refine own_go (fun _ k => XS.lload X217.here hx rfl (hb hby at_115) rfl k) ?_
    refine own_go (fun _ k => XS.aload X217.here hx rfl (hb hby at_117) rfl rfl k) ?_
    refine own_go (fun _ k => XS.iload X217.here hx rfl (hb hby at_119) rfl k) ?_
    refine own_go (fun _ k => XS.iconst X217.here hx rfl (hb hby at_121) k) ?_
    show own_Run p e below _ T217 (mkF m 122 #[.val (.int p1), .val (.long q2), .second, .val (.long q3), .second, .val (.long q4), .second, .val (.long q5), .second, .val (.long q6), .second, .val (.int (3 : Int32)), .val (.int (2 : Int32)), .val (.int (1 : Int32)), .val (.ref b111), .val (.ref b211), .val (.long (own_mix ((own_mix ((own_mix ((-7046029254386353131 : Int64) ^^^ q5)) ^^^ q6)) ^^^ (q2 + q6)))), .second, .val (.int (3 : Int32)), .val (.long (own_mix ((-7046029254386353131 : Int64) ^^^ q5))), .second] [(.int (1 : Int32)), (.int (3 : Int32)), (.ref b111), (.long (own_mix ((-7046029254386353131 : Int64) ^^^ q5)))])
    refine own_go (fun _ k => XS.iadd X217.here hx rfl (hb hby at_122) rfl k) ?_
    show own_Run p e below _ T217 (mkF m 123 #[.val (.int p1), .val (.long q2), .second, .val (.long q3), .second, .val (.long q4), .second, .val (.long q5), .second, .val (.long q6), .second, .val (.int (3 : Int32)), .val (.int (2 : Int32)), .val (.int (1 : Int32)), .val (.ref b111), .val (.ref b211), .val (.long (own_mix ((own_mix ((own_mix ((-7046029254386353131 : Int64) ^^^ q5)) ^^^ q6)) ^^^ (q2 + q6)))), .second, .val (.int (3 : Int32)), .val (.long (own_mix ((-7046029254386353131 : Int64) ^^^ q5))), .second] [(.int ((3 : Int32) + (1 : Int32))), (.ref b111), (.long (own_mix ((-7046029254386353131 : Int64) ^^^ q5)))])
    rw [show ((3 : Int32) + (1 : Int32)) = (4 : Int32) by decide]
    show own_Run p e below _ T217 (mkF m 123 #[.val (.int p1), .val (.long q2), .second, .val (.long q3), .second, .val (.long q4), .second, .val (.long q5), .second, .val (.long q6), .second, .val (.int (3 : Int32)), .val (.int (2 : Int32)), .val (.int (1 : Int32)), .val (.ref b111), .val (.ref b211), .val (.long (own_mix ((own_mix ((own_mix ((-7046029254386353131 : Int64) ^^^ q5)) ^^^ q6)) ^^^ (q2 + q6)))), .second, .val (.int (3 : Int32)), .val (.long (own_mix ((-7046029254386353131 : Int64) ^^^ q5))), .second] [(.int (4 : Int32)), (.ref b111), (.long (own_mix ((-7046029254386353131 : Int64) ^^^ q5)))])
    obtain ⟨cl218, Ar218, q218, S218, N218, H218, G218⟩ := id V_b111_c214
    have hin218 : ¬ ((4 : Int32) < 0 ∨ cl218.slots.size ≤ ((4 : Int32)).toNatClampNeg) := inb_of S218 ⟨by decide, by decide⟩
    refine own_go (X217.laload hx (j := (4 : Int32)) (v := (.long q6)) (by rw [e217]; exact Ar218.1) (State.isArrayOf_alike hZ.alike Ar218.2.1) Ar218.2.2 hin218 (H218.at hin218 rfl) (g := (mkF m 123 #[.val (.int p1), .val (.long q2), .second, .val (.long q3), .second, .val (.long q4), .second, .val (.long q5), .second, .val (.long q6), .second, .val (.int (3 : Int32)), .val (.int (2 : Int32)), .val (.int (1 : Int32)), .val (.ref b111), .val (.ref b211), .val (.long (own_mix ((own_mix ((own_mix ((-7046029254386353131 : Int64) ^^^ q5)) ^^^ q6)) ^^^ (q2 + q6)))), .second, .val (.int (3 : Int32)), .val (.long (own_mix ((-7046029254386353131 : Int64) ^^^ q5))), .second] [(.int (4 : Int32)), (.ref b111), (.long (own_mix ((-7046029254386353131 : Int64) ^^^ q5)))])) rfl rfl (hb hby at_123)) ?_
    show own_Run p e below _ T217 (mkF m 124 #[.val (.int p1), .val (.long q2), .second, .val (.long q3), .second, .val (.long q4), .second, .val (.long q5), .second, .val (.long q6), .second, .val (.int (3 : Int32)), .val (.int (2 : Int32)), .val (.int (1 : Int32)), .val (.ref b111), .val (.ref b211), .val (.long (own_mix ((own_mix ((own_mix ((-7046029254386353131 : Int64) ^^^ q5)) ^^^ q6)) ^^^ (q2 + q6)))), .second, .val (.int (3 : Int32)), .val (.long (own_mix ((-7046029254386353131 : Int64) ^^^ q5))), .second] [(.long q6), (.long (own_mix ((-7046029254386353131 : Int64) ^^^ q5)))])
    refine own_go (fun _ k => XS.lxor X217.here hx rfl (hb hby at_124) rfl k) ?_
    show own_Run p e below _ T217 (mkF m 125 #[.val (.int p1), .val (.long q2), .second, .val (.long q3), .second, .val (.long q4), .second, .val (.long q5), .second, .val (.long q6), .second, .val (.int (3 : Int32)), .val (.int (2 : Int32)), .val (.int (1 : Int32)), .val (.ref b111), .val (.ref b211), .val (.long (own_mix ((own_mix ((own_mix ((-7046029254386353131 : Int64) ^^^ q5)) ^^^ q6)) ^^^ (q2 + q6)))), .second, .val (.int (3 : Int32)), .val (.long (own_mix ((-7046029254386353131 : Int64) ^^^ q5))), .second] [(.long ((own_mix ((-7046029254386353131 : Int64) ^^^ q5)) ^^^ q6))])
    obtain ⟨_, _, ⟨T219, L219, k219, n219⟩, -, X219, ⟨Lc219, hQ219, l219, y219, z219⟩, st219⟩ := Jvm.LawKit.callS X217 hx (y := (⟨"com/example/near_duplicate_finder/nearduplicatefinder/BandingKeyPinLaw", "mixRef", "(J)J"⟩ : MethodName)) hown (mvT hZ (W 30 rfl)) (mvT hZ (W 31 rfl)) (mvT hZ (W 32 rfl)) (mvT hZ (W 33 rfl)) (by decide) (backOf (W := 0) (rm5 l Z a0 hw [] ((own_mix ((-7046029254386353131 : Int64) ^^^ q5)) ^^^ q6) T213.heap n0 Z0_c214 ) hZ (W 33 rfl) (W 32 rfl) (by decide) (by decide)) (g := (mkF m 125 #[.val (.int p1), .val (.long q2), .second, .val (.long q3), .second, .val (.long q4), .second, .val (.long q5), .second, .val (.long q6), .second, .val (.int (3 : Int32)), .val (.int (2 : Int32)), .val (.int (1 : Int32)), .val (.ref b111), .val (.ref b211), .val (.long (own_mix ((own_mix ((own_mix ((-7046029254386353131 : Int64) ^^^ q5)) ^^^ q6)) ^^^ (q2 + q6)))), .second, .val (.int (3 : Int32)), .val (.long (own_mix ((-7046029254386353131 : Int64) ^^^ q5))), .second] [(.long ((own_mix ((-7046029254386353131 : Int64) ^^^ q5)) ^^^ q6))])) rfl (by rw [hml]; rfl) (argsL := [(.long ((own_mix ((-7046029254386353131 : Int64) ^^^ q5)) ^^^ q6))]) (rest := []) (lenOf pd_1 rfl) rfl (by show 2 * 0 + _ ≤ _; exact Nat.le_of_eq rfl) (hb hby at_125) (fun _ _ => ⟨rfl, e217, (by decide : 2 + 0 ≤ _), (by decide : 8 + 0 ≤ _)⟩)
    dsimp only [Pt.U, Pt.locs, Pt.cells, Pt.slots] at X219 l219 y219 z219 st219 hQ219
    subst l219 y219 z219
    obtain ⟨rfl, N219q, e219⟩ := hQ219
    have N219 := Fr.app N217 N219q
    refine own_go st219 ?_
    show own_Run p e below _ T219 (mkF m 128 #[.val (.int p1), .val (.long q2), .second, .val (.long q3), .second, .val (.long q4), .second, .val (.long q5), .second, .val (.long q6), .second, .val (.int (3 : Int32)), .val (.int (2 : Int32)), .val (.int (1 : Int32)), .val (.ref b111), .val (.ref b211), .val (.long (own_mix ((own_mix ((own_mix ((-7046029254386353131 : Int64) ^^^ q5)) ^^^ q6)) ^^^ (q2 + q6)))), .second, .val (.int (3 : Int32)), .val (.long (own_mix ((-7046029254386353131 : Int64) ^^^ q5))), .second] [(.long (own_mix ((own_mix ((-7046029254386353131 : Int64) ^^^ q5)) ^^^ q6)))])
    refine own_go (fun _ k => XS.lstore X219.here hx rfl (hb hby at_128) rfl (l' := #[.val (.int p1), .val (.long q2), .second, .val (.long q3), .second, .val (.long q4), .second, .val (.long q5), .second, .val (.long q6), .second, .val (.int (3 : Int32)), .val (.int (2 : Int32)), .val (.int (1 : Int32)), .val (.ref b111), .val (.ref b211), .val (.long (own_mix ((own_mix ((own_mix ((-7046029254386353131 : Int64) ^^^ q5)) ^^^ q6)) ^^^ (q2 + q6)))), .second, .val (.int (3 : Int32)), .val (.long (own_mix ((own_mix ((-7046029254386353131 : Int64) ^^^ q5)) ^^^ q6))), .second]) rfl k) ?_
    refine own_go (fun _ k => XS.iload X219.here hx rfl (hb hby at_130) rfl k) ?_
    refine own_go (fun _ k => XS.iconst X219.here hx rfl (hb hby at_132) k) ?_
    show own_Run p e below _ T219 (mkF m 133 #[.val (.int p1), .val (.long q2), .second, .val (.long q3), .second, .val (.long q4), .second, .val (.long q5), .second, .val (.long q6), .second, .val (.int (3 : Int32)), .val (.int (2 : Int32)), .val (.int (1 : Int32)), .val (.ref b111), .val (.ref b211), .val (.long (own_mix ((own_mix ((own_mix ((-7046029254386353131 : Int64) ^^^ q5)) ^^^ q6)) ^^^ (q2 + q6)))), .second, .val (.int (3 : Int32)), .val (.long (own_mix ((own_mix ((-7046029254386353131 : Int64) ^^^ q5)) ^^^ q6))), .second] [(.int (3 : Int32)), (.int (3 : Int32))])
    refine own_go (fun _ k => XS.icmpNo X219.here hx rfl (hb hby at_133) rfl (flt (by decide : ¬ ((3 : Int32) < (3 : Int32)))).1 k) ?_
    show own_Run p e below _ T219 (mkF m 136 #[.val (.int p1), .val (.long q2), .second, .val (.long q3), .second, .val (.long q4), .second, .val (.long q5), .second, .val (.long q6), .second, .val (.int (3 : Int32)), .val (.int (2 : Int32)), .val (.int (1 : Int32)), .val (.ref b111), .val (.ref b211), .val (.long (own_mix ((own_mix ((own_mix ((-7046029254386353131 : Int64) ^^^ q5)) ^^^ q6)) ^^^ (q2 + q6)))), .second, .val (.int (3 : Int32)), .val (.long (own_mix ((own_mix ((-7046029254386353131 : Int64) ^^^ q5)) ^^^ q6))), .second] [])
    refine own_go (fun _ k => XS.lload X219.here hx rfl (hb hby at_136) rfl k) ?_
    refine own_go (fun _ k => XS.aload X219.here hx rfl (hb hby at_138) rfl rfl k) ?_
    refine own_go (fun _ k => XS.iload X219.here hx rfl (hb hby at_140) rfl k) ?_
    refine own_go (fun _ k => XS.iconst X219.here hx rfl (hb hby at_142) k) ?_
    show own_Run p e below _ T219 (mkF m 143 #[.val (.int p1), .val (.long q2), .second, .val (.long q3), .second, .val (.long q4), .second, .val (.long q5), .second, .val (.long q6), .second, .val (.int (3 : Int32)), .val (.int (2 : Int32)), .val (.int (1 : Int32)), .val (.ref b111), .val (.ref b211), .val (.long (own_mix ((own_mix ((own_mix ((-7046029254386353131 : Int64) ^^^ q5)) ^^^ q6)) ^^^ (q2 + q6)))), .second, .val (.int (3 : Int32)), .val (.long (own_mix ((own_mix ((-7046029254386353131 : Int64) ^^^ q5)) ^^^ q6))), .second] [(.int (2 : Int32)), (.int (3 : Int32)), (.ref b111), (.long (own_mix ((own_mix ((-7046029254386353131 : Int64) ^^^ q5)) ^^^ q6)))])
    refine own_go (fun _ k => XS.iadd X219.here hx rfl (hb hby at_143) rfl k) ?_
    show own_Run p e below _ T219 (mkF m 144 #[.val (.int p1), .val (.long q2), .second, .val (.long q3), .second, .val (.long q4), .second, .val (.long q5), .second, .val (.long q6), .second, .val (.int (3 : Int32)), .val (.int (2 : Int32)), .val (.int (1 : Int32)), .val (.ref b111), .val (.ref b211), .val (.long (own_mix ((own_mix ((own_mix ((-7046029254386353131 : Int64) ^^^ q5)) ^^^ q6)) ^^^ (q2 + q6)))), .second, .val (.int (3 : Int32)), .val (.long (own_mix ((own_mix ((-7046029254386353131 : Int64) ^^^ q5)) ^^^ q6))), .second] [(.int ((3 : Int32) + (2 : Int32))), (.ref b111), (.long (own_mix ((own_mix ((-7046029254386353131 : Int64) ^^^ q5)) ^^^ q6)))])
    rw [show ((3 : Int32) + (2 : Int32)) = (5 : Int32) by decide]
    show own_Run p e below _ T219 (mkF m 144 #[.val (.int p1), .val (.long q2), .second, .val (.long q3), .second, .val (.long q4), .second, .val (.long q5), .second, .val (.long q6), .second, .val (.int (3 : Int32)), .val (.int (2 : Int32)), .val (.int (1 : Int32)), .val (.ref b111), .val (.ref b211), .val (.long (own_mix ((own_mix ((own_mix ((-7046029254386353131 : Int64) ^^^ q5)) ^^^ q6)) ^^^ (q2 + q6)))), .second, .val (.int (3 : Int32)), .val (.long (own_mix ((own_mix ((-7046029254386353131 : Int64) ^^^ q5)) ^^^ q6))), .second] [(.int (5 : Int32)), (.ref b111), (.long (own_mix ((own_mix ((-7046029254386353131 : Int64) ^^^ q5)) ^^^ q6)))])
    obtain ⟨cl220, Ar220, q220, S220, N220, H220, G220⟩ := id V_b111_c214
    have hin220 : ¬ ((5 : Int32) < 0 ∨ cl220.slots.size ≤ ((5 : Int32)).toNatClampNeg) := inb_of S220 ⟨by decide, by decide⟩
    refine own_go (X219.laload hx (j := (5 : Int32)) (v := (.long (q2 + q6))) (by rw [e219]; exact Ar220.1) (State.isArrayOf_alike hZ.alike Ar220.2.1) Ar220.2.2 hin220 (H220.at hin220 rfl) (g := (mkF m 144 #[.val (.int p1), .val (.long q2), .second, .val (.long q3), .second, .val (.long q4), .second, .val (.long q5), .second, .val (.long q6), .second, .val (.int (3 : Int32)), .val (.int (2 : Int32)), .val (.int (1 : Int32)), .val (.ref b111), .val (.ref b211), .val (.long (own_mix ((own_mix ((own_mix ((-7046029254386353131 : Int64) ^^^ q5)) ^^^ q6)) ^^^ (q2 + q6)))), .second, .val (.int (3 : Int32)), .val (.long (own_mix ((own_mix ((-7046029254386353131 : Int64) ^^^ q5)) ^^^ q6))), .second] [(.int (5 : Int32)), (.ref b111), (.long (own_mix ((own_mix ((-7046029254386353131 : Int64) ^^^ q5)) ^^^ q6)))])) rfl rfl (hb hby at_144)) ?_
    show own_Run p e below _ T219 (mkF m 145 #[.val (.int p1), .val (.long q2), .second, .val (.long q3), .second, .val (.long q4), .second, .val (.long q5), .second, .val (.long q6), .second, .val (.int (3 : Int32)), .val (.int (2 : Int32)), .val (.int (1 : Int32)), .val (.ref b111), .val (.ref b211), .val (.long (own_mix ((own_mix ((own_mix ((-7046029254386353131 : Int64) ^^^ q5)) ^^^ q6)) ^^^ (q2 + q6)))), .second, .val (.int (3 : Int32)), .val (.long (own_mix ((own_mix ((-7046029254386353131 : Int64) ^^^ q5)) ^^^ q6))), .second] [(.long (q2 + q6)), (.long (own_mix ((own_mix ((-7046029254386353131 : Int64) ^^^ q5)) ^^^ q6)))])
    refine own_go (fun _ k => XS.lxor X219.here hx rfl (hb hby at_145) rfl k) ?_
    show own_Run p e below _ T219 (mkF m 146 #[.val (.int p1), .val (.long q2), .second, .val (.long q3), .second, .val (.long q4), .second, .val (.long q5), .second, .val (.long q6), .second, .val (.int (3 : Int32)), .val (.int (2 : Int32)), .val (.int (1 : Int32)), .val (.ref b111), .val (.ref b211), .val (.long (own_mix ((own_mix ((own_mix ((-7046029254386353131 : Int64) ^^^ q5)) ^^^ q6)) ^^^ (q2 + q6)))), .second, .val (.int (3 : Int32)), .val (.long (own_mix ((own_mix ((-7046029254386353131 : Int64) ^^^ q5)) ^^^ q6))), .second] [(.long ((own_mix ((own_mix ((-7046029254386353131 : Int64) ^^^ q5)) ^^^ q6)) ^^^ (q2 + q6)))])
    obtain ⟨_, _, ⟨T221, L221, k221, n221⟩, -, X221, ⟨Lc221, hQ221, l221, y221, z221⟩, st221⟩ := Jvm.LawKit.callS X219 hx (y := (⟨"com/example/near_duplicate_finder/nearduplicatefinder/BandingKeyPinLaw", "mixRef", "(J)J"⟩ : MethodName)) hown (mvT hZ (W 30 rfl)) (mvT hZ (W 31 rfl)) (mvT hZ (W 32 rfl)) (mvT hZ (W 33 rfl)) (by decide) (backOf (W := 0) (rm5 l Z a0 hw [] ((own_mix ((own_mix ((-7046029254386353131 : Int64) ^^^ q5)) ^^^ q6)) ^^^ (q2 + q6)) T213.heap n0 Z0_c214 ) hZ (W 33 rfl) (W 32 rfl) (by decide) (by decide)) (g := (mkF m 146 #[.val (.int p1), .val (.long q2), .second, .val (.long q3), .second, .val (.long q4), .second, .val (.long q5), .second, .val (.long q6), .second, .val (.int (3 : Int32)), .val (.int (2 : Int32)), .val (.int (1 : Int32)), .val (.ref b111), .val (.ref b211), .val (.long (own_mix ((own_mix ((own_mix ((-7046029254386353131 : Int64) ^^^ q5)) ^^^ q6)) ^^^ (q2 + q6)))), .second, .val (.int (3 : Int32)), .val (.long (own_mix ((own_mix ((-7046029254386353131 : Int64) ^^^ q5)) ^^^ q6))), .second] [(.long ((own_mix ((own_mix ((-7046029254386353131 : Int64) ^^^ q5)) ^^^ q6)) ^^^ (q2 + q6)))])) rfl (by rw [hml]; rfl) (argsL := [(.long ((own_mix ((own_mix ((-7046029254386353131 : Int64) ^^^ q5)) ^^^ q6)) ^^^ (q2 + q6)))]) (rest := []) (lenOf pd_1 rfl) rfl (by show 2 * 0 + _ ≤ _; exact Nat.le_of_eq rfl) (hb hby at_146) (fun _ _ => ⟨rfl, e219, (by decide : 2 + 0 ≤ _), (by decide : 8 + 0 ≤ _)⟩)
    dsimp only [Pt.U, Pt.locs, Pt.cells, Pt.slots] at X221 l221 y221 z221 st221 hQ221
    subst l221 y221 z221
    obtain ⟨rfl, N221q, e221⟩ := hQ221
    have N221 := Fr.app N219 N221q
    refine own_go st221 ?_
    show own_Run p e below _ T221 (mkF m 149 #[.val (.int p1), .val (.long q2), .second, .val (.long q3), .second, .val (.long q4), .second, .val (.long q5), .second, .val (.long q6), .second, .val (.int (3 : Int32)), .val (.int (2 : Int32)), .val (.int (1 : Int32)), .val (.ref b111), .val (.ref b211), .val (.long (own_mix ((own_mix ((own_mix ((-7046029254386353131 : Int64) ^^^ q5)) ^^^ q6)) ^^^ (q2 + q6)))), .second, .val (.int (3 : Int32)), .val (.long (own_mix ((own_mix ((-7046029254386353131 : Int64) ^^^ q5)) ^^^ q6))), .second] [(.long (own_mix ((own_mix ((own_mix ((-7046029254386353131 : Int64) ^^^ q5)) ^^^ q6)) ^^^ (q2 + q6))))])
    refine own_go (fun _ k => XS.lstore X221.here hx rfl (hb hby at_149) rfl (l' := #[.val (.int p1), .val (.long q2), .second, .val (.long q3), .second, .val (.long q4), .second, .val (.long q5), .second, .val (.long q6), .second, .val (.int (3 : Int32)), .val (.int (2 : Int32)), .val (.int (1 : Int32)), .val (.ref b111), .val (.ref b211), .val (.long (own_mix ((own_mix ((own_mix ((-7046029254386353131 : Int64) ^^^ q5)) ^^^ q6)) ^^^ (q2 + q6)))), .second, .val (.int (3 : Int32)), .val (.long (own_mix ((own_mix ((own_mix ((-7046029254386353131 : Int64) ^^^ q5)) ^^^ q6)) ^^^ (q2 + q6)))), .second]) rfl k) ?_
    refine own_go (fun _ k => XS.lload X221.here hx rfl (hb hby at_151) rfl k) ?_
    refine own_go (fun _ k => XS.lload X221.here hx rfl (hb hby at_153) rfl k) ?_
    refine own_go (fun _ k => XS.lcmp X221.here hx rfl (hb hby at_155) rfl k) ?_
    show own_Run p e below _ T221 (mkF m 156 #[.val (.int p1), .val (.long q2), .second, .val (.long q3), .second, .val (.long q4), .second, .val (.long q5), .second, .val (.long q6), .second, .val (.int (3 : Int32)), .val (.int (2 : Int32)), .val (.int (1 : Int32)), .val (.ref b111), .val (.ref b211), .val (.long (own_mix ((own_mix ((own_mix ((-7046029254386353131 : Int64) ^^^ q5)) ^^^ q6)) ^^^ (q2 + q6)))), .second, .val (.int (3 : Int32)), .val (.long (own_mix ((own_mix ((own_mix ((-7046029254386353131 : Int64) ^^^ q5)) ^^^ q6)) ^^^ (q2 + q6)))), .second] [(.int (lcmpW (own_mix ((own_mix ((own_mix ((-7046029254386353131 : Int64) ^^^ q5)) ^^^ q6)) ^^^ (q2 + q6))) (own_mix ((own_mix ((own_mix ((-7046029254386353131 : Int64) ^^^ q5)) ^^^ q6)) ^^^ (q2 + q6)))))])
    refine own_go (fun _ k => XS.ifNo X221.here hx rfl (hb hby at_156) rfl (own_lcTe rfl).2 k) ?_
    show own_Run p e below _ T221 (mkF m 159 #[.val (.int p1), .val (.long q2), .second, .val (.long q3), .second, .val (.long q4), .second, .val (.long q5), .second, .val (.long q6), .second, .val (.int (3 : Int32)), .val (.int (2 : Int32)), .val (.int (1 : Int32)), .val (.ref b111), .val (.ref b211), .val (.long (own_mix ((own_mix ((own_mix ((-7046029254386353131 : Int64) ^^^ q5)) ^^^ q6)) ^^^ (q2 + q6)))), .second, .val (.int (3 : Int32)), .val (.long (own_mix ((own_mix ((own_mix ((-7046029254386353131 : Int64) ^^^ q5)) ^^^ q6)) ^^^ (q2 + q6)))), .second] [])
    refine own_go (fun _ k => XS.iconst X221.here hx rfl (hb hby at_159) k) ?_
    refine own_go (fun _ k => XS.goto X221.here hx rfl (pc0 := 160) (pc' := 164) rfl (hb hby at_160) (by decide) (by decide) k) ?_
    show own_Run p e below _ T221 (mkF m 164 #[.val (.int p1), .val (.long q2), .second, .val (.long q3), .second, .val (.long q4), .second, .val (.long q5), .second, .val (.long q6), .second, .val (.int (3 : Int32)), .val (.int (2 : Int32)), .val (.int (1 : Int32)), .val (.ref b111), .val (.ref b211), .val (.long (own_mix ((own_mix ((own_mix ((-7046029254386353131 : Int64) ^^^ q5)) ^^^ q6)) ^^^ (q2 + q6)))), .second, .val (.int (3 : Int32)), .val (.long (own_mix ((own_mix ((own_mix ((-7046029254386353131 : Int64) ^^^ q5)) ^^^ q6)) ^^^ (q2 + q6)))), .second] [(.int (1 : Int32))])
    refine own_done (Q := fun v h L => Q0 Z p1 q2 q3 q4 q5 q6 h0 n0 v h L) (v := (some (.int (1 : Int32)))) X221 (fun h => by rw [hret] at h; cases h) hlk (fun fs hr => retN X221 hx (t := .boolean) hret (by simp) (hb hby at_164) hr) ?_ (by decide) (by decide)
    show Q0 Z p1 q2 q3 q4 q5 q6 h0 n0 _ T221.heap _
    rw [e221]
    exact ⟨rfl, N221⟩
set_option maxRecDepth 65536 in
set_option maxHeartbeats 40000000 in
theorem comes_1 {Post : Tables → Env → Array Value → State → Outcome → State → Prop} (hpost : ∀ tb e args s v u, (limb_1_1.after args s (.returned v) u = true ∧ limb_1_2.after args s (.returned v) u = true ∧ True) → FrameEnd s (.returned v) u (Jvm.fieldLocs frame_1_writes args s ++ Jvm.arrayLocs frame_1_arrays args s ++ Jvm.staticLocs frame_1_statics s) 16 128 → Post tb e args s (.returned v) u) :
    ArmFor flags0 classFile x code maxLocals ret World_1 tables_1 room_1 Calls_1 rest_1 Pre_1 Post := by
  intro l hfl _ _ p e ha hc hk s m args below hf hA hF happ hP
  obtain ⟨hcalls, hrest, hpre⟩ := hP
  obtain ⟨-, -, -, hnamed, -, -, -, hat⟩ := (Spec.applies_iff hf).mp happ
  obtain ⟨hg, hn⟩ := and_e (Cond.before_iff.mp (show (Jvm.Cond.and given_1 narrow_1).before args s = true from hpre))
  obtain ⟨hcount, hr0⟩ := and_e hg
  obtain ⟨ha0, hr1⟩ := and_e hr0
  obtain ⟨ha1, hr2⟩ := and_e hr1
  obtain ⟨ha2, hr3⟩ := and_e hr2
  obtain ⟨ha3, hr4⟩ := and_e hr3
  obtain ⟨ha4, hr5⟩ := and_e hr4
  have ha5 := hr5
  obtain ⟨w0, w1, w2, w3, w4, w5, rfl⟩ : ∃ w0 w1 w2 w3 w4 w5 : Value, args = #[w0, w1, w2, w3, w4, w5] := by
    have hs : args.size = 6 := by simpa [Cond.value, given_1] using hcount
    obtain ⟨L⟩ := args
    match L, hs with
    | [w0, w1, w2, w3, w4, w5], _ => exact ⟨w0, w1, w2, w3, w4, w5, rfl⟩
  have hw := fun d (hd : d ∈ tables_1) => atoms_spec (ws := Jvm.Cond.code x code maxLocals ret :: tables_1) hat d (List.mem_cons_of_mem _ hd)
  have W := fun (k : Nat) {d : Jvm.Cond} (h : tables_1[k]? = some d) => hw d (List.mem_of_getElem? h)
  have hfit : Fit s := fun {y c} hc i hi => by
    obtain ⟨ha, rfl⟩ := Array.getElem?_eq_some_iff.mp hc
    have q := List.all_eq_true.mp ((Array.all_eq_true_iff_forall_mem.mp hF) _ (Array.getElem_mem ha)) i (List.mem_range.mpr hi)
    simpa [Array.getElem?_eq_getElem hi] using q
  obtain ⟨i0, ei0⟩ := is_v ha0
  obtain rfl : w0 = (.int i0) := Option.some.inj ei0
  obtain ⟨i1, ei1⟩ := isL_v ha1
  obtain rfl : w1 = (.long i1) := Option.some.inj ei1
  obtain ⟨i2, ei2⟩ := isL_v ha2
  obtain rfl : w2 = (.long i2) := Option.some.inj ei2
  obtain ⟨i3, ei3⟩ := isL_v ha3
  obtain rfl : w3 = (.long i3) := Option.some.inj ei3
  obtain ⟨i4, ei4⟩ := isL_v ha4
  obtain rfl : w4 = (.long i4) := Option.some.inj ei4
  obtain ⟨i5, ei5⟩ := isL_v ha5
  obtain rfl : w5 = (.long i5) := Option.some.inj ei5
  obtain ⟨n, o, h1, h2, h3, _, L, rfl, ⟨rfl, N⟩, hq⟩ := rm0 l s _ hw tables_1 i0 i1 i2 i3 i4 i5 s.heap s.heap.size (Nat.le_refl _) p e ha hc hk s m _ below hf ((Spec.applies_iff_loose hf).mp happ).1 ⟨rfl, State.Warmed39.refl s, rfl⟩ trivial
  refine ⟨n, _, h1, h2, h3, hpost _ _ _ _ _ _ ⟨Cond.after_iff.mpr rfl, Cond.after_iff.mpr (eq_i res_at (Term.int_eval (1)) rfl), trivial⟩ ⟨hq.1, hq.2.1, (hq.2.2.sift fun y hy => Or.inr (N y hy)).mono (by decide) (by decide)⟩⟩
theorem main_1_1 : Claimed_1_1 := comes_1 fun _ _ _ _ _ _ h hF => ⟨h.1, hF⟩
theorem main_1_2 : Claimed_1_2 := comes_1 fun _ _ _ _ _ _ h hF => ⟨h.2.1, hF⟩
end Jvm.Pilot.@@N@@
namespace Jvm.Pilot.@@N@@
open Jvm Jvm.ClassFile Sem Op Lib Jvm.Free Jvm.Stand Jvm.Pilot.@@N@@.Jvm.D
/-! MADE BY PROGRAM (witnessworld.py) out of the Statement's table words and the real class files: 12 classes; the members and pool entries that the words name. The judged class is class 1, her method 2. -/
namespace start1
open Jvm.ClassFile
def u (s : String) : CpInfo := .utf8 (stringToUtf16 s)
/-- a pool by its gaps: so many unusable entries, then the entry; so many at the end -/
def gap : Nat → List CpInfo → List CpInfo
  | 0, r => r
  | n + 1, r => .unusable :: gap n r
def poolList (es : List (Nat × CpInfo)) (last : Nat) : List CpInfo := es.foldr (fun e r => gap e.1 (e.2 :: r)) (gap last [])
def pool (es : List (Nat × CpInfo)) (last : Nat) : Array CpInfo := ⟨poolList es last⟩
def fileOf (pool : Array CpInfo) (this : Nat) (attrs : Array Attribute := #[]) (ms : Array MethodInfo := #[]) (fl : Nat := 33) (sup : Nat := 0) (ifs : Array Nat := #[]) (fds : Array FieldInfo := #[]) : ClassFile where
  minorVersion := 0
  majorVersion := 65
  constantPool := pool
  accessFlags := fl
  thisClass := this
  superClass := sup
  interfaces := ifs
  fields := fds
  methods := ms
  attributes := attrs
def plain (name : String) (sup : Option ClassId) : Class where
  name := name
  kind := .ordinary
  loader := none
  accessFlags := 33
  super := sup
  interfaces := #[]
  cf := none
  fields := #[]
  methods := #[]
  instanceTypes := #[]
  staticTypes := #[]
  resolved := #[]
  callSites := []
  init := .initialized
  statics := none
  mirror := none

def pool0 : Array CpInfo := pool [(5, u "<init>"), (0, u "()V"), (1, .class_ 10), (1, u "java/lang/Object")] 113

def k0c0 : Code := { maxStack := 0, maxLocals := 1, code := object_method_1_code, exceptionTable := #[], attributes := #[] }
def k0m0 : Method := { name := "<init>", desc := "()V", sig := { parameters := [], returnType := none }, accessFlags := 1, code := some k0c0 }
/-- java/lang/Object -/
def k0 : Class := { plain "java/lang/Object" none with
  accessFlags := 33
  interfaces := #[]
  cf := some (fileOf pool0 8 #[] #[{ accessFlags := 1, nameIndex := 5, descriptorIndex := 6, attributes := #[] }] 33 0 #[] #[])
  fields := #[]
  methods := #[k0m0]
  instanceTypes := #[]
  staticTypes := #[]
  resolved := Array.replicate 124 none
  statics := none }

def pool1 : Array CpInfo := pool [(2, .class_ 4), (1, u "java/lang/Object"), (0, u "<init>"), (0, u "()V"), (0, .long 13787848793156543929), (1, .long 10723151780598845931), (1, .integer 2147483647), (0, .integer 65535), (0, .class_ 14), (0, u "com/example/near_duplicate_finder/nearduplicatefinder/Banding"), (0, .methodref 13 16), (0, .nameAndType 5 17), (0, u "(II)V"), (0, .methodref 13 19), (0, .nameAndType 20 21), (0, u "key"), (0, u "([JI)J"), (0, .long 11400714819323198485), (1, .methodref 25 26), (0, .class_ 27), (0, .nameAndType 28 29), (0, u "com/example/near_duplicate_finder/nearduplicatefinder/BandingKeyPinLaw"), (0, u "mixRef"), (0, u "(J)J"), (2, u "law"), (0, u "(IJJJJJ)Z")] 5

def k1m0 : Method := { name := "<init>", desc := "()V", sig := { parameters := [], returnType := none }, accessFlags := 1, code := none }
def k1c1 : Code := { maxStack := 5, maxLocals := 2, code := method_2_code, exceptionTable := #[], attributes := #[] }
def k1m1 : Method := { name := "mixRef", desc := "(J)J", sig := { parameters := [.long], returnType := some .long }, accessFlags := 10, code := some k1c1 }
def k1c2 : Code := { maxStack := 7, maxLocals := 21, code := code, exceptionTable := #[], attributes := #[] }
def k1m2 : Method := { name := "law", desc := "(IJJJJJ)Z", sig := { parameters := [.int, .long, .long, .long, .long, .long], returnType := some .boolean }, accessFlags := 9, code := some k1c2 }
/-- com/example/near_duplicate_finder/nearduplicatefinder/BandingKeyPinLaw -/
def k1 : Class := { plain "com/example/near_duplicate_finder/nearduplicatefinder/BandingKeyPinLaw" (some 0) with
  accessFlags := 49
  interfaces := #[]
  cf := some (fileOf pool1 25 #[] #[{ accessFlags := 1, nameIndex := 5, descriptorIndex := 6, attributes := #[] }, { accessFlags := 10, nameIndex := 28, descriptorIndex := 29, attributes := #[] }, { accessFlags := 9, nameIndex := 32, descriptorIndex := 33, attributes := #[] }] 49 2 #[] #[])
  fields := #[]
  methods := #[k1m0, k1m1, k1m2]
  instanceTypes := #[]
  staticTypes := #[]
  resolved := Array.replicate 39 none
  statics := none }

def pool2 : Array CpInfo := pool [(1, .methodref 2 3), (0, .class_ 4), (0, .nameAndType 5 6), (0, u "java/lang/Object"), (0, u "<init>"), (0, u "()V"), (11, .long 2147483647), (2, .fieldref 22 23), (0, .class_ 24), (0, .nameAndType 25 26), (0, u "com/example/near_duplicate_finder/nearduplicatefinder/Banding"), (0, u "bands"), (0, u "I"), (0, .fieldref 22 28), (0, .nameAndType 29 26), (0, u "rows"), (16, u "(II)V"), (74, .class_ 122), (0, u "com/example/near_duplicate_finder/nearduplicatefinder/Banding$BandKey"), (98, .long 11400714819323198485), (1, .methodref 224 225), (0, .class_ 226), (0, .nameAndType 227 228), (0, u "com/example/near_duplicate_finder/nearduplicatefinder/ShingleHash"), (0, u "mix"), (0, u "(J)J"), (2, u "key"), (0, u "([JI)J"), (10, u "CATCH_AT_THRESHOLD"), (0, u "D")] 60

def k2c0 : Code := { maxStack := 4, maxLocals := 3, code := prog_2_method_1_code, exceptionTable := #[], attributes := #[] }
def k2m0 : Method := { name := "<init>", desc := "(II)V", sig := { parameters := [.int, .int], returnType := none }, accessFlags := 1, code := some k2c0 }
def k2c1 : Code := { maxStack := 4, maxLocals := 6, code := prog_2_method_13_code, exceptionTable := #[], attributes := #[] }
def k2m1 : Method := { name := "key", desc := "([JI)J", sig := { parameters := [(.array .long), .int], returnType := some .long }, accessFlags := 0, code := some k2c1 }
/-- com/example/near_duplicate_finder/nearduplicatefinder/Banding -/
def k2 : Class := { plain "com/example/near_duplicate_finder/nearduplicatefinder/Banding" (some 0) with
  accessFlags := 33
  interfaces := #[]
  cf := some (fileOf pool2 22 #[.nestMembers #[121]] #[{ accessFlags := 1, nameIndex := 5, descriptorIndex := 46, attributes := #[] }, { accessFlags := 0, nameIndex := 231, descriptorIndex := 232, attributes := #[] }] 33 2 #[] #[{ accessFlags := 25, nameIndex := 243, descriptorIndex := 244, attributes := #[] }, { accessFlags := 18, nameIndex := 25, descriptorIndex := 26, attributes := #[] }, { accessFlags := 18, nameIndex := 29, descriptorIndex := 26, attributes := #[] }])
  fields := #[{ name := "CATCH_AT_THRESHOLD", type := .double, accessFlags := 25, slot := 0, constantValue := 0 }, { name := "bands", type := .int, accessFlags := 18, slot := 0, constantValue := 0 }, { name := "rows", type := .int, accessFlags := 18, slot := 1, constantValue := 0 }]
  methods := #[k2m0, k2m1]
  instanceTypes := #[.int, .int]
  staticTypes := #[.double]
  resolved := Array.replicate 305 none
  statics := none }

def pool3 : Array CpInfo := pool [(2, .class_ 4), (1, u "com/example/near_duplicate_finder/nearduplicatefinder/ShingleHash"), (3, .class_ 10), (1, u "java/lang/Object"), (5, u "mix"), (0, u "(J)J"), (2, u "key"), (0, u "J"), (23, .long 13787848793156543929), (1, .long 10723151780598845931), (1, u "FNV_OFFSET_BASIS"), (1, u "FNV_PRIME"), (0, u "GOLDEN_GAMMA")] 11

def k3c0 : Code := { maxStack := 5, maxLocals := 2, code := prog_34_method_7_code, exceptionTable := #[], attributes := #[] }
def k3m0 : Method := { name := "mix", desc := "(J)J", sig := { parameters := [.long], returnType := some .long }, accessFlags := 8, code := some k3c0 }
/-- com/example/near_duplicate_finder/nearduplicatefinder/ShingleHash -/
def k3 : Class := { plain "com/example/near_duplicate_finder/nearduplicatefinder/ShingleHash" (some 0) with
  accessFlags := 33
  interfaces := #[]
  cf := some (fileOf pool3 2 #[] #[{ accessFlags := 8, nameIndex := 16, descriptorIndex := 17, attributes := #[] }] 33 8 #[] #[{ accessFlags := 26, nameIndex := 49, descriptorIndex := 21, attributes := #[] }, { accessFlags := 26, nameIndex := 51, descriptorIndex := 21, attributes := #[] }, { accessFlags := 26, nameIndex := 52, descriptorIndex := 21, attributes := #[] }, { accessFlags := 18, nameIndex := 20, descriptorIndex := 21, attributes := #[] }])
  fields := #[{ name := "FNV_OFFSET_BASIS", type := .long, accessFlags := 26, slot := 0, constantValue := 0 }, { name := "FNV_PRIME", type := .long, accessFlags := 26, slot := 1, constantValue := 0 }, { name := "GOLDEN_GAMMA", type := .long, accessFlags := 26, slot := 2, constantValue := 0 }, { name := "key", type := .long, accessFlags := 18, slot := 0, constantValue := 0 }]
  methods := #[k3m0]
  instanceTypes := #[.long]
  staticTypes := #[.long, .long, .long]
  resolved := Array.replicate 64 none
  statics := none }

def pool4 : Array CpInfo := pool [(1, u "java/lang/Cloneable"), (0, .class_ 1), (0, u "java/lang/Object"), (0, .class_ 3)] 3

/-- java/lang/Cloneable -/
def k4 : Class := { plain "java/lang/Cloneable" (some 0) with
  accessFlags := 1537
  interfaces := #[]
  cf := some (fileOf pool4 2 #[] #[] 1537 4 #[] #[])
  fields := #[]
  methods := #[]
  instanceTypes := #[]
  staticTypes := #[]
  resolved := Array.replicate 8 none
  statics := none }

def pool5 : Array CpInfo := pool [(1, u "java/io/Serializable"), (0, .class_ 1), (0, u "java/lang/Object"), (0, .class_ 3)] 3

/-- java/io/Serializable -/
def k5 : Class := { plain "java/io/Serializable" (some 0) with
  accessFlags := 1537
  interfaces := #[]
  cf := some (fileOf pool5 2 #[] #[] 1537 4 #[] #[])
  fields := #[]
  methods := #[]
  instanceTypes := #[]
  staticTypes := #[]
  resolved := Array.replicate 8 none
  statics := none }

/-- the primitive byte -/
def k6 : Class := { plain "byte" none with kind := .primitive 'B', accessFlags := 0x411 }
/-- [B -/
def k7 : Class := { plain "[B" (some 0) with kind := .array 6 .byte, interfaces := #[4, 5], accessFlags := 1041 }

/-- the primitive int -/
def k8 : Class := { plain "int" none with kind := .primitive 'I', accessFlags := 0x411 }
/-- [I -/
def k9 : Class := { plain "[I" (some 0) with kind := .array 8 .int, interfaces := #[4, 5], accessFlags := 1041 }

/-- the primitive long -/
def k10 : Class := { plain "long" none with kind := .primitive 'J', accessFlags := 0x411 }
/-- [J -/
def k11 : Class := { plain "[J" (some 0) with kind := .array 10 .long, interfaces := #[4, 5], accessFlags := 1041 }

def heap : Heap := #[]
def classes : Array Class := #[k0, k1, k2, k3, k4, k5, k6, k7, k8, k9, k10, k11]
def interned : List (Array UInt16 × Addr) := []
def slotsUsed : Nat := 0
def theMethod : MethodId := ⟨1, 2⟩
def args0 : Array Value := #[.int 5, .long 6, .long 7, .long 8, .long 9, .long 3]
def aboutOver (below : List Frame) : State where
  vm := { classes := classes, interned := interned.toArray }
  heap := heap
  slotsUsed := slotsUsed
  threads := #[{ frames := .invoking theMethod args0 :: below }]
def below0 : List Frame := [.native { method := ⟨0, 0⟩, args := #[] }]
def about1 : State := aboutOver below0
def p0 : Program := .bare "" "" ""
def e0 : Env := launch0.env 0 0 0
theorem w_frames : about1.frames = Frame.invoking theMethod args0 :: below0 := rfl
set_option maxRecDepth 65536 in
theorem w_args : argsFit about1.vm theMethod args0 = true := by decide +kernel
set_option maxRecDepth 65536 in
theorem w_heap : heapFits about1 = true := by decide +kernel
set_option maxRecDepth 65536 in
theorem w_runnable : about1.curStatus? = some .runnable := by decide +kernel
set_option maxRecDepth 65536 in
theorem w_alone : about1.alone = true := by decide +kernel
set_option maxRecDepth 65536 in
theorem w_named : about1.methodNamed? x = some theMethod := by decide +kernel
set_option maxRecDepth 65536 in
theorem w_hears : about1.hears theMethod below0 = true := by decide +kernel
set_option maxRecDepth 65536 in
theorem w_ripe : about1.ripe theMethod args0 below0 = true := by decide +kernel
theorem w_running : about1.status = .running := rfl
set_option maxRecDepth 65536 in
theorem w_room : about1.hasRoom e0.platform room_1 = true :=
  launch0.hasRoom_least _ room_1 (by decide +kernel) (by decide +kernel) (by decide +kernel) (by decide +kernel) (by decide +kernel) (by decide +kernel)
theorem allAtoms_all (ts : List Jvm.Cond) (a : Array Jvm.Value) (st : Jvm.State) : (allAtoms ts).before a st = ts.all (fun c => c.before a st) := by
  induction ts with
  | nil => rfl
  | cons c t ih =>
    show (Jvm.Cond.and c (allAtoms t)).before a st = _
    rw [Jvm.Cond.before_and, ih, List.all_cons]
def words1 : List Jvm.Cond := Jvm.Cond.code x code maxLocals ret :: tables_1
/-- a 'code' word, met by the world's own term for the bytes: nothing is compared byte by byte -/
theorem code_word {y : MethodName} {bytes : ByteArray} {mx : Nat} {rt : Option FieldType} {a : Array Value} {s : State} {m : MethodId} {meth : Method} {c : Code} (h1 : s.methodNamed? y = some m) (h2 : s.vm.method? m = some meth) (h3 : meth.code = some c) (h4 : c.code = bytes)
    (h5 : (c.maxLocals == mx && c.exceptionTable.isEmpty && decide (c.maxStack ≤ mostOperands) && decide (meth.sig.returnType = rt) && !meth.locks && decide (parseMethodDescriptor y.desc = some meth.sig)) = true) : (Jvm.Cond.code y bytes mx rt).before a s = true := by
  simp only [Bool.and_eq_true, beq_iff_eq, Bool.not_eq_true', decide_eq_true_eq] at h5
  obtain ⟨⟨⟨⟨⟨g1, g2⟩, g3⟩, g4⟩, g5⟩, g6⟩ := h5
  simp [Cond.before, Cond.holds, Cond.value, h1, h2, h3, h4, g1, g2, g3, g4, g5, g6]
def isCode : Jvm.Cond → Bool
  | .code _ _ _ _ => true
  | _ => false
theorem all_split {L : List Jvm.Cond} {P : Jvm.Cond → Bool} (h1 : L.all (fun c => isCode c || P c) = true) (h2 : ∀ c ∈ L.filter isCode, P c = true) : L.all P = true := by
  refine List.all_eq_true.mpr fun c hc => ?_
  have h := List.all_eq_true.mp h1 c hc
  rcases Bool.eq_false_or_eq_true (isCode c) with hi | hi
  · exact h2 c (List.mem_filter.mpr ⟨hc, hi⟩)
  · simpa [hi] using h
set_option maxRecDepth 65536 in
theorem w_c0 : (Jvm.Cond.code x code maxLocals ret).before args0 about1 = true := code_word (m := ⟨1, 2⟩) (meth := k1m2) (c := k1c2) (by decide +kernel) rfl rfl rfl (by decide +kernel)
set_option maxRecDepth 65536 in
theorem w_c1 : (Jvm.Cond.code ({ cls := "com/example/near_duplicate_finder/nearduplicatefinder/Banding", name := "<init>", desc := "(II)V" } : Jvm.MethodName) prog_2_method_1_code (3 : Nat) (Option.none : Option Jvm.ClassFile.FieldType)).before args0 about1 = true := code_word (m := ⟨2, 0⟩) (meth := k2m0) (c := k2c0) (by decide +kernel) rfl rfl rfl (by decide +kernel)
set_option maxRecDepth 65536 in
theorem w_c2 : (Jvm.Cond.code ({ cls := "java/lang/Object", name := "<init>", desc := "()V" } : Jvm.MethodName) object_method_1_code (1 : Nat) (Option.none : Option Jvm.ClassFile.FieldType)).before args0 about1 = true := code_word (m := ⟨0, 0⟩) (meth := k0m0) (c := k0c0) (by decide +kernel) rfl rfl rfl (by decide +kernel)
set_option maxRecDepth 65536 in
theorem w_c3 : (Jvm.Cond.code ({ cls := "com/example/near_duplicate_finder/nearduplicatefinder/Banding", name := "key", desc := "([JI)J" } : Jvm.MethodName) prog_2_method_13_code (6 : Nat) (Option.some Jvm.ClassFile.FieldType.long)).before args0 about1 = true := code_word (m := ⟨2, 1⟩) (meth := k2m1) (c := k2c1) (by decide +kernel) rfl rfl rfl (by decide +kernel)
set_option maxRecDepth 65536 in
theorem w_c4 : (Jvm.Cond.code ({ cls := "com/example/near_duplicate_finder/nearduplicatefinder/ShingleHash", name := "mix", desc := "(J)J" } : Jvm.MethodName) prog_34_method_7_code (2 : Nat) (Option.some Jvm.ClassFile.FieldType.long)).before args0 about1 = true := code_word (m := ⟨3, 0⟩) (meth := k3m0) (c := k3c0) (by decide +kernel) rfl rfl rfl (by decide +kernel)
set_option maxRecDepth 65536 in
theorem w_c5 : (Jvm.Cond.code ({ cls := "com/example/near_duplicate_finder/nearduplicatefinder/BandingKeyPinLaw", name := "mixRef", desc := "(J)J" } : Jvm.MethodName) method_2_code (2 : Nat) (Option.some Jvm.ClassFile.FieldType.long)).before args0 about1 = true := code_word (m := ⟨1, 1⟩) (meth := k1m1) (c := k1c1) (by decide +kernel) rfl rfl rfl (by decide +kernel)
def codes1 : List Jvm.Cond := [Jvm.Cond.code x code maxLocals ret, Jvm.Cond.code ({ cls := "com/example/near_duplicate_finder/nearduplicatefinder/Banding", name := "<init>", desc := "(II)V" } : Jvm.MethodName) prog_2_method_1_code (3 : Nat) (Option.none : Option Jvm.ClassFile.FieldType), Jvm.Cond.code ({ cls := "java/lang/Object", name := "<init>", desc := "()V" } : Jvm.MethodName) object_method_1_code (1 : Nat) (Option.none : Option Jvm.ClassFile.FieldType), Jvm.Cond.code ({ cls := "com/example/near_duplicate_finder/nearduplicatefinder/Banding", name := "key", desc := "([JI)J" } : Jvm.MethodName) prog_2_method_13_code (6 : Nat) (Option.some Jvm.ClassFile.FieldType.long), Jvm.Cond.code ({ cls := "com/example/near_duplicate_finder/nearduplicatefinder/ShingleHash", name := "mix", desc := "(J)J" } : Jvm.MethodName) prog_34_method_7_code (2 : Nat) (Option.some Jvm.ClassFile.FieldType.long), Jvm.Cond.code ({ cls := "com/example/near_duplicate_finder/nearduplicatefinder/BandingKeyPinLaw", name := "mixRef", desc := "(J)J" } : Jvm.MethodName) method_2_code (2 : Nat) (Option.some Jvm.ClassFile.FieldType.long)]
set_option maxRecDepth 65536 in
theorem codes_eq : words1.filter isCode = codes1 := rfl
theorem w_codes : ∀ c ∈ words1.filter isCode, c.before args0 about1 = true := by
  rw [codes_eq]
  intro c hc
  simp only [codes1, List.mem_cons, List.not_mem_nil, or_false] at hc
  rcases hc with rfl | rfl | rfl | rfl | rfl | rfl
  · exact w_c0
  · exact w_c1
  · exact w_c2
  · exact w_c3
  · exact w_c4
  · exact w_c5
set_option maxRecDepth 65536 in
theorem w_t1 : (words1.take 24).all (fun c => isCode c || c.before args0 about1) = true := by decide +kernel
set_option maxRecDepth 65536 in
theorem w_t2 : (words1.drop 24).all (fun c => isCode c || c.before args0 about1) = true := by decide +kernel
theorem w_tables : (allAtoms (Jvm.Cond.code x code maxLocals ret :: tables_1)).before args0 about1 = true := by
  rw [allAtoms_all]
  show words1.all (fun c => c.before args0 about1) = true
  refine all_split ?_ w_codes
  rw [← List.take_append_drop 24 words1, List.all_append, w_t1, w_t2]
  rfl
set_option maxRecDepth 65536 in
theorem w_case : (Jvm.Cond.and given_1 narrow_1).before args0 about1 = true := by decide +kernel
theorem w_applies : (headSpec (Jvm.Cond.code x code maxLocals ret :: tables_1) room_1).applies x e0.platform about1 = true :=
  (Spec.applies_iff w_frames).mpr ⟨w_running, w_runnable, w_alone, w_named, w_hears, w_ripe, w_room, w_tables⟩
theorem atStart : AtStart classFile x code maxLocals ret World_1 tables_1 room_1 Calls_1 rest_1 Pre_1 launch0 p0 e0 about1 theMethod args0 below0 :=
  ⟨lists_1, trivial, launch0.admits_env _ _ _, launch0.least_env, fairChoices_fair.cas, fairChoices_fair.clock, w_frames, w_args, w_heap, w_applies, trivial, trivial, w_case⟩
end start1
theorem witness_1 : WitnessClaimed_1 := ⟨start1.p0, start1.e0, start1.about1, start1.theMethod, start1.args0, start1.below0, start1.atStart⟩
end Jvm.Pilot.@@N@@
