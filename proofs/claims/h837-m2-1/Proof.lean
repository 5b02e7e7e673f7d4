import JvmDerived
import JvmDerived.Pilot.@@N@@Statement
import JvmDerived.Pilot.@@N@@Code
set_option linter.unusedVariables false
set_option linter.unusedSimpArgs false
namespace Jvm.Pilot.@@N@@
open Jvm Jvm.ClassFile Sem Op Lib Jvm.Free Jvm.Stand Jvm.LawKit Jvm.RoadKit Bundle Jvm.Pilot.@@N@@.Jvm.D
/-! own_Go: a walk still to be made from the state A; every step of the machine is one own_by. -/
def own_Go (tb : Tables) (e : Env) (below : List Frame) (A : State) (R : Outcome → State → Prop) : Prop := ∃ s₂ o, Steps tb e below A s₂ ∧ s₂.status = .running ∧ Ended s₂ below o ∧ R o s₂
theorem own_by {tb : Tables} {e : Env} {below : List Frame} {A B : State} {R : Outcome → State → Prop} (h : ∀ t, Steps tb e below A t → Steps tb e below B t) (g : own_Go tb e below A R) : own_Go tb e below B R := by
  obtain ⟨s₂, o, h1, h2⟩ := g
  exact ⟨s₂, o, h _ h1, h2⟩
def own_R (s : State) (Q : Option Value → Heap → List Loc → Prop) (cc nn : Nat) (o : Outcome) (U : State) : Prop := ∃ v L, o = .returned v ∧ Q v U.heap L ∧ FrameEnd s o U L cc nn
abbrev own_lrem (x y : Int64) : Int64 := x - (x / y) * y
section OwnEnds
variable {p : Program} {l : Launch} {e : Env} {R : Room} {s : State} {m : MethodId} {args : Array Value} {below : List Frame} {meth : Method} {c : Code} {T : State} {locs : List Loc} {cells slots : Nat} {Q : Option Value → Heap → List Loc → Prop} {cc nn : Nat}
theorem own_fin (X : Stand p l e R s m args below meth c T locs cells slots) {v : Option Value} (hv : meth.sig.returnType = none → v = none) (hlk : meth.locks = false) {B : State}
    (hs : ∀ fs, (∀ (f : JFrame) (acts : List Action), f.method = m → f.locked = none → f.entered = [] → (doReturn e (T.setTop f) acts v).1 = T.setFrames fs) → Steps p.tables e below B (T.setFrames fs))
    (hq : Q v T.heap locs) (hc : cells ≤ cc) (hn : slots ≤ nn) : own_Go p.tables e below B (own_R s Q cc nn) := by
  obtain ⟨fs, hr, hrun, hended, hW, hsame⟩ := X.leave hv hlk
  exact ⟨_, _, hs fs hr, hrun, hended, v, locs, rfl, hq, ⟨_, rfl⟩, hW, hsame.mono hc hn⟩
theorem own_retN (X : Stand p l e R s m args below meth c T locs cells slots) (hx : p.tables.exec = Jvm.exec) {pc : Nat} {Ls : Array Slot} {z : Int32} {t : FieldType} {rest : List Value} (hret : meth.sig.returnType = some t) (hlk : meth.locks = false) (ht : t = .boolean ∨ t = .byte ∨ t = .char ∨ t = .short)
    (hd : decode c.code pc = .ok (.ireturn, 1)) (hq : Q (some (.int (nar t z))) T.heap locs) (hc : cells ≤ cc) (hn : slots ≤ nn) : own_Go p.tables e below (T.setTop (mkF m pc Ls (.int z :: rest))) (own_R s Q cc nn) :=
  own_fin X (fun h => by rw [hret] at h; cases h) hlk (fun fs hr => retN X hx hret ht hd hr) hq hc hn
theorem own_retI (X : Stand p l e R s m args below meth c T locs cells slots) (hx : p.tables.exec = Jvm.exec) {pc : Nat} {Ls : Array Slot} {z : Int32} (hret : meth.sig.returnType = some .int) (hlk : meth.locks = false)
    (hd : decode c.code pc = .ok (.ireturn, 1)) (hq : Q (some (.int z)) T.heap locs) (hc : cells ≤ cc) (hn : slots ≤ nn) : own_Go p.tables e below (T.setTop (mkF m pc Ls [.int z])) (own_R s Q cc nn) :=
  own_fin X (fun h => by rw [hret] at h; cases h) hlk (fun fs hr => X.ireturnOut hx hret rfl (Or.inl rfl) hd hr) hq hc hn
theorem own_retL (X : Stand p l e R s m args below meth c T locs cells slots) (hx : p.tables.exec = Jvm.exec) {pc : Nat} {Ls : Array Slot} {z : Int64} (hret : meth.sig.returnType = some .long) (hlk : meth.locks = false)
    (hd : decode c.code pc = .ok (.lreturn, 1)) (hq : Q (some (.long z)) T.heap locs) (hc : cells ≤ cc) (hn : slots ≤ nn) : own_Go p.tables e below (T.setTop (mkF m pc Ls [.long z])) (own_R s Q cc nn) :=
  own_fin X (fun h => by rw [hret] at h; cases h) hlk (fun fs hr => X.lreturnOut hx hret hd hr) hq hc hn
theorem own_retA (X : Stand p l e R s m args below meth c T locs cells slots) (hx : p.tables.exec = Jvm.exec) {pc : Nat} {Ls : Array Slot} {w : Value} {t : FieldType} (hret : meth.sig.returnType = some t) (hlk : meth.locks = false) (hw : w.isRef = true) (ht : t.isReference = true)
    (hd : decode c.code pc = .ok (.areturn, 1)) (hq : Q (some w) T.heap locs) (hc : cells ≤ cc) (hn : slots ≤ nn) : own_Go p.tables e below (T.setTop (mkF m pc Ls [w])) (own_R s Q cc nn) :=
  own_fin X (fun h => by rw [hret] at h; cases h) hlk (fun fs hr => X.areturnOut hx hw hret ht hd hr) hq hc hn
theorem own_retV (X : Stand p l e R s m args below meth c T locs cells slots) (hx : p.tables.exec = Jvm.exec) {pc : Nat} {Ls : Array Slot} (hret : meth.sig.returnType = none) (hlk : meth.locks = false)
    (hd : decode c.code pc = .ok (.return_, 1)) (hq : Q none T.heap locs) (hc : cells ≤ cc) (hn : slots ≤ nn) : own_Go p.tables e below (T.setTop (mkF m pc Ls [])) (own_R s Q cc nn) :=
  own_fin X (fun _ => rfl) hlk (fun fs hr => X.returnOut hx hret hd hr) hq hc hn
end OwnEnds
theorem own_nin {a b : Addr} (h : a ≠ b) : a ∉ [b] := fun q => h (List.mem_singleton.mp q)
theorem own_nin2 {a b c : Addr} (h : a ≠ b) (h' : a ≠ c) : a ∉ [b, c] := fun q => by
  rcases List.mem_cons.mp q with q | q
  · exact h q
  · exact h' (List.mem_singleton.mp q)
section OwnArrays
variable {p : Program} {l : Launch} {e : Env} {R : Room} {s : State} {m : MethodId} {args : Array Value} {below : List Frame} {meth : Method} {c : Code} {T : State} {locs : List Loc} {cells slots : Nat} {Z : State} {h : Heap} {a : Addr} {k : ClassId} {z j : Int32} {vs : List Value} {dv v : Value} {g : JFrame} {rest : List Value}
theorem own_iaload (X : Stand p l e R s m args below meth c T locs cells slots) (hx : p.tables.exec = Jvm.exec) (hZ : Z.Warmed39 s.vm) (eT : T.heap = h) (F : Arv Z h a k .int z vs dv) (hj : ¬ j < 0 ∧ j < z) (hv : vs.getD j.toNatClampNeg dv = v)
    (hg : g.method = m) (hs : g.stack = .int j :: .ref a :: rest) (hd : decode c.code g.pc = .ok (.iaload, 1)) (t : State) (kt : Steps p.tables e below (T.setTop { g with pc := g.pc + 1, stack := v :: rest }) t) : Steps p.tables e below (T.setTop g) t := by
  obtain ⟨cl, A, -, S, -, H, -⟩ := F
  exact X.iaload hx (by rw [eT]; exact A.1) (State.isArrayOf_alike hZ.alike A.2.1) A.2.2 (inb_of S hj) (H.at (inb_of S hj) hv) hg hs hd t kt
theorem own_caload (X : Stand p l e R s m args below meth c T locs cells slots) (hx : p.tables.exec = Jvm.exec) (hZ : Z.Warmed39 s.vm) (eT : T.heap = h) (F : Arv Z h a k .char z vs dv) (hj : ¬ j < 0 ∧ j < z) (hv : vs.getD j.toNatClampNeg dv = v)
    (hg : g.method = m) (hs : g.stack = .int j :: .ref a :: rest) (hd : decode c.code g.pc = .ok (.caload, 1)) (t : State) (kt : Steps p.tables e below (T.setTop { g with pc := g.pc + 1, stack := v :: rest }) t) : Steps p.tables e below (T.setTop g) t := by
  obtain ⟨cl, A, -, S, -, H, -⟩ := F
  exact X.caload hx (by rw [eT]; exact A.1) (State.isArrayOf_alike hZ.alike A.2.1) A.2.2 (inb_of S hj) (H.at (inb_of S hj) hv) hg hs hd t kt
theorem own_baload (X : Stand p l e R s m args below meth c T locs cells slots) (hx : p.tables.exec = Jvm.exec) (hZ : Z.Warmed39 s.vm) (eT : T.heap = h) (F : Arv Z h a k .byte z vs dv) (hj : ¬ j < 0 ∧ j < z) (hv : vs.getD j.toNatClampNeg dv = v)
    (hg : g.method = m) (hs : g.stack = .int j :: .ref a :: rest) (hd : decode c.code g.pc = .ok (.baload, 1)) (t : State) (kt : Steps p.tables e below (T.setTop { g with pc := g.pc + 1, stack := v :: rest }) t) : Steps p.tables e below (T.setTop g) t := by
  obtain ⟨cl, A, -, S, -, H, -⟩ := F
  exact X.baloadBytes hx (by rw [eT]; exact A.1) (State.isArrayOf_alike hZ.alike A.2.1) A.2.2 (inb_of S hj) (H.at (inb_of S hj) hv) hg hs hd t kt
theorem own_alen {ty : FieldType} (X : Stand p l e R s m args below meth c T locs cells slots) (hx : p.tables.exec = Jvm.exec) (hZ : Z.Warmed39 s.vm) (eT : T.heap = h) (F : Arv Z h a k ty z vs dv)
    (hg : g.method = m) (hs : g.stack = .ref a :: rest) (hd : decode c.code g.pc = .ok (.arraylength, 1)) (t : State) (kt : Steps p.tables e below (T.setTop { g with pc := g.pc + 1, stack := .int z :: rest }) t) : Steps p.tables e below (T.setTop g) t := by
  obtain ⟨cl, A, -, S, N, -, -⟩ := F
  exact X.arraylength hx (by rw [eT]; exact A.1) (State.isArrayOf_alike hZ.alike A.2.1) hg hs hd t (by rw [len_of S N]; exact kt)
end OwnArrays
section OwnBounds
variable {x k k' : Int32}
theorem own_i1 (h : x < k') (q : k'.toInt ≤ k.toInt) : x < k := by rw [Int32.lt_iff_toInt_lt] at *; omega
theorem own_i2 (h : ¬ k' < x) (q : k'.toInt < k.toInt) : x < k := by rw [Int32.lt_iff_toInt_lt] at *; omega
theorem own_i3 (h : ¬ x < k') (q : k.toInt ≤ k'.toInt) : ¬ x < k := by rw [Int32.lt_iff_toInt_lt] at *; omega
theorem own_i4 (h : k' < x) (q : k.toInt ≤ k'.toInt + 1) : ¬ x < k := by rw [Int32.lt_iff_toInt_lt] at *; omega
theorem own_j1 (h : k' < x) (q : k.toInt ≤ k'.toInt) : k < x := by rw [Int32.lt_iff_toInt_lt] at *; omega
theorem own_j2 (h : ¬ x < k') (q : k.toInt < k'.toInt) : k < x := by rw [Int32.lt_iff_toInt_lt] at *; omega
theorem own_j3 (h : ¬ k' < x) (q : k'.toInt ≤ k.toInt) : ¬ k < x := by rw [Int32.lt_iff_toInt_lt] at *; omega
theorem own_j4 (h : x < k') (q : k'.toInt ≤ k.toInt + 1) : ¬ k < x := by rw [Int32.lt_iff_toInt_lt] at *; omega
theorem own_q1 (h : x < k') (q : k'.toInt ≤ k.toInt) : ¬ x = k := fun u => by rw [Int32.lt_iff_toInt_lt] at *; subst u; omega
theorem own_q2 (h : k' < x) (q : k.toInt ≤ k'.toInt) : ¬ x = k := fun u => by rw [Int32.lt_iff_toInt_lt] at *; subst u; omega
theorem own_q3 (h : ¬ x < k') (q : k.toInt < k'.toInt) : ¬ x = k := fun u => by rw [Int32.lt_iff_toInt_lt] at *; subst u; omega
theorem own_q4 (h : ¬ k' < x) (q : k'.toInt < k.toInt) : ¬ x = k := fun u => by rw [Int32.lt_iff_toInt_lt] at *; subst u; omega
end OwnBounds
theorem own_sta_keep {Z : State} {h h' : Heap} {C n d : String} {w : Value} (F : Sta Z h C n d w) (K : Keep h h' []) : Sta Z h' C n d w := by
  obtain ⟨cf, i, k, f, st, cell, h1, h2, h3, h4, h5, r⟩ := F
  exact ⟨cf, i, k, f, st, cell, h1, h2, h3, h4, K.2.1 _ _ h5 List.not_mem_nil, r⟩
theorem own_bm32 {z : Int} (h1 : -2147483648 ≤ z) (h2 : z < 2147483648) : z.bmod (2 ^ 32) = z := by
  apply Int.bmod_eq_of_le <;> omega
theorem own_pos31 (p : Int32) : 0 ≤ (p &&& 2147483647).toInt := by
  have hn : (p &&& 2147483647).toBitVec.toNat < 2 ^ 31 := by
    show (p.toBitVec &&& (2147483647 : Int32).toBitVec).toNat < 2 ^ 31
    rw [BitVec.toNat_and]
    exact Nat.lt_of_le_of_lt Nat.and_le_right (by decide)
  show 0 ≤ (p &&& 2147483647).toBitVec.toInt
  rw [BitVec.toInt_eq_toNat_cond, if_pos (by omega)]
  omega
theorem own_rem31 (p n : Int32) (hn : 0 < n.toInt) : 0 ≤ ((p &&& 2147483647) % n).toInt ∧ ((p &&& 2147483647) % n).toInt < n.toInt := by
  rw [Int32.toInt_mod, Int.tmod_eq_emod_of_nonneg (own_pos31 p)]
  exact ⟨Int.emod_nonneg _ (by omega), Int.emod_lt_of_pos _ hn⟩
theorem own_and3 (p : Int32) : p &&& 3 = 0 ∨ p &&& 3 = 1 ∨ p &&& 3 = 2 ∨ p &&& 3 = 3 := by
  have hn : (p &&& 3).toBitVec.toNat ≤ 3 := by
    show (p.toBitVec &&& (3 : Int32).toBitVec).toNat ≤ 3
    rw [BitVec.toNat_and]
    exact Nat.and_le_right
  have e : (p &&& 3).toInt = ((p &&& 3).toBitVec.toNat : Int) := by
    show (p &&& 3).toBitVec.toInt = _
    rw [BitVec.toInt_eq_toNat_cond, if_pos (by omega)]
  simp only [← Int32.toInt_inj, e, show (0 : Int32).toInt = 0 from by decide, show (1 : Int32).toInt = 1 from by decide, show (2 : Int32).toInt = 2 from by decide, show (3 : Int32).toInt = 3 from by decide]
  omega
theorem own_mod1 (p : Int32) : (p &&& 2147483647) % 1 = 0 := by
  have h := own_rem31 p 1 (by decide)
  simp only [← Int32.toInt_inj, show (0 : Int32).toInt = 0 from by decide, show (1 : Int32).toInt = 1 from by decide] at h ⊢
  omega
theorem own_mod2 (p : Int32) : (p &&& 2147483647) % 2 = 0 ∨ (p &&& 2147483647) % 2 = 1 := by
  have h := own_rem31 p 2 (by decide)
  simp only [← Int32.toInt_inj, show (0 : Int32).toInt = 0 from by decide, show (1 : Int32).toInt = 1 from by decide, show (2 : Int32).toInt = 2 from by decide] at h ⊢
  omega
theorem own_mod3 (p : Int32) : (p &&& 2147483647) % 3 = 0 ∨ (p &&& 2147483647) % 3 = 1 ∨ (p &&& 2147483647) % 3 = 2 := by
  have h := own_rem31 p 3 (by decide)
  simp only [← Int32.toInt_inj, show (0 : Int32).toInt = 0 from by decide, show (1 : Int32).toInt = 1 from by decide, show (2 : Int32).toInt = 2 from by decide, show (3 : Int32).toInt = 3 from by decide] at h ⊢
  omega
theorem own_mod4 (p : Int32) : (p &&& 2147483647) % 4 = 0 ∨ (p &&& 2147483647) % 4 = 1 ∨ (p &&& 2147483647) % 4 = 2 ∨ (p &&& 2147483647) % 4 = 3 := by
  have h := own_rem31 p 4 (by decide)
  simp only [← Int32.toInt_inj, show (0 : Int32).toInt = 0 from by decide, show (1 : Int32).toInt = 1 from by decide, show (2 : Int32).toInt = 2 from by decide, show (3 : Int32).toInt = 3 from by decide, show (4 : Int32).toInt = 4 from by decide] at h ⊢
  omega
theorem pn_0 : plainName "java/lang/Record" = true := by first | (simp [plainName, overriddenIn]; done) | decide +kernel
theorem d_jdk_30_method_1_code_0 : decode jdk_30_method_1_code 0 = .ok (.aload_n 0, 1) := by decide +kernel
theorem d_jdk_30_method_1_code_1 : decode jdk_30_method_1_code 1 = .ok (.invokespecial 1, 3) := by decide +kernel
theorem pd_0 : parseMethodDescriptor "()V" = some ⟨[], none⟩ := by decide +kernel
theorem d_jdk_30_method_1_code_4 : decode jdk_30_method_1_code 4 = .ok (.return_, 1) := by decide +kernel
theorem ef_1 (m : MethodId) (a : Addr) : entryFrame m #[(.ref a)] 1 = mkF m 0 #[.val (.ref a)] [] := by first | (simp [entryFrame, mkF, argsToLocals, Value.category]; done) | rfl
def Q_rm_record (Z : State) (a : Addr)  (h0 : Heap) (n0 : Nat) (v : Option Value) (h : Heap) (L : List Loc) : Prop := v = none ∧ Fr n0 L ∧ h = h0
set_option maxRecDepth 65536 in
set_option maxHeartbeats 40000000 in
theorem rm_record (l : Launch) (Z : State) (a0 : Array Value) (hw : ∀ d ∈ tables_1, d.before a0 Z = true) (ws : List Jvm.Cond) (a : Addr)  (h0 : Heap) (n0 : Nat) (Z0 : n0 ≤ h0.size)  :
    MetFree l (⟨"java/lang/Record", "<init>", "()V"⟩ : MethodName) (head1 (Jvm.Cond.code (⟨"java/lang/Record", "<init>", "()V"⟩ : MethodName) jdk_30_method_1_code 1 none :: ws) ({ frames := 1, cells := 0, slots := 0, locals := 12 } : Room)) (fun av_ U => av_ = #[(.ref a)] ∧ Z.Warmed39 U.vm ∧ U.heap = h0) (fun _ _ _ _ _ => True) (fun _ U o U' => ∃ v L, o = .returned v ∧ Q_rm_record Z a h0 n0 v U'.heap L ∧ FrameEnd U o U' L ({ frames := 1, cells := 0, slots := 0, locals := 12 } : Room).cells ({ frames := 1, cells := 0, slots := 0, locals := 12 } : Room).slots) := by
  refine MetFree.of_bodySF (plainFor_of_name pn_0) hisR ?_
  intro p e s m args below meth c s₁ Bd hml0 hP hK
  obtain ⟨rfl, hZ, hh⟩ := hP
  have hx := Bd.exec
  have hby := Bd.bytes
  have hml : c.maxLocals = 1 := hml0
  have hown : s.vm.findClass "java/lang/Record" = some m.cls := findClass_of_methodNamed Bd.named
  have hnm := (name_of_methodNamed Bd.named Bd.method).1
  have hlk : meth.locks = false := BodyLoose.notSynchronized Bd
  have X0 : Stand p l e ({ frames := 1, cells := 0, slots := 0, locals := 12 } : Room) s m #[(.ref a)] below meth c s₁ [] 0 0 := Stand.of_body Bd
  have e0 : s₁.heap = h0 := by rw [← hh, Bd.state]; rfl
  have N0 := Fr.nil n0
  refine own_by (fun _ kt => castTop (ef_1 m a) kt) (R := own_R s (Q_rm_record Z a h0 n0) 0 0) ?_
  show own_Go p.tables e below (s₁.setTop (mkF m 0 #[.val (.ref a)] [])) _
  refine own_by (fun _ kt => XS.aloadN X0.here hx rfl (hb hby d_jdk_30_method_1_code_0) rfl rfl kt) ?_
  show own_Go p.tables e below (s₁.setTop (mkF m 1 #[.val (.ref a)] [(.ref a)])) _
  obtain ⟨T1, X1, e1, st1⟩ := initO X0 hx hZ hown (hw _ (List.mem_of_getElem? (i := 13) rfl)) (hw _ (List.mem_of_getElem? (i := 14) rfl)) (hw _ (List.mem_of_getElem? (i := 15) rfl)) e0 (g := (mkF m 1 #[.val (.ref a)] [(.ref a)])) rfl (by rw [hml]; rfl) rfl (hb hby d_jdk_30_method_1_code_1) (by decide) (W := 0) (by show 2 * 0 + _ ≤ _; exact Nat.le_of_eq rfl) (by decide)
  refine own_by st1 ?_
  show own_Go p.tables e below (T1.setTop (mkF m 4 #[.val (.ref a)] [])) _
  exact own_retV X1 hx Bd.returns hlk (hb hby d_jdk_30_method_1_code_4) ⟨rfl, N0, e1⟩ (by decide) (by decide)
theorem pn_1 : plainName "com/example/lambdagrove/lambdagrove/Tree$Path" = true := by first | (simp [plainName, overriddenIn]; done) | decide +kernel
theorem d_prog_41_method_1_code_0 : decode prog_41_method_1_code 0 = .ok (.aload_n 0, 1) := by decide +kernel
theorem d_prog_41_method_1_code_1 : decode prog_41_method_1_code 1 = .ok (.invokespecial 1, 3) := by decide +kernel
theorem d_prog_41_method_1_code_4 : decode prog_41_method_1_code 4 = .ok (.aload_n 0, 1) := by decide +kernel
theorem d_prog_41_method_1_code_5 : decode prog_41_method_1_code 5 = .ok (.iload_n 1, 1) := by decide +kernel
theorem d_prog_41_method_1_code_6 : decode prog_41_method_1_code 6 = .ok (.putfield 7, 3) := by decide +kernel
theorem d_prog_41_method_1_code_9 : decode prog_41_method_1_code 9 = .ok (.aload_n 0, 1) := by decide +kernel
theorem d_prog_41_method_1_code_10 : decode prog_41_method_1_code 10 = .ok (.iload_n 2, 1) := by decide +kernel
theorem d_prog_41_method_1_code_11 : decode prog_41_method_1_code 11 = .ok (.putfield 13, 3) := by decide +kernel
theorem d_prog_41_method_1_code_14 : decode prog_41_method_1_code 14 = .ok (.aload_n 0, 1) := by decide +kernel
theorem d_prog_41_method_1_code_15 : decode prog_41_method_1_code 15 = .ok (.aload_n 3, 1) := by decide +kernel
theorem d_prog_41_method_1_code_16 : decode prog_41_method_1_code 16 = .ok (.putfield 16, 3) := by decide +kernel
theorem d_prog_41_method_1_code_19 : decode prog_41_method_1_code 19 = .ok (.return_, 1) := by decide +kernel
theorem ef_2 (m : MethodId) (a : Addr) (u1 : Int32) (u2 : Int32) (f : Addr) : entryFrame m #[(.ref a), (.int u1), (.int u2), (.ref f)] 4 = mkF m 0 #[.val (.ref a), .val (.int u1), .val (.int u2), .val (.ref f)] [] := by first | (simp [entryFrame, mkF, argsToLocals, Value.category]; done) | rfl
def Q_rm_init (Z : State) (a : Addr) (u1 : Int32) (u2 : Int32) (f : Addr)  (h0 : Heap) (n0 : Nat) (v : Option Value) (h : Heap) (L : List Loc) : Prop := v = none ∧ Fr n0 L ∧ Keep h0 h [a] ∧ Exa Z h a "com/example/lambdagrove/lambdagrove/Tree$Path" ∧ Fld Z h a "com/example/lambdagrove/lambdagrove/Tree$Path" "top" "I" (.int u1) ∧ Fld Z h a "com/example/lambdagrove/lambdagrove/Tree$Path" "climb" "I" (.int u2) ∧ Fld Z h a "com/example/lambdagrove/lambdagrove/Tree$Path" "fibres" "[I" (.ref f)
set_option maxRecDepth 65536 in
set_option maxHeartbeats 40000000 in
theorem rm_init (l : Launch) (Z : State) (a0 : Array Value) (hw : ∀ d ∈ tables_1, d.before a0 Z = true) (ws : List Jvm.Cond) (a : Addr) (u1 : Int32) (u2 : Int32) (f : Addr)  (h0 : Heap) (n0 : Nat) (Z0 : n0 ≤ h0.size) (F_top_a : Fld Z h0 a "com/example/lambdagrove/lambdagrove/Tree$Path" "top" "I" (.int (0 : Int32))) (F_climb_a : Fld Z h0 a "com/example/lambdagrove/lambdagrove/Tree$Path" "climb" "I" (.int (0 : Int32))) (F_fibres_a : Fld Z h0 a "com/example/lambdagrove/lambdagrove/Tree$Path" "fibres" "[I" .null) (E_a : Exa Z h0 a "com/example/lambdagrove/lambdagrove/Tree$Path") (gn_a : n0 ≤ a) :
    MetFree l (⟨"com/example/lambdagrove/lambdagrove/Tree$Path", "<init>", "(II[I)V"⟩ : MethodName) (head1 (Jvm.Cond.code (⟨"com/example/lambdagrove/lambdagrove/Tree$Path", "<init>", "(II[I)V"⟩ : MethodName) prog_41_method_1_code 4 none :: ws) ({ frames := 2, cells := 0, slots := 0, locals := 24 } : Room)) (fun av_ U => av_ = #[(.ref a), (.int u1), (.int u2), (.ref f)] ∧ Z.Warmed39 U.vm ∧ U.heap = h0) (fun _ _ _ _ _ => True) (fun _ U o U' => ∃ v L, o = .returned v ∧ Q_rm_init Z a u1 u2 f h0 n0 v U'.heap L ∧ FrameEnd U o U' L ({ frames := 2, cells := 0, slots := 0, locals := 24 } : Room).cells ({ frames := 2, cells := 0, slots := 0, locals := 24 } : Room).slots) := by
  refine MetFree.of_bodySF (plainFor_of_name pn_1) hisR ?_
  intro p e s m args below meth c s₁ Bd hml0 hP hK
  obtain ⟨rfl, hZ, hh⟩ := hP
  have hx := Bd.exec
  have hby := Bd.bytes
  have hml : c.maxLocals = 4 := hml0
  have hown : s.vm.findClass "com/example/lambdagrove/lambdagrove/Tree$Path" = some m.cls := findClass_of_methodNamed Bd.named
  have hnm := (name_of_methodNamed Bd.named Bd.method).1
  have hlk : meth.locks = false := BodyLoose.notSynchronized Bd
  have X0 : Stand p l e ({ frames := 2, cells := 0, slots := 0, locals := 24 } : Room) s m #[(.ref a), (.int u1), (.int u2), (.ref f)] below meth c s₁ [] 0 0 := Stand.of_body Bd
  have e0 : s₁.heap = h0 := by rw [← hh, Bd.state]; rfl
  have N0 := Fr.nil n0
  refine own_by (fun _ kt => castTop (ef_2 m a u1 u2 f) kt) (R := own_R s (Q_rm_init Z a u1 u2 f h0 n0) 0 0) ?_
  show own_Go p.tables e below (s₁.setTop (mkF m 0 #[.val (.ref a), .val (.int u1), .val (.int u2), .val (.ref f)] [])) _
  refine own_by (fun _ kt => XS.aloadN X0.here hx rfl (hb hby d_prog_41_method_1_code_0) rfl rfl kt) ?_
  show own_Go p.tables e below (s₁.setTop (mkF m 1 #[.val (.ref a), .val (.int u1), .val (.int u2), .val (.ref f)] [(.ref a)])) _
  obtain ⟨_, _, ⟨T1, L1, k1, n1⟩, -, X1, ⟨Lc1, hQ1, l1, y1, z1⟩, st1⟩ := X0.specialBack hx (y := (⟨"java/lang/Record", "<init>", "()V"⟩ : MethodName)) rfl hown (mvT hZ (hw _ (List.mem_of_getElem? (i := 8) rfl))) (mvT hZ (hw _ (List.mem_of_getElem? (i := 9) rfl))) (mvT hZ (hw _ (List.mem_of_getElem? (i := 12) rfl))) (by decide) (backOf (W := 0) (rm_record l Z a0 hw [] a  h0 n0 Z0 ) hZ (hw _ (List.mem_of_getElem? (i := 12) rfl)) (hw _ (List.mem_of_getElem? (i := 11) rfl)) (by decide) (by decide)) (g := (mkF m 1 #[.val (.ref a), .val (.int u1), .val (.int u2), .val (.ref f)] [(.ref a)])) rfl (by rw [hml]; rfl) (Steps.refl _) (a := a) (argsL := []) (rest := []) (lenOf pd_0 rfl) rfl (by show 2 * 0 + _ ≤ _; exact Nat.le_of_eq rfl) (hb hby d_prog_41_method_1_code_1) (fun _ _ => ⟨rfl, e0, (by decide : 0 + 0 ≤ _), (by decide : 0 + 0 ≤ _)⟩)
  dsimp only [Pt.U, Pt.locs, Pt.cells, Pt.slots] at X1 l1 y1 z1 st1 hQ1
  subst l1 y1 z1
  obtain ⟨rfl, Nq1, eh1⟩ := hQ1
  have N1 := Fr.app N0 Nq1
  refine own_by (fun _ kt => st1.trans kt) ?_
  show own_Go p.tables e below (T1.setTop (mkF m 4 #[.val (.ref a), .val (.int u1), .val (.int u2), .val (.ref f)] [])) _
  refine own_by (fun _ kt => XS.aloadN X1.here hx rfl (hb hby d_prog_41_method_1_code_4) rfl rfl kt) ?_
  show own_Go p.tables e below (T1.setTop (mkF m 5 #[.val (.ref a), .val (.int u1), .val (.int u2), .val (.ref f)] [(.ref a)])) _
  refine own_by (fun _ kt => XS.iloadN X1.here hx rfl (hb hby d_prog_41_method_1_code_5) rfl kt) ?_
  show own_Go p.tables e below (T1.setTop (mkF m 6 #[.val (.ref a), .val (.int u1), .val (.int u2), .val (.ref f)] [(.int u1), (.ref a)])) _
  obtain ⟨T2, h2, X2, e2, W2, st2⟩ := putF X1 hx hZ hown (host := "") (Or.inl (hw _ (List.mem_of_getElem? (i := 16) rfl))) Via.refl eh1 F_top_a E_a (Or.inr ⟨(hw _ (List.mem_of_getElem? (i := 17) rfl)), rfl, hnm⟩) (hw _ (List.mem_of_getElem? (i := 3) rfl)) (ty := .int) (by decide) rfl rfl (g := (mkF m 6 #[.val (.ref a), .val (.int u1), .val (.int u2), .val (.ref f)] [(.int u1), (.ref a)])) rfl rfl (hb hby d_prog_41_method_1_code_6)
  have Fw2 := F_top_a.same W2
  have f3 := F_climb_a.other W2 (Or.inr (slot_ne (Or.inr (hw _ (List.mem_of_getElem? (i := 19) rfl))) (Or.inr (hw _ (List.mem_of_getElem? (i := 17) rfl))) (by decide) (t := .int) (t' := .int) (by decide) (by decide)))
  have f4 := F_fibres_a.other W2 (Or.inr (slot_ne (Or.inr (hw _ (List.mem_of_getElem? (i := 21) rfl))) (Or.inr (hw _ (List.mem_of_getElem? (i := 17) rfl))) (by decide) (t := (.array .int)) (t' := .int) (by decide) (by decide)))
  have f5 := E_a.wr W2
  have Zs2 : n0 ≤ h2.size := by rw [W2.size]; exact Z0
  have K2 : Keep h0 h2 [a] := (Keep.refl h0 [a]).wr W2 (Or.inl (List.mem_of_getElem? (i := 0) rfl))
  have N2 := Fr.snoc X2 N1 gn_a
  refine own_by st2 ?_
  show own_Go p.tables e below (T2.setTop (mkF m 9 #[.val (.ref a), .val (.int u1), .val (.int u2), .val (.ref f)] [])) _
  refine own_by (fun _ kt => XS.aloadN X2.here hx rfl (hb hby d_prog_41_method_1_code_9) rfl rfl kt) ?_
  show own_Go p.tables e below (T2.setTop (mkF m 10 #[.val (.ref a), .val (.int u1), .val (.int u2), .val (.ref f)] [(.ref a)])) _
  refine own_by (fun _ kt => XS.iloadN X2.here hx rfl (hb hby d_prog_41_method_1_code_10) rfl kt) ?_
  show own_Go p.tables e below (T2.setTop (mkF m 11 #[.val (.ref a), .val (.int u1), .val (.int u2), .val (.ref f)] [(.int u2), (.ref a)])) _
  obtain ⟨T6, h6, X6, e6, W6, st6⟩ := putF X2 hx hZ hown (host := "") (Or.inl (hw _ (List.mem_of_getElem? (i := 18) rfl))) Via.refl e2 f3 f5 (Or.inr ⟨(hw _ (List.mem_of_getElem? (i := 19) rfl)), rfl, hnm⟩) (hw _ (List.mem_of_getElem? (i := 3) rfl)) (ty := .int) (by decide) rfl rfl (g := (mkF m 11 #[.val (.ref a), .val (.int u1), .val (.int u2), .val (.ref f)] [(.int u2), (.ref a)])) rfl rfl (hb hby d_prog_41_method_1_code_11)
  have Fw6 := f3.same W6
  have f7 := Fw2.other W6 (Or.inr (slot_ne (Or.inr (hw _ (List.mem_of_getElem? (i := 17) rfl))) (Or.inr (hw _ (List.mem_of_getElem? (i := 19) rfl))) (by decide) (t := .int) (t' := .int) (by decide) (by decide)))
  have f8 := f4.other W6 (Or.inr (slot_ne (Or.inr (hw _ (List.mem_of_getElem? (i := 21) rfl))) (Or.inr (hw _ (List.mem_of_getElem? (i := 19) rfl))) (by decide) (t := (.array .int)) (t' := .int) (by decide) (by decide)))
  have f9 := f5.wr W6
  have Zs6 : n0 ≤ h6.size := by rw [W6.size]; exact Zs2
  have K6 : Keep h0 h6 [a] := K2.wr W6 (Or.inl (List.mem_of_getElem? (i := 0) rfl))
  have N6 := Fr.snoc X6 N2 gn_a
  refine own_by st6 ?_
  show own_Go p.tables e below (T6.setTop (mkF m 14 #[.val (.ref a), .val (.int u1), .val (.int u2), .val (.ref f)] [])) _
  refine own_by (fun _ kt => XS.aloadN X6.here hx rfl (hb hby d_prog_41_method_1_code_14) rfl rfl kt) ?_
  show own_Go p.tables e below (T6.setTop (mkF m 15 #[.val (.ref a), .val (.int u1), .val (.int u2), .val (.ref f)] [(.ref a)])) _
  refine own_by (fun _ kt => XS.aloadN X6.here hx rfl (hb hby d_prog_41_method_1_code_15) rfl rfl kt) ?_
  show own_Go p.tables e below (T6.setTop (mkF m 16 #[.val (.ref a), .val (.int u1), .val (.int u2), .val (.ref f)] [(.ref f), (.ref a)])) _
  obtain ⟨T10, h10, X10, e10, W10, st10⟩ := putF X6 hx hZ hown (host := "") (Or.inl (hw _ (List.mem_of_getElem? (i := 20) rfl))) Via.refl e6 f8 f9 (Or.inr ⟨(hw _ (List.mem_of_getElem? (i := 21) rfl)), rfl, hnm⟩) (hw _ (List.mem_of_getElem? (i := 3) rfl)) (ty := (.array .int)) (by decide) rfl rfl (g := (mkF m 16 #[.val (.ref a), .val (.int u1), .val (.int u2), .val (.ref f)] [(.ref f), (.ref a)])) rfl rfl (hb hby d_prog_41_method_1_code_16)
  have Fw10 := f8.same W10
  have f11 := f7.other W10 (Or.inr (slot_ne (Or.inr (hw _ (List.mem_of_getElem? (i := 17) rfl))) (Or.inr (hw _ (List.mem_of_getElem? (i := 21) rfl))) (by decide) (t := .int) (t' := (.array .int)) (by decide) (by decide)))
  have f12 := Fw6.other W10 (Or.inr (slot_ne (Or.inr (hw _ (List.mem_of_getElem? (i := 19) rfl))) (Or.inr (hw _ (List.mem_of_getElem? (i := 21) rfl))) (by decide) (t := .int) (t' := (.array .int)) (by decide) (by decide)))
  have f13 := f9.wr W10
  have Zs10 : n0 ≤ h10.size := by rw [W10.size]; exact Zs6
  have K10 : Keep h0 h10 [a] := K6.wr W10 (Or.inl (List.mem_of_getElem? (i := 0) rfl))
  have N10 := Fr.snoc X10 N6 gn_a
  refine own_by st10 ?_
  show own_Go p.tables e below (T10.setTop (mkF m 19 #[.val (.ref a), .val (.int u1), .val (.int u2), .val (.ref f)] [])) _
  exact own_retV X10 hx Bd.returns hlk (hb hby d_prog_41_method_1_code_19) (by rw [e10]; exact ⟨rfl, N10, K10, f13, f11, f12, Fw10⟩) (by decide) (by decide)
def own_out (w z v : Int32) : Int32 := if w < z then v else -1
theorem d_prog_41_method_5_code_0 : decode prog_41_method_5_code 0 = .ok (.aload_n 0, 1) := by decide +kernel
theorem d_prog_41_method_5_code_1 : decode prog_41_method_5_code 1 = .ok (.getfield 13, 3) := by decide +kernel
theorem d_prog_41_method_5_code_4 : decode prog_41_method_5_code 4 = .ok (.aload_n 0, 1) := by decide +kernel
theorem d_prog_41_method_5_code_5 : decode prog_41_method_5_code 5 = .ok (.getfield 16, 3) := by decide +kernel
theorem d_prog_41_method_5_code_8 : decode prog_41_method_5_code 8 = .ok (.arraylength, 1) := by decide +kernel
theorem d_prog_41_method_5_code_9 : decode prog_41_method_5_code 9 = .ok (.if_icmp .ge 15, 3) := by decide +kernel
theorem d_prog_41_method_5_code_12 : decode prog_41_method_5_code 12 = .ok (.aload_n 0, 1) := by decide +kernel
theorem d_prog_41_method_5_code_13 : decode prog_41_method_5_code 13 = .ok (.getfield 16, 3) := by decide +kernel
theorem d_prog_41_method_5_code_16 : decode prog_41_method_5_code 16 = .ok (.aload_n 0, 1) := by decide +kernel
theorem d_prog_41_method_5_code_17 : decode prog_41_method_5_code 17 = .ok (.getfield 13, 3) := by decide +kernel
theorem d_prog_41_method_5_code_20 : decode prog_41_method_5_code 20 = .ok (.iaload, 1) := by decide +kernel
theorem d_prog_41_method_5_code_21 : decode prog_41_method_5_code 21 = .ok (.goto 4, 3) := by decide +kernel
theorem d_prog_41_method_5_code_25 : decode prog_41_method_5_code 25 = .ok (.ireturn, 1) := by decide +kernel
theorem d_prog_41_method_5_code_24 : decode prog_41_method_5_code 24 = .ok (.iconst (-1), 1) := by decide +kernel
theorem ef_3 (m : MethodId) (a : Addr) : entryFrame m #[(.ref a)] 1 = mkF m 0 #[.val (.ref a)] [] := by first | (simp [entryFrame, mkF, argsToLocals, Value.category]; done) | rfl
def Q_rm_out (Z : State) (a : Addr) (w : Int32) (f : Addr) (k : ClassId) (vs : List Value) (z : Int32) (u : Int32) (h0 : Heap) (n0 : Nat) (v : Option Value) (h : Heap) (L : List Loc) : Prop := v = some (.int (own_out w z u)) ∧ Fr n0 L ∧ h = h0
set_option maxRecDepth 65536 in
set_option maxHeartbeats 40000000 in
theorem rm_out (l : Launch) (Z : State) (a0 : Array Value) (hw : ∀ d ∈ tables_1, d.before a0 Z = true) (ws : List Jvm.Cond) (a : Addr) (w : Int32) (f : Addr) (k : ClassId) (vs : List Value) (z : Int32) (u : Int32) (h0 : Heap) (n0 : Nat) (Z0 : n0 ≤ h0.size) (F_climb_a : Fld Z h0 a "com/example/lambdagrove/lambdagrove/Tree$Path" "climb" "I" (.int w)) (F_fibres_a : Fld Z h0 a "com/example/lambdagrove/lambdagrove/Tree$Path" "fibres" "[I" (.ref f)) (V_f : Arv Z h0 f k .int z vs (.int (0 : Int32))) (hj : w < z → (¬ w < 0 ∧ w < z)) (hv : w < z → vs.getD w.toNatClampNeg (.int (0 : Int32)) = .int u) :
    MetFree l (⟨"com/example/lambdagrove/lambdagrove/Tree$Path", "outOfTop", "()I"⟩ : MethodName) (head1 (Jvm.Cond.code (⟨"com/example/lambdagrove/lambdagrove/Tree$Path", "outOfTop", "()I"⟩ : MethodName) prog_41_method_5_code 1 (some .int) :: ws) ({ frames := 0, cells := 0, slots := 0, locals := 0 } : Room)) (fun av_ U => av_ = #[(.ref a)] ∧ Z.Warmed39 U.vm ∧ U.heap = h0) (fun _ _ _ _ _ => True) (fun _ U o U' => ∃ v L, o = .returned v ∧ Q_rm_out Z a w f k vs z u h0 n0 v U'.heap L ∧ FrameEnd U o U' L ({ frames := 0, cells := 0, slots := 0, locals := 0 } : Room).cells ({ frames := 0, cells := 0, slots := 0, locals := 0 } : Room).slots) := by
  refine MetFree.of_bodySF (plainFor_of_name pn_1) hisR ?_
  intro p e s m args below meth c s₁ Bd hml0 hP hK
  obtain ⟨rfl, hZ, hh⟩ := hP
  have hx := Bd.exec
  have hby := Bd.bytes
  have hml : c.maxLocals = 1 := hml0
  have hown : s.vm.findClass "com/example/lambdagrove/lambdagrove/Tree$Path" = some m.cls := findClass_of_methodNamed Bd.named
  have hnm := (name_of_methodNamed Bd.named Bd.method).1
  have hlk : meth.locks = false := BodyLoose.notSynchronized Bd
  have X0 : Stand p l e ({ frames := 0, cells := 0, slots := 0, locals := 0 } : Room) s m #[(.ref a)] below meth c s₁ [] 0 0 := Stand.of_body Bd
  have e0 : s₁.heap = h0 := by rw [← hh, Bd.state]; rfl
  have N0 := Fr.nil n0
  refine own_by (fun _ kt => castTop (ef_3 m a) kt) (R := own_R s (Q_rm_out Z a w f k vs z u h0 n0) 0 0) ?_
  show own_Go p.tables e below (s₁.setTop (mkF m 0 #[.val (.ref a)] [])) _
  refine own_by (fun _ kt => XS.aloadN X0.here hx rfl (hb hby d_prog_41_method_5_code_0) rfl rfl kt) ?_
  show own_Go p.tables e below (s₁.setTop (mkF m 1 #[.val (.ref a)] [(.ref a)])) _
  obtain ⟨T1, X1, e1, st1⟩ := getF X0 hx hZ hown (host := "") (Or.inl (hw _ (List.mem_of_getElem? (i := 18) rfl))) Via.refl e0 F_climb_a (g := (mkF m 1 #[.val (.ref a)] [(.ref a)])) rfl rfl (hb hby d_prog_41_method_5_code_1)
  refine own_by st1 ?_
  show own_Go p.tables e below (T1.setTop (mkF m 4 #[.val (.ref a)] [(.int w)])) _
  refine own_by (fun _ kt => XS.aloadN X1.here hx rfl (hb hby d_prog_41_method_5_code_4) rfl rfl kt) ?_
  show own_Go p.tables e below (T1.setTop (mkF m 5 #[.val (.ref a)] [(.ref a), (.int w)])) _
  obtain ⟨T2, X2, e2, st2⟩ := getF X1 hx hZ hown (host := "") (Or.inl (hw _ (List.mem_of_getElem? (i := 20) rfl))) Via.refl e1 F_fibres_a (g := (mkF m 5 #[.val (.ref a)] [(.ref a), (.int w)])) rfl rfl (hb hby d_prog_41_method_5_code_5)
  refine own_by st2 ?_
  show own_Go p.tables e below (T2.setTop (mkF m 8 #[.val (.ref a)] [(.ref f), (.int w)])) _
  refine own_by (own_alen X2 hx hZ e2 V_f (g := (mkF m 8 #[.val (.ref a)] [(.ref f), (.int w)])) rfl rfl (hb hby d_prog_41_method_5_code_8)) ?_
  show own_Go p.tables e below (T2.setTop (mkF m 9 #[.val (.ref a)] [(.int z), (.int w)])) _
  by_cases hc9_3 : w < z
  · refine own_by (fun _ kt => XS.icmpNo X2.here hx rfl (hb hby d_prog_41_method_5_code_9) rfl (tlt hc9_3).2.1 kt) ?_
    show own_Go p.tables e below (T2.setTop (mkF m 12 #[.val (.ref a)] [])) _
    refine own_by (fun _ kt => XS.aloadN X2.here hx rfl (hb hby d_prog_41_method_5_code_12) rfl rfl kt) ?_
    show own_Go p.tables e below (T2.setTop (mkF m 13 #[.val (.ref a)] [(.ref a)])) _
    obtain ⟨T4, X4, e4, st4⟩ := getF X2 hx hZ hown (host := "") (Or.inl (hw _ (List.mem_of_getElem? (i := 20) rfl))) Via.refl e2 F_fibres_a (g := (mkF m 13 #[.val (.ref a)] [(.ref a)])) rfl rfl (hb hby d_prog_41_method_5_code_13)
    refine own_by st4 ?_
    show own_Go p.tables e below (T4.setTop (mkF m 16 #[.val (.ref a)] [(.ref f)])) _
    refine own_by (fun _ kt => XS.aloadN X4.here hx rfl (hb hby d_prog_41_method_5_code_16) rfl rfl kt) ?_
    show own_Go p.tables e below (T4.setTop (mkF m 17 #[.val (.ref a)] [(.ref a), (.ref f)])) _
    obtain ⟨T5, X5, e5, st5⟩ := getF X4 hx hZ hown (host := "") (Or.inl (hw _ (List.mem_of_getElem? (i := 18) rfl))) Via.refl e4 F_climb_a (g := (mkF m 17 #[.val (.ref a)] [(.ref a), (.ref f)])) rfl rfl (hb hby d_prog_41_method_5_code_17)
    refine own_by st5 ?_
    show own_Go p.tables e below (T5.setTop (mkF m 20 #[.val (.ref a)] [(.int w), (.ref f)])) _
    refine own_by (own_iaload X5 hx hZ e5 V_f (j := w) (v := (.int u)) (hj hc9_3) (hv hc9_3) (g := (mkF m 20 #[.val (.ref a)] [(.int w), (.ref f)])) rfl rfl (hb hby d_prog_41_method_5_code_20)) ?_
    show own_Go p.tables e below (T5.setTop (mkF m 21 #[.val (.ref a)] [(.int u)])) _
    refine own_by (fun _ kt => XS.goto X5.here hx rfl (pc0 := 21) (pc' := 25) rfl (hb hby d_prog_41_method_5_code_21) (by decide) (by decide) kt) ?_
    show own_Go p.tables e below (T5.setTop (mkF m 25 #[.val (.ref a)] [(.int u)])) _
    exact own_retI X5 hx Bd.returns hlk (hb hby d_prog_41_method_5_code_25) ⟨by rw [own_out, if_pos hc9_3] <;> rfl, N0, e5⟩ (by decide) (by decide)
  · refine own_by (fun _ kt => XS.icmpYes X2.here hx rfl (pc0 := 9) (pc' := 24) rfl (hb hby d_prog_41_method_5_code_9) rfl (flt hc9_3).2.1 (by decide) (by decide) kt) ?_
    show own_Go p.tables e below (T2.setTop (mkF m 24 #[.val (.ref a)] [])) _
    refine own_by (fun _ kt => XS.iconst X2.here hx rfl (hb hby d_prog_41_method_5_code_24) kt) ?_
    show own_Go p.tables e below (T2.setTop (mkF m 25 #[.val (.ref a)] [(.int (-1 : Int32))])) _
    exact own_retI X2 hx Bd.returns hlk (hb hby d_prog_41_method_5_code_25) ⟨by rw [own_out, if_neg hc9_3] <;> rfl, N0, e2⟩ (by decide) (by decide)
theorem pn_2 : plainName "com/example/lambdagrove/lambdagrove/PathOutOfTopPinLaw" = true := by first | (simp [plainName, overriddenIn]; done) | decide +kernel
theorem pd_1 : parseMethodDescriptor "(II[I)V" = some ⟨[.int, .int, (.array .int)], none⟩ := by decide +kernel
theorem pd_2 : parseMethodDescriptor "()I" = some ⟨[], some .int⟩ := by decide +kernel
theorem ef_4 (m : MethodId) (p0 : Int32) (p1 : Int32) (p2 : Int32) (p3 : Int32) (p4 : Int32) (p5 : Int32) : entryFrame m #[(.int p0), (.int p1), (.int p2), (.int p3), (.int p4), (.int p5)] maxLocals = mkF m 0 #[.val (.int p0), .val (.int p1), .val (.int p2), .val (.int p3), .val (.int p4), .val (.int p5), .unset, .unset, .unset, .unset, .unset] [] := by first | (simp [entryFrame, mkF, argsToLocals, Value.category, maxLocals]; done) | rfl
def Q_rm_law (Z : State) (p0 : Int32) (p1 : Int32) (p2 : Int32) (p3 : Int32) (p4 : Int32) (p5 : Int32)  (h0 : Heap) (n0 : Nat) (v : Option Value) (h : Heap) (L : List Loc) : Prop := v = some (.int (1 : Int32)) ∧ Fr n0 L
set_option maxRecDepth 65536 in
set_option maxHeartbeats 40000000 in
theorem rm_law (l : Launch) (Z : State) (a0 : Array Value) (hw : ∀ d ∈ tables_1, d.before a0 Z = true) (ws : List Jvm.Cond) (p0 : Int32) (p1 : Int32) (p2 : Int32) (p3 : Int32) (p4 : Int32) (p5 : Int32)  (h0 : Heap) (n0 : Nat) (Z0 : n0 ≤ h0.size)  :
    MetFree l x (head1 (Jvm.Cond.code x code maxLocals ret :: ws) room_1) (fun av_ U => av_ = #[(.int p0), (.int p1), (.int p2), (.int p3), (.int p4), (.int p5)] ∧ Z.Warmed39 U.vm ∧ U.heap = h0) (fun _ _ _ _ _ => True) (fun _ U o U' => ∃ v L, o = .returned v ∧ Q_rm_law Z p0 p1 p2 p3 p4 p5 h0 n0 v U'.heap L ∧ FrameEnd U o U' L 16 128) := by
  refine MetFree.of_bodySF (plainFor_of_name pn_2) hisR ?_
  intro p e s m args below meth c s₁ Bd hml0 hP hK
  obtain ⟨rfl, hZ, hh⟩ := hP
  have hx := Bd.exec
  have hby := Bd.bytes
  have hml : c.maxLocals = 11 := hml0
  have hown : s.vm.findClass "com/example/lambdagrove/lambdagrove/PathOutOfTopPinLaw" = some m.cls := findClass_of_methodNamed Bd.named
  have hnm := (name_of_methodNamed Bd.named Bd.method).1
  have hlk : meth.locks = false := BodyLoose.notSynchronized Bd
  have X0 : Stand p l e room_1 s m #[(.int p0), (.int p1), (.int p2), (.int p3), (.int p4), (.int p5)] below meth c s₁ [] 0 0 := Stand.of_body Bd
  have e0 : s₁.heap = h0 := by rw [← hh, Bd.state]; rfl
  have N0 := Fr.nil n0
  refine own_by (fun _ kt => castTop (ef_4 m p0 p1 p2 p3 p4 p5) kt) (R := own_R s (Q_rm_law Z p0 p1 p2 p3 p4 p5 h0 n0) 16 128) ?_
  show own_Go p.tables e below (s₁.setTop (mkF m 0 #[.val (.int p0), .val (.int p1), .val (.int p2), .val (.int p3), .val (.int p4), .val (.int p5), .unset, .unset, .unset, .unset, .unset] [])) _
  refine own_by (fun _ kt => XS.iloadN X0.here hx rfl (hb hby at_0) rfl kt) ?_
  show own_Go p.tables e below (s₁.setTop (mkF m 1 #[.val (.int p0), .val (.int p1), .val (.int p2), .val (.int p3), .val (.int p4), .val (.int p5), .unset, .unset, .unset, .unset, .unset] [(.int p0)])) _
  refine own_by (fun _ kt => XS.iconst X0.here hx rfl (hb hby at_1) kt) ?_
  show own_Go p.tables e below (s₁.setTop (mkF m 2 #[.val (.int p0), .val (.int p1), .val (.int p2), .val (.int p3), .val (.int p4), .val (.int p5), .unset, .unset, .unset, .unset, .unset] [(.int (3 : Int32)), (.int p0)])) _
  refine own_by (fun _ kt => XS.iand X0.here hx rfl (hb hby at_2) rfl kt) ?_
  show own_Go p.tables e below (s₁.setTop (mkF m 3 #[.val (.int p0), .val (.int p1), .val (.int p2), .val (.int p3), .val (.int p4), .val (.int p5), .unset, .unset, .unset, .unset, .unset] [(.int (p0 &&& (3 : Int32)))])) _
  rcases (own_and3 _ : (p0 &&& (3 : Int32)) = (0 : Int32) ∨ (p0 &&& (3 : Int32)) = (1 : Int32) ∨ (p0 &&& (3 : Int32)) = (2 : Int32) ∨ (p0 &&& (3 : Int32)) = (3 : Int32)) with hs3_1 | hs3_1 | hs3_1 | hs3_1
  · rw [hs3_1]
    show own_Go p.tables e below (s₁.setTop (mkF m 3 #[.val (.int p0), .val (.int p1), .val (.int p2), .val (.int p3), .val (.int p4), .val (.int p5), .unset, .unset, .unset, .unset, .unset] [(.int (0 : Int32))])) _
    refine own_by (fun _ kt => XS.istore X0.here hx rfl (hb hby at_3) rfl (l' := #[.val (.int p0), .val (.int p1), .val (.int p2), .val (.int p3), .val (.int p4), .val (.int p5), .val (.int (0 : Int32)), .unset, .unset, .unset, .unset]) rfl kt) ?_
    show own_Go p.tables e below (s₁.setTop (mkF m 5 #[.val (.int p0), .val (.int p1), .val (.int p2), .val (.int p3), .val (.int p4), .val (.int p5), .val (.int (0 : Int32)), .unset, .unset, .unset, .unset] [])) _
    refine own_by (fun _ kt => XS.iload X0.here hx rfl (hb hby at_5) rfl kt) ?_
    show own_Go p.tables e below (s₁.setTop (mkF m 7 #[.val (.int p0), .val (.int p1), .val (.int p2), .val (.int p3), .val (.int p4), .val (.int p5), .val (.int (0 : Int32)), .unset, .unset, .unset, .unset] [(.int (0 : Int32))])) _
    refine own_by (fun _ kt => XS.ifNo X0.here hx rfl (hb hby at_7) rfl ((if0 _ _).trans (teq (by decide : (0 : Int32) = (0 : Int32))).2) kt) ?_
    show own_Go p.tables e below (s₁.setTop (mkF m 10 #[.val (.int p0), .val (.int p1), .val (.int p2), .val (.int p3), .val (.int p4), .val (.int p5), .val (.int (0 : Int32)), .unset, .unset, .unset, .unset] [])) _
    refine own_by (fun _ kt => XS.iconst X0.here hx rfl (hb hby at_10) kt) ?_
    show own_Go p.tables e below (s₁.setTop (mkF m 11 #[.val (.int p0), .val (.int p1), .val (.int p2), .val (.int p3), .val (.int p4), .val (.int p5), .val (.int (0 : Int32)), .unset, .unset, .unset, .unset] [(.int (0 : Int32))])) _
    obtain ⟨T2, h2, k2, X2, e2, E2, A2, st2⟩ := newP X0 hx hZ (hw _ (List.mem_of_getElem? (i := 0) rfl)) e0 (g := (mkF m 11 #[.val (.int p0), .val (.int p1), .val (.int p2), .val (.int p3), .val (.int p4), .val (.int p5), .val (.int (0 : Int32)), .unset, .unset, .unset, .unset] [(.int (0 : Int32))])) rfl (hb hby at_11) rfl (by decide) (cap := 0) (by decide) (by decide) (by decide) (by decide)
    obtain ⟨b2, g2⟩ : ∃ z, z = h0.size := ⟨_, rfl⟩
    rw [← g2] at A2 st2
    have gn_b2 : n0 ≤ b2 := Nat.le_trans Z0 (Nat.le_of_eq g2.symm)
    have Zs2 : n0 ≤ h2.size := Nat.le_trans Z0 E2.1
    have f3 : Arv Z h2 b2 k2 .int (0 : Int32) [] (.int (0 : Int32)) := (Arv.new A2 (by decide)).pad (pad_rep [] (.int (0 : Int32)) 0)
    refine own_by st2 ?_
    show own_Go p.tables e below (T2.setTop (mkF m 13 #[.val (.int p0), .val (.int p1), .val (.int p2), .val (.int p3), .val (.int p4), .val (.int p5), .val (.int (0 : Int32)), .unset, .unset, .unset, .unset] [(.ref b2)])) _
    refine own_by (fun _ kt => XS.astore X2.here hx rfl (hb hby at_13) rfl rfl (l' := #[.val (.int p0), .val (.int p1), .val (.int p2), .val (.int p3), .val (.int p4), .val (.int p5), .val (.int (0 : Int32)), .val (.ref b2), .unset, .unset, .unset]) rfl kt) ?_
    show own_Go p.tables e below (T2.setTop (mkF m 15 #[.val (.int p0), .val (.int p1), .val (.int p2), .val (.int p3), .val (.int p4), .val (.int p5), .val (.int (0 : Int32)), .val (.ref b2), .unset, .unset, .unset] [])) _
    refine own_by (fun _ kt => XS.goto X2.here hx rfl (pc0 := 15) (pc' := 76) rfl (hb hby at_15) (by decide) (by decide) kt) ?_
    show own_Go p.tables e below (T2.setTop (mkF m 76 #[.val (.int p0), .val (.int p1), .val (.int p2), .val (.int p3), .val (.int p4), .val (.int p5), .val (.int (0 : Int32)), .val (.ref b2), .unset, .unset, .unset] [])) _
    refine own_by (fun _ kt => XS.iloadN X2.here hx rfl (hb hby at_76) rfl kt) ?_
    show own_Go p.tables e below (T2.setTop (mkF m 77 #[.val (.int p0), .val (.int p1), .val (.int p2), .val (.int p3), .val (.int p4), .val (.int p5), .val (.int (0 : Int32)), .val (.ref b2), .unset, .unset, .unset] [(.int p1)])) _
    refine own_by (X2.ldcInt hx hown (mvT hZ (hw _ (List.mem_of_getElem? (i := 1) rfl))) (g := (mkF m 77 #[.val (.int p0), .val (.int p1), .val (.int p2), .val (.int p3), .val (.int p4), .val (.int p5), .val (.int (0 : Int32)), .val (.ref b2), .unset, .unset, .unset] [(.int p1)])) rfl (hb hby at_77)) ?_
    show own_Go p.tables e below (T2.setTop (mkF m 79 #[.val (.int p0), .val (.int p1), .val (.int p2), .val (.int p3), .val (.int p4), .val (.int p5), .val (.int (0 : Int32)), .val (.ref b2), .unset, .unset, .unset] [(.int (2147483647 : Int32)), (.int p1)])) _
    refine own_by (fun _ kt => XS.iand X2.here hx rfl (hb hby at_79) rfl kt) ?_
    show own_Go p.tables e below (T2.setTop (mkF m 80 #[.val (.int p0), .val (.int p1), .val (.int p2), .val (.int p3), .val (.int p4), .val (.int p5), .val (.int (0 : Int32)), .val (.ref b2), .unset, .unset, .unset] [(.int (p1 &&& (2147483647 : Int32)))])) _
    refine own_by (fun _ kt => XS.iload X2.here hx rfl (hb hby at_80) rfl kt) ?_
    show own_Go p.tables e below (T2.setTop (mkF m 82 #[.val (.int p0), .val (.int p1), .val (.int p2), .val (.int p3), .val (.int p4), .val (.int p5), .val (.int (0 : Int32)), .val (.ref b2), .unset, .unset, .unset] [(.int (0 : Int32)), (.int (p1 &&& (2147483647 : Int32)))])) _
    refine own_by (fun _ kt => XS.iconst X2.here hx rfl (hb hby at_82) kt) ?_
    show own_Go p.tables e below (T2.setTop (mkF m 83 #[.val (.int p0), .val (.int p1), .val (.int p2), .val (.int p3), .val (.int p4), .val (.int p5), .val (.int (0 : Int32)), .val (.ref b2), .unset, .unset, .unset] [(.int (1 : Int32)), (.int (0 : Int32)), (.int (p1 &&& (2147483647 : Int32)))])) _
    refine own_by (fun _ kt => XS.iadd X2.here hx rfl (hb hby at_83) rfl kt) ?_
    show own_Go p.tables e below (T2.setTop (mkF m 84 #[.val (.int p0), .val (.int p1), .val (.int p2), .val (.int p3), .val (.int p4), .val (.int p5), .val (.int (0 : Int32)), .val (.ref b2), .unset, .unset, .unset] [(.int ((0 : Int32) + (1 : Int32))), (.int (p1 &&& (2147483647 : Int32)))])) _
    rw [(by decide : ((0 : Int32) + (1 : Int32)) = (1 : Int32))]
    refine own_by (fun _ kt => iremM X2 hx rfl (hb hby at_84) rfl (by decide) kt) ?_
    show own_Go p.tables e below (T2.setTop (mkF m 85 #[.val (.int p0), .val (.int p1), .val (.int p2), .val (.int p3), .val (.int p4), .val (.int p5), .val (.int (0 : Int32)), .val (.ref b2), .unset, .unset, .unset] [(.int ((p1 &&& (2147483647 : Int32)) % (1 : Int32)))])) _
    rcases (own_mod1 _ : ((p1 &&& (2147483647 : Int32)) % (1 : Int32)) = (0 : Int32)) with hs85_4
    · rw [hs85_4]
      show own_Go p.tables e below (T2.setTop (mkF m 85 #[.val (.int p0), .val (.int p1), .val (.int p2), .val (.int p3), .val (.int p4), .val (.int p5), .val (.int (0 : Int32)), .val (.ref b2), .unset, .unset, .unset] [(.int (0 : Int32))])) _
      refine own_by (fun _ kt => XS.istore X2.here hx rfl (hb hby at_85) rfl (l' := #[.val (.int p0), .val (.int p1), .val (.int p2), .val (.int p3), .val (.int p4), .val (.int p5), .val (.int (0 : Int32)), .val (.ref b2), .val (.int (0 : Int32)), .unset, .unset]) rfl kt) ?_
      show own_Go p.tables e below (T2.setTop (mkF m 87 #[.val (.int p0), .val (.int p1), .val (.int p2), .val (.int p3), .val (.int p4), .val (.int p5), .val (.int (0 : Int32)), .val (.ref b2), .val (.int (0 : Int32)), .unset, .unset] [])) _
      obtain ⟨T5, h5, X5, e5, E5, A5, D5, -, st5⟩ := newO X2 hx hZ hown (hw _ (List.mem_of_getElem? (i := 2) rfl)) (hw _ (List.mem_of_getElem? (i := 3) rfl)) (hw _ (List.mem_of_getElem? (i := 4) rfl)) e2 (g := (mkF m 87 #[.val (.int p0), .val (.int p1), .val (.int p2), .val (.int p3), .val (.int p4), .val (.int p5), .val (.int (0 : Int32)), .val (.ref b2), .val (.int (0 : Int32)), .unset, .unset] [])) rfl (hb hby at_87) (by decide) (by decide)
      obtain ⟨b5, g5⟩ : ∃ z, z = h2.size := ⟨_, rfl⟩
      rw [← g5] at A5 D5 st5
      have gn_b5 : n0 ≤ b5 := Nat.le_trans Zs2 (Nat.le_of_eq g5.symm)
      have ne_b2_b5 : b2 ≠ b5 := Nat.ne_of_lt (Nat.lt_of_lt_of_le f3.lt (Nat.le_of_eq g5.symm))
      have f6 := f3.ext E5
      have Zs5 : n0 ≤ h5.size := Nat.le_trans Zs2 E5.1
      have f7 : Fld Z h5 b5 "com/example/lambdagrove/lambdagrove/Tree$Path" "top" "I" (.int (0 : Int32)) := D5 (Or.inr (hw _ (List.mem_of_getElem? (i := 17) rfl))) (ty := .int) (by decide)
      have f8 : Fld Z h5 b5 "com/example/lambdagrove/lambdagrove/Tree$Path" "climb" "I" (.int (0 : Int32)) := D5 (Or.inr (hw _ (List.mem_of_getElem? (i := 19) rfl))) (ty := .int) (by decide)
      have f9 : Fld Z h5 b5 "com/example/lambdagrove/lambdagrove/Tree$Path" "fibres" "[I" .null := D5 (Or.inr (hw _ (List.mem_of_getElem? (i := 21) rfl))) (ty := (.array .int)) (by decide)
      refine own_by st5 ?_
      show own_Go p.tables e below (T5.setTop (mkF m 90 #[.val (.int p0), .val (.int p1), .val (.int p2), .val (.int p3), .val (.int p4), .val (.int p5), .val (.int (0 : Int32)), .val (.ref b2), .val (.int (0 : Int32)), .unset, .unset] [(.ref b5)])) _
      refine own_by (fun _ kt => XS.dup X5.here hx rfl (hb hby at_90) rfl rfl kt) ?_
      show own_Go p.tables e below (T5.setTop (mkF m 91 #[.val (.int p0), .val (.int p1), .val (.int p2), .val (.int p3), .val (.int p4), .val (.int p5), .val (.int (0 : Int32)), .val (.ref b2), .val (.int (0 : Int32)), .unset, .unset] [(.ref b5), (.ref b5)])) _
      refine own_by (fun _ kt => XS.iload X5.here hx rfl (hb hby at_91) rfl kt) ?_
      show own_Go p.tables e below (T5.setTop (mkF m 93 #[.val (.int p0), .val (.int p1), .val (.int p2), .val (.int p3), .val (.int p4), .val (.int p5), .val (.int (0 : Int32)), .val (.ref b2), .val (.int (0 : Int32)), .unset, .unset] [(.int p5), (.ref b5), (.ref b5)])) _
      refine own_by (fun _ kt => XS.iload X5.here hx rfl (hb hby at_93) rfl kt) ?_
      show own_Go p.tables e below (T5.setTop (mkF m 95 #[.val (.int p0), .val (.int p1), .val (.int p2), .val (.int p3), .val (.int p4), .val (.int p5), .val (.int (0 : Int32)), .val (.ref b2), .val (.int (0 : Int32)), .unset, .unset] [(.int (0 : Int32)), (.int p5), (.ref b5), (.ref b5)])) _
      refine own_by (fun _ kt => XS.aload X5.here hx rfl (hb hby at_95) rfl rfl kt) ?_
      show own_Go p.tables e below (T5.setTop (mkF m 97 #[.val (.int p0), .val (.int p1), .val (.int p2), .val (.int p3), .val (.int p4), .val (.int p5), .val (.int (0 : Int32)), .val (.ref b2), .val (.int (0 : Int32)), .unset, .unset] [(.ref b2), (.int (0 : Int32)), (.int p5), (.ref b5), (.ref b5)])) _
      obtain ⟨_, _, ⟨T10, L10, k10, n10⟩, -, X10, ⟨Lc10, hQ10, l10, y10, z10⟩, st10⟩ := X5.specialBack hx (y := (⟨"com/example/lambdagrove/lambdagrove/Tree$Path", "<init>", "(II[I)V"⟩ : MethodName)) rfl hown (mvT hZ (hw _ (List.mem_of_getElem? (i := 5) rfl))) (mvT hZ (hw _ (List.mem_of_getElem? (i := 6) rfl))) (mvT hZ (hw _ (List.mem_of_getElem? (i := 7) rfl))) (by decide) (backOf (W := 1) (rm_init l Z a0 hw [] b5 p5 (0 : Int32) b2  h5 n0 Zs5 f7 f8 f9 A5 gn_b5) hZ (hw _ (List.mem_of_getElem? (i := 7) rfl)) (hw _ (List.mem_of_getElem? (i := 4) rfl)) (by decide) (by decide)) (g := (mkF m 97 #[.val (.int p0), .val (.int p1), .val (.int p2), .val (.int p3), .val (.int p4), .val (.int p5), .val (.int (0 : Int32)), .val (.ref b2), .val (.int (0 : Int32)), .unset, .unset] [(.ref b2), (.int (0 : Int32)), (.int p5), (.ref b5), (.ref b5)])) rfl (by rw [hml]; rfl) (Steps.refl _) (a := b5) (argsL := [(.int p5), (.int (0 : Int32)), (.ref b2)]) (rest := [(.ref b5)]) (lenOf pd_1 rfl) rfl (by show 2 * 0 + _ ≤ _; exact Nat.le_of_eq rfl) (hb hby at_97) (fun _ _ => ⟨rfl, e5, (by decide : 2 + 0 ≤ _), (by decide : 3 + 0 ≤ _)⟩)
      dsimp only [Pt.U, Pt.locs, Pt.cells, Pt.slots] at X10 l10 y10 z10 st10 hQ10
      subst l10 y10 z10
      obtain ⟨rfl, Nq10, K10, f10_0, f10_1, f10_2, f10_3⟩ := hQ10
      have f11 := f6.keep K10 (own_nin ne_b2_b5)
      have f12 := A5.keep K10
      have Zs10 : n0 ≤ T10.heap.size := Nat.le_trans Zs5 K10.1
      have N10 := Fr.app N0 Nq10
      refine own_by (fun _ kt => st10.trans kt) ?_
      show own_Go p.tables e below (T10.setTop (mkF m 100 #[.val (.int p0), .val (.int p1), .val (.int p2), .val (.int p3), .val (.int p4), .val (.int p5), .val (.int (0 : Int32)), .val (.ref b2), .val (.int (0 : Int32)), .unset, .unset] [(.ref b5)])) _
      refine own_by (fun _ kt => XS.astore X10.here hx rfl (hb hby at_100) rfl rfl (l' := #[.val (.int p0), .val (.int p1), .val (.int p2), .val (.int p3), .val (.int p4), .val (.int p5), .val (.int (0 : Int32)), .val (.ref b2), .val (.int (0 : Int32)), .val (.ref b5), .unset]) rfl kt) ?_
      show own_Go p.tables e below (T10.setTop (mkF m 102 #[.val (.int p0), .val (.int p1), .val (.int p2), .val (.int p3), .val (.int p4), .val (.int p5), .val (.int (0 : Int32)), .val (.ref b2), .val (.int (0 : Int32)), .val (.ref b5), .unset] [])) _
      refine own_by (fun _ kt => XS.iload X10.here hx rfl (hb hby at_102) rfl kt) ?_
      show own_Go p.tables e below (T10.setTop (mkF m 104 #[.val (.int p0), .val (.int p1), .val (.int p2), .val (.int p3), .val (.int p4), .val (.int p5), .val (.int (0 : Int32)), .val (.ref b2), .val (.int (0 : Int32)), .val (.ref b5), .unset] [(.int (0 : Int32))])) _
      refine own_by (fun _ kt => XS.iload X10.here hx rfl (hb hby at_104) rfl kt) ?_
      show own_Go p.tables e below (T10.setTop (mkF m 106 #[.val (.int p0), .val (.int p1), .val (.int p2), .val (.int p3), .val (.int p4), .val (.int p5), .val (.int (0 : Int32)), .val (.ref b2), .val (.int (0 : Int32)), .val (.ref b5), .unset] [(.int (0 : Int32)), (.int (0 : Int32))])) _
      refine own_by (fun _ kt => XS.icmpNo X10.here hx rfl (hb hby at_106) rfl (teq (by decide : (0 : Int32) = (0 : Int32))).2 kt) ?_
      show own_Go p.tables e below (T10.setTop (mkF m 109 #[.val (.int p0), .val (.int p1), .val (.int p2), .val (.int p3), .val (.int p4), .val (.int p5), .val (.int (0 : Int32)), .val (.ref b2), .val (.int (0 : Int32)), .val (.ref b5), .unset] [])) _
      refine own_by (fun _ kt => XS.iconst X10.here hx rfl (hb hby at_109) kt) ?_
      show own_Go p.tables e below (T10.setTop (mkF m 110 #[.val (.int p0), .val (.int p1), .val (.int p2), .val (.int p3), .val (.int p4), .val (.int p5), .val (.int (0 : Int32)), .val (.ref b2), .val (.int (0 : Int32)), .val (.ref b5), .unset] [(.int (-1 : Int32))])) _
      refine own_by (fun _ kt => XS.istore X10.here hx rfl (hb hby at_110) rfl (l' := #[.val (.int p0), .val (.int p1), .val (.int p2), .val (.int p3), .val (.int p4), .val (.int p5), .val (.int (0 : Int32)), .val (.ref b2), .val (.int (0 : Int32)), .val (.ref b5), .val (.int (-1 : Int32))]) rfl kt) ?_
      show own_Go p.tables e below (T10.setTop (mkF m 112 #[.val (.int p0), .val (.int p1), .val (.int p2), .val (.int p3), .val (.int p4), .val (.int p5), .val (.int (0 : Int32)), .val (.ref b2), .val (.int (0 : Int32)), .val (.ref b5), .val (.int (-1 : Int32))] [])) _
      refine own_by (fun _ kt => XS.goto X10.here hx rfl (pc0 := 112) (pc' := 142) rfl (hb hby at_112) (by decide) (by decide) kt) ?_
      show own_Go p.tables e below (T10.setTop (mkF m 142 #[.val (.int p0), .val (.int p1), .val (.int p2), .val (.int p3), .val (.int p4), .val (.int p5), .val (.int (0 : Int32)), .val (.ref b2), .val (.int (0 : Int32)), .val (.ref b5), .val (.int (-1 : Int32))] [])) _
      refine own_by (fun _ kt => XS.aload X10.here hx rfl (hb hby at_142) rfl rfl kt) ?_
      show own_Go p.tables e below (T10.setTop (mkF m 144 #[.val (.int p0), .val (.int p1), .val (.int p2), .val (.int p3), .val (.int p4), .val (.int p5), .val (.int (0 : Int32)), .val (.ref b2), .val (.int (0 : Int32)), .val (.ref b5), .val (.int (-1 : Int32))] [(.ref b5)])) _
      obtain ⟨cq13, kq13, q13a, q13b, q13c⟩ := isOf hZ rfl f10_0
      obtain ⟨_, _, ⟨T13, L13, k13, n13⟩, -, X13, ⟨Lc13, hQ13, l13, y13, z13⟩, st13⟩ := X10.virtualBack hx (y := (⟨"com/example/lambdagrove/lambdagrove/Tree$Path", "outOfTop", "()I"⟩ : MethodName)) (z := (⟨"com/example/lambdagrove/lambdagrove/Tree$Path", "outOfTop", "()I"⟩ : MethodName)) hown (mvT hZ (hw _ (List.mem_of_getElem? (i := 22) rfl))) (mvT hZ (hw _ (List.mem_of_getElem? (i := 23) rfl))) (notFace_of_selects (args := #[]) (mvT hZ (hw _ (List.mem_of_getElem? (i := 25) rfl)))) (mvT hZ (hw _ (List.mem_of_getElem? (i := 25) rfl))) (mvT hZ (hw _ (List.mem_of_getElem? (i := 24) rfl))) (by decide) (backOf (W := 0) (rm_out l Z a0 hw [] b5 ((0 : Int32)) (b2) (k2) ([]) ((0 : Int32)) ((0 : Int32)) T10.heap n0 Zs10 f10_2 f10_3 f11 (by decide) (fun hh => by first | rfl | exact absurd hh (by decide))) hZ (hw _ (List.mem_of_getElem? (i := 26) rfl)) (hw _ (List.mem_of_getElem? (i := 4) rfl)) (by decide) (by decide)) q13a q13c (g := (mkF m 144 #[.val (.int p0), .val (.int p1), .val (.int p2), .val (.int p3), .val (.int p4), .val (.int p5), .val (.int (0 : Int32)), .val (.ref b2), .val (.int (0 : Int32)), .val (.ref b5), .val (.int (-1 : Int32))] [(.ref b5)])) rfl (by rw [hml]; rfl) (Steps.refl _) (argsL := []) (rest := []) (lenOf pd_2 rfl) rfl (by show 2 * 0 + _ ≤ _; exact Nat.le_of_eq rfl) (hb hby at_144) (fun _ _ => ⟨rfl, rfl, (by decide : 2 + 0 ≤ _), (by decide : 3 + 0 ≤ _)⟩)
      dsimp only [Pt.U, Pt.locs, Pt.cells, Pt.slots] at X13 l13 y13 z13 st13 hQ13
      subst l13 y13 z13
      obtain ⟨rfl, Nq13, eh13⟩ := hQ13
      have N13 := Fr.app N10 Nq13
      refine own_by (fun _ kt => st13.trans kt) ?_
      show own_Go p.tables e below (T13.setTop (mkF m 147 #[.val (.int p0), .val (.int p1), .val (.int p2), .val (.int p3), .val (.int p4), .val (.int p5), .val (.int (0 : Int32)), .val (.ref b2), .val (.int (0 : Int32)), .val (.ref b5), .val (.int (-1 : Int32))] [(.int (own_out (0 : Int32) (0 : Int32) (0 : Int32)))])) _
      refine own_by (fun _ kt => XS.iload X13.here hx rfl (hb hby at_147) rfl kt) ?_
      show own_Go p.tables e below (T13.setTop (mkF m 149 #[.val (.int p0), .val (.int p1), .val (.int p2), .val (.int p3), .val (.int p4), .val (.int p5), .val (.int (0 : Int32)), .val (.ref b2), .val (.int (0 : Int32)), .val (.ref b5), .val (.int (-1 : Int32))] [(.int (-1 : Int32)), (.int (own_out (0 : Int32) (0 : Int32) (0 : Int32)))])) _
      refine own_by (fun _ kt => XS.icmpNo X13.here hx rfl (hb hby at_149) rfl (teq (rfl : (own_out (0 : Int32) (0 : Int32) (0 : Int32)) = (-1 : Int32))).2 kt) ?_
      show own_Go p.tables e below (T13.setTop (mkF m 152 #[.val (.int p0), .val (.int p1), .val (.int p2), .val (.int p3), .val (.int p4), .val (.int p5), .val (.int (0 : Int32)), .val (.ref b2), .val (.int (0 : Int32)), .val (.ref b5), .val (.int (-1 : Int32))] [])) _
      refine own_by (fun _ kt => XS.iconst X13.here hx rfl (hb hby at_152) kt) ?_
      show own_Go p.tables e below (T13.setTop (mkF m 153 #[.val (.int p0), .val (.int p1), .val (.int p2), .val (.int p3), .val (.int p4), .val (.int p5), .val (.int (0 : Int32)), .val (.ref b2), .val (.int (0 : Int32)), .val (.ref b5), .val (.int (-1 : Int32))] [(.int (1 : Int32))])) _
      refine own_by (fun _ kt => XS.goto X13.here hx rfl (pc0 := 153) (pc' := 157) rfl (hb hby at_153) (by decide) (by decide) kt) ?_
      show own_Go p.tables e below (T13.setTop (mkF m 157 #[.val (.int p0), .val (.int p1), .val (.int p2), .val (.int p3), .val (.int p4), .val (.int p5), .val (.int (0 : Int32)), .val (.ref b2), .val (.int (0 : Int32)), .val (.ref b5), .val (.int (-1 : Int32))] [(.int (1 : Int32))])) _
      exact own_retN X13 hx (t := .boolean) Bd.returns hlk (by simp) (hb hby at_157) ⟨rfl, N13⟩ (by decide) (by decide)
  · rw [hs3_1]
    show own_Go p.tables e below (s₁.setTop (mkF m 3 #[.val (.int p0), .val (.int p1), .val (.int p2), .val (.int p3), .val (.int p4), .val (.int p5), .unset, .unset, .unset, .unset, .unset] [(.int (1 : Int32))])) _
    refine own_by (fun _ kt => XS.istore X0.here hx rfl (hb hby at_3) rfl (l' := #[.val (.int p0), .val (.int p1), .val (.int p2), .val (.int p3), .val (.int p4), .val (.int p5), .val (.int (1 : Int32)), .unset, .unset, .unset, .unset]) rfl kt) ?_
    show own_Go p.tables e below (s₁.setTop (mkF m 5 #[.val (.int p0), .val (.int p1), .val (.int p2), .val (.int p3), .val (.int p4), .val (.int p5), .val (.int (1 : Int32)), .unset, .unset, .unset, .unset] [])) _
    refine own_by (fun _ kt => XS.iload X0.here hx rfl (hb hby at_5) rfl kt) ?_
    show own_Go p.tables e below (s₁.setTop (mkF m 7 #[.val (.int p0), .val (.int p1), .val (.int p2), .val (.int p3), .val (.int p4), .val (.int p5), .val (.int (1 : Int32)), .unset, .unset, .unset, .unset] [(.int (1 : Int32))])) _
    refine own_by (fun _ kt => XS.ifYes X0.here hx rfl (pc0 := 7) (pc' := 18) rfl (hb hby at_7) rfl ((if0 _ _).trans (feq (by decide : ¬ ((1 : Int32) = (0 : Int32)))).2) (by decide) (by decide) kt) ?_
    show own_Go p.tables e below (s₁.setTop (mkF m 18 #[.val (.int p0), .val (.int p1), .val (.int p2), .val (.int p3), .val (.int p4), .val (.int p5), .val (.int (1 : Int32)), .unset, .unset, .unset, .unset] [])) _
    refine own_by (fun _ kt => XS.iload X0.here hx rfl (hb hby at_18) rfl kt) ?_
    show own_Go p.tables e below (s₁.setTop (mkF m 20 #[.val (.int p0), .val (.int p1), .val (.int p2), .val (.int p3), .val (.int p4), .val (.int p5), .val (.int (1 : Int32)), .unset, .unset, .unset, .unset] [(.int (1 : Int32))])) _
    refine own_by (fun _ kt => XS.iconst X0.here hx rfl (hb hby at_20) kt) ?_
    show own_Go p.tables e below (s₁.setTop (mkF m 21 #[.val (.int p0), .val (.int p1), .val (.int p2), .val (.int p3), .val (.int p4), .val (.int p5), .val (.int (1 : Int32)), .unset, .unset, .unset, .unset] [(.int (1 : Int32)), (.int (1 : Int32))])) _
    refine own_by (fun _ kt => XS.icmpNo X0.here hx rfl (hb hby at_21) rfl (teq (by decide : (1 : Int32) = (1 : Int32))).2 kt) ?_
    show own_Go p.tables e below (s₁.setTop (mkF m 24 #[.val (.int p0), .val (.int p1), .val (.int p2), .val (.int p3), .val (.int p4), .val (.int p5), .val (.int (1 : Int32)), .unset, .unset, .unset, .unset] [])) _
    refine own_by (fun _ kt => XS.iconst X0.here hx rfl (hb hby at_24) kt) ?_
    show own_Go p.tables e below (s₁.setTop (mkF m 25 #[.val (.int p0), .val (.int p1), .val (.int p2), .val (.int p3), .val (.int p4), .val (.int p5), .val (.int (1 : Int32)), .unset, .unset, .unset, .unset] [(.int (1 : Int32))])) _
    obtain ⟨T14, h14, k14, X14, e14, E14, A14, st14⟩ := newP X0 hx hZ (hw _ (List.mem_of_getElem? (i := 0) rfl)) e0 (g := (mkF m 25 #[.val (.int p0), .val (.int p1), .val (.int p2), .val (.int p3), .val (.int p4), .val (.int p5), .val (.int (1 : Int32)), .unset, .unset, .unset, .unset] [(.int (1 : Int32))])) rfl (hb hby at_25) rfl (by decide) (cap := 1) (by decide) (by decide) (by decide) (by decide)
    obtain ⟨b14, g14⟩ : ∃ z, z = h0.size := ⟨_, rfl⟩
    rw [← g14] at A14 st14
    have gn_b14 : n0 ≤ b14 := Nat.le_trans Z0 (Nat.le_of_eq g14.symm)
    have Zs14 : n0 ≤ h14.size := Nat.le_trans Z0 E14.1
    have f15 : Arv Z h14 b14 k14 .int (1 : Int32) [(.int (0 : Int32))] (.int (0 : Int32)) := (Arv.new A14 (by decide)).pad (pad_rep [] (.int (0 : Int32)) 1)
    refine own_by st14 ?_
    show own_Go p.tables e below (T14.setTop (mkF m 27 #[.val (.int p0), .val (.int p1), .val (.int p2), .val (.int p3), .val (.int p4), .val (.int p5), .val (.int (1 : Int32)), .unset, .unset, .unset, .unset] [(.ref b14)])) _
    refine own_by (fun _ kt => XS.dup X14.here hx rfl (hb hby at_27) rfl rfl kt) ?_
    show own_Go p.tables e below (T14.setTop (mkF m 28 #[.val (.int p0), .val (.int p1), .val (.int p2), .val (.int p3), .val (.int p4), .val (.int p5), .val (.int (1 : Int32)), .unset, .unset, .unset, .unset] [(.ref b14), (.ref b14)])) _
    refine own_by (fun _ kt => XS.iconst X14.here hx rfl (hb hby at_28) kt) ?_
    show own_Go p.tables e below (T14.setTop (mkF m 29 #[.val (.int p0), .val (.int p1), .val (.int p2), .val (.int p3), .val (.int p4), .val (.int p5), .val (.int (1 : Int32)), .unset, .unset, .unset, .unset] [(.int (0 : Int32)), (.ref b14), (.ref b14)])) _
    refine own_by (fun _ kt => XS.iloadN X14.here hx rfl (hb hby at_29) rfl kt) ?_
    show own_Go p.tables e below (T14.setTop (mkF m 30 #[.val (.int p0), .val (.int p1), .val (.int p2), .val (.int p3), .val (.int p4), .val (.int p5), .val (.int (1 : Int32)), .unset, .unset, .unset, .unset] [(.int p2), (.int (0 : Int32)), (.ref b14), (.ref b14)])) _
    obtain ⟨cl16, Ar16, q16, S16, M16, H16, G16⟩ := f15
    obtain ⟨T16, h16, X16, e16, W16, st16⟩ := stI X14 hx hZ e14 Ar16 (j := (0 : Int32)) (inb_of S16 ⟨by decide, by decide⟩) (g := (mkF m 30 #[.val (.int p0), .val (.int p1), .val (.int p2), .val (.int p3), .val (.int p4), .val (.int p5), .val (.int (1 : Int32)), .unset, .unset, .unset, .unset] [(.int p2), (.int (0 : Int32)), (.ref b14), (.ref b14)])) rfl rfl (hb hby at_30)
    have f17 : Arv Z h16 b14 k14 .int (1 : Int32) [(.int p2)] (.int (0 : Int32)) := Arv.set Ar16 q16 S16 M16 H16 G16 rfl W16 0 rfl (Nat.le_of_ble_eq_true rfl)
    have Zs16 : n0 ≤ h16.size := by rw [W16.size]; exact Zs14
    have N16 := Fr.snoc X16 N0 gn_b14
    refine own_by st16 ?_
    show own_Go p.tables e below (T16.setTop (mkF m 31 #[.val (.int p0), .val (.int p1), .val (.int p2), .val (.int p3), .val (.int p4), .val (.int p5), .val (.int (1 : Int32)), .unset, .unset, .unset, .unset] [(.ref b14)])) _
    refine own_by (fun _ kt => XS.astore X16.here hx rfl (hb hby at_31) rfl rfl (l' := #[.val (.int p0), .val (.int p1), .val (.int p2), .val (.int p3), .val (.int p4), .val (.int p5), .val (.int (1 : Int32)), .val (.ref b14), .unset, .unset, .unset]) rfl kt) ?_
    show own_Go p.tables e below (T16.setTop (mkF m 33 #[.val (.int p0), .val (.int p1), .val (.int p2), .val (.int p3), .val (.int p4), .val (.int p5), .val (.int (1 : Int32)), .val (.ref b14), .unset, .unset, .unset] [])) _
    refine own_by (fun _ kt => XS.goto X16.here hx rfl (pc0 := 33) (pc' := 76) rfl (hb hby at_33) (by decide) (by decide) kt) ?_
    show own_Go p.tables e below (T16.setTop (mkF m 76 #[.val (.int p0), .val (.int p1), .val (.int p2), .val (.int p3), .val (.int p4), .val (.int p5), .val (.int (1 : Int32)), .val (.ref b14), .unset, .unset, .unset] [])) _
    refine own_by (fun _ kt => XS.iloadN X16.here hx rfl (hb hby at_76) rfl kt) ?_
    show own_Go p.tables e below (T16.setTop (mkF m 77 #[.val (.int p0), .val (.int p1), .val (.int p2), .val (.int p3), .val (.int p4), .val (.int p5), .val (.int (1 : Int32)), .val (.ref b14), .unset, .unset, .unset] [(.int p1)])) _
    refine own_by (X16.ldcInt hx hown (mvT hZ (hw _ (List.mem_of_getElem? (i := 1) rfl))) (g := (mkF m 77 #[.val (.int p0), .val (.int p1), .val (.int p2), .val (.int p3), .val (.int p4), .val (.int p5), .val (.int (1 : Int32)), .val (.ref b14), .unset, .unset, .unset] [(.int p1)])) rfl (hb hby at_77)) ?_
    show own_Go p.tables e below (T16.setTop (mkF m 79 #[.val (.int p0), .val (.int p1), .val (.int p2), .val (.int p3), .val (.int p4), .val (.int p5), .val (.int (1 : Int32)), .val (.ref b14), .unset, .unset, .unset] [(.int (2147483647 : Int32)), (.int p1)])) _
    refine own_by (fun _ kt => XS.iand X16.here hx rfl (hb hby at_79) rfl kt) ?_
    show own_Go p.tables e below (T16.setTop (mkF m 80 #[.val (.int p0), .val (.int p1), .val (.int p2), .val (.int p3), .val (.int p4), .val (.int p5), .val (.int (1 : Int32)), .val (.ref b14), .unset, .unset, .unset] [(.int (p1 &&& (2147483647 : Int32)))])) _
    refine own_by (fun _ kt => XS.iload X16.here hx rfl (hb hby at_80) rfl kt) ?_
    show own_Go p.tables e below (T16.setTop (mkF m 82 #[.val (.int p0), .val (.int p1), .val (.int p2), .val (.int p3), .val (.int p4), .val (.int p5), .val (.int (1 : Int32)), .val (.ref b14), .unset, .unset, .unset] [(.int (1 : Int32)), (.int (p1 &&& (2147483647 : Int32)))])) _
    refine own_by (fun _ kt => XS.iconst X16.here hx rfl (hb hby at_82) kt) ?_
    show own_Go p.tables e below (T16.setTop (mkF m 83 #[.val (.int p0), .val (.int p1), .val (.int p2), .val (.int p3), .val (.int p4), .val (.int p5), .val (.int (1 : Int32)), .val (.ref b14), .unset, .unset, .unset] [(.int (1 : Int32)), (.int (1 : Int32)), (.int (p1 &&& (2147483647 : Int32)))])) _
    refine own_by (fun _ kt => XS.iadd X16.here hx rfl (hb hby at_83) rfl kt) ?_
    show own_Go p.tables e below (T16.setTop (mkF m 84 #[.val (.int p0), .val (.int p1), .val (.int p2), .val (.int p3), .val (.int p4), .val (.int p5), .val (.int (1 : Int32)), .val (.ref b14), .unset, .unset, .unset] [(.int ((1 : Int32) + (1 : Int32))), (.int (p1 &&& (2147483647 : Int32)))])) _
    rw [(by decide : ((1 : Int32) + (1 : Int32)) = (2 : Int32))]
    refine own_by (fun _ kt => iremM X16 hx rfl (hb hby at_84) rfl (by decide) kt) ?_
    show own_Go p.tables e below (T16.setTop (mkF m 85 #[.val (.int p0), .val (.int p1), .val (.int p2), .val (.int p3), .val (.int p4), .val (.int p5), .val (.int (1 : Int32)), .val (.ref b14), .unset, .unset, .unset] [(.int ((p1 &&& (2147483647 : Int32)) % (2 : Int32)))])) _
    rcases (own_mod2 _ : ((p1 &&& (2147483647 : Int32)) % (2 : Int32)) = (0 : Int32) ∨ ((p1 &&& (2147483647 : Int32)) % (2 : Int32)) = (1 : Int32)) with hs85_18 | hs85_18
    · rw [hs85_18]
      show own_Go p.tables e below (T16.setTop (mkF m 85 #[.val (.int p0), .val (.int p1), .val (.int p2), .val (.int p3), .val (.int p4), .val (.int p5), .val (.int (1 : Int32)), .val (.ref b14), .unset, .unset, .unset] [(.int (0 : Int32))])) _
      refine own_by (fun _ kt => XS.istore X16.here hx rfl (hb hby at_85) rfl (l' := #[.val (.int p0), .val (.int p1), .val (.int p2), .val (.int p3), .val (.int p4), .val (.int p5), .val (.int (1 : Int32)), .val (.ref b14), .val (.int (0 : Int32)), .unset, .unset]) rfl kt) ?_
      show own_Go p.tables e below (T16.setTop (mkF m 87 #[.val (.int p0), .val (.int p1), .val (.int p2), .val (.int p3), .val (.int p4), .val (.int p5), .val (.int (1 : Int32)), .val (.ref b14), .val (.int (0 : Int32)), .unset, .unset] [])) _
      obtain ⟨T19, h19, X19, e19, E19, A19, D19, -, st19⟩ := newO X16 hx hZ hown (hw _ (List.mem_of_getElem? (i := 2) rfl)) (hw _ (List.mem_of_getElem? (i := 3) rfl)) (hw _ (List.mem_of_getElem? (i := 4) rfl)) e16 (g := (mkF m 87 #[.val (.int p0), .val (.int p1), .val (.int p2), .val (.int p3), .val (.int p4), .val (.int p5), .val (.int (1 : Int32)), .val (.ref b14), .val (.int (0 : Int32)), .unset, .unset] [])) rfl (hb hby at_87) (by decide) (by decide)
      obtain ⟨b19, g19⟩ : ∃ z, z = h16.size := ⟨_, rfl⟩
      rw [← g19] at A19 D19 st19
      have gn_b19 : n0 ≤ b19 := Nat.le_trans Zs16 (Nat.le_of_eq g19.symm)
      have ne_b14_b19 : b14 ≠ b19 := Nat.ne_of_lt (Nat.lt_of_lt_of_le f17.lt (Nat.le_of_eq g19.symm))
      have f20 := f17.ext E19
      have Zs19 : n0 ≤ h19.size := Nat.le_trans Zs16 E19.1
      have f21 : Fld Z h19 b19 "com/example/lambdagrove/lambdagrove/Tree$Path" "top" "I" (.int (0 : Int32)) := D19 (Or.inr (hw _ (List.mem_of_getElem? (i := 17) rfl))) (ty := .int) (by decide)
      have f22 : Fld Z h19 b19 "com/example/lambdagrove/lambdagrove/Tree$Path" "climb" "I" (.int (0 : Int32)) := D19 (Or.inr (hw _ (List.mem_of_getElem? (i := 19) rfl))) (ty := .int) (by decide)
      have f23 : Fld Z h19 b19 "com/example/lambdagrove/lambdagrove/Tree$Path" "fibres" "[I" .null := D19 (Or.inr (hw _ (List.mem_of_getElem? (i := 21) rfl))) (ty := (.array .int)) (by decide)
      refine own_by st19 ?_
      show own_Go p.tables e below (T19.setTop (mkF m 90 #[.val (.int p0), .val (.int p1), .val (.int p2), .val (.int p3), .val (.int p4), .val (.int p5), .val (.int (1 : Int32)), .val (.ref b14), .val (.int (0 : Int32)), .unset, .unset] [(.ref b19)])) _
      refine own_by (fun _ kt => XS.dup X19.here hx rfl (hb hby at_90) rfl rfl kt) ?_
      show own_Go p.tables e below (T19.setTop (mkF m 91 #[.val (.int p0), .val (.int p1), .val (.int p2), .val (.int p3), .val (.int p4), .val (.int p5), .val (.int (1 : Int32)), .val (.ref b14), .val (.int (0 : Int32)), .unset, .unset] [(.ref b19), (.ref b19)])) _
      refine own_by (fun _ kt => XS.iload X19.here hx rfl (hb hby at_91) rfl kt) ?_
      show own_Go p.tables e below (T19.setTop (mkF m 93 #[.val (.int p0), .val (.int p1), .val (.int p2), .val (.int p3), .val (.int p4), .val (.int p5), .val (.int (1 : Int32)), .val (.ref b14), .val (.int (0 : Int32)), .unset, .unset] [(.int p5), (.ref b19), (.ref b19)])) _
      refine own_by (fun _ kt => XS.iload X19.here hx rfl (hb hby at_93) rfl kt) ?_
      show own_Go p.tables e below (T19.setTop (mkF m 95 #[.val (.int p0), .val (.int p1), .val (.int p2), .val (.int p3), .val (.int p4), .val (.int p5), .val (.int (1 : Int32)), .val (.ref b14), .val (.int (0 : Int32)), .unset, .unset] [(.int (0 : Int32)), (.int p5), (.ref b19), (.ref b19)])) _
      refine own_by (fun _ kt => XS.aload X19.here hx rfl (hb hby at_95) rfl rfl kt) ?_
      show own_Go p.tables e below (T19.setTop (mkF m 97 #[.val (.int p0), .val (.int p1), .val (.int p2), .val (.int p3), .val (.int p4), .val (.int p5), .val (.int (1 : Int32)), .val (.ref b14), .val (.int (0 : Int32)), .unset, .unset] [(.ref b14), (.int (0 : Int32)), (.int p5), (.ref b19), (.ref b19)])) _
      obtain ⟨_, _, ⟨T24, L24, k24, n24⟩, -, X24, ⟨Lc24, hQ24, l24, y24, z24⟩, st24⟩ := X19.specialBack hx (y := (⟨"com/example/lambdagrove/lambdagrove/Tree$Path", "<init>", "(II[I)V"⟩ : MethodName)) rfl hown (mvT hZ (hw _ (List.mem_of_getElem? (i := 5) rfl))) (mvT hZ (hw _ (List.mem_of_getElem? (i := 6) rfl))) (mvT hZ (hw _ (List.mem_of_getElem? (i := 7) rfl))) (by decide) (backOf (W := 1) (rm_init l Z a0 hw [] b19 p5 (0 : Int32) b14  h19 n0 Zs19 f21 f22 f23 A19 gn_b19) hZ (hw _ (List.mem_of_getElem? (i := 7) rfl)) (hw _ (List.mem_of_getElem? (i := 4) rfl)) (by decide) (by decide)) (g := (mkF m 97 #[.val (.int p0), .val (.int p1), .val (.int p2), .val (.int p3), .val (.int p4), .val (.int p5), .val (.int (1 : Int32)), .val (.ref b14), .val (.int (0 : Int32)), .unset, .unset] [(.ref b14), (.int (0 : Int32)), (.int p5), (.ref b19), (.ref b19)])) rfl (by rw [hml]; rfl) (Steps.refl _) (a := b19) (argsL := [(.int p5), (.int (0 : Int32)), (.ref b14)]) (rest := [(.ref b19)]) (lenOf pd_1 rfl) rfl (by show 2 * 0 + _ ≤ _; exact Nat.le_of_eq rfl) (hb hby at_97) (fun _ _ => ⟨rfl, e19, (by decide : 2 + 0 ≤ _), (by decide : 4 + 0 ≤ _)⟩)
      dsimp only [Pt.U, Pt.locs, Pt.cells, Pt.slots] at X24 l24 y24 z24 st24 hQ24
      subst l24 y24 z24
      obtain ⟨rfl, Nq24, K24, f24_0, f24_1, f24_2, f24_3⟩ := hQ24
      have f25 := f20.keep K24 (own_nin ne_b14_b19)
      have f26 := A19.keep K24
      have Zs24 : n0 ≤ T24.heap.size := Nat.le_trans Zs19 K24.1
      have N24 := Fr.app N16 Nq24
      refine own_by (fun _ kt => st24.trans kt) ?_
      show own_Go p.tables e below (T24.setTop (mkF m 100 #[.val (.int p0), .val (.int p1), .val (.int p2), .val (.int p3), .val (.int p4), .val (.int p5), .val (.int (1 : Int32)), .val (.ref b14), .val (.int (0 : Int32)), .unset, .unset] [(.ref b19)])) _
      refine own_by (fun _ kt => XS.astore X24.here hx rfl (hb hby at_100) rfl rfl (l' := #[.val (.int p0), .val (.int p1), .val (.int p2), .val (.int p3), .val (.int p4), .val (.int p5), .val (.int (1 : Int32)), .val (.ref b14), .val (.int (0 : Int32)), .val (.ref b19), .unset]) rfl kt) ?_
      show own_Go p.tables e below (T24.setTop (mkF m 102 #[.val (.int p0), .val (.int p1), .val (.int p2), .val (.int p3), .val (.int p4), .val (.int p5), .val (.int (1 : Int32)), .val (.ref b14), .val (.int (0 : Int32)), .val (.ref b19), .unset] [])) _
      refine own_by (fun _ kt => XS.iload X24.here hx rfl (hb hby at_102) rfl kt) ?_
      show own_Go p.tables e below (T24.setTop (mkF m 104 #[.val (.int p0), .val (.int p1), .val (.int p2), .val (.int p3), .val (.int p4), .val (.int p5), .val (.int (1 : Int32)), .val (.ref b14), .val (.int (0 : Int32)), .val (.ref b19), .unset] [(.int (0 : Int32))])) _
      refine own_by (fun _ kt => XS.iload X24.here hx rfl (hb hby at_104) rfl kt) ?_
      show own_Go p.tables e below (T24.setTop (mkF m 106 #[.val (.int p0), .val (.int p1), .val (.int p2), .val (.int p3), .val (.int p4), .val (.int p5), .val (.int (1 : Int32)), .val (.ref b14), .val (.int (0 : Int32)), .val (.ref b19), .unset] [(.int (1 : Int32)), (.int (0 : Int32))])) _
      refine own_by (fun _ kt => XS.icmpYes X24.here hx rfl (pc0 := 106) (pc' := 115) rfl (hb hby at_106) rfl (feq (by decide : ¬ ((0 : Int32) = (1 : Int32)))).2 (by decide) (by decide) kt) ?_
      show own_Go p.tables e below (T24.setTop (mkF m 115 #[.val (.int p0), .val (.int p1), .val (.int p2), .val (.int p3), .val (.int p4), .val (.int p5), .val (.int (1 : Int32)), .val (.ref b14), .val (.int (0 : Int32)), .val (.ref b19), .unset] [])) _
      refine own_by (fun _ kt => XS.iload X24.here hx rfl (hb hby at_115) rfl kt) ?_
      show own_Go p.tables e below (T24.setTop (mkF m 117 #[.val (.int p0), .val (.int p1), .val (.int p2), .val (.int p3), .val (.int p4), .val (.int p5), .val (.int (1 : Int32)), .val (.ref b14), .val (.int (0 : Int32)), .val (.ref b19), .unset] [(.int (0 : Int32))])) _
      refine own_by (fun _ kt => XS.ifNo X24.here hx rfl (hb hby at_117) rfl ((if0 _ _).trans (teq (by decide : (0 : Int32) = (0 : Int32))).2) kt) ?_
      show own_Go p.tables e below (T24.setTop (mkF m 120 #[.val (.int p0), .val (.int p1), .val (.int p2), .val (.int p3), .val (.int p4), .val (.int p5), .val (.int (1 : Int32)), .val (.ref b14), .val (.int (0 : Int32)), .val (.ref b19), .unset] [])) _
      refine own_by (fun _ kt => XS.iloadN X24.here hx rfl (hb hby at_120) rfl kt) ?_
      show own_Go p.tables e below (T24.setTop (mkF m 121 #[.val (.int p0), .val (.int p1), .val (.int p2), .val (.int p3), .val (.int p4), .val (.int p5), .val (.int (1 : Int32)), .val (.ref b14), .val (.int (0 : Int32)), .val (.ref b19), .unset] [(.int p2)])) _
      refine own_by (fun _ kt => XS.istore X24.here hx rfl (hb hby at_121) rfl (l' := #[.val (.int p0), .val (.int p1), .val (.int p2), .val (.int p3), .val (.int p4), .val (.int p5), .val (.int (1 : Int32)), .val (.ref b14), .val (.int (0 : Int32)), .val (.ref b19), .val (.int p2)]) rfl kt) ?_
      show own_Go p.tables e below (T24.setTop (mkF m 123 #[.val (.int p0), .val (.int p1), .val (.int p2), .val (.int p3), .val (.int p4), .val (.int p5), .val (.int (1 : Int32)), .val (.ref b14), .val (.int (0 : Int32)), .val (.ref b19), .val (.int p2)] [])) _
      refine own_by (fun _ kt => XS.goto X24.here hx rfl (pc0 := 123) (pc' := 142) rfl (hb hby at_123) (by decide) (by decide) kt) ?_
      show own_Go p.tables e below (T24.setTop (mkF m 142 #[.val (.int p0), .val (.int p1), .val (.int p2), .val (.int p3), .val (.int p4), .val (.int p5), .val (.int (1 : Int32)), .val (.ref b14), .val (.int (0 : Int32)), .val (.ref b19), .val (.int p2)] [])) _
      refine own_by (fun _ kt => XS.aload X24.here hx rfl (hb hby at_142) rfl rfl kt) ?_
      show own_Go p.tables e below (T24.setTop (mkF m 144 #[.val (.int p0), .val (.int p1), .val (.int p2), .val (.int p3), .val (.int p4), .val (.int p5), .val (.int (1 : Int32)), .val (.ref b14), .val (.int (0 : Int32)), .val (.ref b19), .val (.int p2)] [(.ref b19)])) _
      obtain ⟨cq27, kq27, q27a, q27b, q27c⟩ := isOf hZ rfl f24_0
      obtain ⟨_, _, ⟨T27, L27, k27, n27⟩, -, X27, ⟨Lc27, hQ27, l27, y27, z27⟩, st27⟩ := X24.virtualBack hx (y := (⟨"com/example/lambdagrove/lambdagrove/Tree$Path", "outOfTop", "()I"⟩ : MethodName)) (z := (⟨"com/example/lambdagrove/lambdagrove/Tree$Path", "outOfTop", "()I"⟩ : MethodName)) hown (mvT hZ (hw _ (List.mem_of_getElem? (i := 22) rfl))) (mvT hZ (hw _ (List.mem_of_getElem? (i := 23) rfl))) (notFace_of_selects (args := #[]) (mvT hZ (hw _ (List.mem_of_getElem? (i := 25) rfl)))) (mvT hZ (hw _ (List.mem_of_getElem? (i := 25) rfl))) (mvT hZ (hw _ (List.mem_of_getElem? (i := 24) rfl))) (by decide) (backOf (W := 0) (rm_out l Z a0 hw [] b19 ((0 : Int32)) (b14) (k14) ([(.int p2)]) ((1 : Int32)) (p2) T24.heap n0 Zs24 f24_2 f24_3 f25 (by decide) (fun hh => by first | rfl | exact absurd hh (by decide))) hZ (hw _ (List.mem_of_getElem? (i := 26) rfl)) (hw _ (List.mem_of_getElem? (i := 4) rfl)) (by decide) (by decide)) q27a q27c (g := (mkF m 144 #[.val (.int p0), .val (.int p1), .val (.int p2), .val (.int p3), .val (.int p4), .val (.int p5), .val (.int (1 : Int32)), .val (.ref b14), .val (.int (0 : Int32)), .val (.ref b19), .val (.int p2)] [(.ref b19)])) rfl (by rw [hml]; rfl) (Steps.refl _) (argsL := []) (rest := []) (lenOf pd_2 rfl) rfl (by show 2 * 0 + _ ≤ _; exact Nat.le_of_eq rfl) (hb hby at_144) (fun _ _ => ⟨rfl, rfl, (by decide : 2 + 0 ≤ _), (by decide : 4 + 0 ≤ _)⟩)
      dsimp only [Pt.U, Pt.locs, Pt.cells, Pt.slots] at X27 l27 y27 z27 st27 hQ27
      subst l27 y27 z27
      obtain ⟨rfl, Nq27, eh27⟩ := hQ27
      have N27 := Fr.app N24 Nq27
      refine own_by (fun _ kt => st27.trans kt) ?_
      show own_Go p.tables e below (T27.setTop (mkF m 147 #[.val (.int p0), .val (.int p1), .val (.int p2), .val (.int p3), .val (.int p4), .val (.int p5), .val (.int (1 : Int32)), .val (.ref b14), .val (.int (0 : Int32)), .val (.ref b19), .val (.int p2)] [(.int (own_out (0 : Int32) (1 : Int32) p2))])) _
      refine own_by (fun _ kt => XS.iload X27.here hx rfl (hb hby at_147) rfl kt) ?_
      show own_Go p.tables e below (T27.setTop (mkF m 149 #[.val (.int p0), .val (.int p1), .val (.int p2), .val (.int p3), .val (.int p4), .val (.int p5), .val (.int (1 : Int32)), .val (.ref b14), .val (.int (0 : Int32)), .val (.ref b19), .val (.int p2)] [(.int p2), (.int (own_out (0 : Int32) (1 : Int32) p2))])) _
      refine own_by (fun _ kt => XS.icmpNo X27.here hx rfl (hb hby at_149) rfl (teq (rfl : (own_out (0 : Int32) (1 : Int32) p2) = p2)).2 kt) ?_
      show own_Go p.tables e below (T27.setTop (mkF m 152 #[.val (.int p0), .val (.int p1), .val (.int p2), .val (.int p3), .val (.int p4), .val (.int p5), .val (.int (1 : Int32)), .val (.ref b14), .val (.int (0 : Int32)), .val (.ref b19), .val (.int p2)] [])) _
      refine own_by (fun _ kt => XS.iconst X27.here hx rfl (hb hby at_152) kt) ?_
      show own_Go p.tables e below (T27.setTop (mkF m 153 #[.val (.int p0), .val (.int p1), .val (.int p2), .val (.int p3), .val (.int p4), .val (.int p5), .val (.int (1 : Int32)), .val (.ref b14), .val (.int (0 : Int32)), .val (.ref b19), .val (.int p2)] [(.int (1 : Int32))])) _
      refine own_by (fun _ kt => XS.goto X27.here hx rfl (pc0 := 153) (pc' := 157) rfl (hb hby at_153) (by decide) (by decide) kt) ?_
      show own_Go p.tables e below (T27.setTop (mkF m 157 #[.val (.int p0), .val (.int p1), .val (.int p2), .val (.int p3), .val (.int p4), .val (.int p5), .val (.int (1 : Int32)), .val (.ref b14), .val (.int (0 : Int32)), .val (.ref b19), .val (.int p2)] [(.int (1 : Int32))])) _
      exact own_retN X27 hx (t := .boolean) Bd.returns hlk (by simp) (hb hby at_157) ⟨rfl, N27⟩ (by decide) (by decide)
    · rw [hs85_18]
      show own_Go p.tables e below (T16.setTop (mkF m 85 #[.val (.int p0), .val (.int p1), .val (.int p2), .val (.int p3), .val (.int p4), .val (.int p5), .val (.int (1 : Int32)), .val (.ref b14), .unset, .unset, .unset] [(.int (1 : Int32))])) _
      refine own_by (fun _ kt => XS.istore X16.here hx rfl (hb hby at_85) rfl (l' := #[.val (.int p0), .val (.int p1), .val (.int p2), .val (.int p3), .val (.int p4), .val (.int p5), .val (.int (1 : Int32)), .val (.ref b14), .val (.int (1 : Int32)), .unset, .unset]) rfl kt) ?_
      show own_Go p.tables e below (T16.setTop (mkF m 87 #[.val (.int p0), .val (.int p1), .val (.int p2), .val (.int p3), .val (.int p4), .val (.int p5), .val (.int (1 : Int32)), .val (.ref b14), .val (.int (1 : Int32)), .unset, .unset] [])) _
      obtain ⟨T28, h28, X28, e28, E28, A28, D28, -, st28⟩ := newO X16 hx hZ hown (hw _ (List.mem_of_getElem? (i := 2) rfl)) (hw _ (List.mem_of_getElem? (i := 3) rfl)) (hw _ (List.mem_of_getElem? (i := 4) rfl)) e16 (g := (mkF m 87 #[.val (.int p0), .val (.int p1), .val (.int p2), .val (.int p3), .val (.int p4), .val (.int p5), .val (.int (1 : Int32)), .val (.ref b14), .val (.int (1 : Int32)), .unset, .unset] [])) rfl (hb hby at_87) (by decide) (by decide)
      obtain ⟨b28, g28⟩ : ∃ z, z = h16.size := ⟨_, rfl⟩
      rw [← g28] at A28 D28 st28
      have gn_b28 : n0 ≤ b28 := Nat.le_trans Zs16 (Nat.le_of_eq g28.symm)
      have ne_b14_b28 : b14 ≠ b28 := Nat.ne_of_lt (Nat.lt_of_lt_of_le f17.lt (Nat.le_of_eq g28.symm))
      have f29 := f17.ext E28
      have Zs28 : n0 ≤ h28.size := Nat.le_trans Zs16 E28.1
      have f30 : Fld Z h28 b28 "com/example/lambdagrove/lambdagrove/Tree$Path" "top" "I" (.int (0 : Int32)) := D28 (Or.inr (hw _ (List.mem_of_getElem? (i := 17) rfl))) (ty := .int) (by decide)
      have f31 : Fld Z h28 b28 "com/example/lambdagrove/lambdagrove/Tree$Path" "climb" "I" (.int (0 : Int32)) := D28 (Or.inr (hw _ (List.mem_of_getElem? (i := 19) rfl))) (ty := .int) (by decide)
      have f32 : Fld Z h28 b28 "com/example/lambdagrove/lambdagrove/Tree$Path" "fibres" "[I" .null := D28 (Or.inr (hw _ (List.mem_of_getElem? (i := 21) rfl))) (ty := (.array .int)) (by decide)
      refine own_by st28 ?_
      show own_Go p.tables e below (T28.setTop (mkF m 90 #[.val (.int p0), .val (.int p1), .val (.int p2), .val (.int p3), .val (.int p4), .val (.int p5), .val (.int (1 : Int32)), .val (.ref b14), .val (.int (1 : Int32)), .unset, .unset] [(.ref b28)])) _
      refine own_by (fun _ kt => XS.dup X28.here hx rfl (hb hby at_90) rfl rfl kt) ?_
      show own_Go p.tables e below (T28.setTop (mkF m 91 #[.val (.int p0), .val (.int p1), .val (.int p2), .val (.int p3), .val (.int p4), .val (.int p5), .val (.int (1 : Int32)), .val (.ref b14), .val (.int (1 : Int32)), .unset, .unset] [(.ref b28), (.ref b28)])) _
      refine own_by (fun _ kt => XS.iload X28.here hx rfl (hb hby at_91) rfl kt) ?_
      show own_Go p.tables e below (T28.setTop (mkF m 93 #[.val (.int p0), .val (.int p1), .val (.int p2), .val (.int p3), .val (.int p4), .val (.int p5), .val (.int (1 : Int32)), .val (.ref b14), .val (.int (1 : Int32)), .unset, .unset] [(.int p5), (.ref b28), (.ref b28)])) _
      refine own_by (fun _ kt => XS.iload X28.here hx rfl (hb hby at_93) rfl kt) ?_
      show own_Go p.tables e below (T28.setTop (mkF m 95 #[.val (.int p0), .val (.int p1), .val (.int p2), .val (.int p3), .val (.int p4), .val (.int p5), .val (.int (1 : Int32)), .val (.ref b14), .val (.int (1 : Int32)), .unset, .unset] [(.int (1 : Int32)), (.int p5), (.ref b28), (.ref b28)])) _
      refine own_by (fun _ kt => XS.aload X28.here hx rfl (hb hby at_95) rfl rfl kt) ?_
      show own_Go p.tables e below (T28.setTop (mkF m 97 #[.val (.int p0), .val (.int p1), .val (.int p2), .val (.int p3), .val (.int p4), .val (.int p5), .val (.int (1 : Int32)), .val (.ref b14), .val (.int (1 : Int32)), .unset, .unset] [(.ref b14), (.int (1 : Int32)), (.int p5), (.ref b28), (.ref b28)])) _
      obtain ⟨_, _, ⟨T33, L33, k33, n33⟩, -, X33, ⟨Lc33, hQ33, l33, y33, z33⟩, st33⟩ := X28.specialBack hx (y := (⟨"com/example/lambdagrove/lambdagrove/Tree$Path", "<init>", "(II[I)V"⟩ : MethodName)) rfl hown (mvT hZ (hw _ (List.mem_of_getElem? (i := 5) rfl))) (mvT hZ (hw _ (List.mem_of_getElem? (i := 6) rfl))) (mvT hZ (hw _ (List.mem_of_getElem? (i := 7) rfl))) (by decide) (backOf (W := 1) (rm_init l Z a0 hw [] b28 p5 (1 : Int32) b14  h28 n0 Zs28 f30 f31 f32 A28 gn_b28) hZ (hw _ (List.mem_of_getElem? (i := 7) rfl)) (hw _ (List.mem_of_getElem? (i := 4) rfl)) (by decide) (by decide)) (g := (mkF m 97 #[.val (.int p0), .val (.int p1), .val (.int p2), .val (.int p3), .val (.int p4), .val (.int p5), .val (.int (1 : Int32)), .val (.ref b14), .val (.int (1 : Int32)), .unset, .unset] [(.ref b14), (.int (1 : Int32)), (.int p5), (.ref b28), (.ref b28)])) rfl (by rw [hml]; rfl) (Steps.refl _) (a := b28) (argsL := [(.int p5), (.int (1 : Int32)), (.ref b14)]) (rest := [(.ref b28)]) (lenOf pd_1 rfl) rfl (by show 2 * 0 + _ ≤ _; exact Nat.le_of_eq rfl) (hb hby at_97) (fun _ _ => ⟨rfl, e28, (by decide : 2 + 0 ≤ _), (by decide : 4 + 0 ≤ _)⟩)
      dsimp only [Pt.U, Pt.locs, Pt.cells, Pt.slots] at X33 l33 y33 z33 st33 hQ33
      subst l33 y33 z33
      obtain ⟨rfl, Nq33, K33, f33_0, f33_1, f33_2, f33_3⟩ := hQ33
      have f34 := f29.keep K33 (own_nin ne_b14_b28)
      have f35 := A28.keep K33
      have Zs33 : n0 ≤ T33.heap.size := Nat.le_trans Zs28 K33.1
      have N33 := Fr.app N16 Nq33
      refine own_by (fun _ kt => st33.trans kt) ?_
      show own_Go p.tables e below (T33.setTop (mkF m 100 #[.val (.int p0), .val (.int p1), .val (.int p2), .val (.int p3), .val (.int p4), .val (.int p5), .val (.int (1 : Int32)), .val (.ref b14), .val (.int (1 : Int32)), .unset, .unset] [(.ref b28)])) _
      refine own_by (fun _ kt => XS.astore X33.here hx rfl (hb hby at_100) rfl rfl (l' := #[.val (.int p0), .val (.int p1), .val (.int p2), .val (.int p3), .val (.int p4), .val (.int p5), .val (.int (1 : Int32)), .val (.ref b14), .val (.int (1 : Int32)), .val (.ref b28), .unset]) rfl kt) ?_
      show own_Go p.tables e below (T33.setTop (mkF m 102 #[.val (.int p0), .val (.int p1), .val (.int p2), .val (.int p3), .val (.int p4), .val (.int p5), .val (.int (1 : Int32)), .val (.ref b14), .val (.int (1 : Int32)), .val (.ref b28), .unset] [])) _
      refine own_by (fun _ kt => XS.iload X33.here hx rfl (hb hby at_102) rfl kt) ?_
      show own_Go p.tables e below (T33.setTop (mkF m 104 #[.val (.int p0), .val (.int p1), .val (.int p2), .val (.int p3), .val (.int p4), .val (.int p5), .val (.int (1 : Int32)), .val (.ref b14), .val (.int (1 : Int32)), .val (.ref b28), .unset] [(.int (1 : Int32))])) _
      refine own_by (fun _ kt => XS.iload X33.here hx rfl (hb hby at_104) rfl kt) ?_
      show own_Go p.tables e below (T33.setTop (mkF m 106 #[.val (.int p0), .val (.int p1), .val (.int p2), .val (.int p3), .val (.int p4), .val (.int p5), .val (.int (1 : Int32)), .val (.ref b14), .val (.int (1 : Int32)), .val (.ref b28), .unset] [(.int (1 : Int32)), (.int (1 : Int32))])) _
      refine own_by (fun _ kt => XS.icmpNo X33.here hx rfl (hb hby at_106) rfl (teq (by decide : (1 : Int32) = (1 : Int32))).2 kt) ?_
      show own_Go p.tables e below (T33.setTop (mkF m 109 #[.val (.int p0), .val (.int p1), .val (.int p2), .val (.int p3), .val (.int p4), .val (.int p5), .val (.int (1 : Int32)), .val (.ref b14), .val (.int (1 : Int32)), .val (.ref b28), .unset] [])) _
      refine own_by (fun _ kt => XS.iconst X33.here hx rfl (hb hby at_109) kt) ?_
      show own_Go p.tables e below (T33.setTop (mkF m 110 #[.val (.int p0), .val (.int p1), .val (.int p2), .val (.int p3), .val (.int p4), .val (.int p5), .val (.int (1 : Int32)), .val (.ref b14), .val (.int (1 : Int32)), .val (.ref b28), .unset] [(.int (-1 : Int32))])) _
      refine own_by (fun _ kt => XS.istore X33.here hx rfl (hb hby at_110) rfl (l' := #[.val (.int p0), .val (.int p1), .val (.int p2), .val (.int p3), .val (.int p4), .val (.int p5), .val (.int (1 : Int32)), .val (.ref b14), .val (.int (1 : Int32)), .val (.ref b28), .val (.int (-1 : Int32))]) rfl kt) ?_
      show own_Go p.tables e below (T33.setTop (mkF m 112 #[.val (.int p0), .val (.int p1), .val (.int p2), .val (.int p3), .val (.int p4), .val (.int p5), .val (.int (1 : Int32)), .val (.ref b14), .val (.int (1 : Int32)), .val (.ref b28), .val (.int (-1 : Int32))] [])) _
      refine own_by (fun _ kt => XS.goto X33.here hx rfl (pc0 := 112) (pc' := 142) rfl (hb hby at_112) (by decide) (by decide) kt) ?_
      show own_Go p.tables e below (T33.setTop (mkF m 142 #[.val (.int p0), .val (.int p1), .val (.int p2), .val (.int p3), .val (.int p4), .val (.int p5), .val (.int (1 : Int32)), .val (.ref b14), .val (.int (1 : Int32)), .val (.ref b28), .val (.int (-1 : Int32))] [])) _
      refine own_by (fun _ kt => XS.aload X33.here hx rfl (hb hby at_142) rfl rfl kt) ?_
      show own_Go p.tables e below (T33.setTop (mkF m 144 #[.val (.int p0), .val (.int p1), .val (.int p2), .val (.int p3), .val (.int p4), .val (.int p5), .val (.int (1 : Int32)), .val (.ref b14), .val (.int (1 : Int32)), .val (.ref b28), .val (.int (-1 : Int32))] [(.ref b28)])) _
      obtain ⟨cq36, kq36, q36a, q36b, q36c⟩ := isOf hZ rfl f33_0
      obtain ⟨_, _, ⟨T36, L36, k36, n36⟩, -, X36, ⟨Lc36, hQ36, l36, y36, z36⟩, st36⟩ := X33.virtualBack hx (y := (⟨"com/example/lambdagrove/lambdagrove/Tree$Path", "outOfTop", "()I"⟩ : MethodName)) (z := (⟨"com/example/lambdagrove/lambdagrove/Tree$Path", "outOfTop", "()I"⟩ : MethodName)) hown (mvT hZ (hw _ (List.mem_of_getElem? (i := 22) rfl))) (mvT hZ (hw _ (List.mem_of_getElem? (i := 23) rfl))) (notFace_of_selects (args := #[]) (mvT hZ (hw _ (List.mem_of_getElem? (i := 25) rfl)))) (mvT hZ (hw _ (List.mem_of_getElem? (i := 25) rfl))) (mvT hZ (hw _ (List.mem_of_getElem? (i := 24) rfl))) (by decide) (backOf (W := 0) (rm_out l Z a0 hw [] b28 ((1 : Int32)) (b14) (k14) ([(.int p2)]) ((1 : Int32)) ((0 : Int32)) T33.heap n0 Zs33 f33_2 f33_3 f34 (by decide) (fun hh => by first | rfl | exact absurd hh (by decide))) hZ (hw _ (List.mem_of_getElem? (i := 26) rfl)) (hw _ (List.mem_of_getElem? (i := 4) rfl)) (by decide) (by decide)) q36a q36c (g := (mkF m 144 #[.val (.int p0), .val (.int p1), .val (.int p2), .val (.int p3), .val (.int p4), .val (.int p5), .val (.int (1 : Int32)), .val (.ref b14), .val (.int (1 : Int32)), .val (.ref b28), .val (.int (-1 : Int32))] [(.ref b28)])) rfl (by rw [hml]; rfl) (Steps.refl _) (argsL := []) (rest := []) (lenOf pd_2 rfl) rfl (by show 2 * 0 + _ ≤ _; exact Nat.le_of_eq rfl) (hb hby at_144) (fun _ _ => ⟨rfl, rfl, (by decide : 2 + 0 ≤ _), (by decide : 4 + 0 ≤ _)⟩)
      dsimp only [Pt.U, Pt.locs, Pt.cells, Pt.slots] at X36 l36 y36 z36 st36 hQ36
      subst l36 y36 z36
      obtain ⟨rfl, Nq36, eh36⟩ := hQ36
      have N36 := Fr.app N33 Nq36
      refine own_by (fun _ kt => st36.trans kt) ?_
      show own_Go p.tables e below (T36.setTop (mkF m 147 #[.val (.int p0), .val (.int p1), .val (.int p2), .val (.int p3), .val (.int p4), .val (.int p5), .val (.int (1 : Int32)), .val (.ref b14), .val (.int (1 : Int32)), .val (.ref b28), .val (.int (-1 : Int32))] [(.int (own_out (1 : Int32) (1 : Int32) (0 : Int32)))])) _
      refine own_by (fun _ kt => XS.iload X36.here hx rfl (hb hby at_147) rfl kt) ?_
      show own_Go p.tables e below (T36.setTop (mkF m 149 #[.val (.int p0), .val (.int p1), .val (.int p2), .val (.int p3), .val (.int p4), .val (.int p5), .val (.int (1 : Int32)), .val (.ref b14), .val (.int (1 : Int32)), .val (.ref b28), .val (.int (-1 : Int32))] [(.int (-1 : Int32)), (.int (own_out (1 : Int32) (1 : Int32) (0 : Int32)))])) _
      refine own_by (fun _ kt => XS.icmpNo X36.here hx rfl (hb hby at_149) rfl (teq (rfl : (own_out (1 : Int32) (1 : Int32) (0 : Int32)) = (-1 : Int32))).2 kt) ?_
      show own_Go p.tables e below (T36.setTop (mkF m 152 #[.val (.int p0), .val (.int p1), .val (.int p2), .val (.int p3), .val (.int p4), .val (.int p5), .val (.int (1 : Int32)), .val (.ref b14), .val (.int (1 : Int32)), .val (.ref b28), .val (.int (-1 : Int32))] [])) _
      refine own_by (fun _ kt => XS.iconst X36.here hx rfl (hb hby at_152) kt) ?_
      show own_Go p.tables e below (T36.setTop (mkF m 153 #[.val (.int p0), .val (.int p1), .val (.int p2), .val (.int p3), .val (.int p4), .val (.int p5), .val (.int (1 : Int32)), .val (.ref b14), .val (.int (1 : Int32)), .val (.ref b28), .val (.int (-1 : Int32))] [(.int (1 : Int32))])) _
      refine own_by (fun _ kt => XS.goto X36.here hx rfl (pc0 := 153) (pc' := 157) rfl (hb hby at_153) (by decide) (by decide) kt) ?_
      show own_Go p.tables e below (T36.setTop (mkF m 157 #[.val (.int p0), .val (.int p1), .val (.int p2), .val (.int p3), .val (.int p4), .val (.int p5), .val (.int (1 : Int32)), .val (.ref b14), .val (.int (1 : Int32)), .val (.ref b28), .val (.int (-1 : Int32))] [(.int (1 : Int32))])) _
      exact own_retN X36 hx (t := .boolean) Bd.returns hlk (by simp) (hb hby at_157) ⟨rfl, N36⟩ (by decide) (by decide)
  · rw [hs3_1]
    show own_Go p.tables e below (s₁.setTop (mkF m 3 #[.val (.int p0), .val (.int p1), .val (.int p2), .val (.int p3), .val (.int p4), .val (.int p5), .unset, .unset, .unset, .unset, .unset] [(.int (2 : Int32))])) _
    refine own_by (fun _ kt => XS.istore X0.here hx rfl (hb hby at_3) rfl (l' := #[.val (.int p0), .val (.int p1), .val (.int p2), .val (.int p3), .val (.int p4), .val (.int p5), .val (.int (2 : Int32)), .unset, .unset, .unset, .unset]) rfl kt) ?_
    show own_Go p.tables e below (s₁.setTop (mkF m 5 #[.val (.int p0), .val (.int p1), .val (.int p2), .val (.int p3), .val (.int p4), .val (.int p5), .val (.int (2 : Int32)), .unset, .unset, .unset, .unset] [])) _
    refine own_by (fun _ kt => XS.iload X0.here hx rfl (hb hby at_5) rfl kt) ?_
    show own_Go p.tables e below (s₁.setTop (mkF m 7 #[.val (.int p0), .val (.int p1), .val (.int p2), .val (.int p3), .val (.int p4), .val (.int p5), .val (.int (2 : Int32)), .unset, .unset, .unset, .unset] [(.int (2 : Int32))])) _
    refine own_by (fun _ kt => XS.ifYes X0.here hx rfl (pc0 := 7) (pc' := 18) rfl (hb hby at_7) rfl ((if0 _ _).trans (feq (by decide : ¬ ((2 : Int32) = (0 : Int32)))).2) (by decide) (by decide) kt) ?_
    show own_Go p.tables e below (s₁.setTop (mkF m 18 #[.val (.int p0), .val (.int p1), .val (.int p2), .val (.int p3), .val (.int p4), .val (.int p5), .val (.int (2 : Int32)), .unset, .unset, .unset, .unset] [])) _
    refine own_by (fun _ kt => XS.iload X0.here hx rfl (hb hby at_18) rfl kt) ?_
    show own_Go p.tables e below (s₁.setTop (mkF m 20 #[.val (.int p0), .val (.int p1), .val (.int p2), .val (.int p3), .val (.int p4), .val (.int p5), .val (.int (2 : Int32)), .unset, .unset, .unset, .unset] [(.int (2 : Int32))])) _
    refine own_by (fun _ kt => XS.iconst X0.here hx rfl (hb hby at_20) kt) ?_
    show own_Go p.tables e below (s₁.setTop (mkF m 21 #[.val (.int p0), .val (.int p1), .val (.int p2), .val (.int p3), .val (.int p4), .val (.int p5), .val (.int (2 : Int32)), .unset, .unset, .unset, .unset] [(.int (1 : Int32)), (.int (2 : Int32))])) _
    refine own_by (fun _ kt => XS.icmpYes X0.here hx rfl (pc0 := 21) (pc' := 36) rfl (hb hby at_21) rfl (feq (by decide : ¬ ((2 : Int32) = (1 : Int32)))).2 (by decide) (by decide) kt) ?_
    show own_Go p.tables e below (s₁.setTop (mkF m 36 #[.val (.int p0), .val (.int p1), .val (.int p2), .val (.int p3), .val (.int p4), .val (.int p5), .val (.int (2 : Int32)), .unset, .unset, .unset, .unset] [])) _
    refine own_by (fun _ kt => XS.iload X0.here hx rfl (hb hby at_36) rfl kt) ?_
    show own_Go p.tables e below (s₁.setTop (mkF m 38 #[.val (.int p0), .val (.int p1), .val (.int p2), .val (.int p3), .val (.int p4), .val (.int p5), .val (.int (2 : Int32)), .unset, .unset, .unset, .unset] [(.int (2 : Int32))])) _
    refine own_by (fun _ kt => XS.iconst X0.here hx rfl (hb hby at_38) kt) ?_
    show own_Go p.tables e below (s₁.setTop (mkF m 39 #[.val (.int p0), .val (.int p1), .val (.int p2), .val (.int p3), .val (.int p4), .val (.int p5), .val (.int (2 : Int32)), .unset, .unset, .unset, .unset] [(.int (2 : Int32)), (.int (2 : Int32))])) _
    refine own_by (fun _ kt => XS.icmpNo X0.here hx rfl (hb hby at_39) rfl (teq (by decide : (2 : Int32) = (2 : Int32))).2 kt) ?_
    show own_Go p.tables e below (s₁.setTop (mkF m 42 #[.val (.int p0), .val (.int p1), .val (.int p2), .val (.int p3), .val (.int p4), .val (.int p5), .val (.int (2 : Int32)), .unset, .unset, .unset, .unset] [])) _
    refine own_by (fun _ kt => XS.iconst X0.here hx rfl (hb hby at_42) kt) ?_
    show own_Go p.tables e below (s₁.setTop (mkF m 43 #[.val (.int p0), .val (.int p1), .val (.int p2), .val (.int p3), .val (.int p4), .val (.int p5), .val (.int (2 : Int32)), .unset, .unset, .unset, .unset] [(.int (2 : Int32))])) _
    obtain ⟨T37, h37, k37, X37, e37, E37, A37, st37⟩ := newP X0 hx hZ (hw _ (List.mem_of_getElem? (i := 0) rfl)) e0 (g := (mkF m 43 #[.val (.int p0), .val (.int p1), .val (.int p2), .val (.int p3), .val (.int p4), .val (.int p5), .val (.int (2 : Int32)), .unset, .unset, .unset, .unset] [(.int (2 : Int32))])) rfl (hb hby at_43) rfl (by decide) (cap := 2) (by decide) (by decide) (by decide) (by decide)
    obtain ⟨b37, g37⟩ : ∃ z, z = h0.size := ⟨_, rfl⟩
    rw [← g37] at A37 st37
    have gn_b37 : n0 ≤ b37 := Nat.le_trans Z0 (Nat.le_of_eq g37.symm)
    have Zs37 : n0 ≤ h37.size := Nat.le_trans Z0 E37.1
    have f38 : Arv Z h37 b37 k37 .int (2 : Int32) [(.int (0 : Int32)), (.int (0 : Int32))] (.int (0 : Int32)) := (Arv.new A37 (by decide)).pad (pad_rep [] (.int (0 : Int32)) 2)
    refine own_by st37 ?_
    show own_Go p.tables e below (T37.setTop (mkF m 45 #[.val (.int p0), .val (.int p1), .val (.int p2), .val (.int p3), .val (.int p4), .val (.int p5), .val (.int (2 : Int32)), .unset, .unset, .unset, .unset] [(.ref b37)])) _
    refine own_by (fun _ kt => XS.dup X37.here hx rfl (hb hby at_45) rfl rfl kt) ?_
    show own_Go p.tables e below (T37.setTop (mkF m 46 #[.val (.int p0), .val (.int p1), .val (.int p2), .val (.int p3), .val (.int p4), .val (.int p5), .val (.int (2 : Int32)), .unset, .unset, .unset, .unset] [(.ref b37), (.ref b37)])) _
    refine own_by (fun _ kt => XS.iconst X37.here hx rfl (hb hby at_46) kt) ?_
    show own_Go p.tables e below (T37.setTop (mkF m 47 #[.val (.int p0), .val (.int p1), .val (.int p2), .val (.int p3), .val (.int p4), .val (.int p5), .val (.int (2 : Int32)), .unset, .unset, .unset, .unset] [(.int (0 : Int32)), (.ref b37), (.ref b37)])) _
    refine own_by (fun _ kt => XS.iloadN X37.here hx rfl (hb hby at_47) rfl kt) ?_
    show own_Go p.tables e below (T37.setTop (mkF m 48 #[.val (.int p0), .val (.int p1), .val (.int p2), .val (.int p3), .val (.int p4), .val (.int p5), .val (.int (2 : Int32)), .unset, .unset, .unset, .unset] [(.int p2), (.int (0 : Int32)), (.ref b37), (.ref b37)])) _
    obtain ⟨cl39, Ar39, q39, S39, M39, H39, G39⟩ := f38
    obtain ⟨T39, h39, X39, e39, W39, st39⟩ := stI X37 hx hZ e37 Ar39 (j := (0 : Int32)) (inb_of S39 ⟨by decide, by decide⟩) (g := (mkF m 48 #[.val (.int p0), .val (.int p1), .val (.int p2), .val (.int p3), .val (.int p4), .val (.int p5), .val (.int (2 : Int32)), .unset, .unset, .unset, .unset] [(.int p2), (.int (0 : Int32)), (.ref b37), (.ref b37)])) rfl rfl (hb hby at_48)
    have f40 : Arv Z h39 b37 k37 .int (2 : Int32) [(.int p2), (.int (0 : Int32))] (.int (0 : Int32)) := Arv.set Ar39 q39 S39 M39 H39 G39 rfl W39 0 rfl (Nat.le_of_ble_eq_true rfl)
    have Zs39 : n0 ≤ h39.size := by rw [W39.size]; exact Zs37
    have N39 := Fr.snoc X39 N0 gn_b37
    refine own_by st39 ?_
    show own_Go p.tables e below (T39.setTop (mkF m 49 #[.val (.int p0), .val (.int p1), .val (.int p2), .val (.int p3), .val (.int p4), .val (.int p5), .val (.int (2 : Int32)), .unset, .unset, .unset, .unset] [(.ref b37)])) _
    refine own_by (fun _ kt => XS.dup X39.here hx rfl (hb hby at_49) rfl rfl kt) ?_
    show own_Go p.tables e below (T39.setTop (mkF m 50 #[.val (.int p0), .val (.int p1), .val (.int p2), .val (.int p3), .val (.int p4), .val (.int p5), .val (.int (2 : Int32)), .unset, .unset, .unset, .unset] [(.ref b37), (.ref b37)])) _
    refine own_by (fun _ kt => XS.iconst X39.here hx rfl (hb hby at_50) kt) ?_
    show own_Go p.tables e below (T39.setTop (mkF m 51 #[.val (.int p0), .val (.int p1), .val (.int p2), .val (.int p3), .val (.int p4), .val (.int p5), .val (.int (2 : Int32)), .unset, .unset, .unset, .unset] [(.int (1 : Int32)), (.ref b37), (.ref b37)])) _
    refine own_by (fun _ kt => XS.iloadN X39.here hx rfl (hb hby at_51) rfl kt) ?_
    show own_Go p.tables e below (T39.setTop (mkF m 52 #[.val (.int p0), .val (.int p1), .val (.int p2), .val (.int p3), .val (.int p4), .val (.int p5), .val (.int (2 : Int32)), .unset, .unset, .unset, .unset] [(.int p3), (.int (1 : Int32)), (.ref b37), (.ref b37)])) _
    obtain ⟨cl41, Ar41, q41, S41, M41, H41, G41⟩ := f40
    obtain ⟨T41, h41, X41, e41, W41, st41⟩ := stI X39 hx hZ e39 Ar41 (j := (1 : Int32)) (inb_of S41 ⟨by decide, by decide⟩) (g := (mkF m 52 #[.val (.int p0), .val (.int p1), .val (.int p2), .val (.int p3), .val (.int p4), .val (.int p5), .val (.int (2 : Int32)), .unset, .unset, .unset, .unset] [(.int p3), (.int (1 : Int32)), (.ref b37), (.ref b37)])) rfl rfl (hb hby at_52)
    have f42 : Arv Z h41 b37 k37 .int (2 : Int32) [(.int p2), (.int p3)] (.int (0 : Int32)) := Arv.set Ar41 q41 S41 M41 H41 G41 rfl W41 1 rfl (Nat.le_of_ble_eq_true rfl)
    have Zs41 : n0 ≤ h41.size := by rw [W41.size]; exact Zs39
    have N41 := Fr.snoc X41 N39 gn_b37
    refine own_by st41 ?_
    show own_Go p.tables e below (T41.setTop (mkF m 53 #[.val (.int p0), .val (.int p1), .val (.int p2), .val (.int p3), .val (.int p4), .val (.int p5), .val (.int (2 : Int32)), .unset, .unset, .unset, .unset] [(.ref b37)])) _
    refine own_by (fun _ kt => XS.astore X41.here hx rfl (hb hby at_53) rfl rfl (l' := #[.val (.int p0), .val (.int p1), .val (.int p2), .val (.int p3), .val (.int p4), .val (.int p5), .val (.int (2 : Int32)), .val (.ref b37), .unset, .unset, .unset]) rfl kt) ?_
    show own_Go p.tables e below (T41.setTop (mkF m 55 #[.val (.int p0), .val (.int p1), .val (.int p2), .val (.int p3), .val (.int p4), .val (.int p5), .val (.int (2 : Int32)), .val (.ref b37), .unset, .unset, .unset] [])) _
    refine own_by (fun _ kt => XS.goto X41.here hx rfl (pc0 := 55) (pc' := 76) rfl (hb hby at_55) (by decide) (by decide) kt) ?_
    show own_Go p.tables e below (T41.setTop (mkF m 76 #[.val (.int p0), .val (.int p1), .val (.int p2), .val (.int p3), .val (.int p4), .val (.int p5), .val (.int (2 : Int32)), .val (.ref b37), .unset, .unset, .unset] [])) _
    refine own_by (fun _ kt => XS.iloadN X41.here hx rfl (hb hby at_76) rfl kt) ?_
    show own_Go p.tables e below (T41.setTop (mkF m 77 #[.val (.int p0), .val (.int p1), .val (.int p2), .val (.int p3), .val (.int p4), .val (.int p5), .val (.int (2 : Int32)), .val (.ref b37), .unset, .unset, .unset] [(.int p1)])) _
    refine own_by (X41.ldcInt hx hown (mvT hZ (hw _ (List.mem_of_getElem? (i := 1) rfl))) (g := (mkF m 77 #[.val (.int p0), .val (.int p1), .val (.int p2), .val (.int p3), .val (.int p4), .val (.int p5), .val (.int (2 : Int32)), .val (.ref b37), .unset, .unset, .unset] [(.int p1)])) rfl (hb hby at_77)) ?_
    show own_Go p.tables e below (T41.setTop (mkF m 79 #[.val (.int p0), .val (.int p1), .val (.int p2), .val (.int p3), .val (.int p4), .val (.int p5), .val (.int (2 : Int32)), .val (.ref b37), .unset, .unset, .unset] [(.int (2147483647 : Int32)), (.int p1)])) _
    refine own_by (fun _ kt => XS.iand X41.here hx rfl (hb hby at_79) rfl kt) ?_
    show own_Go p.tables e below (T41.setTop (mkF m 80 #[.val (.int p0), .val (.int p1), .val (.int p2), .val (.int p3), .val (.int p4), .val (.int p5), .val (.int (2 : Int32)), .val (.ref b37), .unset, .unset, .unset] [(.int (p1 &&& (2147483647 : Int32)))])) _
    refine own_by (fun _ kt => XS.iload X41.here hx rfl (hb hby at_80) rfl kt) ?_
    show own_Go p.tables e below (T41.setTop (mkF m 82 #[.val (.int p0), .val (.int p1), .val (.int p2), .val (.int p3), .val (.int p4), .val (.int p5), .val (.int (2 : Int32)), .val (.ref b37), .unset, .unset, .unset] [(.int (2 : Int32)), (.int (p1 &&& (2147483647 : Int32)))])) _
    refine own_by (fun _ kt => XS.iconst X41.here hx rfl (hb hby at_82) kt) ?_
    show own_Go p.tables e below (T41.setTop (mkF m 83 #[.val (.int p0), .val (.int p1), .val (.int p2), .val (.int p3), .val (.int p4), .val (.int p5), .val (.int (2 : Int32)), .val (.ref b37), .unset, .unset, .unset] [(.int (1 : Int32)), (.int (2 : Int32)), (.int (p1 &&& (2147483647 : Int32)))])) _
    refine own_by (fun _ kt => XS.iadd X41.here hx rfl (hb hby at_83) rfl kt) ?_
    show own_Go p.tables e below (T41.setTop (mkF m 84 #[.val (.int p0), .val (.int p1), .val (.int p2), .val (.int p3), .val (.int p4), .val (.int p5), .val (.int (2 : Int32)), .val (.ref b37), .unset, .unset, .unset] [(.int ((2 : Int32) + (1 : Int32))), (.int (p1 &&& (2147483647 : Int32)))])) _
    rw [(by decide : ((2 : Int32) + (1 : Int32)) = (3 : Int32))]
    refine own_by (fun _ kt => iremM X41 hx rfl (hb hby at_84) rfl (by decide) kt) ?_
    show own_Go p.tables e below (T41.setTop (mkF m 85 #[.val (.int p0), .val (.int p1), .val (.int p2), .val (.int p3), .val (.int p4), .val (.int p5), .val (.int (2 : Int32)), .val (.ref b37), .unset, .unset, .unset] [(.int ((p1 &&& (2147483647 : Int32)) % (3 : Int32)))])) _
    rcases (own_mod3 _ : ((p1 &&& (2147483647 : Int32)) % (3 : Int32)) = (0 : Int32) ∨ ((p1 &&& (2147483647 : Int32)) % (3 : Int32)) = (1 : Int32) ∨ ((p1 &&& (2147483647 : Int32)) % (3 : Int32)) = (2 : Int32)) with hs85_43 | hs85_43 | hs85_43
    · rw [hs85_43]
      show own_Go p.tables e below (T41.setTop (mkF m 85 #[.val (.int p0), .val (.int p1), .val (.int p2), .val (.int p3), .val (.int p4), .val (.int p5), .val (.int (2 : Int32)), .val (.ref b37), .unset, .unset, .unset] [(.int (0 : Int32))])) _
      refine own_by (fun _ kt => XS.istore X41.here hx rfl (hb hby at_85) rfl (l' := #[.val (.int p0), .val (.int p1), .val (.int p2), .val (.int p3), .val (.int p4), .val (.int p5), .val (.int (2 : Int32)), .val (.ref b37), .val (.int (0 : Int32)), .unset, .unset]) rfl kt) ?_
      show own_Go p.tables e below (T41.setTop (mkF m 87 #[.val (.int p0), .val (.int p1), .val (.int p2), .val (.int p3), .val (.int p4), .val (.int p5), .val (.int (2 : Int32)), .val (.ref b37), .val (.int (0 : Int32)), .unset, .unset] [])) _
      obtain ⟨T44, h44, X44, e44, E44, A44, D44, -, st44⟩ := newO X41 hx hZ hown (hw _ (List.mem_of_getElem? (i := 2) rfl)) (hw _ (List.mem_of_getElem? (i := 3) rfl)) (hw _ (List.mem_of_getElem? (i := 4) rfl)) e41 (g := (mkF m 87 #[.val (.int p0), .val (.int p1), .val (.int p2), .val (.int p3), .val (.int p4), .val (.int p5), .val (.int (2 : Int32)), .val (.ref b37), .val (.int (0 : Int32)), .unset, .unset] [])) rfl (hb hby at_87) (by decide) (by decide)
      obtain ⟨b44, g44⟩ : ∃ z, z = h41.size := ⟨_, rfl⟩
      rw [← g44] at A44 D44 st44
      have gn_b44 : n0 ≤ b44 := Nat.le_trans Zs41 (Nat.le_of_eq g44.symm)
      have ne_b37_b44 : b37 ≠ b44 := Nat.ne_of_lt (Nat.lt_of_lt_of_le f42.lt (Nat.le_of_eq g44.symm))
      have f45 := f42.ext E44
      have Zs44 : n0 ≤ h44.size := Nat.le_trans Zs41 E44.1
      have f46 : Fld Z h44 b44 "com/example/lambdagrove/lambdagrove/Tree$Path" "top" "I" (.int (0 : Int32)) := D44 (Or.inr (hw _ (List.mem_of_getElem? (i := 17) rfl))) (ty := .int) (by decide)
      have f47 : Fld Z h44 b44 "com/example/lambdagrove/lambdagrove/Tree$Path" "climb" "I" (.int (0 : Int32)) := D44 (Or.inr (hw _ (List.mem_of_getElem? (i := 19) rfl))) (ty := .int) (by decide)
      have f48 : Fld Z h44 b44 "com/example/lambdagrove/lambdagrove/Tree$Path" "fibres" "[I" .null := D44 (Or.inr (hw _ (List.mem_of_getElem? (i := 21) rfl))) (ty := (.array .int)) (by decide)
      refine own_by st44 ?_
      show own_Go p.tables e below (T44.setTop (mkF m 90 #[.val (.int p0), .val (.int p1), .val (.int p2), .val (.int p3), .val (.int p4), .val (.int p5), .val (.int (2 : Int32)), .val (.ref b37), .val (.int (0 : Int32)), .unset, .unset] [(.ref b44)])) _
      refine own_by (fun _ kt => XS.dup X44.here hx rfl (hb hby at_90) rfl rfl kt) ?_
      show own_Go p.tables e below (T44.setTop (mkF m 91 #[.val (.int p0), .val (.int p1), .val (.int p2), .val (.int p3), .val (.int p4), .val (.int p5), .val (.int (2 : Int32)), .val (.ref b37), .val (.int (0 : Int32)), .unset, .unset] [(.ref b44), (.ref b44)])) _
      refine own_by (fun _ kt => XS.iload X44.here hx rfl (hb hby at_91) rfl kt) ?_
      show own_Go p.tables e below (T44.setTop (mkF m 93 #[.val (.int p0), .val (.int p1), .val (.int p2), .val (.int p3), .val (.int p4), .val (.int p5), .val (.int (2 : Int32)), .val (.ref b37), .val (.int (0 : Int32)), .unset, .unset] [(.int p5), (.ref b44), (.ref b44)])) _
      refine own_by (fun _ kt => XS.iload X44.here hx rfl (hb hby at_93) rfl kt) ?_
      show own_Go p.tables e below (T44.setTop (mkF m 95 #[.val (.int p0), .val (.int p1), .val (.int p2), .val (.int p3), .val (.int p4), .val (.int p5), .val (.int (2 : Int32)), .val (.ref b37), .val (.int (0 : Int32)), .unset, .unset] [(.int (0 : Int32)), (.int p5), (.ref b44), (.ref b44)])) _
      refine own_by (fun _ kt => XS.aload X44.here hx rfl (hb hby at_95) rfl rfl kt) ?_
      show own_Go p.tables e below (T44.setTop (mkF m 97 #[.val (.int p0), .val (.int p1), .val (.int p2), .val (.int p3), .val (.int p4), .val (.int p5), .val (.int (2 : Int32)), .val (.ref b37), .val (.int (0 : Int32)), .unset, .unset] [(.ref b37), (.int (0 : Int32)), (.int p5), (.ref b44), (.ref b44)])) _
      obtain ⟨_, _, ⟨T49, L49, k49, n49⟩, -, X49, ⟨Lc49, hQ49, l49, y49, z49⟩, st49⟩ := X44.specialBack hx (y := (⟨"com/example/lambdagrove/lambdagrove/Tree$Path", "<init>", "(II[I)V"⟩ : MethodName)) rfl hown (mvT hZ (hw _ (List.mem_of_getElem? (i := 5) rfl))) (mvT hZ (hw _ (List.mem_of_getElem? (i := 6) rfl))) (mvT hZ (hw _ (List.mem_of_getElem? (i := 7) rfl))) (by decide) (backOf (W := 1) (rm_init l Z a0 hw [] b44 p5 (0 : Int32) b37  h44 n0 Zs44 f46 f47 f48 A44 gn_b44) hZ (hw _ (List.mem_of_getElem? (i := 7) rfl)) (hw _ (List.mem_of_getElem? (i := 4) rfl)) (by decide) (by decide)) (g := (mkF m 97 #[.val (.int p0), .val (.int p1), .val (.int p2), .val (.int p3), .val (.int p4), .val (.int p5), .val (.int (2 : Int32)), .val (.ref b37), .val (.int (0 : Int32)), .unset, .unset] [(.ref b37), (.int (0 : Int32)), (.int p5), (.ref b44), (.ref b44)])) rfl (by rw [hml]; rfl) (Steps.refl _) (a := b44) (argsL := [(.int p5), (.int (0 : Int32)), (.ref b37)]) (rest := [(.ref b44)]) (lenOf pd_1 rfl) rfl (by show 2 * 0 + _ ≤ _; exact Nat.le_of_eq rfl) (hb hby at_97) (fun _ _ => ⟨rfl, e44, (by decide : 2 + 0 ≤ _), (by decide : 5 + 0 ≤ _)⟩)
      dsimp only [Pt.U, Pt.locs, Pt.cells, Pt.slots] at X49 l49 y49 z49 st49 hQ49
      subst l49 y49 z49
      obtain ⟨rfl, Nq49, K49, f49_0, f49_1, f49_2, f49_3⟩ := hQ49
      have f50 := f45.keep K49 (own_nin ne_b37_b44)
      have f51 := A44.keep K49
      have Zs49 : n0 ≤ T49.heap.size := Nat.le_trans Zs44 K49.1
      have N49 := Fr.app N41 Nq49
      refine own_by (fun _ kt => st49.trans kt) ?_
      show own_Go p.tables e below (T49.setTop (mkF m 100 #[.val (.int p0), .val (.int p1), .val (.int p2), .val (.int p3), .val (.int p4), .val (.int p5), .val (.int (2 : Int32)), .val (.ref b37), .val (.int (0 : Int32)), .unset, .unset] [(.ref b44)])) _
      refine own_by (fun _ kt => XS.astore X49.here hx rfl (hb hby at_100) rfl rfl (l' := #[.val (.int p0), .val (.int p1), .val (.int p2), .val (.int p3), .val (.int p4), .val (.int p5), .val (.int (2 : Int32)), .val (.ref b37), .val (.int (0 : Int32)), .val (.ref b44), .unset]) rfl kt) ?_
      show own_Go p.tables e below (T49.setTop (mkF m 102 #[.val (.int p0), .val (.int p1), .val (.int p2), .val (.int p3), .val (.int p4), .val (.int p5), .val (.int (2 : Int32)), .val (.ref b37), .val (.int (0 : Int32)), .val (.ref b44), .unset] [])) _
      refine own_by (fun _ kt => XS.iload X49.here hx rfl (hb hby at_102) rfl kt) ?_
      show own_Go p.tables e below (T49.setTop (mkF m 104 #[.val (.int p0), .val (.int p1), .val (.int p2), .val (.int p3), .val (.int p4), .val (.int p5), .val (.int (2 : Int32)), .val (.ref b37), .val (.int (0 : Int32)), .val (.ref b44), .unset] [(.int (0 : Int32))])) _
      refine own_by (fun _ kt => XS.iload X49.here hx rfl (hb hby at_104) rfl kt) ?_
      show own_Go p.tables e below (T49.setTop (mkF m 106 #[.val (.int p0), .val (.int p1), .val (.int p2), .val (.int p3), .val (.int p4), .val (.int p5), .val (.int (2 : Int32)), .val (.ref b37), .val (.int (0 : Int32)), .val (.ref b44), .unset] [(.int (2 : Int32)), (.int (0 : Int32))])) _
      refine own_by (fun _ kt => XS.icmpYes X49.here hx rfl (pc0 := 106) (pc' := 115) rfl (hb hby at_106) rfl (feq (by decide : ¬ ((0 : Int32) = (2 : Int32)))).2 (by decide) (by decide) kt) ?_
      show own_Go p.tables e below (T49.setTop (mkF m 115 #[.val (.int p0), .val (.int p1), .val (.int p2), .val (.int p3), .val (.int p4), .val (.int p5), .val (.int (2 : Int32)), .val (.ref b37), .val (.int (0 : Int32)), .val (.ref b44), .unset] [])) _
      refine own_by (fun _ kt => XS.iload X49.here hx rfl (hb hby at_115) rfl kt) ?_
      show own_Go p.tables e below (T49.setTop (mkF m 117 #[.val (.int p0), .val (.int p1), .val (.int p2), .val (.int p3), .val (.int p4), .val (.int p5), .val (.int (2 : Int32)), .val (.ref b37), .val (.int (0 : Int32)), .val (.ref b44), .unset] [(.int (0 : Int32))])) _
      refine own_by (fun _ kt => XS.ifNo X49.here hx rfl (hb hby at_117) rfl ((if0 _ _).trans (teq (by decide : (0 : Int32) = (0 : Int32))).2) kt) ?_
      show own_Go p.tables e below (T49.setTop (mkF m 120 #[.val (.int p0), .val (.int p1), .val (.int p2), .val (.int p3), .val (.int p4), .val (.int p5), .val (.int (2 : Int32)), .val (.ref b37), .val (.int (0 : Int32)), .val (.ref b44), .unset] [])) _
      refine own_by (fun _ kt => XS.iloadN X49.here hx rfl (hb hby at_120) rfl kt) ?_
      show own_Go p.tables e below (T49.setTop (mkF m 121 #[.val (.int p0), .val (.int p1), .val (.int p2), .val (.int p3), .val (.int p4), .val (.int p5), .val (.int (2 : Int32)), .val (.ref b37), .val (.int (0 : Int32)), .val (.ref b44), .unset] [(.int p2)])) _
      refine own_by (fun _ kt => XS.istore X49.here hx rfl (hb hby at_121) rfl (l' := #[.val (.int p0), .val (.int p1), .val (.int p2), .val (.int p3), .val (.int p4), .val (.int p5), .val (.int (2 : Int32)), .val (.ref b37), .val (.int (0 : Int32)), .val (.ref b44), .val (.int p2)]) rfl kt) ?_
      show own_Go p.tables e below (T49.setTop (mkF m 123 #[.val (.int p0), .val (.int p1), .val (.int p2), .val (.int p3), .val (.int p4), .val (.int p5), .val (.int (2 : Int32)), .val (.ref b37), .val (.int (0 : Int32)), .val (.ref b44), .val (.int p2)] [])) _
      refine own_by (fun _ kt => XS.goto X49.here hx rfl (pc0 := 123) (pc' := 142) rfl (hb hby at_123) (by decide) (by decide) kt) ?_
      show own_Go p.tables e below (T49.setTop (mkF m 142 #[.val (.int p0), .val (.int p1), .val (.int p2), .val (.int p3), .val (.int p4), .val (.int p5), .val (.int (2 : Int32)), .val (.ref b37), .val (.int (0 : Int32)), .val (.ref b44), .val (.int p2)] [])) _
      refine own_by (fun _ kt => XS.aload X49.here hx rfl (hb hby at_142) rfl rfl kt) ?_
      show own_Go p.tables e below (T49.setTop (mkF m 144 #[.val (.int p0), .val (.int p1), .val (.int p2), .val (.int p3), .val (.int p4), .val (.int p5), .val (.int (2 : Int32)), .val (.ref b37), .val (.int (0 : Int32)), .val (.ref b44), .val (.int p2)] [(.ref b44)])) _
      obtain ⟨cq52, kq52, q52a, q52b, q52c⟩ := isOf hZ rfl f49_0
      obtain ⟨_, _, ⟨T52, L52, k52, n52⟩, -, X52, ⟨Lc52, hQ52, l52, y52, z52⟩, st52⟩ := X49.virtualBack hx (y := (⟨"com/example/lambdagrove/lambdagrove/Tree$Path", "outOfTop", "()I"⟩ : MethodName)) (z := (⟨"com/example/lambdagrove/lambdagrove/Tree$Path", "outOfTop", "()I"⟩ : MethodName)) hown (mvT hZ (hw _ (List.mem_of_getElem? (i := 22) rfl))) (mvT hZ (hw _ (List.mem_of_getElem? (i := 23) rfl))) (notFace_of_selects (args := #[]) (mvT hZ (hw _ (List.mem_of_getElem? (i := 25) rfl)))) (mvT hZ (hw _ (List.mem_of_getElem? (i := 25) rfl))) (mvT hZ (hw _ (List.mem_of_getElem? (i := 24) rfl))) (by decide) (backOf (W := 0) (rm_out l Z a0 hw [] b44 ((0 : Int32)) (b37) (k37) ([(.int p2), (.int p3)]) ((2 : Int32)) (p2) T49.heap n0 Zs49 f49_2 f49_3 f50 (by decide) (fun hh => by first | rfl | exact absurd hh (by decide))) hZ (hw _ (List.mem_of_getElem? (i := 26) rfl)) (hw _ (List.mem_of_getElem? (i := 4) rfl)) (by decide) (by decide)) q52a q52c (g := (mkF m 144 #[.val (.int p0), .val (.int p1), .val (.int p2), .val (.int p3), .val (.int p4), .val (.int p5), .val (.int (2 : Int32)), .val (.ref b37), .val (.int (0 : Int32)), .val (.ref b44), .val (.int p2)] [(.ref b44)])) rfl (by rw [hml]; rfl) (Steps.refl _) (argsL := []) (rest := []) (lenOf pd_2 rfl) rfl (by show 2 * 0 + _ ≤ _; exact Nat.le_of_eq rfl) (hb hby at_144) (fun _ _ => ⟨rfl, rfl, (by decide : 2 + 0 ≤ _), (by decide : 5 + 0 ≤ _)⟩)
      dsimp only [Pt.U, Pt.locs, Pt.cells, Pt.slots] at X52 l52 y52 z52 st52 hQ52
      subst l52 y52 z52
      obtain ⟨rfl, Nq52, eh52⟩ := hQ52
      have N52 := Fr.app N49 Nq52
      refine own_by (fun _ kt => st52.trans kt) ?_
      show own_Go p.tables e below (T52.setTop (mkF m 147 #[.val (.int p0), .val (.int p1), .val (.int p2), .val (.int p3), .val (.int p4), .val (.int p5), .val (.int (2 : Int32)), .val (.ref b37), .val (.int (0 : Int32)), .val (.ref b44), .val (.int p2)] [(.int (own_out (0 : Int32) (2 : Int32) p2))])) _
      refine own_by (fun _ kt => XS.iload X52.here hx rfl (hb hby at_147) rfl kt) ?_
      show own_Go p.tables e below (T52.setTop (mkF m 149 #[.val (.int p0), .val (.int p1), .val (.int p2), .val (.int p3), .val (.int p4), .val (.int p5), .val (.int (2 : Int32)), .val (.ref b37), .val (.int (0 : Int32)), .val (.ref b44), .val (.int p2)] [(.int p2), (.int (own_out (0 : Int32) (2 : Int32) p2))])) _
      refine own_by (fun _ kt => XS.icmpNo X52.here hx rfl (hb hby at_149) rfl (teq (rfl : (own_out (0 : Int32) (2 : Int32) p2) = p2)).2 kt) ?_
      show own_Go p.tables e below (T52.setTop (mkF m 152 #[.val (.int p0), .val (.int p1), .val (.int p2), .val (.int p3), .val (.int p4), .val (.int p5), .val (.int (2 : Int32)), .val (.ref b37), .val (.int (0 : Int32)), .val (.ref b44), .val (.int p2)] [])) _
      refine own_by (fun _ kt => XS.iconst X52.here hx rfl (hb hby at_152) kt) ?_
      show own_Go p.tables e below (T52.setTop (mkF m 153 #[.val (.int p0), .val (.int p1), .val (.int p2), .val (.int p3), .val (.int p4), .val (.int p5), .val (.int (2 : Int32)), .val (.ref b37), .val (.int (0 : Int32)), .val (.ref b44), .val (.int p2)] [(.int (1 : Int32))])) _
      refine own_by (fun _ kt => XS.goto X52.here hx rfl (pc0 := 153) (pc' := 157) rfl (hb hby at_153) (by decide) (by decide) kt) ?_
      show own_Go p.tables e below (T52.setTop (mkF m 157 #[.val (.int p0), .val (.int p1), .val (.int p2), .val (.int p3), .val (.int p4), .val (.int p5), .val (.int (2 : Int32)), .val (.ref b37), .val (.int (0 : Int32)), .val (.ref b44), .val (.int p2)] [(.int (1 : Int32))])) _
      exact own_retN X52 hx (t := .boolean) Bd.returns hlk (by simp) (hb hby at_157) ⟨rfl, N52⟩ (by decide) (by decide)
    · rw [hs85_43]
      show own_Go p.tables e below (T41.setTop (mkF m 85 #[.val (.int p0), .val (.int p1), .val (.int p2), .val (.int p3), .val (.int p4), .val (.int p5), .val (.int (2 : Int32)), .val (.ref b37), .unset, .unset, .unset] [(.int (1 : Int32))])) _
      refine own_by (fun _ kt => XS.istore X41.here hx rfl (hb hby at_85) rfl (l' := #[.val (.int p0), .val (.int p1), .val (.int p2), .val (.int p3), .val (.int p4), .val (.int p5), .val (.int (2 : Int32)), .val (.ref b37), .val (.int (1 : Int32)), .unset, .unset]) rfl kt) ?_
      show own_Go p.tables e below (T41.setTop (mkF m 87 #[.val (.int p0), .val (.int p1), .val (.int p2), .val (.int p3), .val (.int p4), .val (.int p5), .val (.int (2 : Int32)), .val (.ref b37), .val (.int (1 : Int32)), .unset, .unset] [])) _
      obtain ⟨T53, h53, X53, e53, E53, A53, D53, -, st53⟩ := newO X41 hx hZ hown (hw _ (List.mem_of_getElem? (i := 2) rfl)) (hw _ (List.mem_of_getElem? (i := 3) rfl)) (hw _ (List.mem_of_getElem? (i := 4) rfl)) e41 (g := (mkF m 87 #[.val (.int p0), .val (.int p1), .val (.int p2), .val (.int p3), .val (.int p4), .val (.int p5), .val (.int (2 : Int32)), .val (.ref b37), .val (.int (1 : Int32)), .unset, .unset] [])) rfl (hb hby at_87) (by decide) (by decide)
      obtain ⟨b53, g53⟩ : ∃ z, z = h41.size := ⟨_, rfl⟩
      rw [← g53] at A53 D53 st53
      have gn_b53 : n0 ≤ b53 := Nat.le_trans Zs41 (Nat.le_of_eq g53.symm)
      have ne_b37_b53 : b37 ≠ b53 := Nat.ne_of_lt (Nat.lt_of_lt_of_le f42.lt (Nat.le_of_eq g53.symm))
      have f54 := f42.ext E53
      have Zs53 : n0 ≤ h53.size := Nat.le_trans Zs41 E53.1
      have f55 : Fld Z h53 b53 "com/example/lambdagrove/lambdagrove/Tree$Path" "top" "I" (.int (0 : Int32)) := D53 (Or.inr (hw _ (List.mem_of_getElem? (i := 17) rfl))) (ty := .int) (by decide)
      have f56 : Fld Z h53 b53 "com/example/lambdagrove/lambdagrove/Tree$Path" "climb" "I" (.int (0 : Int32)) := D53 (Or.inr (hw _ (List.mem_of_getElem? (i := 19) rfl))) (ty := .int) (by decide)
      have f57 : Fld Z h53 b53 "com/example/lambdagrove/lambdagrove/Tree$Path" "fibres" "[I" .null := D53 (Or.inr (hw _ (List.mem_of_getElem? (i := 21) rfl))) (ty := (.array .int)) (by decide)
      refine own_by st53 ?_
      show own_Go p.tables e below (T53.setTop (mkF m 90 #[.val (.int p0), .val (.int p1), .val (.int p2), .val (.int p3), .val (.int p4), .val (.int p5), .val (.int (2 : Int32)), .val (.ref b37), .val (.int (1 : Int32)), .unset, .unset] [(.ref b53)])) _
      refine own_by (fun _ kt => XS.dup X53.here hx rfl (hb hby at_90) rfl rfl kt) ?_
      show own_Go p.tables e below (T53.setTop (mkF m 91 #[.val (.int p0), .val (.int p1), .val (.int p2), .val (.int p3), .val (.int p4), .val (.int p5), .val (.int (2 : Int32)), .val (.ref b37), .val (.int (1 : Int32)), .unset, .unset] [(.ref b53), (.ref b53)])) _
      refine own_by (fun _ kt => XS.iload X53.here hx rfl (hb hby at_91) rfl kt) ?_
      show own_Go p.tables e below (T53.setTop (mkF m 93 #[.val (.int p0), .val (.int p1), .val (.int p2), .val (.int p3), .val (.int p4), .val (.int p5), .val (.int (2 : Int32)), .val (.ref b37), .val (.int (1 : Int32)), .unset, .unset] [(.int p5), (.ref b53), (.ref b53)])) _
      refine own_by (fun _ kt => XS.iload X53.here hx rfl (hb hby at_93) rfl kt) ?_
      show own_Go p.tables e below (T53.setTop (mkF m 95 #[.val (.int p0), .val (.int p1), .val (.int p2), .val (.int p3), .val (.int p4), .val (.int p5), .val (.int (2 : Int32)), .val (.ref b37), .val (.int (1 : Int32)), .unset, .unset] [(.int (1 : Int32)), (.int p5), (.ref b53), (.ref b53)])) _
      refine own_by (fun _ kt => XS.aload X53.here hx rfl (hb hby at_95) rfl rfl kt) ?_
      show own_Go p.tables e below (T53.setTop (mkF m 97 #[.val (.int p0), .val (.int p1), .val (.int p2), .val (.int p3), .val (.int p4), .val (.int p5), .val (.int (2 : Int32)), .val (.ref b37), .val (.int (1 : Int32)), .unset, .unset] [(.ref b37), (.int (1 : Int32)), (.int p5), (.ref b53), (.ref b53)])) _
      obtain ⟨_, _, ⟨T58, L58, k58, n58⟩, -, X58, ⟨Lc58, hQ58, l58, y58, z58⟩, st58⟩ := X53.specialBack hx (y := (⟨"com/example/lambdagrove/lambdagrove/Tree$Path", "<init>", "(II[I)V"⟩ : MethodName)) rfl hown (mvT hZ (hw _ (List.mem_of_getElem? (i := 5) rfl))) (mvT hZ (hw _ (List.mem_of_getElem? (i := 6) rfl))) (mvT hZ (hw _ (List.mem_of_getElem? (i := 7) rfl))) (by decide) (backOf (W := 1) (rm_init l Z a0 hw [] b53 p5 (1 : Int32) b37  h53 n0 Zs53 f55 f56 f57 A53 gn_b53) hZ (hw _ (List.mem_of_getElem? (i := 7) rfl)) (hw _ (List.mem_of_getElem? (i := 4) rfl)) (by decide) (by decide)) (g := (mkF m 97 #[.val (.int p0), .val (.int p1), .val (.int p2), .val (.int p3), .val (.int p4), .val (.int p5), .val (.int (2 : Int32)), .val (.ref b37), .val (.int (1 : Int32)), .unset, .unset] [(.ref b37), (.int (1 : Int32)), (.int p5), (.ref b53), (.ref b53)])) rfl (by rw [hml]; rfl) (Steps.refl _) (a := b53) (argsL := [(.int p5), (.int (1 : Int32)), (.ref b37)]) (rest := [(.ref b53)]) (lenOf pd_1 rfl) rfl (by show 2 * 0 + _ ≤ _; exact Nat.le_of_eq rfl) (hb hby at_97) (fun _ _ => ⟨rfl, e53, (by decide : 2 + 0 ≤ _), (by decide : 5 + 0 ≤ _)⟩)
      dsimp only [Pt.U, Pt.locs, Pt.cells, Pt.slots] at X58 l58 y58 z58 st58 hQ58
      subst l58 y58 z58
      obtain ⟨rfl, Nq58, K58, f58_0, f58_1, f58_2, f58_3⟩ := hQ58
      have f59 := f54.keep K58 (own_nin ne_b37_b53)
      have f60 := A53.keep K58
      have Zs58 : n0 ≤ T58.heap.size := Nat.le_trans Zs53 K58.1
      have N58 := Fr.app N41 Nq58
      refine own_by (fun _ kt => st58.trans kt) ?_
      show own_Go p.tables e below (T58.setTop (mkF m 100 #[.val (.int p0), .val (.int p1), .val (.int p2), .val (.int p3), .val (.int p4), .val (.int p5), .val (.int (2 : Int32)), .val (.ref b37), .val (.int (1 : Int32)), .unset, .unset] [(.ref b53)])) _
      refine own_by (fun _ kt => XS.astore X58.here hx rfl (hb hby at_100) rfl rfl (l' := #[.val (.int p0), .val (.int p1), .val (.int p2), .val (.int p3), .val (.int p4), .val (.int p5), .val (.int (2 : Int32)), .val (.ref b37), .val (.int (1 : Int32)), .val (.ref b53), .unset]) rfl kt) ?_
      show own_Go p.tables e below (T58.setTop (mkF m 102 #[.val (.int p0), .val (.int p1), .val (.int p2), .val (.int p3), .val (.int p4), .val (.int p5), .val (.int (2 : Int32)), .val (.ref b37), .val (.int (1 : Int32)), .val (.ref b53), .unset] [])) _
      refine own_by (fun _ kt => XS.iload X58.here hx rfl (hb hby at_102) rfl kt) ?_
      show own_Go p.tables e below (T58.setTop (mkF m 104 #[.val (.int p0), .val (.int p1), .val (.int p2), .val (.int p3), .val (.int p4), .val (.int p5), .val (.int (2 : Int32)), .val (.ref b37), .val (.int (1 : Int32)), .val (.ref b53), .unset] [(.int (1 : Int32))])) _
      refine own_by (fun _ kt => XS.iload X58.here hx rfl (hb hby at_104) rfl kt) ?_
      show own_Go p.tables e below (T58.setTop (mkF m 106 #[.val (.int p0), .val (.int p1), .val (.int p2), .val (.int p3), .val (.int p4), .val (.int p5), .val (.int (2 : Int32)), .val (.ref b37), .val (.int (1 : Int32)), .val (.ref b53), .unset] [(.int (2 : Int32)), (.int (1 : Int32))])) _
      refine own_by (fun _ kt => XS.icmpYes X58.here hx rfl (pc0 := 106) (pc' := 115) rfl (hb hby at_106) rfl (feq (by decide : ¬ ((1 : Int32) = (2 : Int32)))).2 (by decide) (by decide) kt) ?_
      show own_Go p.tables e below (T58.setTop (mkF m 115 #[.val (.int p0), .val (.int p1), .val (.int p2), .val (.int p3), .val (.int p4), .val (.int p5), .val (.int (2 : Int32)), .val (.ref b37), .val (.int (1 : Int32)), .val (.ref b53), .unset] [])) _
      refine own_by (fun _ kt => XS.iload X58.here hx rfl (hb hby at_115) rfl kt) ?_
      show own_Go p.tables e below (T58.setTop (mkF m 117 #[.val (.int p0), .val (.int p1), .val (.int p2), .val (.int p3), .val (.int p4), .val (.int p5), .val (.int (2 : Int32)), .val (.ref b37), .val (.int (1 : Int32)), .val (.ref b53), .unset] [(.int (1 : Int32))])) _
      refine own_by (fun _ kt => XS.ifYes X58.here hx rfl (pc0 := 117) (pc' := 126) rfl (hb hby at_117) rfl ((if0 _ _).trans (feq (by decide : ¬ ((1 : Int32) = (0 : Int32)))).2) (by decide) (by decide) kt) ?_
      show own_Go p.tables e below (T58.setTop (mkF m 126 #[.val (.int p0), .val (.int p1), .val (.int p2), .val (.int p3), .val (.int p4), .val (.int p5), .val (.int (2 : Int32)), .val (.ref b37), .val (.int (1 : Int32)), .val (.ref b53), .unset] [])) _
      refine own_by (fun _ kt => XS.iload X58.here hx rfl (hb hby at_126) rfl kt) ?_
      show own_Go p.tables e below (T58.setTop (mkF m 128 #[.val (.int p0), .val (.int p1), .val (.int p2), .val (.int p3), .val (.int p4), .val (.int p5), .val (.int (2 : Int32)), .val (.ref b37), .val (.int (1 : Int32)), .val (.ref b53), .unset] [(.int (1 : Int32))])) _
      refine own_by (fun _ kt => XS.iconst X58.here hx rfl (hb hby at_128) kt) ?_
      show own_Go p.tables e below (T58.setTop (mkF m 129 #[.val (.int p0), .val (.int p1), .val (.int p2), .val (.int p3), .val (.int p4), .val (.int p5), .val (.int (2 : Int32)), .val (.ref b37), .val (.int (1 : Int32)), .val (.ref b53), .unset] [(.int (1 : Int32)), (.int (1 : Int32))])) _
      refine own_by (fun _ kt => XS.icmpNo X58.here hx rfl (hb hby at_129) rfl (teq (by decide : (1 : Int32) = (1 : Int32))).2 kt) ?_
      show own_Go p.tables e below (T58.setTop (mkF m 132 #[.val (.int p0), .val (.int p1), .val (.int p2), .val (.int p3), .val (.int p4), .val (.int p5), .val (.int (2 : Int32)), .val (.ref b37), .val (.int (1 : Int32)), .val (.ref b53), .unset] [])) _
      refine own_by (fun _ kt => XS.iloadN X58.here hx rfl (hb hby at_132) rfl kt) ?_
      show own_Go p.tables e below (T58.setTop (mkF m 133 #[.val (.int p0), .val (.int p1), .val (.int p2), .val (.int p3), .val (.int p4), .val (.int p5), .val (.int (2 : Int32)), .val (.ref b37), .val (.int (1 : Int32)), .val (.ref b53), .unset] [(.int p3)])) _
      refine own_by (fun _ kt => XS.istore X58.here hx rfl (hb hby at_133) rfl (l' := #[.val (.int p0), .val (.int p1), .val (.int p2), .val (.int p3), .val (.int p4), .val (.int p5), .val (.int (2 : Int32)), .val (.ref b37), .val (.int (1 : Int32)), .val (.ref b53), .val (.int p3)]) rfl kt) ?_
      show own_Go p.tables e below (T58.setTop (mkF m 135 #[.val (.int p0), .val (.int p1), .val (.int p2), .val (.int p3), .val (.int p4), .val (.int p5), .val (.int (2 : Int32)), .val (.ref b37), .val (.int (1 : Int32)), .val (.ref b53), .val (.int p3)] [])) _
      refine own_by (fun _ kt => XS.goto X58.here hx rfl (pc0 := 135) (pc' := 142) rfl (hb hby at_135) (by decide) (by decide) kt) ?_
      show own_Go p.tables e below (T58.setTop (mkF m 142 #[.val (.int p0), .val (.int p1), .val (.int p2), .val (.int p3), .val (.int p4), .val (.int p5), .val (.int (2 : Int32)), .val (.ref b37), .val (.int (1 : Int32)), .val (.ref b53), .val (.int p3)] [])) _
      refine own_by (fun _ kt => XS.aload X58.here hx rfl (hb hby at_142) rfl rfl kt) ?_
      show own_Go p.tables e below (T58.setTop (mkF m 144 #[.val (.int p0), .val (.int p1), .val (.int p2), .val (.int p3), .val (.int p4), .val (.int p5), .val (.int (2 : Int32)), .val (.ref b37), .val (.int (1 : Int32)), .val (.ref b53), .val (.int p3)] [(.ref b53)])) _
      obtain ⟨cq61, kq61, q61a, q61b, q61c⟩ := isOf hZ rfl f58_0
      obtain ⟨_, _, ⟨T61, L61, k61, n61⟩, -, X61, ⟨Lc61, hQ61, l61, y61, z61⟩, st61⟩ := X58.virtualBack hx (y := (⟨"com/example/lambdagrove/lambdagrove/Tree$Path", "outOfTop", "()I"⟩ : MethodName)) (z := (⟨"com/example/lambdagrove/lambdagrove/Tree$Path", "outOfTop", "()I"⟩ : MethodName)) hown (mvT hZ (hw _ (List.mem_of_getElem? (i := 22) rfl))) (mvT hZ (hw _ (List.mem_of_getElem? (i := 23) rfl))) (notFace_of_selects (args := #[]) (mvT hZ (hw _ (List.mem_of_getElem? (i := 25) rfl)))) (mvT hZ (hw _ (List.mem_of_getElem? (i := 25) rfl))) (mvT hZ (hw _ (List.mem_of_getElem? (i := 24) rfl))) (by decide) (backOf (W := 0) (rm_out l Z a0 hw [] b53 ((1 : Int32)) (b37) (k37) ([(.int p2), (.int p3)]) ((2 : Int32)) (p3) T58.heap n0 Zs58 f58_2 f58_3 f59 (by decide) (fun hh => by first | rfl | exact absurd hh (by decide))) hZ (hw _ (List.mem_of_getElem? (i := 26) rfl)) (hw _ (List.mem_of_getElem? (i := 4) rfl)) (by decide) (by decide)) q61a q61c (g := (mkF m 144 #[.val (.int p0), .val (.int p1), .val (.int p2), .val (.int p3), .val (.int p4), .val (.int p5), .val (.int (2 : Int32)), .val (.ref b37), .val (.int (1 : Int32)), .val (.ref b53), .val (.int p3)] [(.ref b53)])) rfl (by rw [hml]; rfl) (Steps.refl _) (argsL := []) (rest := []) (lenOf pd_2 rfl) rfl (by show 2 * 0 + _ ≤ _; exact Nat.le_of_eq rfl) (hb hby at_144) (fun _ _ => ⟨rfl, rfl, (by decide : 2 + 0 ≤ _), (by decide : 5 + 0 ≤ _)⟩)
      dsimp only [Pt.U, Pt.locs, Pt.cells, Pt.slots] at X61 l61 y61 z61 st61 hQ61
      subst l61 y61 z61
      obtain ⟨rfl, Nq61, eh61⟩ := hQ61
      have N61 := Fr.app N58 Nq61
      refine own_by (fun _ kt => st61.trans kt) ?_
      show own_Go p.tables e below (T61.setTop (mkF m 147 #[.val (.int p0), .val (.int p1), .val (.int p2), .val (.int p3), .val (.int p4), .val (.int p5), .val (.int (2 : Int32)), .val (.ref b37), .val (.int (1 : Int32)), .val (.ref b53), .val (.int p3)] [(.int (own_out (1 : Int32) (2 : Int32) p3))])) _
      refine own_by (fun _ kt => XS.iload X61.here hx rfl (hb hby at_147) rfl kt) ?_
      show own_Go p.tables e below (T61.setTop (mkF m 149 #[.val (.int p0), .val (.int p1), .val (.int p2), .val (.int p3), .val (.int p4), .val (.int p5), .val (.int (2 : Int32)), .val (.ref b37), .val (.int (1 : Int32)), .val (.ref b53), .val (.int p3)] [(.int p3), (.int (own_out (1 : Int32) (2 : Int32) p3))])) _
      refine own_by (fun _ kt => XS.icmpNo X61.here hx rfl (hb hby at_149) rfl (teq (rfl : (own_out (1 : Int32) (2 : Int32) p3) = p3)).2 kt) ?_
      show own_Go p.tables e below (T61.setTop (mkF m 152 #[.val (.int p0), .val (.int p1), .val (.int p2), .val (.int p3), .val (.int p4), .val (.int p5), .val (.int (2 : Int32)), .val (.ref b37), .val (.int (1 : Int32)), .val (.ref b53), .val (.int p3)] [])) _
      refine own_by (fun _ kt => XS.iconst X61.here hx rfl (hb hby at_152) kt) ?_
      show own_Go p.tables e below (T61.setTop (mkF m 153 #[.val (.int p0), .val (.int p1), .val (.int p2), .val (.int p3), .val (.int p4), .val (.int p5), .val (.int (2 : Int32)), .val (.ref b37), .val (.int (1 : Int32)), .val (.ref b53), .val (.int p3)] [(.int (1 : Int32))])) _
      refine own_by (fun _ kt => XS.goto X61.here hx rfl (pc0 := 153) (pc' := 157) rfl (hb hby at_153) (by decide) (by decide) kt) ?_
      show own_Go p.tables e below (T61.setTop (mkF m 157 #[.val (.int p0), .val (.int p1), .val (.int p2), .val (.int p3), .val (.int p4), .val (.int p5), .val (.int (2 : Int32)), .val (.ref b37), .val (.int (1 : Int32)), .val (.ref b53), .val (.int p3)] [(.int (1 : Int32))])) _
      exact own_retN X61 hx (t := .boolean) Bd.returns hlk (by simp) (hb hby at_157) ⟨rfl, N61⟩ (by decide) (by decide)
    · rw [hs85_43]
      show own_Go p.tables e below (T41.setTop (mkF m 85 #[.val (.int p0), .val (.int p1), .val (.int p2), .val (.int p3), .val (.int p4), .val (.int p5), .val (.int (2 : Int32)), .val (.ref b37), .unset, .unset, .unset] [(.int (2 : Int32))])) _
      refine own_by (fun _ kt => XS.istore X41.here hx rfl (hb hby at_85) rfl (l' := #[.val (.int p0), .val (.int p1), .val (.int p2), .val (.int p3), .val (.int p4), .val (.int p5), .val (.int (2 : Int32)), .val (.ref b37), .val (.int (2 : Int32)), .unset, .unset]) rfl kt) ?_
      show own_Go p.tables e below (T41.setTop (mkF m 87 #[.val (.int p0), .val (.int p1), .val (.int p2), .val (.int p3), .val (.int p4), .val (.int p5), .val (.int (2 : Int32)), .val (.ref b37), .val (.int (2 : Int32)), .unset, .unset] [])) _
      obtain ⟨T62, h62, X62, e62, E62, A62, D62, -, st62⟩ := newO X41 hx hZ hown (hw _ (List.mem_of_getElem? (i := 2) rfl)) (hw _ (List.mem_of_getElem? (i := 3) rfl)) (hw _ (List.mem_of_getElem? (i := 4) rfl)) e41 (g := (mkF m 87 #[.val (.int p0), .val (.int p1), .val (.int p2), .val (.int p3), .val (.int p4), .val (.int p5), .val (.int (2 : Int32)), .val (.ref b37), .val (.int (2 : Int32)), .unset, .unset] [])) rfl (hb hby at_87) (by decide) (by decide)
      obtain ⟨b62, g62⟩ : ∃ z, z = h41.size := ⟨_, rfl⟩
      rw [← g62] at A62 D62 st62
      have gn_b62 : n0 ≤ b62 := Nat.le_trans Zs41 (Nat.le_of_eq g62.symm)
      have ne_b37_b62 : b37 ≠ b62 := Nat.ne_of_lt (Nat.lt_of_lt_of_le f42.lt (Nat.le_of_eq g62.symm))
      have f63 := f42.ext E62
      have Zs62 : n0 ≤ h62.size := Nat.le_trans Zs41 E62.1
      have f64 : Fld Z h62 b62 "com/example/lambdagrove/lambdagrove/Tree$Path" "top" "I" (.int (0 : Int32)) := D62 (Or.inr (hw _ (List.mem_of_getElem? (i := 17) rfl))) (ty := .int) (by decide)
      have f65 : Fld Z h62 b62 "com/example/lambdagrove/lambdagrove/Tree$Path" "climb" "I" (.int (0 : Int32)) := D62 (Or.inr (hw _ (List.mem_of_getElem? (i := 19) rfl))) (ty := .int) (by decide)
      have f66 : Fld Z h62 b62 "com/example/lambdagrove/lambdagrove/Tree$Path" "fibres" "[I" .null := D62 (Or.inr (hw _ (List.mem_of_getElem? (i := 21) rfl))) (ty := (.array .int)) (by decide)
      refine own_by st62 ?_
      show own_Go p.tables e below (T62.setTop (mkF m 90 #[.val (.int p0), .val (.int p1), .val (.int p2), .val (.int p3), .val (.int p4), .val (.int p5), .val (.int (2 : Int32)), .val (.ref b37), .val (.int (2 : Int32)), .unset, .unset] [(.ref b62)])) _
      refine own_by (fun _ kt => XS.dup X62.here hx rfl (hb hby at_90) rfl rfl kt) ?_
      show own_Go p.tables e below (T62.setTop (mkF m 91 #[.val (.int p0), .val (.int p1), .val (.int p2), .val (.int p3), .val (.int p4), .val (.int p5), .val (.int (2 : Int32)), .val (.ref b37), .val (.int (2 : Int32)), .unset, .unset] [(.ref b62), (.ref b62)])) _
      refine own_by (fun _ kt => XS.iload X62.here hx rfl (hb hby at_91) rfl kt) ?_
      show own_Go p.tables e below (T62.setTop (mkF m 93 #[.val (.int p0), .val (.int p1), .val (.int p2), .val (.int p3), .val (.int p4), .val (.int p5), .val (.int (2 : Int32)), .val (.ref b37), .val (.int (2 : Int32)), .unset, .unset] [(.int p5), (.ref b62), (.ref b62)])) _
      refine own_by (fun _ kt => XS.iload X62.here hx rfl (hb hby at_93) rfl kt) ?_
      show own_Go p.tables e below (T62.setTop (mkF m 95 #[.val (.int p0), .val (.int p1), .val (.int p2), .val (.int p3), .val (.int p4), .val (.int p5), .val (.int (2 : Int32)), .val (.ref b37), .val (.int (2 : Int32)), .unset, .unset] [(.int (2 : Int32)), (.int p5), (.ref b62), (.ref b62)])) _
      refine own_by (fun _ kt => XS.aload X62.here hx rfl (hb hby at_95) rfl rfl kt) ?_
      show own_Go p.tables e below (T62.setTop (mkF m 97 #[.val (.int p0), .val (.int p1), .val (.int p2), .val (.int p3), .val (.int p4), .val (.int p5), .val (.int (2 : Int32)), .val (.ref b37), .val (.int (2 : Int32)), .unset, .unset] [(.ref b37), (.int (2 : Int32)), (.int p5), (.ref b62), (.ref b62)])) _
      obtain ⟨_, _, ⟨T67, L67, k67, n67⟩, -, X67, ⟨Lc67, hQ67, l67, y67, z67⟩, st67⟩ := X62.specialBack hx (y := (⟨"com/example/lambdagrove/lambdagrove/Tree$Path", "<init>", "(II[I)V"⟩ : MethodName)) rfl hown (mvT hZ (hw _ (List.mem_of_getElem? (i := 5) rfl))) (mvT hZ (hw _ (List.mem_of_getElem? (i := 6) rfl))) (mvT hZ (hw _ (List.mem_of_getElem? (i := 7) rfl))) (by decide) (backOf (W := 1) (rm_init l Z a0 hw [] b62 p5 (2 : Int32) b37  h62 n0 Zs62 f64 f65 f66 A62 gn_b62) hZ (hw _ (List.mem_of_getElem? (i := 7) rfl)) (hw _ (List.mem_of_getElem? (i := 4) rfl)) (by decide) (by decide)) (g := (mkF m 97 #[.val (.int p0), .val (.int p1), .val (.int p2), .val (.int p3), .val (.int p4), .val (.int p5), .val (.int (2 : Int32)), .val (.ref b37), .val (.int (2 : Int32)), .unset, .unset] [(.ref b37), (.int (2 : Int32)), (.int p5), (.ref b62), (.ref b62)])) rfl (by rw [hml]; rfl) (Steps.refl _) (a := b62) (argsL := [(.int p5), (.int (2 : Int32)), (.ref b37)]) (rest := [(.ref b62)]) (lenOf pd_1 rfl) rfl (by show 2 * 0 + _ ≤ _; exact Nat.le_of_eq rfl) (hb hby at_97) (fun _ _ => ⟨rfl, e62, (by decide : 2 + 0 ≤ _), (by decide : 5 + 0 ≤ _)⟩)
      dsimp only [Pt.U, Pt.locs, Pt.cells, Pt.slots] at X67 l67 y67 z67 st67 hQ67
      subst l67 y67 z67
      obtain ⟨rfl, Nq67, K67, f67_0, f67_1, f67_2, f67_3⟩ := hQ67
      have f68 := f63.keep K67 (own_nin ne_b37_b62)
      have f69 := A62.keep K67
      have Zs67 : n0 ≤ T67.heap.size := Nat.le_trans Zs62 K67.1
      have N67 := Fr.app N41 Nq67
      refine own_by (fun _ kt => st67.trans kt) ?_
      show own_Go p.tables e below (T67.setTop (mkF m 100 #[.val (.int p0), .val (.int p1), .val (.int p2), .val (.int p3), .val (.int p4), .val (.int p5), .val (.int (2 : Int32)), .val (.ref b37), .val (.int (2 : Int32)), .unset, .unset] [(.ref b62)])) _
      refine own_by (fun _ kt => XS.astore X67.here hx rfl (hb hby at_100) rfl rfl (l' := #[.val (.int p0), .val (.int p1), .val (.int p2), .val (.int p3), .val (.int p4), .val (.int p5), .val (.int (2 : Int32)), .val (.ref b37), .val (.int (2 : Int32)), .val (.ref b62), .unset]) rfl kt) ?_
      show own_Go p.tables e below (T67.setTop (mkF m 102 #[.val (.int p0), .val (.int p1), .val (.int p2), .val (.int p3), .val (.int p4), .val (.int p5), .val (.int (2 : Int32)), .val (.ref b37), .val (.int (2 : Int32)), .val (.ref b62), .unset] [])) _
      refine own_by (fun _ kt => XS.iload X67.here hx rfl (hb hby at_102) rfl kt) ?_
      show own_Go p.tables e below (T67.setTop (mkF m 104 #[.val (.int p0), .val (.int p1), .val (.int p2), .val (.int p3), .val (.int p4), .val (.int p5), .val (.int (2 : Int32)), .val (.ref b37), .val (.int (2 : Int32)), .val (.ref b62), .unset] [(.int (2 : Int32))])) _
      refine own_by (fun _ kt => XS.iload X67.here hx rfl (hb hby at_104) rfl kt) ?_
      show own_Go p.tables e below (T67.setTop (mkF m 106 #[.val (.int p0), .val (.int p1), .val (.int p2), .val (.int p3), .val (.int p4), .val (.int p5), .val (.int (2 : Int32)), .val (.ref b37), .val (.int (2 : Int32)), .val (.ref b62), .unset] [(.int (2 : Int32)), (.int (2 : Int32))])) _
      refine own_by (fun _ kt => XS.icmpNo X67.here hx rfl (hb hby at_106) rfl (teq (by decide : (2 : Int32) = (2 : Int32))).2 kt) ?_
      show own_Go p.tables e below (T67.setTop (mkF m 109 #[.val (.int p0), .val (.int p1), .val (.int p2), .val (.int p3), .val (.int p4), .val (.int p5), .val (.int (2 : Int32)), .val (.ref b37), .val (.int (2 : Int32)), .val (.ref b62), .unset] [])) _
      refine own_by (fun _ kt => XS.iconst X67.here hx rfl (hb hby at_109) kt) ?_
      show own_Go p.tables e below (T67.setTop (mkF m 110 #[.val (.int p0), .val (.int p1), .val (.int p2), .val (.int p3), .val (.int p4), .val (.int p5), .val (.int (2 : Int32)), .val (.ref b37), .val (.int (2 : Int32)), .val (.ref b62), .unset] [(.int (-1 : Int32))])) _
      refine own_by (fun _ kt => XS.istore X67.here hx rfl (hb hby at_110) rfl (l' := #[.val (.int p0), .val (.int p1), .val (.int p2), .val (.int p3), .val (.int p4), .val (.int p5), .val (.int (2 : Int32)), .val (.ref b37), .val (.int (2 : Int32)), .val (.ref b62), .val (.int (-1 : Int32))]) rfl kt) ?_
      show own_Go p.tables e below (T67.setTop (mkF m 112 #[.val (.int p0), .val (.int p1), .val (.int p2), .val (.int p3), .val (.int p4), .val (.int p5), .val (.int (2 : Int32)), .val (.ref b37), .val (.int (2 : Int32)), .val (.ref b62), .val (.int (-1 : Int32))] [])) _
      refine own_by (fun _ kt => XS.goto X67.here hx rfl (pc0 := 112) (pc' := 142) rfl (hb hby at_112) (by decide) (by decide) kt) ?_
      show own_Go p.tables e below (T67.setTop (mkF m 142 #[.val (.int p0), .val (.int p1), .val (.int p2), .val (.int p3), .val (.int p4), .val (.int p5), .val (.int (2 : Int32)), .val (.ref b37), .val (.int (2 : Int32)), .val (.ref b62), .val (.int (-1 : Int32))] [])) _
      refine own_by (fun _ kt => XS.aload X67.here hx rfl (hb hby at_142) rfl rfl kt) ?_
      show own_Go p.tables e below (T67.setTop (mkF m 144 #[.val (.int p0), .val (.int p1), .val (.int p2), .val (.int p3), .val (.int p4), .val (.int p5), .val (.int (2 : Int32)), .val (.ref b37), .val (.int (2 : Int32)), .val (.ref b62), .val (.int (-1 : Int32))] [(.ref b62)])) _
      obtain ⟨cq70, kq70, q70a, q70b, q70c⟩ := isOf hZ rfl f67_0
      obtain ⟨_, _, ⟨T70, L70, k70, n70⟩, -, X70, ⟨Lc70, hQ70, l70, y70, z70⟩, st70⟩ := X67.virtualBack hx (y := (⟨"com/example/lambdagrove/lambdagrove/Tree$Path", "outOfTop", "()I"⟩ : MethodName)) (z := (⟨"com/example/lambdagrove/lambdagrove/Tree$Path", "outOfTop", "()I"⟩ : MethodName)) hown (mvT hZ (hw _ (List.mem_of_getElem? (i := 22) rfl))) (mvT hZ (hw _ (List.mem_of_getElem? (i := 23) rfl))) (notFace_of_selects (args := #[]) (mvT hZ (hw _ (List.mem_of_getElem? (i := 25) rfl)))) (mvT hZ (hw _ (List.mem_of_getElem? (i := 25) rfl))) (mvT hZ (hw _ (List.mem_of_getElem? (i := 24) rfl))) (by decide) (backOf (W := 0) (rm_out l Z a0 hw [] b62 ((2 : Int32)) (b37) (k37) ([(.int p2), (.int p3)]) ((2 : Int32)) ((0 : Int32)) T67.heap n0 Zs67 f67_2 f67_3 f68 (by decide) (fun hh => by first | rfl | exact absurd hh (by decide))) hZ (hw _ (List.mem_of_getElem? (i := 26) rfl)) (hw _ (List.mem_of_getElem? (i := 4) rfl)) (by decide) (by decide)) q70a q70c (g := (mkF m 144 #[.val (.int p0), .val (.int p1), .val (.int p2), .val (.int p3), .val (.int p4), .val (.int p5), .val (.int (2 : Int32)), .val (.ref b37), .val (.int (2 : Int32)), .val (.ref b62), .val (.int (-1 : Int32))] [(.ref b62)])) rfl (by rw [hml]; rfl) (Steps.refl _) (argsL := []) (rest := []) (lenOf pd_2 rfl) rfl (by show 2 * 0 + _ ≤ _; exact Nat.le_of_eq rfl) (hb hby at_144) (fun _ _ => ⟨rfl, rfl, (by decide : 2 + 0 ≤ _), (by decide : 5 + 0 ≤ _)⟩)
      dsimp only [Pt.U, Pt.locs, Pt.cells, Pt.slots] at X70 l70 y70 z70 st70 hQ70
      subst l70 y70 z70
      obtain ⟨rfl, Nq70, eh70⟩ := hQ70
      have N70 := Fr.app N67 Nq70
      refine own_by (fun _ kt => st70.trans kt) ?_
      show own_Go p.tables e below (T70.setTop (mkF m 147 #[.val (.int p0), .val (.int p1), .val (.int p2), .val (.int p3), .val (.int p4), .val (.int p5), .val (.int (2 : Int32)), .val (.ref b37), .val (.int (2 : Int32)), .val (.ref b62), .val (.int (-1 : Int32))] [(.int (own_out (2 : Int32) (2 : Int32) (0 : Int32)))])) _
      refine own_by (fun _ kt => XS.iload X70.here hx rfl (hb hby at_147) rfl kt) ?_
      show own_Go p.tables e below (T70.setTop (mkF m 149 #[.val (.int p0), .val (.int p1), .val (.int p2), .val (.int p3), .val (.int p4), .val (.int p5), .val (.int (2 : Int32)), .val (.ref b37), .val (.int (2 : Int32)), .val (.ref b62), .val (.int (-1 : Int32))] [(.int (-1 : Int32)), (.int (own_out (2 : Int32) (2 : Int32) (0 : Int32)))])) _
      refine own_by (fun _ kt => XS.icmpNo X70.here hx rfl (hb hby at_149) rfl (teq (rfl : (own_out (2 : Int32) (2 : Int32) (0 : Int32)) = (-1 : Int32))).2 kt) ?_
      show own_Go p.tables e below (T70.setTop (mkF m 152 #[.val (.int p0), .val (.int p1), .val (.int p2), .val (.int p3), .val (.int p4), .val (.int p5), .val (.int (2 : Int32)), .val (.ref b37), .val (.int (2 : Int32)), .val (.ref b62), .val (.int (-1 : Int32))] [])) _
      refine own_by (fun _ kt => XS.iconst X70.here hx rfl (hb hby at_152) kt) ?_
      show own_Go p.tables e below (T70.setTop (mkF m 153 #[.val (.int p0), .val (.int p1), .val (.int p2), .val (.int p3), .val (.int p4), .val (.int p5), .val (.int (2 : Int32)), .val (.ref b37), .val (.int (2 : Int32)), .val (.ref b62), .val (.int (-1 : Int32))] [(.int (1 : Int32))])) _
      refine own_by (fun _ kt => XS.goto X70.here hx rfl (pc0 := 153) (pc' := 157) rfl (hb hby at_153) (by decide) (by decide) kt) ?_
      show own_Go p.tables e below (T70.setTop (mkF m 157 #[.val (.int p0), .val (.int p1), .val (.int p2), .val (.int p3), .val (.int p4), .val (.int p5), .val (.int (2 : Int32)), .val (.ref b37), .val (.int (2 : Int32)), .val (.ref b62), .val (.int (-1 : Int32))] [(.int (1 : Int32))])) _
      exact own_retN X70 hx (t := .boolean) Bd.returns hlk (by simp) (hb hby at_157) ⟨rfl, N70⟩ (by decide) (by decide)
  · rw [hs3_1]
    show own_Go p.tables e below (s₁.setTop (mkF m 3 #[.val (.int p0), .val (.int p1), .val (.int p2), .val (.int p3), .val (.int p4), .val (.int p5), .unset, .unset, .unset, .unset, .unset] [(.int (3 : Int32))])) _
    refine own_by (fun _ kt => XS.istore X0.here hx rfl (hb hby at_3) rfl (l' := #[.val (.int p0), .val (.int p1), .val (.int p2), .val (.int p3), .val (.int p4), .val (.int p5), .val (.int (3 : Int32)), .unset, .unset, .unset, .unset]) rfl kt) ?_
    show own_Go p.tables e below (s₁.setTop (mkF m 5 #[.val (.int p0), .val (.int p1), .val (.int p2), .val (.int p3), .val (.int p4), .val (.int p5), .val (.int (3 : Int32)), .unset, .unset, .unset, .unset] [])) _
    refine own_by (fun _ kt => XS.iload X0.here hx rfl (hb hby at_5) rfl kt) ?_
    show own_Go p.tables e below (s₁.setTop (mkF m 7 #[.val (.int p0), .val (.int p1), .val (.int p2), .val (.int p3), .val (.int p4), .val (.int p5), .val (.int (3 : Int32)), .unset, .unset, .unset, .unset] [(.int (3 : Int32))])) _
    refine own_by (fun _ kt => XS.ifYes X0.here hx rfl (pc0 := 7) (pc' := 18) rfl (hb hby at_7) rfl ((if0 _ _).trans (feq (by decide : ¬ ((3 : Int32) = (0 : Int32)))).2) (by decide) (by decide) kt) ?_
    show own_Go p.tables e below (s₁.setTop (mkF m 18 #[.val (.int p0), .val (.int p1), .val (.int p2), .val (.int p3), .val (.int p4), .val (.int p5), .val (.int (3 : Int32)), .unset, .unset, .unset, .unset] [])) _
    refine own_by (fun _ kt => XS.iload X0.here hx rfl (hb hby at_18) rfl kt) ?_
    show own_Go p.tables e below (s₁.setTop (mkF m 20 #[.val (.int p0), .val (.int p1), .val (.int p2), .val (.int p3), .val (.int p4), .val (.int p5), .val (.int (3 : Int32)), .unset, .unset, .unset, .unset] [(.int (3 : Int32))])) _
    refine own_by (fun _ kt => XS.iconst X0.here hx rfl (hb hby at_20) kt) ?_
    show own_Go p.tables e below (s₁.setTop (mkF m 21 #[.val (.int p0), .val (.int p1), .val (.int p2), .val (.int p3), .val (.int p4), .val (.int p5), .val (.int (3 : Int32)), .unset, .unset, .unset, .unset] [(.int (1 : Int32)), (.int (3 : Int32))])) _
    refine own_by (fun _ kt => XS.icmpYes X0.here hx rfl (pc0 := 21) (pc' := 36) rfl (hb hby at_21) rfl (feq (by decide : ¬ ((3 : Int32) = (1 : Int32)))).2 (by decide) (by decide) kt) ?_
    show own_Go p.tables e below (s₁.setTop (mkF m 36 #[.val (.int p0), .val (.int p1), .val (.int p2), .val (.int p3), .val (.int p4), .val (.int p5), .val (.int (3 : Int32)), .unset, .unset, .unset, .unset] [])) _
    refine own_by (fun _ kt => XS.iload X0.here hx rfl (hb hby at_36) rfl kt) ?_
    show own_Go p.tables e below (s₁.setTop (mkF m 38 #[.val (.int p0), .val (.int p1), .val (.int p2), .val (.int p3), .val (.int p4), .val (.int p5), .val (.int (3 : Int32)), .unset, .unset, .unset, .unset] [(.int (3 : Int32))])) _
    refine own_by (fun _ kt => XS.iconst X0.here hx rfl (hb hby at_38) kt) ?_
    show own_Go p.tables e below (s₁.setTop (mkF m 39 #[.val (.int p0), .val (.int p1), .val (.int p2), .val (.int p3), .val (.int p4), .val (.int p5), .val (.int (3 : Int32)), .unset, .unset, .unset, .unset] [(.int (2 : Int32)), (.int (3 : Int32))])) _
    refine own_by (fun _ kt => XS.icmpYes X0.here hx rfl (pc0 := 39) (pc' := 58) rfl (hb hby at_39) rfl (feq (by decide : ¬ ((3 : Int32) = (2 : Int32)))).2 (by decide) (by decide) kt) ?_
    show own_Go p.tables e below (s₁.setTop (mkF m 58 #[.val (.int p0), .val (.int p1), .val (.int p2), .val (.int p3), .val (.int p4), .val (.int p5), .val (.int (3 : Int32)), .unset, .unset, .unset, .unset] [])) _
    refine own_by (fun _ kt => XS.iconst X0.here hx rfl (hb hby at_58) kt) ?_
    show own_Go p.tables e below (s₁.setTop (mkF m 59 #[.val (.int p0), .val (.int p1), .val (.int p2), .val (.int p3), .val (.int p4), .val (.int p5), .val (.int (3 : Int32)), .unset, .unset, .unset, .unset] [(.int (3 : Int32))])) _
    obtain ⟨T71, h71, k71, X71, e71, E71, A71, st71⟩ := newP X0 hx hZ (hw _ (List.mem_of_getElem? (i := 0) rfl)) e0 (g := (mkF m 59 #[.val (.int p0), .val (.int p1), .val (.int p2), .val (.int p3), .val (.int p4), .val (.int p5), .val (.int (3 : Int32)), .unset, .unset, .unset, .unset] [(.int (3 : Int32))])) rfl (hb hby at_59) rfl (by decide) (cap := 3) (by decide) (by decide) (by decide) (by decide)
    obtain ⟨b71, g71⟩ : ∃ z, z = h0.size := ⟨_, rfl⟩
    rw [← g71] at A71 st71
    have gn_b71 : n0 ≤ b71 := Nat.le_trans Z0 (Nat.le_of_eq g71.symm)
    have Zs71 : n0 ≤ h71.size := Nat.le_trans Z0 E71.1
    have f72 : Arv Z h71 b71 k71 .int (3 : Int32) [(.int (0 : Int32)), (.int (0 : Int32)), (.int (0 : Int32))] (.int (0 : Int32)) := (Arv.new A71 (by decide)).pad (pad_rep [] (.int (0 : Int32)) 3)
    refine own_by st71 ?_
    show own_Go p.tables e below (T71.setTop (mkF m 61 #[.val (.int p0), .val (.int p1), .val (.int p2), .val (.int p3), .val (.int p4), .val (.int p5), .val (.int (3 : Int32)), .unset, .unset, .unset, .unset] [(.ref b71)])) _
    refine own_by (fun _ kt => XS.dup X71.here hx rfl (hb hby at_61) rfl rfl kt) ?_
    show own_Go p.tables e below (T71.setTop (mkF m 62 #[.val (.int p0), .val (.int p1), .val (.int p2), .val (.int p3), .val (.int p4), .val (.int p5), .val (.int (3 : Int32)), .unset, .unset, .unset, .unset] [(.ref b71), (.ref b71)])) _
    refine own_by (fun _ kt => XS.iconst X71.here hx rfl (hb hby at_62) kt) ?_
    show own_Go p.tables e below (T71.setTop (mkF m 63 #[.val (.int p0), .val (.int p1), .val (.int p2), .val (.int p3), .val (.int p4), .val (.int p5), .val (.int (3 : Int32)), .unset, .unset, .unset, .unset] [(.int (0 : Int32)), (.ref b71), (.ref b71)])) _
    refine own_by (fun _ kt => XS.iloadN X71.here hx rfl (hb hby at_63) rfl kt) ?_
    show own_Go p.tables e below (T71.setTop (mkF m 64 #[.val (.int p0), .val (.int p1), .val (.int p2), .val (.int p3), .val (.int p4), .val (.int p5), .val (.int (3 : Int32)), .unset, .unset, .unset, .unset] [(.int p2), (.int (0 : Int32)), (.ref b71), (.ref b71)])) _
    obtain ⟨cl73, Ar73, q73, S73, M73, H73, G73⟩ := f72
    obtain ⟨T73, h73, X73, e73, W73, st73⟩ := stI X71 hx hZ e71 Ar73 (j := (0 : Int32)) (inb_of S73 ⟨by decide, by decide⟩) (g := (mkF m 64 #[.val (.int p0), .val (.int p1), .val (.int p2), .val (.int p3), .val (.int p4), .val (.int p5), .val (.int (3 : Int32)), .unset, .unset, .unset, .unset] [(.int p2), (.int (0 : Int32)), (.ref b71), (.ref b71)])) rfl rfl (hb hby at_64)
    have f74 : Arv Z h73 b71 k71 .int (3 : Int32) [(.int p2), (.int (0 : Int32)), (.int (0 : Int32))] (.int (0 : Int32)) := Arv.set Ar73 q73 S73 M73 H73 G73 rfl W73 0 rfl (Nat.le_of_ble_eq_true rfl)
    have Zs73 : n0 ≤ h73.size := by rw [W73.size]; exact Zs71
    have N73 := Fr.snoc X73 N0 gn_b71
    refine own_by st73 ?_
    show own_Go p.tables e below (T73.setTop (mkF m 65 #[.val (.int p0), .val (.int p1), .val (.int p2), .val (.int p3), .val (.int p4), .val (.int p5), .val (.int (3 : Int32)), .unset, .unset, .unset, .unset] [(.ref b71)])) _
    refine own_by (fun _ kt => XS.dup X73.here hx rfl (hb hby at_65) rfl rfl kt) ?_
    show own_Go p.tables e below (T73.setTop (mkF m 66 #[.val (.int p0), .val (.int p1), .val (.int p2), .val (.int p3), .val (.int p4), .val (.int p5), .val (.int (3 : Int32)), .unset, .unset, .unset, .unset] [(.ref b71), (.ref b71)])) _
    refine own_by (fun _ kt => XS.iconst X73.here hx rfl (hb hby at_66) kt) ?_
    show own_Go p.tables e below (T73.setTop (mkF m 67 #[.val (.int p0), .val (.int p1), .val (.int p2), .val (.int p3), .val (.int p4), .val (.int p5), .val (.int (3 : Int32)), .unset, .unset, .unset, .unset] [(.int (1 : Int32)), (.ref b71), (.ref b71)])) _
    refine own_by (fun _ kt => XS.iloadN X73.here hx rfl (hb hby at_67) rfl kt) ?_
    show own_Go p.tables e below (T73.setTop (mkF m 68 #[.val (.int p0), .val (.int p1), .val (.int p2), .val (.int p3), .val (.int p4), .val (.int p5), .val (.int (3 : Int32)), .unset, .unset, .unset, .unset] [(.int p3), (.int (1 : Int32)), (.ref b71), (.ref b71)])) _
    obtain ⟨cl75, Ar75, q75, S75, M75, H75, G75⟩ := f74
    obtain ⟨T75, h75, X75, e75, W75, st75⟩ := stI X73 hx hZ e73 Ar75 (j := (1 : Int32)) (inb_of S75 ⟨by decide, by decide⟩) (g := (mkF m 68 #[.val (.int p0), .val (.int p1), .val (.int p2), .val (.int p3), .val (.int p4), .val (.int p5), .val (.int (3 : Int32)), .unset, .unset, .unset, .unset] [(.int p3), (.int (1 : Int32)), (.ref b71), (.ref b71)])) rfl rfl (hb hby at_68)
    have f76 : Arv Z h75 b71 k71 .int (3 : Int32) [(.int p2), (.int p3), (.int (0 : Int32))] (.int (0 : Int32)) := Arv.set Ar75 q75 S75 M75 H75 G75 rfl W75 1 rfl (Nat.le_of_ble_eq_true rfl)
    have Zs75 : n0 ≤ h75.size := by rw [W75.size]; exact Zs73
    have N75 := Fr.snoc X75 N73 gn_b71
    refine own_by st75 ?_
    show own_Go p.tables e below (T75.setTop (mkF m 69 #[.val (.int p0), .val (.int p1), .val (.int p2), .val (.int p3), .val (.int p4), .val (.int p5), .val (.int (3 : Int32)), .unset, .unset, .unset, .unset] [(.ref b71)])) _
    refine own_by (fun _ kt => XS.dup X75.here hx rfl (hb hby at_69) rfl rfl kt) ?_
    show own_Go p.tables e below (T75.setTop (mkF m 70 #[.val (.int p0), .val (.int p1), .val (.int p2), .val (.int p3), .val (.int p4), .val (.int p5), .val (.int (3 : Int32)), .unset, .unset, .unset, .unset] [(.ref b71), (.ref b71)])) _
    refine own_by (fun _ kt => XS.iconst X75.here hx rfl (hb hby at_70) kt) ?_
    show own_Go p.tables e below (T75.setTop (mkF m 71 #[.val (.int p0), .val (.int p1), .val (.int p2), .val (.int p3), .val (.int p4), .val (.int p5), .val (.int (3 : Int32)), .unset, .unset, .unset, .unset] [(.int (2 : Int32)), (.ref b71), (.ref b71)])) _
    refine own_by (fun _ kt => XS.iload X75.here hx rfl (hb hby at_71) rfl kt) ?_
    show own_Go p.tables e below (T75.setTop (mkF m 73 #[.val (.int p0), .val (.int p1), .val (.int p2), .val (.int p3), .val (.int p4), .val (.int p5), .val (.int (3 : Int32)), .unset, .unset, .unset, .unset] [(.int p4), (.int (2 : Int32)), (.ref b71), (.ref b71)])) _
    obtain ⟨cl77, Ar77, q77, S77, M77, H77, G77⟩ := f76
    obtain ⟨T77, h77, X77, e77, W77, st77⟩ := stI X75 hx hZ e75 Ar77 (j := (2 : Int32)) (inb_of S77 ⟨by decide, by decide⟩) (g := (mkF m 73 #[.val (.int p0), .val (.int p1), .val (.int p2), .val (.int p3), .val (.int p4), .val (.int p5), .val (.int (3 : Int32)), .unset, .unset, .unset, .unset] [(.int p4), (.int (2 : Int32)), (.ref b71), (.ref b71)])) rfl rfl (hb hby at_73)
    have f78 : Arv Z h77 b71 k71 .int (3 : Int32) [(.int p2), (.int p3), (.int p4)] (.int (0 : Int32)) := Arv.set Ar77 q77 S77 M77 H77 G77 rfl W77 2 rfl (Nat.le_of_ble_eq_true rfl)
    have Zs77 : n0 ≤ h77.size := by rw [W77.size]; exact Zs75
    have N77 := Fr.snoc X77 N75 gn_b71
    refine own_by st77 ?_
    show own_Go p.tables e below (T77.setTop (mkF m 74 #[.val (.int p0), .val (.int p1), .val (.int p2), .val (.int p3), .val (.int p4), .val (.int p5), .val (.int (3 : Int32)), .unset, .unset, .unset, .unset] [(.ref b71)])) _
    refine own_by (fun _ kt => XS.astore X77.here hx rfl (hb hby at_74) rfl rfl (l' := #[.val (.int p0), .val (.int p1), .val (.int p2), .val (.int p3), .val (.int p4), .val (.int p5), .val (.int (3 : Int32)), .val (.ref b71), .unset, .unset, .unset]) rfl kt) ?_
    show own_Go p.tables e below (T77.setTop (mkF m 76 #[.val (.int p0), .val (.int p1), .val (.int p2), .val (.int p3), .val (.int p4), .val (.int p5), .val (.int (3 : Int32)), .val (.ref b71), .unset, .unset, .unset] [])) _
    refine own_by (fun _ kt => XS.iloadN X77.here hx rfl (hb hby at_76) rfl kt) ?_
    show own_Go p.tables e below (T77.setTop (mkF m 77 #[.val (.int p0), .val (.int p1), .val (.int p2), .val (.int p3), .val (.int p4), .val (.int p5), .val (.int (3 : Int32)), .val (.ref b71), .unset, .unset, .unset] [(.int p1)])) _
    refine own_by (X77.ldcInt hx hown (mvT hZ (hw _ (List.mem_of_getElem? (i := 1) rfl))) (g := (mkF m 77 #[.val (.int p0), .val (.int p1), .val (.int p2), .val (.int p3), .val (.int p4), .val (.int p5), .val (.int (3 : Int32)), .val (.ref b71), .unset, .unset, .unset] [(.int p1)])) rfl (hb hby at_77)) ?_
    show own_Go p.tables e below (T77.setTop (mkF m 79 #[.val (.int p0), .val (.int p1), .val (.int p2), .val (.int p3), .val (.int p4), .val (.int p5), .val (.int (3 : Int32)), .val (.ref b71), .unset, .unset, .unset] [(.int (2147483647 : Int32)), (.int p1)])) _
    refine own_by (fun _ kt => XS.iand X77.here hx rfl (hb hby at_79) rfl kt) ?_
    show own_Go p.tables e below (T77.setTop (mkF m 80 #[.val (.int p0), .val (.int p1), .val (.int p2), .val (.int p3), .val (.int p4), .val (.int p5), .val (.int (3 : Int32)), .val (.ref b71), .unset, .unset, .unset] [(.int (p1 &&& (2147483647 : Int32)))])) _
    refine own_by (fun _ kt => XS.iload X77.here hx rfl (hb hby at_80) rfl kt) ?_
    show own_Go p.tables e below (T77.setTop (mkF m 82 #[.val (.int p0), .val (.int p1), .val (.int p2), .val (.int p3), .val (.int p4), .val (.int p5), .val (.int (3 : Int32)), .val (.ref b71), .unset, .unset, .unset] [(.int (3 : Int32)), (.int (p1 &&& (2147483647 : Int32)))])) _
    refine own_by (fun _ kt => XS.iconst X77.here hx rfl (hb hby at_82) kt) ?_
    show own_Go p.tables e below (T77.setTop (mkF m 83 #[.val (.int p0), .val (.int p1), .val (.int p2), .val (.int p3), .val (.int p4), .val (.int p5), .val (.int (3 : Int32)), .val (.ref b71), .unset, .unset, .unset] [(.int (1 : Int32)), (.int (3 : Int32)), (.int (p1 &&& (2147483647 : Int32)))])) _
    refine own_by (fun _ kt => XS.iadd X77.here hx rfl (hb hby at_83) rfl kt) ?_
    show own_Go p.tables e below (T77.setTop (mkF m 84 #[.val (.int p0), .val (.int p1), .val (.int p2), .val (.int p3), .val (.int p4), .val (.int p5), .val (.int (3 : Int32)), .val (.ref b71), .unset, .unset, .unset] [(.int ((3 : Int32) + (1 : Int32))), (.int (p1 &&& (2147483647 : Int32)))])) _
    rw [(by decide : ((3 : Int32) + (1 : Int32)) = (4 : Int32))]
    refine own_by (fun _ kt => iremM X77 hx rfl (hb hby at_84) rfl (by decide) kt) ?_
    show own_Go p.tables e below (T77.setTop (mkF m 85 #[.val (.int p0), .val (.int p1), .val (.int p2), .val (.int p3), .val (.int p4), .val (.int p5), .val (.int (3 : Int32)), .val (.ref b71), .unset, .unset, .unset] [(.int ((p1 &&& (2147483647 : Int32)) % (4 : Int32)))])) _
    rcases (own_mod4 _ : ((p1 &&& (2147483647 : Int32)) % (4 : Int32)) = (0 : Int32) ∨ ((p1 &&& (2147483647 : Int32)) % (4 : Int32)) = (1 : Int32) ∨ ((p1 &&& (2147483647 : Int32)) % (4 : Int32)) = (2 : Int32) ∨ ((p1 &&& (2147483647 : Int32)) % (4 : Int32)) = (3 : Int32)) with hs85_79 | hs85_79 | hs85_79 | hs85_79
    · rw [hs85_79]
      show own_Go p.tables e below (T77.setTop (mkF m 85 #[.val (.int p0), .val (.int p1), .val (.int p2), .val (.int p3), .val (.int p4), .val (.int p5), .val (.int (3 : Int32)), .val (.ref b71), .unset, .unset, .unset] [(.int (0 : Int32))])) _
      refine own_by (fun _ kt => XS.istore X77.here hx rfl (hb hby at_85) rfl (l' := #[.val (.int p0), .val (.int p1), .val (.int p2), .val (.int p3), .val (.int p4), .val (.int p5), .val (.int (3 : Int32)), .val (.ref b71), .val (.int (0 : Int32)), .unset, .unset]) rfl kt) ?_
      show own_Go p.tables e below (T77.setTop (mkF m 87 #[.val (.int p0), .val (.int p1), .val (.int p2), .val (.int p3), .val (.int p4), .val (.int p5), .val (.int (3 : Int32)), .val (.ref b71), .val (.int (0 : Int32)), .unset, .unset] [])) _
      obtain ⟨T80, h80, X80, e80, E80, A80, D80, -, st80⟩ := newO X77 hx hZ hown (hw _ (List.mem_of_getElem? (i := 2) rfl)) (hw _ (List.mem_of_getElem? (i := 3) rfl)) (hw _ (List.mem_of_getElem? (i := 4) rfl)) e77 (g := (mkF m 87 #[.val (.int p0), .val (.int p1), .val (.int p2), .val (.int p3), .val (.int p4), .val (.int p5), .val (.int (3 : Int32)), .val (.ref b71), .val (.int (0 : Int32)), .unset, .unset] [])) rfl (hb hby at_87) (by decide) (by decide)
      obtain ⟨b80, g80⟩ : ∃ z, z = h77.size := ⟨_, rfl⟩
      rw [← g80] at A80 D80 st80
      have gn_b80 : n0 ≤ b80 := Nat.le_trans Zs77 (Nat.le_of_eq g80.symm)
      have ne_b71_b80 : b71 ≠ b80 := Nat.ne_of_lt (Nat.lt_of_lt_of_le f78.lt (Nat.le_of_eq g80.symm))
      have f81 := f78.ext E80
      have Zs80 : n0 ≤ h80.size := Nat.le_trans Zs77 E80.1
      have f82 : Fld Z h80 b80 "com/example/lambdagrove/lambdagrove/Tree$Path" "top" "I" (.int (0 : Int32)) := D80 (Or.inr (hw _ (List.mem_of_getElem? (i := 17) rfl))) (ty := .int) (by decide)
      have f83 : Fld Z h80 b80 "com/example/lambdagrove/lambdagrove/Tree$Path" "climb" "I" (.int (0 : Int32)) := D80 (Or.inr (hw _ (List.mem_of_getElem? (i := 19) rfl))) (ty := .int) (by decide)
      have f84 : Fld Z h80 b80 "com/example/lambdagrove/lambdagrove/Tree$Path" "fibres" "[I" .null := D80 (Or.inr (hw _ (List.mem_of_getElem? (i := 21) rfl))) (ty := (.array .int)) (by decide)
      refine own_by st80 ?_
      show own_Go p.tables e below (T80.setTop (mkF m 90 #[.val (.int p0), .val (.int p1), .val (.int p2), .val (.int p3), .val (.int p4), .val (.int p5), .val (.int (3 : Int32)), .val (.ref b71), .val (.int (0 : Int32)), .unset, .unset] [(.ref b80)])) _
      refine own_by (fun _ kt => XS.dup X80.here hx rfl (hb hby at_90) rfl rfl kt) ?_
      show own_Go p.tables e below (T80.setTop (mkF m 91 #[.val (.int p0), .val (.int p1), .val (.int p2), .val (.int p3), .val (.int p4), .val (.int p5), .val (.int (3 : Int32)), .val (.ref b71), .val (.int (0 : Int32)), .unset, .unset] [(.ref b80), (.ref b80)])) _
      refine own_by (fun _ kt => XS.iload X80.here hx rfl (hb hby at_91) rfl kt) ?_
      show own_Go p.tables e below (T80.setTop (mkF m 93 #[.val (.int p0), .val (.int p1), .val (.int p2), .val (.int p3), .val (.int p4), .val (.int p5), .val (.int (3 : Int32)), .val (.ref b71), .val (.int (0 : Int32)), .unset, .unset] [(.int p5), (.ref b80), (.ref b80)])) _
      refine own_by (fun _ kt => XS.iload X80.here hx rfl (hb hby at_93) rfl kt) ?_
      show own_Go p.tables e below (T80.setTop (mkF m 95 #[.val (.int p0), .val (.int p1), .val (.int p2), .val (.int p3), .val (.int p4), .val (.int p5), .val (.int (3 : Int32)), .val (.ref b71), .val (.int (0 : Int32)), .unset, .unset] [(.int (0 : Int32)), (.int p5), (.ref b80), (.ref b80)])) _
      refine own_by (fun _ kt => XS.aload X80.here hx rfl (hb hby at_95) rfl rfl kt) ?_
      show own_Go p.tables e below (T80.setTop (mkF m 97 #[.val (.int p0), .val (.int p1), .val (.int p2), .val (.int p3), .val (.int p4), .val (.int p5), .val (.int (3 : Int32)), .val (.ref b71), .val (.int (0 : Int32)), .unset, .unset] [(.ref b71), (.int (0 : Int32)), (.int p5), (.ref b80), (.ref b80)])) _
      obtain ⟨_, _, ⟨T85, L85, k85, n85⟩, -, X85, ⟨Lc85, hQ85, l85, y85, z85⟩, st85⟩ := X80.specialBack hx (y := (⟨"com/example/lambdagrove/lambdagrove/Tree$Path", "<init>", "(II[I)V"⟩ : MethodName)) rfl hown (mvT hZ (hw _ (List.mem_of_getElem? (i := 5) rfl))) (mvT hZ (hw _ (List.mem_of_getElem? (i := 6) rfl))) (mvT hZ (hw _ (List.mem_of_getElem? (i := 7) rfl))) (by decide) (backOf (W := 1) (rm_init l Z a0 hw [] b80 p5 (0 : Int32) b71  h80 n0 Zs80 f82 f83 f84 A80 gn_b80) hZ (hw _ (List.mem_of_getElem? (i := 7) rfl)) (hw _ (List.mem_of_getElem? (i := 4) rfl)) (by decide) (by decide)) (g := (mkF m 97 #[.val (.int p0), .val (.int p1), .val (.int p2), .val (.int p3), .val (.int p4), .val (.int p5), .val (.int (3 : Int32)), .val (.ref b71), .val (.int (0 : Int32)), .unset, .unset] [(.ref b71), (.int (0 : Int32)), (.int p5), (.ref b80), (.ref b80)])) rfl (by rw [hml]; rfl) (Steps.refl _) (a := b80) (argsL := [(.int p5), (.int (0 : Int32)), (.ref b71)]) (rest := [(.ref b80)]) (lenOf pd_1 rfl) rfl (by show 2 * 0 + _ ≤ _; exact Nat.le_of_eq rfl) (hb hby at_97) (fun _ _ => ⟨rfl, e80, (by decide : 2 + 0 ≤ _), (by decide : 6 + 0 ≤ _)⟩)
      dsimp only [Pt.U, Pt.locs, Pt.cells, Pt.slots] at X85 l85 y85 z85 st85 hQ85
      subst l85 y85 z85
      obtain ⟨rfl, Nq85, K85, f85_0, f85_1, f85_2, f85_3⟩ := hQ85
      have f86 := f81.keep K85 (own_nin ne_b71_b80)
      have f87 := A80.keep K85
      have Zs85 : n0 ≤ T85.heap.size := Nat.le_trans Zs80 K85.1
      have N85 := Fr.app N77 Nq85
      refine own_by (fun _ kt => st85.trans kt) ?_
      show own_Go p.tables e below (T85.setTop (mkF m 100 #[.val (.int p0), .val (.int p1), .val (.int p2), .val (.int p3), .val (.int p4), .val (.int p5), .val (.int (3 : Int32)), .val (.ref b71), .val (.int (0 : Int32)), .unset, .unset] [(.ref b80)])) _
      refine own_by (fun _ kt => XS.astore X85.here hx rfl (hb hby at_100) rfl rfl (l' := #[.val (.int p0), .val (.int p1), .val (.int p2), .val (.int p3), .val (.int p4), .val (.int p5), .val (.int (3 : Int32)), .val (.ref b71), .val (.int (0 : Int32)), .val (.ref b80), .unset]) rfl kt) ?_
      show own_Go p.tables e below (T85.setTop (mkF m 102 #[.val (.int p0), .val (.int p1), .val (.int p2), .val (.int p3), .val (.int p4), .val (.int p5), .val (.int (3 : Int32)), .val (.ref b71), .val (.int (0 : Int32)), .val (.ref b80), .unset] [])) _
      refine own_by (fun _ kt => XS.iload X85.here hx rfl (hb hby at_102) rfl kt) ?_
      show own_Go p.tables e below (T85.setTop (mkF m 104 #[.val (.int p0), .val (.int p1), .val (.int p2), .val (.int p3), .val (.int p4), .val (.int p5), .val (.int (3 : Int32)), .val (.ref b71), .val (.int (0 : Int32)), .val (.ref b80), .unset] [(.int (0 : Int32))])) _
      refine own_by (fun _ kt => XS.iload X85.here hx rfl (hb hby at_104) rfl kt) ?_
      show own_Go p.tables e below (T85.setTop (mkF m 106 #[.val (.int p0), .val (.int p1), .val (.int p2), .val (.int p3), .val (.int p4), .val (.int p5), .val (.int (3 : Int32)), .val (.ref b71), .val (.int (0 : Int32)), .val (.ref b80), .unset] [(.int (3 : Int32)), (.int (0 : Int32))])) _
      refine own_by (fun _ kt => XS.icmpYes X85.here hx rfl (pc0 := 106) (pc' := 115) rfl (hb hby at_106) rfl (feq (by decide : ¬ ((0 : Int32) = (3 : Int32)))).2 (by decide) (by decide) kt) ?_
      show own_Go p.tables e below (T85.setTop (mkF m 115 #[.val (.int p0), .val (.int p1), .val (.int p2), .val (.int p3), .val (.int p4), .val (.int p5), .val (.int (3 : Int32)), .val (.ref b71), .val (.int (0 : Int32)), .val (.ref b80), .unset] [])) _
      refine own_by (fun _ kt => XS.iload X85.here hx rfl (hb hby at_115) rfl kt) ?_
      show own_Go p.tables e below (T85.setTop (mkF m 117 #[.val (.int p0), .val (.int p1), .val (.int p2), .val (.int p3), .val (.int p4), .val (.int p5), .val (.int (3 : Int32)), .val (.ref b71), .val (.int (0 : Int32)), .val (.ref b80), .unset] [(.int (0 : Int32))])) _
      refine own_by (fun _ kt => XS.ifNo X85.here hx rfl (hb hby at_117) rfl ((if0 _ _).trans (teq (by decide : (0 : Int32) = (0 : Int32))).2) kt) ?_
      show own_Go p.tables e below (T85.setTop (mkF m 120 #[.val (.int p0), .val (.int p1), .val (.int p2), .val (.int p3), .val (.int p4), .val (.int p5), .val (.int (3 : Int32)), .val (.ref b71), .val (.int (0 : Int32)), .val (.ref b80), .unset] [])) _
      refine own_by (fun _ kt => XS.iloadN X85.here hx rfl (hb hby at_120) rfl kt) ?_
      show own_Go p.tables e below (T85.setTop (mkF m 121 #[.val (.int p0), .val (.int p1), .val (.int p2), .val (.int p3), .val (.int p4), .val (.int p5), .val (.int (3 : Int32)), .val (.ref b71), .val (.int (0 : Int32)), .val (.ref b80), .unset] [(.int p2)])) _
      refine own_by (fun _ kt => XS.istore X85.here hx rfl (hb hby at_121) rfl (l' := #[.val (.int p0), .val (.int p1), .val (.int p2), .val (.int p3), .val (.int p4), .val (.int p5), .val (.int (3 : Int32)), .val (.ref b71), .val (.int (0 : Int32)), .val (.ref b80), .val (.int p2)]) rfl kt) ?_
      show own_Go p.tables e below (T85.setTop (mkF m 123 #[.val (.int p0), .val (.int p1), .val (.int p2), .val (.int p3), .val (.int p4), .val (.int p5), .val (.int (3 : Int32)), .val (.ref b71), .val (.int (0 : Int32)), .val (.ref b80), .val (.int p2)] [])) _
      refine own_by (fun _ kt => XS.goto X85.here hx rfl (pc0 := 123) (pc' := 142) rfl (hb hby at_123) (by decide) (by decide) kt) ?_
      show own_Go p.tables e below (T85.setTop (mkF m 142 #[.val (.int p0), .val (.int p1), .val (.int p2), .val (.int p3), .val (.int p4), .val (.int p5), .val (.int (3 : Int32)), .val (.ref b71), .val (.int (0 : Int32)), .val (.ref b80), .val (.int p2)] [])) _
      refine own_by (fun _ kt => XS.aload X85.here hx rfl (hb hby at_142) rfl rfl kt) ?_
      show own_Go p.tables e below (T85.setTop (mkF m 144 #[.val (.int p0), .val (.int p1), .val (.int p2), .val (.int p3), .val (.int p4), .val (.int p5), .val (.int (3 : Int32)), .val (.ref b71), .val (.int (0 : Int32)), .val (.ref b80), .val (.int p2)] [(.ref b80)])) _
      obtain ⟨cq88, kq88, q88a, q88b, q88c⟩ := isOf hZ rfl f85_0
      obtain ⟨_, _, ⟨T88, L88, k88, n88⟩, -, X88, ⟨Lc88, hQ88, l88, y88, z88⟩, st88⟩ := X85.virtualBack hx (y := (⟨"com/example/lambdagrove/lambdagrove/Tree$Path", "outOfTop", "()I"⟩ : MethodName)) (z := (⟨"com/example/lambdagrove/lambdagrove/Tree$Path", "outOfTop", "()I"⟩ : MethodName)) hown (mvT hZ (hw _ (List.mem_of_getElem? (i := 22) rfl))) (mvT hZ (hw _ (List.mem_of_getElem? (i := 23) rfl))) (notFace_of_selects (args := #[]) (mvT hZ (hw _ (List.mem_of_getElem? (i := 25) rfl)))) (mvT hZ (hw _ (List.mem_of_getElem? (i := 25) rfl))) (mvT hZ (hw _ (List.mem_of_getElem? (i := 24) rfl))) (by decide) (backOf (W := 0) (rm_out l Z a0 hw [] b80 ((0 : Int32)) (b71) (k71) ([(.int p2), (.int p3), (.int p4)]) ((3 : Int32)) (p2) T85.heap n0 Zs85 f85_2 f85_3 f86 (by decide) (fun hh => by first | rfl | exact absurd hh (by decide))) hZ (hw _ (List.mem_of_getElem? (i := 26) rfl)) (hw _ (List.mem_of_getElem? (i := 4) rfl)) (by decide) (by decide)) q88a q88c (g := (mkF m 144 #[.val (.int p0), .val (.int p1), .val (.int p2), .val (.int p3), .val (.int p4), .val (.int p5), .val (.int (3 : Int32)), .val (.ref b71), .val (.int (0 : Int32)), .val (.ref b80), .val (.int p2)] [(.ref b80)])) rfl (by rw [hml]; rfl) (Steps.refl _) (argsL := []) (rest := []) (lenOf pd_2 rfl) rfl (by show 2 * 0 + _ ≤ _; exact Nat.le_of_eq rfl) (hb hby at_144) (fun _ _ => ⟨rfl, rfl, (by decide : 2 + 0 ≤ _), (by decide : 6 + 0 ≤ _)⟩)
      dsimp only [Pt.U, Pt.locs, Pt.cells, Pt.slots] at X88 l88 y88 z88 st88 hQ88
      subst l88 y88 z88
      obtain ⟨rfl, Nq88, eh88⟩ := hQ88
      have N88 := Fr.app N85 Nq88
      refine own_by (fun _ kt => st88.trans kt) ?_
      show own_Go p.tables e below (T88.setTop (mkF m 147 #[.val (.int p0), .val (.int p1), .val (.int p2), .val (.int p3), .val (.int p4), .val (.int p5), .val (.int (3 : Int32)), .val (.ref b71), .val (.int (0 : Int32)), .val (.ref b80), .val (.int p2)] [(.int (own_out (0 : Int32) (3 : Int32) p2))])) _
      refine own_by (fun _ kt => XS.iload X88.here hx rfl (hb hby at_147) rfl kt) ?_
      show own_Go p.tables e below (T88.setTop (mkF m 149 #[.val (.int p0), .val (.int p1), .val (.int p2), .val (.int p3), .val (.int p4), .val (.int p5), .val (.int (3 : Int32)), .val (.ref b71), .val (.int (0 : Int32)), .val (.ref b80), .val (.int p2)] [(.int p2), (.int (own_out (0 : Int32) (3 : Int32) p2))])) _
      refine own_by (fun _ kt => XS.icmpNo X88.here hx rfl (hb hby at_149) rfl (teq (rfl : (own_out (0 : Int32) (3 : Int32) p2) = p2)).2 kt) ?_
      show own_Go p.tables e below (T88.setTop (mkF m 152 #[.val (.int p0), .val (.int p1), .val (.int p2), .val (.int p3), .val (.int p4), .val (.int p5), .val (.int (3 : Int32)), .val (.ref b71), .val (.int (0 : Int32)), .val (.ref b80), .val (.int p2)] [])) _
      refine own_by (fun _ kt => XS.iconst X88.here hx rfl (hb hby at_152) kt) ?_
      show own_Go p.tables e below (T88.setTop (mkF m 153 #[.val (.int p0), .val (.int p1), .val (.int p2), .val (.int p3), .val (.int p4), .val (.int p5), .val (.int (3 : Int32)), .val (.ref b71), .val (.int (0 : Int32)), .val (.ref b80), .val (.int p2)] [(.int (1 : Int32))])) _
      refine own_by (fun _ kt => XS.goto X88.here hx rfl (pc0 := 153) (pc' := 157) rfl (hb hby at_153) (by decide) (by decide) kt) ?_
      show own_Go p.tables e below (T88.setTop (mkF m 157 #[.val (.int p0), .val (.int p1), .val (.int p2), .val (.int p3), .val (.int p4), .val (.int p5), .val (.int (3 : Int32)), .val (.ref b71), .val (.int (0 : Int32)), .val (.ref b80), .val (.int p2)] [(.int (1 : Int32))])) _
      exact own_retN X88 hx (t := .boolean) Bd.returns hlk (by simp) (hb hby at_157) ⟨rfl, N88⟩ (by decide) (by decide)
    · rw [hs85_79]
      show own_Go p.tables e below (T77.setTop (mkF m 85 #[.val (.int p0), .val (.int p1), .val (.int p2), .val (.int p3), .val (.int p4), .val (.int p5), .val (.int (3 : Int32)), .val (.ref b71), .unset, .unset, .unset] [(.int (1 : Int32))])) _
      refine own_by (fun _ kt => XS.istore X77.here hx rfl (hb hby at_85) rfl (l' := #[.val (.int p0), .val (.int p1), .val (.int p2), .val (.int p3), .val (.int p4), .val (.int p5), .val (.int (3 : Int32)), .val (.ref b71), .val (.int (1 : Int32)), .unset, .unset]) rfl kt) ?_
      show own_Go p.tables e below (T77.setTop (mkF m 87 #[.val (.int p0), .val (.int p1), .val (.int p2), .val (.int p3), .val (.int p4), .val (.int p5), .val (.int (3 : Int32)), .val (.ref b71), .val (.int (1 : Int32)), .unset, .unset] [])) _
      obtain ⟨T89, h89, X89, e89, E89, A89, D89, -, st89⟩ := newO X77 hx hZ hown (hw _ (List.mem_of_getElem? (i := 2) rfl)) (hw _ (List.mem_of_getElem? (i := 3) rfl)) (hw _ (List.mem_of_getElem? (i := 4) rfl)) e77 (g := (mkF m 87 #[.val (.int p0), .val (.int p1), .val (.int p2), .val (.int p3), .val (.int p4), .val (.int p5), .val (.int (3 : Int32)), .val (.ref b71), .val (.int (1 : Int32)), .unset, .unset] [])) rfl (hb hby at_87) (by decide) (by decide)
      obtain ⟨b89, g89⟩ : ∃ z, z = h77.size := ⟨_, rfl⟩
      rw [← g89] at A89 D89 st89
      have gn_b89 : n0 ≤ b89 := Nat.le_trans Zs77 (Nat.le_of_eq g89.symm)
      have ne_b71_b89 : b71 ≠ b89 := Nat.ne_of_lt (Nat.lt_of_lt_of_le f78.lt (Nat.le_of_eq g89.symm))
      have f90 := f78.ext E89
      have Zs89 : n0 ≤ h89.size := Nat.le_trans Zs77 E89.1
      have f91 : Fld Z h89 b89 "com/example/lambdagrove/lambdagrove/Tree$Path" "top" "I" (.int (0 : Int32)) := D89 (Or.inr (hw _ (List.mem_of_getElem? (i := 17) rfl))) (ty := .int) (by decide)
      have f92 : Fld Z h89 b89 "com/example/lambdagrove/lambdagrove/Tree$Path" "climb" "I" (.int (0 : Int32)) := D89 (Or.inr (hw _ (List.mem_of_getElem? (i := 19) rfl))) (ty := .int) (by decide)
      have f93 : Fld Z h89 b89 "com/example/lambdagrove/lambdagrove/Tree$Path" "fibres" "[I" .null := D89 (Or.inr (hw _ (List.mem_of_getElem? (i := 21) rfl))) (ty := (.array .int)) (by decide)
      refine own_by st89 ?_
      show own_Go p.tables e below (T89.setTop (mkF m 90 #[.val (.int p0), .val (.int p1), .val (.int p2), .val (.int p3), .val (.int p4), .val (.int p5), .val (.int (3 : Int32)), .val (.ref b71), .val (.int (1 : Int32)), .unset, .unset] [(.ref b89)])) _
      refine own_by (fun _ kt => XS.dup X89.here hx rfl (hb hby at_90) rfl rfl kt) ?_
      show own_Go p.tables e below (T89.setTop (mkF m 91 #[.val (.int p0), .val (.int p1), .val (.int p2), .val (.int p3), .val (.int p4), .val (.int p5), .val (.int (3 : Int32)), .val (.ref b71), .val (.int (1 : Int32)), .unset, .unset] [(.ref b89), (.ref b89)])) _
      refine own_by (fun _ kt => XS.iload X89.here hx rfl (hb hby at_91) rfl kt) ?_
      show own_Go p.tables e below (T89.setTop (mkF m 93 #[.val (.int p0), .val (.int p1), .val (.int p2), .val (.int p3), .val (.int p4), .val (.int p5), .val (.int (3 : Int32)), .val (.ref b71), .val (.int (1 : Int32)), .unset, .unset] [(.int p5), (.ref b89), (.ref b89)])) _
      refine own_by (fun _ kt => XS.iload X89.here hx rfl (hb hby at_93) rfl kt) ?_
      show own_Go p.tables e below (T89.setTop (mkF m 95 #[.val (.int p0), .val (.int p1), .val (.int p2), .val (.int p3), .val (.int p4), .val (.int p5), .val (.int (3 : Int32)), .val (.ref b71), .val (.int (1 : Int32)), .unset, .unset] [(.int (1 : Int32)), (.int p5), (.ref b89), (.ref b89)])) _
      refine own_by (fun _ kt => XS.aload X89.here hx rfl (hb hby at_95) rfl rfl kt) ?_
      show own_Go p.tables e below (T89.setTop (mkF m 97 #[.val (.int p0), .val (.int p1), .val (.int p2), .val (.int p3), .val (.int p4), .val (.int p5), .val (.int (3 : Int32)), .val (.ref b71), .val (.int (1 : Int32)), .unset, .unset] [(.ref b71), (.int (1 : Int32)), (.int p5), (.ref b89), (.ref b89)])) _
      obtain ⟨_, _, ⟨T94, L94, k94, n94⟩, -, X94, ⟨Lc94, hQ94, l94, y94, z94⟩, st94⟩ := X89.specialBack hx (y := (⟨"com/example/lambdagrove/lambdagrove/Tree$Path", "<init>", "(II[I)V"⟩ : MethodName)) rfl hown (mvT hZ (hw _ (List.mem_of_getElem? (i := 5) rfl))) (mvT hZ (hw _ (List.mem_of_getElem? (i := 6) rfl))) (mvT hZ (hw _ (List.mem_of_getElem? (i := 7) rfl))) (by decide) (backOf (W := 1) (rm_init l Z a0 hw [] b89 p5 (1 : Int32) b71  h89 n0 Zs89 f91 f92 f93 A89 gn_b89) hZ (hw _ (List.mem_of_getElem? (i := 7) rfl)) (hw _ (List.mem_of_getElem? (i := 4) rfl)) (by decide) (by decide)) (g := (mkF m 97 #[.val (.int p0), .val (.int p1), .val (.int p2), .val (.int p3), .val (.int p4), .val (.int p5), .val (.int (3 : Int32)), .val (.ref b71), .val (.int (1 : Int32)), .unset, .unset] [(.ref b71), (.int (1 : Int32)), (.int p5), (.ref b89), (.ref b89)])) rfl (by rw [hml]; rfl) (Steps.refl _) (a := b89) (argsL := [(.int p5), (.int (1 : Int32)), (.ref b71)]) (rest := [(.ref b89)]) (lenOf pd_1 rfl) rfl (by show 2 * 0 + _ ≤ _; exact Nat.le_of_eq rfl) (hb hby at_97) (fun _ _ => ⟨rfl, e89, (by decide : 2 + 0 ≤ _), (by decide : 6 + 0 ≤ _)⟩)
      dsimp only [Pt.U, Pt.locs, Pt.cells, Pt.slots] at X94 l94 y94 z94 st94 hQ94
      subst l94 y94 z94
      obtain ⟨rfl, Nq94, K94, f94_0, f94_1, f94_2, f94_3⟩ := hQ94
      have f95 := f90.keep K94 (own_nin ne_b71_b89)
      have f96 := A89.keep K94
      have Zs94 : n0 ≤ T94.heap.size := Nat.le_trans Zs89 K94.1
      have N94 := Fr.app N77 Nq94
      refine own_by (fun _ kt => st94.trans kt) ?_
      show own_Go p.tables e below (T94.setTop (mkF m 100 #[.val (.int p0), .val (.int p1), .val (.int p2), .val (.int p3), .val (.int p4), .val (.int p5), .val (.int (3 : Int32)), .val (.ref b71), .val (.int (1 : Int32)), .unset, .unset] [(.ref b89)])) _
      refine own_by (fun _ kt => XS.astore X94.here hx rfl (hb hby at_100) rfl rfl (l' := #[.val (.int p0), .val (.int p1), .val (.int p2), .val (.int p3), .val (.int p4), .val (.int p5), .val (.int (3 : Int32)), .val (.ref b71), .val (.int (1 : Int32)), .val (.ref b89), .unset]) rfl kt) ?_
      show own_Go p.tables e below (T94.setTop (mkF m 102 #[.val (.int p0), .val (.int p1), .val (.int p2), .val (.int p3), .val (.int p4), .val (.int p5), .val (.int (3 : Int32)), .val (.ref b71), .val (.int (1 : Int32)), .val (.ref b89), .unset] [])) _
      refine own_by (fun _ kt => XS.iload X94.here hx rfl (hb hby at_102) rfl kt) ?_
      show own_Go p.tables e below (T94.setTop (mkF m 104 #[.val (.int p0), .val (.int p1), .val (.int p2), .val (.int p3), .val (.int p4), .val (.int p5), .val (.int (3 : Int32)), .val (.ref b71), .val (.int (1 : Int32)), .val (.ref b89), .unset] [(.int (1 : Int32))])) _
      refine own_by (fun _ kt => XS.iload X94.here hx rfl (hb hby at_104) rfl kt) ?_
      show own_Go p.tables e below (T94.setTop (mkF m 106 #[.val (.int p0), .val (.int p1), .val (.int p2), .val (.int p3), .val (.int p4), .val (.int p5), .val (.int (3 : Int32)), .val (.ref b71), .val (.int (1 : Int32)), .val (.ref b89), .unset] [(.int (3 : Int32)), (.int (1 : Int32))])) _
      refine own_by (fun _ kt => XS.icmpYes X94.here hx rfl (pc0 := 106) (pc' := 115) rfl (hb hby at_106) rfl (feq (by decide : ¬ ((1 : Int32) = (3 : Int32)))).2 (by decide) (by decide) kt) ?_
      show own_Go p.tables e below (T94.setTop (mkF m 115 #[.val (.int p0), .val (.int p1), .val (.int p2), .val (.int p3), .val (.int p4), .val (.int p5), .val (.int (3 : Int32)), .val (.ref b71), .val (.int (1 : Int32)), .val (.ref b89), .unset] [])) _
      refine own_by (fun _ kt => XS.iload X94.here hx rfl (hb hby at_115) rfl kt) ?_
      show own_Go p.tables e below (T94.setTop (mkF m 117 #[.val (.int p0), .val (.int p1), .val (.int p2), .val (.int p3), .val (.int p4), .val (.int p5), .val (.int (3 : Int32)), .val (.ref b71), .val (.int (1 : Int32)), .val (.ref b89), .unset] [(.int (1 : Int32))])) _
      refine own_by (fun _ kt => XS.ifYes X94.here hx rfl (pc0 := 117) (pc' := 126) rfl (hb hby at_117) rfl ((if0 _ _).trans (feq (by decide : ¬ ((1 : Int32) = (0 : Int32)))).2) (by decide) (by decide) kt) ?_
      show own_Go p.tables e below (T94.setTop (mkF m 126 #[.val (.int p0), .val (.int p1), .val (.int p2), .val (.int p3), .val (.int p4), .val (.int p5), .val (.int (3 : Int32)), .val (.ref b71), .val (.int (1 : Int32)), .val (.ref b89), .unset] [])) _
      refine own_by (fun _ kt => XS.iload X94.here hx rfl (hb hby at_126) rfl kt) ?_
      show own_Go p.tables e below (T94.setTop (mkF m 128 #[.val (.int p0), .val (.int p1), .val (.int p2), .val (.int p3), .val (.int p4), .val (.int p5), .val (.int (3 : Int32)), .val (.ref b71), .val (.int (1 : Int32)), .val (.ref b89), .unset] [(.int (1 : Int32))])) _
      refine own_by (fun _ kt => XS.iconst X94.here hx rfl (hb hby at_128) kt) ?_
      show own_Go p.tables e below (T94.setTop (mkF m 129 #[.val (.int p0), .val (.int p1), .val (.int p2), .val (.int p3), .val (.int p4), .val (.int p5), .val (.int (3 : Int32)), .val (.ref b71), .val (.int (1 : Int32)), .val (.ref b89), .unset] [(.int (1 : Int32)), (.int (1 : Int32))])) _
      refine own_by (fun _ kt => XS.icmpNo X94.here hx rfl (hb hby at_129) rfl (teq (by decide : (1 : Int32) = (1 : Int32))).2 kt) ?_
      show own_Go p.tables e below (T94.setTop (mkF m 132 #[.val (.int p0), .val (.int p1), .val (.int p2), .val (.int p3), .val (.int p4), .val (.int p5), .val (.int (3 : Int32)), .val (.ref b71), .val (.int (1 : Int32)), .val (.ref b89), .unset] [])) _
      refine own_by (fun _ kt => XS.iloadN X94.here hx rfl (hb hby at_132) rfl kt) ?_
      show own_Go p.tables e below (T94.setTop (mkF m 133 #[.val (.int p0), .val (.int p1), .val (.int p2), .val (.int p3), .val (.int p4), .val (.int p5), .val (.int (3 : Int32)), .val (.ref b71), .val (.int (1 : Int32)), .val (.ref b89), .unset] [(.int p3)])) _
      refine own_by (fun _ kt => XS.istore X94.here hx rfl (hb hby at_133) rfl (l' := #[.val (.int p0), .val (.int p1), .val (.int p2), .val (.int p3), .val (.int p4), .val (.int p5), .val (.int (3 : Int32)), .val (.ref b71), .val (.int (1 : Int32)), .val (.ref b89), .val (.int p3)]) rfl kt) ?_
      show own_Go p.tables e below (T94.setTop (mkF m 135 #[.val (.int p0), .val (.int p1), .val (.int p2), .val (.int p3), .val (.int p4), .val (.int p5), .val (.int (3 : Int32)), .val (.ref b71), .val (.int (1 : Int32)), .val (.ref b89), .val (.int p3)] [])) _
      refine own_by (fun _ kt => XS.goto X94.here hx rfl (pc0 := 135) (pc' := 142) rfl (hb hby at_135) (by decide) (by decide) kt) ?_
      show own_Go p.tables e below (T94.setTop (mkF m 142 #[.val (.int p0), .val (.int p1), .val (.int p2), .val (.int p3), .val (.int p4), .val (.int p5), .val (.int (3 : Int32)), .val (.ref b71), .val (.int (1 : Int32)), .val (.ref b89), .val (.int p3)] [])) _
      refine own_by (fun _ kt => XS.aload X94.here hx rfl (hb hby at_142) rfl rfl kt) ?_
      show own_Go p.tables e below (T94.setTop (mkF m 144 #[.val (.int p0), .val (.int p1), .val (.int p2), .val (.int p3), .val (.int p4), .val (.int p5), .val (.int (3 : Int32)), .val (.ref b71), .val (.int (1 : Int32)), .val (.ref b89), .val (.int p3)] [(.ref b89)])) _
      obtain ⟨cq97, kq97, q97a, q97b, q97c⟩ := isOf hZ rfl f94_0
      obtain ⟨_, _, ⟨T97, L97, k97, n97⟩, -, X97, ⟨Lc97, hQ97, l97, y97, z97⟩, st97⟩ := X94.virtualBack hx (y := (⟨"com/example/lambdagrove/lambdagrove/Tree$Path", "outOfTop", "()I"⟩ : MethodName)) (z := (⟨"com/example/lambdagrove/lambdagrove/Tree$Path", "outOfTop", "()I"⟩ : MethodName)) hown (mvT hZ (hw _ (List.mem_of_getElem? (i := 22) rfl))) (mvT hZ (hw _ (List.mem_of_getElem? (i := 23) rfl))) (notFace_of_selects (args := #[]) (mvT hZ (hw _ (List.mem_of_getElem? (i := 25) rfl)))) (mvT hZ (hw _ (List.mem_of_getElem? (i := 25) rfl))) (mvT hZ (hw _ (List.mem_of_getElem? (i := 24) rfl))) (by decide) (backOf (W := 0) (rm_out l Z a0 hw [] b89 ((1 : Int32)) (b71) (k71) ([(.int p2), (.int p3), (.int p4)]) ((3 : Int32)) (p3) T94.heap n0 Zs94 f94_2 f94_3 f95 (by decide) (fun hh => by first | rfl | exact absurd hh (by decide))) hZ (hw _ (List.mem_of_getElem? (i := 26) rfl)) (hw _ (List.mem_of_getElem? (i := 4) rfl)) (by decide) (by decide)) q97a q97c (g := (mkF m 144 #[.val (.int p0), .val (.int p1), .val (.int p2), .val (.int p3), .val (.int p4), .val (.int p5), .val (.int (3 : Int32)), .val (.ref b71), .val (.int (1 : Int32)), .val (.ref b89), .val (.int p3)] [(.ref b89)])) rfl (by rw [hml]; rfl) (Steps.refl _) (argsL := []) (rest := []) (lenOf pd_2 rfl) rfl (by show 2 * 0 + _ ≤ _; exact Nat.le_of_eq rfl) (hb hby at_144) (fun _ _ => ⟨rfl, rfl, (by decide : 2 + 0 ≤ _), (by decide : 6 + 0 ≤ _)⟩)
      dsimp only [Pt.U, Pt.locs, Pt.cells, Pt.slots] at X97 l97 y97 z97 st97 hQ97
      subst l97 y97 z97
      obtain ⟨rfl, Nq97, eh97⟩ := hQ97
      have N97 := Fr.app N94 Nq97
      refine own_by (fun _ kt => st97.trans kt) ?_
      show own_Go p.tables e below (T97.setTop (mkF m 147 #[.val (.int p0), .val (.int p1), .val (.int p2), .val (.int p3), .val (.int p4), .val (.int p5), .val (.int (3 : Int32)), .val (.ref b71), .val (.int (1 : Int32)), .val (.ref b89), .val (.int p3)] [(.int (own_out (1 : Int32) (3 : Int32) p3))])) _
      refine own_by (fun _ kt => XS.iload X97.here hx rfl (hb hby at_147) rfl kt) ?_
      show own_Go p.tables e below (T97.setTop (mkF m 149 #[.val (.int p0), .val (.int p1), .val (.int p2), .val (.int p3), .val (.int p4), .val (.int p5), .val (.int (3 : Int32)), .val (.ref b71), .val (.int (1 : Int32)), .val (.ref b89), .val (.int p3)] [(.int p3), (.int (own_out (1 : Int32) (3 : Int32) p3))])) _
      refine own_by (fun _ kt => XS.icmpNo X97.here hx rfl (hb hby at_149) rfl (teq (rfl : (own_out (1 : Int32) (3 : Int32) p3) = p3)).2 kt) ?_
      show own_Go p.tables e below (T97.setTop (mkF m 152 #[.val (.int p0), .val (.int p1), .val (.int p2), .val (.int p3), .val (.int p4), .val (.int p5), .val (.int (3 : Int32)), .val (.ref b71), .val (.int (1 : Int32)), .val (.ref b89), .val (.int p3)] [])) _
      refine own_by (fun _ kt => XS.iconst X97.here hx rfl (hb hby at_152) kt) ?_
      show own_Go p.tables e below (T97.setTop (mkF m 153 #[.val (.int p0), .val (.int p1), .val (.int p2), .val (.int p3), .val (.int p4), .val (.int p5), .val (.int (3 : Int32)), .val (.ref b71), .val (.int (1 : Int32)), .val (.ref b89), .val (.int p3)] [(.int (1 : Int32))])) _
      refine own_by (fun _ kt => XS.goto X97.here hx rfl (pc0 := 153) (pc' := 157) rfl (hb hby at_153) (by decide) (by decide) kt) ?_
      show own_Go p.tables e below (T97.setTop (mkF m 157 #[.val (.int p0), .val (.int p1), .val (.int p2), .val (.int p3), .val (.int p4), .val (.int p5), .val (.int (3 : Int32)), .val (.ref b71), .val (.int (1 : Int32)), .val (.ref b89), .val (.int p3)] [(.int (1 : Int32))])) _
      exact own_retN X97 hx (t := .boolean) Bd.returns hlk (by simp) (hb hby at_157) ⟨rfl, N97⟩ (by decide) (by decide)
    · rw [hs85_79]
      show own_Go p.tables e below (T77.setTop (mkF m 85 #[.val (.int p0), .val (.int p1), .val (.int p2), .val (.int p3), .val (.int p4), .val (.int p5), .val (.int (3 : Int32)), .val (.ref b71), .unset, .unset, .unset] [(.int (2 : Int32))])) _
      refine own_by (fun _ kt => XS.istore X77.here hx rfl (hb hby at_85) rfl (l' := #[.val (.int p0), .val (.int p1), .val (.int p2), .val (.int p3), .val (.int p4), .val (.int p5), .val (.int (3 : Int32)), .val (.ref b71), .val (.int (2 : Int32)), .unset, .unset]) rfl kt) ?_
      show own_Go p.tables e below (T77.setTop (mkF m 87 #[.val (.int p0), .val (.int p1), .val (.int p2), .val (.int p3), .val (.int p4), .val (.int p5), .val (.int (3 : Int32)), .val (.ref b71), .val (.int (2 : Int32)), .unset, .unset] [])) _
      obtain ⟨T98, h98, X98, e98, E98, A98, D98, -, st98⟩ := newO X77 hx hZ hown (hw _ (List.mem_of_getElem? (i := 2) rfl)) (hw _ (List.mem_of_getElem? (i := 3) rfl)) (hw _ (List.mem_of_getElem? (i := 4) rfl)) e77 (g := (mkF m 87 #[.val (.int p0), .val (.int p1), .val (.int p2), .val (.int p3), .val (.int p4), .val (.int p5), .val (.int (3 : Int32)), .val (.ref b71), .val (.int (2 : Int32)), .unset, .unset] [])) rfl (hb hby at_87) (by decide) (by decide)
      obtain ⟨b98, g98⟩ : ∃ z, z = h77.size := ⟨_, rfl⟩
      rw [← g98] at A98 D98 st98
      have gn_b98 : n0 ≤ b98 := Nat.le_trans Zs77 (Nat.le_of_eq g98.symm)
      have ne_b71_b98 : b71 ≠ b98 := Nat.ne_of_lt (Nat.lt_of_lt_of_le f78.lt (Nat.le_of_eq g98.symm))
      have f99 := f78.ext E98
      have Zs98 : n0 ≤ h98.size := Nat.le_trans Zs77 E98.1
      have f100 : Fld Z h98 b98 "com/example/lambdagrove/lambdagrove/Tree$Path" "top" "I" (.int (0 : Int32)) := D98 (Or.inr (hw _ (List.mem_of_getElem? (i := 17) rfl))) (ty := .int) (by decide)
      have f101 : Fld Z h98 b98 "com/example/lambdagrove/lambdagrove/Tree$Path" "climb" "I" (.int (0 : Int32)) := D98 (Or.inr (hw _ (List.mem_of_getElem? (i := 19) rfl))) (ty := .int) (by decide)
      have f102 : Fld Z h98 b98 "com/example/lambdagrove/lambdagrove/Tree$Path" "fibres" "[I" .null := D98 (Or.inr (hw _ (List.mem_of_getElem? (i := 21) rfl))) (ty := (.array .int)) (by decide)
      refine own_by st98 ?_
      show own_Go p.tables e below (T98.setTop (mkF m 90 #[.val (.int p0), .val (.int p1), .val (.int p2), .val (.int p3), .val (.int p4), .val (.int p5), .val (.int (3 : Int32)), .val (.ref b71), .val (.int (2 : Int32)), .unset, .unset] [(.ref b98)])) _
      refine own_by (fun _ kt => XS.dup X98.here hx rfl (hb hby at_90) rfl rfl kt) ?_
      show own_Go p.tables e below (T98.setTop (mkF m 91 #[.val (.int p0), .val (.int p1), .val (.int p2), .val (.int p3), .val (.int p4), .val (.int p5), .val (.int (3 : Int32)), .val (.ref b71), .val (.int (2 : Int32)), .unset, .unset] [(.ref b98), (.ref b98)])) _
      refine own_by (fun _ kt => XS.iload X98.here hx rfl (hb hby at_91) rfl kt) ?_
      show own_Go p.tables e below (T98.setTop (mkF m 93 #[.val (.int p0), .val (.int p1), .val (.int p2), .val (.int p3), .val (.int p4), .val (.int p5), .val (.int (3 : Int32)), .val (.ref b71), .val (.int (2 : Int32)), .unset, .unset] [(.int p5), (.ref b98), (.ref b98)])) _
      refine own_by (fun _ kt => XS.iload X98.here hx rfl (hb hby at_93) rfl kt) ?_
      show own_Go p.tables e below (T98.setTop (mkF m 95 #[.val (.int p0), .val (.int p1), .val (.int p2), .val (.int p3), .val (.int p4), .val (.int p5), .val (.int (3 : Int32)), .val (.ref b71), .val (.int (2 : Int32)), .unset, .unset] [(.int (2 : Int32)), (.int p5), (.ref b98), (.ref b98)])) _
      refine own_by (fun _ kt => XS.aload X98.here hx rfl (hb hby at_95) rfl rfl kt) ?_
      show own_Go p.tables e below (T98.setTop (mkF m 97 #[.val (.int p0), .val (.int p1), .val (.int p2), .val (.int p3), .val (.int p4), .val (.int p5), .val (.int (3 : Int32)), .val (.ref b71), .val (.int (2 : Int32)), .unset, .unset] [(.ref b71), (.int (2 : Int32)), (.int p5), (.ref b98), (.ref b98)])) _
      obtain ⟨_, _, ⟨T103, L103, k103, n103⟩, -, X103, ⟨Lc103, hQ103, l103, y103, z103⟩, st103⟩ := X98.specialBack hx (y := (⟨"com/example/lambdagrove/lambdagrove/Tree$Path", "<init>", "(II[I)V"⟩ : MethodName)) rfl hown (mvT hZ (hw _ (List.mem_of_getElem? (i := 5) rfl))) (mvT hZ (hw _ (List.mem_of_getElem? (i := 6) rfl))) (mvT hZ (hw _ (List.mem_of_getElem? (i := 7) rfl))) (by decide) (backOf (W := 1) (rm_init l Z a0 hw [] b98 p5 (2 : Int32) b71  h98 n0 Zs98 f100 f101 f102 A98 gn_b98) hZ (hw _ (List.mem_of_getElem? (i := 7) rfl)) (hw _ (List.mem_of_getElem? (i := 4) rfl)) (by decide) (by decide)) (g := (mkF m 97 #[.val (.int p0), .val (.int p1), .val (.int p2), .val (.int p3), .val (.int p4), .val (.int p5), .val (.int (3 : Int32)), .val (.ref b71), .val (.int (2 : Int32)), .unset, .unset] [(.ref b71), (.int (2 : Int32)), (.int p5), (.ref b98), (.ref b98)])) rfl (by rw [hml]; rfl) (Steps.refl _) (a := b98) (argsL := [(.int p5), (.int (2 : Int32)), (.ref b71)]) (rest := [(.ref b98)]) (lenOf pd_1 rfl) rfl (by show 2 * 0 + _ ≤ _; exact Nat.le_of_eq rfl) (hb hby at_97) (fun _ _ => ⟨rfl, e98, (by decide : 2 + 0 ≤ _), (by decide : 6 + 0 ≤ _)⟩)
      dsimp only [Pt.U, Pt.locs, Pt.cells, Pt.slots] at X103 l103 y103 z103 st103 hQ103
      subst l103 y103 z103
      obtain ⟨rfl, Nq103, K103, f103_0, f103_1, f103_2, f103_3⟩ := hQ103
      have f104 := f99.keep K103 (own_nin ne_b71_b98)
      have f105 := A98.keep K103
      have Zs103 : n0 ≤ T103.heap.size := Nat.le_trans Zs98 K103.1
      have N103 := Fr.app N77 Nq103
      refine own_by (fun _ kt => st103.trans kt) ?_
      show own_Go p.tables e below (T103.setTop (mkF m 100 #[.val (.int p0), .val (.int p1), .val (.int p2), .val (.int p3), .val (.int p4), .val (.int p5), .val (.int (3 : Int32)), .val (.ref b71), .val (.int (2 : Int32)), .unset, .unset] [(.ref b98)])) _
      refine own_by (fun _ kt => XS.astore X103.here hx rfl (hb hby at_100) rfl rfl (l' := #[.val (.int p0), .val (.int p1), .val (.int p2), .val (.int p3), .val (.int p4), .val (.int p5), .val (.int (3 : Int32)), .val (.ref b71), .val (.int (2 : Int32)), .val (.ref b98), .unset]) rfl kt) ?_
      show own_Go p.tables e below (T103.setTop (mkF m 102 #[.val (.int p0), .val (.int p1), .val (.int p2), .val (.int p3), .val (.int p4), .val (.int p5), .val (.int (3 : Int32)), .val (.ref b71), .val (.int (2 : Int32)), .val (.ref b98), .unset] [])) _
      refine own_by (fun _ kt => XS.iload X103.here hx rfl (hb hby at_102) rfl kt) ?_
      show own_Go p.tables e below (T103.setTop (mkF m 104 #[.val (.int p0), .val (.int p1), .val (.int p2), .val (.int p3), .val (.int p4), .val (.int p5), .val (.int (3 : Int32)), .val (.ref b71), .val (.int (2 : Int32)), .val (.ref b98), .unset] [(.int (2 : Int32))])) _
      refine own_by (fun _ kt => XS.iload X103.here hx rfl (hb hby at_104) rfl kt) ?_
      show own_Go p.tables e below (T103.setTop (mkF m 106 #[.val (.int p0), .val (.int p1), .val (.int p2), .val (.int p3), .val (.int p4), .val (.int p5), .val (.int (3 : Int32)), .val (.ref b71), .val (.int (2 : Int32)), .val (.ref b98), .unset] [(.int (3 : Int32)), (.int (2 : Int32))])) _
      refine own_by (fun _ kt => XS.icmpYes X103.here hx rfl (pc0 := 106) (pc' := 115) rfl (hb hby at_106) rfl (feq (by decide : ¬ ((2 : Int32) = (3 : Int32)))).2 (by decide) (by decide) kt) ?_
      show own_Go p.tables e below (T103.setTop (mkF m 115 #[.val (.int p0), .val (.int p1), .val (.int p2), .val (.int p3), .val (.int p4), .val (.int p5), .val (.int (3 : Int32)), .val (.ref b71), .val (.int (2 : Int32)), .val (.ref b98), .unset] [])) _
      refine own_by (fun _ kt => XS.iload X103.here hx rfl (hb hby at_115) rfl kt) ?_
      show own_Go p.tables e below (T103.setTop (mkF m 117 #[.val (.int p0), .val (.int p1), .val (.int p2), .val (.int p3), .val (.int p4), .val (.int p5), .val (.int (3 : Int32)), .val (.ref b71), .val (.int (2 : Int32)), .val (.ref b98), .unset] [(.int (2 : Int32))])) _
      refine own_by (fun _ kt => XS.ifYes X103.here hx rfl (pc0 := 117) (pc' := 126) rfl (hb hby at_117) rfl ((if0 _ _).trans (feq (by decide : ¬ ((2 : Int32) = (0 : Int32)))).2) (by decide) (by decide) kt) ?_
      show own_Go p.tables e below (T103.setTop (mkF m 126 #[.val (.int p0), .val (.int p1), .val (.int p2), .val (.int p3), .val (.int p4), .val (.int p5), .val (.int (3 : Int32)), .val (.ref b71), .val (.int (2 : Int32)), .val (.ref b98), .unset] [])) _
      refine own_by (fun _ kt => XS.iload X103.here hx rfl (hb hby at_126) rfl kt) ?_
      show own_Go p.tables e below (T103.setTop (mkF m 128 #[.val (.int p0), .val (.int p1), .val (.int p2), .val (.int p3), .val (.int p4), .val (.int p5), .val (.int (3 : Int32)), .val (.ref b71), .val (.int (2 : Int32)), .val (.ref b98), .unset] [(.int (2 : Int32))])) _
      refine own_by (fun _ kt => XS.iconst X103.here hx rfl (hb hby at_128) kt) ?_
      show own_Go p.tables e below (T103.setTop (mkF m 129 #[.val (.int p0), .val (.int p1), .val (.int p2), .val (.int p3), .val (.int p4), .val (.int p5), .val (.int (3 : Int32)), .val (.ref b71), .val (.int (2 : Int32)), .val (.ref b98), .unset] [(.int (1 : Int32)), (.int (2 : Int32))])) _
      refine own_by (fun _ kt => XS.icmpYes X103.here hx rfl (pc0 := 129) (pc' := 138) rfl (hb hby at_129) rfl (feq (by decide : ¬ ((2 : Int32) = (1 : Int32)))).2 (by decide) (by decide) kt) ?_
      show own_Go p.tables e below (T103.setTop (mkF m 138 #[.val (.int p0), .val (.int p1), .val (.int p2), .val (.int p3), .val (.int p4), .val (.int p5), .val (.int (3 : Int32)), .val (.ref b71), .val (.int (2 : Int32)), .val (.ref b98), .unset] [])) _
      refine own_by (fun _ kt => XS.iload X103.here hx rfl (hb hby at_138) rfl kt) ?_
      show own_Go p.tables e below (T103.setTop (mkF m 140 #[.val (.int p0), .val (.int p1), .val (.int p2), .val (.int p3), .val (.int p4), .val (.int p5), .val (.int (3 : Int32)), .val (.ref b71), .val (.int (2 : Int32)), .val (.ref b98), .unset] [(.int p4)])) _
      refine own_by (fun _ kt => XS.istore X103.here hx rfl (hb hby at_140) rfl (l' := #[.val (.int p0), .val (.int p1), .val (.int p2), .val (.int p3), .val (.int p4), .val (.int p5), .val (.int (3 : Int32)), .val (.ref b71), .val (.int (2 : Int32)), .val (.ref b98), .val (.int p4)]) rfl kt) ?_
      show own_Go p.tables e below (T103.setTop (mkF m 142 #[.val (.int p0), .val (.int p1), .val (.int p2), .val (.int p3), .val (.int p4), .val (.int p5), .val (.int (3 : Int32)), .val (.ref b71), .val (.int (2 : Int32)), .val (.ref b98), .val (.int p4)] [])) _
      refine own_by (fun _ kt => XS.aload X103.here hx rfl (hb hby at_142) rfl rfl kt) ?_
      show own_Go p.tables e below (T103.setTop (mkF m 144 #[.val (.int p0), .val (.int p1), .val (.int p2), .val (.int p3), .val (.int p4), .val (.int p5), .val (.int (3 : Int32)), .val (.ref b71), .val (.int (2 : Int32)), .val (.ref b98), .val (.int p4)] [(.ref b98)])) _
      obtain ⟨cq106, kq106, q106a, q106b, q106c⟩ := isOf hZ rfl f103_0
      obtain ⟨_, _, ⟨T106, L106, k106, n106⟩, -, X106, ⟨Lc106, hQ106, l106, y106, z106⟩, st106⟩ := X103.virtualBack hx (y := (⟨"com/example/lambdagrove/lambdagrove/Tree$Path", "outOfTop", "()I"⟩ : MethodName)) (z := (⟨"com/example/lambdagrove/lambdagrove/Tree$Path", "outOfTop", "()I"⟩ : MethodName)) hown (mvT hZ (hw _ (List.mem_of_getElem? (i := 22) rfl))) (mvT hZ (hw _ (List.mem_of_getElem? (i := 23) rfl))) (notFace_of_selects (args := #[]) (mvT hZ (hw _ (List.mem_of_getElem? (i := 25) rfl)))) (mvT hZ (hw _ (List.mem_of_getElem? (i := 25) rfl))) (mvT hZ (hw _ (List.mem_of_getElem? (i := 24) rfl))) (by decide) (backOf (W := 0) (rm_out l Z a0 hw [] b98 ((2 : Int32)) (b71) (k71) ([(.int p2), (.int p3), (.int p4)]) ((3 : Int32)) (p4) T103.heap n0 Zs103 f103_2 f103_3 f104 (by decide) (fun hh => by first | rfl | exact absurd hh (by decide))) hZ (hw _ (List.mem_of_getElem? (i := 26) rfl)) (hw _ (List.mem_of_getElem? (i := 4) rfl)) (by decide) (by decide)) q106a q106c (g := (mkF m 144 #[.val (.int p0), .val (.int p1), .val (.int p2), .val (.int p3), .val (.int p4), .val (.int p5), .val (.int (3 : Int32)), .val (.ref b71), .val (.int (2 : Int32)), .val (.ref b98), .val (.int p4)] [(.ref b98)])) rfl (by rw [hml]; rfl) (Steps.refl _) (argsL := []) (rest := []) (lenOf pd_2 rfl) rfl (by show 2 * 0 + _ ≤ _; exact Nat.le_of_eq rfl) (hb hby at_144) (fun _ _ => ⟨rfl, rfl, (by decide : 2 + 0 ≤ _), (by decide : 6 + 0 ≤ _)⟩)
      dsimp only [Pt.U, Pt.locs, Pt.cells, Pt.slots] at X106 l106 y106 z106 st106 hQ106
      subst l106 y106 z106
      obtain ⟨rfl, Nq106, eh106⟩ := hQ106
      have N106 := Fr.app N103 Nq106
      refine own_by (fun _ kt => st106.trans kt) ?_
      show own_Go p.tables e below (T106.setTop (mkF m 147 #[.val (.int p0), .val (.int p1), .val (.int p2), .val (.int p3), .val (.int p4), .val (.int p5), .val (.int (3 : Int32)), .val (.ref b71), .val (.int (2 : Int32)), .val (.ref b98), .val (.int p4)] [(.int (own_out (2 : Int32) (3 : Int32) p4))])) _
      refine own_by (fun _ kt => XS.iload X106.here hx rfl (hb hby at_147) rfl kt) ?_
      show own_Go p.tables e below (T106.setTop (mkF m 149 #[.val (.int p0), .val (.int p1), .val (.int p2), .val (.int p3), .val (.int p4), .val (.int p5), .val (.int (3 : Int32)), .val (.ref b71), .val (.int (2 : Int32)), .val (.ref b98), .val (.int p4)] [(.int p4), (.int (own_out (2 : Int32) (3 : Int32) p4))])) _
      refine own_by (fun _ kt => XS.icmpNo X106.here hx rfl (hb hby at_149) rfl (teq (rfl : (own_out (2 : Int32) (3 : Int32) p4) = p4)).2 kt) ?_
      show own_Go p.tables e below (T106.setTop (mkF m 152 #[.val (.int p0), .val (.int p1), .val (.int p2), .val (.int p3), .val (.int p4), .val (.int p5), .val (.int (3 : Int32)), .val (.ref b71), .val (.int (2 : Int32)), .val (.ref b98), .val (.int p4)] [])) _
      refine own_by (fun _ kt => XS.iconst X106.here hx rfl (hb hby at_152) kt) ?_
      show own_Go p.tables e below (T106.setTop (mkF m 153 #[.val (.int p0), .val (.int p1), .val (.int p2), .val (.int p3), .val (.int p4), .val (.int p5), .val (.int (3 : Int32)), .val (.ref b71), .val (.int (2 : Int32)), .val (.ref b98), .val (.int p4)] [(.int (1 : Int32))])) _
      refine own_by (fun _ kt => XS.goto X106.here hx rfl (pc0 := 153) (pc' := 157) rfl (hb hby at_153) (by decide) (by decide) kt) ?_
      show own_Go p.tables e below (T106.setTop (mkF m 157 #[.val (.int p0), .val (.int p1), .val (.int p2), .val (.int p3), .val (.int p4), .val (.int p5), .val (.int (3 : Int32)), .val (.ref b71), .val (.int (2 : Int32)), .val (.ref b98), .val (.int p4)] [(.int (1 : Int32))])) _
      exact own_retN X106 hx (t := .boolean) Bd.returns hlk (by simp) (hb hby at_157) ⟨rfl, N106⟩ (by decide) (by decide)
    · rw [hs85_79]
      show own_Go p.tables e below (T77.setTop (mkF m 85 #[.val (.int p0), .val (.int p1), .val (.int p2), .val (.int p3), .val (.int p4), .val (.int p5), .val (.int (3 : Int32)), .val (.ref b71), .unset, .unset, .unset] [(.int (3 : Int32))])) _
      refine own_by (fun _ kt => XS.istore X77.here hx rfl (hb hby at_85) rfl (l' := #[.val (.int p0), .val (.int p1), .val (.int p2), .val (.int p3), .val (.int p4), .val (.int p5), .val (.int (3 : Int32)), .val (.ref b71), .val (.int (3 : Int32)), .unset, .unset]) rfl kt) ?_
      show own_Go p.tables e below (T77.setTop (mkF m 87 #[.val (.int p0), .val (.int p1), .val (.int p2), .val (.int p3), .val (.int p4), .val (.int p5), .val (.int (3 : Int32)), .val (.ref b71), .val (.int (3 : Int32)), .unset, .unset] [])) _
      obtain ⟨T107, h107, X107, e107, E107, A107, D107, -, st107⟩ := newO X77 hx hZ hown (hw _ (List.mem_of_getElem? (i := 2) rfl)) (hw _ (List.mem_of_getElem? (i := 3) rfl)) (hw _ (List.mem_of_getElem? (i := 4) rfl)) e77 (g := (mkF m 87 #[.val (.int p0), .val (.int p1), .val (.int p2), .val (.int p3), .val (.int p4), .val (.int p5), .val (.int (3 : Int32)), .val (.ref b71), .val (.int (3 : Int32)), .unset, .unset] [])) rfl (hb hby at_87) (by decide) (by decide)
      obtain ⟨b107, g107⟩ : ∃ z, z = h77.size := ⟨_, rfl⟩
      rw [← g107] at A107 D107 st107
      have gn_b107 : n0 ≤ b107 := Nat.le_trans Zs77 (Nat.le_of_eq g107.symm)
      have ne_b71_b107 : b71 ≠ b107 := Nat.ne_of_lt (Nat.lt_of_lt_of_le f78.lt (Nat.le_of_eq g107.symm))
      have f108 := f78.ext E107
      have Zs107 : n0 ≤ h107.size := Nat.le_trans Zs77 E107.1
      have f109 : Fld Z h107 b107 "com/example/lambdagrove/lambdagrove/Tree$Path" "top" "I" (.int (0 : Int32)) := D107 (Or.inr (hw _ (List.mem_of_getElem? (i := 17) rfl))) (ty := .int) (by decide)
      have f110 : Fld Z h107 b107 "com/example/lambdagrove/lambdagrove/Tree$Path" "climb" "I" (.int (0 : Int32)) := D107 (Or.inr (hw _ (List.mem_of_getElem? (i := 19) rfl))) (ty := .int) (by decide)
      have f111 : Fld Z h107 b107 "com/example/lambdagrove/lambdagrove/Tree$Path" "fibres" "[I" .null := D107 (Or.inr (hw _ (List.mem_of_getElem? (i := 21) rfl))) (ty := (.array .int)) (by decide)
      refine own_by st107 ?_
      show own_Go p.tables e below (T107.setTop (mkF m 90 #[.val (.int p0), .val (.int p1), .val (.int p2), .val (.int p3), .val (.int p4), .val (.int p5), .val (.int (3 : Int32)), .val (.ref b71), .val (.int (3 : Int32)), .unset, .unset] [(.ref b107)])) _
      refine own_by (fun _ kt => XS.dup X107.here hx rfl (hb hby at_90) rfl rfl kt) ?_
      show own_Go p.tables e below (T107.setTop (mkF m 91 #[.val (.int p0), .val (.int p1), .val (.int p2), .val (.int p3), .val (.int p4), .val (.int p5), .val (.int (3 : Int32)), .val (.ref b71), .val (.int (3 : Int32)), .unset, .unset] [(.ref b107), (.ref b107)])) _
      refine own_by (fun _ kt => XS.iload X107.here hx rfl (hb hby at_91) rfl kt) ?_
      show own_Go p.tables e below (T107.setTop (mkF m 93 #[.val (.int p0), .val (.int p1), .val (.int p2), .val (.int p3), .val (.int p4), .val (.int p5), .val (.int (3 : Int32)), .val (.ref b71), .val (.int (3 : Int32)), .unset, .unset] [(.int p5), (.ref b107), (.ref b107)])) _
      refine own_by (fun _ kt => XS.iload X107.here hx rfl (hb hby at_93) rfl kt) ?_
      show own_Go p.tables e below (T107.setTop (mkF m 95 #[.val (.int p0), .val (.int p1), .val (.int p2), .val (.int p3), .val (.int p4), .val (.int p5), .val (.int (3 : Int32)), .val (.ref b71), .val (.int (3 : Int32)), .unset, .unset] [(.int (3 : Int32)), (.int p5), (.ref b107), (.ref b107)])) _
      refine own_by (fun _ kt => XS.aload X107.here hx rfl (hb hby at_95) rfl rfl kt) ?_
      show own_Go p.tables e below (T107.setTop (mkF m 97 #[.val (.int p0), .val (.int p1), .val (.int p2), .val (.int p3), .val (.int p4), .val (.int p5), .val (.int (3 : Int32)), .val (.ref b71), .val (.int (3 : Int32)), .unset, .unset] [(.ref b71), (.int (3 : Int32)), (.int p5), (.ref b107), (.ref b107)])) _
      obtain ⟨_, _, ⟨T112, L112, k112, n112⟩, -, X112, ⟨Lc112, hQ112, l112, y112, z112⟩, st112⟩ := X107.specialBack hx (y := (⟨"com/example/lambdagrove/lambdagrove/Tree$Path", "<init>", "(II[I)V"⟩ : MethodName)) rfl hown (mvT hZ (hw _ (List.mem_of_getElem? (i := 5) rfl))) (mvT hZ (hw _ (List.mem_of_getElem? (i := 6) rfl))) (mvT hZ (hw _ (List.mem_of_getElem? (i := 7) rfl))) (by decide) (backOf (W := 1) (rm_init l Z a0 hw [] b107 p5 (3 : Int32) b71  h107 n0 Zs107 f109 f110 f111 A107 gn_b107) hZ (hw _ (List.mem_of_getElem? (i := 7) rfl)) (hw _ (List.mem_of_getElem? (i := 4) rfl)) (by decide) (by decide)) (g := (mkF m 97 #[.val (.int p0), .val (.int p1), .val (.int p2), .val (.int p3), .val (.int p4), .val (.int p5), .val (.int (3 : Int32)), .val (.ref b71), .val (.int (3 : Int32)), .unset, .unset] [(.ref b71), (.int (3 : Int32)), (.int p5), (.ref b107), (.ref b107)])) rfl (by rw [hml]; rfl) (Steps.refl _) (a := b107) (argsL := [(.int p5), (.int (3 : Int32)), (.ref b71)]) (rest := [(.ref b107)]) (lenOf pd_1 rfl) rfl (by show 2 * 0 + _ ≤ _; exact Nat.le_of_eq rfl) (hb hby at_97) (fun _ _ => ⟨rfl, e107, (by decide : 2 + 0 ≤ _), (by decide : 6 + 0 ≤ _)⟩)
      dsimp only [Pt.U, Pt.locs, Pt.cells, Pt.slots] at X112 l112 y112 z112 st112 hQ112
      subst l112 y112 z112
      obtain ⟨rfl, Nq112, K112, f112_0, f112_1, f112_2, f112_3⟩ := hQ112
      have f113 := f108.keep K112 (own_nin ne_b71_b107)
      have f114 := A107.keep K112
      have Zs112 : n0 ≤ T112.heap.size := Nat.le_trans Zs107 K112.1
      have N112 := Fr.app N77 Nq112
      refine own_by (fun _ kt => st112.trans kt) ?_
      show own_Go p.tables e below (T112.setTop (mkF m 100 #[.val (.int p0), .val (.int p1), .val (.int p2), .val (.int p3), .val (.int p4), .val (.int p5), .val (.int (3 : Int32)), .val (.ref b71), .val (.int (3 : Int32)), .unset, .unset] [(.ref b107)])) _
      refine own_by (fun _ kt => XS.astore X112.here hx rfl (hb hby at_100) rfl rfl (l' := #[.val (.int p0), .val (.int p1), .val (.int p2), .val (.int p3), .val (.int p4), .val (.int p5), .val (.int (3 : Int32)), .val (.ref b71), .val (.int (3 : Int32)), .val (.ref b107), .unset]) rfl kt) ?_
      show own_Go p.tables e below (T112.setTop (mkF m 102 #[.val (.int p0), .val (.int p1), .val (.int p2), .val (.int p3), .val (.int p4), .val (.int p5), .val (.int (3 : Int32)), .val (.ref b71), .val (.int (3 : Int32)), .val (.ref b107), .unset] [])) _
      refine own_by (fun _ kt => XS.iload X112.here hx rfl (hb hby at_102) rfl kt) ?_
      show own_Go p.tables e below (T112.setTop (mkF m 104 #[.val (.int p0), .val (.int p1), .val (.int p2), .val (.int p3), .val (.int p4), .val (.int p5), .val (.int (3 : Int32)), .val (.ref b71), .val (.int (3 : Int32)), .val (.ref b107), .unset] [(.int (3 : Int32))])) _
      refine own_by (fun _ kt => XS.iload X112.here hx rfl (hb hby at_104) rfl kt) ?_
      show own_Go p.tables e below (T112.setTop (mkF m 106 #[.val (.int p0), .val (.int p1), .val (.int p2), .val (.int p3), .val (.int p4), .val (.int p5), .val (.int (3 : Int32)), .val (.ref b71), .val (.int (3 : Int32)), .val (.ref b107), .unset] [(.int (3 : Int32)), (.int (3 : Int32))])) _
      refine own_by (fun _ kt => XS.icmpNo X112.here hx rfl (hb hby at_106) rfl (teq (by decide : (3 : Int32) = (3 : Int32))).2 kt) ?_
      show own_Go p.tables e below (T112.setTop (mkF m 109 #[.val (.int p0), .val (.int p1), .val (.int p2), .val (.int p3), .val (.int p4), .val (.int p5), .val (.int (3 : Int32)), .val (.ref b71), .val (.int (3 : Int32)), .val (.ref b107), .unset] [])) _
      refine own_by (fun _ kt => XS.iconst X112.here hx rfl (hb hby at_109) kt) ?_
      show own_Go p.tables e below (T112.setTop (mkF m 110 #[.val (.int p0), .val (.int p1), .val (.int p2), .val (.int p3), .val (.int p4), .val (.int p5), .val (.int (3 : Int32)), .val (.ref b71), .val (.int (3 : Int32)), .val (.ref b107), .unset] [(.int (-1 : Int32))])) _
      refine own_by (fun _ kt => XS.istore X112.here hx rfl (hb hby at_110) rfl (l' := #[.val (.int p0), .val (.int p1), .val (.int p2), .val (.int p3), .val (.int p4), .val (.int p5), .val (.int (3 : Int32)), .val (.ref b71), .val (.int (3 : Int32)), .val (.ref b107), .val (.int (-1 : Int32))]) rfl kt) ?_
      show own_Go p.tables e below (T112.setTop (mkF m 112 #[.val (.int p0), .val (.int p1), .val (.int p2), .val (.int p3), .val (.int p4), .val (.int p5), .val (.int (3 : Int32)), .val (.ref b71), .val (.int (3 : Int32)), .val (.ref b107), .val (.int (-1 : Int32))] [])) _
      refine own_by (fun _ kt => XS.goto X112.here hx rfl (pc0 := 112) (pc' := 142) rfl (hb hby at_112) (by decide) (by decide) kt) ?_
      show own_Go p.tables e below (T112.setTop (mkF m 142 #[.val (.int p0), .val (.int p1), .val (.int p2), .val (.int p3), .val (.int p4), .val (.int p5), .val (.int (3 : Int32)), .val (.ref b71), .val (.int (3 : Int32)), .val (.ref b107), .val (.int (-1 : Int32))] [])) _
      refine own_by (fun _ kt => XS.aload X112.here hx rfl (hb hby at_142) rfl rfl kt) ?_
      show own_Go p.tables e below (T112.setTop (mkF m 144 #[.val (.int p0), .val (.int p1), .val (.int p2), .val (.int p3), .val (.int p4), .val (.int p5), .val (.int (3 : Int32)), .val (.ref b71), .val (.int (3 : Int32)), .val (.ref b107), .val (.int (-1 : Int32))] [(.ref b107)])) _
      obtain ⟨cq115, kq115, q115a, q115b, q115c⟩ := isOf hZ rfl f112_0
      obtain ⟨_, _, ⟨T115, L115, k115, n115⟩, -, X115, ⟨Lc115, hQ115, l115, y115, z115⟩, st115⟩ := X112.virtualBack hx (y := (⟨"com/example/lambdagrove/lambdagrove/Tree$Path", "outOfTop", "()I"⟩ : MethodName)) (z := (⟨"com/example/lambdagrove/lambdagrove/Tree$Path", "outOfTop", "()I"⟩ : MethodName)) hown (mvT hZ (hw _ (List.mem_of_getElem? (i := 22) rfl))) (mvT hZ (hw _ (List.mem_of_getElem? (i := 23) rfl))) (notFace_of_selects (args := #[]) (mvT hZ (hw _ (List.mem_of_getElem? (i := 25) rfl)))) (mvT hZ (hw _ (List.mem_of_getElem? (i := 25) rfl))) (mvT hZ (hw _ (List.mem_of_getElem? (i := 24) rfl))) (by decide) (backOf (W := 0) (rm_out l Z a0 hw [] b107 ((3 : Int32)) (b71) (k71) ([(.int p2), (.int p3), (.int p4)]) ((3 : Int32)) ((0 : Int32)) T112.heap n0 Zs112 f112_2 f112_3 f113 (by decide) (fun hh => by first | rfl | exact absurd hh (by decide))) hZ (hw _ (List.mem_of_getElem? (i := 26) rfl)) (hw _ (List.mem_of_getElem? (i := 4) rfl)) (by decide) (by decide)) q115a q115c (g := (mkF m 144 #[.val (.int p0), .val (.int p1), .val (.int p2), .val (.int p3), .val (.int p4), .val (.int p5), .val (.int (3 : Int32)), .val (.ref b71), .val (.int (3 : Int32)), .val (.ref b107), .val (.int (-1 : Int32))] [(.ref b107)])) rfl (by rw [hml]; rfl) (Steps.refl _) (argsL := []) (rest := []) (lenOf pd_2 rfl) rfl (by show 2 * 0 + _ ≤ _; exact Nat.le_of_eq rfl) (hb hby at_144) (fun _ _ => ⟨rfl, rfl, (by decide : 2 + 0 ≤ _), (by decide : 6 + 0 ≤ _)⟩)
      dsimp only [Pt.U, Pt.locs, Pt.cells, Pt.slots] at X115 l115 y115 z115 st115 hQ115
      subst l115 y115 z115
      obtain ⟨rfl, Nq115, eh115⟩ := hQ115
      have N115 := Fr.app N112 Nq115
      refine own_by (fun _ kt => st115.trans kt) ?_
      show own_Go p.tables e below (T115.setTop (mkF m 147 #[.val (.int p0), .val (.int p1), .val (.int p2), .val (.int p3), .val (.int p4), .val (.int p5), .val (.int (3 : Int32)), .val (.ref b71), .val (.int (3 : Int32)), .val (.ref b107), .val (.int (-1 : Int32))] [(.int (own_out (3 : Int32) (3 : Int32) (0 : Int32)))])) _
      refine own_by (fun _ kt => XS.iload X115.here hx rfl (hb hby at_147) rfl kt) ?_
      show own_Go p.tables e below (T115.setTop (mkF m 149 #[.val (.int p0), .val (.int p1), .val (.int p2), .val (.int p3), .val (.int p4), .val (.int p5), .val (.int (3 : Int32)), .val (.ref b71), .val (.int (3 : Int32)), .val (.ref b107), .val (.int (-1 : Int32))] [(.int (-1 : Int32)), (.int (own_out (3 : Int32) (3 : Int32) (0 : Int32)))])) _
      refine own_by (fun _ kt => XS.icmpNo X115.here hx rfl (hb hby at_149) rfl (teq (rfl : (own_out (3 : Int32) (3 : Int32) (0 : Int32)) = (-1 : Int32))).2 kt) ?_
      show own_Go p.tables e below (T115.setTop (mkF m 152 #[.val (.int p0), .val (.int p1), .val (.int p2), .val (.int p3), .val (.int p4), .val (.int p5), .val (.int (3 : Int32)), .val (.ref b71), .val (.int (3 : Int32)), .val (.ref b107), .val (.int (-1 : Int32))] [])) _
      refine own_by (fun _ kt => XS.iconst X115.here hx rfl (hb hby at_152) kt) ?_
      show own_Go p.tables e below (T115.setTop (mkF m 153 #[.val (.int p0), .val (.int p1), .val (.int p2), .val (.int p3), .val (.int p4), .val (.int p5), .val (.int (3 : Int32)), .val (.ref b71), .val (.int (3 : Int32)), .val (.ref b107), .val (.int (-1 : Int32))] [(.int (1 : Int32))])) _
      refine own_by (fun _ kt => XS.goto X115.here hx rfl (pc0 := 153) (pc' := 157) rfl (hb hby at_153) (by decide) (by decide) kt) ?_
      show own_Go p.tables e below (T115.setTop (mkF m 157 #[.val (.int p0), .val (.int p1), .val (.int p2), .val (.int p3), .val (.int p4), .val (.int p5), .val (.int (3 : Int32)), .val (.ref b71), .val (.int (3 : Int32)), .val (.ref b107), .val (.int (-1 : Int32))] [(.int (1 : Int32))])) _
      exact own_retN X115 hx (t := .boolean) Bd.returns hlk (by simp) (hb hby at_157) ⟨rfl, N115⟩ (by decide) (by decide)
set_option maxRecDepth 65536 in
set_option maxHeartbeats 40000000 in
theorem comes_1 {Post : Tables → Env → Array Value → State → Outcome → State → Prop} (hpost : ∀ tb e args s v u, (limb_1_1.after args s (.returned v) u = true ∧ limb_1_2.after args s (.returned v) u = true ∧ True) → FrameEnd s (.returned v) u (Jvm.fieldLocs frame_1_writes args s ++ Jvm.arrayLocs frame_1_arrays args s ++ Jvm.staticLocs frame_1_statics s) 16 128 → Post tb e args s (.returned v) u) :
    ArmFor flags0 classFile x code maxLocals ret World_1 tables_1 room_1 Calls_1 rest_1 Pre_1 Post := by
  intro l hfl _ _ p e ha hc hk s m args below hf hA hF happ hP
  obtain ⟨hcalls, hrest, hpre⟩ := hP
  obtain ⟨-, -, -, hnamed, -, -, -, hat⟩ := (Spec.applies_iff hf).mp happ
  obtain ⟨hg, hn⟩ := and_e (Cond.before_iff.mp (show (Jvm.Cond.and given_1 narrow_1).before args s = true from hpre))
  obtain ⟨hcnt, g0⟩ := and_e hg
  obtain ⟨i0, g1⟩ := and_e g0
  obtain ⟨i1, g2⟩ := and_e g1
  obtain ⟨i2, g3⟩ := and_e g2
  obtain ⟨i3, g4⟩ := and_e g3
  obtain ⟨i4, g5⟩ := and_e g4
  obtain ⟨w0, w1, w2, w3, w4, w5, rfl⟩ : ∃ w0 w1 w2 w3 w4 w5 : Value, args = #[w0, w1, w2, w3, w4, w5] := by
    have hs : args.size = 6 := by simpa [Cond.value, given_1] using hcnt
    obtain ⟨L⟩ := args
    match L, hs with
    | [w0, w1, w2, w3, w4, w5], _ => exact ⟨w0, w1, w2, w3, w4, w5, rfl⟩
  have hw := fun d (hd : d ∈ tables_1) => atoms_spec (ws := Jvm.Cond.code x code maxLocals ret :: tables_1) hat d (List.mem_cons_of_mem _ hd)
  obtain ⟨v0, ev0⟩ := is_v i0
  obtain rfl : w0 = (.int v0) := Option.some.inj ev0
  obtain ⟨v1, ev1⟩ := is_v i1
  obtain rfl : w1 = (.int v1) := Option.some.inj ev1
  obtain ⟨v2, ev2⟩ := is_v i2
  obtain rfl : w2 = (.int v2) := Option.some.inj ev2
  obtain ⟨v3, ev3⟩ := is_v i3
  obtain rfl : w3 = (.int v3) := Option.some.inj ev3
  obtain ⟨v4, ev4⟩ := is_v i4
  obtain rfl : w4 = (.int v4) := Option.some.inj ev4
  obtain ⟨v5, ev5⟩ := is_v g5
  obtain rfl : w5 = (.int v5) := Option.some.inj ev5
  obtain ⟨n, o, h1, h2, h3, _, L, rfl, ⟨rfl, N⟩, hq⟩ := rm_law l s _ hw tables_1 v0 v1 v2 v3 v4 v5  s.heap s.heap.size (Nat.le_refl _)  p e ha hc hk s m _ below hf ((Spec.applies_iff_loose hf).mp happ).1 ⟨rfl, State.Warmed39.refl s, rfl⟩ trivial
  refine ⟨n, _, h1, h2, h3, hpost _ _ _ _ _ _ ⟨Cond.after_iff.mpr rfl, Cond.after_iff.mpr (eq_i res_at (Term.int_eval (1)) rfl), trivial⟩ ⟨hq.1, hq.2.1, (hq.2.2.sift fun y hy => Or.inr (N y hy)).mono (by decide) (by decide)⟩⟩
theorem main_1_1 : Claimed_1_1 := comes_1 fun _ _ _ _ _ _ h hF => ⟨h.1, hF⟩
theorem main_1_2 : Claimed_1_2 := comes_1 fun _ _ _ _ _ _ h hF => ⟨h.2.1, hF⟩
end Jvm.Pilot.@@N@@
namespace Jvm.Pilot.@@N@@
open Jvm Jvm.ClassFile Sem Op Lib Jvm.Free Jvm.Stand Jvm.Pilot.@@N@@.Jvm.D
/-! MADE BY PROGRAM (witnessworld.py) out of the Statement's table words and the real class files: 11 classes; the members and pool entries that the words name. The judged class is class 1, her method 1. -/
namespace start1
open Jvm.ClassFile
def u (s : String) : CpInfo := .utf8 (stringToUtf16 s)
/-- a pool by its gaps: so many unusable entries, then the entry; so many at the end -/
def gap : Nat → List CpInfo → List CpInfo
  | 0, r => r
  | n + 1, r => .unusable :: gap n r
def poolList (es : List (Nat × CpInfo)) (last : Nat) : List CpInfo := es.foldr (fun e r => gap e.1 (e.2 :: r)) (gap last [])
def pool (es : List (Nat × CpInfo)) (last : Nat) : Array CpInfo := ⟨poolList es last⟩
def fileOf (pool : Array CpInfo) (this : Nat) (attrs : Array Attribute := #[]) (ms : Array MethodInfo := #[]) (fl : Nat := 33) (sup : Nat := 0) (ifs : Array Nat := #[]) (fds : Array FieldInfo := #[]) : ClassFile where
  minorVersion := 0
  majorVersion := 65
  constantPool := pool
  accessFlags := fl
  thisClass := this
  superClass := sup
  interfaces := ifs
  fields := fds
  methods := ms
  attributes := attrs
def plain (name : String) (sup : Option ClassId) : Class where
  name := name
  kind := .ordinary
  loader := none
  accessFlags := 33
  super := sup
  interfaces := #[]
  cf := none
  fields := #[]
  methods := #[]
  instanceTypes := #[]
  staticTypes := #[]
  resolved := #[]
  callSites := []
  init := .initialized
  statics := none
  mirror := none

def pool0 : Array CpInfo := pool [(5, u "<init>"), (0, u "()V"), (1, .class_ 10), (1, u "java/lang/Object")] 113

def k0c0 : Code := { maxStack := 0, maxLocals := 1, code := object_method_1_code, exceptionTable := #[], attributes := #[] }
def k0m0 : Method := { name := "<init>", desc := "()V", sig := { parameters := [], returnType := none }, accessFlags := 1, code := some k0c0 }
/-- java/lang/Object -/
def k0 : Class := { plain "java/lang/Object" none with
  accessFlags := 33
  interfaces := #[]
  cf := some (fileOf pool0 8 #[] #[{ accessFlags := 1, nameIndex := 5, descriptorIndex := 6, attributes := #[] }] 33 0 #[] #[])
  fields := #[]
  methods := #[k0m0]
  instanceTypes := #[]
  staticTypes := #[]
  resolved := Array.replicate 124 none
  statics := none }

def pool1 : Array CpInfo := pool [(2, .class_ 4), (1, u "java/lang/Object"), (0, u "<init>"), (0, u "()V"), (0, .integer 2147483647), (0, .class_ 9), (0, u "com/example/lambdagrove/lambdagrove/Tree$Path"), (0, .methodref 8 11), (0, .nameAndType 5 12), (0, u "(II[I)V"), (0, .methodref 8 14), (0, .nameAndType 15 16), (0, u "outOfTop"), (0, u "()I"), (0, .class_ 18), (0, u "com/example/lambdagrove/lambdagrove/PathOutOfTopPinLaw"), (2, u "law"), (0, u "(IIIIII)Z")] 9

def k1m0 : Method := { name := "<init>", desc := "()V", sig := { parameters := [], returnType := none }, accessFlags := 1, code := none }
def k1c1 : Code := { maxStack := 5, maxLocals := 11, code := code, exceptionTable := #[], attributes := #[] }
def k1m1 : Method := { name := "law", desc := "(IIIIII)Z", sig := { parameters := [.int, .int, .int, .int, .int, .int], returnType := some .boolean }, accessFlags := 9, code := some k1c1 }
/-- com/example/lambdagrove/lambdagrove/PathOutOfTopPinLaw -/
def k1 : Class := { plain "com/example/lambdagrove/lambdagrove/PathOutOfTopPinLaw" (some 0) with
  accessFlags := 49
  interfaces := #[]
  cf := some (fileOf pool1 17 #[] #[{ accessFlags := 1, nameIndex := 5, descriptorIndex := 6, attributes := #[] }, { accessFlags := 9, nameIndex := 21, descriptorIndex := 22, attributes := #[] }] 49 2 #[] #[])
  fields := #[]
  methods := #[k1m0, k1m1]
  instanceTypes := #[]
  staticTypes := #[]
  resolved := Array.replicate 32 none
  statics := none }

def pool2 : Array CpInfo := pool [(1, .methodref 2 3), (0, .class_ 4), (0, .nameAndType 5 6), (0, u "java/lang/Object"), (0, u "<init>"), (0, u "()V"), (0, .class_ 8), (0, u "java/lang/Record")] 13

def k2c0 : Code := { maxStack := 1, maxLocals := 1, code := jdk_30_method_1_code, exceptionTable := #[], attributes := #[] }
def k2m0 : Method := { name := "<init>", desc := "()V", sig := { parameters := [], returnType := none }, accessFlags := 4, code := some k2c0 }
/-- java/lang/Record -/
def k2 : Class := { plain "java/lang/Record" (some 0) with
  accessFlags := 1057
  interfaces := #[]
  cf := some (fileOf pool2 7 #[] #[{ accessFlags := 4, nameIndex := 5, descriptorIndex := 6, attributes := #[] }] 1057 2 #[] #[])
  fields := #[]
  methods := #[k2m0]
  instanceTypes := #[]
  staticTypes := #[]
  resolved := Array.replicate 22 none
  statics := none }

def pool3 : Array CpInfo := pool [(1, .class_ 2), (0, u "com/example/lambdagrove/lambdagrove/Tree$Route"), (0, .class_ 4), (0, u "java/lang/Object"), (7, .class_ 13), (0, u "com/example/lambdagrove/lambdagrove/Tree")] 9

/-- com/example/lambdagrove/lambdagrove/Tree$Route -/
def k3 : Class := { plain "com/example/lambdagrove/lambdagrove/Tree$Route" (some 0) with
  accessFlags := 1536
  interfaces := #[]
  cf := some (fileOf pool3 1 #[.nestHost 12] #[] 1536 3 #[] #[])
  fields := #[]
  methods := #[]
  instanceTypes := #[]
  staticTypes := #[]
  resolved := Array.replicate 23 none
  statics := none }

def pool4 : Array CpInfo := pool [(1, .methodref 2 3), (0, .class_ 4), (0, .nameAndType 5 6), (0, u "java/lang/Record"), (0, u "<init>"), (0, u "()V"), (0, .fieldref 8 9), (0, .class_ 10), (0, .nameAndType 11 12), (0, u "com/example/lambdagrove/lambdagrove/Tree$Path"), (0, u "top"), (0, u "I"), (0, .fieldref 8 14), (0, .nameAndType 15 12), (0, u "climb"), (0, .fieldref 8 17), (0, .nameAndType 18 19), (0, u "fibres"), (0, u "[I"), (12, .class_ 33), (0, u "com/example/lambdagrove/lambdagrove/Tree$Route"), (0, u "(II[I)V"), (4, u "()I"), (3, u "outOfTop"), (6, .class_ 51), (0, u "com/example/lambdagrove/lambdagrove/Tree")] 22

def k4c0 : Code := { maxStack := 2, maxLocals := 4, code := prog_41_method_1_code, exceptionTable := #[], attributes := #[] }
def k4m0 : Method := { name := "<init>", desc := "(II[I)V", sig := { parameters := [.int, .int, (.array .int)], returnType := none }, accessFlags := 0, code := some k4c0 }
def k4c1 : Code := { maxStack := 2, maxLocals := 1, code := prog_41_method_5_code, exceptionTable := #[], attributes := #[] }
def k4m1 : Method := { name := "outOfTop", desc := "()I", sig := { parameters := [], returnType := some .int }, accessFlags := 0, code := some k4c1 }
/-- com/example/lambdagrove/lambdagrove/Tree$Path -/
def k4 : Class := { plain "com/example/lambdagrove/lambdagrove/Tree$Path" (some 2) with
  accessFlags := 48
  interfaces := #[3]
  cf := some (fileOf pool4 8 #[.nestHost 50] #[{ accessFlags := 0, nameIndex := 5, descriptorIndex := 34, attributes := #[] }, { accessFlags := 0, nameIndex := 43, descriptorIndex := 39, attributes := #[] }] 48 2 #[32] #[{ accessFlags := 18, nameIndex := 11, descriptorIndex := 12, attributes := #[] }, { accessFlags := 18, nameIndex := 15, descriptorIndex := 12, attributes := #[] }, { accessFlags := 18, nameIndex := 18, descriptorIndex := 19, attributes := #[] }])
  fields := #[{ name := "top", type := .int, accessFlags := 18, slot := 0, constantValue := 0 }, { name := "climb", type := .int, accessFlags := 18, slot := 1, constantValue := 0 }, { name := "fibres", type := (.array .int), accessFlags := 18, slot := 2, constantValue := 0 }]
  methods := #[k4m0, k4m1]
  instanceTypes := #[.int, .int, (.array .int)]
  staticTypes := #[]
  resolved := Array.replicate 74 none
  statics := none }

def pool5 : Array CpInfo := pool [(1, u "java/lang/Cloneable"), (0, .class_ 1), (0, u "java/lang/Object"), (0, .class_ 3)] 3

/-- java/lang/Cloneable -/
def k5 : Class := { plain "java/lang/Cloneable" (some 0) with
  accessFlags := 1537
  interfaces := #[]
  cf := some (fileOf pool5 2 #[] #[] 1537 4 #[] #[])
  fields := #[]
  methods := #[]
  instanceTypes := #[]
  staticTypes := #[]
  resolved := Array.replicate 8 none
  statics := none }

def pool6 : Array CpInfo := pool [(1, u "java/io/Serializable"), (0, .class_ 1), (0, u "java/lang/Object"), (0, .class_ 3)] 3

/-- java/io/Serializable -/
def k6 : Class := { plain "java/io/Serializable" (some 0) with
  accessFlags := 1537
  interfaces := #[]
  cf := some (fileOf pool6 2 #[] #[] 1537 4 #[] #[])
  fields := #[]
  methods := #[]
  instanceTypes := #[]
  staticTypes := #[]
  resolved := Array.replicate 8 none
  statics := none }

/-- the primitive byte -/
def k7 : Class := { plain "byte" none with kind := .primitive 'B', accessFlags := 0x411 }
/-- [B -/
def k8 : Class := { plain "[B" (some 0) with kind := .array 7 .byte, interfaces := #[5, 6], accessFlags := 1041 }

/-- the primitive int -/
def k9 : Class := { plain "int" none with kind := .primitive 'I', accessFlags := 0x411 }
/-- [I -/
def k10 : Class := { plain "[I" (some 0) with kind := .array 9 .int, interfaces := #[5, 6], accessFlags := 1041 }

def heap : Heap := #[]
def classes : Array Class := #[k0, k1, k2, k3, k4, k5, k6, k7, k8, k9, k10]
def interned : List (Array UInt16 × Addr) := []
def slotsUsed : Nat := 0
def theMethod : MethodId := ⟨1, 1⟩
def args0 : Array Value := #[.int 3, .int 4, .int 5, .int 6, .int 7, .int 8]
def aboutOver (below : List Frame) : State where
  vm := { classes := classes, interned := interned.toArray }
  heap := heap
  slotsUsed := slotsUsed
  threads := #[{ frames := .invoking theMethod args0 :: below }]
def below0 : List Frame := [.native { method := ⟨0, 0⟩, args := #[] }]
def about1 : State := aboutOver below0
def p0 : Program := .bare "" "" ""
def e0 : Env := launch0.env 0 0 0
theorem w_frames : about1.frames = Frame.invoking theMethod args0 :: below0 := rfl
set_option maxRecDepth 65536 in
theorem w_args : argsFit about1.vm theMethod args0 = true := by decide +kernel
set_option maxRecDepth 65536 in
theorem w_heap : heapFits about1 = true := by decide +kernel
set_option maxRecDepth 65536 in
theorem w_runnable : about1.curStatus? = some .runnable := by decide +kernel
set_option maxRecDepth 65536 in
theorem w_alone : about1.alone = true := by decide +kernel
set_option maxRecDepth 65536 in
theorem w_named : about1.methodNamed? x = some theMethod := by decide +kernel
set_option maxRecDepth 65536 in
theorem w_hears : about1.hears theMethod below0 = true := by decide +kernel
set_option maxRecDepth 65536 in
theorem w_ripe : about1.ripe theMethod args0 below0 = true := by decide +kernel
theorem w_running : about1.status = .running := rfl
set_option maxRecDepth 65536 in
theorem w_room : about1.hasRoom e0.platform room_1 = true :=
  launch0.hasRoom_least _ room_1 (by decide +kernel) (by decide +kernel) (by decide +kernel) (by decide +kernel) (by decide +kernel) (by decide +kernel)
theorem allAtoms_all (ts : List Jvm.Cond) (a : Array Jvm.Value) (st : Jvm.State) : (allAtoms ts).before a st = ts.all (fun c => c.before a st) := by
  induction ts with
  | nil => rfl
  | cons c t ih =>
    show (Jvm.Cond.and c (allAtoms t)).before a st = _
    rw [Jvm.Cond.before_and, ih, List.all_cons]
def words1 : List Jvm.Cond := Jvm.Cond.code x code maxLocals ret :: tables_1
/-- a 'code' word, met by the world's own term for the bytes: nothing is compared byte by byte -/
theorem code_word {y : MethodName} {bytes : ByteArray} {mx : Nat} {rt : Option FieldType} {a : Array Value} {s : State} {m : MethodId} {meth : Method} {c : Code} (h1 : s.methodNamed? y = some m) (h2 : s.vm.method? m = some meth) (h3 : meth.code = some c) (h4 : c.code = bytes)
    (h5 : (c.maxLocals == mx && c.exceptionTable.isEmpty && decide (c.maxStack ≤ mostOperands) && decide (meth.sig.returnType = rt) && !meth.locks && decide (parseMethodDescriptor y.desc = some meth.sig)) = true) : (Jvm.Cond.code y bytes mx rt).before a s = true := by
  simp only [Bool.and_eq_true, beq_iff_eq, Bool.not_eq_true', decide_eq_true_eq] at h5
  obtain ⟨⟨⟨⟨⟨g1, g2⟩, g3⟩, g4⟩, g5⟩, g6⟩ := h5
  simp [Cond.before, Cond.holds, Cond.value, h1, h2, h3, h4, g1, g2, g3, g4, g5, g6]
def isCode : Jvm.Cond → Bool
  | .code _ _ _ _ => true
  | _ => false
theorem all_split {L : List Jvm.Cond} {P : Jvm.Cond → Bool} (h1 : L.all (fun c => isCode c || P c) = true) (h2 : ∀ c ∈ L.filter isCode, P c = true) : L.all P = true := by
  refine List.all_eq_true.mpr fun c hc => ?_
  have h := List.all_eq_true.mp h1 c hc
  rcases Bool.eq_false_or_eq_true (isCode c) with hi | hi
  · exact h2 c (List.mem_filter.mpr ⟨hc, hi⟩)
  · simpa [hi] using h
set_option maxRecDepth 65536 in
theorem w_c0 : (Jvm.Cond.code x code maxLocals ret).before args0 about1 = true := code_word (m := ⟨1, 1⟩) (meth := k1m1) (c := k1c1) (by decide +kernel) rfl rfl rfl (by decide +kernel)
set_option maxRecDepth 65536 in
theorem w_c1 : (Jvm.Cond.code ({ cls := "com/example/lambdagrove/lambdagrove/Tree$Path", name := "<init>", desc := "(II[I)V" } : Jvm.MethodName) prog_41_method_1_code (4 : Nat) (Option.none : Option Jvm.ClassFile.FieldType)).before args0 about1 = true := code_word (m := ⟨4, 0⟩) (meth := k4m0) (c := k4c0) (by decide +kernel) rfl rfl rfl (by decide +kernel)
set_option maxRecDepth 65536 in
theorem w_c2 : (Jvm.Cond.code ({ cls := "java/lang/Record", name := "<init>", desc := "()V" } : Jvm.MethodName) jdk_30_method_1_code (1 : Nat) (Option.none : Option Jvm.ClassFile.FieldType)).before args0 about1 = true := code_word (m := ⟨2, 0⟩) (meth := k2m0) (c := k2c0) (by decide +kernel) rfl rfl rfl (by decide +kernel)
set_option maxRecDepth 65536 in
theorem w_c3 : (Jvm.Cond.code ({ cls := "java/lang/Object", name := "<init>", desc := "()V" } : Jvm.MethodName) object_method_1_code (1 : Nat) (Option.none : Option Jvm.ClassFile.FieldType)).before args0 about1 = true := code_word (m := ⟨0, 0⟩) (meth := k0m0) (c := k0c0) (by decide +kernel) rfl rfl rfl (by decide +kernel)
set_option maxRecDepth 65536 in
theorem w_c4 : (Jvm.Cond.code ({ cls := "com/example/lambdagrove/lambdagrove/Tree$Path", name := "outOfTop", desc := "()I" } : Jvm.MethodName) prog_41_method_5_code (1 : Nat) (Option.some Jvm.ClassFile.FieldType.int)).before args0 about1 = true := code_word (m := ⟨4, 1⟩) (meth := k4m1) (c := k4c1) (by decide +kernel) rfl rfl rfl (by decide +kernel)
def codes1 : List Jvm.Cond := [Jvm.Cond.code x code maxLocals ret, Jvm.Cond.code ({ cls := "com/example/lambdagrove/lambdagrove/Tree$Path", name := "<init>", desc := "(II[I)V" } : Jvm.MethodName) prog_41_method_1_code (4 : Nat) (Option.none : Option Jvm.ClassFile.FieldType), Jvm.Cond.code ({ cls := "java/lang/Record", name := "<init>", desc := "()V" } : Jvm.MethodName) jdk_30_method_1_code (1 : Nat) (Option.none : Option Jvm.ClassFile.FieldType), Jvm.Cond.code ({ cls := "java/lang/Object", name := "<init>", desc := "()V" } : Jvm.MethodName) object_method_1_code (1 : Nat) (Option.none : Option Jvm.ClassFile.FieldType), Jvm.Cond.code ({ cls := "com/example/lambdagrove/lambdagrove/Tree$Path", name := "outOfTop", desc := "()I" } : Jvm.MethodName) prog_41_method_5_code (1 : Nat) (Option.some Jvm.ClassFile.FieldType.int)]
set_option maxRecDepth 65536 in
theorem codes_eq : words1.filter isCode = codes1 := rfl
theorem w_codes : ∀ c ∈ words1.filter isCode, c.before args0 about1 = true := by
  rw [codes_eq]
  intro c hc
  simp only [codes1, List.mem_cons, List.not_mem_nil, or_false] at hc
  rcases hc with rfl | rfl | rfl | rfl | rfl
  · exact w_c0
  · exact w_c1
  · exact w_c2
  · exact w_c3
  · exact w_c4
set_option maxRecDepth 65536 in
theorem w_t1 : (words1.take 24).all (fun c => isCode c || c.before args0 about1) = true := by decide +kernel
set_option maxRecDepth 65536 in
theorem w_t2 : (words1.drop 24).all (fun c => isCode c || c.before args0 about1) = true := by decide +kernel
theorem w_tables : (allAtoms (Jvm.Cond.code x code maxLocals ret :: tables_1)).before args0 about1 = true := by
  rw [allAtoms_all]
  show words1.all (fun c => c.before args0 about1) = true
  refine all_split ?_ w_codes
  rw [← List.take_append_drop 24 words1, List.all_append, w_t1, w_t2]
  rfl
set_option maxRecDepth 65536 in
theorem w_case : (Jvm.Cond.and given_1 narrow_1).before args0 about1 = true := by decide +kernel
theorem w_applies : (headSpec (Jvm.Cond.code x code maxLocals ret :: tables_1) room_1).applies x e0.platform about1 = true :=
  (Spec.applies_iff w_frames).mpr ⟨w_running, w_runnable, w_alone, w_named, w_hears, w_ripe, w_room, w_tables⟩
theorem atStart : AtStart classFile x code maxLocals ret World_1 tables_1 room_1 Calls_1 rest_1 Pre_1 launch0 p0 e0 about1 theMethod args0 below0 :=
  ⟨lists_1, trivial, launch0.admits_env _ _ _, launch0.least_env, fairChoices_fair.cas, fairChoices_fair.clock, w_frames, w_args, w_heap, w_applies, trivial, trivial, w_case⟩
end start1
theorem witness_1 : WitnessClaimed_1 := ⟨start1.p0, start1.e0, start1.about1, start1.theMethod, start1.args0, start1.below0, start1.atStart⟩
end Jvm.Pilot.@@N@@
