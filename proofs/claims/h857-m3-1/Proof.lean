import JvmDerived
import JvmDerived.Pilot.@@N@@Statement
import JvmDerived.Pilot.@@N@@Code
set_option linter.unusedVariables false
set_option linter.unusedSimpArgs false
namespace Jvm.Pilot.@@N@@
open Jvm Jvm.ClassFile Sem Op Lib Jvm.Free Jvm.Stand Jvm.LawKit Jvm.RoadKit Bundle Jvm.Pilot.@@N@@.Jvm.D
/-! own_Go: a walk still to be made from the state A; every step of the machine is one own_by. -/
def own_Go (tb : Tables) (e : Env) (below : List Frame) (A : State) (R : Outcome → State → Prop) : Prop := ∃ s₂ o, Steps tb e below A s₂ ∧ s₂.status = .running ∧ Ended s₂ below o ∧ R o s₂
theorem own_by {tb : Tables} {e : Env} {below : List Frame} {A B : State} {R : Outcome → State → Prop} (h : ∀ t, Steps tb e below A t → Steps tb e below B t) (g : own_Go tb e below A R) : own_Go tb e below B R := by
  obtain ⟨s₂, o, h1, h2⟩ := g
  exact ⟨s₂, o, h _ h1, h2⟩
def own_R (s : State) (Q : Option Value → Heap → List Loc → Prop) (cc nn : Nat) (o : Outcome) (U : State) : Prop := ∃ v L, o = .returned v ∧ Q v U.heap L ∧ FrameEnd s o U L cc nn
abbrev own_lrem (x y : Int64) : Int64 := x - (x / y) * y
section OwnEnds
variable {p : Program} {l : Launch} {e : Env} {R : Room} {s : State} {m : MethodId} {args : Array Value} {below : List Frame} {meth : Method} {c : Code} {T : State} {locs : List Loc} {cells slots : Nat} {Q : Option Value → Heap → List Loc → Prop} {cc nn : Nat}
theorem own_fin (X : Stand p l e R s m args below meth c T locs cells slots) {v : Option Value} (hv : meth.sig.returnType = none → v = none) (hlk : meth.locks = false) {B : State}
    (hs : ∀ fs, (∀ (f : JFrame) (acts : List Action), f.method = m → f.locked = none → f.entered = [] → (doReturn e (T.setTop f) acts v).1 = T.setFrames fs) → Steps p.tables e below B (T.setFrames fs))
    (hq : Q v T.heap locs) (hc : cells ≤ cc) (hn : slots ≤ nn) : own_Go p.tables e below B (own_R s Q cc nn) := by
  obtain ⟨fs, hr, hrun, hended, hW, hsame⟩ := X.leave hv hlk
  exact ⟨_, _, hs fs hr, hrun, hended, v, locs, rfl, hq, ⟨_, rfl⟩, hW, hsame.mono hc hn⟩
theorem own_retN (X : Stand p l e R s m args below meth c T locs cells slots) (hx : p.tables.exec = Jvm.exec) {pc : Nat} {Ls : Array Slot} {z : Int32} {t : FieldType} {rest : List Value} (hret : meth.sig.returnType = some t) (hlk : meth.locks = false) (ht : t = .boolean ∨ t = .byte ∨ t = .char ∨ t = .short)
    (hd : decode c.code pc = .ok (.ireturn, 1)) (hq : Q (some (.int (nar t z))) T.heap locs) (hc : cells ≤ cc) (hn : slots ≤ nn) : own_Go p.tables e below (T.setTop (mkF m pc Ls (.int z :: rest))) (own_R s Q cc nn) :=
  own_fin X (fun h => by rw [hret] at h; cases h) hlk (fun fs hr => retN X hx hret ht hd hr) hq hc hn
theorem own_retI (X : Stand p l e R s m args below meth c T locs cells slots) (hx : p.tables.exec = Jvm.exec) {pc : Nat} {Ls : Array Slot} {z : Int32} (hret : meth.sig.returnType = some .int) (hlk : meth.locks = false)
    (hd : decode c.code pc = .ok (.ireturn, 1)) (hq : Q (some (.int z)) T.heap locs) (hc : cells ≤ cc) (hn : slots ≤ nn) : own_Go p.tables e below (T.setTop (mkF m pc Ls [.int z])) (own_R s Q cc nn) :=
  own_fin X (fun h => by rw [hret] at h; cases h) hlk (fun fs hr => X.ireturnOut hx hret rfl (Or.inl rfl) hd hr) hq hc hn
theorem own_retL (X : Stand p l e R s m args below meth c T locs cells slots) (hx : p.tables.exec = Jvm.exec) {pc : Nat} {Ls : Array Slot} {z : Int64} (hret : meth.sig.returnType = some .long) (hlk : meth.locks = false)
    (hd : decode c.code pc = .ok (.lreturn, 1)) (hq : Q (some (.long z)) T.heap locs) (hc : cells ≤ cc) (hn : slots ≤ nn) : own_Go p.tables e below (T.setTop (mkF m pc Ls [.long z])) (own_R s Q cc nn) :=
  own_fin X (fun h => by rw [hret] at h; cases h) hlk (fun fs hr => X.lreturnOut hx hret hd hr) hq hc hn
theorem own_retA (X : Stand p l e R s m args below meth c T locs cells slots) (hx : p.tables.exec = Jvm.exec) {pc : Nat} {Ls : Array Slot} {w : Value} {t : FieldType} (hret : meth.sig.returnType = some t) (hlk : meth.locks = false) (hw : w.isRef = true) (ht : t.isReference = true)
    (hd : decode c.code pc = .ok (.areturn, 1)) (hq : Q (some w) T.heap locs) (hc : cells ≤ cc) (hn : slots ≤ nn) : own_Go p.tables e below (T.setTop (mkF m pc Ls [w])) (own_R s Q cc nn) :=
  own_fin X (fun h => by rw [hret] at h; cases h) hlk (fun fs hr => X.areturnOut hx hw hret ht hd hr) hq hc hn
theorem own_retV (X : Stand p l e R s m args below meth c T locs cells slots) (hx : p.tables.exec = Jvm.exec) {pc : Nat} {Ls : Array Slot} (hret : meth.sig.returnType = none) (hlk : meth.locks = false)
    (hd : decode c.code pc = .ok (.return_, 1)) (hq : Q none T.heap locs) (hc : cells ≤ cc) (hn : slots ≤ nn) : own_Go p.tables e below (T.setTop (mkF m pc Ls [])) (own_R s Q cc nn) :=
  own_fin X (fun _ => rfl) hlk (fun fs hr => X.returnOut hx hret hd hr) hq hc hn
end OwnEnds
theorem own_nin {a b : Addr} (h : a ≠ b) : a ∉ [b] := fun q => h (List.mem_singleton.mp q)
theorem own_nin2 {a b c : Addr} (h : a ≠ b) (h' : a ≠ c) : a ∉ [b, c] := fun q => by
  rcases List.mem_cons.mp q with q | q
  · exact h q
  · exact h' (List.mem_singleton.mp q)
section OwnArrays
variable {p : Program} {l : Launch} {e : Env} {R : Room} {s : State} {m : MethodId} {args : Array Value} {below : List Frame} {meth : Method} {c : Code} {T : State} {locs : List Loc} {cells slots : Nat} {Z : State} {h : Heap} {a : Addr} {k : ClassId} {z j : Int32} {vs : List Value} {dv v : Value} {g : JFrame} {rest : List Value}
theorem own_iaload (X : Stand p l e R s m args below meth c T locs cells slots) (hx : p.tables.exec = Jvm.exec) (hZ : Z.Warmed39 s.vm) (eT : T.heap = h) (F : Arv Z h a k .int z vs dv) (hj : ¬ j < 0 ∧ j < z) (hv : vs.getD j.toNatClampNeg dv = v)
    (hg : g.method = m) (hs : g.stack = .int j :: .ref a :: rest) (hd : decode c.code g.pc = .ok (.iaload, 1)) (t : State) (kt : Steps p.tables e below (T.setTop { g with pc := g.pc + 1, stack := v :: rest }) t) : Steps p.tables e below (T.setTop g) t := by
  obtain ⟨cl, A, -, S, -, H, -⟩ := F
  exact X.iaload hx (by rw [eT]; exact A.1) (State.isArrayOf_alike hZ.alike A.2.1) A.2.2 (inb_of S hj) (H.at (inb_of S hj) hv) hg hs hd t kt
theorem own_caload (X : Stand p l e R s m args below meth c T locs cells slots) (hx : p.tables.exec = Jvm.exec) (hZ : Z.Warmed39 s.vm) (eT : T.heap = h) (F : Arv Z h a k .char z vs dv) (hj : ¬ j < 0 ∧ j < z) (hv : vs.getD j.toNatClampNeg dv = v)
    (hg : g.method = m) (hs : g.stack = .int j :: .ref a :: rest) (hd : decode c.code g.pc = .ok (.caload, 1)) (t : State) (kt : Steps p.tables e below (T.setTop { g with pc := g.pc + 1, stack := v :: rest }) t) : Steps p.tables e below (T.setTop g) t := by
  obtain ⟨cl, A, -, S, -, H, -⟩ := F
  exact X.caload hx (by rw [eT]; exact A.1) (State.isArrayOf_alike hZ.alike A.2.1) A.2.2 (inb_of S hj) (H.at (inb_of S hj) hv) hg hs hd t kt
theorem own_baload (X : Stand p l e R s m args below meth c T locs cells slots) (hx : p.tables.exec = Jvm.exec) (hZ : Z.Warmed39 s.vm) (eT : T.heap = h) (F : Arv Z h a k .byte z vs dv) (hj : ¬ j < 0 ∧ j < z) (hv : vs.getD j.toNatClampNeg dv = v)
    (hg : g.method = m) (hs : g.stack = .int j :: .ref a :: rest) (hd : decode c.code g.pc = .ok (.baload, 1)) (t : State) (kt : Steps p.tables e below (T.setTop { g with pc := g.pc + 1, stack := v :: rest }) t) : Steps p.tables e below (T.setTop g) t := by
  obtain ⟨cl, A, -, S, -, H, -⟩ := F
  exact X.baloadBytes hx (by rw [eT]; exact A.1) (State.isArrayOf_alike hZ.alike A.2.1) A.2.2 (inb_of S hj) (H.at (inb_of S hj) hv) hg hs hd t kt
theorem own_alen {ty : FieldType} (X : Stand p l e R s m args below meth c T locs cells slots) (hx : p.tables.exec = Jvm.exec) (hZ : Z.Warmed39 s.vm) (eT : T.heap = h) (F : Arv Z h a k ty z vs dv)
    (hg : g.method = m) (hs : g.stack = .ref a :: rest) (hd : decode c.code g.pc = .ok (.arraylength, 1)) (t : State) (kt : Steps p.tables e below (T.setTop { g with pc := g.pc + 1, stack := .int z :: rest }) t) : Steps p.tables e below (T.setTop g) t := by
  obtain ⟨cl, A, -, S, N, -, -⟩ := F
  exact X.arraylength hx (by rw [eT]; exact A.1) (State.isArrayOf_alike hZ.alike A.2.1) hg hs hd t (by rw [len_of S N]; exact kt)
end OwnArrays
section OwnBounds
variable {x k k' : Int32}
theorem own_i1 (h : x < k') (q : k'.toInt ≤ k.toInt) : x < k := by rw [Int32.lt_iff_toInt_lt] at *; omega
theorem own_i2 (h : ¬ k' < x) (q : k'.toInt < k.toInt) : x < k := by rw [Int32.lt_iff_toInt_lt] at *; omega
theorem own_i3 (h : ¬ x < k') (q : k.toInt ≤ k'.toInt) : ¬ x < k := by rw [Int32.lt_iff_toInt_lt] at *; omega
theorem own_i4 (h : k' < x) (q : k.toInt ≤ k'.toInt + 1) : ¬ x < k := by rw [Int32.lt_iff_toInt_lt] at *; omega
theorem own_j1 (h : k' < x) (q : k.toInt ≤ k'.toInt) : k < x := by rw [Int32.lt_iff_toInt_lt] at *; omega
theorem own_j2 (h : ¬ x < k') (q : k.toInt < k'.toInt) : k < x := by rw [Int32.lt_iff_toInt_lt] at *; omega
theorem own_j3 (h : ¬ k' < x) (q : k'.toInt ≤ k.toInt) : ¬ k < x := by rw [Int32.lt_iff_toInt_lt] at *; omega
theorem own_j4 (h : x < k') (q : k'.toInt ≤ k.toInt + 1) : ¬ k < x := by rw [Int32.lt_iff_toInt_lt] at *; omega
theorem own_q1 (h : x < k') (q : k'.toInt ≤ k.toInt) : ¬ x = k := fun u => by rw [Int32.lt_iff_toInt_lt] at *; subst u; omega
theorem own_q2 (h : k' < x) (q : k.toInt ≤ k'.toInt) : ¬ x = k := fun u => by rw [Int32.lt_iff_toInt_lt] at *; subst u; omega
theorem own_q3 (h : ¬ x < k') (q : k.toInt < k'.toInt) : ¬ x = k := fun u => by rw [Int32.lt_iff_toInt_lt] at *; subst u; omega
theorem own_q4 (h : ¬ k' < x) (q : k'.toInt < k.toInt) : ¬ x = k := fun u => by rw [Int32.lt_iff_toInt_lt] at *; subst u; omega
end OwnBounds
theorem own_sta_keep {Z : State} {h h' : Heap} {C n d : String} {w : Value} (F : Sta Z h C n d w) (K : Keep h h' []) : Sta Z h' C n d w := by
  obtain ⟨cf, i, k, f, st, cell, h1, h2, h3, h4, h5, r⟩ := F
  exact ⟨cf, i, k, f, st, cell, h1, h2, h3, h4, K.2.1 _ _ h5 List.not_mem_nil, r⟩
theorem own_bm32 {z : Int} (h1 : -2147483648 ≤ z) (h2 : z < 2147483648) : z.bmod (2 ^ 32) = z := by
  apply Int.bmod_eq_of_le <;> omega
theorem own_pos31 (p : Int32) : 0 ≤ (p &&& 2147483647).toInt := by
  have hn : (p &&& 2147483647).toBitVec.toNat < 2 ^ 31 := by
    show (p.toBitVec &&& (2147483647 : Int32).toBitVec).toNat < 2 ^ 31
    rw [BitVec.toNat_and]
    exact Nat.lt_of_le_of_lt Nat.and_le_right (by decide)
  show 0 ≤ (p &&& 2147483647).toBitVec.toInt
  rw [BitVec.toInt_eq_toNat_cond, if_pos (by omega)]
  omega
theorem own_rem31 (p n : Int32) (hn : 0 < n.toInt) : 0 ≤ ((p &&& 2147483647) % n).toInt ∧ ((p &&& 2147483647) % n).toInt < n.toInt := by
  rw [Int32.toInt_mod, Int.tmod_eq_emod_of_nonneg (own_pos31 p)]
  exact ⟨Int.emod_nonneg _ (by omega), Int.emod_lt_of_pos _ hn⟩
theorem own_and3 (p : Int32) : p &&& 3 = 0 ∨ p &&& 3 = 1 ∨ p &&& 3 = 2 ∨ p &&& 3 = 3 := by
  have hn : (p &&& 3).toBitVec.toNat ≤ 3 := by
    show (p.toBitVec &&& (3 : Int32).toBitVec).toNat ≤ 3
    rw [BitVec.toNat_and]
    exact Nat.and_le_right
  have e : (p &&& 3).toInt = ((p &&& 3).toBitVec.toNat : Int) := by
    show (p &&& 3).toBitVec.toInt = _
    rw [BitVec.toInt_eq_toNat_cond, if_pos (by omega)]
  simp only [← Int32.toInt_inj, e, show (0 : Int32).toInt = 0 from by decide, show (1 : Int32).toInt = 1 from by decide, show (2 : Int32).toInt = 2 from by decide, show (3 : Int32).toInt = 3 from by decide]
  omega
theorem own_chr (p : Int32) : ¬ (255 : Int32) < (p &&& 255).toUInt32.toUInt16.toUInt32.toInt32 := by
  have hn : (p &&& 255).toBitVec.toNat ≤ 255 := by
    show (p.toBitVec &&& (255 : Int32).toBitVec).toNat ≤ 255
    rw [BitVec.toNat_and]
    exact Nat.and_le_right
  have e : ((p &&& 255).toUInt32.toUInt16.toUInt32.toInt32).toInt = ((p &&& 255).toBitVec.toNat : Int) := by
    show ((((p &&& 255).toBitVec.setWidth 16).setWidth 32).toInt) = _
    have q : (((p &&& 255).toBitVec.setWidth 16).setWidth 32).toNat = (p &&& 255).toBitVec.toNat := by
      simp only [BitVec.toNat_setWidth]; omega
    rw [BitVec.toInt_eq_toNat_cond, if_pos (by omega), q]
  rw [Int32.lt_iff_toInt_lt, e, show (255 : Int32).toInt = 255 from by decide]
  omega
def own_canEnc (p0 : Int32) : Int32 := (if (255 : Int32) < p0 then (0 : Int32) else (1 : Int32))
theorem pn_0 : plainName "java/lang/StringLatin1" = true := by first | (simp [plainName, overriddenIn]; done) | decide +kernel
theorem d_jdk_43_method_3_code_0 : decode jdk_43_method_3_code 0 = .ok (.iload_n 0, 1) := by decide +kernel
theorem d_jdk_43_method_3_code_1 : decode jdk_43_method_3_code 1 = .ok (.sipush 255, 3) := by decide +kernel
theorem d_jdk_43_method_3_code_4 : decode jdk_43_method_3_code 4 = .ok (.if_icmp .gt 7, 3) := by decide +kernel
theorem d_jdk_43_method_3_code_11 : decode jdk_43_method_3_code 11 = .ok (.iconst 0, 1) := by decide +kernel
theorem d_jdk_43_method_3_code_12 : decode jdk_43_method_3_code 12 = .ok (.ireturn, 1) := by decide +kernel
theorem d_jdk_43_method_3_code_7 : decode jdk_43_method_3_code 7 = .ok (.iconst 1, 1) := by decide +kernel
theorem d_jdk_43_method_3_code_8 : decode jdk_43_method_3_code 8 = .ok (.goto 4, 3) := by decide +kernel
theorem ef_1 (m : MethodId) (p0 : Int32) : entryFrame m #[(.int p0)] 1 = mkF m 0 #[.val (.int p0)] [] := by first | (simp [entryFrame, mkF, argsToLocals, Value.category]; done) | rfl
def Q_rm_own_canEnc (Z : State) (p0 : Int32)  (h0 : Heap) (n0 : Nat) (v : Option Value) (h : Heap) (L : List Loc) : Prop := v = some (.int (own_canEnc p0)) ∧ Fr n0 L ∧ h = h0
set_option maxRecDepth 65536 in
set_option maxHeartbeats 40000000 in
theorem rm_own_canEnc (l : Launch) (Z : State) (a0 : Array Value) (hw : ∀ d ∈ tables_1, d.before a0 Z = true) (ws : List Jvm.Cond) (p0 : Int32)  (h0 : Heap) (n0 : Nat) (Z0 : n0 ≤ h0.size)  :
    MetFree l (⟨"java/lang/StringLatin1", "canEncode", "(C)Z"⟩ : MethodName) (head1 (Jvm.Cond.code (⟨"java/lang/StringLatin1", "canEncode", "(C)Z"⟩ : MethodName) jdk_43_method_3_code 1 (some .boolean) :: ws) ({ frames := 0, cells := 0, slots := 0, locals := 0 } : Room)) (fun av_ U => av_ = #[(.int p0)] ∧ Z.Warmed39 U.vm ∧ U.heap = h0) (fun _ _ _ _ _ => True) (fun _ U o U' => ∃ v L, o = .returned v ∧ Q_rm_own_canEnc Z p0 h0 n0 v U'.heap L ∧ FrameEnd U o U' L ({ frames := 0, cells := 0, slots := 0, locals := 0 } : Room).cells ({ frames := 0, cells := 0, slots := 0, locals := 0 } : Room).slots) := by
  refine MetFree.of_bodySF (plainFor_of_name pn_0) hisR ?_
  intro p e s m args below meth c s₁ Bd hml0 hP hK
  obtain ⟨rfl, hZ, hh⟩ := hP
  have hx := Bd.exec
  have hby := Bd.bytes
  have hml : c.maxLocals = 1 := hml0
  have hown : s.vm.findClass "java/lang/StringLatin1" = some m.cls := findClass_of_methodNamed Bd.named
  have hnm := (name_of_methodNamed Bd.named Bd.method).1
  have hlk : meth.locks = false := BodyLoose.notSynchronized Bd
  have X0 : Stand p l e ({ frames := 0, cells := 0, slots := 0, locals := 0 } : Room) s m #[(.int p0)] below meth c s₁ [] 0 0 := Stand.of_body Bd
  have e0 : s₁.heap = h0 := by rw [← hh, Bd.state]; rfl
  have N0 := Fr.nil n0
  refine own_by (fun _ kt => castTop (ef_1 m p0) kt) (R := own_R s (Q_rm_own_canEnc Z p0 h0 n0) 0 0) ?_
  show own_Go p.tables e below (s₁.setTop (mkF m 0 #[.val (.int p0)] [])) _
  refine own_by (fun _ kt => XS.iloadN X0.here hx rfl (hb hby d_jdk_43_method_3_code_0) rfl kt) ?_
  show own_Go p.tables e below (s₁.setTop (mkF m 1 #[.val (.int p0)] [(.int p0)])) _
  refine own_by (fun _ kt => XS.sipush X0.here hx rfl (hb hby d_jdk_43_method_3_code_1) kt) ?_
  show own_Go p.tables e below (s₁.setTop (mkF m 4 #[.val (.int p0)] [(.int (255 : Int32)), (.int p0)])) _
  by_cases hc4_1 : (255 : Int32) < p0
  · refine own_by (fun _ kt => XS.icmpYes X0.here hx rfl (pc0 := 4) (pc' := 11) rfl (hb hby d_jdk_43_method_3_code_4) rfl (tlt hc4_1).2.2.1 (by decide) (by decide) kt) ?_
    show own_Go p.tables e below (s₁.setTop (mkF m 11 #[.val (.int p0)] [])) _
    refine own_by (fun _ kt => XS.iconst X0.here hx rfl (hb hby d_jdk_43_method_3_code_11) kt) ?_
    show own_Go p.tables e below (s₁.setTop (mkF m 12 #[.val (.int p0)] [(.int (0 : Int32))])) _
    exact own_retN X0 hx (t := .boolean) Bd.returns hlk (by simp) (hb hby d_jdk_43_method_3_code_12) ⟨by rw [own_canEnc, if_pos hc4_1] <;> rfl, N0, e0⟩ (by decide) (by decide)
  · refine own_by (fun _ kt => XS.icmpNo X0.here hx rfl (hb hby d_jdk_43_method_3_code_4) rfl (flt hc4_1).2.2.1 kt) ?_
    show own_Go p.tables e below (s₁.setTop (mkF m 7 #[.val (.int p0)] [])) _
    refine own_by (fun _ kt => XS.iconst X0.here hx rfl (hb hby d_jdk_43_method_3_code_7) kt) ?_
    show own_Go p.tables e below (s₁.setTop (mkF m 8 #[.val (.int p0)] [(.int (1 : Int32))])) _
    refine own_by (fun _ kt => XS.goto X0.here hx rfl (pc0 := 8) (pc' := 12) rfl (hb hby d_jdk_43_method_3_code_8) (by decide) (by decide) kt) ?_
    show own_Go p.tables e below (s₁.setTop (mkF m 12 #[.val (.int p0)] [(.int (1 : Int32))])) _
    exact own_retN X0 hx (t := .boolean) Bd.returns hlk (by simp) (hb hby d_jdk_43_method_3_code_12) ⟨by rw [own_canEnc, if_neg hc4_1] <;> rfl, N0, e0⟩ (by decide) (by decide)
theorem d_jdk_43_method_46_code_0 : decode jdk_43_method_46_code 0 = .ok (.iconst 1, 1) := by decide +kernel
theorem d_jdk_43_method_46_code_1 : decode jdk_43_method_46_code 1 = .ok (.newarray .byte, 2) := by decide +kernel
theorem d_jdk_43_method_46_code_3 : decode jdk_43_method_46_code 3 = .ok (.dup, 1) := by decide +kernel
theorem d_jdk_43_method_46_code_4 : decode jdk_43_method_46_code 4 = .ok (.iconst 0, 1) := by decide +kernel
theorem d_jdk_43_method_46_code_5 : decode jdk_43_method_46_code 5 = .ok (.iload_n 0, 1) := by decide +kernel
theorem d_jdk_43_method_46_code_6 : decode jdk_43_method_46_code 6 = .ok (.i2b, 1) := by decide +kernel
theorem d_jdk_43_method_46_code_7 : decode jdk_43_method_46_code 7 = .ok (.bastore, 1) := by decide +kernel
theorem d_jdk_43_method_46_code_8 : decode jdk_43_method_46_code 8 = .ok (.areturn, 1) := by decide +kernel
theorem ef_2 (m : MethodId) (c0 : Int32) : entryFrame m #[(.int c0)] 1 = mkF m 0 #[.val (.int c0)] [] := by first | (simp [entryFrame, mkF, argsToLocals, Value.category]; done) | rfl
def Q_rm_toBytes (Z : State) (c0 : Int32)  (h0 : Heap) (n0 : Nat) (v : Option Value) (h : Heap) (L : List Loc) : Prop := ∃ (b : Addr), v = some (.ref b) ∧ Fr n0 L ∧ Keep h0 h [] ∧ n0 ≤ b ∧ h0.size ≤ b
set_option maxRecDepth 65536 in
set_option maxHeartbeats 40000000 in
theorem rm_toBytes (l : Launch) (Z : State) (a0 : Array Value) (hw : ∀ d ∈ tables_1, d.before a0 Z = true) (ws : List Jvm.Cond) (c0 : Int32)  (h0 : Heap) (n0 : Nat) (Z0 : n0 ≤ h0.size)  :
    MetFree l (⟨"java/lang/StringLatin1", "toBytes", "(C)[B"⟩ : MethodName) (head1 (Jvm.Cond.code (⟨"java/lang/StringLatin1", "toBytes", "(C)[B"⟩ : MethodName) jdk_43_method_46_code 1 (some (.array .byte)) :: ws) ({ frames := 0, cells := 1, slots := 1, locals := 0 } : Room)) (fun av_ U => av_ = #[(.int c0)] ∧ Z.Warmed39 U.vm ∧ U.heap = h0) (fun _ _ _ _ _ => True) (fun _ U o U' => ∃ v L, o = .returned v ∧ Q_rm_toBytes Z c0 h0 n0 v U'.heap L ∧ FrameEnd U o U' L ({ frames := 0, cells := 1, slots := 1, locals := 0 } : Room).cells ({ frames := 0, cells := 1, slots := 1, locals := 0 } : Room).slots) := by
  refine MetFree.of_bodySF (plainFor_of_name pn_0) hisR ?_
  intro p e s m args below meth c s₁ Bd hml0 hP hK
  obtain ⟨rfl, hZ, hh⟩ := hP
  have hx := Bd.exec
  have hby := Bd.bytes
  have hml : c.maxLocals = 1 := hml0
  have hown : s.vm.findClass "java/lang/StringLatin1" = some m.cls := findClass_of_methodNamed Bd.named
  have hnm := (name_of_methodNamed Bd.named Bd.method).1
  have hlk : meth.locks = false := BodyLoose.notSynchronized Bd
  have X0 : Stand p l e ({ frames := 0, cells := 1, slots := 1, locals := 0 } : Room) s m #[(.int c0)] below meth c s₁ [] 0 0 := Stand.of_body Bd
  have e0 : s₁.heap = h0 := by rw [← hh, Bd.state]; rfl
  have N0 := Fr.nil n0
  refine own_by (fun _ kt => castTop (ef_2 m c0) kt) (R := own_R s (Q_rm_toBytes Z c0 h0 n0) 1 1) ?_
  show own_Go p.tables e below (s₁.setTop (mkF m 0 #[.val (.int c0)] [])) _
  refine own_by (fun _ kt => XS.iconst X0.here hx rfl (hb hby d_jdk_43_method_46_code_0) kt) ?_
  show own_Go p.tables e below (s₁.setTop (mkF m 1 #[.val (.int c0)] [(.int (1 : Int32))])) _
  obtain ⟨T1, h1, k1, X1, e1, E1, A1, st1⟩ := newP X0 hx hZ (hw _ (List.mem_of_getElem? (i := 15) rfl)) e0 (g := (mkF m 1 #[.val (.int c0)] [(.int (1 : Int32))])) rfl (hb hby d_jdk_43_method_46_code_1) rfl (by decide) (cap := 1) (by decide) (by decide) (by decide) (by decide)
  obtain ⟨b1, g1⟩ : ∃ z, z = h0.size := ⟨_, rfl⟩
  rw [← g1] at A1 st1
  have gn_b1 : n0 ≤ b1 := Nat.le_trans Z0 (Nat.le_of_eq g1.symm)
  have sz_b1 : h0.size ≤ b1 := Nat.le_trans (Keep.refl h0 []).1 (Nat.le_of_eq g1.symm)
  have Zs1 : n0 ≤ h1.size := Nat.le_trans Z0 E1.1
  have K1 : Keep h0 h1 [] := (Keep.refl h0 []).ext E1
  have f2 : Arv Z h1 b1 k1 .byte (1 : Int32) [(.int (0 : Int32))] (.int (0 : Int32)) := (Arv.new A1 (by decide)).pad (pad_rep [] (.int (0 : Int32)) 1)
  refine own_by st1 ?_
  show own_Go p.tables e below (T1.setTop (mkF m 3 #[.val (.int c0)] [(.ref b1)])) _
  refine own_by (fun _ kt => XS.dup X1.here hx rfl (hb hby d_jdk_43_method_46_code_3) rfl rfl kt) ?_
  show own_Go p.tables e below (T1.setTop (mkF m 4 #[.val (.int c0)] [(.ref b1), (.ref b1)])) _
  refine own_by (fun _ kt => XS.iconst X1.here hx rfl (hb hby d_jdk_43_method_46_code_4) kt) ?_
  show own_Go p.tables e below (T1.setTop (mkF m 5 #[.val (.int c0)] [(.int (0 : Int32)), (.ref b1), (.ref b1)])) _
  refine own_by (fun _ kt => XS.iloadN X1.here hx rfl (hb hby d_jdk_43_method_46_code_5) rfl kt) ?_
  show own_Go p.tables e below (T1.setTop (mkF m 6 #[.val (.int c0)] [(.int c0), (.int (0 : Int32)), (.ref b1), (.ref b1)])) _
  refine own_by (fun _ kt => XS.i2b X1.here hx rfl (hb hby d_jdk_43_method_46_code_6) rfl kt) ?_
  show own_Go p.tables e below (T1.setTop (mkF m 7 #[.val (.int c0)] [(.int (c0.toInt8.toInt32)), (.int (0 : Int32)), (.ref b1), (.ref b1)])) _
  obtain ⟨cl3, Ar3, q3, S3, M3, H3, G3⟩ := f2
  obtain ⟨T3, h3, X3, e3, W3, st3⟩ := stB X1 hx hZ e1 Ar3 (j := (0 : Int32)) (inb_of S3 ⟨by decide, by decide⟩) (g := (mkF m 7 #[.val (.int c0)] [(.int (c0.toInt8.toInt32)), (.int (0 : Int32)), (.ref b1), (.ref b1)])) rfl rfl (hb hby d_jdk_43_method_46_code_7)
  have f4 : Arv Z h3 b1 k1 .byte (1 : Int32) [(.int (nar .byte (c0.toInt8.toInt32)))] (.int (0 : Int32)) := Arv.set Ar3 q3 S3 M3 H3 G3 (fits_nar_byte _) W3 0 rfl (Nat.le_of_ble_eq_true rfl)
  have Zs3 : n0 ≤ h3.size := by rw [W3.size]; exact Zs1
  have K3 : Keep h0 h3 [] := K1.wr W3 (Or.inr sz_b1)
  have N3 := Fr.snoc X3 N0 gn_b1
  refine own_by st3 ?_
  show own_Go p.tables e below (T3.setTop (mkF m 8 #[.val (.int c0)] [(.ref b1)])) _
  exact own_retA X3 hx Bd.returns hlk rfl rfl (hb hby d_jdk_43_method_46_code_8) (by rw [e3]; exact ⟨b1, rfl, N3, K3, gn_b1, sz_b1⟩) (by decide) (by decide)
theorem pn_1 : plainName "java/lang/String" = true := by first | (simp [plainName, overriddenIn]; done) | decide +kernel
theorem d_jdk_42_method_151_code_0 : decode jdk_42_method_151_code 0 = .ok (.aload_n 0, 1) := by decide +kernel
theorem d_jdk_42_method_151_code_1 : decode jdk_42_method_151_code 1 = .ok (.invokespecial 1, 3) := by decide +kernel
theorem pd_0 : parseMethodDescriptor "()V" = some ⟨[], none⟩ := by decide +kernel
theorem d_jdk_42_method_151_code_4 : decode jdk_42_method_151_code 4 = .ok (.aload_n 0, 1) := by decide +kernel
theorem d_jdk_42_method_151_code_5 : decode jdk_42_method_151_code 5 = .ok (.aload_n 1, 1) := by decide +kernel
theorem d_jdk_42_method_151_code_6 : decode jdk_42_method_151_code 6 = .ok (.putfield 9, 3) := by decide +kernel
theorem d_jdk_42_method_151_code_9 : decode jdk_42_method_151_code 9 = .ok (.aload_n 0, 1) := by decide +kernel
theorem d_jdk_42_method_151_code_10 : decode jdk_42_method_151_code 10 = .ok (.iload_n 2, 1) := by decide +kernel
theorem d_jdk_42_method_151_code_11 : decode jdk_42_method_151_code 11 = .ok (.putfield 15, 3) := by decide +kernel
theorem d_jdk_42_method_151_code_14 : decode jdk_42_method_151_code 14 = .ok (.return_, 1) := by decide +kernel
theorem ef_3 (m : MethodId) (a : Addr) (b : Addr) (c0 : Int32) : entryFrame m #[(.ref a), (.ref b), (.int c0)] 3 = mkF m 0 #[.val (.ref a), .val (.ref b), .val (.int c0)] [] := by first | (simp [entryFrame, mkF, argsToLocals, Value.category]; done) | rfl
def Q_rm_strinit (Z : State) (a : Addr) (b : Addr) (c0 : Int32)  (h0 : Heap) (n0 : Nat) (v : Option Value) (h : Heap) (L : List Loc) : Prop := v = none ∧ Fr n0 L ∧ Keep h0 h [a] ∧ Exa Z h a "java/lang/String"
set_option maxRecDepth 65536 in
set_option maxHeartbeats 40000000 in
theorem rm_strinit (l : Launch) (Z : State) (a0 : Array Value) (hw : ∀ d ∈ tables_1, d.before a0 Z = true) (ws : List Jvm.Cond) (a : Addr) (b : Addr) (c0 : Int32)  (h0 : Heap) (n0 : Nat) (Z0 : n0 ≤ h0.size) (F_value_a : Fld Z h0 a "java/lang/String" "value" "[B" .null) (F_coder_a : Fld Z h0 a "java/lang/String" "coder" "B" (.int (0 : Int32))) (E_a : Exa Z h0 a "java/lang/String") (gn_a : n0 ≤ a) :
    MetFree l (⟨"java/lang/String", "<init>", "([BB)V"⟩ : MethodName) (head1 (Jvm.Cond.code (⟨"java/lang/String", "<init>", "([BB)V"⟩ : MethodName) jdk_42_method_151_code 3 none :: ws) ({ frames := 1, cells := 0, slots := 0, locals := 12 } : Room)) (fun av_ U => av_ = #[(.ref a), (.ref b), (.int c0)] ∧ Z.Warmed39 U.vm ∧ U.heap = h0) (fun _ _ _ _ _ => True) (fun _ U o U' => ∃ v L, o = .returned v ∧ Q_rm_strinit Z a b c0 h0 n0 v U'.heap L ∧ FrameEnd U o U' L ({ frames := 1, cells := 0, slots := 0, locals := 12 } : Room).cells ({ frames := 1, cells := 0, slots := 0, locals := 12 } : Room).slots) := by
  refine MetFree.of_bodySF (plainFor_of_name pn_1) hisR ?_
  intro p e s m args below meth c s₁ Bd hml0 hP hK
  obtain ⟨rfl, hZ, hh⟩ := hP
  have hx := Bd.exec
  have hby := Bd.bytes
  have hml : c.maxLocals = 3 := hml0
  have hown : s.vm.findClass "java/lang/String" = some m.cls := findClass_of_methodNamed Bd.named
  have hnm := (name_of_methodNamed Bd.named Bd.method).1
  have hlk : meth.locks = false := BodyLoose.notSynchronized Bd
  have X0 : Stand p l e ({ frames := 1, cells := 0, slots := 0, locals := 12 } : Room) s m #[(.ref a), (.ref b), (.int c0)] below meth c s₁ [] 0 0 := Stand.of_body Bd
  have e0 : s₁.heap = h0 := by rw [← hh, Bd.state]; rfl
  have N0 := Fr.nil n0
  refine own_by (fun _ kt => castTop (ef_3 m a b c0) kt) (R := own_R s (Q_rm_strinit Z a b c0 h0 n0) 0 0) ?_
  show own_Go p.tables e below (s₁.setTop (mkF m 0 #[.val (.ref a), .val (.ref b), .val (.int c0)] [])) _
  refine own_by (fun _ kt => XS.aloadN X0.here hx rfl (hb hby d_jdk_42_method_151_code_0) rfl rfl kt) ?_
  show own_Go p.tables e below (s₁.setTop (mkF m 1 #[.val (.ref a), .val (.ref b), .val (.int c0)] [(.ref a)])) _
  obtain ⟨T1, X1, e1, st1⟩ := initO X0 hx hZ hown (hw _ (List.mem_of_getElem? (i := 20) rfl)) (hw _ (List.mem_of_getElem? (i := 21) rfl)) (hw _ (List.mem_of_getElem? (i := 22) rfl)) e0 (g := (mkF m 1 #[.val (.ref a), .val (.ref b), .val (.int c0)] [(.ref a)])) rfl (by rw [hml]; rfl) rfl (hb hby d_jdk_42_method_151_code_1) (by decide) (W := 0) (by show 2 * 0 + _ ≤ _; exact Nat.le_of_eq rfl) (by decide)
  refine own_by st1 ?_
  show own_Go p.tables e below (T1.setTop (mkF m 4 #[.val (.ref a), .val (.ref b), .val (.int c0)] [])) _
  refine own_by (fun _ kt => XS.aloadN X1.here hx rfl (hb hby d_jdk_42_method_151_code_4) rfl rfl kt) ?_
  show own_Go p.tables e below (T1.setTop (mkF m 5 #[.val (.ref a), .val (.ref b), .val (.int c0)] [(.ref a)])) _
  refine own_by (fun _ kt => XS.aloadN X1.here hx rfl (hb hby d_jdk_42_method_151_code_5) rfl rfl kt) ?_
  show own_Go p.tables e below (T1.setTop (mkF m 6 #[.val (.ref a), .val (.ref b), .val (.int c0)] [(.ref b), (.ref a)])) _
  obtain ⟨T2, h2, X2, e2, W2, st2⟩ := putF X1 hx hZ hown (host := "") (Or.inl (hw _ (List.mem_of_getElem? (i := 23) rfl))) Via.refl e1 F_value_a E_a (Or.inr ⟨(hw _ (List.mem_of_getElem? (i := 24) rfl)), rfl, hnm⟩) (hw _ (List.mem_of_getElem? (i := 11) rfl)) (ty := (.array .byte)) (by decide) rfl rfl (g := (mkF m 6 #[.val (.ref a), .val (.ref b), .val (.int c0)] [(.ref b), (.ref a)])) rfl rfl (hb hby d_jdk_42_method_151_code_6)
  have Fw2 := F_value_a.same W2
  have f3 := F_coder_a.other W2 (Or.inr (slot_ne (Or.inr (hw _ (List.mem_of_getElem? (i := 26) rfl))) (Or.inr (hw _ (List.mem_of_getElem? (i := 24) rfl))) (by decide) (t := .byte) (t' := (.array .byte)) (by decide) (by decide)))
  have f4 := E_a.wr W2
  have Zs2 : n0 ≤ h2.size := by rw [W2.size]; exact Z0
  have K2 : Keep h0 h2 [a] := (Keep.refl h0 [a]).wr W2 (Or.inl (List.mem_of_getElem? (i := 0) rfl))
  have N2 := Fr.snoc X2 N0 gn_a
  refine own_by st2 ?_
  show own_Go p.tables e below (T2.setTop (mkF m 9 #[.val (.ref a), .val (.ref b), .val (.int c0)] [])) _
  refine own_by (fun _ kt => XS.aloadN X2.here hx rfl (hb hby d_jdk_42_method_151_code_9) rfl rfl kt) ?_
  show own_Go p.tables e below (T2.setTop (mkF m 10 #[.val (.ref a), .val (.ref b), .val (.int c0)] [(.ref a)])) _
  refine own_by (fun _ kt => XS.iloadN X2.here hx rfl (hb hby d_jdk_42_method_151_code_10) rfl kt) ?_
  show own_Go p.tables e below (T2.setTop (mkF m 11 #[.val (.ref a), .val (.ref b), .val (.int c0)] [(.int c0), (.ref a)])) _
  obtain ⟨T5, h5, X5, e5, W5, st5⟩ := putFN X2 hx hZ hown (hw _ (List.mem_of_getElem? (i := 25) rfl)) Via.refl e2 f3 f4 (Or.inr ⟨(hw _ (List.mem_of_getElem? (i := 26) rfl)), rfl, hnm⟩) (hw _ (List.mem_of_getElem? (i := 11) rfl)) (ty := .byte) (v' := (.int (nar .byte c0))) (by decide) rfl (fits_nar_byte _) (g := (mkF m 11 #[.val (.ref a), .val (.ref b), .val (.int c0)] [(.int c0), (.ref a)])) rfl rfl (hb hby d_jdk_42_method_151_code_11)
  have Fw5 := f3.same W5
  have f6 := Fw2.other W5 (Or.inr (slot_ne (Or.inr (hw _ (List.mem_of_getElem? (i := 24) rfl))) (Or.inr (hw _ (List.mem_of_getElem? (i := 26) rfl))) (by decide) (t := (.array .byte)) (t' := .byte) (by decide) (by decide)))
  have f7 := f4.wr W5
  have Zs5 : n0 ≤ h5.size := by rw [W5.size]; exact Zs2
  have K5 : Keep h0 h5 [a] := K2.wr W5 (Or.inl (List.mem_of_getElem? (i := 0) rfl))
  have N5 := Fr.snoc X5 N2 gn_a
  refine own_by st5 ?_
  show own_Go p.tables e below (T5.setTop (mkF m 14 #[.val (.ref a), .val (.ref b), .val (.int c0)] [])) _
  exact own_retV X5 hx Bd.returns hlk (hb hby d_jdk_42_method_151_code_14) (by rw [e5]; exact ⟨rfl, N5, K5, f7⟩) (by decide) (by decide)
theorem d_jdk_42_method_139_code_0 : decode jdk_42_method_139_code 0 = .ok (.getstatic 38, 3) := by decide +kernel
theorem d_jdk_42_method_139_code_3 : decode jdk_42_method_139_code 3 = .ok (.ifCond .eq 23, 3) := by decide +kernel
theorem d_jdk_42_method_139_code_6 : decode jdk_42_method_139_code 6 = .ok (.iload_n 0, 1) := by decide +kernel
theorem d_jdk_42_method_139_code_7 : decode jdk_42_method_139_code 7 = .ok (.invokestatic 1015, 3) := by decide +kernel
theorem pd_1 : parseMethodDescriptor "(C)Z" = some ⟨[.char], some .boolean⟩ := by decide +kernel
theorem d_jdk_42_method_139_code_10 : decode jdk_42_method_139_code 10 = .ok (.ifCond .eq 16, 3) := by decide +kernel
theorem d_jdk_42_method_139_code_13 : decode jdk_42_method_139_code 13 = .ok (.new 10, 3) := by decide +kernel
theorem d_jdk_42_method_139_code_16 : decode jdk_42_method_139_code 16 = .ok (.dup, 1) := by decide +kernel
theorem d_jdk_42_method_139_code_17 : decode jdk_42_method_139_code 17 = .ok (.iload_n 0, 1) := by decide +kernel
theorem d_jdk_42_method_139_code_18 : decode jdk_42_method_139_code 18 = .ok (.invokestatic 1018, 3) := by decide +kernel
theorem pd_2 : parseMethodDescriptor "(C)[B" = some ⟨[.char], some (.array .byte)⟩ := by decide +kernel
theorem d_jdk_42_method_139_code_21 : decode jdk_42_method_139_code 21 = .ok (.iconst 0, 1) := by decide +kernel
theorem d_jdk_42_method_139_code_22 : decode jdk_42_method_139_code 22 = .ok (.invokespecial 209, 3) := by decide +kernel
theorem pd_3 : parseMethodDescriptor "([BB)V" = some ⟨[(.array .byte), .byte], none⟩ := by decide +kernel
theorem d_jdk_42_method_139_code_25 : decode jdk_42_method_139_code 25 = .ok (.areturn, 1) := by decide +kernel
theorem ef_4 (m : MethodId) (c0 : Int32) : entryFrame m #[(.int c0)] 1 = mkF m 0 #[.val (.int c0)] [] := by first | (simp [entryFrame, mkF, argsToLocals, Value.category]; done) | rfl
def Q_rm_valueOf (Z : State) (c0 : Int32) (cs : Int32) (h0 : Heap) (n0 : Nat) (v : Option Value) (h : Heap) (L : List Loc) : Prop := ∃ (b : Addr), v = some (.ref b) ∧ Fr n0 L ∧ Keep h0 h [] ∧ n0 ≤ b ∧ h0.size ≤ b
set_option maxRecDepth 65536 in
set_option maxHeartbeats 40000000 in
theorem rm_valueOf (l : Launch) (Z : State) (a0 : Array Value) (hw : ∀ d ∈ tables_1, d.before a0 Z = true) (ws : List Jvm.Cond) (c0 : Int32) (cs : Int32) (h0 : Heap) (n0 : Nat) (Z0 : n0 ≤ h0.size) (S_COMPACT_STRINGS : Sta Z h0 "java/lang/String" "COMPACT_STRINGS" "Z" (.int cs)) (hcs : ¬ cs = (0 : Int32)) (hc : ¬ (255 : Int32) < c0) :
    MetFree l (⟨"java/lang/String", "valueOf", "(C)Ljava/lang/String;"⟩ : MethodName) (head1 (Jvm.Cond.code (⟨"java/lang/String", "valueOf", "(C)Ljava/lang/String;"⟩ : MethodName) jdk_42_method_139_code 1 (some (.object "java/lang/String")) :: ws) ({ frames := 2, cells := 2, slots := 5, locals := 27 } : Room)) (fun av_ U => av_ = #[(.int c0)] ∧ Z.Warmed39 U.vm ∧ U.heap = h0) (fun _ _ _ _ _ => True) (fun _ U o U' => ∃ v L, o = .returned v ∧ Q_rm_valueOf Z c0 cs h0 n0 v U'.heap L ∧ FrameEnd U o U' L ({ frames := 2, cells := 2, slots := 5, locals := 27 } : Room).cells ({ frames := 2, cells := 2, slots := 5, locals := 27 } : Room).slots) := by
  refine MetFree.of_bodySF (plainFor_of_name pn_1) hisR ?_
  intro p e s m args below meth c s₁ Bd hml0 hP hK
  obtain ⟨rfl, hZ, hh⟩ := hP
  have hx := Bd.exec
  have hby := Bd.bytes
  have hml : c.maxLocals = 1 := hml0
  have hown : s.vm.findClass "java/lang/String" = some m.cls := findClass_of_methodNamed Bd.named
  have hnm := (name_of_methodNamed Bd.named Bd.method).1
  have hlk : meth.locks = false := BodyLoose.notSynchronized Bd
  have X0 : Stand p l e ({ frames := 2, cells := 2, slots := 5, locals := 27 } : Room) s m #[(.int c0)] below meth c s₁ [] 0 0 := Stand.of_body Bd
  have e0 : s₁.heap = h0 := by rw [← hh, Bd.state]; rfl
  have N0 := Fr.nil n0
  refine own_by (fun _ kt => castTop (ef_4 m c0) kt) (R := own_R s (Q_rm_valueOf Z c0 cs h0 n0) 2 5) ?_
  show own_Go p.tables e below (s₁.setTop (mkF m 0 #[.val (.int c0)] [])) _
  obtain ⟨T1, X1, e1, st1⟩ := getS2 X0 hx hZ hown (host := "") (Or.inl (hw _ (List.mem_of_getElem? (i := 5) rfl))) Via.refl e0 S_COMPACT_STRINGS (g := (mkF m 0 #[.val (.int c0)] [])) rfl (hb hby d_jdk_42_method_139_code_0)
  refine own_by st1 ?_
  show own_Go p.tables e below (T1.setTop (mkF m 3 #[.val (.int c0)] [(.int cs)])) _
  refine own_by (fun _ kt => XS.ifNo X1.here hx rfl (hb hby d_jdk_42_method_139_code_3) rfl ((if0 _ _).trans (feq (hcs : ¬ (cs = (0 : Int32)))).1) kt) ?_
  show own_Go p.tables e below (T1.setTop (mkF m 6 #[.val (.int c0)] [])) _
  refine own_by (fun _ kt => XS.iloadN X1.here hx rfl (hb hby d_jdk_42_method_139_code_6) rfl kt) ?_
  show own_Go p.tables e below (T1.setTop (mkF m 7 #[.val (.int c0)] [(.int c0)])) _
  obtain ⟨_, _, ⟨T2, L2, k2, n2⟩, -, X2, ⟨Lc2, hQ2, l2, y2, z2⟩, st2⟩ := Jvm.LawKit.callS X1 hx (y := (⟨"java/lang/StringLatin1", "canEncode", "(C)Z"⟩ : MethodName)) hown (mvT hZ (hw _ (List.mem_of_getElem? (i := 6) rfl))) (mvT hZ (hw _ (List.mem_of_getElem? (i := 7) rfl))) (mvT hZ (hw _ (List.mem_of_getElem? (i := 8) rfl))) (mvT hZ (hw _ (List.mem_of_getElem? (i := 9) rfl))) (by decide) (backOf (W := 0) (rm_own_canEnc l Z a0 hw [] c0 h0 n0 Z0) hZ (hw _ (List.mem_of_getElem? (i := 9) rfl)) (hw _ (List.mem_of_getElem? (i := 8) rfl)) (by decide) (by decide)) (g := (mkF m 7 #[.val (.int c0)] [(.int c0)])) rfl (by rw [hml]; rfl) (argsL := [(.int c0)]) (rest := []) (lenOf pd_1 rfl) rfl (by show 2 * 0 + _ ≤ _; exact Nat.le_of_eq rfl) (hb hby d_jdk_42_method_139_code_7) (fun _ _ => ⟨rfl, e1, (by decide : 0 + 0 ≤ _), (by decide : 0 + 0 ≤ _)⟩)
  dsimp only [Pt.U, Pt.locs, Pt.cells, Pt.slots] at X2 l2 y2 z2 st2 hQ2
  subst l2 y2 z2
  obtain ⟨rfl, Nq2, eh2⟩ := hQ2
  have N2 := Fr.app N0 Nq2
  refine own_by (st2) ?_
  show own_Go p.tables e below (T2.setTop (mkF m 10 #[.val (.int c0)] [(.int (own_canEnc c0))])) _
  refine own_by (fun _ kt => XS.ifNo X2.here hx rfl (hb hby d_jdk_42_method_139_code_10) rfl ((if0 _ _).trans (feq (by rw [own_canEnc, if_neg hc]; decide : ¬ ((own_canEnc c0) = (0 : Int32)))).1) kt) ?_
  show own_Go p.tables e below (T2.setTop (mkF m 13 #[.val (.int c0)] [])) _
  obtain ⟨T3, h3, X3, e3, E3, A3, D3, -, st3⟩ := newO X2 hx hZ hown (hw _ (List.mem_of_getElem? (i := 10) rfl)) (hw _ (List.mem_of_getElem? (i := 11) rfl)) (hw _ (List.mem_of_getElem? (i := 3) rfl)) eh2 (g := (mkF m 13 #[.val (.int c0)] [])) rfl (hb hby d_jdk_42_method_139_code_13) (by decide) (by decide)
  obtain ⟨b3, g3⟩ : ∃ z, z = h0.size := ⟨_, rfl⟩
  rw [← g3] at A3 D3 st3
  have gn_b3 : n0 ≤ b3 := Nat.le_trans Z0 (Nat.le_of_eq g3.symm)
  have sz_b3 : h0.size ≤ b3 := Nat.le_trans (Keep.refl h0 []).1 (Nat.le_of_eq g3.symm)
  have f4 := S_COMPACT_STRINGS.ext E3
  have Zs3 : n0 ≤ h3.size := Nat.le_trans Z0 E3.1
  have K3 : Keep h0 h3 [] := (Keep.refl h0 []).ext E3
  have f5 : Fld Z h3 b3 "java/lang/String" "value" "[B" .null := D3 (Or.inr (hw _ (List.mem_of_getElem? (i := 24) rfl))) (ty := (.array .byte)) (by decide)
  have f6 : Fld Z h3 b3 "java/lang/String" "coder" "B" (.int (0 : Int32)) := D3 (Or.inr (hw _ (List.mem_of_getElem? (i := 26) rfl))) (ty := .byte) (by decide)
  refine own_by st3 ?_
  show own_Go p.tables e below (T3.setTop (mkF m 16 #[.val (.int c0)] [(.ref b3)])) _
  refine own_by (fun _ kt => XS.dup X3.here hx rfl (hb hby d_jdk_42_method_139_code_16) rfl rfl kt) ?_
  show own_Go p.tables e below (T3.setTop (mkF m 17 #[.val (.int c0)] [(.ref b3), (.ref b3)])) _
  refine own_by (fun _ kt => XS.iloadN X3.here hx rfl (hb hby d_jdk_42_method_139_code_17) rfl kt) ?_
  show own_Go p.tables e below (T3.setTop (mkF m 18 #[.val (.int c0)] [(.int c0), (.ref b3), (.ref b3)])) _
  obtain ⟨_, _, ⟨T7, L7, k7, n7⟩, -, X7, ⟨Lc7, hQ7, l7, y7, z7⟩, st7⟩ := Jvm.LawKit.callS X3 hx (y := (⟨"java/lang/StringLatin1", "toBytes", "(C)[B"⟩ : MethodName)) hown (mvT hZ (hw _ (List.mem_of_getElem? (i := 12) rfl))) (mvT hZ (hw _ (List.mem_of_getElem? (i := 13) rfl))) (mvT hZ (hw _ (List.mem_of_getElem? (i := 8) rfl))) (mvT hZ (hw _ (List.mem_of_getElem? (i := 14) rfl))) (by decide) (backOf (W := 2) (rm_toBytes l Z a0 hw [] c0  h3 n0 Zs3 ) hZ (hw _ (List.mem_of_getElem? (i := 14) rfl)) (hw _ (List.mem_of_getElem? (i := 8) rfl)) (by decide) (by decide)) (g := (mkF m 18 #[.val (.int c0)] [(.int c0), (.ref b3), (.ref b3)])) rfl (by rw [hml]; rfl) (argsL := [(.int c0)]) (rest := [(.ref b3), (.ref b3)]) (lenOf pd_2 rfl) rfl (by show 2 * 0 + _ ≤ _; exact Nat.le_of_eq rfl) (hb hby d_jdk_42_method_139_code_18) (fun _ _ => ⟨rfl, e3, (by decide : 1 + 1 ≤ _), (by decide : 4 + 1 ≤ _)⟩)
  dsimp only [Pt.U, Pt.locs, Pt.cells, Pt.slots] at X7 l7 y7 z7 st7 hQ7
  subst l7 y7 z7
  obtain ⟨b7, rfl, Nq7, K7, gn_b7, szq_b7⟩ := hQ7
  have ne_b3_b7 : b3 ≠ b7 := Nat.ne_of_lt (Nat.lt_of_lt_of_le A3.lt szq_b7)
  have sz_b7 : h0.size ≤ b7 := Nat.le_trans K3.1 szq_b7
  have f8 := own_sta_keep f4 K7
  have f9 := A3.keep K7
  have f10 := f5.keep K7 List.not_mem_nil
  have f11 := f6.keep K7 List.not_mem_nil
  have Zs7 : n0 ≤ T7.heap.size := Nat.le_trans Zs3 K7.1
  have KK7 : Keep h0 T7.heap [] := K3.trans K7 (fun x hx => by first | exact absurd hx List.not_mem_nil | (cases List.mem_singleton.mp hx; first | exact Or.inr sz_x | exact Or.inl (by simp)))
  have N7 := Fr.app N2 Nq7
  refine own_by (st7) ?_
  show own_Go p.tables e below (T7.setTop (mkF m 21 #[.val (.int c0)] [(.ref b7), (.ref b3), (.ref b3)])) _
  refine own_by (fun _ kt => XS.iconst X7.here hx rfl (hb hby d_jdk_42_method_139_code_21) kt) ?_
  show own_Go p.tables e below (T7.setTop (mkF m 22 #[.val (.int c0)] [(.int (0 : Int32)), (.ref b7), (.ref b3), (.ref b3)])) _
  obtain ⟨_, _, ⟨T12, L12, k12, n12⟩, -, X12, ⟨Lc12, hQ12, l12, y12, z12⟩, st12⟩ := X7.specialBack hx (y := (⟨"java/lang/String", "<init>", "([BB)V"⟩ : MethodName)) rfl hown (mvT hZ (hw _ (List.mem_of_getElem? (i := 16) rfl))) (mvT hZ (hw _ (List.mem_of_getElem? (i := 17) rfl))) (mvT hZ (hw _ (List.mem_of_getElem? (i := 19) rfl))) (by decide) (backOf (W := 1) (rm_strinit l Z a0 hw [] b3 b7 (0 : Int32)  T7.heap n0 Zs7 f10 f11 f9 gn_b3) hZ (hw _ (List.mem_of_getElem? (i := 19) rfl)) (hw _ (List.mem_of_getElem? (i := 3) rfl)) (by decide) (by decide)) (g := (mkF m 22 #[.val (.int c0)] [(.int (0 : Int32)), (.ref b7), (.ref b3), (.ref b3)])) rfl (by rw [hml]; rfl) (Steps.refl _) (a := b3) (argsL := [(.ref b7), (.int (0 : Int32))]) (rest := [(.ref b3)]) (lenOf pd_3 rfl) rfl (by show 2 * 0 + _ ≤ _; exact Nat.le_of_eq rfl) (hb hby d_jdk_42_method_139_code_22) (fun _ _ => ⟨rfl, rfl, (by decide : 2 + 0 ≤ _), (by decide : 5 + 0 ≤ _)⟩)
  dsimp only [Pt.U, Pt.locs, Pt.cells, Pt.slots] at X12 l12 y12 z12 st12 hQ12
  subst l12 y12 z12
  obtain ⟨rfl, Nq12, K12, f12_0⟩ := hQ12
  have f13 := f9.keep K12
  have Zs12 : n0 ≤ T12.heap.size := Nat.le_trans Zs7 K12.1
  have KK12 : Keep h0 T12.heap [] := KK7.trans K12 (fun x hx => by first | exact absurd hx List.not_mem_nil | (cases List.mem_singleton.mp hx; first | exact Or.inr sz_b3 | exact Or.inl (by simp)))
  have N12 := Fr.app N7 Nq12
  refine own_by (fun _ kt => st12.trans kt) ?_
  show own_Go p.tables e below (T12.setTop (mkF m 25 #[.val (.int c0)] [(.ref b3)])) _
  exact own_retA X12 hx Bd.returns hlk rfl rfl (hb hby d_jdk_42_method_139_code_25) ⟨b3, rfl, N12, KK12, gn_b3, sz_b3⟩ (by decide) (by decide)
theorem pn_2 : plainName "java/lang/Record" = true := by first | (simp [plainName, overriddenIn]; done) | decide +kernel
theorem d_jdk_30_method_1_code_0 : decode jdk_30_method_1_code 0 = .ok (.aload_n 0, 1) := by decide +kernel
theorem d_jdk_30_method_1_code_1 : decode jdk_30_method_1_code 1 = .ok (.invokespecial 1, 3) := by decide +kernel
theorem d_jdk_30_method_1_code_4 : decode jdk_30_method_1_code 4 = .ok (.return_, 1) := by decide +kernel
theorem ef_5 (m : MethodId) (a : Addr) : entryFrame m #[(.ref a)] 1 = mkF m 0 #[.val (.ref a)] [] := by first | (simp [entryFrame, mkF, argsToLocals, Value.category]; done) | rfl
def Q_rm_record (Z : State) (a : Addr)  (h0 : Heap) (n0 : Nat) (v : Option Value) (h : Heap) (L : List Loc) : Prop := v = none ∧ Fr n0 L ∧ h = h0
set_option maxRecDepth 65536 in
set_option maxHeartbeats 40000000 in
theorem rm_record (l : Launch) (Z : State) (a0 : Array Value) (hw : ∀ d ∈ tables_1, d.before a0 Z = true) (ws : List Jvm.Cond) (a : Addr)  (h0 : Heap) (n0 : Nat) (Z0 : n0 ≤ h0.size)  :
    MetFree l (⟨"java/lang/Record", "<init>", "()V"⟩ : MethodName) (head1 (Jvm.Cond.code (⟨"java/lang/Record", "<init>", "()V"⟩ : MethodName) jdk_30_method_1_code 1 none :: ws) ({ frames := 1, cells := 0, slots := 0, locals := 12 } : Room)) (fun av_ U => av_ = #[(.ref a)] ∧ Z.Warmed39 U.vm ∧ U.heap = h0) (fun _ _ _ _ _ => True) (fun _ U o U' => ∃ v L, o = .returned v ∧ Q_rm_record Z a h0 n0 v U'.heap L ∧ FrameEnd U o U' L ({ frames := 1, cells := 0, slots := 0, locals := 12 } : Room).cells ({ frames := 1, cells := 0, slots := 0, locals := 12 } : Room).slots) := by
  refine MetFree.of_bodySF (plainFor_of_name pn_2) hisR ?_
  intro p e s m args below meth c s₁ Bd hml0 hP hK
  obtain ⟨rfl, hZ, hh⟩ := hP
  have hx := Bd.exec
  have hby := Bd.bytes
  have hml : c.maxLocals = 1 := hml0
  have hown : s.vm.findClass "java/lang/Record" = some m.cls := findClass_of_methodNamed Bd.named
  have hnm := (name_of_methodNamed Bd.named Bd.method).1
  have hlk : meth.locks = false := BodyLoose.notSynchronized Bd
  have X0 : Stand p l e ({ frames := 1, cells := 0, slots := 0, locals := 12 } : Room) s m #[(.ref a)] below meth c s₁ [] 0 0 := Stand.of_body Bd
  have e0 : s₁.heap = h0 := by rw [← hh, Bd.state]; rfl
  have N0 := Fr.nil n0
  refine own_by (fun _ kt => castTop (ef_5 m a) kt) (R := own_R s (Q_rm_record Z a h0 n0) 0 0) ?_
  show own_Go p.tables e below (s₁.setTop (mkF m 0 #[.val (.ref a)] [])) _
  refine own_by (fun _ kt => XS.aloadN X0.here hx rfl (hb hby d_jdk_30_method_1_code_0) rfl rfl kt) ?_
  show own_Go p.tables e below (s₁.setTop (mkF m 1 #[.val (.ref a)] [(.ref a)])) _
  obtain ⟨T1, X1, e1, st1⟩ := initO X0 hx hZ hown (hw _ (List.mem_of_getElem? (i := 38) rfl)) (hw _ (List.mem_of_getElem? (i := 21) rfl)) (hw _ (List.mem_of_getElem? (i := 22) rfl)) e0 (g := (mkF m 1 #[.val (.ref a)] [(.ref a)])) rfl (by rw [hml]; rfl) rfl (hb hby d_jdk_30_method_1_code_1) (by decide) (W := 0) (by show 2 * 0 + _ ≤ _; exact Nat.le_of_eq rfl) (by decide)
  refine own_by st1 ?_
  show own_Go p.tables e below (T1.setTop (mkF m 4 #[.val (.ref a)] [])) _
  exact own_retV X1 hx Bd.returns hlk (hb hby d_jdk_30_method_1_code_4) ⟨rfl, N0, e1⟩ (by decide) (by decide)
def own_on (p0 : Int32) (p1 : Int32) : Int32 := (if p0 < (1 : Int32) then (0 : Int32) else (if p1 < p0 then (0 : Int32) else (if (80 : Int32) < p1 then (0 : Int32) else (1 : Int32))))
theorem pn_3 : plainName "com/example/cardstock/cardstock/Field" = true := by first | (simp [plainName, overriddenIn]; done) | decide +kernel
theorem d_prog_34_method_2_code_0 : decode prog_34_method_2_code 0 = .ok (.iload_n 0, 1) := by decide +kernel
theorem d_prog_34_method_2_code_1 : decode prog_34_method_2_code 1 = .ok (.iconst 1, 1) := by decide +kernel
theorem d_prog_34_method_2_code_2 : decode prog_34_method_2_code 2 = .ok (.if_icmp .lt 18, 3) := by decide +kernel
theorem d_prog_34_method_2_code_20 : decode prog_34_method_2_code 20 = .ok (.iconst 0, 1) := by decide +kernel
theorem d_prog_34_method_2_code_21 : decode prog_34_method_2_code 21 = .ok (.ireturn, 1) := by decide +kernel
theorem d_prog_34_method_2_code_5 : decode prog_34_method_2_code 5 = .ok (.iload_n 1, 1) := by decide +kernel
theorem d_prog_34_method_2_code_6 : decode prog_34_method_2_code 6 = .ok (.iload_n 0, 1) := by decide +kernel
theorem d_prog_34_method_2_code_7 : decode prog_34_method_2_code 7 = .ok (.if_icmp .lt 13, 3) := by decide +kernel
theorem d_prog_34_method_2_code_10 : decode prog_34_method_2_code 10 = .ok (.iload_n 1, 1) := by decide +kernel
theorem d_prog_34_method_2_code_11 : decode prog_34_method_2_code 11 = .ok (.bipush 80, 2) := by decide +kernel
theorem d_prog_34_method_2_code_13 : decode prog_34_method_2_code 13 = .ok (.if_icmp .gt 7, 3) := by decide +kernel
theorem d_prog_34_method_2_code_16 : decode prog_34_method_2_code 16 = .ok (.iconst 1, 1) := by decide +kernel
theorem d_prog_34_method_2_code_17 : decode prog_34_method_2_code 17 = .ok (.goto 4, 3) := by decide +kernel
theorem ef_6 (m : MethodId) (p0 : Int32) (p1 : Int32) : entryFrame m #[(.int p0), (.int p1)] 2 = mkF m 0 #[.val (.int p0), .val (.int p1)] [] := by first | (simp [entryFrame, mkF, argsToLocals, Value.category]; done) | rfl
def Q_rm_own_on (Z : State) (p0 : Int32) (p1 : Int32)  (h0 : Heap) (n0 : Nat) (v : Option Value) (h : Heap) (L : List Loc) : Prop := v = some (.int (own_on p0 p1)) ∧ Fr n0 L ∧ h = h0
set_option maxRecDepth 65536 in
set_option maxHeartbeats 40000000 in
theorem rm_own_on (l : Launch) (Z : State) (a0 : Array Value) (hw : ∀ d ∈ tables_1, d.before a0 Z = true) (ws : List Jvm.Cond) (p0 : Int32) (p1 : Int32)  (h0 : Heap) (n0 : Nat) (Z0 : n0 ≤ h0.size)  :
    MetFree l (⟨"com/example/cardstock/cardstock/Field", "onCard", "(II)Z"⟩ : MethodName) (head1 (Jvm.Cond.code (⟨"com/example/cardstock/cardstock/Field", "onCard", "(II)Z"⟩ : MethodName) prog_34_method_2_code 2 (some .boolean) :: ws) ({ frames := 0, cells := 0, slots := 0, locals := 0 } : Room)) (fun av_ U => av_ = #[(.int p0), (.int p1)] ∧ Z.Warmed39 U.vm ∧ U.heap = h0) (fun _ _ _ _ _ => True) (fun _ U o U' => ∃ v L, o = .returned v ∧ Q_rm_own_on Z p0 p1 h0 n0 v U'.heap L ∧ FrameEnd U o U' L ({ frames := 0, cells := 0, slots := 0, locals := 0 } : Room).cells ({ frames := 0, cells := 0, slots := 0, locals := 0 } : Room).slots) := by
  refine MetFree.of_bodySF (plainFor_of_name pn_3) hisR ?_
  intro p e s m args below meth c s₁ Bd hml0 hP hK
  obtain ⟨rfl, hZ, hh⟩ := hP
  have hx := Bd.exec
  have hby := Bd.bytes
  have hml : c.maxLocals = 2 := hml0
  have hown : s.vm.findClass "com/example/cardstock/cardstock/Field" = some m.cls := findClass_of_methodNamed Bd.named
  have hnm := (name_of_methodNamed Bd.named Bd.method).1
  have hlk : meth.locks = false := BodyLoose.notSynchronized Bd
  have X0 : Stand p l e ({ frames := 0, cells := 0, slots := 0, locals := 0 } : Room) s m #[(.int p0), (.int p1)] below meth c s₁ [] 0 0 := Stand.of_body Bd
  have e0 : s₁.heap = h0 := by rw [← hh, Bd.state]; rfl
  have N0 := Fr.nil n0
  refine own_by (fun _ kt => castTop (ef_6 m p0 p1) kt) (R := own_R s (Q_rm_own_on Z p0 p1 h0 n0) 0 0) ?_
  show own_Go p.tables e below (s₁.setTop (mkF m 0 #[.val (.int p0), .val (.int p1)] [])) _
  refine own_by (fun _ kt => XS.iloadN X0.here hx rfl (hb hby d_prog_34_method_2_code_0) rfl kt) ?_
  show own_Go p.tables e below (s₁.setTop (mkF m 1 #[.val (.int p0), .val (.int p1)] [(.int p0)])) _
  refine own_by (fun _ kt => XS.iconst X0.here hx rfl (hb hby d_prog_34_method_2_code_1) kt) ?_
  show own_Go p.tables e below (s₁.setTop (mkF m 2 #[.val (.int p0), .val (.int p1)] [(.int (1 : Int32)), (.int p0)])) _
  by_cases hc2_1 : p0 < (1 : Int32)
  · refine own_by (fun _ kt => XS.icmpYes X0.here hx rfl (pc0 := 2) (pc' := 20) rfl (hb hby d_prog_34_method_2_code_2) rfl (tlt hc2_1).1 (by decide) (by decide) kt) ?_
    show own_Go p.tables e below (s₁.setTop (mkF m 20 #[.val (.int p0), .val (.int p1)] [])) _
    refine own_by (fun _ kt => XS.iconst X0.here hx rfl (hb hby d_prog_34_method_2_code_20) kt) ?_
    show own_Go p.tables e below (s₁.setTop (mkF m 21 #[.val (.int p0), .val (.int p1)] [(.int (0 : Int32))])) _
    exact own_retN X0 hx (t := .boolean) Bd.returns hlk (by simp) (hb hby d_prog_34_method_2_code_21) ⟨by rw [own_on, if_pos hc2_1] <;> rfl, N0, e0⟩ (by decide) (by decide)
  · refine own_by (fun _ kt => XS.icmpNo X0.here hx rfl (hb hby d_prog_34_method_2_code_2) rfl (flt hc2_1).1 kt) ?_
    show own_Go p.tables e below (s₁.setTop (mkF m 5 #[.val (.int p0), .val (.int p1)] [])) _
    refine own_by (fun _ kt => XS.iloadN X0.here hx rfl (hb hby d_prog_34_method_2_code_5) rfl kt) ?_
    show own_Go p.tables e below (s₁.setTop (mkF m 6 #[.val (.int p0), .val (.int p1)] [(.int p1)])) _
    refine own_by (fun _ kt => XS.iloadN X0.here hx rfl (hb hby d_prog_34_method_2_code_6) rfl kt) ?_
    show own_Go p.tables e below (s₁.setTop (mkF m 7 #[.val (.int p0), .val (.int p1)] [(.int p0), (.int p1)])) _
    by_cases hc7_2 : p1 < p0
    · refine own_by (fun _ kt => XS.icmpYes X0.here hx rfl (pc0 := 7) (pc' := 20) rfl (hb hby d_prog_34_method_2_code_7) rfl (tlt hc7_2).1 (by decide) (by decide) kt) ?_
      show own_Go p.tables e below (s₁.setTop (mkF m 20 #[.val (.int p0), .val (.int p1)] [])) _
      refine own_by (fun _ kt => XS.iconst X0.here hx rfl (hb hby d_prog_34_method_2_code_20) kt) ?_
      show own_Go p.tables e below (s₁.setTop (mkF m 21 #[.val (.int p0), .val (.int p1)] [(.int (0 : Int32))])) _
      exact own_retN X0 hx (t := .boolean) Bd.returns hlk (by simp) (hb hby d_prog_34_method_2_code_21) ⟨by rw [own_on, if_neg hc2_1, if_pos hc7_2] <;> rfl, N0, e0⟩ (by decide) (by decide)
    · refine own_by (fun _ kt => XS.icmpNo X0.here hx rfl (hb hby d_prog_34_method_2_code_7) rfl (flt hc7_2).1 kt) ?_
      show own_Go p.tables e below (s₁.setTop (mkF m 10 #[.val (.int p0), .val (.int p1)] [])) _
      refine own_by (fun _ kt => XS.iloadN X0.here hx rfl (hb hby d_prog_34_method_2_code_10) rfl kt) ?_
      show own_Go p.tables e below (s₁.setTop (mkF m 11 #[.val (.int p0), .val (.int p1)] [(.int p1)])) _
      refine own_by (fun _ kt => XS.bipush X0.here hx rfl (hb hby d_prog_34_method_2_code_11) kt) ?_
      show own_Go p.tables e below (s₁.setTop (mkF m 13 #[.val (.int p0), .val (.int p1)] [(.int (80 : Int32)), (.int p1)])) _
      by_cases hc13_3 : (80 : Int32) < p1
      · refine own_by (fun _ kt => XS.icmpYes X0.here hx rfl (pc0 := 13) (pc' := 20) rfl (hb hby d_prog_34_method_2_code_13) rfl (tlt hc13_3).2.2.1 (by decide) (by decide) kt) ?_
        show own_Go p.tables e below (s₁.setTop (mkF m 20 #[.val (.int p0), .val (.int p1)] [])) _
        refine own_by (fun _ kt => XS.iconst X0.here hx rfl (hb hby d_prog_34_method_2_code_20) kt) ?_
        show own_Go p.tables e below (s₁.setTop (mkF m 21 #[.val (.int p0), .val (.int p1)] [(.int (0 : Int32))])) _
        exact own_retN X0 hx (t := .boolean) Bd.returns hlk (by simp) (hb hby d_prog_34_method_2_code_21) ⟨by rw [own_on, if_neg hc2_1, if_neg hc7_2, if_pos hc13_3] <;> rfl, N0, e0⟩ (by decide) (by decide)
      · refine own_by (fun _ kt => XS.icmpNo X0.here hx rfl (hb hby d_prog_34_method_2_code_13) rfl (flt hc13_3).2.2.1 kt) ?_
        show own_Go p.tables e below (s₁.setTop (mkF m 16 #[.val (.int p0), .val (.int p1)] [])) _
        refine own_by (fun _ kt => XS.iconst X0.here hx rfl (hb hby d_prog_34_method_2_code_16) kt) ?_
        show own_Go p.tables e below (s₁.setTop (mkF m 17 #[.val (.int p0), .val (.int p1)] [(.int (1 : Int32))])) _
        refine own_by (fun _ kt => XS.goto X0.here hx rfl (pc0 := 17) (pc' := 21) rfl (hb hby d_prog_34_method_2_code_17) (by decide) (by decide) kt) ?_
        show own_Go p.tables e below (s₁.setTop (mkF m 21 #[.val (.int p0), .val (.int p1)] [(.int (1 : Int32))])) _
        exact own_retN X0 hx (t := .boolean) Bd.returns hlk (by simp) (hb hby d_prog_34_method_2_code_21) ⟨by rw [own_on, if_neg hc2_1, if_neg hc7_2, if_neg hc13_3] <;> rfl, N0, e0⟩ (by decide) (by decide)
theorem d_prog_34_method_1_code_0 : decode prog_34_method_1_code 0 = .ok (.aload_n 0, 1) := by decide +kernel
theorem d_prog_34_method_1_code_1 : decode prog_34_method_1_code 1 = .ok (.invokespecial 1, 3) := by decide +kernel
theorem d_prog_34_method_1_code_4 : decode prog_34_method_1_code 4 = .ok (.iload_n 2, 1) := by decide +kernel
theorem d_prog_34_method_1_code_5 : decode prog_34_method_1_code 5 = .ok (.iload_n 3, 1) := by decide +kernel
theorem d_prog_34_method_1_code_6 : decode prog_34_method_1_code 6 = .ok (.invokestatic 7, 3) := by decide +kernel
theorem pd_4 : parseMethodDescriptor "(II)Z" = some ⟨[.int, .int], some .boolean⟩ := by decide +kernel
theorem d_prog_34_method_1_code_9 : decode prog_34_method_1_code 9 = .ok (.ifCond .ne 19, 3) := by decide +kernel
theorem d_prog_34_method_1_code_28 : decode prog_34_method_1_code 28 = .ok (.aload_n 0, 1) := by decide +kernel
theorem d_prog_34_method_1_code_29 : decode prog_34_method_1_code 29 = .ok (.aload_n 1, 1) := by decide +kernel
theorem d_prog_34_method_1_code_30 : decode prog_34_method_1_code 30 = .ok (.putfield 22, 3) := by decide +kernel
theorem d_prog_34_method_1_code_33 : decode prog_34_method_1_code 33 = .ok (.aload_n 0, 1) := by decide +kernel
theorem d_prog_34_method_1_code_34 : decode prog_34_method_1_code 34 = .ok (.iload_n 2, 1) := by decide +kernel
theorem d_prog_34_method_1_code_35 : decode prog_34_method_1_code 35 = .ok (.putfield 26, 3) := by decide +kernel
theorem d_prog_34_method_1_code_38 : decode prog_34_method_1_code 38 = .ok (.aload_n 0, 1) := by decide +kernel
theorem d_prog_34_method_1_code_39 : decode prog_34_method_1_code 39 = .ok (.iload_n 3, 1) := by decide +kernel
theorem d_prog_34_method_1_code_40 : decode prog_34_method_1_code 40 = .ok (.putfield 30, 3) := by decide +kernel
theorem d_prog_34_method_1_code_43 : decode prog_34_method_1_code 43 = .ok (.return_, 1) := by decide +kernel
theorem ef_7 (m : MethodId) (a : Addr) (b : Addr) (u1 : Int32) (u2 : Int32) : entryFrame m #[(.ref a), (.ref b), (.int u1), (.int u2)] 4 = mkF m 0 #[.val (.ref a), .val (.ref b), .val (.int u1), .val (.int u2)] [] := by first | (simp [entryFrame, mkF, argsToLocals, Value.category]; done) | rfl
def Q_rm_init (Z : State) (a : Addr) (b : Addr) (u1 : Int32) (u2 : Int32)  (h0 : Heap) (n0 : Nat) (v : Option Value) (h : Heap) (L : List Loc) : Prop := v = none ∧ Fr n0 L ∧ Keep h0 h [a] ∧ Exa Z h a "com/example/cardstock/cardstock/Field" ∧ Fld Z h a "com/example/cardstock/cardstock/Field" "from" "I" (.int u1) ∧ Fld Z h a "com/example/cardstock/cardstock/Field" "to" "I" (.int u2)
set_option maxRecDepth 65536 in
set_option maxHeartbeats 40000000 in
theorem rm_init (l : Launch) (Z : State) (a0 : Array Value) (hw : ∀ d ∈ tables_1, d.before a0 Z = true) (ws : List Jvm.Cond) (a : Addr) (b : Addr) (u1 : Int32) (u2 : Int32)  (h0 : Heap) (n0 : Nat) (Z0 : n0 ≤ h0.size) (F_key_a : Fld Z h0 a "com/example/cardstock/cardstock/Field" "key" "Ljava/lang/String;" .null) (F_from_a : Fld Z h0 a "com/example/cardstock/cardstock/Field" "from" "I" (.int (0 : Int32))) (F_to_a : Fld Z h0 a "com/example/cardstock/cardstock/Field" "to" "I" (.int (0 : Int32))) (E_a : Exa Z h0 a "com/example/cardstock/cardstock/Field") (gn_a : n0 ≤ a) (hon : ¬ own_on u1 u2 = (0 : Int32)) :
    MetFree l (⟨"com/example/cardstock/cardstock/Field", "<init>", "(Ljava/lang/String;II)V"⟩ : MethodName) (head1 (Jvm.Cond.code (⟨"com/example/cardstock/cardstock/Field", "<init>", "(Ljava/lang/String;II)V"⟩ : MethodName) prog_34_method_1_code 4 none :: ws) ({ frames := 2, cells := 0, slots := 0, locals := 24 } : Room)) (fun av_ U => av_ = #[(.ref a), (.ref b), (.int u1), (.int u2)] ∧ Z.Warmed39 U.vm ∧ U.heap = h0) (fun _ _ _ _ _ => True) (fun _ U o U' => ∃ v L, o = .returned v ∧ Q_rm_init Z a b u1 u2 h0 n0 v U'.heap L ∧ FrameEnd U o U' L ({ frames := 2, cells := 0, slots := 0, locals := 24 } : Room).cells ({ frames := 2, cells := 0, slots := 0, locals := 24 } : Room).slots) := by
  refine MetFree.of_bodySF (plainFor_of_name pn_3) hisR ?_
  intro p e s m args below meth c s₁ Bd hml0 hP hK
  obtain ⟨rfl, hZ, hh⟩ := hP
  have hx := Bd.exec
  have hby := Bd.bytes
  have hml : c.maxLocals = 4 := hml0
  have hown : s.vm.findClass "com/example/cardstock/cardstock/Field" = some m.cls := findClass_of_methodNamed Bd.named
  have hnm := (name_of_methodNamed Bd.named Bd.method).1
  have hlk : meth.locks = false := BodyLoose.notSynchronized Bd
  have X0 : Stand p l e ({ frames := 2, cells := 0, slots := 0, locals := 24 } : Room) s m #[(.ref a), (.ref b), (.int u1), (.int u2)] below meth c s₁ [] 0 0 := Stand.of_body Bd
  have e0 : s₁.heap = h0 := by rw [← hh, Bd.state]; rfl
  have N0 := Fr.nil n0
  refine own_by (fun _ kt => castTop (ef_7 m a b u1 u2) kt) (R := own_R s (Q_rm_init Z a b u1 u2 h0 n0) 0 0) ?_
  show own_Go p.tables e below (s₁.setTop (mkF m 0 #[.val (.ref a), .val (.ref b), .val (.int u1), .val (.int u2)] [])) _
  refine own_by (fun _ kt => XS.aloadN X0.here hx rfl (hb hby d_prog_34_method_1_code_0) rfl rfl kt) ?_
  show own_Go p.tables e below (s₁.setTop (mkF m 1 #[.val (.ref a), .val (.ref b), .val (.int u1), .val (.int u2)] [(.ref a)])) _
  obtain ⟨_, _, ⟨T1, L1, k1, n1⟩, -, X1, ⟨Lc1, hQ1, l1, y1, z1⟩, st1⟩ := X0.specialBack hx (y := (⟨"java/lang/Record", "<init>", "()V"⟩ : MethodName)) rfl hown (mvT hZ (hw _ (List.mem_of_getElem? (i := 33) rfl))) (mvT hZ (hw _ (List.mem_of_getElem? (i := 34) rfl))) (mvT hZ (hw _ (List.mem_of_getElem? (i := 37) rfl))) (by decide) (backOf (W := 0) (rm_record l Z a0 hw [] a  h0 n0 Z0 ) hZ (hw _ (List.mem_of_getElem? (i := 37) rfl)) (hw _ (List.mem_of_getElem? (i := 36) rfl)) (by decide) (by decide)) (g := (mkF m 1 #[.val (.ref a), .val (.ref b), .val (.int u1), .val (.int u2)] [(.ref a)])) rfl (by rw [hml]; rfl) (Steps.refl _) (a := a) (argsL := []) (rest := []) (lenOf pd_0 rfl) rfl (by show 2 * 0 + _ ≤ _; exact Nat.le_of_eq rfl) (hb hby d_prog_34_method_1_code_1) (fun _ _ => ⟨rfl, e0, (by decide : 0 + 0 ≤ _), (by decide : 0 + 0 ≤ _)⟩)
  dsimp only [Pt.U, Pt.locs, Pt.cells, Pt.slots] at X1 l1 y1 z1 st1 hQ1
  subst l1 y1 z1
  obtain ⟨rfl, Nq1, eh1⟩ := hQ1
  have N1 := Fr.app N0 Nq1
  refine own_by (fun _ kt => st1.trans kt) ?_
  show own_Go p.tables e below (T1.setTop (mkF m 4 #[.val (.ref a), .val (.ref b), .val (.int u1), .val (.int u2)] [])) _
  refine own_by (fun _ kt => XS.iloadN X1.here hx rfl (hb hby d_prog_34_method_1_code_4) rfl kt) ?_
  show own_Go p.tables e below (T1.setTop (mkF m 5 #[.val (.ref a), .val (.ref b), .val (.int u1), .val (.int u2)] [(.int u1)])) _
  refine own_by (fun _ kt => XS.iloadN X1.here hx rfl (hb hby d_prog_34_method_1_code_5) rfl kt) ?_
  show own_Go p.tables e below (T1.setTop (mkF m 6 #[.val (.ref a), .val (.ref b), .val (.int u1), .val (.int u2)] [(.int u2), (.int u1)])) _
  obtain ⟨_, _, ⟨T2, L2, k2, n2⟩, -, X2, ⟨Lc2, hQ2, l2, y2, z2⟩, st2⟩ := Jvm.LawKit.callS X1 hx (y := (⟨"com/example/cardstock/cardstock/Field", "onCard", "(II)Z"⟩ : MethodName)) hown (mvT hZ (hw _ (List.mem_of_getElem? (i := 39) rfl))) (mvT hZ (hw _ (List.mem_of_getElem? (i := 40) rfl))) (mvT hZ (hw _ (List.mem_of_getElem? (i := 29) rfl))) (mvT hZ (hw _ (List.mem_of_getElem? (i := 41) rfl))) (by decide) (backOf (W := 0) (rm_own_on l Z a0 hw [] u1 u2 h0 n0 Z0) hZ (hw _ (List.mem_of_getElem? (i := 41) rfl)) (hw _ (List.mem_of_getElem? (i := 29) rfl)) (by decide) (by decide)) (g := (mkF m 6 #[.val (.ref a), .val (.ref b), .val (.int u1), .val (.int u2)] [(.int u2), (.int u1)])) rfl (by rw [hml]; rfl) (argsL := [(.int u1), (.int u2)]) (rest := []) (lenOf pd_4 rfl) rfl (by show 2 * 0 + _ ≤ _; exact Nat.le_of_eq rfl) (hb hby d_prog_34_method_1_code_6) (fun _ _ => ⟨rfl, eh1, (by decide : 0 + 0 ≤ _), (by decide : 0 + 0 ≤ _)⟩)
  dsimp only [Pt.U, Pt.locs, Pt.cells, Pt.slots] at X2 l2 y2 z2 st2 hQ2
  subst l2 y2 z2
  obtain ⟨rfl, Nq2, eh2⟩ := hQ2
  have N2 := Fr.app N1 Nq2
  refine own_by (st2) ?_
  show own_Go p.tables e below (T2.setTop (mkF m 9 #[.val (.ref a), .val (.ref b), .val (.int u1), .val (.int u2)] [(.int (own_on u1 u2))])) _
  refine own_by (fun _ kt => XS.ifYes X2.here hx rfl (pc0 := 9) (pc' := 28) rfl (hb hby d_prog_34_method_1_code_9) rfl ((if0 _ _).trans (feq (hon : ¬ ((own_on u1 u2) = (0 : Int32)))).2) (by decide) (by decide) kt) ?_
  show own_Go p.tables e below (T2.setTop (mkF m 28 #[.val (.ref a), .val (.ref b), .val (.int u1), .val (.int u2)] [])) _
  refine own_by (fun _ kt => XS.aloadN X2.here hx rfl (hb hby d_prog_34_method_1_code_28) rfl rfl kt) ?_
  show own_Go p.tables e below (T2.setTop (mkF m 29 #[.val (.ref a), .val (.ref b), .val (.int u1), .val (.int u2)] [(.ref a)])) _
  refine own_by (fun _ kt => XS.aloadN X2.here hx rfl (hb hby d_prog_34_method_1_code_29) rfl rfl kt) ?_
  show own_Go p.tables e below (T2.setTop (mkF m 30 #[.val (.ref a), .val (.ref b), .val (.int u1), .val (.int u2)] [(.ref b), (.ref a)])) _
  obtain ⟨T3, h3, X3, e3, W3, st3⟩ := putF X2 hx hZ hown (host := "") (Or.inl (hw _ (List.mem_of_getElem? (i := 42) rfl))) Via.refl eh2 F_key_a E_a (Or.inr ⟨(hw _ (List.mem_of_getElem? (i := 43) rfl)), rfl, hnm⟩) (hw _ (List.mem_of_getElem? (i := 28) rfl)) (ty := (.object "java/lang/String")) (by decide) rfl rfl (g := (mkF m 30 #[.val (.ref a), .val (.ref b), .val (.int u1), .val (.int u2)] [(.ref b), (.ref a)])) rfl rfl (hb hby d_prog_34_method_1_code_30)
  have Fw3 := F_key_a.same W3
  have f4 := F_from_a.other W3 (Or.inr (slot_ne (Or.inr (hw _ (List.mem_of_getElem? (i := 45) rfl))) (Or.inr (hw _ (List.mem_of_getElem? (i := 43) rfl))) (by decide) (t := .int) (t' := (.object "java/lang/String")) (by decide) (by decide)))
  have f5 := F_to_a.other W3 (Or.inr (slot_ne (Or.inr (hw _ (List.mem_of_getElem? (i := 47) rfl))) (Or.inr (hw _ (List.mem_of_getElem? (i := 43) rfl))) (by decide) (t := .int) (t' := (.object "java/lang/String")) (by decide) (by decide)))
  have f6 := E_a.wr W3
  have Zs3 : n0 ≤ h3.size := by rw [W3.size]; exact Z0
  have K3 : Keep h0 h3 [a] := (Keep.refl h0 [a]).wr W3 (Or.inl (List.mem_of_getElem? (i := 0) rfl))
  have N3 := Fr.snoc X3 N2 gn_a
  refine own_by st3 ?_
  show own_Go p.tables e below (T3.setTop (mkF m 33 #[.val (.ref a), .val (.ref b), .val (.int u1), .val (.int u2)] [])) _
  refine own_by (fun _ kt => XS.aloadN X3.here hx rfl (hb hby d_prog_34_method_1_code_33) rfl rfl kt) ?_
  show own_Go p.tables e below (T3.setTop (mkF m 34 #[.val (.ref a), .val (.ref b), .val (.int u1), .val (.int u2)] [(.ref a)])) _
  refine own_by (fun _ kt => XS.iloadN X3.here hx rfl (hb hby d_prog_34_method_1_code_34) rfl kt) ?_
  show own_Go p.tables e below (T3.setTop (mkF m 35 #[.val (.ref a), .val (.ref b), .val (.int u1), .val (.int u2)] [(.int u1), (.ref a)])) _
  obtain ⟨T7, h7, X7, e7, W7, st7⟩ := putF X3 hx hZ hown (host := "") (Or.inl (hw _ (List.mem_of_getElem? (i := 44) rfl))) Via.refl e3 f4 f6 (Or.inr ⟨(hw _ (List.mem_of_getElem? (i := 45) rfl)), rfl, hnm⟩) (hw _ (List.mem_of_getElem? (i := 28) rfl)) (ty := .int) (by decide) rfl rfl (g := (mkF m 35 #[.val (.ref a), .val (.ref b), .val (.int u1), .val (.int u2)] [(.int u1), (.ref a)])) rfl rfl (hb hby d_prog_34_method_1_code_35)
  have Fw7 := f4.same W7
  have f8 := Fw3.other W7 (Or.inr (slot_ne (Or.inr (hw _ (List.mem_of_getElem? (i := 43) rfl))) (Or.inr (hw _ (List.mem_of_getElem? (i := 45) rfl))) (by decide) (t := (.object "java/lang/String")) (t' := .int) (by decide) (by decide)))
  have f9 := f5.other W7 (Or.inr (slot_ne (Or.inr (hw _ (List.mem_of_getElem? (i := 47) rfl))) (Or.inr (hw _ (List.mem_of_getElem? (i := 45) rfl))) (by decide) (t := .int) (t' := .int) (by decide) (by decide)))
  have f10 := f6.wr W7
  have Zs7 : n0 ≤ h7.size := by rw [W7.size]; exact Zs3
  have K7 : Keep h0 h7 [a] := K3.wr W7 (Or.inl (List.mem_of_getElem? (i := 0) rfl))
  have N7 := Fr.snoc X7 N3 gn_a
  refine own_by st7 ?_
  show own_Go p.tables e below (T7.setTop (mkF m 38 #[.val (.ref a), .val (.ref b), .val (.int u1), .val (.int u2)] [])) _
  refine own_by (fun _ kt => XS.aloadN X7.here hx rfl (hb hby d_prog_34_method_1_code_38) rfl rfl kt) ?_
  show own_Go p.tables e below (T7.setTop (mkF m 39 #[.val (.ref a), .val (.ref b), .val (.int u1), .val (.int u2)] [(.ref a)])) _
  refine own_by (fun _ kt => XS.iloadN X7.here hx rfl (hb hby d_prog_34_method_1_code_39) rfl kt) ?_
  show own_Go p.tables e below (T7.setTop (mkF m 40 #[.val (.ref a), .val (.ref b), .val (.int u1), .val (.int u2)] [(.int u2), (.ref a)])) _
  obtain ⟨T11, h11, X11, e11, W11, st11⟩ := putF X7 hx hZ hown (host := "") (Or.inl (hw _ (List.mem_of_getElem? (i := 46) rfl))) Via.refl e7 f9 f10 (Or.inr ⟨(hw _ (List.mem_of_getElem? (i := 47) rfl)), rfl, hnm⟩) (hw _ (List.mem_of_getElem? (i := 28) rfl)) (ty := .int) (by decide) rfl rfl (g := (mkF m 40 #[.val (.ref a), .val (.ref b), .val (.int u1), .val (.int u2)] [(.int u2), (.ref a)])) rfl rfl (hb hby d_prog_34_method_1_code_40)
  have Fw11 := f9.same W11
  have f12 := f8.other W11 (Or.inr (slot_ne (Or.inr (hw _ (List.mem_of_getElem? (i := 43) rfl))) (Or.inr (hw _ (List.mem_of_getElem? (i := 47) rfl))) (by decide) (t := (.object "java/lang/String")) (t' := .int) (by decide) (by decide)))
  have f13 := Fw7.other W11 (Or.inr (slot_ne (Or.inr (hw _ (List.mem_of_getElem? (i := 45) rfl))) (Or.inr (hw _ (List.mem_of_getElem? (i := 47) rfl))) (by decide) (t := .int) (t' := .int) (by decide) (by decide)))
  have f14 := f10.wr W11
  have Zs11 : n0 ≤ h11.size := by rw [W11.size]; exact Zs7
  have K11 : Keep h0 h11 [a] := K7.wr W11 (Or.inl (List.mem_of_getElem? (i := 0) rfl))
  have N11 := Fr.snoc X11 N7 gn_a
  refine own_by st11 ?_
  show own_Go p.tables e below (T11.setTop (mkF m 43 #[.val (.ref a), .val (.ref b), .val (.int u1), .val (.int u2)] [])) _
  exact own_retV X11 hx Bd.returns hlk (hb hby d_prog_34_method_1_code_43) (by rw [e11]; exact ⟨rfl, N11, K11, f14, f13, Fw11⟩) (by decide) (by decide)
theorem d_prog_34_method_4_code_0 : decode prog_34_method_4_code 0 = .ok (.aload_n 0, 1) := by decide +kernel
theorem d_prog_34_method_4_code_1 : decode prog_34_method_4_code 1 = .ok (.getfield 30, 3) := by decide +kernel
theorem d_prog_34_method_4_code_4 : decode prog_34_method_4_code 4 = .ok (.aload_n 0, 1) := by decide +kernel
theorem d_prog_34_method_4_code_5 : decode prog_34_method_4_code 5 = .ok (.getfield 26, 3) := by decide +kernel
theorem d_prog_34_method_4_code_8 : decode prog_34_method_4_code 8 = .ok (.isub, 1) := by decide +kernel
theorem d_prog_34_method_4_code_9 : decode prog_34_method_4_code 9 = .ok (.iconst 1, 1) := by decide +kernel
theorem d_prog_34_method_4_code_10 : decode prog_34_method_4_code 10 = .ok (.iadd, 1) := by decide +kernel
theorem d_prog_34_method_4_code_11 : decode prog_34_method_4_code 11 = .ok (.ireturn, 1) := by decide +kernel
theorem ef_8 (m : MethodId) (a : Addr) : entryFrame m #[(.ref a)] 1 = mkF m 0 #[.val (.ref a)] [] := by first | (simp [entryFrame, mkF, argsToLocals, Value.category]; done) | rfl
def Q_rm_width (Z : State) (a : Addr) (u2 : Int32) (u1 : Int32) (h0 : Heap) (n0 : Nat) (v : Option Value) (h : Heap) (L : List Loc) : Prop := v = some (.int ((u2 - u1) + (1 : Int32))) ∧ Fr n0 L ∧ h = h0
set_option maxRecDepth 65536 in
set_option maxHeartbeats 40000000 in
theorem rm_width (l : Launch) (Z : State) (a0 : Array Value) (hw : ∀ d ∈ tables_1, d.before a0 Z = true) (ws : List Jvm.Cond) (a : Addr) (u2 : Int32) (u1 : Int32) (h0 : Heap) (n0 : Nat) (Z0 : n0 ≤ h0.size) (F_to_a : Fld Z h0 a "com/example/cardstock/cardstock/Field" "to" "I" (.int u2)) (F_from_a : Fld Z h0 a "com/example/cardstock/cardstock/Field" "from" "I" (.int u1)) :
    MetFree l (⟨"com/example/cardstock/cardstock/Field", "width", "()I"⟩ : MethodName) (head1 (Jvm.Cond.code (⟨"com/example/cardstock/cardstock/Field", "width", "()I"⟩ : MethodName) prog_34_method_4_code 1 (some .int) :: ws) ({ frames := 0, cells := 0, slots := 0, locals := 0 } : Room)) (fun av_ U => av_ = #[(.ref a)] ∧ Z.Warmed39 U.vm ∧ U.heap = h0) (fun _ _ _ _ _ => True) (fun _ U o U' => ∃ v L, o = .returned v ∧ Q_rm_width Z a u2 u1 h0 n0 v U'.heap L ∧ FrameEnd U o U' L ({ frames := 0, cells := 0, slots := 0, locals := 0 } : Room).cells ({ frames := 0, cells := 0, slots := 0, locals := 0 } : Room).slots) := by
  refine MetFree.of_bodySF (plainFor_of_name pn_3) hisR ?_
  intro p e s m args below meth c s₁ Bd hml0 hP hK
  obtain ⟨rfl, hZ, hh⟩ := hP
  have hx := Bd.exec
  have hby := Bd.bytes
  have hml : c.maxLocals = 1 := hml0
  have hown : s.vm.findClass "com/example/cardstock/cardstock/Field" = some m.cls := findClass_of_methodNamed Bd.named
  have hnm := (name_of_methodNamed Bd.named Bd.method).1
  have hlk : meth.locks = false := BodyLoose.notSynchronized Bd
  have X0 : Stand p l e ({ frames := 0, cells := 0, slots := 0, locals := 0 } : Room) s m #[(.ref a)] below meth c s₁ [] 0 0 := Stand.of_body Bd
  have e0 : s₁.heap = h0 := by rw [← hh, Bd.state]; rfl
  have N0 := Fr.nil n0
  refine own_by (fun _ kt => castTop (ef_8 m a) kt) (R := own_R s (Q_rm_width Z a u2 u1 h0 n0) 0 0) ?_
  show own_Go p.tables e below (s₁.setTop (mkF m 0 #[.val (.ref a)] [])) _
  refine own_by (fun _ kt => XS.aloadN X0.here hx rfl (hb hby d_prog_34_method_4_code_0) rfl rfl kt) ?_
  show own_Go p.tables e below (s₁.setTop (mkF m 1 #[.val (.ref a)] [(.ref a)])) _
  obtain ⟨T1, X1, e1, st1⟩ := getF X0 hx hZ hown (host := "") (Or.inl (hw _ (List.mem_of_getElem? (i := 46) rfl))) Via.refl e0 F_to_a (g := (mkF m 1 #[.val (.ref a)] [(.ref a)])) rfl rfl (hb hby d_prog_34_method_4_code_1)
  refine own_by st1 ?_
  show own_Go p.tables e below (T1.setTop (mkF m 4 #[.val (.ref a)] [(.int u2)])) _
  refine own_by (fun _ kt => XS.aloadN X1.here hx rfl (hb hby d_prog_34_method_4_code_4) rfl rfl kt) ?_
  show own_Go p.tables e below (T1.setTop (mkF m 5 #[.val (.ref a)] [(.ref a), (.int u2)])) _
  obtain ⟨T2, X2, e2, st2⟩ := getF X1 hx hZ hown (host := "") (Or.inl (hw _ (List.mem_of_getElem? (i := 44) rfl))) Via.refl e1 F_from_a (g := (mkF m 5 #[.val (.ref a)] [(.ref a), (.int u2)])) rfl rfl (hb hby d_prog_34_method_4_code_5)
  refine own_by st2 ?_
  show own_Go p.tables e below (T2.setTop (mkF m 8 #[.val (.ref a)] [(.int u1), (.int u2)])) _
  refine own_by (fun _ kt => XS.isub X2.here hx rfl (hb hby d_prog_34_method_4_code_8) rfl kt) ?_
  show own_Go p.tables e below (T2.setTop (mkF m 9 #[.val (.ref a)] [(.int (u2 - u1))])) _
  refine own_by (fun _ kt => XS.iconst X2.here hx rfl (hb hby d_prog_34_method_4_code_9) kt) ?_
  show own_Go p.tables e below (T2.setTop (mkF m 10 #[.val (.ref a)] [(.int (1 : Int32)), (.int (u2 - u1))])) _
  refine own_by (fun _ kt => XS.iadd X2.here hx rfl (hb hby d_prog_34_method_4_code_10) rfl kt) ?_
  show own_Go p.tables e below (T2.setTop (mkF m 11 #[.val (.ref a)] [(.int ((u2 - u1) + (1 : Int32)))])) _
  exact own_retI X2 hx Bd.returns hlk (hb hby d_prog_34_method_4_code_11) ⟨rfl, N0, e2⟩ (by decide) (by decide)
theorem own_add32 {a b : Int32} (h1 : -2147483648 ≤ a.toInt + b.toInt) (h2 : a.toInt + b.toInt < 2147483648) : (a + b).toInt = a.toInt + b.toInt := by
  rw [Int32.toInt_add]; exact own_bm32 h1 h2
theorem own_sub32 {a b : Int32} (h1 : -2147483648 ≤ a.toInt - b.toInt) (h2 : a.toInt - b.toInt < 2147483648) : (a - b).toInt = a.toInt - b.toInt := by
  rw [Int32.toInt_sub]; exact own_bm32 h1 h2
theorem own_e1 : (1 : Int32).toInt = 1 := by decide
theorem own_e80 : (80 : Int32).toInt = 80 := by decide
theorem own_e81 : (81 : Int32).toInt = 81 := by decide
theorem own_from (p : Int32) : 1 ≤ ((1 : Int32) + (p &&& 2147483647) % 80).toInt ∧ ((1 : Int32) + (p &&& 2147483647) % 80).toInt ≤ 80 := by
  have h := own_rem31 p 80 (by decide)
  rw [own_e80] at h
  rw [own_add32] <;> rw [own_e1] <;> omega
theorem own_sub81 (f : Int32) (h : 1 ≤ f.toInt ∧ f.toInt ≤ 80) : ((81 : Int32) - f).toInt = 81 - f.toInt := by
  rw [own_sub32] <;> rw [own_e81] <;> omega
theorem own_nz (f : Int32) (h : 1 ≤ f.toInt ∧ f.toInt ≤ 80) : ¬ (81 : Int32) - f = 0 := by
  intro q
  have := own_sub81 f h
  rw [q, show (0 : Int32).toInt = 0 from by decide] at this
  omega
theorem own_to (p f : Int32) (h : 1 ≤ f.toInt ∧ f.toInt ≤ 80) : f.toInt ≤ (f + (p &&& 2147483647) % ((81 : Int32) - f)).toInt ∧ (f + (p &&& 2147483647) % ((81 : Int32) - f)).toInt ≤ 80 := by
  have q := own_rem31 p ((81 : Int32) - f) (by rw [own_sub81 f h]; omega)
  rw [own_sub81 f h] at q
  rw [own_add32] <;> omega
theorem own_onC (f t : Int32) (h1 : 1 ≤ f.toInt) (h2 : f.toInt ≤ t.toInt) (h3 : t.toInt ≤ 80) : ¬ own_on f t = 0 := by
  unfold own_on
  rw [if_neg, if_neg, if_neg]
  · decide
  · rw [Int32.lt_iff_toInt_lt, own_e80]; omega
  · rw [Int32.lt_iff_toInt_lt]; omega
  · rw [Int32.lt_iff_toInt_lt, own_e1]; omega
theorem own_w (f t : Int32) (h1 : 1 ≤ f.toInt) (h2 : f.toInt ≤ t.toInt) (h3 : t.toInt ≤ 80) : (t - f + 1).toInt = t.toInt - f.toInt + 1 := by
  have a : (t - f).toInt = t.toInt - f.toInt := by rw [own_sub32] <;> omega
  rw [own_add32] <;> rw [a, own_e1] <;> omega
theorem own_w1 (f t : Int32) (h1 : 1 ≤ f.toInt) (h2 : f.toInt ≤ t.toInt) (h3 : t.toInt ≤ 80) : ¬ t - f + 1 < 1 := by
  rw [Int32.lt_iff_toInt_lt, own_w f t h1 h2 h3, own_e1]; omega
theorem own_w2 (f t : Int32) (h1 : 1 ≤ f.toInt) (h2 : f.toInt ≤ t.toInt) (h3 : t.toInt ≤ 80) : ¬ 80 < t - f + 1 := by
  rw [Int32.lt_iff_toInt_lt, own_w f t h1 h2 h3, own_e80]; omega
theorem own_w3 (f : Int32) (h1 : 1 ≤ f.toInt) (h3 : f.toInt ≤ 80) : f - f + 1 = 1 := by
  rw [← Int32.toInt_inj, own_w f f h1 (Int.le_refl _) h3, own_e1]; omega
theorem own_nz2 (f t : Int32) (h : f < t) : ¬ t - f = 0 := by
  intro q
  rw [Int32.lt_iff_toInt_lt] at h
  have hb : t = f := by
    have : t - f + f = 0 + f := by rw [q]
    simpa using this
  subst hb; omega
theorem own_k (p f t : Int32) (h1 : 1 ≤ f.toInt) (h2 : f < t) (h3 : t.toInt ≤ 80) : f.toInt ≤ (f + (p &&& 2147483647) % (t - f)).toInt ∧ (f + (p &&& 2147483647) % (t - f)).toInt < t.toInt := by
  rw [Int32.lt_iff_toInt_lt] at h2
  have a : (t - f).toInt = t.toInt - f.toInt := by rw [own_sub32] <;> omega
  have q := own_rem31 p (t - f) (by rw [a]; omega)
  rw [a] at q
  rw [own_add32] <;> omega
theorem own_k1 (k : Int32) (h : k.toInt < 80) (h' : 1 ≤ k.toInt) : (k + 1).toInt = k.toInt + 1 := by
  rw [own_add32] <;> rw [own_e1] <;> omega
theorem own_sum (f k t : Int32) (h1 : 1 ≤ f.toInt) (h2 : f.toInt ≤ k.toInt) (h3 : k.toInt < t.toInt) (h4 : t.toInt ≤ 80) : (k - f + 1) + (t - (k + 1) + 1) = t - f + 1 := by
  have e := own_k1 k (by omega) (by omega)
  rw [← Int32.toInt_inj, own_w f t (by omega) (by omega) h4]
  rw [own_add32] <;> rw [own_w f k (by omega) h2 (by omega), own_w (k + 1) t (by omega) (by omega) h4] <;> omega
theorem pn_4 : plainName "com/example/cardstock/cardstock/FieldWidthPinLaw" = true := by first | (simp [plainName, overriddenIn]; done) | decide +kernel
theorem pd_5 : parseMethodDescriptor "(C)Ljava/lang/String;" = some ⟨[.char], some (.object "java/lang/String")⟩ := by decide +kernel
theorem pd_6 : parseMethodDescriptor "(Ljava/lang/String;II)V" = some ⟨[(.object "java/lang/String"), .int, .int], none⟩ := by decide +kernel
theorem pd_7 : parseMethodDescriptor "()I" = some ⟨[], some .int⟩ := by decide +kernel
theorem ef_9 (m : MethodId) (p0 : Int32) (p1 : Int32) (p2 : Int32) (p3 : Int32) : entryFrame m #[(.int p0), (.int p1), (.int p2), (.int p3)] maxLocals = mkF m 0 #[.val (.int p0), .val (.int p1), .val (.int p2), .val (.int p3), .unset, .unset, .unset, .unset, .unset, .unset, .unset, .unset, .unset, .unset] [] := by first | (simp [entryFrame, mkF, argsToLocals, Value.category, maxLocals]; done) | rfl
def Q_rm_law (Z : State) (p0 : Int32) (p1 : Int32) (p2 : Int32) (p3 : Int32) (cs : Int32) (h0 : Heap) (n0 : Nat) (v : Option Value) (h : Heap) (L : List Loc) : Prop := v = some (.int (1 : Int32)) ∧ Fr n0 L
set_option maxRecDepth 65536 in
set_option maxHeartbeats 40000000 in
theorem rm_law (l : Launch) (Z : State) (a0 : Array Value) (hw : ∀ d ∈ tables_1, d.before a0 Z = true) (ws : List Jvm.Cond) (p0 : Int32) (p1 : Int32) (p2 : Int32) (p3 : Int32) (cs : Int32) (h0 : Heap) (n0 : Nat) (Z0 : n0 ≤ h0.size) (S_CS : Sta Z h0 "java/lang/String" "COMPACT_STRINGS" "Z" (.int cs)) (hcs : ¬ cs = (0 : Int32)) :
    MetFree l x (head1 (Jvm.Cond.code x code maxLocals ret :: ws) room_1) (fun av_ U => av_ = #[(.int p0), (.int p1), (.int p2), (.int p3)] ∧ Z.Warmed39 U.vm ∧ U.heap = h0) (fun _ _ _ _ _ => True) (fun _ U o U' => ∃ v L, o = .returned v ∧ Q_rm_law Z p0 p1 p2 p3 cs h0 n0 v U'.heap L ∧ FrameEnd U o U' L 24 128) := by
  refine MetFree.of_bodySF (plainFor_of_name pn_4) hisR ?_
  intro p e s m args below meth c s₁ Bd hml0 hP hK
  obtain ⟨rfl, hZ, hh⟩ := hP
  have hx := Bd.exec
  have hby := Bd.bytes
  have hml : c.maxLocals = 14 := hml0
  have hown : s.vm.findClass "com/example/cardstock/cardstock/FieldWidthPinLaw" = some m.cls := findClass_of_methodNamed Bd.named
  have hnm := (name_of_methodNamed Bd.named Bd.method).1
  have hlk : meth.locks = false := BodyLoose.notSynchronized Bd
  have X0 : Stand p l e room_1 s m #[(.int p0), (.int p1), (.int p2), (.int p3)] below meth c s₁ [] 0 0 := Stand.of_body Bd
  have e0 : s₁.heap = h0 := by rw [← hh, Bd.state]; rfl
  have N0 := Fr.nil n0
  refine own_by (fun _ kt => castTop (ef_9 m p0 p1 p2 p3) kt) (R := own_R s (Q_rm_law Z p0 p1 p2 p3 cs h0 n0) 24 128) ?_
  show own_Go p.tables e below (s₁.setTop (mkF m 0 #[.val (.int p0), .val (.int p1), .val (.int p2), .val (.int p3), .unset, .unset, .unset, .unset, .unset, .unset, .unset, .unset, .unset, .unset] [])) _
  refine own_by (fun _ kt => XS.iconst X0.here hx rfl (hb hby at_0) kt) ?_
  show own_Go p.tables e below (s₁.setTop (mkF m 1 #[.val (.int p0), .val (.int p1), .val (.int p2), .val (.int p3), .unset, .unset, .unset, .unset, .unset, .unset, .unset, .unset, .unset, .unset] [(.int (1 : Int32))])) _
  refine own_by (fun _ kt => XS.iloadN X0.here hx rfl (hb hby at_1) rfl kt) ?_
  show own_Go p.tables e below (s₁.setTop (mkF m 2 #[.val (.int p0), .val (.int p1), .val (.int p2), .val (.int p3), .unset, .unset, .unset, .unset, .unset, .unset, .unset, .unset, .unset, .unset] [(.int p0), (.int (1 : Int32))])) _
  refine own_by (X0.ldcInt hx hown (mvT hZ (hw _ (List.mem_of_getElem? (i := 0) rfl))) (g := (mkF m 2 #[.val (.int p0), .val (.int p1), .val (.int p2), .val (.int p3), .unset, .unset, .unset, .unset, .unset, .unset, .unset, .unset, .unset, .unset] [(.int p0), (.int (1 : Int32))])) rfl (hb hby at_2)) ?_
  show own_Go p.tables e below (s₁.setTop (mkF m 4 #[.val (.int p0), .val (.int p1), .val (.int p2), .val (.int p3), .unset, .unset, .unset, .unset, .unset, .unset, .unset, .unset, .unset, .unset] [(.int (2147483647 : Int32)), (.int p0), (.int (1 : Int32))])) _
  refine own_by (fun _ kt => XS.iand X0.here hx rfl (hb hby at_4) rfl kt) ?_
  show own_Go p.tables e below (s₁.setTop (mkF m 5 #[.val (.int p0), .val (.int p1), .val (.int p2), .val (.int p3), .unset, .unset, .unset, .unset, .unset, .unset, .unset, .unset, .unset, .unset] [(.int (p0 &&& (2147483647 : Int32))), (.int (1 : Int32))])) _
  refine own_by (fun _ kt => XS.bipush X0.here hx rfl (hb hby at_5) kt) ?_
  show own_Go p.tables e below (s₁.setTop (mkF m 7 #[.val (.int p0), .val (.int p1), .val (.int p2), .val (.int p3), .unset, .unset, .unset, .unset, .unset, .unset, .unset, .unset, .unset, .unset] [(.int (80 : Int32)), (.int (p0 &&& (2147483647 : Int32))), (.int (1 : Int32))])) _
  refine own_by (fun _ kt => iremM X0 hx rfl (hb hby at_7) rfl (by decide) kt) ?_
  show own_Go p.tables e below (s₁.setTop (mkF m 8 #[.val (.int p0), .val (.int p1), .val (.int p2), .val (.int p3), .unset, .unset, .unset, .unset, .unset, .unset, .unset, .unset, .unset, .unset] [(.int ((p0 &&& (2147483647 : Int32)) % (80 : Int32))), (.int (1 : Int32))])) _
  refine own_by (fun _ kt => XS.iadd X0.here hx rfl (hb hby at_8) rfl kt) ?_
  show own_Go p.tables e below (s₁.setTop (mkF m 9 #[.val (.int p0), .val (.int p1), .val (.int p2), .val (.int p3), .unset, .unset, .unset, .unset, .unset, .unset, .unset, .unset, .unset, .unset] [(.int ((1 : Int32) + ((p0 &&& (2147483647 : Int32)) % (80 : Int32))))])) _
  have h_ff := own_from p0
  generalize ((1 : Int32) + ((p0 &&& (2147483647 : Int32)) % (80 : Int32))) = ff at h_ff ⊢
  show own_Go p.tables e below (s₁.setTop (mkF m 9 #[.val (.int p0), .val (.int p1), .val (.int p2), .val (.int p3), .unset, .unset, .unset, .unset, .unset, .unset, .unset, .unset, .unset, .unset] [(.int ff)])) _
  refine own_by (fun _ kt => XS.istore X0.here hx rfl (hb hby at_9) rfl (l' := #[.val (.int p0), .val (.int p1), .val (.int p2), .val (.int p3), .val (.int ff), .unset, .unset, .unset, .unset, .unset, .unset, .unset, .unset, .unset]) rfl kt) ?_
  show own_Go p.tables e below (s₁.setTop (mkF m 11 #[.val (.int p0), .val (.int p1), .val (.int p2), .val (.int p3), .val (.int ff), .unset, .unset, .unset, .unset, .unset, .unset, .unset, .unset, .unset] [])) _
  refine own_by (fun _ kt => XS.iload X0.here hx rfl (hb hby at_11) rfl kt) ?_
  show own_Go p.tables e below (s₁.setTop (mkF m 13 #[.val (.int p0), .val (.int p1), .val (.int p2), .val (.int p3), .val (.int ff), .unset, .unset, .unset, .unset, .unset, .unset, .unset, .unset, .unset] [(.int ff)])) _
  refine own_by (fun _ kt => XS.iloadN X0.here hx rfl (hb hby at_13) rfl kt) ?_
  show own_Go p.tables e below (s₁.setTop (mkF m 14 #[.val (.int p0), .val (.int p1), .val (.int p2), .val (.int p3), .val (.int ff), .unset, .unset, .unset, .unset, .unset, .unset, .unset, .unset, .unset] [(.int p1), (.int ff)])) _
  refine own_by (X0.ldcInt hx hown (mvT hZ (hw _ (List.mem_of_getElem? (i := 0) rfl))) (g := (mkF m 14 #[.val (.int p0), .val (.int p1), .val (.int p2), .val (.int p3), .val (.int ff), .unset, .unset, .unset, .unset, .unset, .unset, .unset, .unset, .unset] [(.int p1), (.int ff)])) rfl (hb hby at_14)) ?_
  show own_Go p.tables e below (s₁.setTop (mkF m 16 #[.val (.int p0), .val (.int p1), .val (.int p2), .val (.int p3), .val (.int ff), .unset, .unset, .unset, .unset, .unset, .unset, .unset, .unset, .unset] [(.int (2147483647 : Int32)), (.int p1), (.int ff)])) _
  refine own_by (fun _ kt => XS.iand X0.here hx rfl (hb hby at_16) rfl kt) ?_
  show own_Go p.tables e below (s₁.setTop (mkF m 17 #[.val (.int p0), .val (.int p1), .val (.int p2), .val (.int p3), .val (.int ff), .unset, .unset, .unset, .unset, .unset, .unset, .unset, .unset, .unset] [(.int (p1 &&& (2147483647 : Int32))), (.int ff)])) _
  refine own_by (fun _ kt => XS.bipush X0.here hx rfl (hb hby at_17) kt) ?_
  show own_Go p.tables e below (s₁.setTop (mkF m 19 #[.val (.int p0), .val (.int p1), .val (.int p2), .val (.int p3), .val (.int ff), .unset, .unset, .unset, .unset, .unset, .unset, .unset, .unset, .unset] [(.int (81 : Int32)), (.int (p1 &&& (2147483647 : Int32))), (.int ff)])) _
  refine own_by (fun _ kt => XS.iload X0.here hx rfl (hb hby at_19) rfl kt) ?_
  show own_Go p.tables e below (s₁.setTop (mkF m 21 #[.val (.int p0), .val (.int p1), .val (.int p2), .val (.int p3), .val (.int ff), .unset, .unset, .unset, .unset, .unset, .unset, .unset, .unset, .unset] [(.int ff), (.int (81 : Int32)), (.int (p1 &&& (2147483647 : Int32))), (.int ff)])) _
  refine own_by (fun _ kt => XS.isub X0.here hx rfl (hb hby at_21) rfl kt) ?_
  show own_Go p.tables e below (s₁.setTop (mkF m 22 #[.val (.int p0), .val (.int p1), .val (.int p2), .val (.int p3), .val (.int ff), .unset, .unset, .unset, .unset, .unset, .unset, .unset, .unset, .unset] [(.int ((81 : Int32) - ff)), (.int (p1 &&& (2147483647 : Int32))), (.int ff)])) _
  refine own_by (fun _ kt => iremM X0 hx rfl (hb hby at_22) rfl (own_nz _ h_ff) kt) ?_
  show own_Go p.tables e below (s₁.setTop (mkF m 23 #[.val (.int p0), .val (.int p1), .val (.int p2), .val (.int p3), .val (.int ff), .unset, .unset, .unset, .unset, .unset, .unset, .unset, .unset, .unset] [(.int ((p1 &&& (2147483647 : Int32)) % ((81 : Int32) - ff))), (.int ff)])) _
  refine own_by (fun _ kt => XS.iadd X0.here hx rfl (hb hby at_23) rfl kt) ?_
  show own_Go p.tables e below (s₁.setTop (mkF m 24 #[.val (.int p0), .val (.int p1), .val (.int p2), .val (.int p3), .val (.int ff), .unset, .unset, .unset, .unset, .unset, .unset, .unset, .unset, .unset] [(.int (ff + ((p1 &&& (2147483647 : Int32)) % ((81 : Int32) - ff))))])) _
  have h_tt := own_to p1 ff h_ff
  generalize (ff + ((p1 &&& (2147483647 : Int32)) % ((81 : Int32) - ff))) = tt at h_tt ⊢
  show own_Go p.tables e below (s₁.setTop (mkF m 24 #[.val (.int p0), .val (.int p1), .val (.int p2), .val (.int p3), .val (.int ff), .unset, .unset, .unset, .unset, .unset, .unset, .unset, .unset, .unset] [(.int tt)])) _
  refine own_by (fun _ kt => XS.istore X0.here hx rfl (hb hby at_24) rfl (l' := #[.val (.int p0), .val (.int p1), .val (.int p2), .val (.int p3), .val (.int ff), .val (.int tt), .unset, .unset, .unset, .unset, .unset, .unset, .unset, .unset]) rfl kt) ?_
  show own_Go p.tables e below (s₁.setTop (mkF m 26 #[.val (.int p0), .val (.int p1), .val (.int p2), .val (.int p3), .val (.int ff), .val (.int tt), .unset, .unset, .unset, .unset, .unset, .unset, .unset, .unset] [])) _
  refine own_by (fun _ kt => XS.iloadN X0.here hx rfl (hb hby at_26) rfl kt) ?_
  show own_Go p.tables e below (s₁.setTop (mkF m 27 #[.val (.int p0), .val (.int p1), .val (.int p2), .val (.int p3), .val (.int ff), .val (.int tt), .unset, .unset, .unset, .unset, .unset, .unset, .unset, .unset] [(.int p3)])) _
  refine own_by (fun _ kt => XS.sipush X0.here hx rfl (hb hby at_27) kt) ?_
  show own_Go p.tables e below (s₁.setTop (mkF m 30 #[.val (.int p0), .val (.int p1), .val (.int p2), .val (.int p3), .val (.int ff), .val (.int tt), .unset, .unset, .unset, .unset, .unset, .unset, .unset, .unset] [(.int (255 : Int32)), (.int p3)])) _
  refine own_by (fun _ kt => XS.iand X0.here hx rfl (hb hby at_30) rfl kt) ?_
  show own_Go p.tables e below (s₁.setTop (mkF m 31 #[.val (.int p0), .val (.int p1), .val (.int p2), .val (.int p3), .val (.int ff), .val (.int tt), .unset, .unset, .unset, .unset, .unset, .unset, .unset, .unset] [(.int (p3 &&& (255 : Int32)))])) _
  refine own_by (fun _ kt => XS.i2c X0.here hx rfl (hb hby at_31) rfl kt) ?_
  show own_Go p.tables e below (s₁.setTop (mkF m 32 #[.val (.int p0), .val (.int p1), .val (.int p2), .val (.int p3), .val (.int ff), .val (.int tt), .unset, .unset, .unset, .unset, .unset, .unset, .unset, .unset] [(.int ((p3 &&& (255 : Int32)).toUInt32.toUInt16.toUInt32.toInt32))])) _
  obtain ⟨_, _, ⟨T1, L1, k1, n1⟩, -, X1, ⟨Lc1, hQ1, l1, y1, z1⟩, st1⟩ := Jvm.LawKit.callS X0 hx (y := (⟨"java/lang/String", "valueOf", "(C)Ljava/lang/String;"⟩ : MethodName)) hown (mvT hZ (hw _ (List.mem_of_getElem? (i := 1) rfl))) (mvT hZ (hw _ (List.mem_of_getElem? (i := 2) rfl))) (mvT hZ (hw _ (List.mem_of_getElem? (i := 3) rfl))) (mvT hZ (hw _ (List.mem_of_getElem? (i := 4) rfl))) (by decide) (backOf (W := 0) (rm_valueOf l Z a0 hw [] ((p3 &&& (255 : Int32)).toUInt32.toUInt16.toUInt32.toInt32) (cs) h0 n0 Z0 S_CS hcs (own_chr _)) hZ (hw _ (List.mem_of_getElem? (i := 4) rfl)) (hw _ (List.mem_of_getElem? (i := 3) rfl)) (by decide) (by decide)) (g := (mkF m 32 #[.val (.int p0), .val (.int p1), .val (.int p2), .val (.int p3), .val (.int ff), .val (.int tt), .unset, .unset, .unset, .unset, .unset, .unset, .unset, .unset] [(.int ((p3 &&& (255 : Int32)).toUInt32.toUInt16.toUInt32.toInt32))])) rfl (by rw [hml]; rfl) (argsL := [(.int ((p3 &&& (255 : Int32)).toUInt32.toUInt16.toUInt32.toInt32))]) (rest := []) (lenOf pd_5 rfl) rfl (by show 2 * 0 + _ ≤ _; exact Nat.le_of_eq rfl) (hb hby at_32) (fun _ _ => ⟨rfl, e0, (by decide : 0 + 2 ≤ _), (by decide : 0 + 5 ≤ _)⟩)
  dsimp only [Pt.U, Pt.locs, Pt.cells, Pt.slots] at X1 l1 y1 z1 st1 hQ1
  subst l1 y1 z1
  obtain ⟨b1, rfl, Nq1, K1, gn_b1, szq_b1⟩ := hQ1
  have f2 := own_sta_keep S_CS K1
  have Zs1 : n0 ≤ T1.heap.size := Nat.le_trans Z0 K1.1
  have N1 := Fr.app N0 Nq1
  refine own_by (st1) ?_
  show own_Go p.tables e below (T1.setTop (mkF m 35 #[.val (.int p0), .val (.int p1), .val (.int p2), .val (.int p3), .val (.int ff), .val (.int tt), .unset, .unset, .unset, .unset, .unset, .unset, .unset, .unset] [(.ref b1)])) _
  refine own_by (fun _ kt => XS.astore X1.here hx rfl (hb hby at_35) rfl rfl (l' := #[.val (.int p0), .val (.int p1), .val (.int p2), .val (.int p3), .val (.int ff), .val (.int tt), .val (.ref b1), .unset, .unset, .unset, .unset, .unset, .unset, .unset]) rfl kt) ?_
  show own_Go p.tables e below (T1.setTop (mkF m 37 #[.val (.int p0), .val (.int p1), .val (.int p2), .val (.int p3), .val (.int ff), .val (.int tt), .val (.ref b1), .unset, .unset, .unset, .unset, .unset, .unset, .unset] [])) _
  obtain ⟨T3, h3, X3, e3, E3, A3, D3, -, st3⟩ := newO X1 hx hZ hown (hw _ (List.mem_of_getElem? (i := 27) rfl)) (hw _ (List.mem_of_getElem? (i := 28) rfl)) (hw _ (List.mem_of_getElem? (i := 29) rfl)) rfl (g := (mkF m 37 #[.val (.int p0), .val (.int p1), .val (.int p2), .val (.int p3), .val (.int ff), .val (.int tt), .val (.ref b1), .unset, .unset, .unset, .unset, .unset, .unset, .unset] [])) rfl (hb hby at_37) (by decide) (by decide)
  obtain ⟨b3, g3⟩ : ∃ z, z = T1.heap.size := ⟨_, rfl⟩
  rw [← g3] at A3 D3 st3
  have gn_b3 : n0 ≤ b3 := Nat.le_trans Zs1 (Nat.le_of_eq g3.symm)
  have f4 := f2.ext E3
  have Zs3 : n0 ≤ h3.size := Nat.le_trans Zs1 E3.1
  have f5 : Fld Z h3 b3 "com/example/cardstock/cardstock/Field" "key" "Ljava/lang/String;" .null := D3 (Or.inr (hw _ (List.mem_of_getElem? (i := 43) rfl))) (ty := (.object "java/lang/String")) (by decide)
  have f6 : Fld Z h3 b3 "com/example/cardstock/cardstock/Field" "from" "I" (.int (0 : Int32)) := D3 (Or.inr (hw _ (List.mem_of_getElem? (i := 45) rfl))) (ty := .int) (by decide)
  have f7 : Fld Z h3 b3 "com/example/cardstock/cardstock/Field" "to" "I" (.int (0 : Int32)) := D3 (Or.inr (hw _ (List.mem_of_getElem? (i := 47) rfl))) (ty := .int) (by decide)
  refine own_by st3 ?_
  show own_Go p.tables e below (T3.setTop (mkF m 40 #[.val (.int p0), .val (.int p1), .val (.int p2), .val (.int p3), .val (.int ff), .val (.int tt), .val (.ref b1), .unset, .unset, .unset, .unset, .unset, .unset, .unset] [(.ref b3)])) _
  refine own_by (fun _ kt => XS.dup X3.here hx rfl (hb hby at_40) rfl rfl kt) ?_
  show own_Go p.tables e below (T3.setTop (mkF m 41 #[.val (.int p0), .val (.int p1), .val (.int p2), .val (.int p3), .val (.int ff), .val (.int tt), .val (.ref b1), .unset, .unset, .unset, .unset, .unset, .unset, .unset] [(.ref b3), (.ref b3)])) _
  refine own_by (fun _ kt => XS.aload X3.here hx rfl (hb hby at_41) rfl rfl kt) ?_
  show own_Go p.tables e below (T3.setTop (mkF m 43 #[.val (.int p0), .val (.int p1), .val (.int p2), .val (.int p3), .val (.int ff), .val (.int tt), .val (.ref b1), .unset, .unset, .unset, .unset, .unset, .unset, .unset] [(.ref b1), (.ref b3), (.ref b3)])) _
  refine own_by (fun _ kt => XS.iload X3.here hx rfl (hb hby at_43) rfl kt) ?_
  show own_Go p.tables e below (T3.setTop (mkF m 45 #[.val (.int p0), .val (.int p1), .val (.int p2), .val (.int p3), .val (.int ff), .val (.int tt), .val (.ref b1), .unset, .unset, .unset, .unset, .unset, .unset, .unset] [(.int ff), (.ref b1), (.ref b3), (.ref b3)])) _
  refine own_by (fun _ kt => XS.iload X3.here hx rfl (hb hby at_45) rfl kt) ?_
  show own_Go p.tables e below (T3.setTop (mkF m 47 #[.val (.int p0), .val (.int p1), .val (.int p2), .val (.int p3), .val (.int ff), .val (.int tt), .val (.ref b1), .unset, .unset, .unset, .unset, .unset, .unset, .unset] [(.int tt), (.int ff), (.ref b1), (.ref b3), (.ref b3)])) _
  obtain ⟨_, _, ⟨T8, L8, k8, n8⟩, -, X8, ⟨Lc8, hQ8, l8, y8, z8⟩, st8⟩ := X3.specialBack hx (y := (⟨"com/example/cardstock/cardstock/Field", "<init>", "(Ljava/lang/String;II)V"⟩ : MethodName)) rfl hown (mvT hZ (hw _ (List.mem_of_getElem? (i := 30) rfl))) (mvT hZ (hw _ (List.mem_of_getElem? (i := 31) rfl))) (mvT hZ (hw _ (List.mem_of_getElem? (i := 32) rfl))) (by decide) (backOf (W := 1) (rm_init l Z a0 hw [] b3 b1 ff tt  h3 n0 Zs3 f5 f6 f7 A3 gn_b3 (own_onC _ _ h_ff.1 h_tt.1 h_tt.2)) hZ (hw _ (List.mem_of_getElem? (i := 32) rfl)) (hw _ (List.mem_of_getElem? (i := 29) rfl)) (by decide) (by decide)) (g := (mkF m 47 #[.val (.int p0), .val (.int p1), .val (.int p2), .val (.int p3), .val (.int ff), .val (.int tt), .val (.ref b1), .unset, .unset, .unset, .unset, .unset, .unset, .unset] [(.int tt), (.int ff), (.ref b1), (.ref b3), (.ref b3)])) rfl (by rw [hml]; rfl) (Steps.refl _) (a := b3) (argsL := [(.ref b1), (.int ff), (.int tt)]) (rest := [(.ref b3)]) (lenOf pd_6 rfl) rfl (by show 2 * 0 + _ ≤ _; exact Nat.le_of_eq rfl) (hb hby at_47) (fun _ _ => ⟨rfl, e3, (by decide : 3 + 0 ≤ _), (by decide : 8 + 0 ≤ _)⟩)
  dsimp only [Pt.U, Pt.locs, Pt.cells, Pt.slots] at X8 l8 y8 z8 st8 hQ8
  subst l8 y8 z8
  obtain ⟨rfl, Nq8, K8, f8_0, f8_1, f8_2⟩ := hQ8
  have f9 := A3.keep K8
  have Zs8 : n0 ≤ T8.heap.size := Nat.le_trans Zs3 K8.1
  have N8 := Fr.app N1 Nq8
  refine own_by (fun _ kt => st8.trans kt) ?_
  show own_Go p.tables e below (T8.setTop (mkF m 50 #[.val (.int p0), .val (.int p1), .val (.int p2), .val (.int p3), .val (.int ff), .val (.int tt), .val (.ref b1), .unset, .unset, .unset, .unset, .unset, .unset, .unset] [(.ref b3)])) _
  refine own_by (fun _ kt => XS.astore X8.here hx rfl (hb hby at_50) rfl rfl (l' := #[.val (.int p0), .val (.int p1), .val (.int p2), .val (.int p3), .val (.int ff), .val (.int tt), .val (.ref b1), .val (.ref b3), .unset, .unset, .unset, .unset, .unset, .unset]) rfl kt) ?_
  show own_Go p.tables e below (T8.setTop (mkF m 52 #[.val (.int p0), .val (.int p1), .val (.int p2), .val (.int p3), .val (.int ff), .val (.int tt), .val (.ref b1), .val (.ref b3), .unset, .unset, .unset, .unset, .unset, .unset] [])) _
  refine own_by (fun _ kt => XS.aload X8.here hx rfl (hb hby at_52) rfl rfl kt) ?_
  show own_Go p.tables e below (T8.setTop (mkF m 54 #[.val (.int p0), .val (.int p1), .val (.int p2), .val (.int p3), .val (.int ff), .val (.int tt), .val (.ref b1), .val (.ref b3), .unset, .unset, .unset, .unset, .unset, .unset] [(.ref b3)])) _
  obtain ⟨cq10, kq10, q10a, q10b, q10c⟩ := isOf hZ rfl f8_0
  obtain ⟨_, _, ⟨T10, L10, k10, n10⟩, -, X10, ⟨Lc10, hQ10, l10, y10, z10⟩, st10⟩ := X8.virtualBack hx (y := (⟨"com/example/cardstock/cardstock/Field", "width", "()I"⟩ : MethodName)) (z := (⟨"com/example/cardstock/cardstock/Field", "width", "()I"⟩ : MethodName)) hown (mvT hZ (hw _ (List.mem_of_getElem? (i := 48) rfl))) (mvT hZ (hw _ (List.mem_of_getElem? (i := 49) rfl))) (notFace_of_selects (args := #[]) (mvT hZ (hw _ (List.mem_of_getElem? (i := 51) rfl)))) (mvT hZ (hw _ (List.mem_of_getElem? (i := 51) rfl))) (mvT hZ (hw _ (List.mem_of_getElem? (i := 50) rfl))) (by decide) (backOf (W := 0) (rm_width l Z a0 hw [] b3 (tt) (ff) T8.heap n0 Zs8 f8_2 f8_1) hZ (hw _ (List.mem_of_getElem? (i := 52) rfl)) (hw _ (List.mem_of_getElem? (i := 29) rfl)) (by decide) (by decide)) q10a q10c (g := (mkF m 54 #[.val (.int p0), .val (.int p1), .val (.int p2), .val (.int p3), .val (.int ff), .val (.int tt), .val (.ref b1), .val (.ref b3), .unset, .unset, .unset, .unset, .unset, .unset] [(.ref b3)])) rfl (by rw [hml]; rfl) (Steps.refl _) (argsL := []) (rest := []) (lenOf pd_7 rfl) rfl (by show 2 * 0 + _ ≤ _; exact Nat.le_of_eq rfl) (hb hby at_54) (fun _ _ => ⟨rfl, rfl, (by decide : 3 + 0 ≤ _), (by decide : 8 + 0 ≤ _)⟩)
  dsimp only [Pt.U, Pt.locs, Pt.cells, Pt.slots] at X10 l10 y10 z10 st10 hQ10
  subst l10 y10 z10
  obtain ⟨rfl, Nq10, eh10⟩ := hQ10
  have N10 := Fr.app N8 Nq10
  refine own_by (fun _ kt => st10.trans kt) ?_
  show own_Go p.tables e below (T10.setTop (mkF m 57 #[.val (.int p0), .val (.int p1), .val (.int p2), .val (.int p3), .val (.int ff), .val (.int tt), .val (.ref b1), .val (.ref b3), .unset, .unset, .unset, .unset, .unset, .unset] [(.int ((tt - ff) + (1 : Int32)))])) _
  refine own_by (fun _ kt => XS.istore X10.here hx rfl (hb hby at_57) rfl (l' := #[.val (.int p0), .val (.int p1), .val (.int p2), .val (.int p3), .val (.int ff), .val (.int tt), .val (.ref b1), .val (.ref b3), .val (.int ((tt - ff) + (1 : Int32))), .unset, .unset, .unset, .unset, .unset]) rfl kt) ?_
  show own_Go p.tables e below (T10.setTop (mkF m 59 #[.val (.int p0), .val (.int p1), .val (.int p2), .val (.int p3), .val (.int ff), .val (.int tt), .val (.ref b1), .val (.ref b3), .val (.int ((tt - ff) + (1 : Int32))), .unset, .unset, .unset, .unset, .unset] [])) _
  refine own_by (fun _ kt => XS.iload X10.here hx rfl (hb hby at_59) rfl kt) ?_
  show own_Go p.tables e below (T10.setTop (mkF m 61 #[.val (.int p0), .val (.int p1), .val (.int p2), .val (.int p3), .val (.int ff), .val (.int tt), .val (.ref b1), .val (.ref b3), .val (.int ((tt - ff) + (1 : Int32))), .unset, .unset, .unset, .unset, .unset] [(.int ((tt - ff) + (1 : Int32)))])) _
  refine own_by (fun _ kt => XS.iconst X10.here hx rfl (hb hby at_61) kt) ?_
  show own_Go p.tables e below (T10.setTop (mkF m 62 #[.val (.int p0), .val (.int p1), .val (.int p2), .val (.int p3), .val (.int ff), .val (.int tt), .val (.ref b1), .val (.ref b3), .val (.int ((tt - ff) + (1 : Int32))), .unset, .unset, .unset, .unset, .unset] [(.int (1 : Int32)), (.int ((tt - ff) + (1 : Int32)))])) _
  refine own_by (fun _ kt => XS.icmpNo X10.here hx rfl (hb hby at_62) rfl (flt (own_w1 _ _ h_ff.1 h_tt.1 h_tt.2 : ¬ (((tt - ff) + (1 : Int32)) < (1 : Int32)))).1 kt) ?_
  show own_Go p.tables e below (T10.setTop (mkF m 65 #[.val (.int p0), .val (.int p1), .val (.int p2), .val (.int p3), .val (.int ff), .val (.int tt), .val (.ref b1), .val (.ref b3), .val (.int ((tt - ff) + (1 : Int32))), .unset, .unset, .unset, .unset, .unset] [])) _
  refine own_by (fun _ kt => XS.iload X10.here hx rfl (hb hby at_65) rfl kt) ?_
  show own_Go p.tables e below (T10.setTop (mkF m 67 #[.val (.int p0), .val (.int p1), .val (.int p2), .val (.int p3), .val (.int ff), .val (.int tt), .val (.ref b1), .val (.ref b3), .val (.int ((tt - ff) + (1 : Int32))), .unset, .unset, .unset, .unset, .unset] [(.int ((tt - ff) + (1 : Int32)))])) _
  refine own_by (fun _ kt => XS.bipush X10.here hx rfl (hb hby at_67) kt) ?_
  show own_Go p.tables e below (T10.setTop (mkF m 69 #[.val (.int p0), .val (.int p1), .val (.int p2), .val (.int p3), .val (.int ff), .val (.int tt), .val (.ref b1), .val (.ref b3), .val (.int ((tt - ff) + (1 : Int32))), .unset, .unset, .unset, .unset, .unset] [(.int (80 : Int32)), (.int ((tt - ff) + (1 : Int32)))])) _
  refine own_by (fun _ kt => XS.icmpNo X10.here hx rfl (hb hby at_69) rfl (flt (own_w2 _ _ h_ff.1 h_tt.1 h_tt.2 : ¬ ((80 : Int32) < ((tt - ff) + (1 : Int32))))).2.2.1 kt) ?_
  show own_Go p.tables e below (T10.setTop (mkF m 72 #[.val (.int p0), .val (.int p1), .val (.int p2), .val (.int p3), .val (.int ff), .val (.int tt), .val (.ref b1), .val (.ref b3), .val (.int ((tt - ff) + (1 : Int32))), .unset, .unset, .unset, .unset, .unset] [])) _
  refine own_by (fun _ kt => XS.iconst X10.here hx rfl (hb hby at_72) kt) ?_
  show own_Go p.tables e below (T10.setTop (mkF m 73 #[.val (.int p0), .val (.int p1), .val (.int p2), .val (.int p3), .val (.int ff), .val (.int tt), .val (.ref b1), .val (.ref b3), .val (.int ((tt - ff) + (1 : Int32))), .unset, .unset, .unset, .unset, .unset] [(.int (1 : Int32))])) _
  refine own_by (fun _ kt => XS.goto X10.here hx rfl (pc0 := 73) (pc' := 77) rfl (hb hby at_73) (by decide) (by decide) kt) ?_
  show own_Go p.tables e below (T10.setTop (mkF m 77 #[.val (.int p0), .val (.int p1), .val (.int p2), .val (.int p3), .val (.int ff), .val (.int tt), .val (.ref b1), .val (.ref b3), .val (.int ((tt - ff) + (1 : Int32))), .unset, .unset, .unset, .unset, .unset] [(.int (1 : Int32))])) _
  refine own_by (fun _ kt => XS.istore X10.here hx rfl (hb hby at_77) rfl (l' := #[.val (.int p0), .val (.int p1), .val (.int p2), .val (.int p3), .val (.int ff), .val (.int tt), .val (.ref b1), .val (.ref b3), .val (.int ((tt - ff) + (1 : Int32))), .val (.int (1 : Int32)), .unset, .unset, .unset, .unset]) rfl kt) ?_
  show own_Go p.tables e below (T10.setTop (mkF m 79 #[.val (.int p0), .val (.int p1), .val (.int p2), .val (.int p3), .val (.int ff), .val (.int tt), .val (.ref b1), .val (.ref b3), .val (.int ((tt - ff) + (1 : Int32))), .val (.int (1 : Int32)), .unset, .unset, .unset, .unset] [])) _
  obtain ⟨T11, h11, X11, e11, E11, A11, D11, -, st11⟩ := newO X10 hx hZ hown (hw _ (List.mem_of_getElem? (i := 27) rfl)) (hw _ (List.mem_of_getElem? (i := 28) rfl)) (hw _ (List.mem_of_getElem? (i := 29) rfl)) eh10 (g := (mkF m 79 #[.val (.int p0), .val (.int p1), .val (.int p2), .val (.int p3), .val (.int ff), .val (.int tt), .val (.ref b1), .val (.ref b3), .val (.int ((tt - ff) + (1 : Int32))), .val (.int (1 : Int32)), .unset, .unset, .unset, .unset] [])) rfl (hb hby at_79) (by decide) (by decide)
  obtain ⟨b11, g11⟩ : ∃ z, z = T8.heap.size := ⟨_, rfl⟩
  rw [← g11] at A11 D11 st11
  have gn_b11 : n0 ≤ b11 := Nat.le_trans Zs8 (Nat.le_of_eq g11.symm)
  have ne_b3_b11 : b3 ≠ b11 := Nat.ne_of_lt (Nat.lt_of_lt_of_le f8_0.lt (Nat.le_of_eq g11.symm))
  have f12 := f8_0.ext E11
  have f13 := f8_1.ext E11
  have f14 := f8_2.ext E11
  have Zs11 : n0 ≤ h11.size := Nat.le_trans Zs8 E11.1
  have f15 : Fld Z h11 b11 "com/example/cardstock/cardstock/Field" "key" "Ljava/lang/String;" .null := D11 (Or.inr (hw _ (List.mem_of_getElem? (i := 43) rfl))) (ty := (.object "java/lang/String")) (by decide)
  have f16 : Fld Z h11 b11 "com/example/cardstock/cardstock/Field" "from" "I" (.int (0 : Int32)) := D11 (Or.inr (hw _ (List.mem_of_getElem? (i := 45) rfl))) (ty := .int) (by decide)
  have f17 : Fld Z h11 b11 "com/example/cardstock/cardstock/Field" "to" "I" (.int (0 : Int32)) := D11 (Or.inr (hw _ (List.mem_of_getElem? (i := 47) rfl))) (ty := .int) (by decide)
  refine own_by st11 ?_
  show own_Go p.tables e below (T11.setTop (mkF m 82 #[.val (.int p0), .val (.int p1), .val (.int p2), .val (.int p3), .val (.int ff), .val (.int tt), .val (.ref b1), .val (.ref b3), .val (.int ((tt - ff) + (1 : Int32))), .val (.int (1 : Int32)), .unset, .unset, .unset, .unset] [(.ref b11)])) _
  refine own_by (fun _ kt => XS.dup X11.here hx rfl (hb hby at_82) rfl rfl kt) ?_
  show own_Go p.tables e below (T11.setTop (mkF m 83 #[.val (.int p0), .val (.int p1), .val (.int p2), .val (.int p3), .val (.int ff), .val (.int tt), .val (.ref b1), .val (.ref b3), .val (.int ((tt - ff) + (1 : Int32))), .val (.int (1 : Int32)), .unset, .unset, .unset, .unset] [(.ref b11), (.ref b11)])) _
  refine own_by (fun _ kt => XS.aload X11.here hx rfl (hb hby at_83) rfl rfl kt) ?_
  show own_Go p.tables e below (T11.setTop (mkF m 85 #[.val (.int p0), .val (.int p1), .val (.int p2), .val (.int p3), .val (.int ff), .val (.int tt), .val (.ref b1), .val (.ref b3), .val (.int ((tt - ff) + (1 : Int32))), .val (.int (1 : Int32)), .unset, .unset, .unset, .unset] [(.ref b1), (.ref b11), (.ref b11)])) _
  refine own_by (fun _ kt => XS.iload X11.here hx rfl (hb hby at_85) rfl kt) ?_
  show own_Go p.tables e below (T11.setTop (mkF m 87 #[.val (.int p0), .val (.int p1), .val (.int p2), .val (.int p3), .val (.int ff), .val (.int tt), .val (.ref b1), .val (.ref b3), .val (.int ((tt - ff) + (1 : Int32))), .val (.int (1 : Int32)), .unset, .unset, .unset, .unset] [(.int ff), (.ref b1), (.ref b11), (.ref b11)])) _
  refine own_by (fun _ kt => XS.iload X11.here hx rfl (hb hby at_87) rfl kt) ?_
  show own_Go p.tables e below (T11.setTop (mkF m 89 #[.val (.int p0), .val (.int p1), .val (.int p2), .val (.int p3), .val (.int ff), .val (.int tt), .val (.ref b1), .val (.ref b3), .val (.int ((tt - ff) + (1 : Int32))), .val (.int (1 : Int32)), .unset, .unset, .unset, .unset] [(.int ff), (.int ff), (.ref b1), (.ref b11), (.ref b11)])) _
  obtain ⟨_, _, ⟨T18, L18, k18, n18⟩, -, X18, ⟨Lc18, hQ18, l18, y18, z18⟩, st18⟩ := X11.specialBack hx (y := (⟨"com/example/cardstock/cardstock/Field", "<init>", "(Ljava/lang/String;II)V"⟩ : MethodName)) rfl hown (mvT hZ (hw _ (List.mem_of_getElem? (i := 30) rfl))) (mvT hZ (hw _ (List.mem_of_getElem? (i := 31) rfl))) (mvT hZ (hw _ (List.mem_of_getElem? (i := 32) rfl))) (by decide) (backOf (W := 1) (rm_init l Z a0 hw [] b11 b1 ff ff  h11 n0 Zs11 f15 f16 f17 A11 gn_b11 (own_onC _ _ h_ff.1 (Int.le_refl _) h_ff.2)) hZ (hw _ (List.mem_of_getElem? (i := 32) rfl)) (hw _ (List.mem_of_getElem? (i := 29) rfl)) (by decide) (by decide)) (g := (mkF m 89 #[.val (.int p0), .val (.int p1), .val (.int p2), .val (.int p3), .val (.int ff), .val (.int tt), .val (.ref b1), .val (.ref b3), .val (.int ((tt - ff) + (1 : Int32))), .val (.int (1 : Int32)), .unset, .unset, .unset, .unset] [(.int ff), (.int ff), (.ref b1), (.ref b11), (.ref b11)])) rfl (by rw [hml]; rfl) (Steps.refl _) (a := b11) (argsL := [(.ref b1), (.int ff), (.int ff)]) (rest := [(.ref b11)]) (lenOf pd_6 rfl) rfl (by show 2 * 0 + _ ≤ _; exact Nat.le_of_eq rfl) (hb hby at_89) (fun _ _ => ⟨rfl, e11, (by decide : 4 + 0 ≤ _), (by decide : 11 + 0 ≤ _)⟩)
  dsimp only [Pt.U, Pt.locs, Pt.cells, Pt.slots] at X18 l18 y18 z18 st18 hQ18
  subst l18 y18 z18
  obtain ⟨rfl, Nq18, K18, f18_0, f18_1, f18_2⟩ := hQ18
  have f19 := f12.keep K18
  have f20 := f13.keep K18 (own_nin ne_b3_b11)
  have f21 := f14.keep K18 (own_nin ne_b3_b11)
  have f22 := A11.keep K18
  have Zs18 : n0 ≤ T18.heap.size := Nat.le_trans Zs11 K18.1
  have N18 := Fr.app N10 Nq18
  refine own_by (fun _ kt => st18.trans kt) ?_
  show own_Go p.tables e below (T18.setTop (mkF m 92 #[.val (.int p0), .val (.int p1), .val (.int p2), .val (.int p3), .val (.int ff), .val (.int tt), .val (.ref b1), .val (.ref b3), .val (.int ((tt - ff) + (1 : Int32))), .val (.int (1 : Int32)), .unset, .unset, .unset, .unset] [(.ref b11)])) _
  refine own_by (fun _ kt => XS.astore X18.here hx rfl (hb hby at_92) rfl rfl (l' := #[.val (.int p0), .val (.int p1), .val (.int p2), .val (.int p3), .val (.int ff), .val (.int tt), .val (.ref b1), .val (.ref b3), .val (.int ((tt - ff) + (1 : Int32))), .val (.int (1 : Int32)), .val (.ref b11), .unset, .unset, .unset]) rfl kt) ?_
  show own_Go p.tables e below (T18.setTop (mkF m 94 #[.val (.int p0), .val (.int p1), .val (.int p2), .val (.int p3), .val (.int ff), .val (.int tt), .val (.ref b1), .val (.ref b3), .val (.int ((tt - ff) + (1 : Int32))), .val (.int (1 : Int32)), .val (.ref b11), .unset, .unset, .unset] [])) _
  refine own_by (fun _ kt => XS.iload X18.here hx rfl (hb hby at_94) rfl kt) ?_
  show own_Go p.tables e below (T18.setTop (mkF m 96 #[.val (.int p0), .val (.int p1), .val (.int p2), .val (.int p3), .val (.int ff), .val (.int tt), .val (.ref b1), .val (.ref b3), .val (.int ((tt - ff) + (1 : Int32))), .val (.int (1 : Int32)), .val (.ref b11), .unset, .unset, .unset] [(.int (1 : Int32))])) _
  refine own_by (fun _ kt => XS.ifNo X18.here hx rfl (hb hby at_96) rfl ((if0 _ _).trans (feq (by decide : ¬ ((1 : Int32) = (0 : Int32)))).1) kt) ?_
  show own_Go p.tables e below (T18.setTop (mkF m 99 #[.val (.int p0), .val (.int p1), .val (.int p2), .val (.int p3), .val (.int ff), .val (.int tt), .val (.ref b1), .val (.ref b3), .val (.int ((tt - ff) + (1 : Int32))), .val (.int (1 : Int32)), .val (.ref b11), .unset, .unset, .unset] [])) _
  refine own_by (fun _ kt => XS.aload X18.here hx rfl (hb hby at_99) rfl rfl kt) ?_
  show own_Go p.tables e below (T18.setTop (mkF m 101 #[.val (.int p0), .val (.int p1), .val (.int p2), .val (.int p3), .val (.int ff), .val (.int tt), .val (.ref b1), .val (.ref b3), .val (.int ((tt - ff) + (1 : Int32))), .val (.int (1 : Int32)), .val (.ref b11), .unset, .unset, .unset] [(.ref b11)])) _
  obtain ⟨cq23, kq23, q23a, q23b, q23c⟩ := isOf hZ rfl f18_0
  obtain ⟨_, _, ⟨T23, L23, k23, n23⟩, -, X23, ⟨Lc23, hQ23, l23, y23, z23⟩, st23⟩ := X18.virtualBack hx (y := (⟨"com/example/cardstock/cardstock/Field", "width", "()I"⟩ : MethodName)) (z := (⟨"com/example/cardstock/cardstock/Field", "width", "()I"⟩ : MethodName)) hown (mvT hZ (hw _ (List.mem_of_getElem? (i := 48) rfl))) (mvT hZ (hw _ (List.mem_of_getElem? (i := 49) rfl))) (notFace_of_selects (args := #[]) (mvT hZ (hw _ (List.mem_of_getElem? (i := 51) rfl)))) (mvT hZ (hw _ (List.mem_of_getElem? (i := 51) rfl))) (mvT hZ (hw _ (List.mem_of_getElem? (i := 50) rfl))) (by decide) (backOf (W := 0) (rm_width l Z a0 hw [] b11 (ff) (ff) T18.heap n0 Zs18 f18_2 f18_1) hZ (hw _ (List.mem_of_getElem? (i := 52) rfl)) (hw _ (List.mem_of_getElem? (i := 29) rfl)) (by decide) (by decide)) q23a q23c (g := (mkF m 101 #[.val (.int p0), .val (.int p1), .val (.int p2), .val (.int p3), .val (.int ff), .val (.int tt), .val (.ref b1), .val (.ref b3), .val (.int ((tt - ff) + (1 : Int32))), .val (.int (1 : Int32)), .val (.ref b11), .unset, .unset, .unset] [(.ref b11)])) rfl (by rw [hml]; rfl) (Steps.refl _) (argsL := []) (rest := []) (lenOf pd_7 rfl) rfl (by show 2 * 0 + _ ≤ _; exact Nat.le_of_eq rfl) (hb hby at_101) (fun _ _ => ⟨rfl, rfl, (by decide : 4 + 0 ≤ _), (by decide : 11 + 0 ≤ _)⟩)
  dsimp only [Pt.U, Pt.locs, Pt.cells, Pt.slots] at X23 l23 y23 z23 st23 hQ23
  subst l23 y23 z23
  obtain ⟨rfl, Nq23, eh23⟩ := hQ23
  have N23 := Fr.app N18 Nq23
  refine own_by (fun _ kt => st23.trans kt) ?_
  show own_Go p.tables e below (T23.setTop (mkF m 104 #[.val (.int p0), .val (.int p1), .val (.int p2), .val (.int p3), .val (.int ff), .val (.int tt), .val (.ref b1), .val (.ref b3), .val (.int ((tt - ff) + (1 : Int32))), .val (.int (1 : Int32)), .val (.ref b11), .unset, .unset, .unset] [(.int ((ff - ff) + (1 : Int32)))])) _
  refine own_by (fun _ kt => XS.iconst X23.here hx rfl (hb hby at_104) kt) ?_
  show own_Go p.tables e below (T23.setTop (mkF m 105 #[.val (.int p0), .val (.int p1), .val (.int p2), .val (.int p3), .val (.int ff), .val (.int tt), .val (.ref b1), .val (.ref b3), .val (.int ((tt - ff) + (1 : Int32))), .val (.int (1 : Int32)), .val (.ref b11), .unset, .unset, .unset] [(.int (1 : Int32)), (.int ((ff - ff) + (1 : Int32)))])) _
  refine own_by (fun _ kt => XS.icmpNo X23.here hx rfl (hb hby at_105) rfl (teq (own_w3 _ h_ff.1 h_ff.2 : ((ff - ff) + (1 : Int32)) = (1 : Int32))).2 kt) ?_
  show own_Go p.tables e below (T23.setTop (mkF m 108 #[.val (.int p0), .val (.int p1), .val (.int p2), .val (.int p3), .val (.int ff), .val (.int tt), .val (.ref b1), .val (.ref b3), .val (.int ((tt - ff) + (1 : Int32))), .val (.int (1 : Int32)), .val (.ref b11), .unset, .unset, .unset] [])) _
  refine own_by (fun _ kt => XS.iconst X23.here hx rfl (hb hby at_108) kt) ?_
  show own_Go p.tables e below (T23.setTop (mkF m 109 #[.val (.int p0), .val (.int p1), .val (.int p2), .val (.int p3), .val (.int ff), .val (.int tt), .val (.ref b1), .val (.ref b3), .val (.int ((tt - ff) + (1 : Int32))), .val (.int (1 : Int32)), .val (.ref b11), .unset, .unset, .unset] [(.int (1 : Int32))])) _
  refine own_by (fun _ kt => XS.goto X23.here hx rfl (pc0 := 109) (pc' := 113) rfl (hb hby at_109) (by decide) (by decide) kt) ?_
  show own_Go p.tables e below (T23.setTop (mkF m 113 #[.val (.int p0), .val (.int p1), .val (.int p2), .val (.int p3), .val (.int ff), .val (.int tt), .val (.ref b1), .val (.ref b3), .val (.int ((tt - ff) + (1 : Int32))), .val (.int (1 : Int32)), .val (.ref b11), .unset, .unset, .unset] [(.int (1 : Int32))])) _
  refine own_by (fun _ kt => XS.istore X23.here hx rfl (hb hby at_113) rfl (l' := #[.val (.int p0), .val (.int p1), .val (.int p2), .val (.int p3), .val (.int ff), .val (.int tt), .val (.ref b1), .val (.ref b3), .val (.int ((tt - ff) + (1 : Int32))), .val (.int (1 : Int32)), .val (.ref b11), .unset, .unset, .unset]) rfl kt) ?_
  show own_Go p.tables e below (T23.setTop (mkF m 115 #[.val (.int p0), .val (.int p1), .val (.int p2), .val (.int p3), .val (.int ff), .val (.int tt), .val (.ref b1), .val (.ref b3), .val (.int ((tt - ff) + (1 : Int32))), .val (.int (1 : Int32)), .val (.ref b11), .unset, .unset, .unset] [])) _
  refine own_by (fun _ kt => XS.iload X23.here hx rfl (hb hby at_115) rfl kt) ?_
  show own_Go p.tables e below (T23.setTop (mkF m 117 #[.val (.int p0), .val (.int p1), .val (.int p2), .val (.int p3), .val (.int ff), .val (.int tt), .val (.ref b1), .val (.ref b3), .val (.int ((tt - ff) + (1 : Int32))), .val (.int (1 : Int32)), .val (.ref b11), .unset, .unset, .unset] [(.int tt)])) _
  refine own_by (fun _ kt => XS.iload X23.here hx rfl (hb hby at_117) rfl kt) ?_
  show own_Go p.tables e below (T23.setTop (mkF m 119 #[.val (.int p0), .val (.int p1), .val (.int p2), .val (.int p3), .val (.int ff), .val (.int tt), .val (.ref b1), .val (.ref b3), .val (.int ((tt - ff) + (1 : Int32))), .val (.int (1 : Int32)), .val (.ref b11), .unset, .unset, .unset] [(.int ff), (.int tt)])) _
  by_cases hc119_24 : ff < tt
  · refine own_by (fun _ kt => XS.icmpNo X23.here hx rfl (hb hby at_119) rfl (tlt hc119_24).2.2.2 kt) ?_
    show own_Go p.tables e below (T23.setTop (mkF m 122 #[.val (.int p0), .val (.int p1), .val (.int p2), .val (.int p3), .val (.int ff), .val (.int tt), .val (.ref b1), .val (.ref b3), .val (.int ((tt - ff) + (1 : Int32))), .val (.int (1 : Int32)), .val (.ref b11), .unset, .unset, .unset] [])) _
    refine own_by (fun _ kt => XS.iload X23.here hx rfl (hb hby at_122) rfl kt) ?_
    show own_Go p.tables e below (T23.setTop (mkF m 124 #[.val (.int p0), .val (.int p1), .val (.int p2), .val (.int p3), .val (.int ff), .val (.int tt), .val (.ref b1), .val (.ref b3), .val (.int ((tt - ff) + (1 : Int32))), .val (.int (1 : Int32)), .val (.ref b11), .unset, .unset, .unset] [(.int ff)])) _
    refine own_by (fun _ kt => XS.iloadN X23.here hx rfl (hb hby at_124) rfl kt) ?_
    show own_Go p.tables e below (T23.setTop (mkF m 125 #[.val (.int p0), .val (.int p1), .val (.int p2), .val (.int p3), .val (.int ff), .val (.int tt), .val (.ref b1), .val (.ref b3), .val (.int ((tt - ff) + (1 : Int32))), .val (.int (1 : Int32)), .val (.ref b11), .unset, .unset, .unset] [(.int p2), (.int ff)])) _
    refine own_by (X23.ldcInt hx hown (mvT hZ (hw _ (List.mem_of_getElem? (i := 0) rfl))) (g := (mkF m 125 #[.val (.int p0), .val (.int p1), .val (.int p2), .val (.int p3), .val (.int ff), .val (.int tt), .val (.ref b1), .val (.ref b3), .val (.int ((tt - ff) + (1 : Int32))), .val (.int (1 : Int32)), .val (.ref b11), .unset, .unset, .unset] [(.int p2), (.int ff)])) rfl (hb hby at_125)) ?_
    show own_Go p.tables e below (T23.setTop (mkF m 127 #[.val (.int p0), .val (.int p1), .val (.int p2), .val (.int p3), .val (.int ff), .val (.int tt), .val (.ref b1), .val (.ref b3), .val (.int ((tt - ff) + (1 : Int32))), .val (.int (1 : Int32)), .val (.ref b11), .unset, .unset, .unset] [(.int (2147483647 : Int32)), (.int p2), (.int ff)])) _
    refine own_by (fun _ kt => XS.iand X23.here hx rfl (hb hby at_127) rfl kt) ?_
    show own_Go p.tables e below (T23.setTop (mkF m 128 #[.val (.int p0), .val (.int p1), .val (.int p2), .val (.int p3), .val (.int ff), .val (.int tt), .val (.ref b1), .val (.ref b3), .val (.int ((tt - ff) + (1 : Int32))), .val (.int (1 : Int32)), .val (.ref b11), .unset, .unset, .unset] [(.int (p2 &&& (2147483647 : Int32))), (.int ff)])) _
    refine own_by (fun _ kt => XS.iload X23.here hx rfl (hb hby at_128) rfl kt) ?_
    show own_Go p.tables e below (T23.setTop (mkF m 130 #[.val (.int p0), .val (.int p1), .val (.int p2), .val (.int p3), .val (.int ff), .val (.int tt), .val (.ref b1), .val (.ref b3), .val (.int ((tt - ff) + (1 : Int32))), .val (.int (1 : Int32)), .val (.ref b11), .unset, .unset, .unset] [(.int tt), (.int (p2 &&& (2147483647 : Int32))), (.int ff)])) _
    refine own_by (fun _ kt => XS.iload X23.here hx rfl (hb hby at_130) rfl kt) ?_
    show own_Go p.tables e below (T23.setTop (mkF m 132 #[.val (.int p0), .val (.int p1), .val (.int p2), .val (.int p3), .val (.int ff), .val (.int tt), .val (.ref b1), .val (.ref b3), .val (.int ((tt - ff) + (1 : Int32))), .val (.int (1 : Int32)), .val (.ref b11), .unset, .unset, .unset] [(.int ff), (.int tt), (.int (p2 &&& (2147483647 : Int32))), (.int ff)])) _
    refine own_by (fun _ kt => XS.isub X23.here hx rfl (hb hby at_132) rfl kt) ?_
    show own_Go p.tables e below (T23.setTop (mkF m 133 #[.val (.int p0), .val (.int p1), .val (.int p2), .val (.int p3), .val (.int ff), .val (.int tt), .val (.ref b1), .val (.ref b3), .val (.int ((tt - ff) + (1 : Int32))), .val (.int (1 : Int32)), .val (.ref b11), .unset, .unset, .unset] [(.int (tt - ff)), (.int (p2 &&& (2147483647 : Int32))), (.int ff)])) _
    refine own_by (fun _ kt => iremM X23 hx rfl (hb hby at_133) rfl (own_nz2 _ _ hc119_24) kt) ?_
    show own_Go p.tables e below (T23.setTop (mkF m 134 #[.val (.int p0), .val (.int p1), .val (.int p2), .val (.int p3), .val (.int ff), .val (.int tt), .val (.ref b1), .val (.ref b3), .val (.int ((tt - ff) + (1 : Int32))), .val (.int (1 : Int32)), .val (.ref b11), .unset, .unset, .unset] [(.int ((p2 &&& (2147483647 : Int32)) % (tt - ff))), (.int ff)])) _
    refine own_by (fun _ kt => XS.iadd X23.here hx rfl (hb hby at_134) rfl kt) ?_
    show own_Go p.tables e below (T23.setTop (mkF m 135 #[.val (.int p0), .val (.int p1), .val (.int p2), .val (.int p3), .val (.int ff), .val (.int tt), .val (.ref b1), .val (.ref b3), .val (.int ((tt - ff) + (1 : Int32))), .val (.int (1 : Int32)), .val (.ref b11), .unset, .unset, .unset] [(.int (ff + ((p2 &&& (2147483647 : Int32)) % (tt - ff))))])) _
    have h_kk := own_k p2 ff tt h_ff.1 hc119_24 h_tt.2
    generalize (ff + ((p2 &&& (2147483647 : Int32)) % (tt - ff))) = kk at h_kk ⊢
    show own_Go p.tables e below (T23.setTop (mkF m 135 #[.val (.int p0), .val (.int p1), .val (.int p2), .val (.int p3), .val (.int ff), .val (.int tt), .val (.ref b1), .val (.ref b3), .val (.int ((tt - ff) + (1 : Int32))), .val (.int (1 : Int32)), .val (.ref b11), .unset, .unset, .unset] [(.int kk)])) _
    refine own_by (fun _ kt => XS.istore X23.here hx rfl (hb hby at_135) rfl (l' := #[.val (.int p0), .val (.int p1), .val (.int p2), .val (.int p3), .val (.int ff), .val (.int tt), .val (.ref b1), .val (.ref b3), .val (.int ((tt - ff) + (1 : Int32))), .val (.int (1 : Int32)), .val (.ref b11), .val (.int kk), .unset, .unset]) rfl kt) ?_
    show own_Go p.tables e below (T23.setTop (mkF m 137 #[.val (.int p0), .val (.int p1), .val (.int p2), .val (.int p3), .val (.int ff), .val (.int tt), .val (.ref b1), .val (.ref b3), .val (.int ((tt - ff) + (1 : Int32))), .val (.int (1 : Int32)), .val (.ref b11), .val (.int kk), .unset, .unset] [])) _
    obtain ⟨T25, h25, X25, e25, E25, A25, D25, -, st25⟩ := newO X23 hx hZ hown (hw _ (List.mem_of_getElem? (i := 27) rfl)) (hw _ (List.mem_of_getElem? (i := 28) rfl)) (hw _ (List.mem_of_getElem? (i := 29) rfl)) eh23 (g := (mkF m 137 #[.val (.int p0), .val (.int p1), .val (.int p2), .val (.int p3), .val (.int ff), .val (.int tt), .val (.ref b1), .val (.ref b3), .val (.int ((tt - ff) + (1 : Int32))), .val (.int (1 : Int32)), .val (.ref b11), .val (.int kk), .unset, .unset] [])) rfl (hb hby at_137) (by decide) (by decide)
    obtain ⟨b25, g25⟩ : ∃ z, z = T18.heap.size := ⟨_, rfl⟩
    rw [← g25] at A25 D25 st25
    have gn_b25 : n0 ≤ b25 := Nat.le_trans Zs18 (Nat.le_of_eq g25.symm)
    have ne_b3_b25 : b3 ≠ b25 := Nat.ne_of_lt (Nat.lt_of_lt_of_le f19.lt (Nat.le_of_eq g25.symm))
    have ne_b11_b25 : b11 ≠ b25 := Nat.ne_of_lt (Nat.lt_of_lt_of_le f18_0.lt (Nat.le_of_eq g25.symm))
    have f26 := f19.ext E25
    have f27 := f20.ext E25
    have f28 := f21.ext E25
    have f29 := f18_0.ext E25
    have f30 := f18_1.ext E25
    have f31 := f18_2.ext E25
    have Zs25 : n0 ≤ h25.size := Nat.le_trans Zs18 E25.1
    have f32 : Fld Z h25 b25 "com/example/cardstock/cardstock/Field" "key" "Ljava/lang/String;" .null := D25 (Or.inr (hw _ (List.mem_of_getElem? (i := 43) rfl))) (ty := (.object "java/lang/String")) (by decide)
    have f33 : Fld Z h25 b25 "com/example/cardstock/cardstock/Field" "from" "I" (.int (0 : Int32)) := D25 (Or.inr (hw _ (List.mem_of_getElem? (i := 45) rfl))) (ty := .int) (by decide)
    have f34 : Fld Z h25 b25 "com/example/cardstock/cardstock/Field" "to" "I" (.int (0 : Int32)) := D25 (Or.inr (hw _ (List.mem_of_getElem? (i := 47) rfl))) (ty := .int) (by decide)
    refine own_by st25 ?_
    show own_Go p.tables e below (T25.setTop (mkF m 140 #[.val (.int p0), .val (.int p1), .val (.int p2), .val (.int p3), .val (.int ff), .val (.int tt), .val (.ref b1), .val (.ref b3), .val (.int ((tt - ff) + (1 : Int32))), .val (.int (1 : Int32)), .val (.ref b11), .val (.int kk), .unset, .unset] [(.ref b25)])) _
    refine own_by (fun _ kt => XS.dup X25.here hx rfl (hb hby at_140) rfl rfl kt) ?_
    show own_Go p.tables e below (T25.setTop (mkF m 141 #[.val (.int p0), .val (.int p1), .val (.int p2), .val (.int p3), .val (.int ff), .val (.int tt), .val (.ref b1), .val (.ref b3), .val (.int ((tt - ff) + (1 : Int32))), .val (.int (1 : Int32)), .val (.ref b11), .val (.int kk), .unset, .unset] [(.ref b25), (.ref b25)])) _
    refine own_by (fun _ kt => XS.aload X25.here hx rfl (hb hby at_141) rfl rfl kt) ?_
    show own_Go p.tables e below (T25.setTop (mkF m 143 #[.val (.int p0), .val (.int p1), .val (.int p2), .val (.int p3), .val (.int ff), .val (.int tt), .val (.ref b1), .val (.ref b3), .val (.int ((tt - ff) + (1 : Int32))), .val (.int (1 : Int32)), .val (.ref b11), .val (.int kk), .unset, .unset] [(.ref b1), (.ref b25), (.ref b25)])) _
    refine own_by (fun _ kt => XS.iload X25.here hx rfl (hb hby at_143) rfl kt) ?_
    show own_Go p.tables e below (T25.setTop (mkF m 145 #[.val (.int p0), .val (.int p1), .val (.int p2), .val (.int p3), .val (.int ff), .val (.int tt), .val (.ref b1), .val (.ref b3), .val (.int ((tt - ff) + (1 : Int32))), .val (.int (1 : Int32)), .val (.ref b11), .val (.int kk), .unset, .unset] [(.int ff), (.ref b1), (.ref b25), (.ref b25)])) _
    refine own_by (fun _ kt => XS.iload X25.here hx rfl (hb hby at_145) rfl kt) ?_
    show own_Go p.tables e below (T25.setTop (mkF m 147 #[.val (.int p0), .val (.int p1), .val (.int p2), .val (.int p3), .val (.int ff), .val (.int tt), .val (.ref b1), .val (.ref b3), .val (.int ((tt - ff) + (1 : Int32))), .val (.int (1 : Int32)), .val (.ref b11), .val (.int kk), .unset, .unset] [(.int kk), (.int ff), (.ref b1), (.ref b25), (.ref b25)])) _
    obtain ⟨_, _, ⟨T35, L35, k35, n35⟩, -, X35, ⟨Lc35, hQ35, l35, y35, z35⟩, st35⟩ := X25.specialBack hx (y := (⟨"com/example/cardstock/cardstock/Field", "<init>", "(Ljava/lang/String;II)V"⟩ : MethodName)) rfl hown (mvT hZ (hw _ (List.mem_of_getElem? (i := 30) rfl))) (mvT hZ (hw _ (List.mem_of_getElem? (i := 31) rfl))) (mvT hZ (hw _ (List.mem_of_getElem? (i := 32) rfl))) (by decide) (backOf (W := 1) (rm_init l Z a0 hw [] b25 b1 ff kk  h25 n0 Zs25 f32 f33 f34 A25 gn_b25 (own_onC _ _ h_ff.1 h_kk.1 (by omega))) hZ (hw _ (List.mem_of_getElem? (i := 32) rfl)) (hw _ (List.mem_of_getElem? (i := 29) rfl)) (by decide) (by decide)) (g := (mkF m 147 #[.val (.int p0), .val (.int p1), .val (.int p2), .val (.int p3), .val (.int ff), .val (.int tt), .val (.ref b1), .val (.ref b3), .val (.int ((tt - ff) + (1 : Int32))), .val (.int (1 : Int32)), .val (.ref b11), .val (.int kk), .unset, .unset] [(.int kk), (.int ff), (.ref b1), (.ref b25), (.ref b25)])) rfl (by rw [hml]; rfl) (Steps.refl _) (a := b25) (argsL := [(.ref b1), (.int ff), (.int kk)]) (rest := [(.ref b25)]) (lenOf pd_6 rfl) rfl (by show 2 * 0 + _ ≤ _; exact Nat.le_of_eq rfl) (hb hby at_147) (fun _ _ => ⟨rfl, e25, (by decide : 5 + 0 ≤ _), (by decide : 14 + 0 ≤ _)⟩)
    dsimp only [Pt.U, Pt.locs, Pt.cells, Pt.slots] at X35 l35 y35 z35 st35 hQ35
    subst l35 y35 z35
    obtain ⟨rfl, Nq35, K35, f35_0, f35_1, f35_2⟩ := hQ35
    have f36 := f26.keep K35
    have f37 := f27.keep K35 (own_nin ne_b3_b25)
    have f38 := f28.keep K35 (own_nin ne_b3_b25)
    have f39 := f29.keep K35
    have f40 := f30.keep K35 (own_nin ne_b11_b25)
    have f41 := f31.keep K35 (own_nin ne_b11_b25)
    have f42 := A25.keep K35
    have Zs35 : n0 ≤ T35.heap.size := Nat.le_trans Zs25 K35.1
    have N35 := Fr.app N23 Nq35
    refine own_by (fun _ kt => st35.trans kt) ?_
    show own_Go p.tables e below (T35.setTop (mkF m 150 #[.val (.int p0), .val (.int p1), .val (.int p2), .val (.int p3), .val (.int ff), .val (.int tt), .val (.ref b1), .val (.ref b3), .val (.int ((tt - ff) + (1 : Int32))), .val (.int (1 : Int32)), .val (.ref b11), .val (.int kk), .unset, .unset] [(.ref b25)])) _
    refine own_by (fun _ kt => XS.astore X35.here hx rfl (hb hby at_150) rfl rfl (l' := #[.val (.int p0), .val (.int p1), .val (.int p2), .val (.int p3), .val (.int ff), .val (.int tt), .val (.ref b1), .val (.ref b3), .val (.int ((tt - ff) + (1 : Int32))), .val (.int (1 : Int32)), .val (.ref b11), .val (.int kk), .val (.ref b25), .unset]) rfl kt) ?_
    show own_Go p.tables e below (T35.setTop (mkF m 152 #[.val (.int p0), .val (.int p1), .val (.int p2), .val (.int p3), .val (.int ff), .val (.int tt), .val (.ref b1), .val (.ref b3), .val (.int ((tt - ff) + (1 : Int32))), .val (.int (1 : Int32)), .val (.ref b11), .val (.int kk), .val (.ref b25), .unset] [])) _
    obtain ⟨T43, h43, X43, e43, E43, A43, D43, -, st43⟩ := newO X35 hx hZ hown (hw _ (List.mem_of_getElem? (i := 27) rfl)) (hw _ (List.mem_of_getElem? (i := 28) rfl)) (hw _ (List.mem_of_getElem? (i := 29) rfl)) rfl (g := (mkF m 152 #[.val (.int p0), .val (.int p1), .val (.int p2), .val (.int p3), .val (.int ff), .val (.int tt), .val (.ref b1), .val (.ref b3), .val (.int ((tt - ff) + (1 : Int32))), .val (.int (1 : Int32)), .val (.ref b11), .val (.int kk), .val (.ref b25), .unset] [])) rfl (hb hby at_152) (by decide) (by decide)
    obtain ⟨b43, g43⟩ : ∃ z, z = T35.heap.size := ⟨_, rfl⟩
    rw [← g43] at A43 D43 st43
    have gn_b43 : n0 ≤ b43 := Nat.le_trans Zs35 (Nat.le_of_eq g43.symm)
    have ne_b3_b43 : b3 ≠ b43 := Nat.ne_of_lt (Nat.lt_of_lt_of_le f36.lt (Nat.le_of_eq g43.symm))
    have ne_b11_b43 : b11 ≠ b43 := Nat.ne_of_lt (Nat.lt_of_lt_of_le f39.lt (Nat.le_of_eq g43.symm))
    have ne_b25_b43 : b25 ≠ b43 := Nat.ne_of_lt (Nat.lt_of_lt_of_le f35_0.lt (Nat.le_of_eq g43.symm))
    have f44 := f36.ext E43
    have f45 := f37.ext E43
    have f46 := f38.ext E43
    have f47 := f39.ext E43
    have f48 := f40.ext E43
    have f49 := f41.ext E43
    have f50 := f35_0.ext E43
    have f51 := f35_1.ext E43
    have f52 := f35_2.ext E43
    have Zs43 : n0 ≤ h43.size := Nat.le_trans Zs35 E43.1
    have f53 : Fld Z h43 b43 "com/example/cardstock/cardstock/Field" "key" "Ljava/lang/String;" .null := D43 (Or.inr (hw _ (List.mem_of_getElem? (i := 43) rfl))) (ty := (.object "java/lang/String")) (by decide)
    have f54 : Fld Z h43 b43 "com/example/cardstock/cardstock/Field" "from" "I" (.int (0 : Int32)) := D43 (Or.inr (hw _ (List.mem_of_getElem? (i := 45) rfl))) (ty := .int) (by decide)
    have f55 : Fld Z h43 b43 "com/example/cardstock/cardstock/Field" "to" "I" (.int (0 : Int32)) := D43 (Or.inr (hw _ (List.mem_of_getElem? (i := 47) rfl))) (ty := .int) (by decide)
    refine own_by st43 ?_
    show own_Go p.tables e below (T43.setTop (mkF m 155 #[.val (.int p0), .val (.int p1), .val (.int p2), .val (.int p3), .val (.int ff), .val (.int tt), .val (.ref b1), .val (.ref b3), .val (.int ((tt - ff) + (1 : Int32))), .val (.int (1 : Int32)), .val (.ref b11), .val (.int kk), .val (.ref b25), .unset] [(.ref b43)])) _
    refine own_by (fun _ kt => XS.dup X43.here hx rfl (hb hby at_155) rfl rfl kt) ?_
    show own_Go p.tables e below (T43.setTop (mkF m 156 #[.val (.int p0), .val (.int p1), .val (.int p2), .val (.int p3), .val (.int ff), .val (.int tt), .val (.ref b1), .val (.ref b3), .val (.int ((tt - ff) + (1 : Int32))), .val (.int (1 : Int32)), .val (.ref b11), .val (.int kk), .val (.ref b25), .unset] [(.ref b43), (.ref b43)])) _
    refine own_by (fun _ kt => XS.aload X43.here hx rfl (hb hby at_156) rfl rfl kt) ?_
    show own_Go p.tables e below (T43.setTop (mkF m 158 #[.val (.int p0), .val (.int p1), .val (.int p2), .val (.int p3), .val (.int ff), .val (.int tt), .val (.ref b1), .val (.ref b3), .val (.int ((tt - ff) + (1 : Int32))), .val (.int (1 : Int32)), .val (.ref b11), .val (.int kk), .val (.ref b25), .unset] [(.ref b1), (.ref b43), (.ref b43)])) _
    refine own_by (fun _ kt => XS.iload X43.here hx rfl (hb hby at_158) rfl kt) ?_
    show own_Go p.tables e below (T43.setTop (mkF m 160 #[.val (.int p0), .val (.int p1), .val (.int p2), .val (.int p3), .val (.int ff), .val (.int tt), .val (.ref b1), .val (.ref b3), .val (.int ((tt - ff) + (1 : Int32))), .val (.int (1 : Int32)), .val (.ref b11), .val (.int kk), .val (.ref b25), .unset] [(.int kk), (.ref b1), (.ref b43), (.ref b43)])) _
    refine own_by (fun _ kt => XS.iconst X43.here hx rfl (hb hby at_160) kt) ?_
    show own_Go p.tables e below (T43.setTop (mkF m 161 #[.val (.int p0), .val (.int p1), .val (.int p2), .val (.int p3), .val (.int ff), .val (.int tt), .val (.ref b1), .val (.ref b3), .val (.int ((tt - ff) + (1 : Int32))), .val (.int (1 : Int32)), .val (.ref b11), .val (.int kk), .val (.ref b25), .unset] [(.int (1 : Int32)), (.int kk), (.ref b1), (.ref b43), (.ref b43)])) _
    refine own_by (fun _ kt => XS.iadd X43.here hx rfl (hb hby at_161) rfl kt) ?_
    show own_Go p.tables e below (T43.setTop (mkF m 162 #[.val (.int p0), .val (.int p1), .val (.int p2), .val (.int p3), .val (.int ff), .val (.int tt), .val (.ref b1), .val (.ref b3), .val (.int ((tt - ff) + (1 : Int32))), .val (.int (1 : Int32)), .val (.ref b11), .val (.int kk), .val (.ref b25), .unset] [(.int (kk + (1 : Int32))), (.ref b1), (.ref b43), (.ref b43)])) _
    refine own_by (fun _ kt => XS.iload X43.here hx rfl (hb hby at_162) rfl kt) ?_
    show own_Go p.tables e below (T43.setTop (mkF m 164 #[.val (.int p0), .val (.int p1), .val (.int p2), .val (.int p3), .val (.int ff), .val (.int tt), .val (.ref b1), .val (.ref b3), .val (.int ((tt - ff) + (1 : Int32))), .val (.int (1 : Int32)), .val (.ref b11), .val (.int kk), .val (.ref b25), .unset] [(.int tt), (.int (kk + (1 : Int32))), (.ref b1), (.ref b43), (.ref b43)])) _
    obtain ⟨_, _, ⟨T56, L56, k56, n56⟩, -, X56, ⟨Lc56, hQ56, l56, y56, z56⟩, st56⟩ := X43.specialBack hx (y := (⟨"com/example/cardstock/cardstock/Field", "<init>", "(Ljava/lang/String;II)V"⟩ : MethodName)) rfl hown (mvT hZ (hw _ (List.mem_of_getElem? (i := 30) rfl))) (mvT hZ (hw _ (List.mem_of_getElem? (i := 31) rfl))) (mvT hZ (hw _ (List.mem_of_getElem? (i := 32) rfl))) (by decide) (backOf (W := 1) (rm_init l Z a0 hw [] b43 b1 (kk + (1 : Int32)) tt  h43 n0 Zs43 f53 f54 f55 A43 gn_b43 (own_onC _ _ (by rw [own_k1 kk (by omega) (by omega)]; omega) (by rw [own_k1 kk (by omega) (by omega)]; omega) h_tt.2)) hZ (hw _ (List.mem_of_getElem? (i := 32) rfl)) (hw _ (List.mem_of_getElem? (i := 29) rfl)) (by decide) (by decide)) (g := (mkF m 164 #[.val (.int p0), .val (.int p1), .val (.int p2), .val (.int p3), .val (.int ff), .val (.int tt), .val (.ref b1), .val (.ref b3), .val (.int ((tt - ff) + (1 : Int32))), .val (.int (1 : Int32)), .val (.ref b11), .val (.int kk), .val (.ref b25), .unset] [(.int tt), (.int (kk + (1 : Int32))), (.ref b1), (.ref b43), (.ref b43)])) rfl (by rw [hml]; rfl) (Steps.refl _) (a := b43) (argsL := [(.ref b1), (.int (kk + (1 : Int32))), (.int tt)]) (rest := [(.ref b43)]) (lenOf pd_6 rfl) rfl (by show 2 * 0 + _ ≤ _; exact Nat.le_of_eq rfl) (hb hby at_164) (fun _ _ => ⟨rfl, e43, (by decide : 6 + 0 ≤ _), (by decide : 17 + 0 ≤ _)⟩)
    dsimp only [Pt.U, Pt.locs, Pt.cells, Pt.slots] at X56 l56 y56 z56 st56 hQ56
    subst l56 y56 z56
    obtain ⟨rfl, Nq56, K56, f56_0, f56_1, f56_2⟩ := hQ56
    have f57 := f44.keep K56
    have f58 := f45.keep K56 (own_nin ne_b3_b43)
    have f59 := f46.keep K56 (own_nin ne_b3_b43)
    have f60 := f47.keep K56
    have f61 := f48.keep K56 (own_nin ne_b11_b43)
    have f62 := f49.keep K56 (own_nin ne_b11_b43)
    have f63 := f50.keep K56
    have f64 := f51.keep K56 (own_nin ne_b25_b43)
    have f65 := f52.keep K56 (own_nin ne_b25_b43)
    have f66 := A43.keep K56
    have Zs56 : n0 ≤ T56.heap.size := Nat.le_trans Zs43 K56.1
    have N56 := Fr.app N35 Nq56
    refine own_by (fun _ kt => st56.trans kt) ?_
    show own_Go p.tables e below (T56.setTop (mkF m 167 #[.val (.int p0), .val (.int p1), .val (.int p2), .val (.int p3), .val (.int ff), .val (.int tt), .val (.ref b1), .val (.ref b3), .val (.int ((tt - ff) + (1 : Int32))), .val (.int (1 : Int32)), .val (.ref b11), .val (.int kk), .val (.ref b25), .unset] [(.ref b43)])) _
    refine own_by (fun _ kt => XS.astore X56.here hx rfl (hb hby at_167) rfl rfl (l' := #[.val (.int p0), .val (.int p1), .val (.int p2), .val (.int p3), .val (.int ff), .val (.int tt), .val (.ref b1), .val (.ref b3), .val (.int ((tt - ff) + (1 : Int32))), .val (.int (1 : Int32)), .val (.ref b11), .val (.int kk), .val (.ref b25), .val (.ref b43)]) rfl kt) ?_
    show own_Go p.tables e below (T56.setTop (mkF m 169 #[.val (.int p0), .val (.int p1), .val (.int p2), .val (.int p3), .val (.int ff), .val (.int tt), .val (.ref b1), .val (.ref b3), .val (.int ((tt - ff) + (1 : Int32))), .val (.int (1 : Int32)), .val (.ref b11), .val (.int kk), .val (.ref b25), .val (.ref b43)] [])) _
    refine own_by (fun _ kt => XS.iload X56.here hx rfl (hb hby at_169) rfl kt) ?_
    show own_Go p.tables e below (T56.setTop (mkF m 171 #[.val (.int p0), .val (.int p1), .val (.int p2), .val (.int p3), .val (.int ff), .val (.int tt), .val (.ref b1), .val (.ref b3), .val (.int ((tt - ff) + (1 : Int32))), .val (.int (1 : Int32)), .val (.ref b11), .val (.int kk), .val (.ref b25), .val (.ref b43)] [(.int (1 : Int32))])) _
    refine own_by (fun _ kt => XS.ifNo X56.here hx rfl (hb hby at_171) rfl ((if0 _ _).trans (feq (by decide : ¬ ((1 : Int32) = (0 : Int32)))).1) kt) ?_
    show own_Go p.tables e below (T56.setTop (mkF m 174 #[.val (.int p0), .val (.int p1), .val (.int p2), .val (.int p3), .val (.int ff), .val (.int tt), .val (.ref b1), .val (.ref b3), .val (.int ((tt - ff) + (1 : Int32))), .val (.int (1 : Int32)), .val (.ref b11), .val (.int kk), .val (.ref b25), .val (.ref b43)] [])) _
    refine own_by (fun _ kt => XS.aload X56.here hx rfl (hb hby at_174) rfl rfl kt) ?_
    show own_Go p.tables e below (T56.setTop (mkF m 176 #[.val (.int p0), .val (.int p1), .val (.int p2), .val (.int p3), .val (.int ff), .val (.int tt), .val (.ref b1), .val (.ref b3), .val (.int ((tt - ff) + (1 : Int32))), .val (.int (1 : Int32)), .val (.ref b11), .val (.int kk), .val (.ref b25), .val (.ref b43)] [(.ref b25)])) _
    obtain ⟨cq67, kq67, q67a, q67b, q67c⟩ := isOf hZ rfl f63
    obtain ⟨_, _, ⟨T67, L67, k67, n67⟩, -, X67, ⟨Lc67, hQ67, l67, y67, z67⟩, st67⟩ := X56.virtualBack hx (y := (⟨"com/example/cardstock/cardstock/Field", "width", "()I"⟩ : MethodName)) (z := (⟨"com/example/cardstock/cardstock/Field", "width", "()I"⟩ : MethodName)) hown (mvT hZ (hw _ (List.mem_of_getElem? (i := 48) rfl))) (mvT hZ (hw _ (List.mem_of_getElem? (i := 49) rfl))) (notFace_of_selects (args := #[]) (mvT hZ (hw _ (List.mem_of_getElem? (i := 51) rfl)))) (mvT hZ (hw _ (List.mem_of_getElem? (i := 51) rfl))) (mvT hZ (hw _ (List.mem_of_getElem? (i := 50) rfl))) (by decide) (backOf (W := 0) (rm_width l Z a0 hw [] b25 (kk) (ff) T56.heap n0 Zs56 f65 f64) hZ (hw _ (List.mem_of_getElem? (i := 52) rfl)) (hw _ (List.mem_of_getElem? (i := 29) rfl)) (by decide) (by decide)) q67a q67c (g := (mkF m 176 #[.val (.int p0), .val (.int p1), .val (.int p2), .val (.int p3), .val (.int ff), .val (.int tt), .val (.ref b1), .val (.ref b3), .val (.int ((tt - ff) + (1 : Int32))), .val (.int (1 : Int32)), .val (.ref b11), .val (.int kk), .val (.ref b25), .val (.ref b43)] [(.ref b25)])) rfl (by rw [hml]; rfl) (Steps.refl _) (argsL := []) (rest := []) (lenOf pd_7 rfl) rfl (by show 2 * 0 + _ ≤ _; exact Nat.le_of_eq rfl) (hb hby at_176) (fun _ _ => ⟨rfl, rfl, (by decide : 6 + 0 ≤ _), (by decide : 17 + 0 ≤ _)⟩)
    dsimp only [Pt.U, Pt.locs, Pt.cells, Pt.slots] at X67 l67 y67 z67 st67 hQ67
    subst l67 y67 z67
    obtain ⟨rfl, Nq67, eh67⟩ := hQ67
    have N67 := Fr.app N56 Nq67
    refine own_by (fun _ kt => st67.trans kt) ?_
    show own_Go p.tables e below (T67.setTop (mkF m 179 #[.val (.int p0), .val (.int p1), .val (.int p2), .val (.int p3), .val (.int ff), .val (.int tt), .val (.ref b1), .val (.ref b3), .val (.int ((tt - ff) + (1 : Int32))), .val (.int (1 : Int32)), .val (.ref b11), .val (.int kk), .val (.ref b25), .val (.ref b43)] [(.int ((kk - ff) + (1 : Int32)))])) _
    refine own_by (fun _ kt => XS.aload X67.here hx rfl (hb hby at_179) rfl rfl kt) ?_
    show own_Go p.tables e below (T67.setTop (mkF m 181 #[.val (.int p0), .val (.int p1), .val (.int p2), .val (.int p3), .val (.int ff), .val (.int tt), .val (.ref b1), .val (.ref b3), .val (.int ((tt - ff) + (1 : Int32))), .val (.int (1 : Int32)), .val (.ref b11), .val (.int kk), .val (.ref b25), .val (.ref b43)] [(.ref b43), (.int ((kk - ff) + (1 : Int32)))])) _
    obtain ⟨cq68, kq68, q68a, q68b, q68c⟩ := isOf hZ eh67 f56_0
    obtain ⟨_, _, ⟨T68, L68, k68, n68⟩, -, X68, ⟨Lc68, hQ68, l68, y68, z68⟩, st68⟩ := X67.virtualBack hx (y := (⟨"com/example/cardstock/cardstock/Field", "width", "()I"⟩ : MethodName)) (z := (⟨"com/example/cardstock/cardstock/Field", "width", "()I"⟩ : MethodName)) hown (mvT hZ (hw _ (List.mem_of_getElem? (i := 48) rfl))) (mvT hZ (hw _ (List.mem_of_getElem? (i := 49) rfl))) (notFace_of_selects (args := #[]) (mvT hZ (hw _ (List.mem_of_getElem? (i := 51) rfl)))) (mvT hZ (hw _ (List.mem_of_getElem? (i := 51) rfl))) (mvT hZ (hw _ (List.mem_of_getElem? (i := 50) rfl))) (by decide) (backOf (W := 1) (rm_width l Z a0 hw [] b43 (tt) ((kk + (1 : Int32))) T56.heap n0 Zs56 f56_2 f56_1) hZ (hw _ (List.mem_of_getElem? (i := 52) rfl)) (hw _ (List.mem_of_getElem? (i := 29) rfl)) (by decide) (by decide)) q68a q68c (g := (mkF m 181 #[.val (.int p0), .val (.int p1), .val (.int p2), .val (.int p3), .val (.int ff), .val (.int tt), .val (.ref b1), .val (.ref b3), .val (.int ((tt - ff) + (1 : Int32))), .val (.int (1 : Int32)), .val (.ref b11), .val (.int kk), .val (.ref b25), .val (.ref b43)] [(.ref b43), (.int ((kk - ff) + (1 : Int32)))])) rfl (by rw [hml]; rfl) (Steps.refl _) (argsL := []) (rest := [(.int ((kk - ff) + (1 : Int32)))]) (lenOf pd_7 rfl) rfl (by show 2 * 0 + _ ≤ _; exact Nat.le_of_eq rfl) (hb hby at_181) (fun _ _ => ⟨rfl, eh67, (by decide : 6 + 0 ≤ _), (by decide : 17 + 0 ≤ _)⟩)
    dsimp only [Pt.U, Pt.locs, Pt.cells, Pt.slots] at X68 l68 y68 z68 st68 hQ68
    subst l68 y68 z68
    obtain ⟨rfl, Nq68, eh68⟩ := hQ68
    have N68 := Fr.app N67 Nq68
    refine own_by (fun _ kt => st68.trans kt) ?_
    show own_Go p.tables e below (T68.setTop (mkF m 184 #[.val (.int p0), .val (.int p1), .val (.int p2), .val (.int p3), .val (.int ff), .val (.int tt), .val (.ref b1), .val (.ref b3), .val (.int ((tt - ff) + (1 : Int32))), .val (.int (1 : Int32)), .val (.ref b11), .val (.int kk), .val (.ref b25), .val (.ref b43)] [(.int ((tt - (kk + (1 : Int32))) + (1 : Int32))), (.int ((kk - ff) + (1 : Int32)))])) _
    refine own_by (fun _ kt => XS.iadd X68.here hx rfl (hb hby at_184) rfl kt) ?_
    show own_Go p.tables e below (T68.setTop (mkF m 185 #[.val (.int p0), .val (.int p1), .val (.int p2), .val (.int p3), .val (.int ff), .val (.int tt), .val (.ref b1), .val (.ref b3), .val (.int ((tt - ff) + (1 : Int32))), .val (.int (1 : Int32)), .val (.ref b11), .val (.int kk), .val (.ref b25), .val (.ref b43)] [(.int (((kk - ff) + (1 : Int32)) + ((tt - (kk + (1 : Int32))) + (1 : Int32))))])) _
    refine own_by (fun _ kt => XS.iload X68.here hx rfl (hb hby at_185) rfl kt) ?_
    show own_Go p.tables e below (T68.setTop (mkF m 187 #[.val (.int p0), .val (.int p1), .val (.int p2), .val (.int p3), .val (.int ff), .val (.int tt), .val (.ref b1), .val (.ref b3), .val (.int ((tt - ff) + (1 : Int32))), .val (.int (1 : Int32)), .val (.ref b11), .val (.int kk), .val (.ref b25), .val (.ref b43)] [(.int ((tt - ff) + (1 : Int32))), (.int (((kk - ff) + (1 : Int32)) + ((tt - (kk + (1 : Int32))) + (1 : Int32))))])) _
    refine own_by (fun _ kt => XS.icmpNo X68.here hx rfl (hb hby at_187) rfl (teq (own_sum _ _ _ h_ff.1 h_kk.1 h_kk.2 h_tt.2 : (((kk - ff) + (1 : Int32)) + ((tt - (kk + (1 : Int32))) + (1 : Int32))) = ((tt - ff) + (1 : Int32)))).2 kt) ?_
    show own_Go p.tables e below (T68.setTop (mkF m 190 #[.val (.int p0), .val (.int p1), .val (.int p2), .val (.int p3), .val (.int ff), .val (.int tt), .val (.ref b1), .val (.ref b3), .val (.int ((tt - ff) + (1 : Int32))), .val (.int (1 : Int32)), .val (.ref b11), .val (.int kk), .val (.ref b25), .val (.ref b43)] [])) _
    refine own_by (fun _ kt => XS.iconst X68.here hx rfl (hb hby at_190) kt) ?_
    show own_Go p.tables e below (T68.setTop (mkF m 191 #[.val (.int p0), .val (.int p1), .val (.int p2), .val (.int p3), .val (.int ff), .val (.int tt), .val (.ref b1), .val (.ref b3), .val (.int ((tt - ff) + (1 : Int32))), .val (.int (1 : Int32)), .val (.ref b11), .val (.int kk), .val (.ref b25), .val (.ref b43)] [(.int (1 : Int32))])) _
    refine own_by (fun _ kt => XS.goto X68.here hx rfl (pc0 := 191) (pc' := 195) rfl (hb hby at_191) (by decide) (by decide) kt) ?_
    show own_Go p.tables e below (T68.setTop (mkF m 195 #[.val (.int p0), .val (.int p1), .val (.int p2), .val (.int p3), .val (.int ff), .val (.int tt), .val (.ref b1), .val (.ref b3), .val (.int ((tt - ff) + (1 : Int32))), .val (.int (1 : Int32)), .val (.ref b11), .val (.int kk), .val (.ref b25), .val (.ref b43)] [(.int (1 : Int32))])) _
    refine own_by (fun _ kt => XS.istore X68.here hx rfl (hb hby at_195) rfl (l' := #[.val (.int p0), .val (.int p1), .val (.int p2), .val (.int p3), .val (.int ff), .val (.int tt), .val (.ref b1), .val (.ref b3), .val (.int ((tt - ff) + (1 : Int32))), .val (.int (1 : Int32)), .val (.ref b11), .val (.int kk), .val (.ref b25), .val (.ref b43)]) rfl kt) ?_
    show own_Go p.tables e below (T68.setTop (mkF m 197 #[.val (.int p0), .val (.int p1), .val (.int p2), .val (.int p3), .val (.int ff), .val (.int tt), .val (.ref b1), .val (.ref b3), .val (.int ((tt - ff) + (1 : Int32))), .val (.int (1 : Int32)), .val (.ref b11), .val (.int kk), .val (.ref b25), .val (.ref b43)] [])) _
    refine own_by (fun _ kt => XS.iload X68.here hx rfl (hb hby at_197) rfl kt) ?_
    show own_Go p.tables e below (T68.setTop (mkF m 199 #[.val (.int p0), .val (.int p1), .val (.int p2), .val (.int p3), .val (.int ff), .val (.int tt), .val (.ref b1), .val (.ref b3), .val (.int ((tt - ff) + (1 : Int32))), .val (.int (1 : Int32)), .val (.ref b11), .val (.int kk), .val (.ref b25), .val (.ref b43)] [(.int (1 : Int32))])) _
    exact own_retN X68 hx (t := .boolean) Bd.returns hlk (by simp) (hb hby at_199) ⟨rfl, N68⟩ (by decide) (by decide)
  · refine own_by (fun _ kt => XS.icmpYes X23.here hx rfl (pc0 := 119) (pc' := 197) rfl (hb hby at_119) rfl (flt hc119_24).2.2.2 (by decide) (by decide) kt) ?_
    show own_Go p.tables e below (T23.setTop (mkF m 197 #[.val (.int p0), .val (.int p1), .val (.int p2), .val (.int p3), .val (.int ff), .val (.int tt), .val (.ref b1), .val (.ref b3), .val (.int ((tt - ff) + (1 : Int32))), .val (.int (1 : Int32)), .val (.ref b11), .unset, .unset, .unset] [])) _
    refine own_by (fun _ kt => XS.iload X23.here hx rfl (hb hby at_197) rfl kt) ?_
    show own_Go p.tables e below (T23.setTop (mkF m 199 #[.val (.int p0), .val (.int p1), .val (.int p2), .val (.int p3), .val (.int ff), .val (.int tt), .val (.ref b1), .val (.ref b3), .val (.int ((tt - ff) + (1 : Int32))), .val (.int (1 : Int32)), .val (.ref b11), .unset, .unset, .unset] [(.int (1 : Int32))])) _
    exact own_retN X23 hx (t := .boolean) Bd.returns hlk (by simp) (hb hby at_199) ⟨rfl, N23⟩ (by decide) (by decide)
set_option maxRecDepth 65536 in
set_option maxHeartbeats 40000000 in
theorem comes_1 {Post : Tables → Env → Array Value → State → Outcome → State → Prop} (hpost : ∀ tb e args s v u, (limb_1_1.after args s (.returned v) u = true ∧ limb_1_2.after args s (.returned v) u = true ∧ True) → FrameEnd s (.returned v) u (Jvm.fieldLocs frame_1_writes args s ++ Jvm.arrayLocs frame_1_arrays args s ++ Jvm.staticLocs frame_1_statics s) 24 128 → Post tb e args s (.returned v) u) :
    ArmFor flags0 classFile x code maxLocals ret World_1 tables_1 room_1 Calls_1 rest_1 Pre_1 Post := by
  intro l hfl _ _ p e ha hc hk s m args below hf hA hF happ hP
  obtain ⟨hcalls, hrest, hpre⟩ := hP
  obtain ⟨-, -, -, hnamed, -, -, -, hat⟩ := (Spec.applies_iff hf).mp happ
  obtain ⟨hg, hn⟩ := and_e (Cond.before_iff.mp (show (Jvm.Cond.and given_1 narrow_1).before args s = true from hpre))
  obtain ⟨hcnt, g0⟩ := and_e hg
  obtain ⟨i0, g1⟩ := and_e g0
  obtain ⟨i1, g2⟩ := and_e g1
  obtain ⟨i2, g3⟩ := and_e g2
  obtain ⟨w0, w1, w2, w3, rfl⟩ : ∃ w0 w1 w2 w3 : Value, args = #[w0, w1, w2, w3] := by
    have hs : args.size = 4 := by simpa [Cond.value, given_1] using hcnt
    obtain ⟨L⟩ := args
    match L, hs with
    | [w0, w1, w2, w3], _ => exact ⟨w0, w1, w2, w3, rfl⟩
  have hw := fun d (hd : d ∈ tables_1) => atoms_spec (ws := Jvm.Cond.code x code maxLocals ret :: tables_1) hat d (List.mem_cons_of_mem _ hd)
  obtain ⟨hsets, hown0⟩ := atoms_of _ (rest_1_c_eq ▸ (show rest_1_c.before _ s = true from hrest))
  have ncs := not_v (Cond.before_iff.mp (hsets _ (List.mem_of_getElem? (i := 2) rfl)))
  obtain ⟨cs, ecs⟩ := is_v (Cond.before_iff.mp (hsets _ (List.mem_of_getElem? (i := 1) rfl)))
  have Scs : Sta s s.heap "java/lang/String" "COMPACT_STRINGS" "Z" (.int cs) := Sta.start ecs (Or.inl (hsets _ (List.mem_of_getElem? (i := 0) rfl)))
  have hcs : ¬ (cs = (0 : Int32)) := gotF (Cond.eq_ints ecs (Term.int_eval (0))) ncs
  obtain ⟨v0, ev0⟩ := is_v i0
  obtain rfl : w0 = (.int v0) := Option.some.inj ev0
  obtain ⟨v1, ev1⟩ := is_v i1
  obtain rfl : w1 = (.int v1) := Option.some.inj ev1
  obtain ⟨v2, ev2⟩ := is_v i2
  obtain rfl : w2 = (.int v2) := Option.some.inj ev2
  obtain ⟨v3, ev3⟩ := is_v g3
  obtain rfl : w3 = (.int v3) := Option.some.inj ev3
  obtain ⟨n, o, h1, h2, h3, _, L, rfl, ⟨rfl, N⟩, hq⟩ := rm_law l s _ hw tables_1 v0 v1 v2 v3 cs s.heap s.heap.size (Nat.le_refl _) Scs hcs p e ha hc hk s m _ below hf ((Spec.applies_iff_loose hf).mp happ).1 ⟨rfl, State.Warmed39.refl s, rfl⟩ trivial
  refine ⟨n, _, h1, h2, h3, hpost _ _ _ _ _ _ ⟨Cond.after_iff.mpr rfl, Cond.after_iff.mpr (eq_i res_at (Term.int_eval (1)) rfl), trivial⟩ ⟨hq.1, hq.2.1, (hq.2.2.sift fun y hy => Or.inr (N y hy)).mono (by decide) (by decide)⟩⟩
theorem main_1_1 : Claimed_1_1 := comes_1 fun _ _ _ _ _ _ h hF => ⟨h.1, hF⟩
theorem main_1_2 : Claimed_1_2 := comes_1 fun _ _ _ _ _ _ h hF => ⟨h.2.1, hF⟩
end Jvm.Pilot.@@N@@
namespace Jvm.Pilot.@@N@@
open Jvm Jvm.ClassFile Sem Op Lib Jvm.Free Jvm.Stand Jvm.Pilot.@@N@@.Jvm.D
/-! MADE BY PROGRAM (witnessworld.py) out of the Statement's table words and the real class files: 18 classes; the members and pool entries that the words name. The judged class is class 1, her method 1. -/
namespace start1
open Jvm.ClassFile
def u (s : String) : CpInfo := .utf8 (stringToUtf16 s)
/-- a pool by its gaps: so many unusable entries, then the entry; so many at the end -/
def gap : Nat → List CpInfo → List CpInfo
  | 0, r => r
  | n + 1, r => .unusable :: gap n r
def poolList (es : List (Nat × CpInfo)) (last : Nat) : List CpInfo := es.foldr (fun e r => gap e.1 (e.2 :: r)) (gap last [])
def pool (es : List (Nat × CpInfo)) (last : Nat) : Array CpInfo := ⟨poolList es last⟩
def fileOf (pool : Array CpInfo) (this : Nat) (attrs : Array Attribute := #[]) (ms : Array MethodInfo := #[]) (fl : Nat := 33) (sup : Nat := 0) (ifs : Array Nat := #[]) (fds : Array FieldInfo := #[]) : ClassFile where
  minorVersion := 0
  majorVersion := 65
  constantPool := pool
  accessFlags := fl
  thisClass := this
  superClass := sup
  interfaces := ifs
  fields := fds
  methods := ms
  attributes := attrs
def plain (name : String) (sup : Option ClassId) : Class where
  name := name
  kind := .ordinary
  loader := none
  accessFlags := 33
  super := sup
  interfaces := #[]
  cf := none
  fields := #[]
  methods := #[]
  instanceTypes := #[]
  staticTypes := #[]
  resolved := #[]
  callSites := []
  init := .initialized
  statics := none
  mirror := none

def pool0 : Array CpInfo := pool [(5, u "<init>"), (0, u "()V"), (1, .class_ 10), (1, u "java/lang/Object")] 113

def k0c0 : Code := { maxStack := 0, maxLocals := 1, code := object_method_1_code, exceptionTable := #[], attributes := #[] }
def k0m0 : Method := { name := "<init>", desc := "()V", sig := { parameters := [], returnType := none }, accessFlags := 1, code := some k0c0 }
/-- java/lang/Object -/
def k0 : Class := { plain "java/lang/Object" none with
  accessFlags := 33
  interfaces := #[]
  cf := some (fileOf pool0 8 #[] #[{ accessFlags := 1, nameIndex := 5, descriptorIndex := 6, attributes := #[] }] 33 0 #[] #[])
  fields := #[]
  methods := #[k0m0]
  instanceTypes := #[]
  staticTypes := #[]
  resolved := Array.replicate 124 none
  statics := none }

def pool1 : Array CpInfo := pool [(2, .class_ 4), (1, u "java/lang/Object"), (0, u "<init>"), (0, u "()V"), (0, .integer 2147483647), (0, .methodref 9 10), (0, .class_ 11), (0, .nameAndType 12 13), (0, u "java/lang/String"), (0, u "valueOf"), (0, u "(C)Ljava/lang/String;"), (0, .class_ 15), (0, u "com/example/cardstock/cardstock/Field"), (0, .methodref 14 17), (0, .nameAndType 5 18), (0, u "(Ljava/lang/String;II)V"), (0, .methodref 14 20), (0, .nameAndType 21 22), (0, u "width"), (0, u "()I"), (0, .class_ 24), (0, u "com/example/cardstock/cardstock/FieldWidthPinLaw"), (2, u "law"), (0, u "(IIII)Z")] 3

def k1m0 : Method := { name := "<init>", desc := "()V", sig := { parameters := [], returnType := none }, accessFlags := 2, code := none }
def k1c1 : Code := { maxStack := 5, maxLocals := 14, code := code, exceptionTable := #[], attributes := #[] }
def k1m1 : Method := { name := "law", desc := "(IIII)Z", sig := { parameters := [.int, .int, .int, .int], returnType := some .boolean }, accessFlags := 9, code := some k1c1 }
/-- com/example/cardstock/cardstock/FieldWidthPinLaw -/
def k1 : Class := { plain "com/example/cardstock/cardstock/FieldWidthPinLaw" (some 0) with
  accessFlags := 49
  interfaces := #[]
  cf := some (fileOf pool1 23 #[] #[{ accessFlags := 2, nameIndex := 5, descriptorIndex := 6, attributes := #[] }, { accessFlags := 9, nameIndex := 27, descriptorIndex := 28, attributes := #[] }] 49 2 #[] #[])
  fields := #[]
  methods := #[k1m0, k1m1]
  instanceTypes := #[]
  staticTypes := #[]
  resolved := Array.replicate 32 none
  statics := none }

def pool2 : Array CpInfo := pool [(1, .class_ 2), (0, u "java/io/Serializable"), (0, .class_ 4), (0, u "java/lang/Object")] 2

/-- java/io/Serializable -/
def k2 : Class := { plain "java/io/Serializable" (some 0) with
  accessFlags := 1537
  interfaces := #[]
  cf := some (fileOf pool2 1 #[] #[] 1537 3 #[] #[])
  fields := #[]
  methods := #[]
  instanceTypes := #[]
  staticTypes := #[]
  resolved := Array.replicate 7 none
  statics := none }

def pool3 : Array CpInfo := pool [(1, .class_ 2), (0, u "java/lang/Comparable"), (0, .class_ 4), (0, u "java/lang/Object")] 7

/-- java/lang/Comparable -/
def k3 : Class := { plain "java/lang/Comparable" (some 0) with
  accessFlags := 1537
  interfaces := #[]
  cf := some (fileOf pool3 1 #[] #[] 1537 3 #[] #[])
  fields := #[]
  methods := #[]
  instanceTypes := #[]
  staticTypes := #[]
  resolved := Array.replicate 12 none
  statics := none }

def pool4 : Array CpInfo := pool [(2, .class_ 4), (1, u "java/lang/CharSequence"), (42, .class_ 48), (0, u "java/lang/CharSequence$1CodePointIterator"), (10, .class_ 60), (0, u "java/lang/CharSequence$1CharIterator"), (5, .class_ 67), (0, u "java/lang/Object")] 63

/-- java/lang/CharSequence -/
def k4 : Class := { plain "java/lang/CharSequence" (some 0) with
  accessFlags := 1537
  interfaces := #[]
  cf := some (fileOf pool4 2 #[.nestMembers #[47, 59]] #[] 1537 66 #[] #[])
  fields := #[]
  methods := #[]
  instanceTypes := #[]
  staticTypes := #[]
  resolved := Array.replicate 131 none
  statics := none }

def pool5 : Array CpInfo := pool [(1, .class_ 2), (0, u "java/lang/constant/Constable"), (0, .class_ 4), (0, u "java/lang/Object")] 6

/-- java/lang/constant/Constable -/
def k5 : Class := { plain "java/lang/constant/Constable" (some 0) with
  accessFlags := 1537
  interfaces := #[]
  cf := some (fileOf pool5 1 #[] #[] 1537 3 #[] #[])
  fields := #[]
  methods := #[]
  instanceTypes := #[]
  staticTypes := #[]
  resolved := Array.replicate 11 none
  statics := none }

def pool6 : Array CpInfo := pool [(1, .class_ 2), (0, u "java/lang/constant/ConstantDesc"), (0, .class_ 4), (0, u "java/lang/Object")] 32

/-- java/lang/constant/ConstantDesc -/
def k6 : Class := { plain "java/lang/constant/ConstantDesc" (some 0) with
  accessFlags := 1537
  interfaces := #[]
  cf := some (fileOf pool6 1 #[] #[] 1537 3 #[] #[])
  fields := #[]
  methods := #[]
  instanceTypes := #[]
  staticTypes := #[]
  resolved := Array.replicate 37 none
  statics := none }

def pool7 : Array CpInfo := pool [(1, .methodref 2 3), (0, .class_ 4), (0, .nameAndType 5 6), (0, u "java/lang/Object"), (0, u "<init>"), (0, u "()V"), (2, .fieldref 10 11), (0, .class_ 12), (0, .nameAndType 13 14), (0, u "java/lang/String"), (0, u "value"), (0, u "[B"), (0, .fieldref 10 16), (0, .nameAndType 17 18), (0, u "coder"), (0, u "B"), (2, u "hash"), (0, u "I"), (2, u "hashIsZero"), (0, u "Z"), (11, .fieldref 10 39), (0, .nameAndType 40 26), (0, u "COMPACT_STRINGS"), (12, u "toBytes"), (53, .class_ 109), (1, u "java/lang/StringLatin1"), (99, .methodref 10 210), (0, .nameAndType 5 211), (0, u "([BB)V"), (157, u "(C)Z"), (205, .class_ 576), (0, u "java/lang/CharSequence"), (22, u "CASE_INSENSITIVE_ORDER"), (0, u "Ljava/util/Comparator;"), (181, u "valueOf"), (0, u "(C)Ljava/lang/String;"), (231, .methodref 107 1016), (0, .nameAndType 1017 369), (0, u "canEncode"), (0, .methodref 107 1019), (0, .nameAndType 53 1020), (0, u "(C)[B"), (80, u "serialPersistentFields"), (0, u "[Ljava/io/ObjectStreamField;"), (0, .class_ 1104), (0, u "java/lang/String$CaseInsensitiveComparator"), (1, .class_ 1107), (0, u "java/io/Serializable"), (0, .class_ 1109), (0, u "java/lang/Comparable"), (0, .class_ 1111), (0, u "java/lang/constant/Constable"), (0, .class_ 1113), (0, u "java/lang/constant/ConstantDesc"), (2, u "serialVersionUID"), (0, u "J"), (3, u "REPL"), (0, u "C"), (2, u "LATIN1"), (1, u "UTF16")] 323

def k7m0 : Method := { name := "<init>", desc := "()V", sig := { parameters := [], returnType := none }, accessFlags := 1, code := none }
def k7c1 : Code := { maxStack := 4, maxLocals := 1, code := jdk_42_method_139_code, exceptionTable := #[], attributes := #[] }
def k7m1 : Method := { name := "valueOf", desc := "(C)Ljava/lang/String;", sig := { parameters := [.char], returnType := some (.object "java/lang/String") }, accessFlags := 9, code := some k7c1 }
def k7c2 : Code := { maxStack := 2, maxLocals := 3, code := jdk_42_method_151_code, exceptionTable := #[], attributes := #[] }
def k7m2 : Method := { name := "<init>", desc := "([BB)V", sig := { parameters := [(.array .byte), .byte], returnType := none }, accessFlags := 0, code := some k7c2 }
/-- java/lang/String -/
def k7 : Class := { plain "java/lang/String" (some 0) with
  accessFlags := 49
  interfaces := #[2, 3, 4, 5, 6]
  cf := some (fileOf pool7 10 #[.nestMembers #[1103]] #[{ accessFlags := 1, nameIndex := 5, descriptorIndex := 6, attributes := #[] }, { accessFlags := 9, nameIndex := 782, descriptorIndex := 783, attributes := #[] }, { accessFlags := 0, nameIndex := 5, descriptorIndex := 211, attributes := #[] }] 49 2 #[1106, 1108, 575, 1110, 1112] #[{ accessFlags := 18, nameIndex := 13, descriptorIndex := 14, attributes := #[] }, { accessFlags := 18, nameIndex := 17, descriptorIndex := 18, attributes := #[] }, { accessFlags := 2, nameIndex := 21, descriptorIndex := 22, attributes := #[] }, { accessFlags := 2, nameIndex := 25, descriptorIndex := 26, attributes := #[] }, { accessFlags := 26, nameIndex := 1116, descriptorIndex := 1117, attributes := #[] }, { accessFlags := 24, nameIndex := 40, descriptorIndex := 26, attributes := #[] }, { accessFlags := 26, nameIndex := 1101, descriptorIndex := 1102, attributes := #[] }, { accessFlags := 26, nameIndex := 1121, descriptorIndex := 1122, attributes := #[] }, { accessFlags := 25, nameIndex := 599, descriptorIndex := 600, attributes := #[] }, { accessFlags := 24, nameIndex := 1125, descriptorIndex := 18, attributes := #[] }, { accessFlags := 24, nameIndex := 1127, descriptorIndex := 18, attributes := #[] }])
  fields := #[{ name := "value", type := (.array .byte), accessFlags := 18, slot := 0, constantValue := 0 }, { name := "coder", type := .byte, accessFlags := 18, slot := 1, constantValue := 0 }, { name := "hash", type := .int, accessFlags := 2, slot := 2, constantValue := 0 }, { name := "hashIsZero", type := .boolean, accessFlags := 2, slot := 3, constantValue := 0 }, { name := "serialVersionUID", type := .long, accessFlags := 26, slot := 0, constantValue := 0 }, { name := "COMPACT_STRINGS", type := .boolean, accessFlags := 24, slot := 1, constantValue := 0 }, { name := "serialPersistentFields", type := (.array (.object "java/io/ObjectStreamField")), accessFlags := 26, slot := 2, constantValue := 0 }, { name := "REPL", type := .char, accessFlags := 26, slot := 3, constantValue := 0 }, { name := "CASE_INSENSITIVE_ORDER", type := (.object "java/util/Comparator"), accessFlags := 25, slot := 4, constantValue := 0 }, { name := "LATIN1", type := .byte, accessFlags := 24, slot := 5, constantValue := 0 }, { name := "UTF16", type := .byte, accessFlags := 24, slot := 6, constantValue := 0 }]
  methods := #[k7m0, k7m1, k7m2]
  instanceTypes := #[(.array .byte), .byte, .int, .boolean]
  staticTypes := #[.long, .boolean, (.array (.object "java/io/ObjectStreamField")), .char, (.object "java/util/Comparator"), .byte, .byte]
  resolved := Array.replicate 1451 none
  statics := some 0 }

def pool8 : Array CpInfo := pool [(4, .class_ 6), (1, u "java/lang/Object"), (0, u "<init>"), (0, u "()V"), (5, .class_ 16), (1, u "java/lang/StringLatin1"), (73, u "canEncode"), (14, u "(C)Z"), (15, u "$assertionsDisabled"), (0, u "Z"), (98, .class_ 223), (1, u "java/lang/StringLatin1$LinesSpliterator"), (156, u "toBytes"), (1, u "(C)[B"), (7, .class_ 391), (0, u "java/lang/StringLatin1$CharsSpliterator")] 3

def k8m0 : Method := { name := "<init>", desc := "()V", sig := { parameters := [], returnType := none }, accessFlags := 0, code := none }
def k8c1 : Code := { maxStack := 2, maxLocals := 1, code := jdk_43_method_3_code, exceptionTable := #[], attributes := #[] }
def k8m1 : Method := { name := "canEncode", desc := "(C)Z", sig := { parameters := [.char], returnType := some .boolean }, accessFlags := 9, code := some k8c1 }
def k8c2 : Code := { maxStack := 4, maxLocals := 1, code := jdk_43_method_46_code, exceptionTable := #[], attributes := #[] }
def k8m2 : Method := { name := "toBytes", desc := "(C)[B", sig := { parameters := [.char], returnType := some (.array .byte) }, accessFlags := 9, code := some k8c2 }
/-- java/lang/StringLatin1 -/
def k8 : Class := { plain "java/lang/StringLatin1" (some 0) with
  accessFlags := 48
  interfaces := #[]
  cf := some (fileOf pool8 14 #[.nestMembers #[390, 221]] #[{ accessFlags := 0, nameIndex := 7, descriptorIndex := 8, attributes := #[] }, { accessFlags := 9, nameIndex := 90, descriptorIndex := 105, attributes := #[] }, { accessFlags := 9, nameIndex := 380, descriptorIndex := 382, attributes := #[] }] 48 4 #[] #[{ accessFlags := 4120, nameIndex := 121, descriptorIndex := 122, attributes := #[] }])
  fields := #[{ name := "$assertionsDisabled", type := .boolean, accessFlags := 4120, slot := 0, constantValue := 0 }]
  methods := #[k8m0, k8m1, k8m2]
  instanceTypes := #[]
  staticTypes := #[.boolean]
  resolved := Array.replicate 395 none
  statics := none }

def pool9 : Array CpInfo := pool [(1, .methodref 2 3), (0, .class_ 4), (0, .nameAndType 5 6), (0, u "java/lang/Object"), (0, u "<init>"), (0, u "()V"), (0, .class_ 8), (0, u "java/lang/Record")] 13

def k9c0 : Code := { maxStack := 1, maxLocals := 1, code := jdk_30_method_1_code, exceptionTable := #[], attributes := #[] }
def k9m0 : Method := { name := "<init>", desc := "()V", sig := { parameters := [], returnType := none }, accessFlags := 4, code := some k9c0 }
/-- java/lang/Record -/
def k9 : Class := { plain "java/lang/Record" (some 0) with
  accessFlags := 1057
  interfaces := #[]
  cf := some (fileOf pool9 7 #[] #[{ accessFlags := 4, nameIndex := 5, descriptorIndex := 6, attributes := #[] }] 1057 2 #[] #[])
  fields := #[]
  methods := #[k9m0]
  instanceTypes := #[]
  staticTypes := #[]
  resolved := Array.replicate 22 none
  statics := none }

def pool10 : Array CpInfo := pool [(1, .methodref 2 3), (0, .class_ 4), (0, .nameAndType 5 6), (0, u "java/lang/Record"), (0, u "<init>"), (0, u "()V"), (0, .methodref 8 9), (0, .class_ 10), (0, .nameAndType 11 12), (0, u "com/example/cardstock/cardstock/Field"), (0, u "onCard"), (0, u "(II)Z"), (9, .fieldref 8 23), (0, .nameAndType 24 25), (0, u "key"), (0, u "Ljava/lang/String;"), (0, .fieldref 8 27), (0, .nameAndType 28 29), (0, u "from"), (0, u "I"), (0, .fieldref 8 31), (0, .nameAndType 32 29), (0, u "to"), (10, u "()I"), (10, u "width"), (30, .class_ 86), (0, u "java/io/Serializable"), (0, u "(Ljava/lang/String;II)V")] 41

def k10c0 : Code := { maxStack := 5, maxLocals := 4, code := prog_34_method_1_code, exceptionTable := #[], attributes := #[] }
def k10m0 : Method := { name := "<init>", desc := "(Ljava/lang/String;II)V", sig := { parameters := [(.object "java/lang/String"), .int, .int], returnType := none }, accessFlags := 1, code := some k10c0 }
def k10c1 : Code := { maxStack := 2, maxLocals := 2, code := prog_34_method_2_code, exceptionTable := #[], attributes := #[] }
def k10m1 : Method := { name := "onCard", desc := "(II)Z", sig := { parameters := [.int, .int], returnType := some .boolean }, accessFlags := 8, code := some k10c1 }
def k10c2 : Code := { maxStack := 2, maxLocals := 1, code := prog_34_method_4_code, exceptionTable := #[], attributes := #[] }
def k10m2 : Method := { name := "width", desc := "()I", sig := { parameters := [], returnType := some .int }, accessFlags := 1, code := some k10c2 }
/-- com/example/cardstock/cardstock/Field -/
def k10 : Class := { plain "com/example/cardstock/cardstock/Field" (some 9) with
  accessFlags := 49
  interfaces := #[2]
  cf := some (fileOf pool10 8 #[] #[{ accessFlags := 1, nameIndex := 5, descriptorIndex := 87, attributes := #[] }, { accessFlags := 8, nameIndex := 11, descriptorIndex := 12, attributes := #[] }, { accessFlags := 1, nameIndex := 54, descriptorIndex := 43, attributes := #[] }] 49 2 #[85] #[{ accessFlags := 18, nameIndex := 24, descriptorIndex := 25, attributes := #[] }, { accessFlags := 18, nameIndex := 28, descriptorIndex := 29, attributes := #[] }, { accessFlags := 18, nameIndex := 32, descriptorIndex := 29, attributes := #[] }])
  fields := #[{ name := "key", type := (.object "java/lang/String"), accessFlags := 18, slot := 0, constantValue := 0 }, { name := "from", type := .int, accessFlags := 18, slot := 1, constantValue := 0 }, { name := "to", type := .int, accessFlags := 18, slot := 2, constantValue := 0 }]
  methods := #[k10m0, k10m1, k10m2]
  instanceTypes := #[(.object "java/lang/String"), .int, .int]
  staticTypes := #[]
  resolved := Array.replicate 129 none
  statics := none }

def pool11 : Array CpInfo := pool [(2, .class_ 4), (1, u "java/lang/Object"), (0, u "<init>"), (0, u "()V"), (17, .class_ 26), (1, u "jdk/internal/util/Preconditions"), (28, .class_ 56), (0, u "jdk/internal/util/Preconditions$4"), (57, .class_ 115), (0, u "jdk/internal/util/Preconditions$1"), (7, u "SIOOBE_FORMATTER"), (0, u "Ljava/util/function/BiFunction;"), (0, .class_ 126), (0, u "jdk/internal/util/Preconditions$2"), (3, u "AIOOBE_FORMATTER"), (0, .class_ 132), (0, u "jdk/internal/util/Preconditions$3"), (3, u "IOOBE_FORMATTER")] 57

def k11m0 : Method := { name := "<init>", desc := "()V", sig := { parameters := [], returnType := none }, accessFlags := 1, code := none }
/-- jdk/internal/util/Preconditions -/
def k11 : Class := { plain "jdk/internal/util/Preconditions" (some 0) with
  accessFlags := 33
  interfaces := #[]
  cf := some (fileOf pool11 24 #[.nestMembers #[55, 131, 125, 114]] #[{ accessFlags := 1, nameIndex := 5, descriptorIndex := 6, attributes := #[] }] 33 2 #[] #[{ accessFlags := 25, nameIndex := 123, descriptorIndex := 124, attributes := #[] }, { accessFlags := 25, nameIndex := 130, descriptorIndex := 124, attributes := #[] }, { accessFlags := 25, nameIndex := 136, descriptorIndex := 124, attributes := #[] }])
  fields := #[{ name := "SIOOBE_FORMATTER", type := (.object "java/util/function/BiFunction"), accessFlags := 25, slot := 0, constantValue := 0 }, { name := "AIOOBE_FORMATTER", type := (.object "java/util/function/BiFunction"), accessFlags := 25, slot := 1, constantValue := 0 }, { name := "IOOBE_FORMATTER", type := (.object "java/util/function/BiFunction"), accessFlags := 25, slot := 2, constantValue := 0 }]
  methods := #[k11m0]
  instanceTypes := #[]
  staticTypes := #[(.object "java/util/function/BiFunction"), (.object "java/util/function/BiFunction"), (.object "java/util/function/BiFunction")]
  resolved := Array.replicate 194 none
  statics := some 1 }

def pool12 : Array CpInfo := pool [(9, u "<init>"), (6, .class_ 18), (1, u "java/lang/Object"), (0, u "()V"), (1, .class_ 23), (1, u "jdk/internal/util/ArraysSupport"), (0, u "LOG2_ARRAY_LONG_INDEX_SCALE"), (0, u "I"), (2, u "U"), (0, u "Ljdk/internal/misc/Unsafe;"), (8, u "BIG_ENDIAN"), (0, u "Z"), (8, u "LOG2_BYTE_BIT_SIZE"), (4, u "LOG2_ARRAY_INT_INDEX_SCALE"), (54, u "JLA"), (0, u "Ljdk/internal/access/JavaLangAccess;"), (11, u "LOG2_ARRAY_BOOLEAN_INDEX_SCALE"), (9, u "LOG2_ARRAY_BYTE_INDEX_SCALE"), (5, u "LOG2_ARRAY_CHAR_INDEX_SCALE"), (5, u "LOG2_ARRAY_SHORT_INDEX_SCALE"), (18, u "LOG2_ARRAY_FLOAT_INDEX_SCALE"), (24, u "LOG2_ARRAY_DOUBLE_INDEX_SCALE"), (89, u "T_BOOLEAN"), (2, u "T_CHAR"), (1, u "T_FLOAT"), (1, u "T_DOUBLE"), (1, u "T_BYTE"), (1, u "T_SHORT"), (1, u "T_INT"), (1, u "T_LONG"), (1, u "SOFT_MAX_ARRAY_LENGTH")] 83

def k12m0 : Method := { name := "<init>", desc := "()V", sig := { parameters := [], returnType := none }, accessFlags := 2, code := none }
/-- jdk/internal/util/ArraysSupport -/
def k12 : Class := { plain "jdk/internal/util/ArraysSupport" (some 0) with
  accessFlags := 33
  interfaces := #[]
  cf := some (fileOf pool12 21 #[] #[{ accessFlags := 2, nameIndex := 9, descriptorIndex := 19, attributes := #[] }] 33 16 #[] #[{ accessFlags := 24, nameIndex := 28, descriptorIndex := 29, attributes := #[] }, { accessFlags := 26, nameIndex := 38, descriptorIndex := 39, attributes := #[] }, { accessFlags := 25, nameIndex := 121, descriptorIndex := 25, attributes := #[] }, { accessFlags := 25, nameIndex := 131, descriptorIndex := 25, attributes := #[] }, { accessFlags := 25, nameIndex := 137, descriptorIndex := 25, attributes := #[] }, { accessFlags := 25, nameIndex := 143, descriptorIndex := 25, attributes := #[] }, { accessFlags := 25, nameIndex := 53, descriptorIndex := 25, attributes := #[] }, { accessFlags := 25, nameIndex := 24, descriptorIndex := 25, attributes := #[] }, { accessFlags := 25, nameIndex := 162, descriptorIndex := 25, attributes := #[] }, { accessFlags := 25, nameIndex := 187, descriptorIndex := 25, attributes := #[] }, { accessFlags := 26, nameIndex := 48, descriptorIndex := 25, attributes := #[] }, { accessFlags := 25, nameIndex := 277, descriptorIndex := 25, attributes := #[] }, { accessFlags := 25, nameIndex := 280, descriptorIndex := 25, attributes := #[] }, { accessFlags := 25, nameIndex := 282, descriptorIndex := 25, attributes := #[] }, { accessFlags := 25, nameIndex := 284, descriptorIndex := 25, attributes := #[] }, { accessFlags := 25, nameIndex := 286, descriptorIndex := 25, attributes := #[] }, { accessFlags := 25, nameIndex := 288, descriptorIndex := 25, attributes := #[] }, { accessFlags := 25, nameIndex := 290, descriptorIndex := 25, attributes := #[] }, { accessFlags := 25, nameIndex := 292, descriptorIndex := 25, attributes := #[] }, { accessFlags := 26, nameIndex := 108, descriptorIndex := 109, attributes := #[] }, { accessFlags := 25, nameIndex := 294, descriptorIndex := 25, attributes := #[] }])
  fields := #[{ name := "U", type := (.object "jdk/internal/misc/Unsafe"), accessFlags := 24, slot := 0, constantValue := 0 }, { name := "BIG_ENDIAN", type := .boolean, accessFlags := 26, slot := 1, constantValue := 0 }, { name := "LOG2_ARRAY_BOOLEAN_INDEX_SCALE", type := .int, accessFlags := 25, slot := 2, constantValue := 0 }, { name := "LOG2_ARRAY_BYTE_INDEX_SCALE", type := .int, accessFlags := 25, slot := 3, constantValue := 0 }, { name := "LOG2_ARRAY_CHAR_INDEX_SCALE", type := .int, accessFlags := 25, slot := 4, constantValue := 0 }, { name := "LOG2_ARRAY_SHORT_INDEX_SCALE", type := .int, accessFlags := 25, slot := 5, constantValue := 0 }, { name := "LOG2_ARRAY_INT_INDEX_SCALE", type := .int, accessFlags := 25, slot := 6, constantValue := 0 }, { name := "LOG2_ARRAY_LONG_INDEX_SCALE", type := .int, accessFlags := 25, slot := 7, constantValue := 0 }, { name := "LOG2_ARRAY_FLOAT_INDEX_SCALE", type := .int, accessFlags := 25, slot := 8, constantValue := 0 }, { name := "LOG2_ARRAY_DOUBLE_INDEX_SCALE", type := .int, accessFlags := 25, slot := 9, constantValue := 0 }, { name := "LOG2_BYTE_BIT_SIZE", type := .int, accessFlags := 26, slot := 10, constantValue := 0 }, { name := "T_BOOLEAN", type := .int, accessFlags := 25, slot := 11, constantValue := 0 }, { name := "T_CHAR", type := .int, accessFlags := 25, slot := 12, constantValue := 0 }, { name := "T_FLOAT", type := .int, accessFlags := 25, slot := 13, constantValue := 0 }, { name := "T_DOUBLE", type := .int, accessFlags := 25, slot := 14, constantValue := 0 }, { name := "T_BYTE", type := .int, accessFlags := 25, slot := 15, constantValue := 0 }, { name := "T_SHORT", type := .int, accessFlags := 25, slot := 16, constantValue := 0 }, { name := "T_INT", type := .int, accessFlags := 25, slot := 17, constantValue := 0 }, { name := "T_LONG", type := .int, accessFlags := 25, slot := 18, constantValue := 0 }, { name := "JLA", type := (.object "jdk/internal/access/JavaLangAccess"), accessFlags := 26, slot := 19, constantValue := 0 }, { name := "SOFT_MAX_ARRAY_LENGTH", type := .int, accessFlags := 25, slot := 20, constantValue := 0 }]
  methods := #[k12m0]
  instanceTypes := #[]
  staticTypes := #[(.object "jdk/internal/misc/Unsafe"), .boolean, .int, .int, .int, .int, .int, .int, .int, .int, .int, .int, .int, .int, .int, .int, .int, .int, .int, (.object "jdk/internal/access/JavaLangAccess"), .int]
  resolved := Array.replicate 378 none
  statics := none }

def pool13 : Array CpInfo := pool [(1, u "java/lang/Cloneable"), (0, .class_ 1), (0, u "java/lang/Object"), (0, .class_ 3)] 3

/-- java/lang/Cloneable -/
def k13 : Class := { plain "java/lang/Cloneable" (some 0) with
  accessFlags := 1537
  interfaces := #[]
  cf := some (fileOf pool13 2 #[] #[] 1537 4 #[] #[])
  fields := #[]
  methods := #[]
  instanceTypes := #[]
  staticTypes := #[]
  resolved := Array.replicate 8 none
  statics := none }

/-- the primitive byte -/
def k14 : Class := { plain "byte" none with kind := .primitive 'B', accessFlags := 0x411 }
/-- [B -/
def k15 : Class := { plain "[B" (some 0) with kind := .array 14 .byte, interfaces := #[13, 2], accessFlags := 1041 }

/-- the primitive int -/
def k16 : Class := { plain "int" none with kind := .primitive 'I', accessFlags := 0x411 }
/-- [I -/
def k17 : Class := { plain "[I" (some 0) with kind := .array 16 .int, interfaces := #[13, 2], accessFlags := 1041 }

def heap : Heap := #[{ cls := 7, slots := #[.long 0, .int 1, .null, .int 0, .null, .int 0, .int 0], vm := .statics 7 },
  { cls := 11, slots := #[.null, .null, .null], vm := .statics 11 }]
def classes : Array Class := #[k0, k1, k2, k3, k4, k5, k6, k7, k8, k9, k10, k11, k12, k13, k14, k15, k16, k17]
def interned : List (Array UInt16 × Addr) := []
def slotsUsed : Nat := 10
def theMethod : MethodId := ⟨1, 1⟩
def args0 : Array Value := #[.int 3, .int 4, .int 5, .int 65]
def aboutOver (below : List Frame) : State where
  vm := { classes := classes, interned := interned.toArray }
  heap := heap
  slotsUsed := slotsUsed
  threads := #[{ frames := .invoking theMethod args0 :: below }]
def below0 : List Frame := [.native { method := ⟨0, 0⟩, args := #[] }]
def about1 : State := aboutOver below0
def p0 : Program := .bare "" "" ""
def e0 : Env := launch0.env 0 0 0
theorem w_frames : about1.frames = Frame.invoking theMethod args0 :: below0 := rfl
set_option maxRecDepth 65536 in
theorem w_args : argsFit about1.vm theMethod args0 = true := by decide +kernel
set_option maxRecDepth 65536 in
theorem w_heap : heapFits about1 = true := by decide +kernel
set_option maxRecDepth 65536 in
theorem w_runnable : about1.curStatus? = some .runnable := by decide +kernel
set_option maxRecDepth 65536 in
theorem w_alone : about1.alone = true := by decide +kernel
set_option maxRecDepth 65536 in
theorem w_named : about1.methodNamed? x = some theMethod := by decide +kernel
set_option maxRecDepth 65536 in
theorem w_hears : about1.hears theMethod below0 = true := by decide +kernel
set_option maxRecDepth 65536 in
theorem w_ripe : about1.ripe theMethod args0 below0 = true := by decide +kernel
theorem w_running : about1.status = .running := rfl
set_option maxRecDepth 65536 in
theorem w_room : about1.hasRoom e0.platform room_1 = true :=
  launch0.hasRoom_least _ room_1 (by decide +kernel) (by decide +kernel) (by decide +kernel) (by decide +kernel) (by decide +kernel) (by decide +kernel)
theorem allAtoms_all (ts : List Jvm.Cond) (a : Array Jvm.Value) (st : Jvm.State) : (allAtoms ts).before a st = ts.all (fun c => c.before a st) := by
  induction ts with
  | nil => rfl
  | cons c t ih =>
    show (Jvm.Cond.and c (allAtoms t)).before a st = _
    rw [Jvm.Cond.before_and, ih, List.all_cons]
def words1 : List Jvm.Cond := Jvm.Cond.code x code maxLocals ret :: tables_1
/-- a 'code' word, met by the world's own term for the bytes: nothing is compared byte by byte -/
theorem code_word {y : MethodName} {bytes : ByteArray} {mx : Nat} {rt : Option FieldType} {a : Array Value} {s : State} {m : MethodId} {meth : Method} {c : Code} (h1 : s.methodNamed? y = some m) (h2 : s.vm.method? m = some meth) (h3 : meth.code = some c) (h4 : c.code = bytes)
    (h5 : (c.maxLocals == mx && c.exceptionTable.isEmpty && decide (c.maxStack ≤ mostOperands) && decide (meth.sig.returnType = rt) && !meth.locks && decide (parseMethodDescriptor y.desc = some meth.sig)) = true) : (Jvm.Cond.code y bytes mx rt).before a s = true := by
  simp only [Bool.and_eq_true, beq_iff_eq, Bool.not_eq_true', decide_eq_true_eq] at h5
  obtain ⟨⟨⟨⟨⟨g1, g2⟩, g3⟩, g4⟩, g5⟩, g6⟩ := h5
  simp [Cond.before, Cond.holds, Cond.value, h1, h2, h3, h4, g1, g2, g3, g4, g5, g6]
def isCode : Jvm.Cond → Bool
  | .code _ _ _ _ => true
  | _ => false
theorem all_split {L : List Jvm.Cond} {P : Jvm.Cond → Bool} (h1 : L.all (fun c => isCode c || P c) = true) (h2 : ∀ c ∈ L.filter isCode, P c = true) : L.all P = true := by
  refine List.all_eq_true.mpr fun c hc => ?_
  have h := List.all_eq_true.mp h1 c hc
  rcases Bool.eq_false_or_eq_true (isCode c) with hi | hi
  · exact h2 c (List.mem_filter.mpr ⟨hc, hi⟩)
  · simpa [hi] using h
set_option maxRecDepth 65536 in
theorem w_c0 : (Jvm.Cond.code x code maxLocals ret).before args0 about1 = true := code_word (m := ⟨1, 1⟩) (meth := k1m1) (c := k1c1) (by decide +kernel) rfl rfl rfl (by decide +kernel)
set_option maxRecDepth 65536 in
theorem w_c1 : (Jvm.Cond.code ({ cls := "java/lang/String", name := "valueOf", desc := "(C)Ljava/lang/String;" } : Jvm.MethodName) jdk_42_method_139_code (1 : Nat) (Option.some (Jvm.ClassFile.FieldType.object "java/lang/String"))).before args0 about1 = true := code_word (m := ⟨7, 1⟩) (meth := k7m1) (c := k7c1) (by decide +kernel) rfl rfl rfl (by decide +kernel)
set_option maxRecDepth 65536 in
theorem w_c2 : (Jvm.Cond.code ({ cls := "java/lang/StringLatin1", name := "canEncode", desc := "(C)Z" } : Jvm.MethodName) jdk_43_method_3_code (1 : Nat) (Option.some Jvm.ClassFile.FieldType.boolean)).before args0 about1 = true := code_word (m := ⟨8, 1⟩) (meth := k8m1) (c := k8c1) (by decide +kernel) rfl rfl rfl (by decide +kernel)
set_option maxRecDepth 65536 in
theorem w_c3 : (Jvm.Cond.code ({ cls := "java/lang/StringLatin1", name := "toBytes", desc := "(C)[B" } : Jvm.MethodName) jdk_43_method_46_code (1 : Nat) (Option.some (Jvm.ClassFile.FieldType.array Jvm.ClassFile.FieldType.byte))).before args0 about1 = true := code_word (m := ⟨8, 2⟩) (meth := k8m2) (c := k8c2) (by decide +kernel) rfl rfl rfl (by decide +kernel)
set_option maxRecDepth 65536 in
theorem w_c4 : (Jvm.Cond.code ({ cls := "java/lang/String", name := "<init>", desc := "([BB)V" } : Jvm.MethodName) jdk_42_method_151_code (3 : Nat) (Option.none : Option Jvm.ClassFile.FieldType)).before args0 about1 = true := code_word (m := ⟨7, 2⟩) (meth := k7m2) (c := k7c2) (by decide +kernel) rfl rfl rfl (by decide +kernel)
set_option maxRecDepth 65536 in
theorem w_c5 : (Jvm.Cond.code ({ cls := "java/lang/Object", name := "<init>", desc := "()V" } : Jvm.MethodName) object_method_1_code (1 : Nat) (Option.none : Option Jvm.ClassFile.FieldType)).before args0 about1 = true := code_word (m := ⟨0, 0⟩) (meth := k0m0) (c := k0c0) (by decide +kernel) rfl rfl rfl (by decide +kernel)
set_option maxRecDepth 65536 in
theorem w_c6 : (Jvm.Cond.code ({ cls := "com/example/cardstock/cardstock/Field", name := "<init>", desc := "(Ljava/lang/String;II)V" } : Jvm.MethodName) prog_34_method_1_code (4 : Nat) (Option.none : Option Jvm.ClassFile.FieldType)).before args0 about1 = true := code_word (m := ⟨10, 0⟩) (meth := k10m0) (c := k10c0) (by decide +kernel) rfl rfl rfl (by decide +kernel)
set_option maxRecDepth 65536 in
theorem w_c7 : (Jvm.Cond.code ({ cls := "java/lang/Record", name := "<init>", desc := "()V" } : Jvm.MethodName) jdk_30_method_1_code (1 : Nat) (Option.none : Option Jvm.ClassFile.FieldType)).before args0 about1 = true := code_word (m := ⟨9, 0⟩) (meth := k9m0) (c := k9c0) (by decide +kernel) rfl rfl rfl (by decide +kernel)
set_option maxRecDepth 65536 in
theorem w_c8 : (Jvm.Cond.code ({ cls := "com/example/cardstock/cardstock/Field", name := "onCard", desc := "(II)Z" } : Jvm.MethodName) prog_34_method_2_code (2 : Nat) (Option.some Jvm.ClassFile.FieldType.boolean)).before args0 about1 = true := code_word (m := ⟨10, 1⟩) (meth := k10m1) (c := k10c1) (by decide +kernel) rfl rfl rfl (by decide +kernel)
set_option maxRecDepth 65536 in
theorem w_c9 : (Jvm.Cond.code ({ cls := "com/example/cardstock/cardstock/Field", name := "width", desc := "()I" } : Jvm.MethodName) prog_34_method_4_code (1 : Nat) (Option.some Jvm.ClassFile.FieldType.int)).before args0 about1 = true := code_word (m := ⟨10, 2⟩) (meth := k10m2) (c := k10c2) (by decide +kernel) rfl rfl rfl (by decide +kernel)
def codes1 : List Jvm.Cond := [Jvm.Cond.code x code maxLocals ret, Jvm.Cond.code ({ cls := "java/lang/String", name := "valueOf", desc := "(C)Ljava/lang/String;" } : Jvm.MethodName) jdk_42_method_139_code (1 : Nat) (Option.some (Jvm.ClassFile.FieldType.object "java/lang/String")), Jvm.Cond.code ({ cls := "java/lang/StringLatin1", name := "canEncode", desc := "(C)Z" } : Jvm.MethodName) jdk_43_method_3_code (1 : Nat) (Option.some Jvm.ClassFile.FieldType.boolean), Jvm.Cond.code ({ cls := "java/lang/StringLatin1", name := "toBytes", desc := "(C)[B" } : Jvm.MethodName) jdk_43_method_46_code (1 : Nat) (Option.some (Jvm.ClassFile.FieldType.array Jvm.ClassFile.FieldType.byte)), Jvm.Cond.code ({ cls := "java/lang/String", name := "<init>", desc := "([BB)V" } : Jvm.MethodName) jdk_42_method_151_code (3 : Nat) (Option.none : Option Jvm.ClassFile.FieldType), Jvm.Cond.code ({ cls := "java/lang/Object", name := "<init>", desc := "()V" } : Jvm.MethodName) object_method_1_code (1 : Nat) (Option.none : Option Jvm.ClassFile.FieldType), Jvm.Cond.code ({ cls := "com/example/cardstock/cardstock/Field", name := "<init>", desc := "(Ljava/lang/String;II)V" } : Jvm.MethodName) prog_34_method_1_code (4 : Nat) (Option.none : Option Jvm.ClassFile.FieldType), Jvm.Cond.code ({ cls := "java/lang/Record", name := "<init>", desc := "()V" } : Jvm.MethodName) jdk_30_method_1_code (1 : Nat) (Option.none : Option Jvm.ClassFile.FieldType), Jvm.Cond.code ({ cls := "com/example/cardstock/cardstock/Field", name := "onCard", desc := "(II)Z" } : Jvm.MethodName) prog_34_method_2_code (2 : Nat) (Option.some Jvm.ClassFile.FieldType.boolean), Jvm.Cond.code ({ cls := "com/example/cardstock/cardstock/Field", name := "width", desc := "()I" } : Jvm.MethodName) prog_34_method_4_code (1 : Nat) (Option.some Jvm.ClassFile.FieldType.int)]
set_option maxRecDepth 65536 in
theorem codes_eq : words1.filter isCode = codes1 := rfl
theorem w_codes : ∀ c ∈ words1.filter isCode, c.before args0 about1 = true := by
  rw [codes_eq]
  intro c hc
  simp only [codes1, List.mem_cons, List.not_mem_nil, or_false] at hc
  rcases hc with rfl | rfl | rfl | rfl | rfl | rfl | rfl | rfl | rfl | rfl
  · exact w_c0
  · exact w_c1
  · exact w_c2
  · exact w_c3
  · exact w_c4
  · exact w_c5
  · exact w_c6
  · exact w_c7
  · exact w_c8
  · exact w_c9
set_option maxRecDepth 65536 in
theorem w_t1 : (words1.take 24).all (fun c => isCode c || c.before args0 about1) = true := by decide +kernel
set_option maxRecDepth 65536 in
theorem w_t2 : ((words1.drop 24).take 24).all (fun c => isCode c || c.before args0 about1) = true := by decide +kernel
set_option maxRecDepth 65536 in
theorem w_t3 : ((words1.drop 24).drop 24).all (fun c => isCode c || c.before args0 about1) = true := by decide +kernel
theorem w_tables : (allAtoms (Jvm.Cond.code x code maxLocals ret :: tables_1)).before args0 about1 = true := by
  rw [allAtoms_all]
  show words1.all (fun c => c.before args0 about1) = true
  refine all_split ?_ w_codes
  rw [← List.take_append_drop 24 words1, List.all_append, w_t1, ← List.take_append_drop 24 (words1.drop 24), List.all_append, w_t2, w_t3]
  rfl
set_option maxRecDepth 65536 in
theorem w_rest : rest_1_c.before args0 about1 = true := by decide +kernel
set_option maxRecDepth 65536 in
theorem w_case : (Jvm.Cond.and given_1 narrow_1).before args0 about1 = true := by decide +kernel
theorem w_applies : (headSpec (Jvm.Cond.code x code maxLocals ret :: tables_1) room_1).applies x e0.platform about1 = true :=
  (Spec.applies_iff w_frames).mpr ⟨w_running, w_runnable, w_alone, w_named, w_hears, w_ripe, w_room, w_tables⟩
theorem atStart : AtStart classFile x code maxLocals ret World_1 tables_1 room_1 Calls_1 rest_1 Pre_1 launch0 p0 e0 about1 theMethod args0 below0 :=
  ⟨lists_1, trivial, launch0.admits_env _ _ _, launch0.least_env, fairChoices_fair.cas, fairChoices_fair.clock, w_frames, w_args, w_heap, w_applies, trivial, w_rest, w_case⟩
end start1
theorem witness_1 : WitnessClaimed_1 := ⟨start1.p0, start1.e0, start1.about1, start1.theMethod, start1.args0, start1.below0, start1.atStart⟩
end Jvm.Pilot.@@N@@
