import JvmDerived
import JvmDerived.Pilot.@@N@@Statement
import JvmDerived.Pilot.@@N@@Code
set_option linter.unusedVariables false
set_option linter.unusedSimpArgs false
namespace Jvm.Pilot.@@N@@
open Jvm Jvm.ClassFile Sem Op Lib Jvm.Free Jvm.Stand Jvm.LawKit Jvm.RoadKit Bundle Jvm.Pilot.@@N@@.Jvm.D
/-! own_Go: a walk still to be made from the state A; every step of the machine is one own_by. -/
def own_Go (tb : Tables) (e : Env) (below : List Frame) (A : State) (R : Outcome → State → Prop) : Prop := ∃ s₂ o, Steps tb e below A s₂ ∧ s₂.status = .running ∧ Ended s₂ below o ∧ R o s₂
theorem own_by {tb : Tables} {e : Env} {below : List Frame} {A B : State} {R : Outcome → State → Prop} (h : ∀ t, Steps tb e below A t → Steps tb e below B t) (g : own_Go tb e below A R) : own_Go tb e below B R := by
  obtain ⟨s₂, o, h1, h2⟩ := g
  exact ⟨s₂, o, h _ h1, h2⟩
def own_R (s : State) (Q : Option Value → Heap → List Loc → Prop) (cc nn : Nat) (o : Outcome) (U : State) : Prop := ∃ v L, o = .returned v ∧ Q v U.heap L ∧ FrameEnd s o U L cc nn
abbrev own_lrem (x y : Int64) : Int64 := x - (x / y) * y
section OwnEnds
variable {p : Program} {l : Launch} {e : Env} {R : Room} {s : State} {m : MethodId} {args : Array Value} {below : List Frame} {meth : Method} {c : Code} {T : State} {locs : List Loc} {cells slots : Nat} {Q : Option Value → Heap → List Loc → Prop} {cc nn : Nat}
theorem own_fin (X : Stand p l e R s m args below meth c T locs cells slots) {v : Option Value} (hv : meth.sig.returnType = none → v = none) (hlk : meth.locks = false) {B : State}
    (hs : ∀ fs, (∀ (f : JFrame) (acts : List Action), f.method = m → f.locked = none → f.entered = [] → (doReturn e (T.setTop f) acts v).1 = T.setFrames fs) → Steps p.tables e below B (T.setFrames fs))
    (hq : Q v T.heap locs) (hc : cells ≤ cc) (hn : slots ≤ nn) : own_Go p.tables e below B (own_R s Q cc nn) := by
  obtain ⟨fs, hr, hrun, hended, hW, hsame⟩ := X.leave hv hlk
  exact ⟨_, _, hs fs hr, hrun, hended, v, locs, rfl, hq, ⟨_, rfl⟩, hW, hsame.mono hc hn⟩
theorem own_retN (X : Stand p l e R s m args below meth c T locs cells slots) (hx : p.tables.exec = Jvm.exec) {pc : Nat} {Ls : Array Slot} {z : Int32} {t : FieldType} {rest : List Value} (hret : meth.sig.returnType = some t) (hlk : meth.locks = false) (ht : t = .boolean ∨ t = .byte ∨ t = .char ∨ t = .short)
    (hd : decode c.code pc = .ok (.ireturn, 1)) (hq : Q (some (.int (nar t z))) T.heap locs) (hc : cells ≤ cc) (hn : slots ≤ nn) : own_Go p.tables e below (T.setTop (mkF m pc Ls (.int z :: rest))) (own_R s Q cc nn) :=
  own_fin X (fun h => by rw [hret] at h; cases h) hlk (fun fs hr => retN X hx hret ht hd hr) hq hc hn
theorem own_retI (X : Stand p l e R s m args below meth c T locs cells slots) (hx : p.tables.exec = Jvm.exec) {pc : Nat} {Ls : Array Slot} {z : Int32} (hret : meth.sig.returnType = some .int) (hlk : meth.locks = false)
    (hd : decode c.code pc = .ok (.ireturn, 1)) (hq : Q (some (.int z)) T.heap locs) (hc : cells ≤ cc) (hn : slots ≤ nn) : own_Go p.tables e below (T.setTop (mkF m pc Ls [.int z])) (own_R s Q cc nn) :=
  own_fin X (fun h => by rw [hret] at h; cases h) hlk (fun fs hr => X.ireturnOut hx hret rfl (Or.inl rfl) hd hr) hq hc hn
theorem own_retL (X : Stand p l e R s m args below meth c T locs cells slots) (hx : p.tables.exec = Jvm.exec) {pc : Nat} {Ls : Array Slot} {z : Int64} (hret : meth.sig.returnType = some .long) (hlk : meth.locks = false)
    (hd : decode c.code pc = .ok (.lreturn, 1)) (hq : Q (some (.long z)) T.heap locs) (hc : cells ≤ cc) (hn : slots ≤ nn) : own_Go p.tables e below (T.setTop (mkF m pc Ls [.long z])) (own_R s Q cc nn) :=
  own_fin X (fun h => by rw [hret] at h; cases h) hlk (fun fs hr => X.lreturnOut hx hret hd hr) hq hc hn
theorem own_retA (X : Stand p l e R s m args below meth c T locs cells slots) (hx : p.tables.exec = Jvm.exec) {pc : Nat} {Ls : Array Slot} {w : Value} {t : FieldType} (hret : meth.sig.returnType = some t) (hlk : meth.locks = false) (hw : w.isRef = true) (ht : t.isReference = true)
    (hd : decode c.code pc = .ok (.areturn, 1)) (hq : Q (some w) T.heap locs) (hc : cells ≤ cc) (hn : slots ≤ nn) : own_Go p.tables e below (T.setTop (mkF m pc Ls [w])) (own_R s Q cc nn) :=
  own_fin X (fun h => by rw [hret] at h; cases h) hlk (fun fs hr => X.areturnOut hx hw hret ht hd hr) hq hc hn
theorem own_retV (X : Stand p l e R s m args below meth c T locs cells slots) (hx : p.tables.exec = Jvm.exec) {pc : Nat} {Ls : Array Slot} (hret : meth.sig.returnType = none) (hlk : meth.locks = false)
    (hd : decode c.code pc = .ok (.return_, 1)) (hq : Q none T.heap locs) (hc : cells ≤ cc) (hn : slots ≤ nn) : own_Go p.tables e below (T.setTop (mkF m pc Ls [])) (own_R s Q cc nn) :=
  own_fin X (fun _ => rfl) hlk (fun fs hr => X.returnOut hx hret hd hr) hq hc hn
end OwnEnds
theorem own_nin {a b : Addr} (h : a ≠ b) : a ∉ [b] := fun q => h (List.mem_singleton.mp q)
theorem own_nin2 {a b c : Addr} (h : a ≠ b) (h' : a ≠ c) : a ∉ [b, c] := fun q => by
  rcases List.mem_cons.mp q with q | q
  · exact h q
  · exact h' (List.mem_singleton.mp q)
section OwnArrays
variable {p : Program} {l : Launch} {e : Env} {R : Room} {s : State} {m : MethodId} {args : Array Value} {below : List Frame} {meth : Method} {c : Code} {T : State} {locs : List Loc} {cells slots : Nat} {Z : State} {h : Heap} {a : Addr} {k : ClassId} {z j : Int32} {vs : List Value} {dv v : Value} {g : JFrame} {rest : List Value}
theorem own_iaload (X : Stand p l e R s m args below meth c T locs cells slots) (hx : p.tables.exec = Jvm.exec) (hZ : Z.Warmed39 s.vm) (eT : T.heap = h) (F : Arv Z h a k .int z vs dv) (hj : ¬ j < 0 ∧ j < z) (hv : vs.getD j.toNatClampNeg dv = v)
    (hg : g.method = m) (hs : g.stack = .int j :: .ref a :: rest) (hd : decode c.code g.pc = .ok (.iaload, 1)) (t : State) (kt : Steps p.tables e below (T.setTop { g with pc := g.pc + 1, stack := v :: rest }) t) : Steps p.tables e below (T.setTop g) t := by
  obtain ⟨cl, A, -, S, -, H, -⟩ := F
  exact X.iaload hx (by rw [eT]; exact A.1) (State.isArrayOf_alike hZ.alike A.2.1) A.2.2 (inb_of S hj) (H.at (inb_of S hj) hv) hg hs hd t kt
theorem own_caload (X : Stand p l e R s m args below meth c T locs cells slots) (hx : p.tables.exec = Jvm.exec) (hZ : Z.Warmed39 s.vm) (eT : T.heap = h) (F : Arv Z h a k .char z vs dv) (hj : ¬ j < 0 ∧ j < z) (hv : vs.getD j.toNatClampNeg dv = v)
    (hg : g.method = m) (hs : g.stack = .int j :: .ref a :: rest) (hd : decode c.code g.pc = .ok (.caload, 1)) (t : State) (kt : Steps p.tables e below (T.setTop { g with pc := g.pc + 1, stack := v :: rest }) t) : Steps p.tables e below (T.setTop g) t := by
  obtain ⟨cl, A, -, S, -, H, -⟩ := F
  exact X.caload hx (by rw [eT]; exact A.1) (State.isArrayOf_alike hZ.alike A.2.1) A.2.2 (inb_of S hj) (H.at (inb_of S hj) hv) hg hs hd t kt
theorem own_baload (X : Stand p l e R s m args below meth c T locs cells slots) (hx : p.tables.exec = Jvm.exec) (hZ : Z.Warmed39 s.vm) (eT : T.heap = h) (F : Arv Z h a k .byte z vs dv) (hj : ¬ j < 0 ∧ j < z) (hv : vs.getD j.toNatClampNeg dv = v)
    (hg : g.method = m) (hs : g.stack = .int j :: .ref a :: rest) (hd : decode c.code g.pc = .ok (.baload, 1)) (t : State) (kt : Steps p.tables e below (T.setTop { g with pc := g.pc + 1, stack := v :: rest }) t) : Steps p.tables e below (T.setTop g) t := by
  obtain ⟨cl, A, -, S, -, H, -⟩ := F
  exact X.baloadBytes hx (by rw [eT]; exact A.1) (State.isArrayOf_alike hZ.alike A.2.1) A.2.2 (inb_of S hj) (H.at (inb_of S hj) hv) hg hs hd t kt
theorem own_alen {ty : FieldType} (X : Stand p l e R s m args below meth c T locs cells slots) (hx : p.tables.exec = Jvm.exec) (hZ : Z.Warmed39 s.vm) (eT : T.heap = h) (F : Arv Z h a k ty z vs dv)
    (hg : g.method = m) (hs : g.stack = .ref a :: rest) (hd : decode c.code g.pc = .ok (.arraylength, 1)) (t : State) (kt : Steps p.tables e below (T.setTop { g with pc := g.pc + 1, stack := .int z :: rest }) t) : Steps p.tables e below (T.setTop g) t := by
  obtain ⟨cl, A, -, S, N, -, -⟩ := F
  exact X.arraylength hx (by rw [eT]; exact A.1) (State.isArrayOf_alike hZ.alike A.2.1) hg hs hd t (by rw [len_of S N]; exact kt)
end OwnArrays
section OwnBounds
variable {x k k' : Int32}
theorem own_i1 (h : x < k') (q : k'.toInt ≤ k.toInt) : x < k := by rw [Int32.lt_iff_toInt_lt] at *; omega
theorem own_i2 (h : ¬ k' < x) (q : k'.toInt < k.toInt) : x < k := by rw [Int32.lt_iff_toInt_lt] at *; omega
theorem own_i3 (h : ¬ x < k') (q : k.toInt ≤ k'.toInt) : ¬ x < k := by rw [Int32.lt_iff_toInt_lt] at *; omega
theorem own_i4 (h : k' < x) (q : k.toInt ≤ k'.toInt + 1) : ¬ x < k := by rw [Int32.lt_iff_toInt_lt] at *; omega
theorem own_j1 (h : k' < x) (q : k.toInt ≤ k'.toInt) : k < x := by rw [Int32.lt_iff_toInt_lt] at *; omega
theorem own_j2 (h : ¬ x < k') (q : k.toInt < k'.toInt) : k < x := by rw [Int32.lt_iff_toInt_lt] at *; omega
theorem own_j3 (h : ¬ k' < x) (q : k'.toInt ≤ k.toInt) : ¬ k < x := by rw [Int32.lt_iff_toInt_lt] at *; omega
theorem own_j4 (h : x < k') (q : k'.toInt ≤ k.toInt + 1) : ¬ k < x := by rw [Int32.lt_iff_toInt_lt] at *; omega
theorem own_q1 (h : x < k') (q : k'.toInt ≤ k.toInt) : ¬ x = k := fun u => by rw [Int32.lt_iff_toInt_lt] at *; subst u; omega
theorem own_q2 (h : k' < x) (q : k.toInt ≤ k'.toInt) : ¬ x = k := fun u => by rw [Int32.lt_iff_toInt_lt] at *; subst u; omega
theorem own_q3 (h : ¬ x < k') (q : k.toInt < k'.toInt) : ¬ x = k := fun u => by rw [Int32.lt_iff_toInt_lt] at *; subst u; omega
theorem own_q4 (h : ¬ k' < x) (q : k'.toInt < k.toInt) : ¬ x = k := fun u => by rw [Int32.lt_iff_toInt_lt] at *; subst u; omega
end OwnBounds
theorem own_sta_keep {Z : State} {h h' : Heap} {C n d : String} {w : Value} (F : Sta Z h C n d w) (K : Keep h h' []) : Sta Z h' C n d w := by
  obtain ⟨cf, i, k, f, st, cell, h1, h2, h3, h4, h5, r⟩ := F
  exact ⟨cf, i, k, f, st, cell, h1, h2, h3, h4, K.2.1 _ _ h5 List.not_mem_nil, r⟩
theorem own_bm32 {z : Int} (h1 : -2147483648 ≤ z) (h2 : z < 2147483648) : z.bmod (2 ^ 32) = z := by
  apply Int.bmod_eq_of_le <;> omega
theorem own_pos31 (p : Int32) : 0 ≤ (p &&& 2147483647).toInt := by
  have hn : (p &&& 2147483647).toBitVec.toNat < 2 ^ 31 := by
    show (p.toBitVec &&& (2147483647 : Int32).toBitVec).toNat < 2 ^ 31
    rw [BitVec.toNat_and]
    exact Nat.lt_of_le_of_lt Nat.and_le_right (by decide)
  show 0 ≤ (p &&& 2147483647).toBitVec.toInt
  rw [BitVec.toInt_eq_toNat_cond, if_pos (by omega)]
  omega
theorem own_rem31 (p n : Int32) (hn : 0 < n.toInt) : 0 ≤ ((p &&& 2147483647) % n).toInt ∧ ((p &&& 2147483647) % n).toInt < n.toInt := by
  rw [Int32.toInt_mod, Int.tmod_eq_emod_of_nonneg (own_pos31 p)]
  exact ⟨Int.emod_nonneg _ (by omega), Int.emod_lt_of_pos _ hn⟩
theorem own_and3 (p : Int32) : p &&& 3 = 0 ∨ p &&& 3 = 1 ∨ p &&& 3 = 2 ∨ p &&& 3 = 3 := by
  have hn : (p &&& 3).toBitVec.toNat ≤ 3 := by
    show (p.toBitVec &&& (3 : Int32).toBitVec).toNat ≤ 3
    rw [BitVec.toNat_and]
    exact Nat.and_le_right
  have e : (p &&& 3).toInt = ((p &&& 3).toBitVec.toNat : Int) := by
    show (p &&& 3).toBitVec.toInt = _
    rw [BitVec.toInt_eq_toNat_cond, if_pos (by omega)]
  simp only [← Int32.toInt_inj, e, show (0 : Int32).toInt = 0 from by decide, show (1 : Int32).toInt = 1 from by decide, show (2 : Int32).toInt = 2 from by decide, show (3 : Int32).toInt = 3 from by decide]
  omega
theorem own_chr (p : Int32) : ¬ (255 : Int32) < (p &&& 255).toUInt32.toUInt16.toUInt32.toInt32 := by
  have hn : (p &&& 255).toBitVec.toNat ≤ 255 := by
    show (p.toBitVec &&& (255 : Int32).toBitVec).toNat ≤ 255
    rw [BitVec.toNat_and]
    exact Nat.and_le_right
  have e : ((p &&& 255).toUInt32.toUInt16.toUInt32.toInt32).toInt = ((p &&& 255).toBitVec.toNat : Int) := by
    show ((((p &&& 255).toBitVec.setWidth 16).setWidth 32).toInt) = _
    have q : (((p &&& 255).toBitVec.setWidth 16).setWidth 32).toNat = (p &&& 255).toBitVec.toNat := by
      simp only [BitVec.toNat_setWidth]; omega
    rw [BitVec.toInt_eq_toNat_cond, if_pos (by omega), q]
  rw [Int32.lt_iff_toInt_lt, e, show (255 : Int32).toInt = 255 from by decide]
  omega
theorem own_nb (y : Int32) : nar .byte (y.toInt8.toInt32) = y.toInt8.toInt32 := by
  show y.toInt8.toInt32.toInt8.toInt32 = _
  rw [Int8.toInt8_toInt32]
def own_canEnc (p0 : Int32) : Int32 := (if (255 : Int32) < p0 then (0 : Int32) else (1 : Int32))
theorem pn_0 : plainName "java/lang/StringLatin1" = true := by first | (simp [plainName, overriddenIn]; done) | decide +kernel
theorem d_jdk_43_method_3_code_0 : decode jdk_43_method_3_code 0 = .ok (.iload_n 0, 1) := by decide +kernel
theorem d_jdk_43_method_3_code_1 : decode jdk_43_method_3_code 1 = .ok (.sipush 255, 3) := by decide +kernel
theorem d_jdk_43_method_3_code_4 : decode jdk_43_method_3_code 4 = .ok (.if_icmp .gt 7, 3) := by decide +kernel
theorem d_jdk_43_method_3_code_11 : decode jdk_43_method_3_code 11 = .ok (.iconst 0, 1) := by decide +kernel
theorem d_jdk_43_method_3_code_12 : decode jdk_43_method_3_code 12 = .ok (.ireturn, 1) := by decide +kernel
theorem d_jdk_43_method_3_code_7 : decode jdk_43_method_3_code 7 = .ok (.iconst 1, 1) := by decide +kernel
theorem d_jdk_43_method_3_code_8 : decode jdk_43_method_3_code 8 = .ok (.goto 4, 3) := by decide +kernel
theorem ef_1 (m : MethodId) (p0 : Int32) : entryFrame m #[(.int p0)] 1 = mkF m 0 #[.val (.int p0)] [] := by first | (simp [entryFrame, mkF, argsToLocals, Value.category]; done) | rfl
def Q_rm_own_canEnc (Z : State) (p0 : Int32)  (h0 : Heap) (n0 : Nat) (v : Option Value) (h : Heap) (L : List Loc) : Prop := v = some (.int (own_canEnc p0)) ∧ Fr n0 L ∧ h = h0
set_option maxRecDepth 65536 in
set_option maxHeartbeats 40000000 in
theorem rm_own_canEnc (l : Launch) (Z : State) (a0 : Array Value) (hw : ∀ d ∈ tables_1, d.before a0 Z = true) (ws : List Jvm.Cond) (p0 : Int32)  (h0 : Heap) (n0 : Nat) (Z0 : n0 ≤ h0.size)  :
    MetFree l (⟨"java/lang/StringLatin1", "canEncode", "(C)Z"⟩ : MethodName) (head1 (Jvm.Cond.code (⟨"java/lang/StringLatin1", "canEncode", "(C)Z"⟩ : MethodName) jdk_43_method_3_code 1 (some .boolean) :: ws) ({ frames := 0, cells := 0, slots := 0, locals := 0 } : Room)) (fun av_ U => av_ = #[(.int p0)] ∧ Z.Warmed39 U.vm ∧ U.heap = h0) (fun _ _ _ _ _ => True) (fun _ U o U' => ∃ v L, o = .returned v ∧ Q_rm_own_canEnc Z p0 h0 n0 v U'.heap L ∧ FrameEnd U o U' L ({ frames := 0, cells := 0, slots := 0, locals := 0 } : Room).cells ({ frames := 0, cells := 0, slots := 0, locals := 0 } : Room).slots) := by
  refine MetFree.of_bodySF (plainFor_of_name pn_0) hisR ?_
  intro p e s m args below meth c s₁ Bd hml0 hP hK
  obtain ⟨rfl, hZ, hh⟩ := hP
  have hx := Bd.exec
  have hby := Bd.bytes
  have hml : c.maxLocals = 1 := hml0
  have hown : s.vm.findClass "java/lang/StringLatin1" = some m.cls := findClass_of_methodNamed Bd.named
  have hnm := (name_of_methodNamed Bd.named Bd.method).1
  have hlk : meth.locks = false := BodyLoose.notSynchronized Bd
  have X0 : Stand p l e ({ frames := 0, cells := 0, slots := 0, locals := 0 } : Room) s m #[(.int p0)] below meth c s₁ [] 0 0 := Stand.of_body Bd
  have e0 : s₁.heap = h0 := by rw [← hh, Bd.state]; rfl
  have N0 := Fr.nil n0
  refine own_by (fun _ kt => castTop (ef_1 m p0) kt) (R := own_R s (Q_rm_own_canEnc Z p0 h0 n0) 0 0) ?_
  show own_Go p.tables e below (s₁.setTop (mkF m 0 #[.val (.int p0)] [])) _
  refine own_by (fun _ kt => XS.iloadN X0.here hx rfl (hb hby d_jdk_43_method_3_code_0) rfl kt) ?_
  show own_Go p.tables e below (s₁.setTop (mkF m 1 #[.val (.int p0)] [(.int p0)])) _
  refine own_by (fun _ kt => XS.sipush X0.here hx rfl (hb hby d_jdk_43_method_3_code_1) kt) ?_
  show own_Go p.tables e below (s₁.setTop (mkF m 4 #[.val (.int p0)] [(.int (255 : Int32)), (.int p0)])) _
  by_cases hc4_1 : (255 : Int32) < p0
  · refine own_by (fun _ kt => XS.icmpYes X0.here hx rfl (pc0 := 4) (pc' := 11) rfl (hb hby d_jdk_43_method_3_code_4) rfl (tlt hc4_1).2.2.1 (by decide) (by decide) kt) ?_
    show own_Go p.tables e below (s₁.setTop (mkF m 11 #[.val (.int p0)] [])) _
    refine own_by (fun _ kt => XS.iconst X0.here hx rfl (hb hby d_jdk_43_method_3_code_11) kt) ?_
    show own_Go p.tables e below (s₁.setTop (mkF m 12 #[.val (.int p0)] [(.int (0 : Int32))])) _
    exact own_retN X0 hx (t := .boolean) Bd.returns hlk (by simp) (hb hby d_jdk_43_method_3_code_12) ⟨by rw [own_canEnc, if_pos hc4_1] <;> rfl, N0, e0⟩ (by decide) (by decide)
  · refine own_by (fun _ kt => XS.icmpNo X0.here hx rfl (hb hby d_jdk_43_method_3_code_4) rfl (flt hc4_1).2.2.1 kt) ?_
    show own_Go p.tables e below (s₁.setTop (mkF m 7 #[.val (.int p0)] [])) _
    refine own_by (fun _ kt => XS.iconst X0.here hx rfl (hb hby d_jdk_43_method_3_code_7) kt) ?_
    show own_Go p.tables e below (s₁.setTop (mkF m 8 #[.val (.int p0)] [(.int (1 : Int32))])) _
    refine own_by (fun _ kt => XS.goto X0.here hx rfl (pc0 := 8) (pc' := 12) rfl (hb hby d_jdk_43_method_3_code_8) (by decide) (by decide) kt) ?_
    show own_Go p.tables e below (s₁.setTop (mkF m 12 #[.val (.int p0)] [(.int (1 : Int32))])) _
    exact own_retN X0 hx (t := .boolean) Bd.returns hlk (by simp) (hb hby d_jdk_43_method_3_code_12) ⟨by rw [own_canEnc, if_neg hc4_1] <;> rfl, N0, e0⟩ (by decide) (by decide)
theorem d_jdk_43_method_46_code_0 : decode jdk_43_method_46_code 0 = .ok (.iconst 1, 1) := by decide +kernel
theorem d_jdk_43_method_46_code_1 : decode jdk_43_method_46_code 1 = .ok (.newarray .byte, 2) := by decide +kernel
theorem d_jdk_43_method_46_code_3 : decode jdk_43_method_46_code 3 = .ok (.dup, 1) := by decide +kernel
theorem d_jdk_43_method_46_code_4 : decode jdk_43_method_46_code 4 = .ok (.iconst 0, 1) := by decide +kernel
theorem d_jdk_43_method_46_code_5 : decode jdk_43_method_46_code 5 = .ok (.iload_n 0, 1) := by decide +kernel
theorem d_jdk_43_method_46_code_6 : decode jdk_43_method_46_code 6 = .ok (.i2b, 1) := by decide +kernel
theorem d_jdk_43_method_46_code_7 : decode jdk_43_method_46_code 7 = .ok (.bastore, 1) := by decide +kernel
theorem d_jdk_43_method_46_code_8 : decode jdk_43_method_46_code 8 = .ok (.areturn, 1) := by decide +kernel
theorem ef_2 (m : MethodId) (c0 : Int32) : entryFrame m #[(.int c0)] 1 = mkF m 0 #[.val (.int c0)] [] := by first | (simp [entryFrame, mkF, argsToLocals, Value.category]; done) | rfl
def Q_rm_toBytes (Z : State) (c0 : Int32)  (h0 : Heap) (n0 : Nat) (v : Option Value) (h : Heap) (L : List Loc) : Prop := ∃ (b : Addr), v = some (.ref b) ∧ Fr n0 L ∧ Keep h0 h [] ∧ n0 ≤ b ∧ h0.size ≤ b
set_option maxRecDepth 65536 in
set_option maxHeartbeats 40000000 in
theorem rm_toBytes (l : Launch) (Z : State) (a0 : Array Value) (hw : ∀ d ∈ tables_1, d.before a0 Z = true) (ws : List Jvm.Cond) (c0 : Int32)  (h0 : Heap) (n0 : Nat) (Z0 : n0 ≤ h0.size)  :
    MetFree l (⟨"java/lang/StringLatin1", "toBytes", "(C)[B"⟩ : MethodName) (head1 (Jvm.Cond.code (⟨"java/lang/StringLatin1", "toBytes", "(C)[B"⟩ : MethodName) jdk_43_method_46_code 1 (some (.array .byte)) :: ws) ({ frames := 0, cells := 1, slots := 1, locals := 0 } : Room)) (fun av_ U => av_ = #[(.int c0)] ∧ Z.Warmed39 U.vm ∧ U.heap = h0) (fun _ _ _ _ _ => True) (fun _ U o U' => ∃ v L, o = .returned v ∧ Q_rm_toBytes Z c0 h0 n0 v U'.heap L ∧ FrameEnd U o U' L ({ frames := 0, cells := 1, slots := 1, locals := 0 } : Room).cells ({ frames := 0, cells := 1, slots := 1, locals := 0 } : Room).slots) := by
  refine MetFree.of_bodySF (plainFor_of_name pn_0) hisR ?_
  intro p e s m args below meth c s₁ Bd hml0 hP hK
  obtain ⟨rfl, hZ, hh⟩ := hP
  have hx := Bd.exec
  have hby := Bd.bytes
  have hml : c.maxLocals = 1 := hml0
  have hown : s.vm.findClass "java/lang/StringLatin1" = some m.cls := findClass_of_methodNamed Bd.named
  have hnm := (name_of_methodNamed Bd.named Bd.method).1
  have hlk : meth.locks = false := BodyLoose.notSynchronized Bd
  have X0 : Stand p l e ({ frames := 0, cells := 1, slots := 1, locals := 0 } : Room) s m #[(.int c0)] below meth c s₁ [] 0 0 := Stand.of_body Bd
  have e0 : s₁.heap = h0 := by rw [← hh, Bd.state]; rfl
  have N0 := Fr.nil n0
  refine own_by (fun _ kt => castTop (ef_2 m c0) kt) (R := own_R s (Q_rm_toBytes Z c0 h0 n0) 1 1) ?_
  show own_Go p.tables e below (s₁.setTop (mkF m 0 #[.val (.int c0)] [])) _
  refine own_by (fun _ kt => XS.iconst X0.here hx rfl (hb hby d_jdk_43_method_46_code_0) kt) ?_
  show own_Go p.tables e below (s₁.setTop (mkF m 1 #[.val (.int c0)] [(.int (1 : Int32))])) _
  obtain ⟨T1, h1, k1, X1, e1, E1, A1, st1⟩ := newP X0 hx hZ (hw _ (List.mem_of_getElem? (i := 0) rfl)) e0 (g := (mkF m 1 #[.val (.int c0)] [(.int (1 : Int32))])) rfl (hb hby d_jdk_43_method_46_code_1) rfl (by decide) (cap := 1) (by decide) (by decide) (by decide) (by decide)
  obtain ⟨b1, g1⟩ : ∃ z, z = h0.size := ⟨_, rfl⟩
  rw [← g1] at A1 st1
  have gn_b1 : n0 ≤ b1 := Nat.le_trans Z0 (Nat.le_of_eq g1.symm)
  have sz_b1 : h0.size ≤ b1 := Nat.le_trans (Keep.refl h0 []).1 (Nat.le_of_eq g1.symm)
  have Zs1 : n0 ≤ h1.size := Nat.le_trans Z0 E1.1
  have K1 : Keep h0 h1 [] := (Keep.refl h0 []).ext E1
  have f2 : Arv Z h1 b1 k1 .byte (1 : Int32) [(.int (0 : Int32))] (.int (0 : Int32)) := (Arv.new A1 (by decide)).pad (pad_rep [] (.int (0 : Int32)) 1)
  refine own_by st1 ?_
  show own_Go p.tables e below (T1.setTop (mkF m 3 #[.val (.int c0)] [(.ref b1)])) _
  refine own_by (fun _ kt => XS.dup X1.here hx rfl (hb hby d_jdk_43_method_46_code_3) rfl rfl kt) ?_
  show own_Go p.tables e below (T1.setTop (mkF m 4 #[.val (.int c0)] [(.ref b1), (.ref b1)])) _
  refine own_by (fun _ kt => XS.iconst X1.here hx rfl (hb hby d_jdk_43_method_46_code_4) kt) ?_
  show own_Go p.tables e below (T1.setTop (mkF m 5 #[.val (.int c0)] [(.int (0 : Int32)), (.ref b1), (.ref b1)])) _
  refine own_by (fun _ kt => XS.iloadN X1.here hx rfl (hb hby d_jdk_43_method_46_code_5) rfl kt) ?_
  show own_Go p.tables e below (T1.setTop (mkF m 6 #[.val (.int c0)] [(.int c0), (.int (0 : Int32)), (.ref b1), (.ref b1)])) _
  refine own_by (fun _ kt => XS.i2b X1.here hx rfl (hb hby d_jdk_43_method_46_code_6) rfl kt) ?_
  show own_Go p.tables e below (T1.setTop (mkF m 7 #[.val (.int c0)] [(.int (c0.toInt8.toInt32)), (.int (0 : Int32)), (.ref b1), (.ref b1)])) _
  obtain ⟨cl3, Ar3, q3, S3, M3, H3, G3⟩ := f2
  obtain ⟨T3, h3, X3, e3, W3, st3⟩ := stB X1 hx hZ e1 Ar3 (j := (0 : Int32)) (inb_of S3 ⟨by decide, by decide⟩) (g := (mkF m 7 #[.val (.int c0)] [(.int (c0.toInt8.toInt32)), (.int (0 : Int32)), (.ref b1), (.ref b1)])) rfl rfl (hb hby d_jdk_43_method_46_code_7)
  have f4 : Arv Z h3 b1 k1 .byte (1 : Int32) [(.int (nar .byte (c0.toInt8.toInt32)))] (.int (0 : Int32)) := Arv.set Ar3 q3 S3 M3 H3 G3 (fits_nar_byte _) W3 0 rfl (Nat.le_of_ble_eq_true rfl)
  have Zs3 : n0 ≤ h3.size := by rw [W3.size]; exact Zs1
  have K3 : Keep h0 h3 [] := K1.wr W3 (Or.inr sz_b1)
  have N3 := Fr.snoc X3 N0 gn_b1
  refine own_by st3 ?_
  show own_Go p.tables e below (T3.setTop (mkF m 8 #[.val (.int c0)] [(.ref b1)])) _
  exact own_retA X3 hx Bd.returns hlk rfl rfl (hb hby d_jdk_43_method_46_code_8) (by rw [e3]; exact ⟨b1, rfl, N3, K3, gn_b1, sz_b1⟩) (by decide) (by decide)
theorem pn_1 : plainName "java/lang/String" = true := by first | (simp [plainName, overriddenIn]; done) | decide +kernel
theorem d_jdk_42_method_151_code_0 : decode jdk_42_method_151_code 0 = .ok (.aload_n 0, 1) := by decide +kernel
theorem d_jdk_42_method_151_code_1 : decode jdk_42_method_151_code 1 = .ok (.invokespecial 1, 3) := by decide +kernel
theorem pd_0 : parseMethodDescriptor "()V" = some ⟨[], none⟩ := by decide +kernel
theorem d_jdk_42_method_151_code_4 : decode jdk_42_method_151_code 4 = .ok (.aload_n 0, 1) := by decide +kernel
theorem d_jdk_42_method_151_code_5 : decode jdk_42_method_151_code 5 = .ok (.aload_n 1, 1) := by decide +kernel
theorem d_jdk_42_method_151_code_6 : decode jdk_42_method_151_code 6 = .ok (.putfield 9, 3) := by decide +kernel
theorem d_jdk_42_method_151_code_9 : decode jdk_42_method_151_code 9 = .ok (.aload_n 0, 1) := by decide +kernel
theorem d_jdk_42_method_151_code_10 : decode jdk_42_method_151_code 10 = .ok (.iload_n 2, 1) := by decide +kernel
theorem d_jdk_42_method_151_code_11 : decode jdk_42_method_151_code 11 = .ok (.putfield 15, 3) := by decide +kernel
theorem d_jdk_42_method_151_code_14 : decode jdk_42_method_151_code 14 = .ok (.return_, 1) := by decide +kernel
theorem ef_3 (m : MethodId) (a : Addr) (b : Addr) (c0 : Int32) : entryFrame m #[(.ref a), (.ref b), (.int c0)] 3 = mkF m 0 #[.val (.ref a), .val (.ref b), .val (.int c0)] [] := by first | (simp [entryFrame, mkF, argsToLocals, Value.category]; done) | rfl
def Q_rm_strinit (Z : State) (a : Addr) (b : Addr) (c0 : Int32)  (h0 : Heap) (n0 : Nat) (v : Option Value) (h : Heap) (L : List Loc) : Prop := v = none ∧ Fr n0 L ∧ Keep h0 h [a] ∧ Exa Z h a "java/lang/String"
set_option maxRecDepth 65536 in
set_option maxHeartbeats 40000000 in
theorem rm_strinit (l : Launch) (Z : State) (a0 : Array Value) (hw : ∀ d ∈ tables_1, d.before a0 Z = true) (ws : List Jvm.Cond) (a : Addr) (b : Addr) (c0 : Int32)  (h0 : Heap) (n0 : Nat) (Z0 : n0 ≤ h0.size) (F_value_a : Fld Z h0 a "java/lang/String" "value" "[B" .null) (F_coder_a : Fld Z h0 a "java/lang/String" "coder" "B" (.int (0 : Int32))) (E_a : Exa Z h0 a "java/lang/String") (gn_a : n0 ≤ a) :
    MetFree l (⟨"java/lang/String", "<init>", "([BB)V"⟩ : MethodName) (head1 (Jvm.Cond.code (⟨"java/lang/String", "<init>", "([BB)V"⟩ : MethodName) jdk_42_method_151_code 3 none :: ws) ({ frames := 1, cells := 0, slots := 0, locals := 12 } : Room)) (fun av_ U => av_ = #[(.ref a), (.ref b), (.int c0)] ∧ Z.Warmed39 U.vm ∧ U.heap = h0) (fun _ _ _ _ _ => True) (fun _ U o U' => ∃ v L, o = .returned v ∧ Q_rm_strinit Z a b c0 h0 n0 v U'.heap L ∧ FrameEnd U o U' L ({ frames := 1, cells := 0, slots := 0, locals := 12 } : Room).cells ({ frames := 1, cells := 0, slots := 0, locals := 12 } : Room).slots) := by
  refine MetFree.of_bodySF (plainFor_of_name pn_1) hisR ?_
  intro p e s m args below meth c s₁ Bd hml0 hP hK
  obtain ⟨rfl, hZ, hh⟩ := hP
  have hx := Bd.exec
  have hby := Bd.bytes
  have hml : c.maxLocals = 3 := hml0
  have hown : s.vm.findClass "java/lang/String" = some m.cls := findClass_of_methodNamed Bd.named
  have hnm := (name_of_methodNamed Bd.named Bd.method).1
  have hlk : meth.locks = false := BodyLoose.notSynchronized Bd
  have X0 : Stand p l e ({ frames := 1, cells := 0, slots := 0, locals := 12 } : Room) s m #[(.ref a), (.ref b), (.int c0)] below meth c s₁ [] 0 0 := Stand.of_body Bd
  have e0 : s₁.heap = h0 := by rw [← hh, Bd.state]; rfl
  have N0 := Fr.nil n0
  refine own_by (fun _ kt => castTop (ef_3 m a b c0) kt) (R := own_R s (Q_rm_strinit Z a b c0 h0 n0) 0 0) ?_
  show own_Go p.tables e below (s₁.setTop (mkF m 0 #[.val (.ref a), .val (.ref b), .val (.int c0)] [])) _
  refine own_by (fun _ kt => XS.aloadN X0.here hx rfl (hb hby d_jdk_42_method_151_code_0) rfl rfl kt) ?_
  show own_Go p.tables e below (s₁.setTop (mkF m 1 #[.val (.ref a), .val (.ref b), .val (.int c0)] [(.ref a)])) _
  obtain ⟨T1, X1, e1, st1⟩ := initO X0 hx hZ hown (hw _ (List.mem_of_getElem? (i := 22) rfl)) (hw _ (List.mem_of_getElem? (i := 23) rfl)) (hw _ (List.mem_of_getElem? (i := 24) rfl)) e0 (g := (mkF m 1 #[.val (.ref a), .val (.ref b), .val (.int c0)] [(.ref a)])) rfl (by rw [hml]; rfl) rfl (hb hby d_jdk_42_method_151_code_1) (by decide) (W := 0) (by show 2 * 0 + _ ≤ _; exact Nat.le_of_eq rfl) (by decide)
  refine own_by st1 ?_
  show own_Go p.tables e below (T1.setTop (mkF m 4 #[.val (.ref a), .val (.ref b), .val (.int c0)] [])) _
  refine own_by (fun _ kt => XS.aloadN X1.here hx rfl (hb hby d_jdk_42_method_151_code_4) rfl rfl kt) ?_
  show own_Go p.tables e below (T1.setTop (mkF m 5 #[.val (.ref a), .val (.ref b), .val (.int c0)] [(.ref a)])) _
  refine own_by (fun _ kt => XS.aloadN X1.here hx rfl (hb hby d_jdk_42_method_151_code_5) rfl rfl kt) ?_
  show own_Go p.tables e below (T1.setTop (mkF m 6 #[.val (.ref a), .val (.ref b), .val (.int c0)] [(.ref b), (.ref a)])) _
  obtain ⟨T2, h2, X2, e2, W2, st2⟩ := putF X1 hx hZ hown (host := "") (Or.inl (hw _ (List.mem_of_getElem? (i := 25) rfl))) Via.refl e1 F_value_a E_a (Or.inr ⟨(hw _ (List.mem_of_getElem? (i := 26) rfl)), rfl, hnm⟩) (hw _ (List.mem_of_getElem? (i := 14) rfl)) (ty := (.array .byte)) (by decide) rfl rfl (g := (mkF m 6 #[.val (.ref a), .val (.ref b), .val (.int c0)] [(.ref b), (.ref a)])) rfl rfl (hb hby d_jdk_42_method_151_code_6)
  have Fw2 := F_value_a.same W2
  have f3 := F_coder_a.other W2 (Or.inr (slot_ne (Or.inr (hw _ (List.mem_of_getElem? (i := 28) rfl))) (Or.inr (hw _ (List.mem_of_getElem? (i := 26) rfl))) (by decide) (t := .byte) (t' := (.array .byte)) (by decide) (by decide)))
  have f4 := E_a.wr W2
  have Zs2 : n0 ≤ h2.size := by rw [W2.size]; exact Z0
  have K2 : Keep h0 h2 [a] := (Keep.refl h0 [a]).wr W2 (Or.inl (List.mem_of_getElem? (i := 0) rfl))
  have N2 := Fr.snoc X2 N0 gn_a
  refine own_by st2 ?_
  show own_Go p.tables e below (T2.setTop (mkF m 9 #[.val (.ref a), .val (.ref b), .val (.int c0)] [])) _
  refine own_by (fun _ kt => XS.aloadN X2.here hx rfl (hb hby d_jdk_42_method_151_code_9) rfl rfl kt) ?_
  show own_Go p.tables e below (T2.setTop (mkF m 10 #[.val (.ref a), .val (.ref b), .val (.int c0)] [(.ref a)])) _
  refine own_by (fun _ kt => XS.iloadN X2.here hx rfl (hb hby d_jdk_42_method_151_code_10) rfl kt) ?_
  show own_Go p.tables e below (T2.setTop (mkF m 11 #[.val (.ref a), .val (.ref b), .val (.int c0)] [(.int c0), (.ref a)])) _
  obtain ⟨T5, h5, X5, e5, W5, st5⟩ := putFN X2 hx hZ hown (hw _ (List.mem_of_getElem? (i := 27) rfl)) Via.refl e2 f3 f4 (Or.inr ⟨(hw _ (List.mem_of_getElem? (i := 28) rfl)), rfl, hnm⟩) (hw _ (List.mem_of_getElem? (i := 14) rfl)) (ty := .byte) (v' := (.int (nar .byte c0))) (by decide) rfl (fits_nar_byte _) (g := (mkF m 11 #[.val (.ref a), .val (.ref b), .val (.int c0)] [(.int c0), (.ref a)])) rfl rfl (hb hby d_jdk_42_method_151_code_11)
  have Fw5 := f3.same W5
  have f6 := Fw2.other W5 (Or.inr (slot_ne (Or.inr (hw _ (List.mem_of_getElem? (i := 26) rfl))) (Or.inr (hw _ (List.mem_of_getElem? (i := 28) rfl))) (by decide) (t := (.array .byte)) (t' := .byte) (by decide) (by decide)))
  have f7 := f4.wr W5
  have Zs5 : n0 ≤ h5.size := by rw [W5.size]; exact Zs2
  have K5 : Keep h0 h5 [a] := K2.wr W5 (Or.inl (List.mem_of_getElem? (i := 0) rfl))
  have N5 := Fr.snoc X5 N2 gn_a
  refine own_by st5 ?_
  show own_Go p.tables e below (T5.setTop (mkF m 14 #[.val (.ref a), .val (.ref b), .val (.int c0)] [])) _
  exact own_retV X5 hx Bd.returns hlk (hb hby d_jdk_42_method_151_code_14) (by rw [e5]; exact ⟨rfl, N5, K5, f7⟩) (by decide) (by decide)
theorem d_jdk_42_method_139_code_0 : decode jdk_42_method_139_code 0 = .ok (.getstatic 38, 3) := by decide +kernel
theorem d_jdk_42_method_139_code_3 : decode jdk_42_method_139_code 3 = .ok (.ifCond .eq 23, 3) := by decide +kernel
theorem d_jdk_42_method_139_code_6 : decode jdk_42_method_139_code 6 = .ok (.iload_n 0, 1) := by decide +kernel
theorem d_jdk_42_method_139_code_7 : decode jdk_42_method_139_code 7 = .ok (.invokestatic 1015, 3) := by decide +kernel
theorem pd_1 : parseMethodDescriptor "(C)Z" = some ⟨[.char], some .boolean⟩ := by decide +kernel
theorem d_jdk_42_method_139_code_10 : decode jdk_42_method_139_code 10 = .ok (.ifCond .eq 16, 3) := by decide +kernel
theorem d_jdk_42_method_139_code_13 : decode jdk_42_method_139_code 13 = .ok (.new 10, 3) := by decide +kernel
theorem d_jdk_42_method_139_code_16 : decode jdk_42_method_139_code 16 = .ok (.dup, 1) := by decide +kernel
theorem d_jdk_42_method_139_code_17 : decode jdk_42_method_139_code 17 = .ok (.iload_n 0, 1) := by decide +kernel
theorem d_jdk_42_method_139_code_18 : decode jdk_42_method_139_code 18 = .ok (.invokestatic 1018, 3) := by decide +kernel
theorem pd_2 : parseMethodDescriptor "(C)[B" = some ⟨[.char], some (.array .byte)⟩ := by decide +kernel
theorem d_jdk_42_method_139_code_21 : decode jdk_42_method_139_code 21 = .ok (.iconst 0, 1) := by decide +kernel
theorem d_jdk_42_method_139_code_22 : decode jdk_42_method_139_code 22 = .ok (.invokespecial 209, 3) := by decide +kernel
theorem pd_3 : parseMethodDescriptor "([BB)V" = some ⟨[(.array .byte), .byte], none⟩ := by decide +kernel
theorem d_jdk_42_method_139_code_25 : decode jdk_42_method_139_code 25 = .ok (.areturn, 1) := by decide +kernel
theorem ef_4 (m : MethodId) (c0 : Int32) : entryFrame m #[(.int c0)] 1 = mkF m 0 #[.val (.int c0)] [] := by first | (simp [entryFrame, mkF, argsToLocals, Value.category]; done) | rfl
def Q_rm_valueOf (Z : State) (c0 : Int32) (cs : Int32) (h0 : Heap) (n0 : Nat) (v : Option Value) (h : Heap) (L : List Loc) : Prop := ∃ (b : Addr), v = some (.ref b) ∧ Fr n0 L ∧ Keep h0 h [] ∧ n0 ≤ b ∧ h0.size ≤ b
set_option maxRecDepth 65536 in
set_option maxHeartbeats 40000000 in
theorem rm_valueOf (l : Launch) (Z : State) (a0 : Array Value) (hw : ∀ d ∈ tables_1, d.before a0 Z = true) (ws : List Jvm.Cond) (c0 : Int32) (cs : Int32) (h0 : Heap) (n0 : Nat) (Z0 : n0 ≤ h0.size) (S_COMPACT_STRINGS : Sta Z h0 "java/lang/String" "COMPACT_STRINGS" "Z" (.int cs)) (hcs : ¬ cs = (0 : Int32)) (hc : ¬ (255 : Int32) < c0) :
    MetFree l (⟨"java/lang/String", "valueOf", "(C)Ljava/lang/String;"⟩ : MethodName) (head1 (Jvm.Cond.code (⟨"java/lang/String", "valueOf", "(C)Ljava/lang/String;"⟩ : MethodName) jdk_42_method_139_code 1 (some (.object "java/lang/String")) :: ws) ({ frames := 2, cells := 2, slots := 5, locals := 27 } : Room)) (fun av_ U => av_ = #[(.int c0)] ∧ Z.Warmed39 U.vm ∧ U.heap = h0) (fun _ _ _ _ _ => True) (fun _ U o U' => ∃ v L, o = .returned v ∧ Q_rm_valueOf Z c0 cs h0 n0 v U'.heap L ∧ FrameEnd U o U' L ({ frames := 2, cells := 2, slots := 5, locals := 27 } : Room).cells ({ frames := 2, cells := 2, slots := 5, locals := 27 } : Room).slots) := by
  refine MetFree.of_bodySF (plainFor_of_name pn_1) hisR ?_
  intro p e s m args below meth c s₁ Bd hml0 hP hK
  obtain ⟨rfl, hZ, hh⟩ := hP
  have hx := Bd.exec
  have hby := Bd.bytes
  have hml : c.maxLocals = 1 := hml0
  have hown : s.vm.findClass "java/lang/String" = some m.cls := findClass_of_methodNamed Bd.named
  have hnm := (name_of_methodNamed Bd.named Bd.method).1
  have hlk : meth.locks = false := BodyLoose.notSynchronized Bd
  have X0 : Stand p l e ({ frames := 2, cells := 2, slots := 5, locals := 27 } : Room) s m #[(.int c0)] below meth c s₁ [] 0 0 := Stand.of_body Bd
  have e0 : s₁.heap = h0 := by rw [← hh, Bd.state]; rfl
  have N0 := Fr.nil n0
  refine own_by (fun _ kt => castTop (ef_4 m c0) kt) (R := own_R s (Q_rm_valueOf Z c0 cs h0 n0) 2 5) ?_
  show own_Go p.tables e below (s₁.setTop (mkF m 0 #[.val (.int c0)] [])) _
  obtain ⟨T1, X1, e1, st1⟩ := getS2 X0 hx hZ hown (host := "") (Or.inl (hw _ (List.mem_of_getElem? (i := 8) rfl))) Via.refl e0 S_COMPACT_STRINGS (g := (mkF m 0 #[.val (.int c0)] [])) rfl (hb hby d_jdk_42_method_139_code_0)
  refine own_by st1 ?_
  show own_Go p.tables e below (T1.setTop (mkF m 3 #[.val (.int c0)] [(.int cs)])) _
  refine own_by (fun _ kt => XS.ifNo X1.here hx rfl (hb hby d_jdk_42_method_139_code_3) rfl ((if0 _ _).trans (feq (hcs : ¬ (cs = (0 : Int32)))).1) kt) ?_
  show own_Go p.tables e below (T1.setTop (mkF m 6 #[.val (.int c0)] [])) _
  refine own_by (fun _ kt => XS.iloadN X1.here hx rfl (hb hby d_jdk_42_method_139_code_6) rfl kt) ?_
  show own_Go p.tables e below (T1.setTop (mkF m 7 #[.val (.int c0)] [(.int c0)])) _
  obtain ⟨_, _, ⟨T2, L2, k2, n2⟩, -, X2, ⟨Lc2, hQ2, l2, y2, z2⟩, st2⟩ := Jvm.LawKit.callS X1 hx (y := (⟨"java/lang/StringLatin1", "canEncode", "(C)Z"⟩ : MethodName)) hown (mvT hZ (hw _ (List.mem_of_getElem? (i := 9) rfl))) (mvT hZ (hw _ (List.mem_of_getElem? (i := 10) rfl))) (mvT hZ (hw _ (List.mem_of_getElem? (i := 11) rfl))) (mvT hZ (hw _ (List.mem_of_getElem? (i := 12) rfl))) (by decide) (backOf (W := 0) (rm_own_canEnc l Z a0 hw [] c0 h0 n0 Z0) hZ (hw _ (List.mem_of_getElem? (i := 12) rfl)) (hw _ (List.mem_of_getElem? (i := 11) rfl)) (by decide) (by decide)) (g := (mkF m 7 #[.val (.int c0)] [(.int c0)])) rfl (by rw [hml]; rfl) (argsL := [(.int c0)]) (rest := []) (lenOf pd_1 rfl) rfl (by show 2 * 0 + _ ≤ _; exact Nat.le_of_eq rfl) (hb hby d_jdk_42_method_139_code_7) (fun _ _ => ⟨rfl, e1, (by decide : 0 + 0 ≤ _), (by decide : 0 + 0 ≤ _)⟩)
  dsimp only [Pt.U, Pt.locs, Pt.cells, Pt.slots] at X2 l2 y2 z2 st2 hQ2
  subst l2 y2 z2
  obtain ⟨rfl, Nq2, eh2⟩ := hQ2
  have N2 := Fr.app N0 Nq2
  refine own_by (st2) ?_
  show own_Go p.tables e below (T2.setTop (mkF m 10 #[.val (.int c0)] [(.int (own_canEnc c0))])) _
  refine own_by (fun _ kt => XS.ifNo X2.here hx rfl (hb hby d_jdk_42_method_139_code_10) rfl ((if0 _ _).trans (feq (by rw [own_canEnc, if_neg hc]; decide : ¬ ((own_canEnc c0) = (0 : Int32)))).1) kt) ?_
  show own_Go p.tables e below (T2.setTop (mkF m 13 #[.val (.int c0)] [])) _
  obtain ⟨T3, h3, X3, e3, E3, A3, D3, -, st3⟩ := newO X2 hx hZ hown (hw _ (List.mem_of_getElem? (i := 13) rfl)) (hw _ (List.mem_of_getElem? (i := 14) rfl)) (hw _ (List.mem_of_getElem? (i := 6) rfl)) eh2 (g := (mkF m 13 #[.val (.int c0)] [])) rfl (hb hby d_jdk_42_method_139_code_13) (by decide) (by decide)
  obtain ⟨b3, g3⟩ : ∃ z, z = h0.size := ⟨_, rfl⟩
  rw [← g3] at A3 D3 st3
  have gn_b3 : n0 ≤ b3 := Nat.le_trans Z0 (Nat.le_of_eq g3.symm)
  have sz_b3 : h0.size ≤ b3 := Nat.le_trans (Keep.refl h0 []).1 (Nat.le_of_eq g3.symm)
  have f4 := S_COMPACT_STRINGS.ext E3
  have Zs3 : n0 ≤ h3.size := Nat.le_trans Z0 E3.1
  have K3 : Keep h0 h3 [] := (Keep.refl h0 []).ext E3
  have f5 : Fld Z h3 b3 "java/lang/String" "value" "[B" .null := D3 (Or.inr (hw _ (List.mem_of_getElem? (i := 26) rfl))) (ty := (.array .byte)) (by decide)
  have f6 : Fld Z h3 b3 "java/lang/String" "coder" "B" (.int (0 : Int32)) := D3 (Or.inr (hw _ (List.mem_of_getElem? (i := 28) rfl))) (ty := .byte) (by decide)
  refine own_by st3 ?_
  show own_Go p.tables e below (T3.setTop (mkF m 16 #[.val (.int c0)] [(.ref b3)])) _
  refine own_by (fun _ kt => XS.dup X3.here hx rfl (hb hby d_jdk_42_method_139_code_16) rfl rfl kt) ?_
  show own_Go p.tables e below (T3.setTop (mkF m 17 #[.val (.int c0)] [(.ref b3), (.ref b3)])) _
  refine own_by (fun _ kt => XS.iloadN X3.here hx rfl (hb hby d_jdk_42_method_139_code_17) rfl kt) ?_
  show own_Go p.tables e below (T3.setTop (mkF m 18 #[.val (.int c0)] [(.int c0), (.ref b3), (.ref b3)])) _
  obtain ⟨_, _, ⟨T7, L7, k7, n7⟩, -, X7, ⟨Lc7, hQ7, l7, y7, z7⟩, st7⟩ := Jvm.LawKit.callS X3 hx (y := (⟨"java/lang/StringLatin1", "toBytes", "(C)[B"⟩ : MethodName)) hown (mvT hZ (hw _ (List.mem_of_getElem? (i := 15) rfl))) (mvT hZ (hw _ (List.mem_of_getElem? (i := 16) rfl))) (mvT hZ (hw _ (List.mem_of_getElem? (i := 11) rfl))) (mvT hZ (hw _ (List.mem_of_getElem? (i := 17) rfl))) (by decide) (backOf (W := 2) (rm_toBytes l Z a0 hw [] c0  h3 n0 Zs3 ) hZ (hw _ (List.mem_of_getElem? (i := 17) rfl)) (hw _ (List.mem_of_getElem? (i := 11) rfl)) (by decide) (by decide)) (g := (mkF m 18 #[.val (.int c0)] [(.int c0), (.ref b3), (.ref b3)])) rfl (by rw [hml]; rfl) (argsL := [(.int c0)]) (rest := [(.ref b3), (.ref b3)]) (lenOf pd_2 rfl) rfl (by show 2 * 0 + _ ≤ _; exact Nat.le_of_eq rfl) (hb hby d_jdk_42_method_139_code_18) (fun _ _ => ⟨rfl, e3, (by decide : 1 + 1 ≤ _), (by decide : 4 + 1 ≤ _)⟩)
  dsimp only [Pt.U, Pt.locs, Pt.cells, Pt.slots] at X7 l7 y7 z7 st7 hQ7
  subst l7 y7 z7
  obtain ⟨b7, rfl, Nq7, K7, gn_b7, szq_b7⟩ := hQ7
  have ne_b3_b7 : b3 ≠ b7 := Nat.ne_of_lt (Nat.lt_of_lt_of_le A3.lt szq_b7)
  have sz_b7 : h0.size ≤ b7 := Nat.le_trans K3.1 szq_b7
  have f8 := own_sta_keep f4 K7
  have f9 := A3.keep K7
  have f10 := f5.keep K7 List.not_mem_nil
  have f11 := f6.keep K7 List.not_mem_nil
  have Zs7 : n0 ≤ T7.heap.size := Nat.le_trans Zs3 K7.1
  have KK7 : Keep h0 T7.heap [] := K3.trans K7 (fun x hx => by first | exact absurd hx List.not_mem_nil | (cases List.mem_singleton.mp hx; first | exact Or.inr sz_x | exact Or.inl (by simp)))
  have N7 := Fr.app N2 Nq7
  refine own_by (st7) ?_
  show own_Go p.tables e below (T7.setTop (mkF m 21 #[.val (.int c0)] [(.ref b7), (.ref b3), (.ref b3)])) _
  refine own_by (fun _ kt => XS.iconst X7.here hx rfl (hb hby d_jdk_42_method_139_code_21) kt) ?_
  show own_Go p.tables e below (T7.setTop (mkF m 22 #[.val (.int c0)] [(.int (0 : Int32)), (.ref b7), (.ref b3), (.ref b3)])) _
  obtain ⟨_, _, ⟨T12, L12, k12, n12⟩, -, X12, ⟨Lc12, hQ12, l12, y12, z12⟩, st12⟩ := X7.specialBack hx (y := (⟨"java/lang/String", "<init>", "([BB)V"⟩ : MethodName)) rfl hown (mvT hZ (hw _ (List.mem_of_getElem? (i := 18) rfl))) (mvT hZ (hw _ (List.mem_of_getElem? (i := 19) rfl))) (mvT hZ (hw _ (List.mem_of_getElem? (i := 21) rfl))) (by decide) (backOf (W := 1) (rm_strinit l Z a0 hw [] b3 b7 (0 : Int32)  T7.heap n0 Zs7 f10 f11 f9 gn_b3) hZ (hw _ (List.mem_of_getElem? (i := 21) rfl)) (hw _ (List.mem_of_getElem? (i := 6) rfl)) (by decide) (by decide)) (g := (mkF m 22 #[.val (.int c0)] [(.int (0 : Int32)), (.ref b7), (.ref b3), (.ref b3)])) rfl (by rw [hml]; rfl) (Steps.refl _) (a := b3) (argsL := [(.ref b7), (.int (0 : Int32))]) (rest := [(.ref b3)]) (lenOf pd_3 rfl) rfl (by show 2 * 0 + _ ≤ _; exact Nat.le_of_eq rfl) (hb hby d_jdk_42_method_139_code_22) (fun _ _ => ⟨rfl, rfl, (by decide : 2 + 0 ≤ _), (by decide : 5 + 0 ≤ _)⟩)
  dsimp only [Pt.U, Pt.locs, Pt.cells, Pt.slots] at X12 l12 y12 z12 st12 hQ12
  subst l12 y12 z12
  obtain ⟨rfl, Nq12, K12, f12_0⟩ := hQ12
  have f13 := f9.keep K12
  have Zs12 : n0 ≤ T12.heap.size := Nat.le_trans Zs7 K12.1
  have KK12 : Keep h0 T12.heap [] := KK7.trans K12 (fun x hx => by first | exact absurd hx List.not_mem_nil | (cases List.mem_singleton.mp hx; first | exact Or.inr sz_b3 | exact Or.inl (by simp)))
  have N12 := Fr.app N7 Nq12
  refine own_by (fun _ kt => st12.trans kt) ?_
  show own_Go p.tables e below (T12.setTop (mkF m 25 #[.val (.int c0)] [(.ref b3)])) _
  exact own_retA X12 hx Bd.returns hlk rfl rfl (hb hby d_jdk_42_method_139_code_25) ⟨b3, rfl, N12, KK12, gn_b3, sz_b3⟩ (by decide) (by decide)
theorem pn_2 : plainName "java/lang/Record" = true := by first | (simp [plainName, overriddenIn]; done) | decide +kernel
theorem d_jdk_30_method_1_code_0 : decode jdk_30_method_1_code 0 = .ok (.aload_n 0, 1) := by decide +kernel
theorem d_jdk_30_method_1_code_1 : decode jdk_30_method_1_code 1 = .ok (.invokespecial 1, 3) := by decide +kernel
theorem d_jdk_30_method_1_code_4 : decode jdk_30_method_1_code 4 = .ok (.return_, 1) := by decide +kernel
theorem ef_5 (m : MethodId) (a : Addr) : entryFrame m #[(.ref a)] 1 = mkF m 0 #[.val (.ref a)] [] := by first | (simp [entryFrame, mkF, argsToLocals, Value.category]; done) | rfl
def Q_rm_record (Z : State) (a : Addr)  (h0 : Heap) (n0 : Nat) (v : Option Value) (h : Heap) (L : List Loc) : Prop := v = none ∧ Fr n0 L ∧ h = h0
set_option maxRecDepth 65536 in
set_option maxHeartbeats 40000000 in
theorem rm_record (l : Launch) (Z : State) (a0 : Array Value) (hw : ∀ d ∈ tables_1, d.before a0 Z = true) (ws : List Jvm.Cond) (a : Addr)  (h0 : Heap) (n0 : Nat) (Z0 : n0 ≤ h0.size)  :
    MetFree l (⟨"java/lang/Record", "<init>", "()V"⟩ : MethodName) (head1 (Jvm.Cond.code (⟨"java/lang/Record", "<init>", "()V"⟩ : MethodName) jdk_30_method_1_code 1 none :: ws) ({ frames := 1, cells := 0, slots := 0, locals := 12 } : Room)) (fun av_ U => av_ = #[(.ref a)] ∧ Z.Warmed39 U.vm ∧ U.heap = h0) (fun _ _ _ _ _ => True) (fun _ U o U' => ∃ v L, o = .returned v ∧ Q_rm_record Z a h0 n0 v U'.heap L ∧ FrameEnd U o U' L ({ frames := 1, cells := 0, slots := 0, locals := 12 } : Room).cells ({ frames := 1, cells := 0, slots := 0, locals := 12 } : Room).slots) := by
  refine MetFree.of_bodySF (plainFor_of_name pn_2) hisR ?_
  intro p e s m args below meth c s₁ Bd hml0 hP hK
  obtain ⟨rfl, hZ, hh⟩ := hP
  have hx := Bd.exec
  have hby := Bd.bytes
  have hml : c.maxLocals = 1 := hml0
  have hown : s.vm.findClass "java/lang/Record" = some m.cls := findClass_of_methodNamed Bd.named
  have hnm := (name_of_methodNamed Bd.named Bd.method).1
  have hlk : meth.locks = false := BodyLoose.notSynchronized Bd
  have X0 : Stand p l e ({ frames := 1, cells := 0, slots := 0, locals := 12 } : Room) s m #[(.ref a)] below meth c s₁ [] 0 0 := Stand.of_body Bd
  have e0 : s₁.heap = h0 := by rw [← hh, Bd.state]; rfl
  have N0 := Fr.nil n0
  refine own_by (fun _ kt => castTop (ef_5 m a) kt) (R := own_R s (Q_rm_record Z a h0 n0) 0 0) ?_
  show own_Go p.tables e below (s₁.setTop (mkF m 0 #[.val (.ref a)] [])) _
  refine own_by (fun _ kt => XS.aloadN X0.here hx rfl (hb hby d_jdk_30_method_1_code_0) rfl rfl kt) ?_
  show own_Go p.tables e below (s₁.setTop (mkF m 1 #[.val (.ref a)] [(.ref a)])) _
  obtain ⟨T1, X1, e1, st1⟩ := initO X0 hx hZ hown (hw _ (List.mem_of_getElem? (i := 37) rfl)) (hw _ (List.mem_of_getElem? (i := 23) rfl)) (hw _ (List.mem_of_getElem? (i := 24) rfl)) e0 (g := (mkF m 1 #[.val (.ref a)] [(.ref a)])) rfl (by rw [hml]; rfl) rfl (hb hby d_jdk_30_method_1_code_1) (by decide) (W := 0) (by show 2 * 0 + _ ≤ _; exact Nat.le_of_eq rfl) (by decide)
  refine own_by st1 ?_
  show own_Go p.tables e below (T1.setTop (mkF m 4 #[.val (.ref a)] [])) _
  exact own_retV X1 hx Bd.returns hlk (hb hby d_jdk_30_method_1_code_4) ⟨rfl, N0, e1⟩ (by decide) (by decide)
theorem pn_3 : plainName "com/example/relampago/relampago/lcp/Call" = true := by first | (simp [plainName, overriddenIn]; done) | decide +kernel
theorem d_prog_8_method_1_code_0 : decode prog_8_method_1_code 0 = .ok (.aload_n 0, 1) := by decide +kernel
theorem d_prog_8_method_1_code_1 : decode prog_8_method_1_code 1 = .ok (.invokespecial 1, 3) := by decide +kernel
theorem d_prog_8_method_1_code_4 : decode prog_8_method_1_code 4 = .ok (.aload_n 2, 1) := by decide +kernel
theorem d_prog_8_method_1_code_5 : decode prog_8_method_1_code 5 = .ok (.invokevirtual 7, 3) := by decide +kernel
theorem d_prog_8_method_1_code_8 : decode prog_8_method_1_code 8 = .ok (.checkcast 8, 3) := by decide +kernel
theorem d_prog_8_method_1_code_11 : decode prog_8_method_1_code 11 = .ok (.astore_n 2, 1) := by decide +kernel
theorem d_prog_8_method_1_code_12 : decode prog_8_method_1_code 12 = .ok (.aload 4, 2) := by decide +kernel
theorem d_prog_8_method_1_code_14 : decode prog_8_method_1_code 14 = .ok (.ifnonnull 7, 3) := by decide +kernel
theorem d_prog_8_method_1_code_17 : decode prog_8_method_1_code 17 = .ok (.aconst_null, 1) := by decide +kernel
theorem d_prog_8_method_1_code_18 : decode prog_8_method_1_code 18 = .ok (.goto 11, 3) := by decide +kernel
theorem d_prog_8_method_1_code_29 : decode prog_8_method_1_code 29 = .ok (.astore 4, 2) := by decide +kernel
theorem d_prog_8_method_1_code_31 : decode prog_8_method_1_code 31 = .ok (.aload_n 0, 1) := by decide +kernel
theorem d_prog_8_method_1_code_32 : decode prog_8_method_1_code 32 = .ok (.aload_n 1, 1) := by decide +kernel
theorem d_prog_8_method_1_code_33 : decode prog_8_method_1_code 33 = .ok (.putfield 13, 3) := by decide +kernel
theorem d_prog_8_method_1_code_36 : decode prog_8_method_1_code 36 = .ok (.aload_n 0, 1) := by decide +kernel
theorem d_prog_8_method_1_code_37 : decode prog_8_method_1_code 37 = .ok (.aload_n 2, 1) := by decide +kernel
theorem d_prog_8_method_1_code_38 : decode prog_8_method_1_code 38 = .ok (.putfield 19, 3) := by decide +kernel
theorem d_prog_8_method_1_code_41 : decode prog_8_method_1_code 41 = .ok (.aload_n 0, 1) := by decide +kernel
theorem d_prog_8_method_1_code_42 : decode prog_8_method_1_code 42 = .ok (.aload_n 3, 1) := by decide +kernel
theorem d_prog_8_method_1_code_43 : decode prog_8_method_1_code 43 = .ok (.putfield 22, 3) := by decide +kernel
theorem d_prog_8_method_1_code_46 : decode prog_8_method_1_code 46 = .ok (.aload_n 0, 1) := by decide +kernel
theorem d_prog_8_method_1_code_47 : decode prog_8_method_1_code 47 = .ok (.aload 4, 2) := by decide +kernel
theorem d_prog_8_method_1_code_49 : decode prog_8_method_1_code 49 = .ok (.putfield 25, 3) := by decide +kernel
theorem d_prog_8_method_1_code_52 : decode prog_8_method_1_code 52 = .ok (.return_, 1) := by decide +kernel
theorem ef_6 (m : MethodId) (a : Addr) (s1 : Addr) (b : Addr) (s2 : Addr) : entryFrame m #[(.ref a), (.ref s1), (.ref b), (.ref s2), .null] 5 = mkF m 0 #[.val (.ref a), .val (.ref s1), .val (.ref b), .val (.ref s2), .val .null] [] := by first | (simp [entryFrame, mkF, argsToLocals, Value.category]; done) | rfl
def Q_rm_init0 (Z : State) (a : Addr) (s1 : Addr) (b : Addr) (s2 : Addr) (kb : ClassId) (y0 : Int32) (h0 : Heap) (n0 : Nat) (v : Option Value) (h : Heap) (L : List Loc) : Prop := v = none ∧ Fr n0 L ∧ Keep h0 h [a] ∧ Exa Z h a "com/example/relampago/relampago/lcp/Call" ∧ Fld Z h a "com/example/relampago/relampago/lcp/Call" "params" "[B" .null
set_option maxRecDepth 65536 in
set_option maxHeartbeats 40000000 in
theorem rm_init0 (l : Launch) (Z : State) (a0 : Array Value) (hw : ∀ d ∈ tables_1, d.before a0 Z = true) (ws : List Jvm.Cond) (a : Addr) (s1 : Addr) (b : Addr) (s2 : Addr) (kb : ClassId) (y0 : Int32) (h0 : Heap) (n0 : Nat) (Z0 : n0 ≤ h0.size) (F_method_a : Fld Z h0 a "com/example/relampago/relampago/lcp/Call" "method" "Ljava/lang/String;" .null) (F_request_a : Fld Z h0 a "com/example/relampago/relampago/lcp/Call" "request" "[B" .null) (F_requestContentType_a : Fld Z h0 a "com/example/relampago/relampago/lcp/Call" "requestContentType" "Ljava/lang/String;" .null) (F_params_a : Fld Z h0 a "com/example/relampago/relampago/lcp/Call" "params" "[B" .null) (E_a : Exa Z h0 a "com/example/relampago/relampago/lcp/Call") (gn_a : n0 ≤ a) (V_b : Arv Z h0 b kb .byte (1 : Int32) [(.int y0)] (.int (0 : Int32))) (E_b : Exa Z h0 b "[B") (ne_b_a : b ≠ a) :
    MetFree l (⟨"com/example/relampago/relampago/lcp/Call", "<init>", "(Ljava/lang/String;[BLjava/lang/String;[B)V"⟩ : MethodName) (head1 (Jvm.Cond.code (⟨"com/example/relampago/relampago/lcp/Call", "<init>", "(Ljava/lang/String;[BLjava/lang/String;[B)V"⟩ : MethodName) prog_8_method_1_code 5 none :: ws) ({ frames := 2, cells := 1, slots := 1, locals := 24 } : Room)) (fun av_ U => av_ = #[(.ref a), (.ref s1), (.ref b), (.ref s2), .null] ∧ Z.Warmed39 U.vm ∧ U.heap = h0) (fun _ _ _ _ _ => True) (fun _ U o U' => ∃ v L, o = .returned v ∧ Q_rm_init0 Z a s1 b s2 kb y0 h0 n0 v U'.heap L ∧ FrameEnd U o U' L ({ frames := 2, cells := 1, slots := 1, locals := 24 } : Room).cells ({ frames := 2, cells := 1, slots := 1, locals := 24 } : Room).slots) := by
  refine MetFree.of_bodySF (plainFor_of_name pn_3) hisR ?_
  intro p e s m args below meth c s₁ Bd hml0 hP hK
  obtain ⟨rfl, hZ, hh⟩ := hP
  have hx := Bd.exec
  have hby := Bd.bytes
  have hml : c.maxLocals = 5 := hml0
  have hown : s.vm.findClass "com/example/relampago/relampago/lcp/Call" = some m.cls := findClass_of_methodNamed Bd.named
  have hnm := (name_of_methodNamed Bd.named Bd.method).1
  have hlk : meth.locks = false := BodyLoose.notSynchronized Bd
  have X0 : Stand p l e ({ frames := 2, cells := 1, slots := 1, locals := 24 } : Room) s m #[(.ref a), (.ref s1), (.ref b), (.ref s2), .null] below meth c s₁ [] 0 0 := Stand.of_body Bd
  have e0 : s₁.heap = h0 := by rw [← hh, Bd.state]; rfl
  have N0 := Fr.nil n0
  refine own_by (fun _ kt => castTop (ef_6 m a s1 b s2) kt) (R := own_R s (Q_rm_init0 Z a s1 b s2 kb y0 h0 n0) 1 1) ?_
  show own_Go p.tables e below (s₁.setTop (mkF m 0 #[.val (.ref a), .val (.ref s1), .val (.ref b), .val (.ref s2), .val .null] [])) _
  refine own_by (fun _ kt => XS.aloadN X0.here hx rfl (hb hby d_prog_8_method_1_code_0) rfl rfl kt) ?_
  show own_Go p.tables e below (s₁.setTop (mkF m 1 #[.val (.ref a), .val (.ref s1), .val (.ref b), .val (.ref s2), .val .null] [(.ref a)])) _
  obtain ⟨_, _, ⟨T1, L1, k1, n1⟩, -, X1, ⟨Lc1, hQ1, l1, y1, z1⟩, st1⟩ := X0.specialBack hx (y := (⟨"java/lang/Record", "<init>", "()V"⟩ : MethodName)) rfl hown (mvT hZ (hw _ (List.mem_of_getElem? (i := 32) rfl))) (mvT hZ (hw _ (List.mem_of_getElem? (i := 33) rfl))) (mvT hZ (hw _ (List.mem_of_getElem? (i := 36) rfl))) (by decide) (backOf (W := 0) (rm_record l Z a0 hw [] a  h0 n0 Z0 ) hZ (hw _ (List.mem_of_getElem? (i := 36) rfl)) (hw _ (List.mem_of_getElem? (i := 35) rfl)) (by decide) (by decide)) (g := (mkF m 1 #[.val (.ref a), .val (.ref s1), .val (.ref b), .val (.ref s2), .val .null] [(.ref a)])) rfl (by rw [hml]; rfl) (Steps.refl _) (a := a) (argsL := []) (rest := []) (lenOf pd_0 rfl) rfl (by show 2 * 0 + _ ≤ _; exact Nat.le_of_eq rfl) (hb hby d_prog_8_method_1_code_1) (fun _ _ => ⟨rfl, e0, (by decide : 0 + 0 ≤ _), (by decide : 0 + 0 ≤ _)⟩)
  dsimp only [Pt.U, Pt.locs, Pt.cells, Pt.slots] at X1 l1 y1 z1 st1 hQ1
  subst l1 y1 z1
  obtain ⟨rfl, Nq1, eh1⟩ := hQ1
  have N1 := Fr.app N0 Nq1
  refine own_by (fun _ kt => st1.trans kt) ?_
  show own_Go p.tables e below (T1.setTop (mkF m 4 #[.val (.ref a), .val (.ref s1), .val (.ref b), .val (.ref s2), .val .null] [])) _
  refine own_by (fun _ kt => XS.aloadN X1.here hx rfl (hb hby d_prog_8_method_1_code_4) rfl rfl kt) ?_
  show own_Go p.tables e below (T1.setTop (mkF m 5 #[.val (.ref a), .val (.ref s1), .val (.ref b), .val (.ref s2), .val .null] [(.ref b)])) _
  obtain ⟨T2, h2, X2, e2, E2, A2, Ea2, st2⟩ := cloneH X1 hx hZ hown (hw _ (List.mem_of_getElem? (i := 38) rfl)) (hw _ (List.mem_of_getElem? (i := 39) rfl)) (hw _ (List.mem_of_getElem? (i := 43) rfl)) (hw _ (List.mem_of_getElem? (i := 41) rfl)) (hw _ (List.mem_of_getElem? (i := 42) rfl)) (hw _ (List.mem_of_getElem? (i := 44) rfl)) eh1 V_b.arh E_b (g := (mkF m 5 #[.val (.ref a), .val (.ref s1), .val (.ref b), .val (.ref s2), .val .null] [(.ref b)])) rfl (by rw [hml]; rfl) rfl (hb hby d_prog_8_method_1_code_5) (by decide) (W := 0) (cap := 1) (by show 2 * 0 + _ ≤ _; exact Nat.le_of_eq rfl) (by decide) (by decide) (by decide) (by decide)
  obtain ⟨b2, g2⟩ : ∃ z, z = h0.size := ⟨_, rfl⟩
  rw [← g2] at A2 Ea2 st2
  have gn_b2 : n0 ≤ b2 := Nat.le_trans Z0 (Nat.le_of_eq g2.symm)
  have sz_b2 : h0.size ≤ b2 := Nat.le_trans (Keep.refl h0 [a]).1 (Nat.le_of_eq g2.symm)
  have ne_a_b2 : a ≠ b2 := Nat.ne_of_lt (Nat.lt_of_lt_of_le F_method_a.lt (Nat.le_of_eq g2.symm))
  have ne_b_b2 : b ≠ b2 := Nat.ne_of_lt (Nat.lt_of_lt_of_le V_b.lt (Nat.le_of_eq g2.symm))
  have f3 := F_method_a.ext E2
  have f4 := F_request_a.ext E2
  have f5 := F_requestContentType_a.ext E2
  have f6 := F_params_a.ext E2
  have f7 := E_a.ext E2
  have f8 := V_b.ext E2
  have f9 := E_b.ext E2
  have Zs2 : n0 ≤ h2.size := Nat.le_trans Z0 E2.1
  have K2 : Keep h0 h2 [a] := (Keep.refl h0 [a]).ext E2
  have f2v : Arv Z h2 b2 kb .byte (1 : Int32) [(.int y0)] (.int (0 : Int32)) := A2
  refine own_by st2 ?_
  show own_Go p.tables e below (T2.setTop (mkF m 8 #[.val (.ref a), .val (.ref s1), .val (.ref b), .val (.ref s2), .val .null] [(.ref b2)])) _
  obtain ⟨T10, X10, e10, st10⟩ := castY X2 hx hZ hown (hw _ (List.mem_of_getElem? (i := 45) rfl)) e2 (Ins.self Ea2) (g := (mkF m 8 #[.val (.ref a), .val (.ref s1), .val (.ref b), .val (.ref s2), .val .null] [(.ref b2)])) rfl rfl (hb hby d_prog_8_method_1_code_8)
  refine own_by st10 ?_
  show own_Go p.tables e below (T10.setTop (mkF m 11 #[.val (.ref a), .val (.ref s1), .val (.ref b), .val (.ref s2), .val .null] [(.ref b2)])) _
  refine own_by (fun _ kt => XS.astoreN X10.here hx rfl (hb hby d_prog_8_method_1_code_11) rfl rfl (l' := #[.val (.ref a), .val (.ref s1), .val (.ref b2), .val (.ref s2), .val .null]) rfl kt) ?_
  show own_Go p.tables e below (T10.setTop (mkF m 12 #[.val (.ref a), .val (.ref s1), .val (.ref b2), .val (.ref s2), .val .null] [])) _
  refine own_by (fun _ kt => XS.aload X10.here hx rfl (hb hby d_prog_8_method_1_code_12) rfl rfl kt) ?_
  show own_Go p.tables e below (T10.setTop (mkF m 14 #[.val (.ref a), .val (.ref s1), .val (.ref b2), .val (.ref s2), .val .null] [.null])) _
  refine own_by (fun _ kt => XS.ifnonnullNo X10.here hx rfl (hb hby d_prog_8_method_1_code_14) rfl kt) ?_
  show own_Go p.tables e below (T10.setTop (mkF m 17 #[.val (.ref a), .val (.ref s1), .val (.ref b2), .val (.ref s2), .val .null] [])) _
  refine own_by (fun _ kt => XS.aconstNull X10.here hx rfl (hb hby d_prog_8_method_1_code_17) kt) ?_
  show own_Go p.tables e below (T10.setTop (mkF m 18 #[.val (.ref a), .val (.ref s1), .val (.ref b2), .val (.ref s2), .val .null] [.null])) _
  refine own_by (fun _ kt => XS.goto X10.here hx rfl (pc0 := 18) (pc' := 29) rfl (hb hby d_prog_8_method_1_code_18) (by decide) (by decide) kt) ?_
  show own_Go p.tables e below (T10.setTop (mkF m 29 #[.val (.ref a), .val (.ref s1), .val (.ref b2), .val (.ref s2), .val .null] [.null])) _
  refine own_by (fun _ kt => XS.astore X10.here hx rfl (hb hby d_prog_8_method_1_code_29) rfl rfl (l' := #[.val (.ref a), .val (.ref s1), .val (.ref b2), .val (.ref s2), .val .null]) rfl kt) ?_
  show own_Go p.tables e below (T10.setTop (mkF m 31 #[.val (.ref a), .val (.ref s1), .val (.ref b2), .val (.ref s2), .val .null] [])) _
  refine own_by (fun _ kt => XS.aloadN X10.here hx rfl (hb hby d_prog_8_method_1_code_31) rfl rfl kt) ?_
  show own_Go p.tables e below (T10.setTop (mkF m 32 #[.val (.ref a), .val (.ref s1), .val (.ref b2), .val (.ref s2), .val .null] [(.ref a)])) _
  refine own_by (fun _ kt => XS.aloadN X10.here hx rfl (hb hby d_prog_8_method_1_code_32) rfl rfl kt) ?_
  show own_Go p.tables e below (T10.setTop (mkF m 33 #[.val (.ref a), .val (.ref s1), .val (.ref b2), .val (.ref s2), .val .null] [(.ref s1), (.ref a)])) _
  obtain ⟨T11, h11, X11, e11, W11, st11⟩ := putF X10 hx hZ hown (host := "") (Or.inl (hw _ (List.mem_of_getElem? (i := 47) rfl))) Via.refl e10 f3 f7 (Or.inr ⟨(hw _ (List.mem_of_getElem? (i := 48) rfl)), rfl, hnm⟩) (hw _ (List.mem_of_getElem? (i := 2) rfl)) (ty := (.object "java/lang/String")) (by decide) rfl rfl (g := (mkF m 33 #[.val (.ref a), .val (.ref s1), .val (.ref b2), .val (.ref s2), .val .null] [(.ref s1), (.ref a)])) rfl rfl (hb hby d_prog_8_method_1_code_33)
  have Fw11 := f3.same W11
  have f12 := f4.other W11 (Or.inr (slot_ne (Or.inr (hw _ (List.mem_of_getElem? (i := 50) rfl))) (Or.inr (hw _ (List.mem_of_getElem? (i := 48) rfl))) (by decide) (t := (.array .byte)) (t' := (.object "java/lang/String")) (by decide) (by decide)))
  have f13 := f5.other W11 (Or.inr (slot_ne (Or.inr (hw _ (List.mem_of_getElem? (i := 52) rfl))) (Or.inr (hw _ (List.mem_of_getElem? (i := 48) rfl))) (by decide) (t := (.object "java/lang/String")) (t' := (.object "java/lang/String")) (by decide) (by decide)))
  have f14 := f6.other W11 (Or.inr (slot_ne (Or.inr (hw _ (List.mem_of_getElem? (i := 54) rfl))) (Or.inr (hw _ (List.mem_of_getElem? (i := 48) rfl))) (by decide) (t := (.array .byte)) (t' := (.object "java/lang/String")) (by decide) (by decide)))
  have f15 := f7.wr W11
  have f16 := f8.other W11 ne_b_a
  have f17 := f9.wr W11
  have f18 := f2v.other W11 (Ne.symm ne_a_b2)
  have f19 := Ea2.wr W11
  have Zs11 : n0 ≤ h11.size := by rw [W11.size]; exact Zs2
  have K11 : Keep h0 h11 [a] := K2.wr W11 (Or.inl (List.mem_of_getElem? (i := 0) rfl))
  have N11 := Fr.snoc X11 N1 gn_a
  refine own_by st11 ?_
  show own_Go p.tables e below (T11.setTop (mkF m 36 #[.val (.ref a), .val (.ref s1), .val (.ref b2), .val (.ref s2), .val .null] [])) _
  refine own_by (fun _ kt => XS.aloadN X11.here hx rfl (hb hby d_prog_8_method_1_code_36) rfl rfl kt) ?_
  show own_Go p.tables e below (T11.setTop (mkF m 37 #[.val (.ref a), .val (.ref s1), .val (.ref b2), .val (.ref s2), .val .null] [(.ref a)])) _
  refine own_by (fun _ kt => XS.aloadN X11.here hx rfl (hb hby d_prog_8_method_1_code_37) rfl rfl kt) ?_
  show own_Go p.tables e below (T11.setTop (mkF m 38 #[.val (.ref a), .val (.ref s1), .val (.ref b2), .val (.ref s2), .val .null] [(.ref b2), (.ref a)])) _
  obtain ⟨T20, h20, X20, e20, W20, st20⟩ := putF X11 hx hZ hown (host := "") (Or.inl (hw _ (List.mem_of_getElem? (i := 49) rfl))) Via.refl e11 f12 f15 (Or.inr ⟨(hw _ (List.mem_of_getElem? (i := 50) rfl)), rfl, hnm⟩) (hw _ (List.mem_of_getElem? (i := 2) rfl)) (ty := (.array .byte)) (by decide) rfl rfl (g := (mkF m 38 #[.val (.ref a), .val (.ref s1), .val (.ref b2), .val (.ref s2), .val .null] [(.ref b2), (.ref a)])) rfl rfl (hb hby d_prog_8_method_1_code_38)
  have Fw20 := f12.same W20
  have f21 := Fw11.other W20 (Or.inr (slot_ne (Or.inr (hw _ (List.mem_of_getElem? (i := 48) rfl))) (Or.inr (hw _ (List.mem_of_getElem? (i := 50) rfl))) (by decide) (t := (.object "java/lang/String")) (t' := (.array .byte)) (by decide) (by decide)))
  have f22 := f13.other W20 (Or.inr (slot_ne (Or.inr (hw _ (List.mem_of_getElem? (i := 52) rfl))) (Or.inr (hw _ (List.mem_of_getElem? (i := 50) rfl))) (by decide) (t := (.object "java/lang/String")) (t' := (.array .byte)) (by decide) (by decide)))
  have f23 := f14.other W20 (Or.inr (slot_ne (Or.inr (hw _ (List.mem_of_getElem? (i := 54) rfl))) (Or.inr (hw _ (List.mem_of_getElem? (i := 50) rfl))) (by decide) (t := (.array .byte)) (t' := (.array .byte)) (by decide) (by decide)))
  have f24 := f15.wr W20
  have f25 := f16.other W20 ne_b_a
  have f26 := f17.wr W20
  have f27 := f18.other W20 (Ne.symm ne_a_b2)
  have f28 := f19.wr W20
  have Zs20 : n0 ≤ h20.size := by rw [W20.size]; exact Zs11
  have K20 : Keep h0 h20 [a] := K11.wr W20 (Or.inl (List.mem_of_getElem? (i := 0) rfl))
  have N20 := Fr.snoc X20 N11 gn_a
  refine own_by st20 ?_
  show own_Go p.tables e below (T20.setTop (mkF m 41 #[.val (.ref a), .val (.ref s1), .val (.ref b2), .val (.ref s2), .val .null] [])) _
  refine own_by (fun _ kt => XS.aloadN X20.here hx rfl (hb hby d_prog_8_method_1_code_41) rfl rfl kt) ?_
  show own_Go p.tables e below (T20.setTop (mkF m 42 #[.val (.ref a), .val (.ref s1), .val (.ref b2), .val (.ref s2), .val .null] [(.ref a)])) _
  refine own_by (fun _ kt => XS.aloadN X20.here hx rfl (hb hby d_prog_8_method_1_code_42) rfl rfl kt) ?_
  show own_Go p.tables e below (T20.setTop (mkF m 43 #[.val (.ref a), .val (.ref s1), .val (.ref b2), .val (.ref s2), .val .null] [(.ref s2), (.ref a)])) _
  obtain ⟨T29, h29, X29, e29, W29, st29⟩ := putF X20 hx hZ hown (host := "") (Or.inl (hw _ (List.mem_of_getElem? (i := 51) rfl))) Via.refl e20 f22 f24 (Or.inr ⟨(hw _ (List.mem_of_getElem? (i := 52) rfl)), rfl, hnm⟩) (hw _ (List.mem_of_getElem? (i := 2) rfl)) (ty := (.object "java/lang/String")) (by decide) rfl rfl (g := (mkF m 43 #[.val (.ref a), .val (.ref s1), .val (.ref b2), .val (.ref s2), .val .null] [(.ref s2), (.ref a)])) rfl rfl (hb hby d_prog_8_method_1_code_43)
  have Fw29 := f22.same W29
  have f30 := f21.other W29 (Or.inr (slot_ne (Or.inr (hw _ (List.mem_of_getElem? (i := 48) rfl))) (Or.inr (hw _ (List.mem_of_getElem? (i := 52) rfl))) (by decide) (t := (.object "java/lang/String")) (t' := (.object "java/lang/String")) (by decide) (by decide)))
  have f31 := Fw20.other W29 (Or.inr (slot_ne (Or.inr (hw _ (List.mem_of_getElem? (i := 50) rfl))) (Or.inr (hw _ (List.mem_of_getElem? (i := 52) rfl))) (by decide) (t := (.array .byte)) (t' := (.object "java/lang/String")) (by decide) (by decide)))
  have f32 := f23.other W29 (Or.inr (slot_ne (Or.inr (hw _ (List.mem_of_getElem? (i := 54) rfl))) (Or.inr (hw _ (List.mem_of_getElem? (i := 52) rfl))) (by decide) (t := (.array .byte)) (t' := (.object "java/lang/String")) (by decide) (by decide)))
  have f33 := f24.wr W29
  have f34 := f25.other W29 ne_b_a
  have f35 := f26.wr W29
  have f36 := f27.other W29 (Ne.symm ne_a_b2)
  have f37 := f28.wr W29
  have Zs29 : n0 ≤ h29.size := by rw [W29.size]; exact Zs20
  have K29 : Keep h0 h29 [a] := K20.wr W29 (Or.inl (List.mem_of_getElem? (i := 0) rfl))
  have N29 := Fr.snoc X29 N20 gn_a
  refine own_by st29 ?_
  show own_Go p.tables e below (T29.setTop (mkF m 46 #[.val (.ref a), .val (.ref s1), .val (.ref b2), .val (.ref s2), .val .null] [])) _
  refine own_by (fun _ kt => XS.aloadN X29.here hx rfl (hb hby d_prog_8_method_1_code_46) rfl rfl kt) ?_
  show own_Go p.tables e below (T29.setTop (mkF m 47 #[.val (.ref a), .val (.ref s1), .val (.ref b2), .val (.ref s2), .val .null] [(.ref a)])) _
  refine own_by (fun _ kt => XS.aload X29.here hx rfl (hb hby d_prog_8_method_1_code_47) rfl rfl kt) ?_
  show own_Go p.tables e below (T29.setTop (mkF m 49 #[.val (.ref a), .val (.ref s1), .val (.ref b2), .val (.ref s2), .val .null] [.null, (.ref a)])) _
  obtain ⟨T38, h38, X38, e38, W38, st38⟩ := putF X29 hx hZ hown (host := "") (Or.inl (hw _ (List.mem_of_getElem? (i := 53) rfl))) Via.refl e29 f32 f33 (Or.inr ⟨(hw _ (List.mem_of_getElem? (i := 54) rfl)), rfl, hnm⟩) (hw _ (List.mem_of_getElem? (i := 2) rfl)) (ty := (.array .byte)) (by decide) rfl rfl (g := (mkF m 49 #[.val (.ref a), .val (.ref s1), .val (.ref b2), .val (.ref s2), .val .null] [.null, (.ref a)])) rfl rfl (hb hby d_prog_8_method_1_code_49)
  have Fw38 := f32.same W38
  have f39 := f30.other W38 (Or.inr (slot_ne (Or.inr (hw _ (List.mem_of_getElem? (i := 48) rfl))) (Or.inr (hw _ (List.mem_of_getElem? (i := 54) rfl))) (by decide) (t := (.object "java/lang/String")) (t' := (.array .byte)) (by decide) (by decide)))
  have f40 := f31.other W38 (Or.inr (slot_ne (Or.inr (hw _ (List.mem_of_getElem? (i := 50) rfl))) (Or.inr (hw _ (List.mem_of_getElem? (i := 54) rfl))) (by decide) (t := (.array .byte)) (t' := (.array .byte)) (by decide) (by decide)))
  have f41 := Fw29.other W38 (Or.inr (slot_ne (Or.inr (hw _ (List.mem_of_getElem? (i := 52) rfl))) (Or.inr (hw _ (List.mem_of_getElem? (i := 54) rfl))) (by decide) (t := (.object "java/lang/String")) (t' := (.array .byte)) (by decide) (by decide)))
  have f42 := f33.wr W38
  have f43 := f34.other W38 ne_b_a
  have f44 := f35.wr W38
  have f45 := f36.other W38 (Ne.symm ne_a_b2)
  have f46 := f37.wr W38
  have Zs38 : n0 ≤ h38.size := by rw [W38.size]; exact Zs29
  have K38 : Keep h0 h38 [a] := K29.wr W38 (Or.inl (List.mem_of_getElem? (i := 0) rfl))
  have N38 := Fr.snoc X38 N29 gn_a
  refine own_by st38 ?_
  show own_Go p.tables e below (T38.setTop (mkF m 52 #[.val (.ref a), .val (.ref s1), .val (.ref b2), .val (.ref s2), .val .null] [])) _
  exact own_retV X38 hx Bd.returns hlk (hb hby d_prog_8_method_1_code_52) (by rw [e38]; exact ⟨rfl, N38, K38, f42, Fw38⟩) (by decide) (by decide)
theorem d_prog_8_method_1_code_21 : decode prog_8_method_1_code 21 = .ok (.aload 4, 2) := by decide +kernel
theorem d_prog_8_method_1_code_23 : decode prog_8_method_1_code 23 = .ok (.invokevirtual 7, 3) := by decide +kernel
theorem d_prog_8_method_1_code_26 : decode prog_8_method_1_code 26 = .ok (.checkcast 8, 3) := by decide +kernel
theorem ef_7 (m : MethodId) (a : Addr) (s1 : Addr) (b : Addr) (s2 : Addr) (d : Addr) : entryFrame m #[(.ref a), (.ref s1), (.ref b), (.ref s2), (.ref d)] 5 = mkF m 0 #[.val (.ref a), .val (.ref s1), .val (.ref b), .val (.ref s2), .val (.ref d)] [] := by first | (simp [entryFrame, mkF, argsToLocals, Value.category]; done) | rfl
def Q_rm_init1 (Z : State) (a : Addr) (s1 : Addr) (b : Addr) (s2 : Addr) (d : Addr) (kb : ClassId) (y0 : Int32) (kd : ClassId) (vs : List Value) (z : Int32) (h0 : Heap) (n0 : Nat) (v : Option Value) (h : Heap) (L : List Loc) : Prop := ∃ (c2 : Addr), v = none ∧ Fr n0 L ∧ Keep h0 h [a] ∧ n0 ≤ c2 ∧ h0.size ≤ c2 ∧ Exa Z h a "com/example/relampago/relampago/lcp/Call" ∧ Fld Z h a "com/example/relampago/relampago/lcp/Call" "params" "[B" (.ref c2) ∧ Arv Z h c2 kd .byte z vs (.int (0 : Int32)) ∧ Exa Z h c2 "[B"
set_option maxRecDepth 65536 in
set_option maxHeartbeats 40000000 in
theorem rm_init1 (l : Launch) (Z : State) (a0 : Array Value) (hw : ∀ d ∈ tables_1, d.before a0 Z = true) (ws : List Jvm.Cond) (a : Addr) (s1 : Addr) (b : Addr) (s2 : Addr) (d : Addr) (kb : ClassId) (y0 : Int32) (kd : ClassId) (vs : List Value) (z : Int32) (h0 : Heap) (n0 : Nat) (Z0 : n0 ≤ h0.size) (F_method_a : Fld Z h0 a "com/example/relampago/relampago/lcp/Call" "method" "Ljava/lang/String;" .null) (F_request_a : Fld Z h0 a "com/example/relampago/relampago/lcp/Call" "request" "[B" .null) (F_requestContentType_a : Fld Z h0 a "com/example/relampago/relampago/lcp/Call" "requestContentType" "Ljava/lang/String;" .null) (F_params_a : Fld Z h0 a "com/example/relampago/relampago/lcp/Call" "params" "[B" .null) (E_a : Exa Z h0 a "com/example/relampago/relampago/lcp/Call") (gn_a : n0 ≤ a) (V_b : Arv Z h0 b kb .byte (1 : Int32) [(.int y0)] (.int (0 : Int32))) (E_b : Exa Z h0 b "[B") (ne_b_a : b ≠ a) (V_d : Arv Z h0 d kd .byte z vs (.int (0 : Int32))) (E_d : Exa Z h0 d "[B") (ne_d_a : d ≠ a) (hz : z.toNatClampNeg ≤ 3) :
    MetFree l (⟨"com/example/relampago/relampago/lcp/Call", "<init>", "(Ljava/lang/String;[BLjava/lang/String;[B)V"⟩ : MethodName) (head1 (Jvm.Cond.code (⟨"com/example/relampago/relampago/lcp/Call", "<init>", "(Ljava/lang/String;[BLjava/lang/String;[B)V"⟩ : MethodName) prog_8_method_1_code 5 none :: ws) ({ frames := 2, cells := 2, slots := 4, locals := 24 } : Room)) (fun av_ U => av_ = #[(.ref a), (.ref s1), (.ref b), (.ref s2), (.ref d)] ∧ Z.Warmed39 U.vm ∧ U.heap = h0) (fun _ _ _ _ _ => True) (fun _ U o U' => ∃ v L, o = .returned v ∧ Q_rm_init1 Z a s1 b s2 d kb y0 kd vs z h0 n0 v U'.heap L ∧ FrameEnd U o U' L ({ frames := 2, cells := 2, slots := 4, locals := 24 } : Room).cells ({ frames := 2, cells := 2, slots := 4, locals := 24 } : Room).slots) := by
  refine MetFree.of_bodySF (plainFor_of_name pn_3) hisR ?_
  intro p e s m args below meth c s₁ Bd hml0 hP hK
  obtain ⟨rfl, hZ, hh⟩ := hP
  have hx := Bd.exec
  have hby := Bd.bytes
  have hml : c.maxLocals = 5 := hml0
  have hown : s.vm.findClass "com/example/relampago/relampago/lcp/Call" = some m.cls := findClass_of_methodNamed Bd.named
  have hnm := (name_of_methodNamed Bd.named Bd.method).1
  have hlk : meth.locks = false := BodyLoose.notSynchronized Bd
  have X0 : Stand p l e ({ frames := 2, cells := 2, slots := 4, locals := 24 } : Room) s m #[(.ref a), (.ref s1), (.ref b), (.ref s2), (.ref d)] below meth c s₁ [] 0 0 := Stand.of_body Bd
  have e0 : s₁.heap = h0 := by rw [← hh, Bd.state]; rfl
  have N0 := Fr.nil n0
  refine own_by (fun _ kt => castTop (ef_7 m a s1 b s2 d) kt) (R := own_R s (Q_rm_init1 Z a s1 b s2 d kb y0 kd vs z h0 n0) 2 4) ?_
  show own_Go p.tables e below (s₁.setTop (mkF m 0 #[.val (.ref a), .val (.ref s1), .val (.ref b), .val (.ref s2), .val (.ref d)] [])) _
  refine own_by (fun _ kt => XS.aloadN X0.here hx rfl (hb hby d_prog_8_method_1_code_0) rfl rfl kt) ?_
  show own_Go p.tables e below (s₁.setTop (mkF m 1 #[.val (.ref a), .val (.ref s1), .val (.ref b), .val (.ref s2), .val (.ref d)] [(.ref a)])) _
  obtain ⟨_, _, ⟨T1, L1, k1, n1⟩, -, X1, ⟨Lc1, hQ1, l1, y1, z1⟩, st1⟩ := X0.specialBack hx (y := (⟨"java/lang/Record", "<init>", "()V"⟩ : MethodName)) rfl hown (mvT hZ (hw _ (List.mem_of_getElem? (i := 32) rfl))) (mvT hZ (hw _ (List.mem_of_getElem? (i := 33) rfl))) (mvT hZ (hw _ (List.mem_of_getElem? (i := 36) rfl))) (by decide) (backOf (W := 0) (rm_record l Z a0 hw [] a  h0 n0 Z0 ) hZ (hw _ (List.mem_of_getElem? (i := 36) rfl)) (hw _ (List.mem_of_getElem? (i := 35) rfl)) (by decide) (by decide)) (g := (mkF m 1 #[.val (.ref a), .val (.ref s1), .val (.ref b), .val (.ref s2), .val (.ref d)] [(.ref a)])) rfl (by rw [hml]; rfl) (Steps.refl _) (a := a) (argsL := []) (rest := []) (lenOf pd_0 rfl) rfl (by show 2 * 0 + _ ≤ _; exact Nat.le_of_eq rfl) (hb hby d_prog_8_method_1_code_1) (fun _ _ => ⟨rfl, e0, (by decide : 0 + 0 ≤ _), (by decide : 0 + 0 ≤ _)⟩)
  dsimp only [Pt.U, Pt.locs, Pt.cells, Pt.slots] at X1 l1 y1 z1 st1 hQ1
  subst l1 y1 z1
  obtain ⟨rfl, Nq1, eh1⟩ := hQ1
  have N1 := Fr.app N0 Nq1
  refine own_by (fun _ kt => st1.trans kt) ?_
  show own_Go p.tables e below (T1.setTop (mkF m 4 #[.val (.ref a), .val (.ref s1), .val (.ref b), .val (.ref s2), .val (.ref d)] [])) _
  refine own_by (fun _ kt => XS.aloadN X1.here hx rfl (hb hby d_prog_8_method_1_code_4) rfl rfl kt) ?_
  show own_Go p.tables e below (T1.setTop (mkF m 5 #[.val (.ref a), .val (.ref s1), .val (.ref b), .val (.ref s2), .val (.ref d)] [(.ref b)])) _
  obtain ⟨T2, h2, X2, e2, E2, A2, Ea2, st2⟩ := cloneH X1 hx hZ hown (hw _ (List.mem_of_getElem? (i := 38) rfl)) (hw _ (List.mem_of_getElem? (i := 39) rfl)) (hw _ (List.mem_of_getElem? (i := 43) rfl)) (hw _ (List.mem_of_getElem? (i := 41) rfl)) (hw _ (List.mem_of_getElem? (i := 42) rfl)) (hw _ (List.mem_of_getElem? (i := 44) rfl)) eh1 V_b.arh E_b (g := (mkF m 5 #[.val (.ref a), .val (.ref s1), .val (.ref b), .val (.ref s2), .val (.ref d)] [(.ref b)])) rfl (by rw [hml]; rfl) rfl (hb hby d_prog_8_method_1_code_5) (by decide) (W := 0) (cap := 1) (by show 2 * 0 + _ ≤ _; exact Nat.le_of_eq rfl) (by decide) (by decide) (by decide) (by decide)
  obtain ⟨b2, g2⟩ : ∃ z, z = h0.size := ⟨_, rfl⟩
  rw [← g2] at A2 Ea2 st2
  have gn_b2 : n0 ≤ b2 := Nat.le_trans Z0 (Nat.le_of_eq g2.symm)
  have sz_b2 : h0.size ≤ b2 := Nat.le_trans (Keep.refl h0 [a]).1 (Nat.le_of_eq g2.symm)
  have ne_a_b2 : a ≠ b2 := Nat.ne_of_lt (Nat.lt_of_lt_of_le F_method_a.lt (Nat.le_of_eq g2.symm))
  have ne_b_b2 : b ≠ b2 := Nat.ne_of_lt (Nat.lt_of_lt_of_le V_b.lt (Nat.le_of_eq g2.symm))
  have ne_d_b2 : d ≠ b2 := Nat.ne_of_lt (Nat.lt_of_lt_of_le V_d.lt (Nat.le_of_eq g2.symm))
  have f3 := F_method_a.ext E2
  have f4 := F_request_a.ext E2
  have f5 := F_requestContentType_a.ext E2
  have f6 := F_params_a.ext E2
  have f7 := E_a.ext E2
  have f8 := V_b.ext E2
  have f9 := E_b.ext E2
  have f10 := V_d.ext E2
  have f11 := E_d.ext E2
  have Zs2 : n0 ≤ h2.size := Nat.le_trans Z0 E2.1
  have K2 : Keep h0 h2 [a] := (Keep.refl h0 [a]).ext E2
  have f2v : Arv Z h2 b2 kb .byte (1 : Int32) [(.int y0)] (.int (0 : Int32)) := A2
  refine own_by st2 ?_
  show own_Go p.tables e below (T2.setTop (mkF m 8 #[.val (.ref a), .val (.ref s1), .val (.ref b), .val (.ref s2), .val (.ref d)] [(.ref b2)])) _
  obtain ⟨T12, X12, e12, st12⟩ := castY X2 hx hZ hown (hw _ (List.mem_of_getElem? (i := 45) rfl)) e2 (Ins.self Ea2) (g := (mkF m 8 #[.val (.ref a), .val (.ref s1), .val (.ref b), .val (.ref s2), .val (.ref d)] [(.ref b2)])) rfl rfl (hb hby d_prog_8_method_1_code_8)
  refine own_by st12 ?_
  show own_Go p.tables e below (T12.setTop (mkF m 11 #[.val (.ref a), .val (.ref s1), .val (.ref b), .val (.ref s2), .val (.ref d)] [(.ref b2)])) _
  refine own_by (fun _ kt => XS.astoreN X12.here hx rfl (hb hby d_prog_8_method_1_code_11) rfl rfl (l' := #[.val (.ref a), .val (.ref s1), .val (.ref b2), .val (.ref s2), .val (.ref d)]) rfl kt) ?_
  show own_Go p.tables e below (T12.setTop (mkF m 12 #[.val (.ref a), .val (.ref s1), .val (.ref b2), .val (.ref s2), .val (.ref d)] [])) _
  refine own_by (fun _ kt => XS.aload X12.here hx rfl (hb hby d_prog_8_method_1_code_12) rfl rfl kt) ?_
  show own_Go p.tables e below (T12.setTop (mkF m 14 #[.val (.ref a), .val (.ref s1), .val (.ref b2), .val (.ref s2), .val (.ref d)] [(.ref d)])) _
  refine own_by (fun _ kt => XS.ifnonnullYes X12.here hx rfl (pc0 := 14) (pc' := 21) rfl (hb hby d_prog_8_method_1_code_14) rfl (by decide) (by decide) kt) ?_
  show own_Go p.tables e below (T12.setTop (mkF m 21 #[.val (.ref a), .val (.ref s1), .val (.ref b2), .val (.ref s2), .val (.ref d)] [])) _
  refine own_by (fun _ kt => XS.aload X12.here hx rfl (hb hby d_prog_8_method_1_code_21) rfl rfl kt) ?_
  show own_Go p.tables e below (T12.setTop (mkF m 23 #[.val (.ref a), .val (.ref s1), .val (.ref b2), .val (.ref s2), .val (.ref d)] [(.ref d)])) _
  obtain ⟨T13, h13, X13, e13, E13, A13, Ea13, st13⟩ := cloneH X12 hx hZ hown (hw _ (List.mem_of_getElem? (i := 38) rfl)) (hw _ (List.mem_of_getElem? (i := 39) rfl)) (hw _ (List.mem_of_getElem? (i := 43) rfl)) (hw _ (List.mem_of_getElem? (i := 41) rfl)) (hw _ (List.mem_of_getElem? (i := 42) rfl)) (hw _ (List.mem_of_getElem? (i := 44) rfl)) e12 f10.arh f11 (g := (mkF m 23 #[.val (.ref a), .val (.ref s1), .val (.ref b2), .val (.ref s2), .val (.ref d)] [(.ref d)])) rfl (by rw [hml]; rfl) rfl (hb hby d_prog_8_method_1_code_23) (by decide) (W := 0) (cap := 3) (by show 2 * 0 + _ ≤ _; exact Nat.le_of_eq rfl) (by decide) hz (by decide) (by decide)
  obtain ⟨b13, g13⟩ : ∃ z, z = h2.size := ⟨_, rfl⟩
  rw [← g13] at A13 Ea13 st13
  have gn_b13 : n0 ≤ b13 := Nat.le_trans Zs2 (Nat.le_of_eq g13.symm)
  have sz_b13 : h0.size ≤ b13 := Nat.le_trans K2.1 (Nat.le_of_eq g13.symm)
  have ne_a_b13 : a ≠ b13 := Nat.ne_of_lt (Nat.lt_of_lt_of_le f3.lt (Nat.le_of_eq g13.symm))
  have ne_b_b13 : b ≠ b13 := Nat.ne_of_lt (Nat.lt_of_lt_of_le f8.lt (Nat.le_of_eq g13.symm))
  have ne_d_b13 : d ≠ b13 := Nat.ne_of_lt (Nat.lt_of_lt_of_le f10.lt (Nat.le_of_eq g13.symm))
  have ne_b2_b13 : b2 ≠ b13 := Nat.ne_of_lt (Nat.lt_of_lt_of_le f2v.lt (Nat.le_of_eq g13.symm))
  have f14 := f3.ext E13
  have f15 := f4.ext E13
  have f16 := f5.ext E13
  have f17 := f6.ext E13
  have f18 := f7.ext E13
  have f19 := f8.ext E13
  have f20 := f9.ext E13
  have f21 := f10.ext E13
  have f22 := f11.ext E13
  have f23 := f2v.ext E13
  have f24 := Ea2.ext E13
  have Zs13 : n0 ≤ h13.size := Nat.le_trans Zs2 E13.1
  have K13 : Keep h0 h13 [a] := K2.ext E13
  have f13v : Arv Z h13 b13 kd .byte z vs (.int (0 : Int32)) := A13
  refine own_by st13 ?_
  show own_Go p.tables e below (T13.setTop (mkF m 26 #[.val (.ref a), .val (.ref s1), .val (.ref b2), .val (.ref s2), .val (.ref d)] [(.ref b13)])) _
  obtain ⟨T25, X25, e25, st25⟩ := castY X13 hx hZ hown (hw _ (List.mem_of_getElem? (i := 45) rfl)) e13 (Ins.self Ea13) (g := (mkF m 26 #[.val (.ref a), .val (.ref s1), .val (.ref b2), .val (.ref s2), .val (.ref d)] [(.ref b13)])) rfl rfl (hb hby d_prog_8_method_1_code_26)
  refine own_by st25 ?_
  show own_Go p.tables e below (T25.setTop (mkF m 29 #[.val (.ref a), .val (.ref s1), .val (.ref b2), .val (.ref s2), .val (.ref d)] [(.ref b13)])) _
  refine own_by (fun _ kt => XS.astore X25.here hx rfl (hb hby d_prog_8_method_1_code_29) rfl rfl (l' := #[.val (.ref a), .val (.ref s1), .val (.ref b2), .val (.ref s2), .val (.ref b13)]) rfl kt) ?_
  show own_Go p.tables e below (T25.setTop (mkF m 31 #[.val (.ref a), .val (.ref s1), .val (.ref b2), .val (.ref s2), .val (.ref b13)] [])) _
  refine own_by (fun _ kt => XS.aloadN X25.here hx rfl (hb hby d_prog_8_method_1_code_31) rfl rfl kt) ?_
  show own_Go p.tables e below (T25.setTop (mkF m 32 #[.val (.ref a), .val (.ref s1), .val (.ref b2), .val (.ref s2), .val (.ref b13)] [(.ref a)])) _
  refine own_by (fun _ kt => XS.aloadN X25.here hx rfl (hb hby d_prog_8_method_1_code_32) rfl rfl kt) ?_
  show own_Go p.tables e below (T25.setTop (mkF m 33 #[.val (.ref a), .val (.ref s1), .val (.ref b2), .val (.ref s2), .val (.ref b13)] [(.ref s1), (.ref a)])) _
  obtain ⟨T26, h26, X26, e26, W26, st26⟩ := putF X25 hx hZ hown (host := "") (Or.inl (hw _ (List.mem_of_getElem? (i := 47) rfl))) Via.refl e25 f14 f18 (Or.inr ⟨(hw _ (List.mem_of_getElem? (i := 48) rfl)), rfl, hnm⟩) (hw _ (List.mem_of_getElem? (i := 2) rfl)) (ty := (.object "java/lang/String")) (by decide) rfl rfl (g := (mkF m 33 #[.val (.ref a), .val (.ref s1), .val (.ref b2), .val (.ref s2), .val (.ref b13)] [(.ref s1), (.ref a)])) rfl rfl (hb hby d_prog_8_method_1_code_33)
  have Fw26 := f14.same W26
  have f27 := f15.other W26 (Or.inr (slot_ne (Or.inr (hw _ (List.mem_of_getElem? (i := 50) rfl))) (Or.inr (hw _ (List.mem_of_getElem? (i := 48) rfl))) (by decide) (t := (.array .byte)) (t' := (.object "java/lang/String")) (by decide) (by decide)))
  have f28 := f16.other W26 (Or.inr (slot_ne (Or.inr (hw _ (List.mem_of_getElem? (i := 52) rfl))) (Or.inr (hw _ (List.mem_of_getElem? (i := 48) rfl))) (by decide) (t := (.object "java/lang/String")) (t' := (.object "java/lang/String")) (by decide) (by decide)))
  have f29 := f17.other W26 (Or.inr (slot_ne (Or.inr (hw _ (List.mem_of_getElem? (i := 54) rfl))) (Or.inr (hw _ (List.mem_of_getElem? (i := 48) rfl))) (by decide) (t := (.array .byte)) (t' := (.object "java/lang/String")) (by decide) (by decide)))
  have f30 := f18.wr W26
  have f31 := f19.other W26 ne_b_a
  have f32 := f20.wr W26
  have f33 := f21.other W26 ne_d_a
  have f34 := f22.wr W26
  have f35 := f23.other W26 (Ne.symm ne_a_b2)
  have f36 := f24.wr W26
  have f37 := f13v.other W26 (Ne.symm ne_a_b13)
  have f38 := Ea13.wr W26
  have Zs26 : n0 ≤ h26.size := by rw [W26.size]; exact Zs13
  have K26 : Keep h0 h26 [a] := K13.wr W26 (Or.inl (List.mem_of_getElem? (i := 0) rfl))
  have N26 := Fr.snoc X26 N1 gn_a
  refine own_by st26 ?_
  show own_Go p.tables e below (T26.setTop (mkF m 36 #[.val (.ref a), .val (.ref s1), .val (.ref b2), .val (.ref s2), .val (.ref b13)] [])) _
  refine own_by (fun _ kt => XS.aloadN X26.here hx rfl (hb hby d_prog_8_method_1_code_36) rfl rfl kt) ?_
  show own_Go p.tables e below (T26.setTop (mkF m 37 #[.val (.ref a), .val (.ref s1), .val (.ref b2), .val (.ref s2), .val (.ref b13)] [(.ref a)])) _
  refine own_by (fun _ kt => XS.aloadN X26.here hx rfl (hb hby d_prog_8_method_1_code_37) rfl rfl kt) ?_
  show own_Go p.tables e below (T26.setTop (mkF m 38 #[.val (.ref a), .val (.ref s1), .val (.ref b2), .val (.ref s2), .val (.ref b13)] [(.ref b2), (.ref a)])) _
  obtain ⟨T39, h39, X39, e39, W39, st39⟩ := putF X26 hx hZ hown (host := "") (Or.inl (hw _ (List.mem_of_getElem? (i := 49) rfl))) Via.refl e26 f27 f30 (Or.inr ⟨(hw _ (List.mem_of_getElem? (i := 50) rfl)), rfl, hnm⟩) (hw _ (List.mem_of_getElem? (i := 2) rfl)) (ty := (.array .byte)) (by decide) rfl rfl (g := (mkF m 38 #[.val (.ref a), .val (.ref s1), .val (.ref b2), .val (.ref s2), .val (.ref b13)] [(.ref b2), (.ref a)])) rfl rfl (hb hby d_prog_8_method_1_code_38)
  have Fw39 := f27.same W39
  have f40 := Fw26.other W39 (Or.inr (slot_ne (Or.inr (hw _ (List.mem_of_getElem? (i := 48) rfl))) (Or.inr (hw _ (List.mem_of_getElem? (i := 50) rfl))) (by decide) (t := (.object "java/lang/String")) (t' := (.array .byte)) (by decide) (by decide)))
  have f41 := f28.other W39 (Or.inr (slot_ne (Or.inr (hw _ (List.mem_of_getElem? (i := 52) rfl))) (Or.inr (hw _ (List.mem_of_getElem? (i := 50) rfl))) (by decide) (t := (.object "java/lang/String")) (t' := (.array .byte)) (by decide) (by decide)))
  have f42 := f29.other W39 (Or.inr (slot_ne (Or.inr (hw _ (List.mem_of_getElem? (i := 54) rfl))) (Or.inr (hw _ (List.mem_of_getElem? (i := 50) rfl))) (by decide) (t := (.array .byte)) (t' := (.array .byte)) (by decide) (by decide)))
  have f43 := f30.wr W39
  have f44 := f31.other W39 ne_b_a
  have f45 := f32.wr W39
  have f46 := f33.other W39 ne_d_a
  have f47 := f34.wr W39
  have f48 := f35.other W39 (Ne.symm ne_a_b2)
  have f49 := f36.wr W39
  have f50 := f37.other W39 (Ne.symm ne_a_b13)
  have f51 := f38.wr W39
  have Zs39 : n0 ≤ h39.size := by rw [W39.size]; exact Zs26
  have K39 : Keep h0 h39 [a] := K26.wr W39 (Or.inl (List.mem_of_getElem? (i := 0) rfl))
  have N39 := Fr.snoc X39 N26 gn_a
  refine own_by st39 ?_
  show own_Go p.tables e below (T39.setTop (mkF m 41 #[.val (.ref a), .val (.ref s1), .val (.ref b2), .val (.ref s2), .val (.ref b13)] [])) _
  refine own_by (fun _ kt => XS.aloadN X39.here hx rfl (hb hby d_prog_8_method_1_code_41) rfl rfl kt) ?_
  show own_Go p.tables e below (T39.setTop (mkF m 42 #[.val (.ref a), .val (.ref s1), .val (.ref b2), .val (.ref s2), .val (.ref b13)] [(.ref a)])) _
  refine own_by (fun _ kt => XS.aloadN X39.here hx rfl (hb hby d_prog_8_method_1_code_42) rfl rfl kt) ?_
  show own_Go p.tables e below (T39.setTop (mkF m 43 #[.val (.ref a), .val (.ref s1), .val (.ref b2), .val (.ref s2), .val (.ref b13)] [(.ref s2), (.ref a)])) _
  obtain ⟨T52, h52, X52, e52, W52, st52⟩ := putF X39 hx hZ hown (host := "") (Or.inl (hw _ (List.mem_of_getElem? (i := 51) rfl))) Via.refl e39 f41 f43 (Or.inr ⟨(hw _ (List.mem_of_getElem? (i := 52) rfl)), rfl, hnm⟩) (hw _ (List.mem_of_getElem? (i := 2) rfl)) (ty := (.object "java/lang/String")) (by decide) rfl rfl (g := (mkF m 43 #[.val (.ref a), .val (.ref s1), .val (.ref b2), .val (.ref s2), .val (.ref b13)] [(.ref s2), (.ref a)])) rfl rfl (hb hby d_prog_8_method_1_code_43)
  have Fw52 := f41.same W52
  have f53 := f40.other W52 (Or.inr (slot_ne (Or.inr (hw _ (List.mem_of_getElem? (i := 48) rfl))) (Or.inr (hw _ (List.mem_of_getElem? (i := 52) rfl))) (by decide) (t := (.object "java/lang/String")) (t' := (.object "java/lang/String")) (by decide) (by decide)))
  have f54 := Fw39.other W52 (Or.inr (slot_ne (Or.inr (hw _ (List.mem_of_getElem? (i := 50) rfl))) (Or.inr (hw _ (List.mem_of_getElem? (i := 52) rfl))) (by decide) (t := (.array .byte)) (t' := (.object "java/lang/String")) (by decide) (by decide)))
  have f55 := f42.other W52 (Or.inr (slot_ne (Or.inr (hw _ (List.mem_of_getElem? (i := 54) rfl))) (Or.inr (hw _ (List.mem_of_getElem? (i := 52) rfl))) (by decide) (t := (.array .byte)) (t' := (.object "java/lang/String")) (by decide) (by decide)))
  have f56 := f43.wr W52
  have f57 := f44.other W52 ne_b_a
  have f58 := f45.wr W52
  have f59 := f46.other W52 ne_d_a
  have f60 := f47.wr W52
  have f61 := f48.other W52 (Ne.symm ne_a_b2)
  have f62 := f49.wr W52
  have f63 := f50.other W52 (Ne.symm ne_a_b13)
  have f64 := f51.wr W52
  have Zs52 : n0 ≤ h52.size := by rw [W52.size]; exact Zs39
  have K52 : Keep h0 h52 [a] := K39.wr W52 (Or.inl (List.mem_of_getElem? (i := 0) rfl))
  have N52 := Fr.snoc X52 N39 gn_a
  refine own_by st52 ?_
  show own_Go p.tables e below (T52.setTop (mkF m 46 #[.val (.ref a), .val (.ref s1), .val (.ref b2), .val (.ref s2), .val (.ref b13)] [])) _
  refine own_by (fun _ kt => XS.aloadN X52.here hx rfl (hb hby d_prog_8_method_1_code_46) rfl rfl kt) ?_
  show own_Go p.tables e below (T52.setTop (mkF m 47 #[.val (.ref a), .val (.ref s1), .val (.ref b2), .val (.ref s2), .val (.ref b13)] [(.ref a)])) _
  refine own_by (fun _ kt => XS.aload X52.here hx rfl (hb hby d_prog_8_method_1_code_47) rfl rfl kt) ?_
  show own_Go p.tables e below (T52.setTop (mkF m 49 #[.val (.ref a), .val (.ref s1), .val (.ref b2), .val (.ref s2), .val (.ref b13)] [(.ref b13), (.ref a)])) _
  obtain ⟨T65, h65, X65, e65, W65, st65⟩ := putF X52 hx hZ hown (host := "") (Or.inl (hw _ (List.mem_of_getElem? (i := 53) rfl))) Via.refl e52 f55 f56 (Or.inr ⟨(hw _ (List.mem_of_getElem? (i := 54) rfl)), rfl, hnm⟩) (hw _ (List.mem_of_getElem? (i := 2) rfl)) (ty := (.array .byte)) (by decide) rfl rfl (g := (mkF m 49 #[.val (.ref a), .val (.ref s1), .val (.ref b2), .val (.ref s2), .val (.ref b13)] [(.ref b13), (.ref a)])) rfl rfl (hb hby d_prog_8_method_1_code_49)
  have Fw65 := f55.same W65
  have f66 := f53.other W65 (Or.inr (slot_ne (Or.inr (hw _ (List.mem_of_getElem? (i := 48) rfl))) (Or.inr (hw _ (List.mem_of_getElem? (i := 54) rfl))) (by decide) (t := (.object "java/lang/String")) (t' := (.array .byte)) (by decide) (by decide)))
  have f67 := f54.other W65 (Or.inr (slot_ne (Or.inr (hw _ (List.mem_of_getElem? (i := 50) rfl))) (Or.inr (hw _ (List.mem_of_getElem? (i := 54) rfl))) (by decide) (t := (.array .byte)) (t' := (.array .byte)) (by decide) (by decide)))
  have f68 := Fw52.other W65 (Or.inr (slot_ne (Or.inr (hw _ (List.mem_of_getElem? (i := 52) rfl))) (Or.inr (hw _ (List.mem_of_getElem? (i := 54) rfl))) (by decide) (t := (.object "java/lang/String")) (t' := (.array .byte)) (by decide) (by decide)))
  have f69 := f56.wr W65
  have f70 := f57.other W65 ne_b_a
  have f71 := f58.wr W65
  have f72 := f59.other W65 ne_d_a
  have f73 := f60.wr W65
  have f74 := f61.other W65 (Ne.symm ne_a_b2)
  have f75 := f62.wr W65
  have f76 := f63.other W65 (Ne.symm ne_a_b13)
  have f77 := f64.wr W65
  have Zs65 : n0 ≤ h65.size := by rw [W65.size]; exact Zs52
  have K65 : Keep h0 h65 [a] := K52.wr W65 (Or.inl (List.mem_of_getElem? (i := 0) rfl))
  have N65 := Fr.snoc X65 N52 gn_a
  refine own_by st65 ?_
  show own_Go p.tables e below (T65.setTop (mkF m 52 #[.val (.ref a), .val (.ref s1), .val (.ref b2), .val (.ref s2), .val (.ref b13)] [])) _
  exact own_retV X65 hx Bd.returns hlk (hb hby d_prog_8_method_1_code_52) (by rw [e65]; exact ⟨b13, rfl, N65, K65, gn_b13, sz_b13, f69, Fw65, f76, f77⟩) (by decide) (by decide)
theorem d_prog_8_method_3_code_0 : decode prog_8_method_3_code 0 = .ok (.aload_n 0, 1) := by decide +kernel
theorem d_prog_8_method_3_code_1 : decode prog_8_method_3_code 1 = .ok (.getfield 25, 3) := by decide +kernel
theorem d_prog_8_method_3_code_4 : decode prog_8_method_3_code 4 = .ok (.ifnonnull 7, 3) := by decide +kernel
theorem d_prog_8_method_3_code_7 : decode prog_8_method_3_code 7 = .ok (.aconst_null, 1) := by decide +kernel
theorem d_prog_8_method_3_code_8 : decode prog_8_method_3_code 8 = .ok (.goto 13, 3) := by decide +kernel
theorem d_prog_8_method_3_code_21 : decode prog_8_method_3_code 21 = .ok (.areturn, 1) := by decide +kernel
theorem ef_8 (m : MethodId) (a : Addr) : entryFrame m #[(.ref a)] 1 = mkF m 0 #[.val (.ref a)] [] := by first | (simp [entryFrame, mkF, argsToLocals, Value.category]; done) | rfl
def Q_rm_params0 (Z : State) (a : Addr)  (h0 : Heap) (n0 : Nat) (v : Option Value) (h : Heap) (L : List Loc) : Prop := v = some .null ∧ Fr n0 L ∧ h = h0
set_option maxRecDepth 65536 in
set_option maxHeartbeats 40000000 in
theorem rm_params0 (l : Launch) (Z : State) (a0 : Array Value) (hw : ∀ d ∈ tables_1, d.before a0 Z = true) (ws : List Jvm.Cond) (a : Addr)  (h0 : Heap) (n0 : Nat) (Z0 : n0 ≤ h0.size) (F_params_a : Fld Z h0 a "com/example/relampago/relampago/lcp/Call" "params" "[B" .null) :
    MetFree l (⟨"com/example/relampago/relampago/lcp/Call", "params", "()[B"⟩ : MethodName) (head1 (Jvm.Cond.code (⟨"com/example/relampago/relampago/lcp/Call", "params", "()[B"⟩ : MethodName) prog_8_method_3_code 1 (some (.array .byte)) :: ws) ({ frames := 0, cells := 0, slots := 0, locals := 0 } : Room)) (fun av_ U => av_ = #[(.ref a)] ∧ Z.Warmed39 U.vm ∧ U.heap = h0) (fun _ _ _ _ _ => True) (fun _ U o U' => ∃ v L, o = .returned v ∧ Q_rm_params0 Z a h0 n0 v U'.heap L ∧ FrameEnd U o U' L ({ frames := 0, cells := 0, slots := 0, locals := 0 } : Room).cells ({ frames := 0, cells := 0, slots := 0, locals := 0 } : Room).slots) := by
  refine MetFree.of_bodySF (plainFor_of_name pn_3) hisR ?_
  intro p e s m args below meth c s₁ Bd hml0 hP hK
  obtain ⟨rfl, hZ, hh⟩ := hP
  have hx := Bd.exec
  have hby := Bd.bytes
  have hml : c.maxLocals = 1 := hml0
  have hown : s.vm.findClass "com/example/relampago/relampago/lcp/Call" = some m.cls := findClass_of_methodNamed Bd.named
  have hnm := (name_of_methodNamed Bd.named Bd.method).1
  have hlk : meth.locks = false := BodyLoose.notSynchronized Bd
  have X0 : Stand p l e ({ frames := 0, cells := 0, slots := 0, locals := 0 } : Room) s m #[(.ref a)] below meth c s₁ [] 0 0 := Stand.of_body Bd
  have e0 : s₁.heap = h0 := by rw [← hh, Bd.state]; rfl
  have N0 := Fr.nil n0
  refine own_by (fun _ kt => castTop (ef_8 m a) kt) (R := own_R s (Q_rm_params0 Z a h0 n0) 0 0) ?_
  show own_Go p.tables e below (s₁.setTop (mkF m 0 #[.val (.ref a)] [])) _
  refine own_by (fun _ kt => XS.aloadN X0.here hx rfl (hb hby d_prog_8_method_3_code_0) rfl rfl kt) ?_
  show own_Go p.tables e below (s₁.setTop (mkF m 1 #[.val (.ref a)] [(.ref a)])) _
  obtain ⟨T1, X1, e1, st1⟩ := getF X0 hx hZ hown (host := "") (Or.inl (hw _ (List.mem_of_getElem? (i := 53) rfl))) Via.refl e0 F_params_a (g := (mkF m 1 #[.val (.ref a)] [(.ref a)])) rfl rfl (hb hby d_prog_8_method_3_code_1)
  refine own_by st1 ?_
  show own_Go p.tables e below (T1.setTop (mkF m 4 #[.val (.ref a)] [.null])) _
  refine own_by (fun _ kt => XS.ifnonnullNo X1.here hx rfl (hb hby d_prog_8_method_3_code_4) rfl kt) ?_
  show own_Go p.tables e below (T1.setTop (mkF m 7 #[.val (.ref a)] [])) _
  refine own_by (fun _ kt => XS.aconstNull X1.here hx rfl (hb hby d_prog_8_method_3_code_7) kt) ?_
  show own_Go p.tables e below (T1.setTop (mkF m 8 #[.val (.ref a)] [.null])) _
  refine own_by (fun _ kt => XS.goto X1.here hx rfl (pc0 := 8) (pc' := 21) rfl (hb hby d_prog_8_method_3_code_8) (by decide) (by decide) kt) ?_
  show own_Go p.tables e below (T1.setTop (mkF m 21 #[.val (.ref a)] [.null])) _
  exact own_retA X1 hx Bd.returns hlk rfl rfl (hb hby d_prog_8_method_3_code_21) ⟨rfl, N0, e1⟩ (by decide) (by decide)
theorem d_prog_8_method_3_code_11 : decode prog_8_method_3_code 11 = .ok (.aload_n 0, 1) := by decide +kernel
theorem d_prog_8_method_3_code_12 : decode prog_8_method_3_code 12 = .ok (.getfield 25, 3) := by decide +kernel
theorem d_prog_8_method_3_code_15 : decode prog_8_method_3_code 15 = .ok (.invokevirtual 7, 3) := by decide +kernel
theorem d_prog_8_method_3_code_18 : decode prog_8_method_3_code 18 = .ok (.checkcast 8, 3) := by decide +kernel
theorem ef_9 (m : MethodId) (a : Addr) : entryFrame m #[(.ref a)] 1 = mkF m 0 #[.val (.ref a)] [] := by first | (simp [entryFrame, mkF, argsToLocals, Value.category]; done) | rfl
def Q_rm_params1 (Z : State) (a : Addr) (d : Addr) (kd : ClassId) (vs : List Value) (z : Int32) (h0 : Heap) (n0 : Nat) (v : Option Value) (h : Heap) (L : List Loc) : Prop := ∃ (b : Addr), v = some (.ref b) ∧ Fr n0 L ∧ Keep h0 h [] ∧ n0 ≤ b ∧ h0.size ≤ b ∧ Arv Z h b kd .byte z vs (.int (0 : Int32)) ∧ Exa Z h b "[B"
set_option maxRecDepth 65536 in
set_option maxHeartbeats 40000000 in
theorem rm_params1 (l : Launch) (Z : State) (a0 : Array Value) (hw : ∀ d ∈ tables_1, d.before a0 Z = true) (ws : List Jvm.Cond) (a : Addr) (d : Addr) (kd : ClassId) (vs : List Value) (z : Int32) (h0 : Heap) (n0 : Nat) (Z0 : n0 ≤ h0.size) (F_params_a : Fld Z h0 a "com/example/relampago/relampago/lcp/Call" "params" "[B" (.ref d)) (V_d : Arv Z h0 d kd .byte z vs (.int (0 : Int32))) (E_d : Exa Z h0 d "[B") (hz : z.toNatClampNeg ≤ 3) :
    MetFree l (⟨"com/example/relampago/relampago/lcp/Call", "params", "()[B"⟩ : MethodName) (head1 (Jvm.Cond.code (⟨"com/example/relampago/relampago/lcp/Call", "params", "()[B"⟩ : MethodName) prog_8_method_3_code 1 (some (.array .byte)) :: ws) ({ frames := 1, cells := 1, slots := 3, locals := 14 } : Room)) (fun av_ U => av_ = #[(.ref a)] ∧ Z.Warmed39 U.vm ∧ U.heap = h0) (fun _ _ _ _ _ => True) (fun _ U o U' => ∃ v L, o = .returned v ∧ Q_rm_params1 Z a d kd vs z h0 n0 v U'.heap L ∧ FrameEnd U o U' L ({ frames := 1, cells := 1, slots := 3, locals := 14 } : Room).cells ({ frames := 1, cells := 1, slots := 3, locals := 14 } : Room).slots) := by
  refine MetFree.of_bodySF (plainFor_of_name pn_3) hisR ?_
  intro p e s m args below meth c s₁ Bd hml0 hP hK
  obtain ⟨rfl, hZ, hh⟩ := hP
  have hx := Bd.exec
  have hby := Bd.bytes
  have hml : c.maxLocals = 1 := hml0
  have hown : s.vm.findClass "com/example/relampago/relampago/lcp/Call" = some m.cls := findClass_of_methodNamed Bd.named
  have hnm := (name_of_methodNamed Bd.named Bd.method).1
  have hlk : meth.locks = false := BodyLoose.notSynchronized Bd
  have X0 : Stand p l e ({ frames := 1, cells := 1, slots := 3, locals := 14 } : Room) s m #[(.ref a)] below meth c s₁ [] 0 0 := Stand.of_body Bd
  have e0 : s₁.heap = h0 := by rw [← hh, Bd.state]; rfl
  have N0 := Fr.nil n0
  refine own_by (fun _ kt => castTop (ef_9 m a) kt) (R := own_R s (Q_rm_params1 Z a d kd vs z h0 n0) 1 3) ?_
  show own_Go p.tables e below (s₁.setTop (mkF m 0 #[.val (.ref a)] [])) _
  refine own_by (fun _ kt => XS.aloadN X0.here hx rfl (hb hby d_prog_8_method_3_code_0) rfl rfl kt) ?_
  show own_Go p.tables e below (s₁.setTop (mkF m 1 #[.val (.ref a)] [(.ref a)])) _
  obtain ⟨T1, X1, e1, st1⟩ := getF X0 hx hZ hown (host := "") (Or.inl (hw _ (List.mem_of_getElem? (i := 53) rfl))) Via.refl e0 F_params_a (g := (mkF m 1 #[.val (.ref a)] [(.ref a)])) rfl rfl (hb hby d_prog_8_method_3_code_1)
  refine own_by st1 ?_
  show own_Go p.tables e below (T1.setTop (mkF m 4 #[.val (.ref a)] [(.ref d)])) _
  refine own_by (fun _ kt => XS.ifnonnullYes X1.here hx rfl (pc0 := 4) (pc' := 11) rfl (hb hby d_prog_8_method_3_code_4) rfl (by decide) (by decide) kt) ?_
  show own_Go p.tables e below (T1.setTop (mkF m 11 #[.val (.ref a)] [])) _
  refine own_by (fun _ kt => XS.aloadN X1.here hx rfl (hb hby d_prog_8_method_3_code_11) rfl rfl kt) ?_
  show own_Go p.tables e below (T1.setTop (mkF m 12 #[.val (.ref a)] [(.ref a)])) _
  obtain ⟨T2, X2, e2, st2⟩ := getF X1 hx hZ hown (host := "") (Or.inl (hw _ (List.mem_of_getElem? (i := 53) rfl))) Via.refl e1 F_params_a (g := (mkF m 12 #[.val (.ref a)] [(.ref a)])) rfl rfl (hb hby d_prog_8_method_3_code_12)
  refine own_by st2 ?_
  show own_Go p.tables e below (T2.setTop (mkF m 15 #[.val (.ref a)] [(.ref d)])) _
  obtain ⟨T3, h3, X3, e3, E3, A3, Ea3, st3⟩ := cloneH X2 hx hZ hown (hw _ (List.mem_of_getElem? (i := 38) rfl)) (hw _ (List.mem_of_getElem? (i := 39) rfl)) (hw _ (List.mem_of_getElem? (i := 43) rfl)) (hw _ (List.mem_of_getElem? (i := 41) rfl)) (hw _ (List.mem_of_getElem? (i := 42) rfl)) (hw _ (List.mem_of_getElem? (i := 44) rfl)) e2 V_d.arh E_d (g := (mkF m 15 #[.val (.ref a)] [(.ref d)])) rfl (by rw [hml]; rfl) rfl (hb hby d_prog_8_method_3_code_15) (by decide) (W := 0) (cap := 3) (by show 2 * 0 + _ ≤ _; exact Nat.le_of_eq rfl) (by decide) hz (by decide) (by decide)
  obtain ⟨b3, g3⟩ : ∃ z, z = h0.size := ⟨_, rfl⟩
  rw [← g3] at A3 Ea3 st3
  have gn_b3 : n0 ≤ b3 := Nat.le_trans Z0 (Nat.le_of_eq g3.symm)
  have sz_b3 : h0.size ≤ b3 := Nat.le_trans (Keep.refl h0 []).1 (Nat.le_of_eq g3.symm)
  have ne_a_b3 : a ≠ b3 := Nat.ne_of_lt (Nat.lt_of_lt_of_le F_params_a.lt (Nat.le_of_eq g3.symm))
  have ne_d_b3 : d ≠ b3 := Nat.ne_of_lt (Nat.lt_of_lt_of_le V_d.lt (Nat.le_of_eq g3.symm))
  have f4 := F_params_a.ext E3
  have f5 := V_d.ext E3
  have f6 := E_d.ext E3
  have Zs3 : n0 ≤ h3.size := Nat.le_trans Z0 E3.1
  have K3 : Keep h0 h3 [] := (Keep.refl h0 []).ext E3
  have f3v : Arv Z h3 b3 kd .byte z vs (.int (0 : Int32)) := A3
  refine own_by st3 ?_
  show own_Go p.tables e below (T3.setTop (mkF m 18 #[.val (.ref a)] [(.ref b3)])) _
  obtain ⟨T7, X7, e7, st7⟩ := castY X3 hx hZ hown (hw _ (List.mem_of_getElem? (i := 45) rfl)) e3 (Ins.self Ea3) (g := (mkF m 18 #[.val (.ref a)] [(.ref b3)])) rfl rfl (hb hby d_prog_8_method_3_code_18)
  refine own_by st7 ?_
  show own_Go p.tables e below (T7.setTop (mkF m 21 #[.val (.ref a)] [(.ref b3)])) _
  exact own_retA X7 hx Bd.returns hlk rfl rfl (hb hby d_prog_8_method_3_code_21) (by rw [e7]; exact ⟨b3, rfl, N0, K3, gn_b3, sz_b3, f3v, Ea3⟩) (by decide) (by decide)
theorem pn_4 : plainName "com/example/relampago/relampago/lcp/CallParamsPinLaw" = true := by first | (simp [plainName, overriddenIn]; done) | decide +kernel
theorem d_method_3_code_0 : decode method_3_code 0 = .ok (.iload_n 1, 1) := by decide +kernel
theorem d_method_3_code_1 : decode method_3_code 1 = .ok (.ifCond .le 12, 3) := by decide +kernel
theorem d_method_3_code_13 : decode method_3_code 13 = .ok (.iload_n 1, 1) := by decide +kernel
theorem d_method_3_code_14 : decode method_3_code 14 = .ok (.iconst 1, 1) := by decide +kernel
theorem d_method_3_code_15 : decode method_3_code 15 = .ok (.if_icmp .le 12, 3) := by decide +kernel
theorem d_method_3_code_27 : decode method_3_code 27 = .ok (.iload_n 1, 1) := by decide +kernel
theorem d_method_3_code_28 : decode method_3_code 28 = .ok (.iconst 2, 1) := by decide +kernel
theorem d_method_3_code_29 : decode method_3_code 29 = .ok (.if_icmp .le 12, 3) := by decide +kernel
theorem d_method_3_code_41 : decode method_3_code 41 = .ok (.return_, 1) := by decide +kernel
theorem ef_10 (m : MethodId) (a : Addr) : entryFrame m #[(.ref a), (.int (0 : Int32))] 2 = mkF m 0 #[.val (.ref a), .val (.int (0 : Int32))] [] := by first | (simp [entryFrame, mkF, argsToLocals, Value.category]; done) | rfl
def Q_rm_bump0 (Z : State) (a : Addr) (ka : ClassId) (h0 : Heap) (n0 : Nat) (v : Option Value) (h : Heap) (L : List Loc) : Prop := v = none ∧ Fr n0 L ∧ Keep h0 h [a] ∧ Arv Z h a ka .byte (0 : Int32) [] (.int (0 : Int32))
set_option maxRecDepth 65536 in
set_option maxHeartbeats 40000000 in
theorem rm_bump0 (l : Launch) (Z : State) (a0 : Array Value) (hw : ∀ d ∈ tables_1, d.before a0 Z = true) (ws : List Jvm.Cond) (a : Addr) (ka : ClassId) (h0 : Heap) (n0 : Nat) (Z0 : n0 ≤ h0.size) (V_a : Arv Z h0 a ka .byte (0 : Int32) [] (.int (0 : Int32))) (gn_a : n0 ≤ a) :
    MetFree l (⟨"com/example/relampago/relampago/lcp/CallParamsPinLaw", "bump", "([BI)V"⟩ : MethodName) (head1 (Jvm.Cond.code (⟨"com/example/relampago/relampago/lcp/CallParamsPinLaw", "bump", "([BI)V"⟩ : MethodName) method_3_code 2 none :: ws) ({ frames := 0, cells := 0, slots := 0, locals := 0 } : Room)) (fun av_ U => av_ = #[(.ref a), (.int (0 : Int32))] ∧ Z.Warmed39 U.vm ∧ U.heap = h0) (fun _ _ _ _ _ => True) (fun _ U o U' => ∃ v L, o = .returned v ∧ Q_rm_bump0 Z a ka h0 n0 v U'.heap L ∧ FrameEnd U o U' L ({ frames := 0, cells := 0, slots := 0, locals := 0 } : Room).cells ({ frames := 0, cells := 0, slots := 0, locals := 0 } : Room).slots) := by
  refine MetFree.of_bodySF (plainFor_of_name pn_4) hisR ?_
  intro p e s m args below meth c s₁ Bd hml0 hP hK
  obtain ⟨rfl, hZ, hh⟩ := hP
  have hx := Bd.exec
  have hby := Bd.bytes
  have hml : c.maxLocals = 2 := hml0
  have hown : s.vm.findClass "com/example/relampago/relampago/lcp/CallParamsPinLaw" = some m.cls := findClass_of_methodNamed Bd.named
  have hnm := (name_of_methodNamed Bd.named Bd.method).1
  have hlk : meth.locks = false := BodyLoose.notSynchronized Bd
  have X0 : Stand p l e ({ frames := 0, cells := 0, slots := 0, locals := 0 } : Room) s m #[(.ref a), (.int (0 : Int32))] below meth c s₁ [] 0 0 := Stand.of_body Bd
  have e0 : s₁.heap = h0 := by rw [← hh, Bd.state]; rfl
  have N0 := Fr.nil n0
  refine own_by (fun _ kt => castTop (ef_10 m a) kt) (R := own_R s (Q_rm_bump0 Z a ka h0 n0) 0 0) ?_
  show own_Go p.tables e below (s₁.setTop (mkF m 0 #[.val (.ref a), .val (.int (0 : Int32))] [])) _
  refine own_by (fun _ kt => XS.iloadN X0.here hx rfl (hb hby d_method_3_code_0) rfl kt) ?_
  show own_Go p.tables e below (s₁.setTop (mkF m 1 #[.val (.ref a), .val (.int (0 : Int32))] [(.int (0 : Int32))])) _
  refine own_by (fun _ kt => XS.ifYes X0.here hx rfl (pc0 := 1) (pc' := 13) rfl (hb hby d_method_3_code_1) rfl ((if0 _ _).trans (flt (by decide : ¬ ((0 : Int32) < (0 : Int32)))).2.2.2) (by decide) (by decide) kt) ?_
  show own_Go p.tables e below (s₁.setTop (mkF m 13 #[.val (.ref a), .val (.int (0 : Int32))] [])) _
  refine own_by (fun _ kt => XS.iloadN X0.here hx rfl (hb hby d_method_3_code_13) rfl kt) ?_
  show own_Go p.tables e below (s₁.setTop (mkF m 14 #[.val (.ref a), .val (.int (0 : Int32))] [(.int (0 : Int32))])) _
  refine own_by (fun _ kt => XS.iconst X0.here hx rfl (hb hby d_method_3_code_14) kt) ?_
  show own_Go p.tables e below (s₁.setTop (mkF m 15 #[.val (.ref a), .val (.int (0 : Int32))] [(.int (1 : Int32)), (.int (0 : Int32))])) _
  refine own_by (fun _ kt => XS.icmpYes X0.here hx rfl (pc0 := 15) (pc' := 27) rfl (hb hby d_method_3_code_15) rfl (flt (by decide : ¬ ((1 : Int32) < (0 : Int32)))).2.2.2 (by decide) (by decide) kt) ?_
  show own_Go p.tables e below (s₁.setTop (mkF m 27 #[.val (.ref a), .val (.int (0 : Int32))] [])) _
  refine own_by (fun _ kt => XS.iloadN X0.here hx rfl (hb hby d_method_3_code_27) rfl kt) ?_
  show own_Go p.tables e below (s₁.setTop (mkF m 28 #[.val (.ref a), .val (.int (0 : Int32))] [(.int (0 : Int32))])) _
  refine own_by (fun _ kt => XS.iconst X0.here hx rfl (hb hby d_method_3_code_28) kt) ?_
  show own_Go p.tables e below (s₁.setTop (mkF m 29 #[.val (.ref a), .val (.int (0 : Int32))] [(.int (2 : Int32)), (.int (0 : Int32))])) _
  refine own_by (fun _ kt => XS.icmpYes X0.here hx rfl (pc0 := 29) (pc' := 41) rfl (hb hby d_method_3_code_29) rfl (flt (by decide : ¬ ((2 : Int32) < (0 : Int32)))).2.2.2 (by decide) (by decide) kt) ?_
  show own_Go p.tables e below (s₁.setTop (mkF m 41 #[.val (.ref a), .val (.int (0 : Int32))] [])) _
  exact own_retV X0 hx Bd.returns hlk (hb hby d_method_3_code_41) (by rw [e0]; exact ⟨rfl, N0, (Keep.refl h0 [a]), V_a⟩) (by decide) (by decide)
theorem d_method_4_code_0 : decode method_4_code 0 = .ok (.aload_n 0, 1) := by decide +kernel
theorem d_method_4_code_1 : decode method_4_code 1 = .ok (.arraylength, 1) := by decide +kernel
theorem d_method_4_code_2 : decode method_4_code 2 = .ok (.iload_n 1, 1) := by decide +kernel
theorem d_method_4_code_3 : decode method_4_code 3 = .ok (.if_icmp .eq 5, 3) := by decide +kernel
theorem d_method_4_code_8 : decode method_4_code 8 = .ok (.iload_n 1, 1) := by decide +kernel
theorem d_method_4_code_9 : decode method_4_code 9 = .ok (.ifCond .le 12, 3) := by decide +kernel
theorem d_method_4_code_21 : decode method_4_code 21 = .ok (.iload_n 1, 1) := by decide +kernel
theorem d_method_4_code_22 : decode method_4_code 22 = .ok (.iconst 1, 1) := by decide +kernel
theorem d_method_4_code_23 : decode method_4_code 23 = .ok (.if_icmp .le 12, 3) := by decide +kernel
theorem d_method_4_code_35 : decode method_4_code 35 = .ok (.iload_n 1, 1) := by decide +kernel
theorem d_method_4_code_36 : decode method_4_code 36 = .ok (.iconst 2, 1) := by decide +kernel
theorem d_method_4_code_37 : decode method_4_code 37 = .ok (.if_icmp .le 13, 3) := by decide +kernel
theorem d_method_4_code_50 : decode method_4_code 50 = .ok (.iconst 1, 1) := by decide +kernel
theorem d_method_4_code_51 : decode method_4_code 51 = .ok (.ireturn, 1) := by decide +kernel
theorem ef_11 (m : MethodId) (a : Addr) (x0 : Int32) (x1 : Int32) (x2 : Int32) : entryFrame m #[(.ref a), (.int (0 : Int32)), (.int x0), (.int x1), (.int x2)] 5 = mkF m 0 #[.val (.ref a), .val (.int (0 : Int32)), .val (.int x0), .val (.int x1), .val (.int x2)] [] := by first | (simp [entryFrame, mkF, argsToLocals, Value.category]; done) | rfl
def Q_rm_same0 (Z : State) (a : Addr) (x0 : Int32) (x1 : Int32) (x2 : Int32) (ka : ClassId) (h0 : Heap) (n0 : Nat) (v : Option Value) (h : Heap) (L : List Loc) : Prop := v = some (.int (1 : Int32)) ∧ Fr n0 L ∧ h = h0
set_option maxRecDepth 65536 in
set_option maxHeartbeats 40000000 in
theorem rm_same0 (l : Launch) (Z : State) (a0 : Array Value) (hw : ∀ d ∈ tables_1, d.before a0 Z = true) (ws : List Jvm.Cond) (a : Addr) (x0 : Int32) (x1 : Int32) (x2 : Int32) (ka : ClassId) (h0 : Heap) (n0 : Nat) (Z0 : n0 ≤ h0.size) (V_a : Arv Z h0 a ka .byte (0 : Int32) [] (.int (0 : Int32))) :
    MetFree l (⟨"com/example/relampago/relampago/lcp/CallParamsPinLaw", "same", "([BIBBB)Z"⟩ : MethodName) (head1 (Jvm.Cond.code (⟨"com/example/relampago/relampago/lcp/CallParamsPinLaw", "same", "([BIBBB)Z"⟩ : MethodName) method_4_code 5 (some .boolean) :: ws) ({ frames := 0, cells := 0, slots := 0, locals := 0 } : Room)) (fun av_ U => av_ = #[(.ref a), (.int (0 : Int32)), (.int x0), (.int x1), (.int x2)] ∧ Z.Warmed39 U.vm ∧ U.heap = h0) (fun _ _ _ _ _ => True) (fun _ U o U' => ∃ v L, o = .returned v ∧ Q_rm_same0 Z a x0 x1 x2 ka h0 n0 v U'.heap L ∧ FrameEnd U o U' L ({ frames := 0, cells := 0, slots := 0, locals := 0 } : Room).cells ({ frames := 0, cells := 0, slots := 0, locals := 0 } : Room).slots) := by
  refine MetFree.of_bodySF (plainFor_of_name pn_4) hisR ?_
  intro p e s m args below meth c s₁ Bd hml0 hP hK
  obtain ⟨rfl, hZ, hh⟩ := hP
  have hx := Bd.exec
  have hby := Bd.bytes
  have hml : c.maxLocals = 5 := hml0
  have hown : s.vm.findClass "com/example/relampago/relampago/lcp/CallParamsPinLaw" = some m.cls := findClass_of_methodNamed Bd.named
  have hnm := (name_of_methodNamed Bd.named Bd.method).1
  have hlk : meth.locks = false := BodyLoose.notSynchronized Bd
  have X0 : Stand p l e ({ frames := 0, cells := 0, slots := 0, locals := 0 } : Room) s m #[(.ref a), (.int (0 : Int32)), (.int x0), (.int x1), (.int x2)] below meth c s₁ [] 0 0 := Stand.of_body Bd
  have e0 : s₁.heap = h0 := by rw [← hh, Bd.state]; rfl
  have N0 := Fr.nil n0
  refine own_by (fun _ kt => castTop (ef_11 m a x0 x1 x2) kt) (R := own_R s (Q_rm_same0 Z a x0 x1 x2 ka h0 n0) 0 0) ?_
  show own_Go p.tables e below (s₁.setTop (mkF m 0 #[.val (.ref a), .val (.int (0 : Int32)), .val (.int x0), .val (.int x1), .val (.int x2)] [])) _
  refine own_by (fun _ kt => XS.aloadN X0.here hx rfl (hb hby d_method_4_code_0) rfl rfl kt) ?_
  show own_Go p.tables e below (s₁.setTop (mkF m 1 #[.val (.ref a), .val (.int (0 : Int32)), .val (.int x0), .val (.int x1), .val (.int x2)] [(.ref a)])) _
  refine own_by (own_alen X0 hx hZ e0 V_a (g := (mkF m 1 #[.val (.ref a), .val (.int (0 : Int32)), .val (.int x0), .val (.int x1), .val (.int x2)] [(.ref a)])) rfl rfl (hb hby d_method_4_code_1)) ?_
  show own_Go p.tables e below (s₁.setTop (mkF m 2 #[.val (.ref a), .val (.int (0 : Int32)), .val (.int x0), .val (.int x1), .val (.int x2)] [(.int (0 : Int32))])) _
  refine own_by (fun _ kt => XS.iloadN X0.here hx rfl (hb hby d_method_4_code_2) rfl kt) ?_
  show own_Go p.tables e below (s₁.setTop (mkF m 3 #[.val (.ref a), .val (.int (0 : Int32)), .val (.int x0), .val (.int x1), .val (.int x2)] [(.int (0 : Int32)), (.int (0 : Int32))])) _
  refine own_by (fun _ kt => XS.icmpYes X0.here hx rfl (pc0 := 3) (pc' := 8) rfl (hb hby d_method_4_code_3) rfl (teq (by decide : (0 : Int32) = (0 : Int32))).1 (by decide) (by decide) kt) ?_
  show own_Go p.tables e below (s₁.setTop (mkF m 8 #[.val (.ref a), .val (.int (0 : Int32)), .val (.int x0), .val (.int x1), .val (.int x2)] [])) _
  refine own_by (fun _ kt => XS.iloadN X0.here hx rfl (hb hby d_method_4_code_8) rfl kt) ?_
  show own_Go p.tables e below (s₁.setTop (mkF m 9 #[.val (.ref a), .val (.int (0 : Int32)), .val (.int x0), .val (.int x1), .val (.int x2)] [(.int (0 : Int32))])) _
  refine own_by (fun _ kt => XS.ifYes X0.here hx rfl (pc0 := 9) (pc' := 21) rfl (hb hby d_method_4_code_9) rfl ((if0 _ _).trans (flt (by decide : ¬ ((0 : Int32) < (0 : Int32)))).2.2.2) (by decide) (by decide) kt) ?_
  show own_Go p.tables e below (s₁.setTop (mkF m 21 #[.val (.ref a), .val (.int (0 : Int32)), .val (.int x0), .val (.int x1), .val (.int x2)] [])) _
  refine own_by (fun _ kt => XS.iloadN X0.here hx rfl (hb hby d_method_4_code_21) rfl kt) ?_
  show own_Go p.tables e below (s₁.setTop (mkF m 22 #[.val (.ref a), .val (.int (0 : Int32)), .val (.int x0), .val (.int x1), .val (.int x2)] [(.int (0 : Int32))])) _
  refine own_by (fun _ kt => XS.iconst X0.here hx rfl (hb hby d_method_4_code_22) kt) ?_
  show own_Go p.tables e below (s₁.setTop (mkF m 23 #[.val (.ref a), .val (.int (0 : Int32)), .val (.int x0), .val (.int x1), .val (.int x2)] [(.int (1 : Int32)), (.int (0 : Int32))])) _
  refine own_by (fun _ kt => XS.icmpYes X0.here hx rfl (pc0 := 23) (pc' := 35) rfl (hb hby d_method_4_code_23) rfl (flt (by decide : ¬ ((1 : Int32) < (0 : Int32)))).2.2.2 (by decide) (by decide) kt) ?_
  show own_Go p.tables e below (s₁.setTop (mkF m 35 #[.val (.ref a), .val (.int (0 : Int32)), .val (.int x0), .val (.int x1), .val (.int x2)] [])) _
  refine own_by (fun _ kt => XS.iloadN X0.here hx rfl (hb hby d_method_4_code_35) rfl kt) ?_
  show own_Go p.tables e below (s₁.setTop (mkF m 36 #[.val (.ref a), .val (.int (0 : Int32)), .val (.int x0), .val (.int x1), .val (.int x2)] [(.int (0 : Int32))])) _
  refine own_by (fun _ kt => XS.iconst X0.here hx rfl (hb hby d_method_4_code_36) kt) ?_
  show own_Go p.tables e below (s₁.setTop (mkF m 37 #[.val (.ref a), .val (.int (0 : Int32)), .val (.int x0), .val (.int x1), .val (.int x2)] [(.int (2 : Int32)), (.int (0 : Int32))])) _
  refine own_by (fun _ kt => XS.icmpYes X0.here hx rfl (pc0 := 37) (pc' := 50) rfl (hb hby d_method_4_code_37) rfl (flt (by decide : ¬ ((2 : Int32) < (0 : Int32)))).2.2.2 (by decide) (by decide) kt) ?_
  show own_Go p.tables e below (s₁.setTop (mkF m 50 #[.val (.ref a), .val (.int (0 : Int32)), .val (.int x0), .val (.int x1), .val (.int x2)] [])) _
  refine own_by (fun _ kt => XS.iconst X0.here hx rfl (hb hby d_method_4_code_50) kt) ?_
  show own_Go p.tables e below (s₁.setTop (mkF m 51 #[.val (.ref a), .val (.int (0 : Int32)), .val (.int x0), .val (.int x1), .val (.int x2)] [(.int (1 : Int32))])) _
  exact own_retN X0 hx (t := .boolean) Bd.returns hlk (by simp) (hb hby d_method_4_code_51) ⟨rfl, N0, e0⟩ (by decide) (by decide)
theorem d_method_3_code_4 : decode method_3_code 4 = .ok (.aload_n 0, 1) := by decide +kernel
theorem d_method_3_code_5 : decode method_3_code 5 = .ok (.iconst 0, 1) := by decide +kernel
theorem d_method_3_code_6 : decode method_3_code 6 = .ok (.aload_n 0, 1) := by decide +kernel
theorem d_method_3_code_7 : decode method_3_code 7 = .ok (.iconst 0, 1) := by decide +kernel
theorem d_method_3_code_8 : decode method_3_code 8 = .ok (.baload, 1) := by decide +kernel
theorem d_method_3_code_9 : decode method_3_code 9 = .ok (.iconst 1, 1) := by decide +kernel
theorem d_method_3_code_10 : decode method_3_code 10 = .ok (.iadd, 1) := by decide +kernel
theorem d_method_3_code_11 : decode method_3_code 11 = .ok (.i2b, 1) := by decide +kernel
theorem d_method_3_code_12 : decode method_3_code 12 = .ok (.bastore, 1) := by decide +kernel
theorem ef_12 (m : MethodId) (a : Addr) : entryFrame m #[(.ref a), (.int (1 : Int32))] 2 = mkF m 0 #[.val (.ref a), .val (.int (1 : Int32))] [] := by first | (simp [entryFrame, mkF, argsToLocals, Value.category]; done) | rfl
def Q_rm_bump1 (Z : State) (a : Addr) (ka : ClassId) (y0 : Int32) (h0 : Heap) (n0 : Nat) (v : Option Value) (h : Heap) (L : List Loc) : Prop := v = none ∧ Fr n0 L ∧ Keep h0 h [a] ∧ Arv Z h a ka .byte (1 : Int32) [(.int (nar .byte ((y0 + (1 : Int32)).toInt8.toInt32)))] (.int (0 : Int32))
set_option maxRecDepth 65536 in
set_option maxHeartbeats 40000000 in
theorem rm_bump1 (l : Launch) (Z : State) (a0 : Array Value) (hw : ∀ d ∈ tables_1, d.before a0 Z = true) (ws : List Jvm.Cond) (a : Addr) (ka : ClassId) (y0 : Int32) (h0 : Heap) (n0 : Nat) (Z0 : n0 ≤ h0.size) (V_a : Arv Z h0 a ka .byte (1 : Int32) [(.int y0)] (.int (0 : Int32))) (gn_a : n0 ≤ a) :
    MetFree l (⟨"com/example/relampago/relampago/lcp/CallParamsPinLaw", "bump", "([BI)V"⟩ : MethodName) (head1 (Jvm.Cond.code (⟨"com/example/relampago/relampago/lcp/CallParamsPinLaw", "bump", "([BI)V"⟩ : MethodName) method_3_code 2 none :: ws) ({ frames := 0, cells := 0, slots := 0, locals := 0 } : Room)) (fun av_ U => av_ = #[(.ref a), (.int (1 : Int32))] ∧ Z.Warmed39 U.vm ∧ U.heap = h0) (fun _ _ _ _ _ => True) (fun _ U o U' => ∃ v L, o = .returned v ∧ Q_rm_bump1 Z a ka y0 h0 n0 v U'.heap L ∧ FrameEnd U o U' L ({ frames := 0, cells := 0, slots := 0, locals := 0 } : Room).cells ({ frames := 0, cells := 0, slots := 0, locals := 0 } : Room).slots) := by
  refine MetFree.of_bodySF (plainFor_of_name pn_4) hisR ?_
  intro p e s m args below meth c s₁ Bd hml0 hP hK
  obtain ⟨rfl, hZ, hh⟩ := hP
  have hx := Bd.exec
  have hby := Bd.bytes
  have hml : c.maxLocals = 2 := hml0
  have hown : s.vm.findClass "com/example/relampago/relampago/lcp/CallParamsPinLaw" = some m.cls := findClass_of_methodNamed Bd.named
  have hnm := (name_of_methodNamed Bd.named Bd.method).1
  have hlk : meth.locks = false := BodyLoose.notSynchronized Bd
  have X0 : Stand p l e ({ frames := 0, cells := 0, slots := 0, locals := 0 } : Room) s m #[(.ref a), (.int (1 : Int32))] below meth c s₁ [] 0 0 := Stand.of_body Bd
  have e0 : s₁.heap = h0 := by rw [← hh, Bd.state]; rfl
  have N0 := Fr.nil n0
  refine own_by (fun _ kt => castTop (ef_12 m a) kt) (R := own_R s (Q_rm_bump1 Z a ka y0 h0 n0) 0 0) ?_
  show own_Go p.tables e below (s₁.setTop (mkF m 0 #[.val (.ref a), .val (.int (1 : Int32))] [])) _
  refine own_by (fun _ kt => XS.iloadN X0.here hx rfl (hb hby d_method_3_code_0) rfl kt) ?_
  show own_Go p.tables e below (s₁.setTop (mkF m 1 #[.val (.ref a), .val (.int (1 : Int32))] [(.int (1 : Int32))])) _
  refine own_by (fun _ kt => XS.ifNo X0.here hx rfl (hb hby d_method_3_code_1) rfl ((if0 _ _).trans (tlt (by decide : (0 : Int32) < (1 : Int32))).2.2.2) kt) ?_
  show own_Go p.tables e below (s₁.setTop (mkF m 4 #[.val (.ref a), .val (.int (1 : Int32))] [])) _
  refine own_by (fun _ kt => XS.aloadN X0.here hx rfl (hb hby d_method_3_code_4) rfl rfl kt) ?_
  show own_Go p.tables e below (s₁.setTop (mkF m 5 #[.val (.ref a), .val (.int (1 : Int32))] [(.ref a)])) _
  refine own_by (fun _ kt => XS.iconst X0.here hx rfl (hb hby d_method_3_code_5) kt) ?_
  show own_Go p.tables e below (s₁.setTop (mkF m 6 #[.val (.ref a), .val (.int (1 : Int32))] [(.int (0 : Int32)), (.ref a)])) _
  refine own_by (fun _ kt => XS.aloadN X0.here hx rfl (hb hby d_method_3_code_6) rfl rfl kt) ?_
  show own_Go p.tables e below (s₁.setTop (mkF m 7 #[.val (.ref a), .val (.int (1 : Int32))] [(.ref a), (.int (0 : Int32)), (.ref a)])) _
  refine own_by (fun _ kt => XS.iconst X0.here hx rfl (hb hby d_method_3_code_7) kt) ?_
  show own_Go p.tables e below (s₁.setTop (mkF m 8 #[.val (.ref a), .val (.int (1 : Int32))] [(.int (0 : Int32)), (.ref a), (.int (0 : Int32)), (.ref a)])) _
  refine own_by (own_baload X0 hx hZ e0 V_a (j := (0 : Int32)) (v := (.int y0)) ⟨by decide, by decide⟩ rfl (g := (mkF m 8 #[.val (.ref a), .val (.int (1 : Int32))] [(.int (0 : Int32)), (.ref a), (.int (0 : Int32)), (.ref a)])) rfl rfl (hb hby d_method_3_code_8)) ?_
  show own_Go p.tables e below (s₁.setTop (mkF m 9 #[.val (.ref a), .val (.int (1 : Int32))] [(.int y0), (.int (0 : Int32)), (.ref a)])) _
  refine own_by (fun _ kt => XS.iconst X0.here hx rfl (hb hby d_method_3_code_9) kt) ?_
  show own_Go p.tables e below (s₁.setTop (mkF m 10 #[.val (.ref a), .val (.int (1 : Int32))] [(.int (1 : Int32)), (.int y0), (.int (0 : Int32)), (.ref a)])) _
  refine own_by (fun _ kt => XS.iadd X0.here hx rfl (hb hby d_method_3_code_10) rfl kt) ?_
  show own_Go p.tables e below (s₁.setTop (mkF m 11 #[.val (.ref a), .val (.int (1 : Int32))] [(.int (y0 + (1 : Int32))), (.int (0 : Int32)), (.ref a)])) _
  refine own_by (fun _ kt => XS.i2b X0.here hx rfl (hb hby d_method_3_code_11) rfl kt) ?_
  show own_Go p.tables e below (s₁.setTop (mkF m 12 #[.val (.ref a), .val (.int (1 : Int32))] [(.int ((y0 + (1 : Int32)).toInt8.toInt32)), (.int (0 : Int32)), (.ref a)])) _
  obtain ⟨cl1, Ar1, q1, S1, M1, H1, G1⟩ := V_a
  obtain ⟨T1, h1, X1, e1, W1, st1⟩ := stB X0 hx hZ e0 Ar1 (j := (0 : Int32)) (inb_of S1 ⟨by decide, by decide⟩) (g := (mkF m 12 #[.val (.ref a), .val (.int (1 : Int32))] [(.int ((y0 + (1 : Int32)).toInt8.toInt32)), (.int (0 : Int32)), (.ref a)])) rfl rfl (hb hby d_method_3_code_12)
  have f2 : Arv Z h1 a ka .byte (1 : Int32) [(.int (nar .byte ((y0 + (1 : Int32)).toInt8.toInt32)))] (.int (0 : Int32)) := Arv.set Ar1 q1 S1 M1 H1 G1 (fits_nar_byte _) W1 0 rfl (Nat.le_of_ble_eq_true rfl)
  have Zs1 : n0 ≤ h1.size := by rw [W1.size]; exact Z0
  have K1 : Keep h0 h1 [a] := (Keep.refl h0 [a]).wr W1 (Or.inl (List.mem_of_getElem? (i := 0) rfl))
  have N1 := Fr.snoc X1 N0 gn_a
  refine own_by st1 ?_
  show own_Go p.tables e below (T1.setTop (mkF m 13 #[.val (.ref a), .val (.int (1 : Int32))] [])) _
  refine own_by (fun _ kt => XS.iloadN X1.here hx rfl (hb hby d_method_3_code_13) rfl kt) ?_
  show own_Go p.tables e below (T1.setTop (mkF m 14 #[.val (.ref a), .val (.int (1 : Int32))] [(.int (1 : Int32))])) _
  refine own_by (fun _ kt => XS.iconst X1.here hx rfl (hb hby d_method_3_code_14) kt) ?_
  show own_Go p.tables e below (T1.setTop (mkF m 15 #[.val (.ref a), .val (.int (1 : Int32))] [(.int (1 : Int32)), (.int (1 : Int32))])) _
  refine own_by (fun _ kt => XS.icmpYes X1.here hx rfl (pc0 := 15) (pc' := 27) rfl (hb hby d_method_3_code_15) rfl (flt (by decide : ¬ ((1 : Int32) < (1 : Int32)))).2.2.2 (by decide) (by decide) kt) ?_
  show own_Go p.tables e below (T1.setTop (mkF m 27 #[.val (.ref a), .val (.int (1 : Int32))] [])) _
  refine own_by (fun _ kt => XS.iloadN X1.here hx rfl (hb hby d_method_3_code_27) rfl kt) ?_
  show own_Go p.tables e below (T1.setTop (mkF m 28 #[.val (.ref a), .val (.int (1 : Int32))] [(.int (1 : Int32))])) _
  refine own_by (fun _ kt => XS.iconst X1.here hx rfl (hb hby d_method_3_code_28) kt) ?_
  show own_Go p.tables e below (T1.setTop (mkF m 29 #[.val (.ref a), .val (.int (1 : Int32))] [(.int (2 : Int32)), (.int (1 : Int32))])) _
  refine own_by (fun _ kt => XS.icmpYes X1.here hx rfl (pc0 := 29) (pc' := 41) rfl (hb hby d_method_3_code_29) rfl (flt (by decide : ¬ ((2 : Int32) < (1 : Int32)))).2.2.2 (by decide) (by decide) kt) ?_
  show own_Go p.tables e below (T1.setTop (mkF m 41 #[.val (.ref a), .val (.int (1 : Int32))] [])) _
  exact own_retV X1 hx Bd.returns hlk (hb hby d_method_3_code_41) (by rw [e1]; exact ⟨rfl, N1, K1, f2⟩) (by decide) (by decide)
theorem d_method_4_code_12 : decode method_4_code 12 = .ok (.aload_n 0, 1) := by decide +kernel
theorem d_method_4_code_13 : decode method_4_code 13 = .ok (.iconst 0, 1) := by decide +kernel
theorem d_method_4_code_14 : decode method_4_code 14 = .ok (.baload, 1) := by decide +kernel
theorem d_method_4_code_15 : decode method_4_code 15 = .ok (.iload_n 2, 1) := by decide +kernel
theorem d_method_4_code_16 : decode method_4_code 16 = .ok (.if_icmp .eq 5, 3) := by decide +kernel
theorem ef_13 (m : MethodId) (a : Addr) (x0 : Int32) (x1 : Int32) (x2 : Int32) : entryFrame m #[(.ref a), (.int (1 : Int32)), (.int x0), (.int x1), (.int x2)] 5 = mkF m 0 #[.val (.ref a), .val (.int (1 : Int32)), .val (.int x0), .val (.int x1), .val (.int x2)] [] := by first | (simp [entryFrame, mkF, argsToLocals, Value.category]; done) | rfl
def Q_rm_same1 (Z : State) (a : Addr) (x0 : Int32) (x1 : Int32) (x2 : Int32) (ka : ClassId) (y0 : Int32) (h0 : Heap) (n0 : Nat) (v : Option Value) (h : Heap) (L : List Loc) : Prop := v = some (.int (1 : Int32)) ∧ Fr n0 L ∧ h = h0
set_option maxRecDepth 65536 in
set_option maxHeartbeats 40000000 in
theorem rm_same1 (l : Launch) (Z : State) (a0 : Array Value) (hw : ∀ d ∈ tables_1, d.before a0 Z = true) (ws : List Jvm.Cond) (a : Addr) (x0 : Int32) (x1 : Int32) (x2 : Int32) (ka : ClassId) (y0 : Int32) (h0 : Heap) (n0 : Nat) (Z0 : n0 ≤ h0.size) (V_a : Arv Z h0 a ka .byte (1 : Int32) [(.int y0)] (.int (0 : Int32))) (hy0 : y0 = x0) :
    MetFree l (⟨"com/example/relampago/relampago/lcp/CallParamsPinLaw", "same", "([BIBBB)Z"⟩ : MethodName) (head1 (Jvm.Cond.code (⟨"com/example/relampago/relampago/lcp/CallParamsPinLaw", "same", "([BIBBB)Z"⟩ : MethodName) method_4_code 5 (some .boolean) :: ws) ({ frames := 0, cells := 0, slots := 0, locals := 0 } : Room)) (fun av_ U => av_ = #[(.ref a), (.int (1 : Int32)), (.int x0), (.int x1), (.int x2)] ∧ Z.Warmed39 U.vm ∧ U.heap = h0) (fun _ _ _ _ _ => True) (fun _ U o U' => ∃ v L, o = .returned v ∧ Q_rm_same1 Z a x0 x1 x2 ka y0 h0 n0 v U'.heap L ∧ FrameEnd U o U' L ({ frames := 0, cells := 0, slots := 0, locals := 0 } : Room).cells ({ frames := 0, cells := 0, slots := 0, locals := 0 } : Room).slots) := by
  refine MetFree.of_bodySF (plainFor_of_name pn_4) hisR ?_
  intro p e s m args below meth c s₁ Bd hml0 hP hK
  obtain ⟨rfl, hZ, hh⟩ := hP
  have hx := Bd.exec
  have hby := Bd.bytes
  have hml : c.maxLocals = 5 := hml0
  have hown : s.vm.findClass "com/example/relampago/relampago/lcp/CallParamsPinLaw" = some m.cls := findClass_of_methodNamed Bd.named
  have hnm := (name_of_methodNamed Bd.named Bd.method).1
  have hlk : meth.locks = false := BodyLoose.notSynchronized Bd
  have X0 : Stand p l e ({ frames := 0, cells := 0, slots := 0, locals := 0 } : Room) s m #[(.ref a), (.int (1 : Int32)), (.int x0), (.int x1), (.int x2)] below meth c s₁ [] 0 0 := Stand.of_body Bd
  have e0 : s₁.heap = h0 := by rw [← hh, Bd.state]; rfl
  have N0 := Fr.nil n0
  refine own_by (fun _ kt => castTop (ef_13 m a x0 x1 x2) kt) (R := own_R s (Q_rm_same1 Z a x0 x1 x2 ka y0 h0 n0) 0 0) ?_
  show own_Go p.tables e below (s₁.setTop (mkF m 0 #[.val (.ref a), .val (.int (1 : Int32)), .val (.int x0), .val (.int x1), .val (.int x2)] [])) _
  refine own_by (fun _ kt => XS.aloadN X0.here hx rfl (hb hby d_method_4_code_0) rfl rfl kt) ?_
  show own_Go p.tables e below (s₁.setTop (mkF m 1 #[.val (.ref a), .val (.int (1 : Int32)), .val (.int x0), .val (.int x1), .val (.int x2)] [(.ref a)])) _
  refine own_by (own_alen X0 hx hZ e0 V_a (g := (mkF m 1 #[.val (.ref a), .val (.int (1 : Int32)), .val (.int x0), .val (.int x1), .val (.int x2)] [(.ref a)])) rfl rfl (hb hby d_method_4_code_1)) ?_
  show own_Go p.tables e below (s₁.setTop (mkF m 2 #[.val (.ref a), .val (.int (1 : Int32)), .val (.int x0), .val (.int x1), .val (.int x2)] [(.int (1 : Int32))])) _
  refine own_by (fun _ kt => XS.iloadN X0.here hx rfl (hb hby d_method_4_code_2) rfl kt) ?_
  show own_Go p.tables e below (s₁.setTop (mkF m 3 #[.val (.ref a), .val (.int (1 : Int32)), .val (.int x0), .val (.int x1), .val (.int x2)] [(.int (1 : Int32)), (.int (1 : Int32))])) _
  refine own_by (fun _ kt => XS.icmpYes X0.here hx rfl (pc0 := 3) (pc' := 8) rfl (hb hby d_method_4_code_3) rfl (teq (by decide : (1 : Int32) = (1 : Int32))).1 (by decide) (by decide) kt) ?_
  show own_Go p.tables e below (s₁.setTop (mkF m 8 #[.val (.ref a), .val (.int (1 : Int32)), .val (.int x0), .val (.int x1), .val (.int x2)] [])) _
  refine own_by (fun _ kt => XS.iloadN X0.here hx rfl (hb hby d_method_4_code_8) rfl kt) ?_
  show own_Go p.tables e below (s₁.setTop (mkF m 9 #[.val (.ref a), .val (.int (1 : Int32)), .val (.int x0), .val (.int x1), .val (.int x2)] [(.int (1 : Int32))])) _
  refine own_by (fun _ kt => XS.ifNo X0.here hx rfl (hb hby d_method_4_code_9) rfl ((if0 _ _).trans (tlt (by decide : (0 : Int32) < (1 : Int32))).2.2.2) kt) ?_
  show own_Go p.tables e below (s₁.setTop (mkF m 12 #[.val (.ref a), .val (.int (1 : Int32)), .val (.int x0), .val (.int x1), .val (.int x2)] [])) _
  refine own_by (fun _ kt => XS.aloadN X0.here hx rfl (hb hby d_method_4_code_12) rfl rfl kt) ?_
  show own_Go p.tables e below (s₁.setTop (mkF m 13 #[.val (.ref a), .val (.int (1 : Int32)), .val (.int x0), .val (.int x1), .val (.int x2)] [(.ref a)])) _
  refine own_by (fun _ kt => XS.iconst X0.here hx rfl (hb hby d_method_4_code_13) kt) ?_
  show own_Go p.tables e below (s₁.setTop (mkF m 14 #[.val (.ref a), .val (.int (1 : Int32)), .val (.int x0), .val (.int x1), .val (.int x2)] [(.int (0 : Int32)), (.ref a)])) _
  refine own_by (own_baload X0 hx hZ e0 V_a (j := (0 : Int32)) (v := (.int y0)) ⟨by decide, by decide⟩ rfl (g := (mkF m 14 #[.val (.ref a), .val (.int (1 : Int32)), .val (.int x0), .val (.int x1), .val (.int x2)] [(.int (0 : Int32)), (.ref a)])) rfl rfl (hb hby d_method_4_code_14)) ?_
  show own_Go p.tables e below (s₁.setTop (mkF m 15 #[.val (.ref a), .val (.int (1 : Int32)), .val (.int x0), .val (.int x1), .val (.int x2)] [(.int y0)])) _
  refine own_by (fun _ kt => XS.iloadN X0.here hx rfl (hb hby d_method_4_code_15) rfl kt) ?_
  show own_Go p.tables e below (s₁.setTop (mkF m 16 #[.val (.ref a), .val (.int (1 : Int32)), .val (.int x0), .val (.int x1), .val (.int x2)] [(.int x0), (.int y0)])) _
  refine own_by (fun _ kt => XS.icmpYes X0.here hx rfl (pc0 := 16) (pc' := 21) rfl (hb hby d_method_4_code_16) rfl (teq (hy0 : y0 = x0)).1 (by decide) (by decide) kt) ?_
  show own_Go p.tables e below (s₁.setTop (mkF m 21 #[.val (.ref a), .val (.int (1 : Int32)), .val (.int x0), .val (.int x1), .val (.int x2)] [])) _
  refine own_by (fun _ kt => XS.iloadN X0.here hx rfl (hb hby d_method_4_code_21) rfl kt) ?_
  show own_Go p.tables e below (s₁.setTop (mkF m 22 #[.val (.ref a), .val (.int (1 : Int32)), .val (.int x0), .val (.int x1), .val (.int x2)] [(.int (1 : Int32))])) _
  refine own_by (fun _ kt => XS.iconst X0.here hx rfl (hb hby d_method_4_code_22) kt) ?_
  show own_Go p.tables e below (s₁.setTop (mkF m 23 #[.val (.ref a), .val (.int (1 : Int32)), .val (.int x0), .val (.int x1), .val (.int x2)] [(.int (1 : Int32)), (.int (1 : Int32))])) _
  refine own_by (fun _ kt => XS.icmpYes X0.here hx rfl (pc0 := 23) (pc' := 35) rfl (hb hby d_method_4_code_23) rfl (flt (by decide : ¬ ((1 : Int32) < (1 : Int32)))).2.2.2 (by decide) (by decide) kt) ?_
  show own_Go p.tables e below (s₁.setTop (mkF m 35 #[.val (.ref a), .val (.int (1 : Int32)), .val (.int x0), .val (.int x1), .val (.int x2)] [])) _
  refine own_by (fun _ kt => XS.iloadN X0.here hx rfl (hb hby d_method_4_code_35) rfl kt) ?_
  show own_Go p.tables e below (s₁.setTop (mkF m 36 #[.val (.ref a), .val (.int (1 : Int32)), .val (.int x0), .val (.int x1), .val (.int x2)] [(.int (1 : Int32))])) _
  refine own_by (fun _ kt => XS.iconst X0.here hx rfl (hb hby d_method_4_code_36) kt) ?_
  show own_Go p.tables e below (s₁.setTop (mkF m 37 #[.val (.ref a), .val (.int (1 : Int32)), .val (.int x0), .val (.int x1), .val (.int x2)] [(.int (2 : Int32)), (.int (1 : Int32))])) _
  refine own_by (fun _ kt => XS.icmpYes X0.here hx rfl (pc0 := 37) (pc' := 50) rfl (hb hby d_method_4_code_37) rfl (flt (by decide : ¬ ((2 : Int32) < (1 : Int32)))).2.2.2 (by decide) (by decide) kt) ?_
  show own_Go p.tables e below (s₁.setTop (mkF m 50 #[.val (.ref a), .val (.int (1 : Int32)), .val (.int x0), .val (.int x1), .val (.int x2)] [])) _
  refine own_by (fun _ kt => XS.iconst X0.here hx rfl (hb hby d_method_4_code_50) kt) ?_
  show own_Go p.tables e below (s₁.setTop (mkF m 51 #[.val (.ref a), .val (.int (1 : Int32)), .val (.int x0), .val (.int x1), .val (.int x2)] [(.int (1 : Int32))])) _
  exact own_retN X0 hx (t := .boolean) Bd.returns hlk (by simp) (hb hby d_method_4_code_51) ⟨rfl, N0, e0⟩ (by decide) (by decide)
theorem d_method_3_code_18 : decode method_3_code 18 = .ok (.aload_n 0, 1) := by decide +kernel
theorem d_method_3_code_19 : decode method_3_code 19 = .ok (.iconst 1, 1) := by decide +kernel
theorem d_method_3_code_20 : decode method_3_code 20 = .ok (.aload_n 0, 1) := by decide +kernel
theorem d_method_3_code_21 : decode method_3_code 21 = .ok (.iconst 1, 1) := by decide +kernel
theorem d_method_3_code_22 : decode method_3_code 22 = .ok (.baload, 1) := by decide +kernel
theorem d_method_3_code_23 : decode method_3_code 23 = .ok (.iconst 1, 1) := by decide +kernel
theorem d_method_3_code_24 : decode method_3_code 24 = .ok (.iadd, 1) := by decide +kernel
theorem d_method_3_code_25 : decode method_3_code 25 = .ok (.i2b, 1) := by decide +kernel
theorem d_method_3_code_26 : decode method_3_code 26 = .ok (.bastore, 1) := by decide +kernel
theorem ef_14 (m : MethodId) (a : Addr) : entryFrame m #[(.ref a), (.int (2 : Int32))] 2 = mkF m 0 #[.val (.ref a), .val (.int (2 : Int32))] [] := by first | (simp [entryFrame, mkF, argsToLocals, Value.category]; done) | rfl
def Q_rm_bump2 (Z : State) (a : Addr) (ka : ClassId) (y0 : Int32) (y1 : Int32) (h0 : Heap) (n0 : Nat) (v : Option Value) (h : Heap) (L : List Loc) : Prop := v = none ∧ Fr n0 L ∧ Keep h0 h [a] ∧ Arv Z h a ka .byte (2 : Int32) [(.int (nar .byte ((y0 + (1 : Int32)).toInt8.toInt32))), (.int (nar .byte ((y1 + (1 : Int32)).toInt8.toInt32)))] (.int (0 : Int32))
set_option maxRecDepth 65536 in
set_option maxHeartbeats 40000000 in
theorem rm_bump2 (l : Launch) (Z : State) (a0 : Array Value) (hw : ∀ d ∈ tables_1, d.before a0 Z = true) (ws : List Jvm.Cond) (a : Addr) (ka : ClassId) (y0 : Int32) (y1 : Int32) (h0 : Heap) (n0 : Nat) (Z0 : n0 ≤ h0.size) (V_a : Arv Z h0 a ka .byte (2 : Int32) [(.int y0), (.int y1)] (.int (0 : Int32))) (gn_a : n0 ≤ a) :
    MetFree l (⟨"com/example/relampago/relampago/lcp/CallParamsPinLaw", "bump", "([BI)V"⟩ : MethodName) (head1 (Jvm.Cond.code (⟨"com/example/relampago/relampago/lcp/CallParamsPinLaw", "bump", "([BI)V"⟩ : MethodName) method_3_code 2 none :: ws) ({ frames := 0, cells := 0, slots := 0, locals := 0 } : Room)) (fun av_ U => av_ = #[(.ref a), (.int (2 : Int32))] ∧ Z.Warmed39 U.vm ∧ U.heap = h0) (fun _ _ _ _ _ => True) (fun _ U o U' => ∃ v L, o = .returned v ∧ Q_rm_bump2 Z a ka y0 y1 h0 n0 v U'.heap L ∧ FrameEnd U o U' L ({ frames := 0, cells := 0, slots := 0, locals := 0 } : Room).cells ({ frames := 0, cells := 0, slots := 0, locals := 0 } : Room).slots) := by
  refine MetFree.of_bodySF (plainFor_of_name pn_4) hisR ?_
  intro p e s m args below meth c s₁ Bd hml0 hP hK
  obtain ⟨rfl, hZ, hh⟩ := hP
  have hx := Bd.exec
  have hby := Bd.bytes
  have hml : c.maxLocals = 2 := hml0
  have hown : s.vm.findClass "com/example/relampago/relampago/lcp/CallParamsPinLaw" = some m.cls := findClass_of_methodNamed Bd.named
  have hnm := (name_of_methodNamed Bd.named Bd.method).1
  have hlk : meth.locks = false := BodyLoose.notSynchronized Bd
  have X0 : Stand p l e ({ frames := 0, cells := 0, slots := 0, locals := 0 } : Room) s m #[(.ref a), (.int (2 : Int32))] below meth c s₁ [] 0 0 := Stand.of_body Bd
  have e0 : s₁.heap = h0 := by rw [← hh, Bd.state]; rfl
  have N0 := Fr.nil n0
  refine own_by (fun _ kt => castTop (ef_14 m a) kt) (R := own_R s (Q_rm_bump2 Z a ka y0 y1 h0 n0) 0 0) ?_
  show own_Go p.tables e below (s₁.setTop (mkF m 0 #[.val (.ref a), .val (.int (2 : Int32))] [])) _
  refine own_by (fun _ kt => XS.iloadN X0.here hx rfl (hb hby d_method_3_code_0) rfl kt) ?_
  show own_Go p.tables e below (s₁.setTop (mkF m 1 #[.val (.ref a), .val (.int (2 : Int32))] [(.int (2 : Int32))])) _
  refine own_by (fun _ kt => XS.ifNo X0.here hx rfl (hb hby d_method_3_code_1) rfl ((if0 _ _).trans (tlt (by decide : (0 : Int32) < (2 : Int32))).2.2.2) kt) ?_
  show own_Go p.tables e below (s₁.setTop (mkF m 4 #[.val (.ref a), .val (.int (2 : Int32))] [])) _
  refine own_by (fun _ kt => XS.aloadN X0.here hx rfl (hb hby d_method_3_code_4) rfl rfl kt) ?_
  show own_Go p.tables e below (s₁.setTop (mkF m 5 #[.val (.ref a), .val (.int (2 : Int32))] [(.ref a)])) _
  refine own_by (fun _ kt => XS.iconst X0.here hx rfl (hb hby d_method_3_code_5) kt) ?_
  show own_Go p.tables e below (s₁.setTop (mkF m 6 #[.val (.ref a), .val (.int (2 : Int32))] [(.int (0 : Int32)), (.ref a)])) _
  refine own_by (fun _ kt => XS.aloadN X0.here hx rfl (hb hby d_method_3_code_6) rfl rfl kt) ?_
  show own_Go p.tables e below (s₁.setTop (mkF m 7 #[.val (.ref a), .val (.int (2 : Int32))] [(.ref a), (.int (0 : Int32)), (.ref a)])) _
  refine own_by (fun _ kt => XS.iconst X0.here hx rfl (hb hby d_method_3_code_7) kt) ?_
  show own_Go p.tables e below (s₁.setTop (mkF m 8 #[.val (.ref a), .val (.int (2 : Int32))] [(.int (0 : Int32)), (.ref a), (.int (0 : Int32)), (.ref a)])) _
  refine own_by (own_baload X0 hx hZ e0 V_a (j := (0 : Int32)) (v := (.int y0)) ⟨by decide, by decide⟩ rfl (g := (mkF m 8 #[.val (.ref a), .val (.int (2 : Int32))] [(.int (0 : Int32)), (.ref a), (.int (0 : Int32)), (.ref a)])) rfl rfl (hb hby d_method_3_code_8)) ?_
  show own_Go p.tables e below (s₁.setTop (mkF m 9 #[.val (.ref a), .val (.int (2 : Int32))] [(.int y0), (.int (0 : Int32)), (.ref a)])) _
  refine own_by (fun _ kt => XS.iconst X0.here hx rfl (hb hby d_method_3_code_9) kt) ?_
  show own_Go p.tables e below (s₁.setTop (mkF m 10 #[.val (.ref a), .val (.int (2 : Int32))] [(.int (1 : Int32)), (.int y0), (.int (0 : Int32)), (.ref a)])) _
  refine own_by (fun _ kt => XS.iadd X0.here hx rfl (hb hby d_method_3_code_10) rfl kt) ?_
  show own_Go p.tables e below (s₁.setTop (mkF m 11 #[.val (.ref a), .val (.int (2 : Int32))] [(.int (y0 + (1 : Int32))), (.int (0 : Int32)), (.ref a)])) _
  refine own_by (fun _ kt => XS.i2b X0.here hx rfl (hb hby d_method_3_code_11) rfl kt) ?_
  show own_Go p.tables e below (s₁.setTop (mkF m 12 #[.val (.ref a), .val (.int (2 : Int32))] [(.int ((y0 + (1 : Int32)).toInt8.toInt32)), (.int (0 : Int32)), (.ref a)])) _
  obtain ⟨cl1, Ar1, q1, S1, M1, H1, G1⟩ := V_a
  obtain ⟨T1, h1, X1, e1, W1, st1⟩ := stB X0 hx hZ e0 Ar1 (j := (0 : Int32)) (inb_of S1 ⟨by decide, by decide⟩) (g := (mkF m 12 #[.val (.ref a), .val (.int (2 : Int32))] [(.int ((y0 + (1 : Int32)).toInt8.toInt32)), (.int (0 : Int32)), (.ref a)])) rfl rfl (hb hby d_method_3_code_12)
  have f2 : Arv Z h1 a ka .byte (2 : Int32) [(.int (nar .byte ((y0 + (1 : Int32)).toInt8.toInt32))), (.int y1)] (.int (0 : Int32)) := Arv.set Ar1 q1 S1 M1 H1 G1 (fits_nar_byte _) W1 0 rfl (Nat.le_of_ble_eq_true rfl)
  have Zs1 : n0 ≤ h1.size := by rw [W1.size]; exact Z0
  have K1 : Keep h0 h1 [a] := (Keep.refl h0 [a]).wr W1 (Or.inl (List.mem_of_getElem? (i := 0) rfl))
  have N1 := Fr.snoc X1 N0 gn_a
  refine own_by st1 ?_
  show own_Go p.tables e below (T1.setTop (mkF m 13 #[.val (.ref a), .val (.int (2 : Int32))] [])) _
  refine own_by (fun _ kt => XS.iloadN X1.here hx rfl (hb hby d_method_3_code_13) rfl kt) ?_
  show own_Go p.tables e below (T1.setTop (mkF m 14 #[.val (.ref a), .val (.int (2 : Int32))] [(.int (2 : Int32))])) _
  refine own_by (fun _ kt => XS.iconst X1.here hx rfl (hb hby d_method_3_code_14) kt) ?_
  show own_Go p.tables e below (T1.setTop (mkF m 15 #[.val (.ref a), .val (.int (2 : Int32))] [(.int (1 : Int32)), (.int (2 : Int32))])) _
  refine own_by (fun _ kt => XS.icmpNo X1.here hx rfl (hb hby d_method_3_code_15) rfl (tlt (by decide : (1 : Int32) < (2 : Int32))).2.2.2 kt) ?_
  show own_Go p.tables e below (T1.setTop (mkF m 18 #[.val (.ref a), .val (.int (2 : Int32))] [])) _
  refine own_by (fun _ kt => XS.aloadN X1.here hx rfl (hb hby d_method_3_code_18) rfl rfl kt) ?_
  show own_Go p.tables e below (T1.setTop (mkF m 19 #[.val (.ref a), .val (.int (2 : Int32))] [(.ref a)])) _
  refine own_by (fun _ kt => XS.iconst X1.here hx rfl (hb hby d_method_3_code_19) kt) ?_
  show own_Go p.tables e below (T1.setTop (mkF m 20 #[.val (.ref a), .val (.int (2 : Int32))] [(.int (1 : Int32)), (.ref a)])) _
  refine own_by (fun _ kt => XS.aloadN X1.here hx rfl (hb hby d_method_3_code_20) rfl rfl kt) ?_
  show own_Go p.tables e below (T1.setTop (mkF m 21 #[.val (.ref a), .val (.int (2 : Int32))] [(.ref a), (.int (1 : Int32)), (.ref a)])) _
  refine own_by (fun _ kt => XS.iconst X1.here hx rfl (hb hby d_method_3_code_21) kt) ?_
  show own_Go p.tables e below (T1.setTop (mkF m 22 #[.val (.ref a), .val (.int (2 : Int32))] [(.int (1 : Int32)), (.ref a), (.int (1 : Int32)), (.ref a)])) _
  refine own_by (own_baload X1 hx hZ e1 f2 (j := (1 : Int32)) (v := (.int y1)) ⟨by decide, by decide⟩ rfl (g := (mkF m 22 #[.val (.ref a), .val (.int (2 : Int32))] [(.int (1 : Int32)), (.ref a), (.int (1 : Int32)), (.ref a)])) rfl rfl (hb hby d_method_3_code_22)) ?_
  show own_Go p.tables e below (T1.setTop (mkF m 23 #[.val (.ref a), .val (.int (2 : Int32))] [(.int y1), (.int (1 : Int32)), (.ref a)])) _
  refine own_by (fun _ kt => XS.iconst X1.here hx rfl (hb hby d_method_3_code_23) kt) ?_
  show own_Go p.tables e below (T1.setTop (mkF m 24 #[.val (.ref a), .val (.int (2 : Int32))] [(.int (1 : Int32)), (.int y1), (.int (1 : Int32)), (.ref a)])) _
  refine own_by (fun _ kt => XS.iadd X1.here hx rfl (hb hby d_method_3_code_24) rfl kt) ?_
  show own_Go p.tables e below (T1.setTop (mkF m 25 #[.val (.ref a), .val (.int (2 : Int32))] [(.int (y1 + (1 : Int32))), (.int (1 : Int32)), (.ref a)])) _
  refine own_by (fun _ kt => XS.i2b X1.here hx rfl (hb hby d_method_3_code_25) rfl kt) ?_
  show own_Go p.tables e below (T1.setTop (mkF m 26 #[.val (.ref a), .val (.int (2 : Int32))] [(.int ((y1 + (1 : Int32)).toInt8.toInt32)), (.int (1 : Int32)), (.ref a)])) _
  obtain ⟨cl3, Ar3, q3, S3, M3, H3, G3⟩ := f2
  obtain ⟨T3, h3, X3, e3, W3, st3⟩ := stB X1 hx hZ e1 Ar3 (j := (1 : Int32)) (inb_of S3 ⟨by decide, by decide⟩) (g := (mkF m 26 #[.val (.ref a), .val (.int (2 : Int32))] [(.int ((y1 + (1 : Int32)).toInt8.toInt32)), (.int (1 : Int32)), (.ref a)])) rfl rfl (hb hby d_method_3_code_26)
  have f4 : Arv Z h3 a ka .byte (2 : Int32) [(.int (nar .byte ((y0 + (1 : Int32)).toInt8.toInt32))), (.int (nar .byte ((y1 + (1 : Int32)).toInt8.toInt32)))] (.int (0 : Int32)) := Arv.set Ar3 q3 S3 M3 H3 G3 (fits_nar_byte _) W3 1 rfl (Nat.le_of_ble_eq_true rfl)
  have Zs3 : n0 ≤ h3.size := by rw [W3.size]; exact Zs1
  have K3 : Keep h0 h3 [a] := K1.wr W3 (Or.inl (List.mem_of_getElem? (i := 0) rfl))
  have N3 := Fr.snoc X3 N1 gn_a
  refine own_by st3 ?_
  show own_Go p.tables e below (T3.setTop (mkF m 27 #[.val (.ref a), .val (.int (2 : Int32))] [])) _
  refine own_by (fun _ kt => XS.iloadN X3.here hx rfl (hb hby d_method_3_code_27) rfl kt) ?_
  show own_Go p.tables e below (T3.setTop (mkF m 28 #[.val (.ref a), .val (.int (2 : Int32))] [(.int (2 : Int32))])) _
  refine own_by (fun _ kt => XS.iconst X3.here hx rfl (hb hby d_method_3_code_28) kt) ?_
  show own_Go p.tables e below (T3.setTop (mkF m 29 #[.val (.ref a), .val (.int (2 : Int32))] [(.int (2 : Int32)), (.int (2 : Int32))])) _
  refine own_by (fun _ kt => XS.icmpYes X3.here hx rfl (pc0 := 29) (pc' := 41) rfl (hb hby d_method_3_code_29) rfl (flt (by decide : ¬ ((2 : Int32) < (2 : Int32)))).2.2.2 (by decide) (by decide) kt) ?_
  show own_Go p.tables e below (T3.setTop (mkF m 41 #[.val (.ref a), .val (.int (2 : Int32))] [])) _
  exact own_retV X3 hx Bd.returns hlk (hb hby d_method_3_code_41) (by rw [e3]; exact ⟨rfl, N3, K3, f4⟩) (by decide) (by decide)
theorem d_method_4_code_26 : decode method_4_code 26 = .ok (.aload_n 0, 1) := by decide +kernel
theorem d_method_4_code_27 : decode method_4_code 27 = .ok (.iconst 1, 1) := by decide +kernel
theorem d_method_4_code_28 : decode method_4_code 28 = .ok (.baload, 1) := by decide +kernel
theorem d_method_4_code_29 : decode method_4_code 29 = .ok (.iload_n 3, 1) := by decide +kernel
theorem d_method_4_code_30 : decode method_4_code 30 = .ok (.if_icmp .eq 5, 3) := by decide +kernel
theorem ef_15 (m : MethodId) (a : Addr) (x0 : Int32) (x1 : Int32) (x2 : Int32) : entryFrame m #[(.ref a), (.int (2 : Int32)), (.int x0), (.int x1), (.int x2)] 5 = mkF m 0 #[.val (.ref a), .val (.int (2 : Int32)), .val (.int x0), .val (.int x1), .val (.int x2)] [] := by first | (simp [entryFrame, mkF, argsToLocals, Value.category]; done) | rfl
def Q_rm_same2 (Z : State) (a : Addr) (x0 : Int32) (x1 : Int32) (x2 : Int32) (ka : ClassId) (y0 : Int32) (y1 : Int32) (h0 : Heap) (n0 : Nat) (v : Option Value) (h : Heap) (L : List Loc) : Prop := v = some (.int (1 : Int32)) ∧ Fr n0 L ∧ h = h0
set_option maxRecDepth 65536 in
set_option maxHeartbeats 40000000 in
theorem rm_same2 (l : Launch) (Z : State) (a0 : Array Value) (hw : ∀ d ∈ tables_1, d.before a0 Z = true) (ws : List Jvm.Cond) (a : Addr) (x0 : Int32) (x1 : Int32) (x2 : Int32) (ka : ClassId) (y0 : Int32) (y1 : Int32) (h0 : Heap) (n0 : Nat) (Z0 : n0 ≤ h0.size) (V_a : Arv Z h0 a ka .byte (2 : Int32) [(.int y0), (.int y1)] (.int (0 : Int32))) (hy0 : y0 = x0) (hy1 : y1 = x1) :
    MetFree l (⟨"com/example/relampago/relampago/lcp/CallParamsPinLaw", "same", "([BIBBB)Z"⟩ : MethodName) (head1 (Jvm.Cond.code (⟨"com/example/relampago/relampago/lcp/CallParamsPinLaw", "same", "([BIBBB)Z"⟩ : MethodName) method_4_code 5 (some .boolean) :: ws) ({ frames := 0, cells := 0, slots := 0, locals := 0 } : Room)) (fun av_ U => av_ = #[(.ref a), (.int (2 : Int32)), (.int x0), (.int x1), (.int x2)] ∧ Z.Warmed39 U.vm ∧ U.heap = h0) (fun _ _ _ _ _ => True) (fun _ U o U' => ∃ v L, o = .returned v ∧ Q_rm_same2 Z a x0 x1 x2 ka y0 y1 h0 n0 v U'.heap L ∧ FrameEnd U o U' L ({ frames := 0, cells := 0, slots := 0, locals := 0 } : Room).cells ({ frames := 0, cells := 0, slots := 0, locals := 0 } : Room).slots) := by
  refine MetFree.of_bodySF (plainFor_of_name pn_4) hisR ?_
  intro p e s m args below meth c s₁ Bd hml0 hP hK
  obtain ⟨rfl, hZ, hh⟩ := hP
  have hx := Bd.exec
  have hby := Bd.bytes
  have hml : c.maxLocals = 5 := hml0
  have hown : s.vm.findClass "com/example/relampago/relampago/lcp/CallParamsPinLaw" = some m.cls := findClass_of_methodNamed Bd.named
  have hnm := (name_of_methodNamed Bd.named Bd.method).1
  have hlk : meth.locks = false := BodyLoose.notSynchronized Bd
  have X0 : Stand p l e ({ frames := 0, cells := 0, slots := 0, locals := 0 } : Room) s m #[(.ref a), (.int (2 : Int32)), (.int x0), (.int x1), (.int x2)] below meth c s₁ [] 0 0 := Stand.of_body Bd
  have e0 : s₁.heap = h0 := by rw [← hh, Bd.state]; rfl
  have N0 := Fr.nil n0
  refine own_by (fun _ kt => castTop (ef_15 m a x0 x1 x2) kt) (R := own_R s (Q_rm_same2 Z a x0 x1 x2 ka y0 y1 h0 n0) 0 0) ?_
  show own_Go p.tables e below (s₁.setTop (mkF m 0 #[.val (.ref a), .val (.int (2 : Int32)), .val (.int x0), .val (.int x1), .val (.int x2)] [])) _
  refine own_by (fun _ kt => XS.aloadN X0.here hx rfl (hb hby d_method_4_code_0) rfl rfl kt) ?_
  show own_Go p.tables e below (s₁.setTop (mkF m 1 #[.val (.ref a), .val (.int (2 : Int32)), .val (.int x0), .val (.int x1), .val (.int x2)] [(.ref a)])) _
  refine own_by (own_alen X0 hx hZ e0 V_a (g := (mkF m 1 #[.val (.ref a), .val (.int (2 : Int32)), .val (.int x0), .val (.int x1), .val (.int x2)] [(.ref a)])) rfl rfl (hb hby d_method_4_code_1)) ?_
  show own_Go p.tables e below (s₁.setTop (mkF m 2 #[.val (.ref a), .val (.int (2 : Int32)), .val (.int x0), .val (.int x1), .val (.int x2)] [(.int (2 : Int32))])) _
  refine own_by (fun _ kt => XS.iloadN X0.here hx rfl (hb hby d_method_4_code_2) rfl kt) ?_
  show own_Go p.tables e below (s₁.setTop (mkF m 3 #[.val (.ref a), .val (.int (2 : Int32)), .val (.int x0), .val (.int x1), .val (.int x2)] [(.int (2 : Int32)), (.int (2 : Int32))])) _
  refine own_by (fun _ kt => XS.icmpYes X0.here hx rfl (pc0 := 3) (pc' := 8) rfl (hb hby d_method_4_code_3) rfl (teq (by decide : (2 : Int32) = (2 : Int32))).1 (by decide) (by decide) kt) ?_
  show own_Go p.tables e below (s₁.setTop (mkF m 8 #[.val (.ref a), .val (.int (2 : Int32)), .val (.int x0), .val (.int x1), .val (.int x2)] [])) _
  refine own_by (fun _ kt => XS.iloadN X0.here hx rfl (hb hby d_method_4_code_8) rfl kt) ?_
  show own_Go p.tables e below (s₁.setTop (mkF m 9 #[.val (.ref a), .val (.int (2 : Int32)), .val (.int x0), .val (.int x1), .val (.int x2)] [(.int (2 : Int32))])) _
  refine own_by (fun _ kt => XS.ifNo X0.here hx rfl (hb hby d_method_4_code_9) rfl ((if0 _ _).trans (tlt (by decide : (0 : Int32) < (2 : Int32))).2.2.2) kt) ?_
  show own_Go p.tables e below (s₁.setTop (mkF m 12 #[.val (.ref a), .val (.int (2 : Int32)), .val (.int x0), .val (.int x1), .val (.int x2)] [])) _
  refine own_by (fun _ kt => XS.aloadN X0.here hx rfl (hb hby d_method_4_code_12) rfl rfl kt) ?_
  show own_Go p.tables e below (s₁.setTop (mkF m 13 #[.val (.ref a), .val (.int (2 : Int32)), .val (.int x0), .val (.int x1), .val (.int x2)] [(.ref a)])) _
  refine own_by (fun _ kt => XS.iconst X0.here hx rfl (hb hby d_method_4_code_13) kt) ?_
  show own_Go p.tables e below (s₁.setTop (mkF m 14 #[.val (.ref a), .val (.int (2 : Int32)), .val (.int x0), .val (.int x1), .val (.int x2)] [(.int (0 : Int32)), (.ref a)])) _
  refine own_by (own_baload X0 hx hZ e0 V_a (j := (0 : Int32)) (v := (.int y0)) ⟨by decide, by decide⟩ rfl (g := (mkF m 14 #[.val (.ref a), .val (.int (2 : Int32)), .val (.int x0), .val (.int x1), .val (.int x2)] [(.int (0 : Int32)), (.ref a)])) rfl rfl (hb hby d_method_4_code_14)) ?_
  show own_Go p.tables e below (s₁.setTop (mkF m 15 #[.val (.ref a), .val (.int (2 : Int32)), .val (.int x0), .val (.int x1), .val (.int x2)] [(.int y0)])) _
  refine own_by (fun _ kt => XS.iloadN X0.here hx rfl (hb hby d_method_4_code_15) rfl kt) ?_
  show own_Go p.tables e below (s₁.setTop (mkF m 16 #[.val (.ref a), .val (.int (2 : Int32)), .val (.int x0), .val (.int x1), .val (.int x2)] [(.int x0), (.int y0)])) _
  refine own_by (fun _ kt => XS.icmpYes X0.here hx rfl (pc0 := 16) (pc' := 21) rfl (hb hby d_method_4_code_16) rfl (teq (hy0 : y0 = x0)).1 (by decide) (by decide) kt) ?_
  show own_Go p.tables e below (s₁.setTop (mkF m 21 #[.val (.ref a), .val (.int (2 : Int32)), .val (.int x0), .val (.int x1), .val (.int x2)] [])) _
  refine own_by (fun _ kt => XS.iloadN X0.here hx rfl (hb hby d_method_4_code_21) rfl kt) ?_
  show own_Go p.tables e below (s₁.setTop (mkF m 22 #[.val (.ref a), .val (.int (2 : Int32)), .val (.int x0), .val (.int x1), .val (.int x2)] [(.int (2 : Int32))])) _
  refine own_by (fun _ kt => XS.iconst X0.here hx rfl (hb hby d_method_4_code_22) kt) ?_
  show own_Go p.tables e below (s₁.setTop (mkF m 23 #[.val (.ref a), .val (.int (2 : Int32)), .val (.int x0), .val (.int x1), .val (.int x2)] [(.int (1 : Int32)), (.int (2 : Int32))])) _
  refine own_by (fun _ kt => XS.icmpNo X0.here hx rfl (hb hby d_method_4_code_23) rfl (tlt (by decide : (1 : Int32) < (2 : Int32))).2.2.2 kt) ?_
  show own_Go p.tables e below (s₁.setTop (mkF m 26 #[.val (.ref a), .val (.int (2 : Int32)), .val (.int x0), .val (.int x1), .val (.int x2)] [])) _
  refine own_by (fun _ kt => XS.aloadN X0.here hx rfl (hb hby d_method_4_code_26) rfl rfl kt) ?_
  show own_Go p.tables e below (s₁.setTop (mkF m 27 #[.val (.ref a), .val (.int (2 : Int32)), .val (.int x0), .val (.int x1), .val (.int x2)] [(.ref a)])) _
  refine own_by (fun _ kt => XS.iconst X0.here hx rfl (hb hby d_method_4_code_27) kt) ?_
  show own_Go p.tables e below (s₁.setTop (mkF m 28 #[.val (.ref a), .val (.int (2 : Int32)), .val (.int x0), .val (.int x1), .val (.int x2)] [(.int (1 : Int32)), (.ref a)])) _
  refine own_by (own_baload X0 hx hZ e0 V_a (j := (1 : Int32)) (v := (.int y1)) ⟨by decide, by decide⟩ rfl (g := (mkF m 28 #[.val (.ref a), .val (.int (2 : Int32)), .val (.int x0), .val (.int x1), .val (.int x2)] [(.int (1 : Int32)), (.ref a)])) rfl rfl (hb hby d_method_4_code_28)) ?_
  show own_Go p.tables e below (s₁.setTop (mkF m 29 #[.val (.ref a), .val (.int (2 : Int32)), .val (.int x0), .val (.int x1), .val (.int x2)] [(.int y1)])) _
  refine own_by (fun _ kt => XS.iloadN X0.here hx rfl (hb hby d_method_4_code_29) rfl kt) ?_
  show own_Go p.tables e below (s₁.setTop (mkF m 30 #[.val (.ref a), .val (.int (2 : Int32)), .val (.int x0), .val (.int x1), .val (.int x2)] [(.int x1), (.int y1)])) _
  refine own_by (fun _ kt => XS.icmpYes X0.here hx rfl (pc0 := 30) (pc' := 35) rfl (hb hby d_method_4_code_30) rfl (teq (hy1 : y1 = x1)).1 (by decide) (by decide) kt) ?_
  show own_Go p.tables e below (s₁.setTop (mkF m 35 #[.val (.ref a), .val (.int (2 : Int32)), .val (.int x0), .val (.int x1), .val (.int x2)] [])) _
  refine own_by (fun _ kt => XS.iloadN X0.here hx rfl (hb hby d_method_4_code_35) rfl kt) ?_
  show own_Go p.tables e below (s₁.setTop (mkF m 36 #[.val (.ref a), .val (.int (2 : Int32)), .val (.int x0), .val (.int x1), .val (.int x2)] [(.int (2 : Int32))])) _
  refine own_by (fun _ kt => XS.iconst X0.here hx rfl (hb hby d_method_4_code_36) kt) ?_
  show own_Go p.tables e below (s₁.setTop (mkF m 37 #[.val (.ref a), .val (.int (2 : Int32)), .val (.int x0), .val (.int x1), .val (.int x2)] [(.int (2 : Int32)), (.int (2 : Int32))])) _
  refine own_by (fun _ kt => XS.icmpYes X0.here hx rfl (pc0 := 37) (pc' := 50) rfl (hb hby d_method_4_code_37) rfl (flt (by decide : ¬ ((2 : Int32) < (2 : Int32)))).2.2.2 (by decide) (by decide) kt) ?_
  show own_Go p.tables e below (s₁.setTop (mkF m 50 #[.val (.ref a), .val (.int (2 : Int32)), .val (.int x0), .val (.int x1), .val (.int x2)] [])) _
  refine own_by (fun _ kt => XS.iconst X0.here hx rfl (hb hby d_method_4_code_50) kt) ?_
  show own_Go p.tables e below (s₁.setTop (mkF m 51 #[.val (.ref a), .val (.int (2 : Int32)), .val (.int x0), .val (.int x1), .val (.int x2)] [(.int (1 : Int32))])) _
  exact own_retN X0 hx (t := .boolean) Bd.returns hlk (by simp) (hb hby d_method_4_code_51) ⟨rfl, N0, e0⟩ (by decide) (by decide)
theorem d_method_3_code_32 : decode method_3_code 32 = .ok (.aload_n 0, 1) := by decide +kernel
theorem d_method_3_code_33 : decode method_3_code 33 = .ok (.iconst 2, 1) := by decide +kernel
theorem d_method_3_code_34 : decode method_3_code 34 = .ok (.aload_n 0, 1) := by decide +kernel
theorem d_method_3_code_35 : decode method_3_code 35 = .ok (.iconst 2, 1) := by decide +kernel
theorem d_method_3_code_36 : decode method_3_code 36 = .ok (.baload, 1) := by decide +kernel
theorem d_method_3_code_37 : decode method_3_code 37 = .ok (.iconst 1, 1) := by decide +kernel
theorem d_method_3_code_38 : decode method_3_code 38 = .ok (.iadd, 1) := by decide +kernel
theorem d_method_3_code_39 : decode method_3_code 39 = .ok (.i2b, 1) := by decide +kernel
theorem d_method_3_code_40 : decode method_3_code 40 = .ok (.bastore, 1) := by decide +kernel
theorem ef_16 (m : MethodId) (a : Addr) : entryFrame m #[(.ref a), (.int (3 : Int32))] 2 = mkF m 0 #[.val (.ref a), .val (.int (3 : Int32))] [] := by first | (simp [entryFrame, mkF, argsToLocals, Value.category]; done) | rfl
def Q_rm_bump3 (Z : State) (a : Addr) (ka : ClassId) (y0 : Int32) (y1 : Int32) (y2 : Int32) (h0 : Heap) (n0 : Nat) (v : Option Value) (h : Heap) (L : List Loc) : Prop := v = none ∧ Fr n0 L ∧ Keep h0 h [a] ∧ Arv Z h a ka .byte (3 : Int32) [(.int (nar .byte ((y0 + (1 : Int32)).toInt8.toInt32))), (.int (nar .byte ((y1 + (1 : Int32)).toInt8.toInt32))), (.int (nar .byte ((y2 + (1 : Int32)).toInt8.toInt32)))] (.int (0 : Int32))
set_option maxRecDepth 65536 in
set_option maxHeartbeats 40000000 in
theorem rm_bump3 (l : Launch) (Z : State) (a0 : Array Value) (hw : ∀ d ∈ tables_1, d.before a0 Z = true) (ws : List Jvm.Cond) (a : Addr) (ka : ClassId) (y0 : Int32) (y1 : Int32) (y2 : Int32) (h0 : Heap) (n0 : Nat) (Z0 : n0 ≤ h0.size) (V_a : Arv Z h0 a ka .byte (3 : Int32) [(.int y0), (.int y1), (.int y2)] (.int (0 : Int32))) (gn_a : n0 ≤ a) :
    MetFree l (⟨"com/example/relampago/relampago/lcp/CallParamsPinLaw", "bump", "([BI)V"⟩ : MethodName) (head1 (Jvm.Cond.code (⟨"com/example/relampago/relampago/lcp/CallParamsPinLaw", "bump", "([BI)V"⟩ : MethodName) method_3_code 2 none :: ws) ({ frames := 0, cells := 0, slots := 0, locals := 0 } : Room)) (fun av_ U => av_ = #[(.ref a), (.int (3 : Int32))] ∧ Z.Warmed39 U.vm ∧ U.heap = h0) (fun _ _ _ _ _ => True) (fun _ U o U' => ∃ v L, o = .returned v ∧ Q_rm_bump3 Z a ka y0 y1 y2 h0 n0 v U'.heap L ∧ FrameEnd U o U' L ({ frames := 0, cells := 0, slots := 0, locals := 0 } : Room).cells ({ frames := 0, cells := 0, slots := 0, locals := 0 } : Room).slots) := by
  refine MetFree.of_bodySF (plainFor_of_name pn_4) hisR ?_
  intro p e s m args below meth c s₁ Bd hml0 hP hK
  obtain ⟨rfl, hZ, hh⟩ := hP
  have hx := Bd.exec
  have hby := Bd.bytes
  have hml : c.maxLocals = 2 := hml0
  have hown : s.vm.findClass "com/example/relampago/relampago/lcp/CallParamsPinLaw" = some m.cls := findClass_of_methodNamed Bd.named
  have hnm := (name_of_methodNamed Bd.named Bd.method).1
  have hlk : meth.locks = false := BodyLoose.notSynchronized Bd
  have X0 : Stand p l e ({ frames := 0, cells := 0, slots := 0, locals := 0 } : Room) s m #[(.ref a), (.int (3 : Int32))] below meth c s₁ [] 0 0 := Stand.of_body Bd
  have e0 : s₁.heap = h0 := by rw [← hh, Bd.state]; rfl
  have N0 := Fr.nil n0
  refine own_by (fun _ kt => castTop (ef_16 m a) kt) (R := own_R s (Q_rm_bump3 Z a ka y0 y1 y2 h0 n0) 0 0) ?_
  show own_Go p.tables e below (s₁.setTop (mkF m 0 #[.val (.ref a), .val (.int (3 : Int32))] [])) _
  refine own_by (fun _ kt => XS.iloadN X0.here hx rfl (hb hby d_method_3_code_0) rfl kt) ?_
  show own_Go p.tables e below (s₁.setTop (mkF m 1 #[.val (.ref a), .val (.int (3 : Int32))] [(.int (3 : Int32))])) _
  refine own_by (fun _ kt => XS.ifNo X0.here hx rfl (hb hby d_method_3_code_1) rfl ((if0 _ _).trans (tlt (by decide : (0 : Int32) < (3 : Int32))).2.2.2) kt) ?_
  show own_Go p.tables e below (s₁.setTop (mkF m 4 #[.val (.ref a), .val (.int (3 : Int32))] [])) _
  refine own_by (fun _ kt => XS.aloadN X0.here hx rfl (hb hby d_method_3_code_4) rfl rfl kt) ?_
  show own_Go p.tables e below (s₁.setTop (mkF m 5 #[.val (.ref a), .val (.int (3 : Int32))] [(.ref a)])) _
  refine own_by (fun _ kt => XS.iconst X0.here hx rfl (hb hby d_method_3_code_5) kt) ?_
  show own_Go p.tables e below (s₁.setTop (mkF m 6 #[.val (.ref a), .val (.int (3 : Int32))] [(.int (0 : Int32)), (.ref a)])) _
  refine own_by (fun _ kt => XS.aloadN X0.here hx rfl (hb hby d_method_3_code_6) rfl rfl kt) ?_
  show own_Go p.tables e below (s₁.setTop (mkF m 7 #[.val (.ref a), .val (.int (3 : Int32))] [(.ref a), (.int (0 : Int32)), (.ref a)])) _
  refine own_by (fun _ kt => XS.iconst X0.here hx rfl (hb hby d_method_3_code_7) kt) ?_
  show own_Go p.tables e below (s₁.setTop (mkF m 8 #[.val (.ref a), .val (.int (3 : Int32))] [(.int (0 : Int32)), (.ref a), (.int (0 : Int32)), (.ref a)])) _
  refine own_by (own_baload X0 hx hZ e0 V_a (j := (0 : Int32)) (v := (.int y0)) ⟨by decide, by decide⟩ rfl (g := (mkF m 8 #[.val (.ref a), .val (.int (3 : Int32))] [(.int (0 : Int32)), (.ref a), (.int (0 : Int32)), (.ref a)])) rfl rfl (hb hby d_method_3_code_8)) ?_
  show own_Go p.tables e below (s₁.setTop (mkF m 9 #[.val (.ref a), .val (.int (3 : Int32))] [(.int y0), (.int (0 : Int32)), (.ref a)])) _
  refine own_by (fun _ kt => XS.iconst X0.here hx rfl (hb hby d_method_3_code_9) kt) ?_
  show own_Go p.tables e below (s₁.setTop (mkF m 10 #[.val (.ref a), .val (.int (3 : Int32))] [(.int (1 : Int32)), (.int y0), (.int (0 : Int32)), (.ref a)])) _
  refine own_by (fun _ kt => XS.iadd X0.here hx rfl (hb hby d_method_3_code_10) rfl kt) ?_
  show own_Go p.tables e below (s₁.setTop (mkF m 11 #[.val (.ref a), .val (.int (3 : Int32))] [(.int (y0 + (1 : Int32))), (.int (0 : Int32)), (.ref a)])) _
  refine own_by (fun _ kt => XS.i2b X0.here hx rfl (hb hby d_method_3_code_11) rfl kt) ?_
  show own_Go p.tables e below (s₁.setTop (mkF m 12 #[.val (.ref a), .val (.int (3 : Int32))] [(.int ((y0 + (1 : Int32)).toInt8.toInt32)), (.int (0 : Int32)), (.ref a)])) _
  obtain ⟨cl1, Ar1, q1, S1, M1, H1, G1⟩ := V_a
  obtain ⟨T1, h1, X1, e1, W1, st1⟩ := stB X0 hx hZ e0 Ar1 (j := (0 : Int32)) (inb_of S1 ⟨by decide, by decide⟩) (g := (mkF m 12 #[.val (.ref a), .val (.int (3 : Int32))] [(.int ((y0 + (1 : Int32)).toInt8.toInt32)), (.int (0 : Int32)), (.ref a)])) rfl rfl (hb hby d_method_3_code_12)
  have f2 : Arv Z h1 a ka .byte (3 : Int32) [(.int (nar .byte ((y0 + (1 : Int32)).toInt8.toInt32))), (.int y1), (.int y2)] (.int (0 : Int32)) := Arv.set Ar1 q1 S1 M1 H1 G1 (fits_nar_byte _) W1 0 rfl (Nat.le_of_ble_eq_true rfl)
  have Zs1 : n0 ≤ h1.size := by rw [W1.size]; exact Z0
  have K1 : Keep h0 h1 [a] := (Keep.refl h0 [a]).wr W1 (Or.inl (List.mem_of_getElem? (i := 0) rfl))
  have N1 := Fr.snoc X1 N0 gn_a
  refine own_by st1 ?_
  show own_Go p.tables e below (T1.setTop (mkF m 13 #[.val (.ref a), .val (.int (3 : Int32))] [])) _
  refine own_by (fun _ kt => XS.iloadN X1.here hx rfl (hb hby d_method_3_code_13) rfl kt) ?_
  show own_Go p.tables e below (T1.setTop (mkF m 14 #[.val (.ref a), .val (.int (3 : Int32))] [(.int (3 : Int32))])) _
  refine own_by (fun _ kt => XS.iconst X1.here hx rfl (hb hby d_method_3_code_14) kt) ?_
  show own_Go p.tables e below (T1.setTop (mkF m 15 #[.val (.ref a), .val (.int (3 : Int32))] [(.int (1 : Int32)), (.int (3 : Int32))])) _
  refine own_by (fun _ kt => XS.icmpNo X1.here hx rfl (hb hby d_method_3_code_15) rfl (tlt (by decide : (1 : Int32) < (3 : Int32))).2.2.2 kt) ?_
  show own_Go p.tables e below (T1.setTop (mkF m 18 #[.val (.ref a), .val (.int (3 : Int32))] [])) _
  refine own_by (fun _ kt => XS.aloadN X1.here hx rfl (hb hby d_method_3_code_18) rfl rfl kt) ?_
  show own_Go p.tables e below (T1.setTop (mkF m 19 #[.val (.ref a), .val (.int (3 : Int32))] [(.ref a)])) _
  refine own_by (fun _ kt => XS.iconst X1.here hx rfl (hb hby d_method_3_code_19) kt) ?_
  show own_Go p.tables e below (T1.setTop (mkF m 20 #[.val (.ref a), .val (.int (3 : Int32))] [(.int (1 : Int32)), (.ref a)])) _
  refine own_by (fun _ kt => XS.aloadN X1.here hx rfl (hb hby d_method_3_code_20) rfl rfl kt) ?_
  show own_Go p.tables e below (T1.setTop (mkF m 21 #[.val (.ref a), .val (.int (3 : Int32))] [(.ref a), (.int (1 : Int32)), (.ref a)])) _
  refine own_by (fun _ kt => XS.iconst X1.here hx rfl (hb hby d_method_3_code_21) kt) ?_
  show own_Go p.tables e below (T1.setTop (mkF m 22 #[.val (.ref a), .val (.int (3 : Int32))] [(.int (1 : Int32)), (.ref a), (.int (1 : Int32)), (.ref a)])) _
  refine own_by (own_baload X1 hx hZ e1 f2 (j := (1 : Int32)) (v := (.int y1)) ⟨by decide, by decide⟩ rfl (g := (mkF m 22 #[.val (.ref a), .val (.int (3 : Int32))] [(.int (1 : Int32)), (.ref a), (.int (1 : Int32)), (.ref a)])) rfl rfl (hb hby d_method_3_code_22)) ?_
  show own_Go p.tables e below (T1.setTop (mkF m 23 #[.val (.ref a), .val (.int (3 : Int32))] [(.int y1), (.int (1 : Int32)), (.ref a)])) _
  refine own_by (fun _ kt => XS.iconst X1.here hx rfl (hb hby d_method_3_code_23) kt) ?_
  show own_Go p.tables e below (T1.setTop (mkF m 24 #[.val (.ref a), .val (.int (3 : Int32))] [(.int (1 : Int32)), (.int y1), (.int (1 : Int32)), (.ref a)])) _
  refine own_by (fun _ kt => XS.iadd X1.here hx rfl (hb hby d_method_3_code_24) rfl kt) ?_
  show own_Go p.tables e below (T1.setTop (mkF m 25 #[.val (.ref a), .val (.int (3 : Int32))] [(.int (y1 + (1 : Int32))), (.int (1 : Int32)), (.ref a)])) _
  refine own_by (fun _ kt => XS.i2b X1.here hx rfl (hb hby d_method_3_code_25) rfl kt) ?_
  show own_Go p.tables e below (T1.setTop (mkF m 26 #[.val (.ref a), .val (.int (3 : Int32))] [(.int ((y1 + (1 : Int32)).toInt8.toInt32)), (.int (1 : Int32)), (.ref a)])) _
  obtain ⟨cl3, Ar3, q3, S3, M3, H3, G3⟩ := f2
  obtain ⟨T3, h3, X3, e3, W3, st3⟩ := stB X1 hx hZ e1 Ar3 (j := (1 : Int32)) (inb_of S3 ⟨by decide, by decide⟩) (g := (mkF m 26 #[.val (.ref a), .val (.int (3 : Int32))] [(.int ((y1 + (1 : Int32)).toInt8.toInt32)), (.int (1 : Int32)), (.ref a)])) rfl rfl (hb hby d_method_3_code_26)
  have f4 : Arv Z h3 a ka .byte (3 : Int32) [(.int (nar .byte ((y0 + (1 : Int32)).toInt8.toInt32))), (.int (nar .byte ((y1 + (1 : Int32)).toInt8.toInt32))), (.int y2)] (.int (0 : Int32)) := Arv.set Ar3 q3 S3 M3 H3 G3 (fits_nar_byte _) W3 1 rfl (Nat.le_of_ble_eq_true rfl)
  have Zs3 : n0 ≤ h3.size := by rw [W3.size]; exact Zs1
  have K3 : Keep h0 h3 [a] := K1.wr W3 (Or.inl (List.mem_of_getElem? (i := 0) rfl))
  have N3 := Fr.snoc X3 N1 gn_a
  refine own_by st3 ?_
  show own_Go p.tables e below (T3.setTop (mkF m 27 #[.val (.ref a), .val (.int (3 : Int32))] [])) _
  refine own_by (fun _ kt => XS.iloadN X3.here hx rfl (hb hby d_method_3_code_27) rfl kt) ?_
  show own_Go p.tables e below (T3.setTop (mkF m 28 #[.val (.ref a), .val (.int (3 : Int32))] [(.int (3 : Int32))])) _
  refine own_by (fun _ kt => XS.iconst X3.here hx rfl (hb hby d_method_3_code_28) kt) ?_
  show own_Go p.tables e below (T3.setTop (mkF m 29 #[.val (.ref a), .val (.int (3 : Int32))] [(.int (2 : Int32)), (.int (3 : Int32))])) _
  refine own_by (fun _ kt => XS.icmpNo X3.here hx rfl (hb hby d_method_3_code_29) rfl (tlt (by decide : (2 : Int32) < (3 : Int32))).2.2.2 kt) ?_
  show own_Go p.tables e below (T3.setTop (mkF m 32 #[.val (.ref a), .val (.int (3 : Int32))] [])) _
  refine own_by (fun _ kt => XS.aloadN X3.here hx rfl (hb hby d_method_3_code_32) rfl rfl kt) ?_
  show own_Go p.tables e below (T3.setTop (mkF m 33 #[.val (.ref a), .val (.int (3 : Int32))] [(.ref a)])) _
  refine own_by (fun _ kt => XS.iconst X3.here hx rfl (hb hby d_method_3_code_33) kt) ?_
  show own_Go p.tables e below (T3.setTop (mkF m 34 #[.val (.ref a), .val (.int (3 : Int32))] [(.int (2 : Int32)), (.ref a)])) _
  refine own_by (fun _ kt => XS.aloadN X3.here hx rfl (hb hby d_method_3_code_34) rfl rfl kt) ?_
  show own_Go p.tables e below (T3.setTop (mkF m 35 #[.val (.ref a), .val (.int (3 : Int32))] [(.ref a), (.int (2 : Int32)), (.ref a)])) _
  refine own_by (fun _ kt => XS.iconst X3.here hx rfl (hb hby d_method_3_code_35) kt) ?_
  show own_Go p.tables e below (T3.setTop (mkF m 36 #[.val (.ref a), .val (.int (3 : Int32))] [(.int (2 : Int32)), (.ref a), (.int (2 : Int32)), (.ref a)])) _
  refine own_by (own_baload X3 hx hZ e3 f4 (j := (2 : Int32)) (v := (.int y2)) ⟨by decide, by decide⟩ rfl (g := (mkF m 36 #[.val (.ref a), .val (.int (3 : Int32))] [(.int (2 : Int32)), (.ref a), (.int (2 : Int32)), (.ref a)])) rfl rfl (hb hby d_method_3_code_36)) ?_
  show own_Go p.tables e below (T3.setTop (mkF m 37 #[.val (.ref a), .val (.int (3 : Int32))] [(.int y2), (.int (2 : Int32)), (.ref a)])) _
  refine own_by (fun _ kt => XS.iconst X3.here hx rfl (hb hby d_method_3_code_37) kt) ?_
  show own_Go p.tables e below (T3.setTop (mkF m 38 #[.val (.ref a), .val (.int (3 : Int32))] [(.int (1 : Int32)), (.int y2), (.int (2 : Int32)), (.ref a)])) _
  refine own_by (fun _ kt => XS.iadd X3.here hx rfl (hb hby d_method_3_code_38) rfl kt) ?_
  show own_Go p.tables e below (T3.setTop (mkF m 39 #[.val (.ref a), .val (.int (3 : Int32))] [(.int (y2 + (1 : Int32))), (.int (2 : Int32)), (.ref a)])) _
  refine own_by (fun _ kt => XS.i2b X3.here hx rfl (hb hby d_method_3_code_39) rfl kt) ?_
  show own_Go p.tables e below (T3.setTop (mkF m 40 #[.val (.ref a), .val (.int (3 : Int32))] [(.int ((y2 + (1 : Int32)).toInt8.toInt32)), (.int (2 : Int32)), (.ref a)])) _
  obtain ⟨cl5, Ar5, q5, S5, M5, H5, G5⟩ := f4
  obtain ⟨T5, h5, X5, e5, W5, st5⟩ := stB X3 hx hZ e3 Ar5 (j := (2 : Int32)) (inb_of S5 ⟨by decide, by decide⟩) (g := (mkF m 40 #[.val (.ref a), .val (.int (3 : Int32))] [(.int ((y2 + (1 : Int32)).toInt8.toInt32)), (.int (2 : Int32)), (.ref a)])) rfl rfl (hb hby d_method_3_code_40)
  have f6 : Arv Z h5 a ka .byte (3 : Int32) [(.int (nar .byte ((y0 + (1 : Int32)).toInt8.toInt32))), (.int (nar .byte ((y1 + (1 : Int32)).toInt8.toInt32))), (.int (nar .byte ((y2 + (1 : Int32)).toInt8.toInt32)))] (.int (0 : Int32)) := Arv.set Ar5 q5 S5 M5 H5 G5 (fits_nar_byte _) W5 2 rfl (Nat.le_of_ble_eq_true rfl)
  have Zs5 : n0 ≤ h5.size := by rw [W5.size]; exact Zs3
  have K5 : Keep h0 h5 [a] := K3.wr W5 (Or.inl (List.mem_of_getElem? (i := 0) rfl))
  have N5 := Fr.snoc X5 N3 gn_a
  refine own_by st5 ?_
  show own_Go p.tables e below (T5.setTop (mkF m 41 #[.val (.ref a), .val (.int (3 : Int32))] [])) _
  exact own_retV X5 hx Bd.returns hlk (hb hby d_method_3_code_41) (by rw [e5]; exact ⟨rfl, N5, K5, f6⟩) (by decide) (by decide)
theorem d_method_4_code_40 : decode method_4_code 40 = .ok (.aload_n 0, 1) := by decide +kernel
theorem d_method_4_code_41 : decode method_4_code 41 = .ok (.iconst 2, 1) := by decide +kernel
theorem d_method_4_code_42 : decode method_4_code 42 = .ok (.baload, 1) := by decide +kernel
theorem d_method_4_code_43 : decode method_4_code 43 = .ok (.iload 4, 2) := by decide +kernel
theorem d_method_4_code_45 : decode method_4_code 45 = .ok (.if_icmp .eq 5, 3) := by decide +kernel
theorem ef_17 (m : MethodId) (a : Addr) (x0 : Int32) (x1 : Int32) (x2 : Int32) : entryFrame m #[(.ref a), (.int (3 : Int32)), (.int x0), (.int x1), (.int x2)] 5 = mkF m 0 #[.val (.ref a), .val (.int (3 : Int32)), .val (.int x0), .val (.int x1), .val (.int x2)] [] := by first | (simp [entryFrame, mkF, argsToLocals, Value.category]; done) | rfl
def Q_rm_same3 (Z : State) (a : Addr) (x0 : Int32) (x1 : Int32) (x2 : Int32) (ka : ClassId) (y0 : Int32) (y1 : Int32) (y2 : Int32) (h0 : Heap) (n0 : Nat) (v : Option Value) (h : Heap) (L : List Loc) : Prop := v = some (.int (1 : Int32)) ∧ Fr n0 L ∧ h = h0
set_option maxRecDepth 65536 in
set_option maxHeartbeats 40000000 in
theorem rm_same3 (l : Launch) (Z : State) (a0 : Array Value) (hw : ∀ d ∈ tables_1, d.before a0 Z = true) (ws : List Jvm.Cond) (a : Addr) (x0 : Int32) (x1 : Int32) (x2 : Int32) (ka : ClassId) (y0 : Int32) (y1 : Int32) (y2 : Int32) (h0 : Heap) (n0 : Nat) (Z0 : n0 ≤ h0.size) (V_a : Arv Z h0 a ka .byte (3 : Int32) [(.int y0), (.int y1), (.int y2)] (.int (0 : Int32))) (hy0 : y0 = x0) (hy1 : y1 = x1) (hy2 : y2 = x2) :
    MetFree l (⟨"com/example/relampago/relampago/lcp/CallParamsPinLaw", "same", "([BIBBB)Z"⟩ : MethodName) (head1 (Jvm.Cond.code (⟨"com/example/relampago/relampago/lcp/CallParamsPinLaw", "same", "([BIBBB)Z"⟩ : MethodName) method_4_code 5 (some .boolean) :: ws) ({ frames := 0, cells := 0, slots := 0, locals := 0 } : Room)) (fun av_ U => av_ = #[(.ref a), (.int (3 : Int32)), (.int x0), (.int x1), (.int x2)] ∧ Z.Warmed39 U.vm ∧ U.heap = h0) (fun _ _ _ _ _ => True) (fun _ U o U' => ∃ v L, o = .returned v ∧ Q_rm_same3 Z a x0 x1 x2 ka y0 y1 y2 h0 n0 v U'.heap L ∧ FrameEnd U o U' L ({ frames := 0, cells := 0, slots := 0, locals := 0 } : Room).cells ({ frames := 0, cells := 0, slots := 0, locals := 0 } : Room).slots) := by
  refine MetFree.of_bodySF (plainFor_of_name pn_4) hisR ?_
  intro p e s m args below meth c s₁ Bd hml0 hP hK
  obtain ⟨rfl, hZ, hh⟩ := hP
  have hx := Bd.exec
  have hby := Bd.bytes
  have hml : c.maxLocals = 5 := hml0
  have hown : s.vm.findClass "com/example/relampago/relampago/lcp/CallParamsPinLaw" = some m.cls := findClass_of_methodNamed Bd.named
  have hnm := (name_of_methodNamed Bd.named Bd.method).1
  have hlk : meth.locks = false := BodyLoose.notSynchronized Bd
  have X0 : Stand p l e ({ frames := 0, cells := 0, slots := 0, locals := 0 } : Room) s m #[(.ref a), (.int (3 : Int32)), (.int x0), (.int x1), (.int x2)] below meth c s₁ [] 0 0 := Stand.of_body Bd
  have e0 : s₁.heap = h0 := by rw [← hh, Bd.state]; rfl
  have N0 := Fr.nil n0
  refine own_by (fun _ kt => castTop (ef_17 m a x0 x1 x2) kt) (R := own_R s (Q_rm_same3 Z a x0 x1 x2 ka y0 y1 y2 h0 n0) 0 0) ?_
  show own_Go p.tables e below (s₁.setTop (mkF m 0 #[.val (.ref a), .val (.int (3 : Int32)), .val (.int x0), .val (.int x1), .val (.int x2)] [])) _
  refine own_by (fun _ kt => XS.aloadN X0.here hx rfl (hb hby d_method_4_code_0) rfl rfl kt) ?_
  show own_Go p.tables e below (s₁.setTop (mkF m 1 #[.val (.ref a), .val (.int (3 : Int32)), .val (.int x0), .val (.int x1), .val (.int x2)] [(.ref a)])) _
  refine own_by (own_alen X0 hx hZ e0 V_a (g := (mkF m 1 #[.val (.ref a), .val (.int (3 : Int32)), .val (.int x0), .val (.int x1), .val (.int x2)] [(.ref a)])) rfl rfl (hb hby d_method_4_code_1)) ?_
  show own_Go p.tables e below (s₁.setTop (mkF m 2 #[.val (.ref a), .val (.int (3 : Int32)), .val (.int x0), .val (.int x1), .val (.int x2)] [(.int (3 : Int32))])) _
  refine own_by (fun _ kt => XS.iloadN X0.here hx rfl (hb hby d_method_4_code_2) rfl kt) ?_
  show own_Go p.tables e below (s₁.setTop (mkF m 3 #[.val (.ref a), .val (.int (3 : Int32)), .val (.int x0), .val (.int x1), .val (.int x2)] [(.int (3 : Int32)), (.int (3 : Int32))])) _
  refine own_by (fun _ kt => XS.icmpYes X0.here hx rfl (pc0 := 3) (pc' := 8) rfl (hb hby d_method_4_code_3) rfl (teq (by decide : (3 : Int32) = (3 : Int32))).1 (by decide) (by decide) kt) ?_
  show own_Go p.tables e below (s₁.setTop (mkF m 8 #[.val (.ref a), .val (.int (3 : Int32)), .val (.int x0), .val (.int x1), .val (.int x2)] [])) _
  refine own_by (fun _ kt => XS.iloadN X0.here hx rfl (hb hby d_method_4_code_8) rfl kt) ?_
  show own_Go p.tables e below (s₁.setTop (mkF m 9 #[.val (.ref a), .val (.int (3 : Int32)), .val (.int x0), .val (.int x1), .val (.int x2)] [(.int (3 : Int32))])) _
  refine own_by (fun _ kt => XS.ifNo X0.here hx rfl (hb hby d_method_4_code_9) rfl ((if0 _ _).trans (tlt (by decide : (0 : Int32) < (3 : Int32))).2.2.2) kt) ?_
  show own_Go p.tables e below (s₁.setTop (mkF m 12 #[.val (.ref a), .val (.int (3 : Int32)), .val (.int x0), .val (.int x1), .val (.int x2)] [])) _
  refine own_by (fun _ kt => XS.aloadN X0.here hx rfl (hb hby d_method_4_code_12) rfl rfl kt) ?_
  show own_Go p.tables e below (s₁.setTop (mkF m 13 #[.val (.ref a), .val (.int (3 : Int32)), .val (.int x0), .val (.int x1), .val (.int x2)] [(.ref a)])) _
  refine own_by (fun _ kt => XS.iconst X0.here hx rfl (hb hby d_method_4_code_13) kt) ?_
  show own_Go p.tables e below (s₁.setTop (mkF m 14 #[.val (.ref a), .val (.int (3 : Int32)), .val (.int x0), .val (.int x1), .val (.int x2)] [(.int (0 : Int32)), (.ref a)])) _
  refine own_by (own_baload X0 hx hZ e0 V_a (j := (0 : Int32)) (v := (.int y0)) ⟨by decide, by decide⟩ rfl (g := (mkF m 14 #[.val (.ref a), .val (.int (3 : Int32)), .val (.int x0), .val (.int x1), .val (.int x2)] [(.int (0 : Int32)), (.ref a)])) rfl rfl (hb hby d_method_4_code_14)) ?_
  show own_Go p.tables e below (s₁.setTop (mkF m 15 #[.val (.ref a), .val (.int (3 : Int32)), .val (.int x0), .val (.int x1), .val (.int x2)] [(.int y0)])) _
  refine own_by (fun _ kt => XS.iloadN X0.here hx rfl (hb hby d_method_4_code_15) rfl kt) ?_
  show own_Go p.tables e below (s₁.setTop (mkF m 16 #[.val (.ref a), .val (.int (3 : Int32)), .val (.int x0), .val (.int x1), .val (.int x2)] [(.int x0), (.int y0)])) _
  refine own_by (fun _ kt => XS.icmpYes X0.here hx rfl (pc0 := 16) (pc' := 21) rfl (hb hby d_method_4_code_16) rfl (teq (hy0 : y0 = x0)).1 (by decide) (by decide) kt) ?_
  show own_Go p.tables e below (s₁.setTop (mkF m 21 #[.val (.ref a), .val (.int (3 : Int32)), .val (.int x0), .val (.int x1), .val (.int x2)] [])) _
  refine own_by (fun _ kt => XS.iloadN X0.here hx rfl (hb hby d_method_4_code_21) rfl kt) ?_
  show own_Go p.tables e below (s₁.setTop (mkF m 22 #[.val (.ref a), .val (.int (3 : Int32)), .val (.int x0), .val (.int x1), .val (.int x2)] [(.int (3 : Int32))])) _
  refine own_by (fun _ kt => XS.iconst X0.here hx rfl (hb hby d_method_4_code_22) kt) ?_
  show own_Go p.tables e below (s₁.setTop (mkF m 23 #[.val (.ref a), .val (.int (3 : Int32)), .val (.int x0), .val (.int x1), .val (.int x2)] [(.int (1 : Int32)), (.int (3 : Int32))])) _
  refine own_by (fun _ kt => XS.icmpNo X0.here hx rfl (hb hby d_method_4_code_23) rfl (tlt (by decide : (1 : Int32) < (3 : Int32))).2.2.2 kt) ?_
  show own_Go p.tables e below (s₁.setTop (mkF m 26 #[.val (.ref a), .val (.int (3 : Int32)), .val (.int x0), .val (.int x1), .val (.int x2)] [])) _
  refine own_by (fun _ kt => XS.aloadN X0.here hx rfl (hb hby d_method_4_code_26) rfl rfl kt) ?_
  show own_Go p.tables e below (s₁.setTop (mkF m 27 #[.val (.ref a), .val (.int (3 : Int32)), .val (.int x0), .val (.int x1), .val (.int x2)] [(.ref a)])) _
  refine own_by (fun _ kt => XS.iconst X0.here hx rfl (hb hby d_method_4_code_27) kt) ?_
  show own_Go p.tables e below (s₁.setTop (mkF m 28 #[.val (.ref a), .val (.int (3 : Int32)), .val (.int x0), .val (.int x1), .val (.int x2)] [(.int (1 : Int32)), (.ref a)])) _
  refine own_by (own_baload X0 hx hZ e0 V_a (j := (1 : Int32)) (v := (.int y1)) ⟨by decide, by decide⟩ rfl (g := (mkF m 28 #[.val (.ref a), .val (.int (3 : Int32)), .val (.int x0), .val (.int x1), .val (.int x2)] [(.int (1 : Int32)), (.ref a)])) rfl rfl (hb hby d_method_4_code_28)) ?_
  show own_Go p.tables e below (s₁.setTop (mkF m 29 #[.val (.ref a), .val (.int (3 : Int32)), .val (.int x0), .val (.int x1), .val (.int x2)] [(.int y1)])) _
  refine own_by (fun _ kt => XS.iloadN X0.here hx rfl (hb hby d_method_4_code_29) rfl kt) ?_
  show own_Go p.tables e below (s₁.setTop (mkF m 30 #[.val (.ref a), .val (.int (3 : Int32)), .val (.int x0), .val (.int x1), .val (.int x2)] [(.int x1), (.int y1)])) _
  refine own_by (fun _ kt => XS.icmpYes X0.here hx rfl (pc0 := 30) (pc' := 35) rfl (hb hby d_method_4_code_30) rfl (teq (hy1 : y1 = x1)).1 (by decide) (by decide) kt) ?_
  show own_Go p.tables e below (s₁.setTop (mkF m 35 #[.val (.ref a), .val (.int (3 : Int32)), .val (.int x0), .val (.int x1), .val (.int x2)] [])) _
  refine own_by (fun _ kt => XS.iloadN X0.here hx rfl (hb hby d_method_4_code_35) rfl kt) ?_
  show own_Go p.tables e below (s₁.setTop (mkF m 36 #[.val (.ref a), .val (.int (3 : Int32)), .val (.int x0), .val (.int x1), .val (.int x2)] [(.int (3 : Int32))])) _
  refine own_by (fun _ kt => XS.iconst X0.here hx rfl (hb hby d_method_4_code_36) kt) ?_
  show own_Go p.tables e below (s₁.setTop (mkF m 37 #[.val (.ref a), .val (.int (3 : Int32)), .val (.int x0), .val (.int x1), .val (.int x2)] [(.int (2 : Int32)), (.int (3 : Int32))])) _
  refine own_by (fun _ kt => XS.icmpNo X0.here hx rfl (hb hby d_method_4_code_37) rfl (tlt (by decide : (2 : Int32) < (3 : Int32))).2.2.2 kt) ?_
  show own_Go p.tables e below (s₁.setTop (mkF m 40 #[.val (.ref a), .val (.int (3 : Int32)), .val (.int x0), .val (.int x1), .val (.int x2)] [])) _
  refine own_by (fun _ kt => XS.aloadN X0.here hx rfl (hb hby d_method_4_code_40) rfl rfl kt) ?_
  show own_Go p.tables e below (s₁.setTop (mkF m 41 #[.val (.ref a), .val (.int (3 : Int32)), .val (.int x0), .val (.int x1), .val (.int x2)] [(.ref a)])) _
  refine own_by (fun _ kt => XS.iconst X0.here hx rfl (hb hby d_method_4_code_41) kt) ?_
  show own_Go p.tables e below (s₁.setTop (mkF m 42 #[.val (.ref a), .val (.int (3 : Int32)), .val (.int x0), .val (.int x1), .val (.int x2)] [(.int (2 : Int32)), (.ref a)])) _
  refine own_by (own_baload X0 hx hZ e0 V_a (j := (2 : Int32)) (v := (.int y2)) ⟨by decide, by decide⟩ rfl (g := (mkF m 42 #[.val (.ref a), .val (.int (3 : Int32)), .val (.int x0), .val (.int x1), .val (.int x2)] [(.int (2 : Int32)), (.ref a)])) rfl rfl (hb hby d_method_4_code_42)) ?_
  show own_Go p.tables e below (s₁.setTop (mkF m 43 #[.val (.ref a), .val (.int (3 : Int32)), .val (.int x0), .val (.int x1), .val (.int x2)] [(.int y2)])) _
  refine own_by (fun _ kt => XS.iload X0.here hx rfl (hb hby d_method_4_code_43) rfl kt) ?_
  show own_Go p.tables e below (s₁.setTop (mkF m 45 #[.val (.ref a), .val (.int (3 : Int32)), .val (.int x0), .val (.int x1), .val (.int x2)] [(.int x2), (.int y2)])) _
  refine own_by (fun _ kt => XS.icmpYes X0.here hx rfl (pc0 := 45) (pc' := 50) rfl (hb hby d_method_4_code_45) rfl (teq (hy2 : y2 = x2)).1 (by decide) (by decide) kt) ?_
  show own_Go p.tables e below (s₁.setTop (mkF m 50 #[.val (.ref a), .val (.int (3 : Int32)), .val (.int x0), .val (.int x1), .val (.int x2)] [])) _
  refine own_by (fun _ kt => XS.iconst X0.here hx rfl (hb hby d_method_4_code_50) kt) ?_
  show own_Go p.tables e below (s₁.setTop (mkF m 51 #[.val (.ref a), .val (.int (3 : Int32)), .val (.int x0), .val (.int x1), .val (.int x2)] [(.int (1 : Int32))])) _
  exact own_retN X0 hx (t := .boolean) Bd.returns hlk (by simp) (hb hby d_method_4_code_51) ⟨rfl, N0, e0⟩ (by decide) (by decide)
theorem pd_4 : parseMethodDescriptor "(C)Ljava/lang/String;" = some ⟨[.char], some (.object "java/lang/String")⟩ := by decide +kernel
theorem pd_5 : parseMethodDescriptor "(Ljava/lang/String;[BLjava/lang/String;[B)V" = some ⟨[(.object "java/lang/String"), (.array .byte), (.object "java/lang/String"), (.array .byte)], none⟩ := by decide +kernel
theorem pd_6 : parseMethodDescriptor "()[B" = some ⟨[], some (.array .byte)⟩ := by decide +kernel
theorem pd_7 : parseMethodDescriptor "([BI)V" = some ⟨[(.array .byte), .int], none⟩ := by decide +kernel
theorem pd_8 : parseMethodDescriptor "([BIBBB)Z" = some ⟨[(.array .byte), .int, .byte, .byte, .byte], some .boolean⟩ := by decide +kernel
theorem ef_18 (m : MethodId) (p0 : Int32) (p1 : Int32) (p2 : Int32) (p3 : Int32) : entryFrame m #[(.int p0), (.int p1), (.int p2), (.int p3)] maxLocals = mkF m 0 #[.val (.int p0), .val (.int p1), .val (.int p2), .val (.int p3), .unset, .unset, .unset, .unset, .unset, .unset, .unset, .unset, .unset, .unset] [] := by first | (simp [entryFrame, mkF, argsToLocals, Value.category, maxLocals]; done) | rfl
def Q_rm_law (Z : State) (p0 : Int32) (p1 : Int32) (p2 : Int32) (p3 : Int32) (cs : Int32) (h0 : Heap) (n0 : Nat) (v : Option Value) (h : Heap) (L : List Loc) : Prop := v = some (.int (1 : Int32)) ∧ Fr n0 L
set_option maxRecDepth 65536 in
set_option maxHeartbeats 40000000 in
theorem rm_law (l : Launch) (Z : State) (a0 : Array Value) (hw : ∀ d ∈ tables_1, d.before a0 Z = true) (ws : List Jvm.Cond) (p0 : Int32) (p1 : Int32) (p2 : Int32) (p3 : Int32) (cs : Int32) (h0 : Heap) (n0 : Nat) (Z0 : n0 ≤ h0.size) (S_CS : Sta Z h0 "java/lang/String" "COMPACT_STRINGS" "Z" (.int cs)) (hcs : ¬ cs = (0 : Int32)) :
    MetFree l x (head1 (Jvm.Cond.code x code maxLocals ret :: ws) room_1) (fun av_ U => av_ = #[(.int p0), (.int p1), (.int p2), (.int p3)] ∧ Z.Warmed39 U.vm ∧ U.heap = h0) (fun _ _ _ _ _ => True) (fun _ U o U' => ∃ v L, o = .returned v ∧ Q_rm_law Z p0 p1 p2 p3 cs h0 n0 v U'.heap L ∧ FrameEnd U o U' L 32 128) := by
  refine MetFree.of_bodySF (plainFor_of_name pn_4) hisR ?_
  intro p e s m args below meth c s₁ Bd hml0 hP hK
  obtain ⟨rfl, hZ, hh⟩ := hP
  have hx := Bd.exec
  have hby := Bd.bytes
  have hml : c.maxLocals = 14 := hml0
  have hown : s.vm.findClass "com/example/relampago/relampago/lcp/CallParamsPinLaw" = some m.cls := findClass_of_methodNamed Bd.named
  have hnm := (name_of_methodNamed Bd.named Bd.method).1
  have hlk : meth.locks = false := BodyLoose.notSynchronized Bd
  have X0 : Stand p l e room_1 s m #[(.int p0), (.int p1), (.int p2), (.int p3)] below meth c s₁ [] 0 0 := Stand.of_body Bd
  have e0 : s₁.heap = h0 := by rw [← hh, Bd.state]; rfl
  have N0 := Fr.nil n0
  refine own_by (fun _ kt => castTop (ef_18 m p0 p1 p2 p3) kt) (R := own_R s (Q_rm_law Z p0 p1 p2 p3 cs h0 n0) 32 128) ?_
  show own_Go p.tables e below (s₁.setTop (mkF m 0 #[.val (.int p0), .val (.int p1), .val (.int p2), .val (.int p3), .unset, .unset, .unset, .unset, .unset, .unset, .unset, .unset, .unset, .unset] [])) _
  refine own_by (fun _ kt => XS.iloadN X0.here hx rfl (hb hby at_0) rfl kt) ?_
  show own_Go p.tables e below (s₁.setTop (mkF m 1 #[.val (.int p0), .val (.int p1), .val (.int p2), .val (.int p3), .unset, .unset, .unset, .unset, .unset, .unset, .unset, .unset, .unset, .unset] [(.int p3)])) _
  refine own_by (fun _ kt => XS.iconst X0.here hx rfl (hb hby at_1) kt) ?_
  show own_Go p.tables e below (s₁.setTop (mkF m 2 #[.val (.int p0), .val (.int p1), .val (.int p2), .val (.int p3), .unset, .unset, .unset, .unset, .unset, .unset, .unset, .unset, .unset, .unset] [(.int (3 : Int32)), (.int p3)])) _
  refine own_by (fun _ kt => XS.iand X0.here hx rfl (hb hby at_2) rfl kt) ?_
  show own_Go p.tables e below (s₁.setTop (mkF m 3 #[.val (.int p0), .val (.int p1), .val (.int p2), .val (.int p3), .unset, .unset, .unset, .unset, .unset, .unset, .unset, .unset, .unset, .unset] [(.int (p3 &&& (3 : Int32)))])) _
  by_cases hc3_1 : (p3 &&& (3 : Int32)) = (0 : Int32)
  · refine own_by (fun _ kt => XS.ifNo X0.here hx rfl (hb hby at_3) rfl ((if0 _ _).trans (teq hc3_1).2) kt) ?_
    show own_Go p.tables e below (s₁.setTop (mkF m 6 #[.val (.int p0), .val (.int p1), .val (.int p2), .val (.int p3), .unset, .unset, .unset, .unset, .unset, .unset, .unset, .unset, .unset, .unset] [])) _
    refine own_by (fun _ kt => XS.iconst X0.here hx rfl (hb hby at_6) kt) ?_
    show own_Go p.tables e below (s₁.setTop (mkF m 7 #[.val (.int p0), .val (.int p1), .val (.int p2), .val (.int p3), .unset, .unset, .unset, .unset, .unset, .unset, .unset, .unset, .unset, .unset] [(.int (1 : Int32))])) _
    refine own_by (fun _ kt => XS.goto X0.here hx rfl (pc0 := 7) (pc' := 11) rfl (hb hby at_7) (by decide) (by decide) kt) ?_
    show own_Go p.tables e below (s₁.setTop (mkF m 11 #[.val (.int p0), .val (.int p1), .val (.int p2), .val (.int p3), .unset, .unset, .unset, .unset, .unset, .unset, .unset, .unset, .unset, .unset] [(.int (1 : Int32))])) _
    refine own_by (fun _ kt => XS.istore X0.here hx rfl (hb hby at_11) rfl (l' := #[.val (.int p0), .val (.int p1), .val (.int p2), .val (.int p3), .val (.int (1 : Int32)), .unset, .unset, .unset, .unset, .unset, .unset, .unset, .unset, .unset]) rfl kt) ?_
    show own_Go p.tables e below (s₁.setTop (mkF m 13 #[.val (.int p0), .val (.int p1), .val (.int p2), .val (.int p3), .val (.int (1 : Int32)), .unset, .unset, .unset, .unset, .unset, .unset, .unset, .unset, .unset] [])) _
    refine own_by (fun _ kt => XS.iloadN X0.here hx rfl (hb hby at_13) rfl kt) ?_
    show own_Go p.tables e below (s₁.setTop (mkF m 14 #[.val (.int p0), .val (.int p1), .val (.int p2), .val (.int p3), .val (.int (1 : Int32)), .unset, .unset, .unset, .unset, .unset, .unset, .unset, .unset, .unset] [(.int p3)])) _
    refine own_by (fun _ kt => XS.iconst X0.here hx rfl (hb hby at_14) kt) ?_
    show own_Go p.tables e below (s₁.setTop (mkF m 15 #[.val (.int p0), .val (.int p1), .val (.int p2), .val (.int p3), .val (.int (1 : Int32)), .unset, .unset, .unset, .unset, .unset, .unset, .unset, .unset, .unset] [(.int (2 : Int32)), (.int p3)])) _
    refine own_by (fun _ kt => XS.iushr X0.here hx rfl (hb hby at_15) rfl kt) ?_
    show own_Go p.tables e below (s₁.setTop (mkF m 16 #[.val (.int p0), .val (.int p1), .val (.int p2), .val (.int p3), .val (.int (1 : Int32)), .unset, .unset, .unset, .unset, .unset, .unset, .unset, .unset, .unset] [(.int ((p3.toUInt32 >>> ((2 : Int32) &&& 31).toUInt32).toInt32))])) _
    refine own_by (fun _ kt => XS.iconst X0.here hx rfl (hb hby at_16) kt) ?_
    show own_Go p.tables e below (s₁.setTop (mkF m 17 #[.val (.int p0), .val (.int p1), .val (.int p2), .val (.int p3), .val (.int (1 : Int32)), .unset, .unset, .unset, .unset, .unset, .unset, .unset, .unset, .unset] [(.int (3 : Int32)), (.int ((p3.toUInt32 >>> ((2 : Int32) &&& 31).toUInt32).toInt32))])) _
    refine own_by (fun _ kt => XS.iand X0.here hx rfl (hb hby at_17) rfl kt) ?_
    show own_Go p.tables e below (s₁.setTop (mkF m 18 #[.val (.int p0), .val (.int p1), .val (.int p2), .val (.int p3), .val (.int (1 : Int32)), .unset, .unset, .unset, .unset, .unset, .unset, .unset, .unset, .unset] [(.int (((p3.toUInt32 >>> ((2 : Int32) &&& 31).toUInt32).toInt32) &&& (3 : Int32)))])) _
    refine own_by (fun _ kt => XS.istore X0.here hx rfl (hb hby at_18) rfl (l' := #[.val (.int p0), .val (.int p1), .val (.int p2), .val (.int p3), .val (.int (1 : Int32)), .val (.int (((p3.toUInt32 >>> ((2 : Int32) &&& 31).toUInt32).toInt32) &&& (3 : Int32))), .unset, .unset, .unset, .unset, .unset, .unset, .unset, .unset]) rfl kt) ?_
    show own_Go p.tables e below (s₁.setTop (mkF m 20 #[.val (.int p0), .val (.int p1), .val (.int p2), .val (.int p3), .val (.int (1 : Int32)), .val (.int (((p3.toUInt32 >>> ((2 : Int32) &&& 31).toUInt32).toInt32) &&& (3 : Int32))), .unset, .unset, .unset, .unset, .unset, .unset, .unset, .unset] [])) _
    refine own_by (fun _ kt => XS.iloadN X0.here hx rfl (hb hby at_20) rfl kt) ?_
    show own_Go p.tables e below (s₁.setTop (mkF m 21 #[.val (.int p0), .val (.int p1), .val (.int p2), .val (.int p3), .val (.int (1 : Int32)), .val (.int (((p3.toUInt32 >>> ((2 : Int32) &&& 31).toUInt32).toInt32) &&& (3 : Int32))), .unset, .unset, .unset, .unset, .unset, .unset, .unset, .unset] [(.int p0)])) _
    refine own_by (fun _ kt => XS.i2b X0.here hx rfl (hb hby at_21) rfl kt) ?_
    show own_Go p.tables e below (s₁.setTop (mkF m 22 #[.val (.int p0), .val (.int p1), .val (.int p2), .val (.int p3), .val (.int (1 : Int32)), .val (.int (((p3.toUInt32 >>> ((2 : Int32) &&& 31).toUInt32).toInt32) &&& (3 : Int32))), .unset, .unset, .unset, .unset, .unset, .unset, .unset, .unset] [(.int (p0.toInt8.toInt32))])) _
    refine own_by (fun _ kt => XS.istore X0.here hx rfl (hb hby at_22) rfl (l' := #[.val (.int p0), .val (.int p1), .val (.int p2), .val (.int p3), .val (.int (1 : Int32)), .val (.int (((p3.toUInt32 >>> ((2 : Int32) &&& 31).toUInt32).toInt32) &&& (3 : Int32))), .val (.int (p0.toInt8.toInt32)), .unset, .unset, .unset, .unset, .unset, .unset, .unset]) rfl kt) ?_
    show own_Go p.tables e below (s₁.setTop (mkF m 24 #[.val (.int p0), .val (.int p1), .val (.int p2), .val (.int p3), .val (.int (1 : Int32)), .val (.int (((p3.toUInt32 >>> ((2 : Int32) &&& 31).toUInt32).toInt32) &&& (3 : Int32))), .val (.int (p0.toInt8.toInt32)), .unset, .unset, .unset, .unset, .unset, .unset, .unset] [])) _
    refine own_by (fun _ kt => XS.iloadN X0.here hx rfl (hb hby at_24) rfl kt) ?_
    show own_Go p.tables e below (s₁.setTop (mkF m 25 #[.val (.int p0), .val (.int p1), .val (.int p2), .val (.int p3), .val (.int (1 : Int32)), .val (.int (((p3.toUInt32 >>> ((2 : Int32) &&& 31).toUInt32).toInt32) &&& (3 : Int32))), .val (.int (p0.toInt8.toInt32)), .unset, .unset, .unset, .unset, .unset, .unset, .unset] [(.int p1)])) _
    refine own_by (fun _ kt => XS.i2b X0.here hx rfl (hb hby at_25) rfl kt) ?_
    show own_Go p.tables e below (s₁.setTop (mkF m 26 #[.val (.int p0), .val (.int p1), .val (.int p2), .val (.int p3), .val (.int (1 : Int32)), .val (.int (((p3.toUInt32 >>> ((2 : Int32) &&& 31).toUInt32).toInt32) &&& (3 : Int32))), .val (.int (p0.toInt8.toInt32)), .unset, .unset, .unset, .unset, .unset, .unset, .unset] [(.int (p1.toInt8.toInt32))])) _
    refine own_by (fun _ kt => XS.istore X0.here hx rfl (hb hby at_26) rfl (l' := #[.val (.int p0), .val (.int p1), .val (.int p2), .val (.int p3), .val (.int (1 : Int32)), .val (.int (((p3.toUInt32 >>> ((2 : Int32) &&& 31).toUInt32).toInt32) &&& (3 : Int32))), .val (.int (p0.toInt8.toInt32)), .val (.int (p1.toInt8.toInt32)), .unset, .unset, .unset, .unset, .unset, .unset]) rfl kt) ?_
    show own_Go p.tables e below (s₁.setTop (mkF m 28 #[.val (.int p0), .val (.int p1), .val (.int p2), .val (.int p3), .val (.int (1 : Int32)), .val (.int (((p3.toUInt32 >>> ((2 : Int32) &&& 31).toUInt32).toInt32) &&& (3 : Int32))), .val (.int (p0.toInt8.toInt32)), .val (.int (p1.toInt8.toInt32)), .unset, .unset, .unset, .unset, .unset, .unset] [])) _
    refine own_by (fun _ kt => XS.iloadN X0.here hx rfl (hb hby at_28) rfl kt) ?_
    show own_Go p.tables e below (s₁.setTop (mkF m 29 #[.val (.int p0), .val (.int p1), .val (.int p2), .val (.int p3), .val (.int (1 : Int32)), .val (.int (((p3.toUInt32 >>> ((2 : Int32) &&& 31).toUInt32).toInt32) &&& (3 : Int32))), .val (.int (p0.toInt8.toInt32)), .val (.int (p1.toInt8.toInt32)), .unset, .unset, .unset, .unset, .unset, .unset] [(.int p2)])) _
    refine own_by (fun _ kt => XS.i2b X0.here hx rfl (hb hby at_29) rfl kt) ?_
    show own_Go p.tables e below (s₁.setTop (mkF m 30 #[.val (.int p0), .val (.int p1), .val (.int p2), .val (.int p3), .val (.int (1 : Int32)), .val (.int (((p3.toUInt32 >>> ((2 : Int32) &&& 31).toUInt32).toInt32) &&& (3 : Int32))), .val (.int (p0.toInt8.toInt32)), .val (.int (p1.toInt8.toInt32)), .unset, .unset, .unset, .unset, .unset, .unset] [(.int (p2.toInt8.toInt32))])) _
    refine own_by (fun _ kt => XS.istore X0.here hx rfl (hb hby at_30) rfl (l' := #[.val (.int p0), .val (.int p1), .val (.int p2), .val (.int p3), .val (.int (1 : Int32)), .val (.int (((p3.toUInt32 >>> ((2 : Int32) &&& 31).toUInt32).toInt32) &&& (3 : Int32))), .val (.int (p0.toInt8.toInt32)), .val (.int (p1.toInt8.toInt32)), .val (.int (p2.toInt8.toInt32)), .unset, .unset, .unset, .unset, .unset]) rfl kt) ?_
    show own_Go p.tables e below (s₁.setTop (mkF m 32 #[.val (.int p0), .val (.int p1), .val (.int p2), .val (.int p3), .val (.int (1 : Int32)), .val (.int (((p3.toUInt32 >>> ((2 : Int32) &&& 31).toUInt32).toInt32) &&& (3 : Int32))), .val (.int (p0.toInt8.toInt32)), .val (.int (p1.toInt8.toInt32)), .val (.int (p2.toInt8.toInt32)), .unset, .unset, .unset, .unset, .unset] [])) _
    refine own_by (fun _ kt => XS.aconstNull X0.here hx rfl (hb hby at_32) kt) ?_
    show own_Go p.tables e below (s₁.setTop (mkF m 33 #[.val (.int p0), .val (.int p1), .val (.int p2), .val (.int p3), .val (.int (1 : Int32)), .val (.int (((p3.toUInt32 >>> ((2 : Int32) &&& 31).toUInt32).toInt32) &&& (3 : Int32))), .val (.int (p0.toInt8.toInt32)), .val (.int (p1.toInt8.toInt32)), .val (.int (p2.toInt8.toInt32)), .unset, .unset, .unset, .unset, .unset] [.null])) _
    refine own_by (fun _ kt => XS.astore X0.here hx rfl (hb hby at_33) rfl rfl (l' := #[.val (.int p0), .val (.int p1), .val (.int p2), .val (.int p3), .val (.int (1 : Int32)), .val (.int (((p3.toUInt32 >>> ((2 : Int32) &&& 31).toUInt32).toInt32) &&& (3 : Int32))), .val (.int (p0.toInt8.toInt32)), .val (.int (p1.toInt8.toInt32)), .val (.int (p2.toInt8.toInt32)), .val .null, .unset, .unset, .unset, .unset]) rfl kt) ?_
    show own_Go p.tables e below (s₁.setTop (mkF m 35 #[.val (.int p0), .val (.int p1), .val (.int p2), .val (.int p3), .val (.int (1 : Int32)), .val (.int (((p3.toUInt32 >>> ((2 : Int32) &&& 31).toUInt32).toInt32) &&& (3 : Int32))), .val (.int (p0.toInt8.toInt32)), .val (.int (p1.toInt8.toInt32)), .val (.int (p2.toInt8.toInt32)), .val .null, .unset, .unset, .unset, .unset] [])) _
    refine own_by (fun _ kt => XS.iload X0.here hx rfl (hb hby at_35) rfl kt) ?_
    show own_Go p.tables e below (s₁.setTop (mkF m 37 #[.val (.int p0), .val (.int p1), .val (.int p2), .val (.int p3), .val (.int (1 : Int32)), .val (.int (((p3.toUInt32 >>> ((2 : Int32) &&& 31).toUInt32).toInt32) &&& (3 : Int32))), .val (.int (p0.toInt8.toInt32)), .val (.int (p1.toInt8.toInt32)), .val (.int (p2.toInt8.toInt32)), .val .null, .unset, .unset, .unset, .unset] [(.int (1 : Int32))])) _
    refine own_by (fun _ kt => XS.ifYes X0.here hx rfl (pc0 := 37) (pc' := 81) rfl (hb hby at_37) rfl ((if0 _ _).trans (feq (by decide : ¬ ((1 : Int32) = (0 : Int32)))).2) (by decide) (by decide) kt) ?_
    show own_Go p.tables e below (s₁.setTop (mkF m 81 #[.val (.int p0), .val (.int p1), .val (.int p2), .val (.int p3), .val (.int (1 : Int32)), .val (.int (((p3.toUInt32 >>> ((2 : Int32) &&& 31).toUInt32).toInt32) &&& (3 : Int32))), .val (.int (p0.toInt8.toInt32)), .val (.int (p1.toInt8.toInt32)), .val (.int (p2.toInt8.toInt32)), .val .null, .unset, .unset, .unset, .unset] [])) _
    refine own_by (fun _ kt => XS.iconst X0.here hx rfl (hb hby at_81) kt) ?_
    show own_Go p.tables e below (s₁.setTop (mkF m 82 #[.val (.int p0), .val (.int p1), .val (.int p2), .val (.int p3), .val (.int (1 : Int32)), .val (.int (((p3.toUInt32 >>> ((2 : Int32) &&& 31).toUInt32).toInt32) &&& (3 : Int32))), .val (.int (p0.toInt8.toInt32)), .val (.int (p1.toInt8.toInt32)), .val (.int (p2.toInt8.toInt32)), .val .null, .unset, .unset, .unset, .unset] [(.int (1 : Int32))])) _
    obtain ⟨T2, h2, k2, X2, e2, E2, A2, Ea2, st2⟩ := newPE X0 hx hZ (hw _ (List.mem_of_getElem? (i := 0) rfl)) e0 (g := (mkF m 82 #[.val (.int p0), .val (.int p1), .val (.int p2), .val (.int p3), .val (.int (1 : Int32)), .val (.int (((p3.toUInt32 >>> ((2 : Int32) &&& 31).toUInt32).toInt32) &&& (3 : Int32))), .val (.int (p0.toInt8.toInt32)), .val (.int (p1.toInt8.toInt32)), .val (.int (p2.toInt8.toInt32)), .val .null, .unset, .unset, .unset, .unset] [(.int (1 : Int32))])) rfl (hb hby at_82) rfl (by decide) (cap := 1) (by decide) (by decide) (by decide) (by decide) (ad := "[B") (by decide)
    obtain ⟨b2, g2⟩ : ∃ z, z = h0.size := ⟨_, rfl⟩
    rw [← g2] at A2 Ea2 st2
    have gn_b2 : n0 ≤ b2 := Nat.le_trans Z0 (Nat.le_of_eq g2.symm)
    have f3 := S_CS.ext E2
    have Zs2 : n0 ≤ h2.size := Nat.le_trans Z0 E2.1
    have f4 : Arv Z h2 b2 k2 .byte (1 : Int32) [(.int (0 : Int32))] (.int (0 : Int32)) := (Arv.new A2 (by decide)).pad (pad_rep [] (.int (0 : Int32)) 1)
    refine own_by st2 ?_
    show own_Go p.tables e below (T2.setTop (mkF m 84 #[.val (.int p0), .val (.int p1), .val (.int p2), .val (.int p3), .val (.int (1 : Int32)), .val (.int (((p3.toUInt32 >>> ((2 : Int32) &&& 31).toUInt32).toInt32) &&& (3 : Int32))), .val (.int (p0.toInt8.toInt32)), .val (.int (p1.toInt8.toInt32)), .val (.int (p2.toInt8.toInt32)), .val .null, .unset, .unset, .unset, .unset] [(.ref b2)])) _
    refine own_by (fun _ kt => XS.astore X2.here hx rfl (hb hby at_84) rfl rfl (l' := #[.val (.int p0), .val (.int p1), .val (.int p2), .val (.int p3), .val (.int (1 : Int32)), .val (.int (((p3.toUInt32 >>> ((2 : Int32) &&& 31).toUInt32).toInt32) &&& (3 : Int32))), .val (.int (p0.toInt8.toInt32)), .val (.int (p1.toInt8.toInt32)), .val (.int (p2.toInt8.toInt32)), .val .null, .val (.ref b2), .unset, .unset, .unset]) rfl kt) ?_
    show own_Go p.tables e below (T2.setTop (mkF m 86 #[.val (.int p0), .val (.int p1), .val (.int p2), .val (.int p3), .val (.int (1 : Int32)), .val (.int (((p3.toUInt32 >>> ((2 : Int32) &&& 31).toUInt32).toInt32) &&& (3 : Int32))), .val (.int (p0.toInt8.toInt32)), .val (.int (p1.toInt8.toInt32)), .val (.int (p2.toInt8.toInt32)), .val .null, .val (.ref b2), .unset, .unset, .unset] [])) _
    refine own_by (fun _ kt => XS.aload X2.here hx rfl (hb hby at_86) rfl rfl kt) ?_
    show own_Go p.tables e below (T2.setTop (mkF m 88 #[.val (.int p0), .val (.int p1), .val (.int p2), .val (.int p3), .val (.int (1 : Int32)), .val (.int (((p3.toUInt32 >>> ((2 : Int32) &&& 31).toUInt32).toInt32) &&& (3 : Int32))), .val (.int (p0.toInt8.toInt32)), .val (.int (p1.toInt8.toInt32)), .val (.int (p2.toInt8.toInt32)), .val .null, .val (.ref b2), .unset, .unset, .unset] [(.ref b2)])) _
    refine own_by (fun _ kt => XS.iconst X2.here hx rfl (hb hby at_88) kt) ?_
    show own_Go p.tables e below (T2.setTop (mkF m 89 #[.val (.int p0), .val (.int p1), .val (.int p2), .val (.int p3), .val (.int (1 : Int32)), .val (.int (((p3.toUInt32 >>> ((2 : Int32) &&& 31).toUInt32).toInt32) &&& (3 : Int32))), .val (.int (p0.toInt8.toInt32)), .val (.int (p1.toInt8.toInt32)), .val (.int (p2.toInt8.toInt32)), .val .null, .val (.ref b2), .unset, .unset, .unset] [(.int (0 : Int32)), (.ref b2)])) _
    refine own_by (fun _ kt => XS.iloadN X2.here hx rfl (hb hby at_89) rfl kt) ?_
    show own_Go p.tables e below (T2.setTop (mkF m 90 #[.val (.int p0), .val (.int p1), .val (.int p2), .val (.int p3), .val (.int (1 : Int32)), .val (.int (((p3.toUInt32 >>> ((2 : Int32) &&& 31).toUInt32).toInt32) &&& (3 : Int32))), .val (.int (p0.toInt8.toInt32)), .val (.int (p1.toInt8.toInt32)), .val (.int (p2.toInt8.toInt32)), .val .null, .val (.ref b2), .unset, .unset, .unset] [(.int p0), (.int (0 : Int32)), (.ref b2)])) _
    refine own_by (fun _ kt => XS.bipush X2.here hx rfl (hb hby at_90) kt) ?_
    show own_Go p.tables e below (T2.setTop (mkF m 92 #[.val (.int p0), .val (.int p1), .val (.int p2), .val (.int p3), .val (.int (1 : Int32)), .val (.int (((p3.toUInt32 >>> ((2 : Int32) &&& 31).toUInt32).toInt32) &&& (3 : Int32))), .val (.int (p0.toInt8.toInt32)), .val (.int (p1.toInt8.toInt32)), .val (.int (p2.toInt8.toInt32)), .val .null, .val (.ref b2), .unset, .unset, .unset] [(.int (8 : Int32)), (.int p0), (.int (0 : Int32)), (.ref b2)])) _
    refine own_by (fun _ kt => XS.iushr X2.here hx rfl (hb hby at_92) rfl kt) ?_
    show own_Go p.tables e below (T2.setTop (mkF m 93 #[.val (.int p0), .val (.int p1), .val (.int p2), .val (.int p3), .val (.int (1 : Int32)), .val (.int (((p3.toUInt32 >>> ((2 : Int32) &&& 31).toUInt32).toInt32) &&& (3 : Int32))), .val (.int (p0.toInt8.toInt32)), .val (.int (p1.toInt8.toInt32)), .val (.int (p2.toInt8.toInt32)), .val .null, .val (.ref b2), .unset, .unset, .unset] [(.int ((p0.toUInt32 >>> ((8 : Int32) &&& 31).toUInt32).toInt32)), (.int (0 : Int32)), (.ref b2)])) _
    refine own_by (fun _ kt => XS.i2b X2.here hx rfl (hb hby at_93) rfl kt) ?_
    show own_Go p.tables e below (T2.setTop (mkF m 94 #[.val (.int p0), .val (.int p1), .val (.int p2), .val (.int p3), .val (.int (1 : Int32)), .val (.int (((p3.toUInt32 >>> ((2 : Int32) &&& 31).toUInt32).toInt32) &&& (3 : Int32))), .val (.int (p0.toInt8.toInt32)), .val (.int (p1.toInt8.toInt32)), .val (.int (p2.toInt8.toInt32)), .val .null, .val (.ref b2), .unset, .unset, .unset] [(.int (((p0.toUInt32 >>> ((8 : Int32) &&& 31).toUInt32).toInt32).toInt8.toInt32)), (.int (0 : Int32)), (.ref b2)])) _
    obtain ⟨cl5, Ar5, q5, S5, M5, H5, G5⟩ := f4
    obtain ⟨T5, h5, X5, e5, W5, st5⟩ := stB X2 hx hZ e2 Ar5 (j := (0 : Int32)) (inb_of S5 ⟨by decide, by decide⟩) (g := (mkF m 94 #[.val (.int p0), .val (.int p1), .val (.int p2), .val (.int p3), .val (.int (1 : Int32)), .val (.int (((p3.toUInt32 >>> ((2 : Int32) &&& 31).toUInt32).toInt32) &&& (3 : Int32))), .val (.int (p0.toInt8.toInt32)), .val (.int (p1.toInt8.toInt32)), .val (.int (p2.toInt8.toInt32)), .val .null, .val (.ref b2), .unset, .unset, .unset] [(.int (((p0.toUInt32 >>> ((8 : Int32) &&& 31).toUInt32).toInt32).toInt8.toInt32)), (.int (0 : Int32)), (.ref b2)])) rfl rfl (hb hby at_94)
    have f6 : Arv Z h5 b2 k2 .byte (1 : Int32) [(.int (nar .byte (((p0.toUInt32 >>> ((8 : Int32) &&& 31).toUInt32).toInt32).toInt8.toInt32)))] (.int (0 : Int32)) := Arv.set Ar5 q5 S5 M5 H5 G5 (fits_nar_byte _) W5 0 rfl (Nat.le_of_ble_eq_true rfl)
    have f7 := f3.wr W5
    have f8 := Ea2.wr W5
    have Zs5 : n0 ≤ h5.size := by rw [W5.size]; exact Zs2
    have N5 := Fr.snoc X5 N0 gn_b2
    refine own_by st5 ?_
    show own_Go p.tables e below (T5.setTop (mkF m 95 #[.val (.int p0), .val (.int p1), .val (.int p2), .val (.int p3), .val (.int (1 : Int32)), .val (.int (((p3.toUInt32 >>> ((2 : Int32) &&& 31).toUInt32).toInt32) &&& (3 : Int32))), .val (.int (p0.toInt8.toInt32)), .val (.int (p1.toInt8.toInt32)), .val (.int (p2.toInt8.toInt32)), .val .null, .val (.ref b2), .unset, .unset, .unset] [])) _
    obtain ⟨T9, h9, X9, e9, E9, A9, D9, -, st9⟩ := newO X5 hx hZ hown (hw _ (List.mem_of_getElem? (i := 1) rfl)) (hw _ (List.mem_of_getElem? (i := 2) rfl)) (hw _ (List.mem_of_getElem? (i := 3) rfl)) e5 (g := (mkF m 95 #[.val (.int p0), .val (.int p1), .val (.int p2), .val (.int p3), .val (.int (1 : Int32)), .val (.int (((p3.toUInt32 >>> ((2 : Int32) &&& 31).toUInt32).toInt32) &&& (3 : Int32))), .val (.int (p0.toInt8.toInt32)), .val (.int (p1.toInt8.toInt32)), .val (.int (p2.toInt8.toInt32)), .val .null, .val (.ref b2), .unset, .unset, .unset] [])) rfl (hb hby at_95) (by decide) (by decide)
    obtain ⟨b9, g9⟩ : ∃ z, z = h5.size := ⟨_, rfl⟩
    rw [← g9] at A9 D9 st9
    have gn_b9 : n0 ≤ b9 := Nat.le_trans Zs5 (Nat.le_of_eq g9.symm)
    have ne_b2_b9 : b2 ≠ b9 := Nat.ne_of_lt (Nat.lt_of_lt_of_le f6.lt (Nat.le_of_eq g9.symm))
    have f10 := f7.ext E9
    have f11 := f6.ext E9
    have f12 := f8.ext E9
    have Zs9 : n0 ≤ h9.size := Nat.le_trans Zs5 E9.1
    have f13 : Fld Z h9 b9 "com/example/relampago/relampago/lcp/Call" "method" "Ljava/lang/String;" .null := D9 (Or.inr (hw _ (List.mem_of_getElem? (i := 48) rfl))) (ty := (.object "java/lang/String")) (by decide)
    have f14 : Fld Z h9 b9 "com/example/relampago/relampago/lcp/Call" "request" "[B" .null := D9 (Or.inr (hw _ (List.mem_of_getElem? (i := 50) rfl))) (ty := (.array .byte)) (by decide)
    have f15 : Fld Z h9 b9 "com/example/relampago/relampago/lcp/Call" "requestContentType" "Ljava/lang/String;" .null := D9 (Or.inr (hw _ (List.mem_of_getElem? (i := 52) rfl))) (ty := (.object "java/lang/String")) (by decide)
    have f16 : Fld Z h9 b9 "com/example/relampago/relampago/lcp/Call" "params" "[B" .null := D9 (Or.inr (hw _ (List.mem_of_getElem? (i := 54) rfl))) (ty := (.array .byte)) (by decide)
    refine own_by st9 ?_
    show own_Go p.tables e below (T9.setTop (mkF m 98 #[.val (.int p0), .val (.int p1), .val (.int p2), .val (.int p3), .val (.int (1 : Int32)), .val (.int (((p3.toUInt32 >>> ((2 : Int32) &&& 31).toUInt32).toInt32) &&& (3 : Int32))), .val (.int (p0.toInt8.toInt32)), .val (.int (p1.toInt8.toInt32)), .val (.int (p2.toInt8.toInt32)), .val .null, .val (.ref b2), .unset, .unset, .unset] [(.ref b9)])) _
    refine own_by (fun _ kt => XS.dup X9.here hx rfl (hb hby at_98) rfl rfl kt) ?_
    show own_Go p.tables e below (T9.setTop (mkF m 99 #[.val (.int p0), .val (.int p1), .val (.int p2), .val (.int p3), .val (.int (1 : Int32)), .val (.int (((p3.toUInt32 >>> ((2 : Int32) &&& 31).toUInt32).toInt32) &&& (3 : Int32))), .val (.int (p0.toInt8.toInt32)), .val (.int (p1.toInt8.toInt32)), .val (.int (p2.toInt8.toInt32)), .val .null, .val (.ref b2), .unset, .unset, .unset] [(.ref b9), (.ref b9)])) _
    refine own_by (fun _ kt => XS.iloadN X9.here hx rfl (hb hby at_99) rfl kt) ?_
    show own_Go p.tables e below (T9.setTop (mkF m 100 #[.val (.int p0), .val (.int p1), .val (.int p2), .val (.int p3), .val (.int (1 : Int32)), .val (.int (((p3.toUInt32 >>> ((2 : Int32) &&& 31).toUInt32).toInt32) &&& (3 : Int32))), .val (.int (p0.toInt8.toInt32)), .val (.int (p1.toInt8.toInt32)), .val (.int (p2.toInt8.toInt32)), .val .null, .val (.ref b2), .unset, .unset, .unset] [(.int p1), (.ref b9), (.ref b9)])) _
    refine own_by (fun _ kt => XS.sipush X9.here hx rfl (hb hby at_100) kt) ?_
    show own_Go p.tables e below (T9.setTop (mkF m 103 #[.val (.int p0), .val (.int p1), .val (.int p2), .val (.int p3), .val (.int (1 : Int32)), .val (.int (((p3.toUInt32 >>> ((2 : Int32) &&& 31).toUInt32).toInt32) &&& (3 : Int32))), .val (.int (p0.toInt8.toInt32)), .val (.int (p1.toInt8.toInt32)), .val (.int (p2.toInt8.toInt32)), .val .null, .val (.ref b2), .unset, .unset, .unset] [(.int (255 : Int32)), (.int p1), (.ref b9), (.ref b9)])) _
    refine own_by (fun _ kt => XS.iand X9.here hx rfl (hb hby at_103) rfl kt) ?_
    show own_Go p.tables e below (T9.setTop (mkF m 104 #[.val (.int p0), .val (.int p1), .val (.int p2), .val (.int p3), .val (.int (1 : Int32)), .val (.int (((p3.toUInt32 >>> ((2 : Int32) &&& 31).toUInt32).toInt32) &&& (3 : Int32))), .val (.int (p0.toInt8.toInt32)), .val (.int (p1.toInt8.toInt32)), .val (.int (p2.toInt8.toInt32)), .val .null, .val (.ref b2), .unset, .unset, .unset] [(.int (p1 &&& (255 : Int32))), (.ref b9), (.ref b9)])) _
    refine own_by (fun _ kt => XS.i2c X9.here hx rfl (hb hby at_104) rfl kt) ?_
    show own_Go p.tables e below (T9.setTop (mkF m 105 #[.val (.int p0), .val (.int p1), .val (.int p2), .val (.int p3), .val (.int (1 : Int32)), .val (.int (((p3.toUInt32 >>> ((2 : Int32) &&& 31).toUInt32).toInt32) &&& (3 : Int32))), .val (.int (p0.toInt8.toInt32)), .val (.int (p1.toInt8.toInt32)), .val (.int (p2.toInt8.toInt32)), .val .null, .val (.ref b2), .unset, .unset, .unset] [(.int ((p1 &&& (255 : Int32)).toUInt32.toUInt16.toUInt32.toInt32)), (.ref b9), (.ref b9)])) _
    obtain ⟨_, _, ⟨T17, L17, k17, n17⟩, -, X17, ⟨Lc17, hQ17, l17, y17, z17⟩, st17⟩ := Jvm.LawKit.callS X9 hx (y := (⟨"java/lang/String", "valueOf", "(C)Ljava/lang/String;"⟩ : MethodName)) hown (mvT hZ (hw _ (List.mem_of_getElem? (i := 4) rfl))) (mvT hZ (hw _ (List.mem_of_getElem? (i := 5) rfl))) (mvT hZ (hw _ (List.mem_of_getElem? (i := 6) rfl))) (mvT hZ (hw _ (List.mem_of_getElem? (i := 7) rfl))) (by decide) (backOf (W := 2) (rm_valueOf l Z a0 hw [] ((p1 &&& (255 : Int32)).toUInt32.toUInt16.toUInt32.toInt32) (cs) h9 n0 Zs9 f10 hcs (own_chr _)) hZ (hw _ (List.mem_of_getElem? (i := 7) rfl)) (hw _ (List.mem_of_getElem? (i := 6) rfl)) (by decide) (by decide)) (g := (mkF m 105 #[.val (.int p0), .val (.int p1), .val (.int p2), .val (.int p3), .val (.int (1 : Int32)), .val (.int (((p3.toUInt32 >>> ((2 : Int32) &&& 31).toUInt32).toInt32) &&& (3 : Int32))), .val (.int (p0.toInt8.toInt32)), .val (.int (p1.toInt8.toInt32)), .val (.int (p2.toInt8.toInt32)), .val .null, .val (.ref b2), .unset, .unset, .unset] [(.int ((p1 &&& (255 : Int32)).toUInt32.toUInt16.toUInt32.toInt32)), (.ref b9), (.ref b9)])) rfl (by rw [hml]; rfl) (argsL := [(.int ((p1 &&& (255 : Int32)).toUInt32.toUInt16.toUInt32.toInt32))]) (rest := [(.ref b9), (.ref b9)]) (lenOf pd_4 rfl) rfl (by show 2 * 0 + _ ≤ _; exact Nat.le_of_eq rfl) (hb hby at_105) (fun _ _ => ⟨rfl, e9, (by decide : 2 + 2 ≤ _), (by decide : 5 + 5 ≤ _)⟩)
    dsimp only [Pt.U, Pt.locs, Pt.cells, Pt.slots] at X17 l17 y17 z17 st17 hQ17
    subst l17 y17 z17
    obtain ⟨b17, rfl, Nq17, K17, gn_b17, szq_b17⟩ := hQ17
    have ne_b2_b17 : b2 ≠ b17 := Nat.ne_of_lt (Nat.lt_of_lt_of_le f11.lt szq_b17)
    have ne_b9_b17 : b9 ≠ b17 := Nat.ne_of_lt (Nat.lt_of_lt_of_le A9.lt szq_b17)
    have f18 := own_sta_keep f10 K17
    have f19 := f11.keep K17 List.not_mem_nil
    have f20 := f12.keep K17
    have f21 := A9.keep K17
    have f22 := f13.keep K17 List.not_mem_nil
    have f23 := f14.keep K17 List.not_mem_nil
    have f24 := f15.keep K17 List.not_mem_nil
    have f25 := f16.keep K17 List.not_mem_nil
    have Zs17 : n0 ≤ T17.heap.size := Nat.le_trans Zs9 K17.1
    have N17 := Fr.app N5 Nq17
    refine own_by (st17) ?_
    show own_Go p.tables e below (T17.setTop (mkF m 108 #[.val (.int p0), .val (.int p1), .val (.int p2), .val (.int p3), .val (.int (1 : Int32)), .val (.int (((p3.toUInt32 >>> ((2 : Int32) &&& 31).toUInt32).toInt32) &&& (3 : Int32))), .val (.int (p0.toInt8.toInt32)), .val (.int (p1.toInt8.toInt32)), .val (.int (p2.toInt8.toInt32)), .val .null, .val (.ref b2), .unset, .unset, .unset] [(.ref b17), (.ref b9), (.ref b9)])) _
    refine own_by (fun _ kt => XS.aload X17.here hx rfl (hb hby at_108) rfl rfl kt) ?_
    show own_Go p.tables e below (T17.setTop (mkF m 110 #[.val (.int p0), .val (.int p1), .val (.int p2), .val (.int p3), .val (.int (1 : Int32)), .val (.int (((p3.toUInt32 >>> ((2 : Int32) &&& 31).toUInt32).toInt32) &&& (3 : Int32))), .val (.int (p0.toInt8.toInt32)), .val (.int (p1.toInt8.toInt32)), .val (.int (p2.toInt8.toInt32)), .val .null, .val (.ref b2), .unset, .unset, .unset] [(.ref b2), (.ref b17), (.ref b9), (.ref b9)])) _
    refine own_by (fun _ kt => XS.iloadN X17.here hx rfl (hb hby at_110) rfl kt) ?_
    show own_Go p.tables e below (T17.setTop (mkF m 111 #[.val (.int p0), .val (.int p1), .val (.int p2), .val (.int p3), .val (.int (1 : Int32)), .val (.int (((p3.toUInt32 >>> ((2 : Int32) &&& 31).toUInt32).toInt32) &&& (3 : Int32))), .val (.int (p0.toInt8.toInt32)), .val (.int (p1.toInt8.toInt32)), .val (.int (p2.toInt8.toInt32)), .val .null, .val (.ref b2), .unset, .unset, .unset] [(.int p2), (.ref b2), (.ref b17), (.ref b9), (.ref b9)])) _
    refine own_by (fun _ kt => XS.sipush X17.here hx rfl (hb hby at_111) kt) ?_
    show own_Go p.tables e below (T17.setTop (mkF m 114 #[.val (.int p0), .val (.int p1), .val (.int p2), .val (.int p3), .val (.int (1 : Int32)), .val (.int (((p3.toUInt32 >>> ((2 : Int32) &&& 31).toUInt32).toInt32) &&& (3 : Int32))), .val (.int (p0.toInt8.toInt32)), .val (.int (p1.toInt8.toInt32)), .val (.int (p2.toInt8.toInt32)), .val .null, .val (.ref b2), .unset, .unset, .unset] [(.int (255 : Int32)), (.int p2), (.ref b2), (.ref b17), (.ref b9), (.ref b9)])) _
    refine own_by (fun _ kt => XS.iand X17.here hx rfl (hb hby at_114) rfl kt) ?_
    show own_Go p.tables e below (T17.setTop (mkF m 115 #[.val (.int p0), .val (.int p1), .val (.int p2), .val (.int p3), .val (.int (1 : Int32)), .val (.int (((p3.toUInt32 >>> ((2 : Int32) &&& 31).toUInt32).toInt32) &&& (3 : Int32))), .val (.int (p0.toInt8.toInt32)), .val (.int (p1.toInt8.toInt32)), .val (.int (p2.toInt8.toInt32)), .val .null, .val (.ref b2), .unset, .unset, .unset] [(.int (p2 &&& (255 : Int32))), (.ref b2), (.ref b17), (.ref b9), (.ref b9)])) _
    refine own_by (fun _ kt => XS.i2c X17.here hx rfl (hb hby at_115) rfl kt) ?_
    show own_Go p.tables e below (T17.setTop (mkF m 116 #[.val (.int p0), .val (.int p1), .val (.int p2), .val (.int p3), .val (.int (1 : Int32)), .val (.int (((p3.toUInt32 >>> ((2 : Int32) &&& 31).toUInt32).toInt32) &&& (3 : Int32))), .val (.int (p0.toInt8.toInt32)), .val (.int (p1.toInt8.toInt32)), .val (.int (p2.toInt8.toInt32)), .val .null, .val (.ref b2), .unset, .unset, .unset] [(.int ((p2 &&& (255 : Int32)).toUInt32.toUInt16.toUInt32.toInt32)), (.ref b2), (.ref b17), (.ref b9), (.ref b9)])) _
    obtain ⟨_, _, ⟨T26, L26, k26, n26⟩, -, X26, ⟨Lc26, hQ26, l26, y26, z26⟩, st26⟩ := Jvm.LawKit.callS X17 hx (y := (⟨"java/lang/String", "valueOf", "(C)Ljava/lang/String;"⟩ : MethodName)) hown (mvT hZ (hw _ (List.mem_of_getElem? (i := 4) rfl))) (mvT hZ (hw _ (List.mem_of_getElem? (i := 5) rfl))) (mvT hZ (hw _ (List.mem_of_getElem? (i := 6) rfl))) (mvT hZ (hw _ (List.mem_of_getElem? (i := 7) rfl))) (by decide) (backOf (W := 4) (rm_valueOf l Z a0 hw [] ((p2 &&& (255 : Int32)).toUInt32.toUInt16.toUInt32.toInt32) (cs) T17.heap n0 Zs17 f18 hcs (own_chr _)) hZ (hw _ (List.mem_of_getElem? (i := 7) rfl)) (hw _ (List.mem_of_getElem? (i := 6) rfl)) (by decide) (by decide)) (g := (mkF m 116 #[.val (.int p0), .val (.int p1), .val (.int p2), .val (.int p3), .val (.int (1 : Int32)), .val (.int (((p3.toUInt32 >>> ((2 : Int32) &&& 31).toUInt32).toInt32) &&& (3 : Int32))), .val (.int (p0.toInt8.toInt32)), .val (.int (p1.toInt8.toInt32)), .val (.int (p2.toInt8.toInt32)), .val .null, .val (.ref b2), .unset, .unset, .unset] [(.int ((p2 &&& (255 : Int32)).toUInt32.toUInt16.toUInt32.toInt32)), (.ref b2), (.ref b17), (.ref b9), (.ref b9)])) rfl (by rw [hml]; rfl) (argsL := [(.int ((p2 &&& (255 : Int32)).toUInt32.toUInt16.toUInt32.toInt32))]) (rest := [(.ref b2), (.ref b17), (.ref b9), (.ref b9)]) (lenOf pd_4 rfl) rfl (by show 2 * 0 + _ ≤ _; exact Nat.le_of_eq rfl) (hb hby at_116) (fun _ _ => ⟨rfl, rfl, (by decide : 4 + 2 ≤ _), (by decide : 10 + 5 ≤ _)⟩)
    dsimp only [Pt.U, Pt.locs, Pt.cells, Pt.slots] at X26 l26 y26 z26 st26 hQ26
    subst l26 y26 z26
    obtain ⟨b26, rfl, Nq26, K26, gn_b26, szq_b26⟩ := hQ26
    have ne_b2_b26 : b2 ≠ b26 := Nat.ne_of_lt (Nat.lt_of_lt_of_le f19.lt szq_b26)
    have ne_b9_b26 : b9 ≠ b26 := Nat.ne_of_lt (Nat.lt_of_lt_of_le f21.lt szq_b26)
    have f27 := own_sta_keep f18 K26
    have f28 := f19.keep K26 List.not_mem_nil
    have f29 := f20.keep K26
    have f30 := f21.keep K26
    have f31 := f22.keep K26 List.not_mem_nil
    have f32 := f23.keep K26 List.not_mem_nil
    have f33 := f24.keep K26 List.not_mem_nil
    have f34 := f25.keep K26 List.not_mem_nil
    have Zs26 : n0 ≤ T26.heap.size := Nat.le_trans Zs17 K26.1
    have N26 := Fr.app N17 Nq26
    refine own_by (st26) ?_
    show own_Go p.tables e below (T26.setTop (mkF m 119 #[.val (.int p0), .val (.int p1), .val (.int p2), .val (.int p3), .val (.int (1 : Int32)), .val (.int (((p3.toUInt32 >>> ((2 : Int32) &&& 31).toUInt32).toInt32) &&& (3 : Int32))), .val (.int (p0.toInt8.toInt32)), .val (.int (p1.toInt8.toInt32)), .val (.int (p2.toInt8.toInt32)), .val .null, .val (.ref b2), .unset, .unset, .unset] [(.ref b26), (.ref b2), (.ref b17), (.ref b9), (.ref b9)])) _
    refine own_by (fun _ kt => XS.aload X26.here hx rfl (hb hby at_119) rfl rfl kt) ?_
    show own_Go p.tables e below (T26.setTop (mkF m 121 #[.val (.int p0), .val (.int p1), .val (.int p2), .val (.int p3), .val (.int (1 : Int32)), .val (.int (((p3.toUInt32 >>> ((2 : Int32) &&& 31).toUInt32).toInt32) &&& (3 : Int32))), .val (.int (p0.toInt8.toInt32)), .val (.int (p1.toInt8.toInt32)), .val (.int (p2.toInt8.toInt32)), .val .null, .val (.ref b2), .unset, .unset, .unset] [.null, (.ref b26), (.ref b2), (.ref b17), (.ref b9), (.ref b9)])) _
    obtain ⟨_, _, ⟨T35, L35, k35, n35⟩, -, X35, ⟨Lc35, hQ35, l35, y35, z35⟩, st35⟩ := X26.specialBack hx (y := (⟨"com/example/relampago/relampago/lcp/Call", "<init>", "(Ljava/lang/String;[BLjava/lang/String;[B)V"⟩ : MethodName)) rfl hown (mvT hZ (hw _ (List.mem_of_getElem? (i := 29) rfl))) (mvT hZ (hw _ (List.mem_of_getElem? (i := 30) rfl))) (mvT hZ (hw _ (List.mem_of_getElem? (i := 31) rfl))) (by decide) (backOf (W := 1) (rm_init0 l Z a0 hw [] b9 b17 b2 b26 (k2) ((nar .byte (((p0.toUInt32 >>> ((8 : Int32) &&& 31).toUInt32).toInt32).toInt8.toInt32))) T26.heap n0 Zs26 f31 f32 f33 f34 f30 gn_b9 f28 f29 ne_b2_b9) hZ (hw _ (List.mem_of_getElem? (i := 31) rfl)) (hw _ (List.mem_of_getElem? (i := 3) rfl)) (by decide) (by decide)) (g := (mkF m 121 #[.val (.int p0), .val (.int p1), .val (.int p2), .val (.int p3), .val (.int (1 : Int32)), .val (.int (((p3.toUInt32 >>> ((2 : Int32) &&& 31).toUInt32).toInt32) &&& (3 : Int32))), .val (.int (p0.toInt8.toInt32)), .val (.int (p1.toInt8.toInt32)), .val (.int (p2.toInt8.toInt32)), .val .null, .val (.ref b2), .unset, .unset, .unset] [.null, (.ref b26), (.ref b2), (.ref b17), (.ref b9), (.ref b9)])) rfl (by rw [hml]; rfl) (Steps.refl _) (a := b9) (argsL := [(.ref b17), (.ref b2), (.ref b26), .null]) (rest := [(.ref b9)]) (lenOf pd_5 rfl) rfl (by show 2 * 0 + _ ≤ _; exact Nat.le_of_eq rfl) (hb hby at_121) (fun _ _ => ⟨rfl, rfl, (by decide : 6 + 1 ≤ _), (by decide : 15 + 1 ≤ _)⟩)
    dsimp only [Pt.U, Pt.locs, Pt.cells, Pt.slots] at X35 l35 y35 z35 st35 hQ35
    subst l35 y35 z35
    obtain ⟨rfl, Nq35, K35, f35_0, f35_1⟩ := hQ35
    have f36 := f28.keep K35 (own_nin ne_b2_b9)
    have f37 := f29.keep K35
    have f38 := f30.keep K35
    have Zs35 : n0 ≤ T35.heap.size := Nat.le_trans Zs26 K35.1
    have N35 := Fr.app N26 Nq35
    refine own_by (fun _ kt => st35.trans kt) ?_
    show own_Go p.tables e below (T35.setTop (mkF m 124 #[.val (.int p0), .val (.int p1), .val (.int p2), .val (.int p3), .val (.int (1 : Int32)), .val (.int (((p3.toUInt32 >>> ((2 : Int32) &&& 31).toUInt32).toInt32) &&& (3 : Int32))), .val (.int (p0.toInt8.toInt32)), .val (.int (p1.toInt8.toInt32)), .val (.int (p2.toInt8.toInt32)), .val .null, .val (.ref b2), .unset, .unset, .unset] [(.ref b9)])) _
    refine own_by (fun _ kt => XS.astore X35.here hx rfl (hb hby at_124) rfl rfl (l' := #[.val (.int p0), .val (.int p1), .val (.int p2), .val (.int p3), .val (.int (1 : Int32)), .val (.int (((p3.toUInt32 >>> ((2 : Int32) &&& 31).toUInt32).toInt32) &&& (3 : Int32))), .val (.int (p0.toInt8.toInt32)), .val (.int (p1.toInt8.toInt32)), .val (.int (p2.toInt8.toInt32)), .val .null, .val (.ref b2), .val (.ref b9), .unset, .unset]) rfl kt) ?_
    show own_Go p.tables e below (T35.setTop (mkF m 126 #[.val (.int p0), .val (.int p1), .val (.int p2), .val (.int p3), .val (.int (1 : Int32)), .val (.int (((p3.toUInt32 >>> ((2 : Int32) &&& 31).toUInt32).toInt32) &&& (3 : Int32))), .val (.int (p0.toInt8.toInt32)), .val (.int (p1.toInt8.toInt32)), .val (.int (p2.toInt8.toInt32)), .val .null, .val (.ref b2), .val (.ref b9), .unset, .unset] [])) _
    refine own_by (fun _ kt => XS.iload X35.here hx rfl (hb hby at_126) rfl kt) ?_
    show own_Go p.tables e below (T35.setTop (mkF m 128 #[.val (.int p0), .val (.int p1), .val (.int p2), .val (.int p3), .val (.int (1 : Int32)), .val (.int (((p3.toUInt32 >>> ((2 : Int32) &&& 31).toUInt32).toInt32) &&& (3 : Int32))), .val (.int (p0.toInt8.toInt32)), .val (.int (p1.toInt8.toInt32)), .val (.int (p2.toInt8.toInt32)), .val .null, .val (.ref b2), .val (.ref b9), .unset, .unset] [(.int (1 : Int32))])) _
    refine own_by (fun _ kt => XS.ifYes X35.here hx rfl (pc0 := 128) (pc' := 138) rfl (hb hby at_128) rfl ((if0 _ _).trans (feq (by decide : ¬ ((1 : Int32) = (0 : Int32)))).2) (by decide) (by decide) kt) ?_
    show own_Go p.tables e below (T35.setTop (mkF m 138 #[.val (.int p0), .val (.int p1), .val (.int p2), .val (.int p3), .val (.int (1 : Int32)), .val (.int (((p3.toUInt32 >>> ((2 : Int32) &&& 31).toUInt32).toInt32) &&& (3 : Int32))), .val (.int (p0.toInt8.toInt32)), .val (.int (p1.toInt8.toInt32)), .val (.int (p2.toInt8.toInt32)), .val .null, .val (.ref b2), .val (.ref b9), .unset, .unset] [])) _
    refine own_by (fun _ kt => XS.aload X35.here hx rfl (hb hby at_138) rfl rfl kt) ?_
    show own_Go p.tables e below (T35.setTop (mkF m 140 #[.val (.int p0), .val (.int p1), .val (.int p2), .val (.int p3), .val (.int (1 : Int32)), .val (.int (((p3.toUInt32 >>> ((2 : Int32) &&& 31).toUInt32).toInt32) &&& (3 : Int32))), .val (.int (p0.toInt8.toInt32)), .val (.int (p1.toInt8.toInt32)), .val (.int (p2.toInt8.toInt32)), .val .null, .val (.ref b2), .val (.ref b9), .unset, .unset] [(.ref b9)])) _
    obtain ⟨cq39, kq39, q39a, q39b, q39c⟩ := isOf hZ rfl f35_0
    obtain ⟨_, _, ⟨T39, L39, k39, n39⟩, -, X39, ⟨Lc39, hQ39, l39, y39, z39⟩, st39⟩ := X35.virtualBack hx (y := (⟨"com/example/relampago/relampago/lcp/Call", "params", "()[B"⟩ : MethodName)) (z := (⟨"com/example/relampago/relampago/lcp/Call", "params", "()[B"⟩ : MethodName)) hown (mvT hZ (hw _ (List.mem_of_getElem? (i := 59) rfl))) (mvT hZ (hw _ (List.mem_of_getElem? (i := 60) rfl))) (notFace_of_selects (args := #[]) (mvT hZ (hw _ (List.mem_of_getElem? (i := 62) rfl)))) (mvT hZ (hw _ (List.mem_of_getElem? (i := 62) rfl))) (mvT hZ (hw _ (List.mem_of_getElem? (i := 61) rfl))) (by decide) (backOf (W := 0) (rm_params0 l Z a0 hw [] b9  T35.heap n0 Zs35 f35_1) hZ (hw _ (List.mem_of_getElem? (i := 63) rfl)) (hw _ (List.mem_of_getElem? (i := 3) rfl)) (by decide) (by decide)) q39a q39c (g := (mkF m 140 #[.val (.int p0), .val (.int p1), .val (.int p2), .val (.int p3), .val (.int (1 : Int32)), .val (.int (((p3.toUInt32 >>> ((2 : Int32) &&& 31).toUInt32).toInt32) &&& (3 : Int32))), .val (.int (p0.toInt8.toInt32)), .val (.int (p1.toInt8.toInt32)), .val (.int (p2.toInt8.toInt32)), .val .null, .val (.ref b2), .val (.ref b9), .unset, .unset] [(.ref b9)])) rfl (by rw [hml]; rfl) (Steps.refl _) (argsL := []) (rest := []) (lenOf pd_6 rfl) rfl (by show 2 * 0 + _ ≤ _; exact Nat.le_of_eq rfl) (hb hby at_140) (fun _ _ => ⟨rfl, rfl, (by decide : 7 + 0 ≤ _), (by decide : 16 + 0 ≤ _)⟩)
    dsimp only [Pt.U, Pt.locs, Pt.cells, Pt.slots] at X39 l39 y39 z39 st39 hQ39
    subst l39 y39 z39
    obtain ⟨rfl, Nq39, eh39⟩ := hQ39
    have N39 := Fr.app N35 Nq39
    refine own_by (fun _ kt => st39.trans kt) ?_
    show own_Go p.tables e below (T39.setTop (mkF m 143 #[.val (.int p0), .val (.int p1), .val (.int p2), .val (.int p3), .val (.int (1 : Int32)), .val (.int (((p3.toUInt32 >>> ((2 : Int32) &&& 31).toUInt32).toInt32) &&& (3 : Int32))), .val (.int (p0.toInt8.toInt32)), .val (.int (p1.toInt8.toInt32)), .val (.int (p2.toInt8.toInt32)), .val .null, .val (.ref b2), .val (.ref b9), .unset, .unset] [.null])) _
    refine own_by (fun _ kt => XS.astore X39.here hx rfl (hb hby at_143) rfl rfl (l' := #[.val (.int p0), .val (.int p1), .val (.int p2), .val (.int p3), .val (.int (1 : Int32)), .val (.int (((p3.toUInt32 >>> ((2 : Int32) &&& 31).toUInt32).toInt32) &&& (3 : Int32))), .val (.int (p0.toInt8.toInt32)), .val (.int (p1.toInt8.toInt32)), .val (.int (p2.toInt8.toInt32)), .val .null, .val (.ref b2), .val (.ref b9), .val .null, .unset]) rfl kt) ?_
    show own_Go p.tables e below (T39.setTop (mkF m 145 #[.val (.int p0), .val (.int p1), .val (.int p2), .val (.int p3), .val (.int (1 : Int32)), .val (.int (((p3.toUInt32 >>> ((2 : Int32) &&& 31).toUInt32).toInt32) &&& (3 : Int32))), .val (.int (p0.toInt8.toInt32)), .val (.int (p1.toInt8.toInt32)), .val (.int (p2.toInt8.toInt32)), .val .null, .val (.ref b2), .val (.ref b9), .val .null, .unset] [])) _
    refine own_by (fun _ kt => XS.iload X39.here hx rfl (hb hby at_145) rfl kt) ?_
    show own_Go p.tables e below (T39.setTop (mkF m 147 #[.val (.int p0), .val (.int p1), .val (.int p2), .val (.int p3), .val (.int (1 : Int32)), .val (.int (((p3.toUInt32 >>> ((2 : Int32) &&& 31).toUInt32).toInt32) &&& (3 : Int32))), .val (.int (p0.toInt8.toInt32)), .val (.int (p1.toInt8.toInt32)), .val (.int (p2.toInt8.toInt32)), .val .null, .val (.ref b2), .val (.ref b9), .val .null, .unset] [(.int (1 : Int32))])) _
    refine own_by (fun _ kt => XS.ifNo X39.here hx rfl (hb hby at_147) rfl ((if0 _ _).trans (feq (by decide : ¬ ((1 : Int32) = (0 : Int32)))).1) kt) ?_
    show own_Go p.tables e below (T39.setTop (mkF m 150 #[.val (.int p0), .val (.int p1), .val (.int p2), .val (.int p3), .val (.int (1 : Int32)), .val (.int (((p3.toUInt32 >>> ((2 : Int32) &&& 31).toUInt32).toInt32) &&& (3 : Int32))), .val (.int (p0.toInt8.toInt32)), .val (.int (p1.toInt8.toInt32)), .val (.int (p2.toInt8.toInt32)), .val .null, .val (.ref b2), .val (.ref b9), .val .null, .unset] [])) _
    refine own_by (fun _ kt => XS.aload X39.here hx rfl (hb hby at_150) rfl rfl kt) ?_
    show own_Go p.tables e below (T39.setTop (mkF m 152 #[.val (.int p0), .val (.int p1), .val (.int p2), .val (.int p3), .val (.int (1 : Int32)), .val (.int (((p3.toUInt32 >>> ((2 : Int32) &&& 31).toUInt32).toInt32) &&& (3 : Int32))), .val (.int (p0.toInt8.toInt32)), .val (.int (p1.toInt8.toInt32)), .val (.int (p2.toInt8.toInt32)), .val .null, .val (.ref b2), .val (.ref b9), .val .null, .unset] [.null])) _
    refine own_by (fun _ kt => XS.ifnonnullNo X39.here hx rfl (hb hby at_152) rfl kt) ?_
    show own_Go p.tables e below (T39.setTop (mkF m 155 #[.val (.int p0), .val (.int p1), .val (.int p2), .val (.int p3), .val (.int (1 : Int32)), .val (.int (((p3.toUInt32 >>> ((2 : Int32) &&& 31).toUInt32).toInt32) &&& (3 : Int32))), .val (.int (p0.toInt8.toInt32)), .val (.int (p1.toInt8.toInt32)), .val (.int (p2.toInt8.toInt32)), .val .null, .val (.ref b2), .val (.ref b9), .val .null, .unset] [])) _
    refine own_by (fun _ kt => XS.aload X39.here hx rfl (hb hby at_155) rfl rfl kt) ?_
    show own_Go p.tables e below (T39.setTop (mkF m 157 #[.val (.int p0), .val (.int p1), .val (.int p2), .val (.int p3), .val (.int (1 : Int32)), .val (.int (((p3.toUInt32 >>> ((2 : Int32) &&& 31).toUInt32).toInt32) &&& (3 : Int32))), .val (.int (p0.toInt8.toInt32)), .val (.int (p1.toInt8.toInt32)), .val (.int (p2.toInt8.toInt32)), .val .null, .val (.ref b2), .val (.ref b9), .val .null, .unset] [(.ref b9)])) _
    obtain ⟨cq40, kq40, q40a, q40b, q40c⟩ := isOf hZ eh39 f35_0
    obtain ⟨_, _, ⟨T40, L40, k40, n40⟩, -, X40, ⟨Lc40, hQ40, l40, y40, z40⟩, st40⟩ := X39.virtualBack hx (y := (⟨"com/example/relampago/relampago/lcp/Call", "params", "()[B"⟩ : MethodName)) (z := (⟨"com/example/relampago/relampago/lcp/Call", "params", "()[B"⟩ : MethodName)) hown (mvT hZ (hw _ (List.mem_of_getElem? (i := 59) rfl))) (mvT hZ (hw _ (List.mem_of_getElem? (i := 60) rfl))) (notFace_of_selects (args := #[]) (mvT hZ (hw _ (List.mem_of_getElem? (i := 62) rfl)))) (mvT hZ (hw _ (List.mem_of_getElem? (i := 62) rfl))) (mvT hZ (hw _ (List.mem_of_getElem? (i := 61) rfl))) (by decide) (backOf (W := 0) (rm_params0 l Z a0 hw [] b9  T35.heap n0 Zs35 f35_1) hZ (hw _ (List.mem_of_getElem? (i := 63) rfl)) (hw _ (List.mem_of_getElem? (i := 3) rfl)) (by decide) (by decide)) q40a q40c (g := (mkF m 157 #[.val (.int p0), .val (.int p1), .val (.int p2), .val (.int p3), .val (.int (1 : Int32)), .val (.int (((p3.toUInt32 >>> ((2 : Int32) &&& 31).toUInt32).toInt32) &&& (3 : Int32))), .val (.int (p0.toInt8.toInt32)), .val (.int (p1.toInt8.toInt32)), .val (.int (p2.toInt8.toInt32)), .val .null, .val (.ref b2), .val (.ref b9), .val .null, .unset] [(.ref b9)])) rfl (by rw [hml]; rfl) (Steps.refl _) (argsL := []) (rest := []) (lenOf pd_6 rfl) rfl (by show 2 * 0 + _ ≤ _; exact Nat.le_of_eq rfl) (hb hby at_157) (fun _ _ => ⟨rfl, eh39, (by decide : 7 + 0 ≤ _), (by decide : 16 + 0 ≤ _)⟩)
    dsimp only [Pt.U, Pt.locs, Pt.cells, Pt.slots] at X40 l40 y40 z40 st40 hQ40
    subst l40 y40 z40
    obtain ⟨rfl, Nq40, eh40⟩ := hQ40
    have N40 := Fr.app N39 Nq40
    refine own_by (fun _ kt => st40.trans kt) ?_
    show own_Go p.tables e below (T40.setTop (mkF m 160 #[.val (.int p0), .val (.int p1), .val (.int p2), .val (.int p3), .val (.int (1 : Int32)), .val (.int (((p3.toUInt32 >>> ((2 : Int32) &&& 31).toUInt32).toInt32) &&& (3 : Int32))), .val (.int (p0.toInt8.toInt32)), .val (.int (p1.toInt8.toInt32)), .val (.int (p2.toInt8.toInt32)), .val .null, .val (.ref b2), .val (.ref b9), .val .null, .unset] [.null])) _
    refine own_by (fun _ kt => XS.ifnonnullNo X40.here hx rfl (hb hby at_160) rfl kt) ?_
    show own_Go p.tables e below (T40.setTop (mkF m 163 #[.val (.int p0), .val (.int p1), .val (.int p2), .val (.int p3), .val (.int (1 : Int32)), .val (.int (((p3.toUInt32 >>> ((2 : Int32) &&& 31).toUInt32).toInt32) &&& (3 : Int32))), .val (.int (p0.toInt8.toInt32)), .val (.int (p1.toInt8.toInt32)), .val (.int (p2.toInt8.toInt32)), .val .null, .val (.ref b2), .val (.ref b9), .val .null, .unset] [])) _
    refine own_by (fun _ kt => XS.iconst X40.here hx rfl (hb hby at_163) kt) ?_
    show own_Go p.tables e below (T40.setTop (mkF m 164 #[.val (.int p0), .val (.int p1), .val (.int p2), .val (.int p3), .val (.int (1 : Int32)), .val (.int (((p3.toUInt32 >>> ((2 : Int32) &&& 31).toUInt32).toInt32) &&& (3 : Int32))), .val (.int (p0.toInt8.toInt32)), .val (.int (p1.toInt8.toInt32)), .val (.int (p2.toInt8.toInt32)), .val .null, .val (.ref b2), .val (.ref b9), .val .null, .unset] [(.int (1 : Int32))])) _
    refine own_by (fun _ kt => XS.goto X40.here hx rfl (pc0 := 164) (pc' := 168) rfl (hb hby at_164) (by decide) (by decide) kt) ?_
    show own_Go p.tables e below (T40.setTop (mkF m 168 #[.val (.int p0), .val (.int p1), .val (.int p2), .val (.int p3), .val (.int (1 : Int32)), .val (.int (((p3.toUInt32 >>> ((2 : Int32) &&& 31).toUInt32).toInt32) &&& (3 : Int32))), .val (.int (p0.toInt8.toInt32)), .val (.int (p1.toInt8.toInt32)), .val (.int (p2.toInt8.toInt32)), .val .null, .val (.ref b2), .val (.ref b9), .val .null, .unset] [(.int (1 : Int32))])) _
    exact own_retN X40 hx (t := .boolean) Bd.returns hlk (by simp) (hb hby at_168) ⟨rfl, N40⟩ (by decide) (by decide)
  · refine own_by (fun _ kt => XS.ifYes X0.here hx rfl (pc0 := 3) (pc' := 10) rfl (hb hby at_3) rfl ((if0 _ _).trans (feq hc3_1).2) (by decide) (by decide) kt) ?_
    show own_Go p.tables e below (s₁.setTop (mkF m 10 #[.val (.int p0), .val (.int p1), .val (.int p2), .val (.int p3), .unset, .unset, .unset, .unset, .unset, .unset, .unset, .unset, .unset, .unset] [])) _
    refine own_by (fun _ kt => XS.iconst X0.here hx rfl (hb hby at_10) kt) ?_
    show own_Go p.tables e below (s₁.setTop (mkF m 11 #[.val (.int p0), .val (.int p1), .val (.int p2), .val (.int p3), .unset, .unset, .unset, .unset, .unset, .unset, .unset, .unset, .unset, .unset] [(.int (0 : Int32))])) _
    refine own_by (fun _ kt => XS.istore X0.here hx rfl (hb hby at_11) rfl (l' := #[.val (.int p0), .val (.int p1), .val (.int p2), .val (.int p3), .val (.int (0 : Int32)), .unset, .unset, .unset, .unset, .unset, .unset, .unset, .unset, .unset]) rfl kt) ?_
    show own_Go p.tables e below (s₁.setTop (mkF m 13 #[.val (.int p0), .val (.int p1), .val (.int p2), .val (.int p3), .val (.int (0 : Int32)), .unset, .unset, .unset, .unset, .unset, .unset, .unset, .unset, .unset] [])) _
    refine own_by (fun _ kt => XS.iloadN X0.here hx rfl (hb hby at_13) rfl kt) ?_
    show own_Go p.tables e below (s₁.setTop (mkF m 14 #[.val (.int p0), .val (.int p1), .val (.int p2), .val (.int p3), .val (.int (0 : Int32)), .unset, .unset, .unset, .unset, .unset, .unset, .unset, .unset, .unset] [(.int p3)])) _
    refine own_by (fun _ kt => XS.iconst X0.here hx rfl (hb hby at_14) kt) ?_
    show own_Go p.tables e below (s₁.setTop (mkF m 15 #[.val (.int p0), .val (.int p1), .val (.int p2), .val (.int p3), .val (.int (0 : Int32)), .unset, .unset, .unset, .unset, .unset, .unset, .unset, .unset, .unset] [(.int (2 : Int32)), (.int p3)])) _
    refine own_by (fun _ kt => XS.iushr X0.here hx rfl (hb hby at_15) rfl kt) ?_
    show own_Go p.tables e below (s₁.setTop (mkF m 16 #[.val (.int p0), .val (.int p1), .val (.int p2), .val (.int p3), .val (.int (0 : Int32)), .unset, .unset, .unset, .unset, .unset, .unset, .unset, .unset, .unset] [(.int ((p3.toUInt32 >>> ((2 : Int32) &&& 31).toUInt32).toInt32))])) _
    refine own_by (fun _ kt => XS.iconst X0.here hx rfl (hb hby at_16) kt) ?_
    show own_Go p.tables e below (s₁.setTop (mkF m 17 #[.val (.int p0), .val (.int p1), .val (.int p2), .val (.int p3), .val (.int (0 : Int32)), .unset, .unset, .unset, .unset, .unset, .unset, .unset, .unset, .unset] [(.int (3 : Int32)), (.int ((p3.toUInt32 >>> ((2 : Int32) &&& 31).toUInt32).toInt32))])) _
    refine own_by (fun _ kt => XS.iand X0.here hx rfl (hb hby at_17) rfl kt) ?_
    show own_Go p.tables e below (s₁.setTop (mkF m 18 #[.val (.int p0), .val (.int p1), .val (.int p2), .val (.int p3), .val (.int (0 : Int32)), .unset, .unset, .unset, .unset, .unset, .unset, .unset, .unset, .unset] [(.int (((p3.toUInt32 >>> ((2 : Int32) &&& 31).toUInt32).toInt32) &&& (3 : Int32)))])) _
    rcases (own_and3 _ : (((p3.toUInt32 >>> ((2 : Int32) &&& 31).toUInt32).toInt32) &&& (3 : Int32)) = (0 : Int32) ∨ (((p3.toUInt32 >>> ((2 : Int32) &&& 31).toUInt32).toInt32) &&& (3 : Int32)) = (1 : Int32) ∨ (((p3.toUInt32 >>> ((2 : Int32) &&& 31).toUInt32).toInt32) &&& (3 : Int32)) = (2 : Int32) ∨ (((p3.toUInt32 >>> ((2 : Int32) &&& 31).toUInt32).toInt32) &&& (3 : Int32)) = (3 : Int32)) with hs18_41 | hs18_41 | hs18_41 | hs18_41
    · rw [hs18_41]
      show own_Go p.tables e below (s₁.setTop (mkF m 18 #[.val (.int p0), .val (.int p1), .val (.int p2), .val (.int p3), .val (.int (0 : Int32)), .unset, .unset, .unset, .unset, .unset, .unset, .unset, .unset, .unset] [(.int (0 : Int32))])) _
      refine own_by (fun _ kt => XS.istore X0.here hx rfl (hb hby at_18) rfl (l' := #[.val (.int p0), .val (.int p1), .val (.int p2), .val (.int p3), .val (.int (0 : Int32)), .val (.int (0 : Int32)), .unset, .unset, .unset, .unset, .unset, .unset, .unset, .unset]) rfl kt) ?_
      show own_Go p.tables e below (s₁.setTop (mkF m 20 #[.val (.int p0), .val (.int p1), .val (.int p2), .val (.int p3), .val (.int (0 : Int32)), .val (.int (0 : Int32)), .unset, .unset, .unset, .unset, .unset, .unset, .unset, .unset] [])) _
      refine own_by (fun _ kt => XS.iloadN X0.here hx rfl (hb hby at_20) rfl kt) ?_
      show own_Go p.tables e below (s₁.setTop (mkF m 21 #[.val (.int p0), .val (.int p1), .val (.int p2), .val (.int p3), .val (.int (0 : Int32)), .val (.int (0 : Int32)), .unset, .unset, .unset, .unset, .unset, .unset, .unset, .unset] [(.int p0)])) _
      refine own_by (fun _ kt => XS.i2b X0.here hx rfl (hb hby at_21) rfl kt) ?_
      show own_Go p.tables e below (s₁.setTop (mkF m 22 #[.val (.int p0), .val (.int p1), .val (.int p2), .val (.int p3), .val (.int (0 : Int32)), .val (.int (0 : Int32)), .unset, .unset, .unset, .unset, .unset, .unset, .unset, .unset] [(.int (p0.toInt8.toInt32))])) _
      refine own_by (fun _ kt => XS.istore X0.here hx rfl (hb hby at_22) rfl (l' := #[.val (.int p0), .val (.int p1), .val (.int p2), .val (.int p3), .val (.int (0 : Int32)), .val (.int (0 : Int32)), .val (.int (p0.toInt8.toInt32)), .unset, .unset, .unset, .unset, .unset, .unset, .unset]) rfl kt) ?_
      show own_Go p.tables e below (s₁.setTop (mkF m 24 #[.val (.int p0), .val (.int p1), .val (.int p2), .val (.int p3), .val (.int (0 : Int32)), .val (.int (0 : Int32)), .val (.int (p0.toInt8.toInt32)), .unset, .unset, .unset, .unset, .unset, .unset, .unset] [])) _
      refine own_by (fun _ kt => XS.iloadN X0.here hx rfl (hb hby at_24) rfl kt) ?_
      show own_Go p.tables e below (s₁.setTop (mkF m 25 #[.val (.int p0), .val (.int p1), .val (.int p2), .val (.int p3), .val (.int (0 : Int32)), .val (.int (0 : Int32)), .val (.int (p0.toInt8.toInt32)), .unset, .unset, .unset, .unset, .unset, .unset, .unset] [(.int p1)])) _
      refine own_by (fun _ kt => XS.i2b X0.here hx rfl (hb hby at_25) rfl kt) ?_
      show own_Go p.tables e below (s₁.setTop (mkF m 26 #[.val (.int p0), .val (.int p1), .val (.int p2), .val (.int p3), .val (.int (0 : Int32)), .val (.int (0 : Int32)), .val (.int (p0.toInt8.toInt32)), .unset, .unset, .unset, .unset, .unset, .unset, .unset] [(.int (p1.toInt8.toInt32))])) _
      refine own_by (fun _ kt => XS.istore X0.here hx rfl (hb hby at_26) rfl (l' := #[.val (.int p0), .val (.int p1), .val (.int p2), .val (.int p3), .val (.int (0 : Int32)), .val (.int (0 : Int32)), .val (.int (p0.toInt8.toInt32)), .val (.int (p1.toInt8.toInt32)), .unset, .unset, .unset, .unset, .unset, .unset]) rfl kt) ?_
      show own_Go p.tables e below (s₁.setTop (mkF m 28 #[.val (.int p0), .val (.int p1), .val (.int p2), .val (.int p3), .val (.int (0 : Int32)), .val (.int (0 : Int32)), .val (.int (p0.toInt8.toInt32)), .val (.int (p1.toInt8.toInt32)), .unset, .unset, .unset, .unset, .unset, .unset] [])) _
      refine own_by (fun _ kt => XS.iloadN X0.here hx rfl (hb hby at_28) rfl kt) ?_
      show own_Go p.tables e below (s₁.setTop (mkF m 29 #[.val (.int p0), .val (.int p1), .val (.int p2), .val (.int p3), .val (.int (0 : Int32)), .val (.int (0 : Int32)), .val (.int (p0.toInt8.toInt32)), .val (.int (p1.toInt8.toInt32)), .unset, .unset, .unset, .unset, .unset, .unset] [(.int p2)])) _
      refine own_by (fun _ kt => XS.i2b X0.here hx rfl (hb hby at_29) rfl kt) ?_
      show own_Go p.tables e below (s₁.setTop (mkF m 30 #[.val (.int p0), .val (.int p1), .val (.int p2), .val (.int p3), .val (.int (0 : Int32)), .val (.int (0 : Int32)), .val (.int (p0.toInt8.toInt32)), .val (.int (p1.toInt8.toInt32)), .unset, .unset, .unset, .unset, .unset, .unset] [(.int (p2.toInt8.toInt32))])) _
      refine own_by (fun _ kt => XS.istore X0.here hx rfl (hb hby at_30) rfl (l' := #[.val (.int p0), .val (.int p1), .val (.int p2), .val (.int p3), .val (.int (0 : Int32)), .val (.int (0 : Int32)), .val (.int (p0.toInt8.toInt32)), .val (.int (p1.toInt8.toInt32)), .val (.int (p2.toInt8.toInt32)), .unset, .unset, .unset, .unset, .unset]) rfl kt) ?_
      show own_Go p.tables e below (s₁.setTop (mkF m 32 #[.val (.int p0), .val (.int p1), .val (.int p2), .val (.int p3), .val (.int (0 : Int32)), .val (.int (0 : Int32)), .val (.int (p0.toInt8.toInt32)), .val (.int (p1.toInt8.toInt32)), .val (.int (p2.toInt8.toInt32)), .unset, .unset, .unset, .unset, .unset] [])) _
      refine own_by (fun _ kt => XS.aconstNull X0.here hx rfl (hb hby at_32) kt) ?_
      show own_Go p.tables e below (s₁.setTop (mkF m 33 #[.val (.int p0), .val (.int p1), .val (.int p2), .val (.int p3), .val (.int (0 : Int32)), .val (.int (0 : Int32)), .val (.int (p0.toInt8.toInt32)), .val (.int (p1.toInt8.toInt32)), .val (.int (p2.toInt8.toInt32)), .unset, .unset, .unset, .unset, .unset] [.null])) _
      refine own_by (fun _ kt => XS.astore X0.here hx rfl (hb hby at_33) rfl rfl (l' := #[.val (.int p0), .val (.int p1), .val (.int p2), .val (.int p3), .val (.int (0 : Int32)), .val (.int (0 : Int32)), .val (.int (p0.toInt8.toInt32)), .val (.int (p1.toInt8.toInt32)), .val (.int (p2.toInt8.toInt32)), .val .null, .unset, .unset, .unset, .unset]) rfl kt) ?_
      show own_Go p.tables e below (s₁.setTop (mkF m 35 #[.val (.int p0), .val (.int p1), .val (.int p2), .val (.int p3), .val (.int (0 : Int32)), .val (.int (0 : Int32)), .val (.int (p0.toInt8.toInt32)), .val (.int (p1.toInt8.toInt32)), .val (.int (p2.toInt8.toInt32)), .val .null, .unset, .unset, .unset, .unset] [])) _
      refine own_by (fun _ kt => XS.iload X0.here hx rfl (hb hby at_35) rfl kt) ?_
      show own_Go p.tables e below (s₁.setTop (mkF m 37 #[.val (.int p0), .val (.int p1), .val (.int p2), .val (.int p3), .val (.int (0 : Int32)), .val (.int (0 : Int32)), .val (.int (p0.toInt8.toInt32)), .val (.int (p1.toInt8.toInt32)), .val (.int (p2.toInt8.toInt32)), .val .null, .unset, .unset, .unset, .unset] [(.int (0 : Int32))])) _
      refine own_by (fun _ kt => XS.ifNo X0.here hx rfl (hb hby at_37) rfl ((if0 _ _).trans (teq (by decide : (0 : Int32) = (0 : Int32))).2) kt) ?_
      show own_Go p.tables e below (s₁.setTop (mkF m 40 #[.val (.int p0), .val (.int p1), .val (.int p2), .val (.int p3), .val (.int (0 : Int32)), .val (.int (0 : Int32)), .val (.int (p0.toInt8.toInt32)), .val (.int (p1.toInt8.toInt32)), .val (.int (p2.toInt8.toInt32)), .val .null, .unset, .unset, .unset, .unset] [])) _
      refine own_by (fun _ kt => XS.iload X0.here hx rfl (hb hby at_40) rfl kt) ?_
      show own_Go p.tables e below (s₁.setTop (mkF m 42 #[.val (.int p0), .val (.int p1), .val (.int p2), .val (.int p3), .val (.int (0 : Int32)), .val (.int (0 : Int32)), .val (.int (p0.toInt8.toInt32)), .val (.int (p1.toInt8.toInt32)), .val (.int (p2.toInt8.toInt32)), .val .null, .unset, .unset, .unset, .unset] [(.int (0 : Int32))])) _
      obtain ⟨T42, h42, k42, X42, e42, E42, A42, Ea42, st42⟩ := newPE X0 hx hZ (hw _ (List.mem_of_getElem? (i := 0) rfl)) e0 (g := (mkF m 42 #[.val (.int p0), .val (.int p1), .val (.int p2), .val (.int p3), .val (.int (0 : Int32)), .val (.int (0 : Int32)), .val (.int (p0.toInt8.toInt32)), .val (.int (p1.toInt8.toInt32)), .val (.int (p2.toInt8.toInt32)), .val .null, .unset, .unset, .unset, .unset] [(.int (0 : Int32))])) rfl (hb hby at_42) rfl (by decide) (cap := 0) (by decide) (by decide) (by decide) (by decide) (ad := "[B") (by decide)
      obtain ⟨b42, g42⟩ : ∃ z, z = h0.size := ⟨_, rfl⟩
      rw [← g42] at A42 Ea42 st42
      have gn_b42 : n0 ≤ b42 := Nat.le_trans Z0 (Nat.le_of_eq g42.symm)
      have f43 := S_CS.ext E42
      have Zs42 : n0 ≤ h42.size := Nat.le_trans Z0 E42.1
      have f44 : Arv Z h42 b42 k42 .byte (0 : Int32) [] (.int (0 : Int32)) := (Arv.new A42 (by decide)).pad (pad_rep [] (.int (0 : Int32)) 0)
      refine own_by st42 ?_
      show own_Go p.tables e below (T42.setTop (mkF m 44 #[.val (.int p0), .val (.int p1), .val (.int p2), .val (.int p3), .val (.int (0 : Int32)), .val (.int (0 : Int32)), .val (.int (p0.toInt8.toInt32)), .val (.int (p1.toInt8.toInt32)), .val (.int (p2.toInt8.toInt32)), .val .null, .unset, .unset, .unset, .unset] [(.ref b42)])) _
      refine own_by (fun _ kt => XS.astore X42.here hx rfl (hb hby at_44) rfl rfl (l' := #[.val (.int p0), .val (.int p1), .val (.int p2), .val (.int p3), .val (.int (0 : Int32)), .val (.int (0 : Int32)), .val (.int (p0.toInt8.toInt32)), .val (.int (p1.toInt8.toInt32)), .val (.int (p2.toInt8.toInt32)), .val (.ref b42), .unset, .unset, .unset, .unset]) rfl kt) ?_
      show own_Go p.tables e below (T42.setTop (mkF m 46 #[.val (.int p0), .val (.int p1), .val (.int p2), .val (.int p3), .val (.int (0 : Int32)), .val (.int (0 : Int32)), .val (.int (p0.toInt8.toInt32)), .val (.int (p1.toInt8.toInt32)), .val (.int (p2.toInt8.toInt32)), .val (.ref b42), .unset, .unset, .unset, .unset] [])) _
      refine own_by (fun _ kt => XS.iload X42.here hx rfl (hb hby at_46) rfl kt) ?_
      show own_Go p.tables e below (T42.setTop (mkF m 48 #[.val (.int p0), .val (.int p1), .val (.int p2), .val (.int p3), .val (.int (0 : Int32)), .val (.int (0 : Int32)), .val (.int (p0.toInt8.toInt32)), .val (.int (p1.toInt8.toInt32)), .val (.int (p2.toInt8.toInt32)), .val (.ref b42), .unset, .unset, .unset, .unset] [(.int (0 : Int32))])) _
      refine own_by (fun _ kt => XS.ifYes X42.here hx rfl (pc0 := 48) (pc' := 57) rfl (hb hby at_48) rfl ((if0 _ _).trans (flt (by decide : ¬ ((0 : Int32) < (0 : Int32)))).2.2.2) (by decide) (by decide) kt) ?_
      show own_Go p.tables e below (T42.setTop (mkF m 57 #[.val (.int p0), .val (.int p1), .val (.int p2), .val (.int p3), .val (.int (0 : Int32)), .val (.int (0 : Int32)), .val (.int (p0.toInt8.toInt32)), .val (.int (p1.toInt8.toInt32)), .val (.int (p2.toInt8.toInt32)), .val (.ref b42), .unset, .unset, .unset, .unset] [])) _
      refine own_by (fun _ kt => XS.iload X42.here hx rfl (hb hby at_57) rfl kt) ?_
      show own_Go p.tables e below (T42.setTop (mkF m 59 #[.val (.int p0), .val (.int p1), .val (.int p2), .val (.int p3), .val (.int (0 : Int32)), .val (.int (0 : Int32)), .val (.int (p0.toInt8.toInt32)), .val (.int (p1.toInt8.toInt32)), .val (.int (p2.toInt8.toInt32)), .val (.ref b42), .unset, .unset, .unset, .unset] [(.int (0 : Int32))])) _
      refine own_by (fun _ kt => XS.iconst X42.here hx rfl (hb hby at_59) kt) ?_
      show own_Go p.tables e below (T42.setTop (mkF m 60 #[.val (.int p0), .val (.int p1), .val (.int p2), .val (.int p3), .val (.int (0 : Int32)), .val (.int (0 : Int32)), .val (.int (p0.toInt8.toInt32)), .val (.int (p1.toInt8.toInt32)), .val (.int (p2.toInt8.toInt32)), .val (.ref b42), .unset, .unset, .unset, .unset] [(.int (1 : Int32)), (.int (0 : Int32))])) _
      refine own_by (fun _ kt => XS.icmpYes X42.here hx rfl (pc0 := 60) (pc' := 69) rfl (hb hby at_60) rfl (flt (by decide : ¬ ((1 : Int32) < (0 : Int32)))).2.2.2 (by decide) (by decide) kt) ?_
      show own_Go p.tables e below (T42.setTop (mkF m 69 #[.val (.int p0), .val (.int p1), .val (.int p2), .val (.int p3), .val (.int (0 : Int32)), .val (.int (0 : Int32)), .val (.int (p0.toInt8.toInt32)), .val (.int (p1.toInt8.toInt32)), .val (.int (p2.toInt8.toInt32)), .val (.ref b42), .unset, .unset, .unset, .unset] [])) _
      refine own_by (fun _ kt => XS.iload X42.here hx rfl (hb hby at_69) rfl kt) ?_
      show own_Go p.tables e below (T42.setTop (mkF m 71 #[.val (.int p0), .val (.int p1), .val (.int p2), .val (.int p3), .val (.int (0 : Int32)), .val (.int (0 : Int32)), .val (.int (p0.toInt8.toInt32)), .val (.int (p1.toInt8.toInt32)), .val (.int (p2.toInt8.toInt32)), .val (.ref b42), .unset, .unset, .unset, .unset] [(.int (0 : Int32))])) _
      refine own_by (fun _ kt => XS.iconst X42.here hx rfl (hb hby at_71) kt) ?_
      show own_Go p.tables e below (T42.setTop (mkF m 72 #[.val (.int p0), .val (.int p1), .val (.int p2), .val (.int p3), .val (.int (0 : Int32)), .val (.int (0 : Int32)), .val (.int (p0.toInt8.toInt32)), .val (.int (p1.toInt8.toInt32)), .val (.int (p2.toInt8.toInt32)), .val (.ref b42), .unset, .unset, .unset, .unset] [(.int (2 : Int32)), (.int (0 : Int32))])) _
      refine own_by (fun _ kt => XS.icmpYes X42.here hx rfl (pc0 := 72) (pc' := 81) rfl (hb hby at_72) rfl (flt (by decide : ¬ ((2 : Int32) < (0 : Int32)))).2.2.2 (by decide) (by decide) kt) ?_
      show own_Go p.tables e below (T42.setTop (mkF m 81 #[.val (.int p0), .val (.int p1), .val (.int p2), .val (.int p3), .val (.int (0 : Int32)), .val (.int (0 : Int32)), .val (.int (p0.toInt8.toInt32)), .val (.int (p1.toInt8.toInt32)), .val (.int (p2.toInt8.toInt32)), .val (.ref b42), .unset, .unset, .unset, .unset] [])) _
      refine own_by (fun _ kt => XS.iconst X42.here hx rfl (hb hby at_81) kt) ?_
      show own_Go p.tables e below (T42.setTop (mkF m 82 #[.val (.int p0), .val (.int p1), .val (.int p2), .val (.int p3), .val (.int (0 : Int32)), .val (.int (0 : Int32)), .val (.int (p0.toInt8.toInt32)), .val (.int (p1.toInt8.toInt32)), .val (.int (p2.toInt8.toInt32)), .val (.ref b42), .unset, .unset, .unset, .unset] [(.int (1 : Int32))])) _
      obtain ⟨T45, h45, k45, X45, e45, E45, A45, Ea45, st45⟩ := newPE X42 hx hZ (hw _ (List.mem_of_getElem? (i := 0) rfl)) e42 (g := (mkF m 82 #[.val (.int p0), .val (.int p1), .val (.int p2), .val (.int p3), .val (.int (0 : Int32)), .val (.int (0 : Int32)), .val (.int (p0.toInt8.toInt32)), .val (.int (p1.toInt8.toInt32)), .val (.int (p2.toInt8.toInt32)), .val (.ref b42), .unset, .unset, .unset, .unset] [(.int (1 : Int32))])) rfl (hb hby at_82) rfl (by decide) (cap := 1) (by decide) (by decide) (by decide) (by decide) (ad := "[B") (by decide)
      obtain ⟨b45, g45⟩ : ∃ z, z = h42.size := ⟨_, rfl⟩
      rw [← g45] at A45 Ea45 st45
      have gn_b45 : n0 ≤ b45 := Nat.le_trans Zs42 (Nat.le_of_eq g45.symm)
      have ne_b42_b45 : b42 ≠ b45 := Nat.ne_of_lt (Nat.lt_of_lt_of_le f44.lt (Nat.le_of_eq g45.symm))
      have f46 := f43.ext E45
      have f47 := f44.ext E45
      have f48 := Ea42.ext E45
      have Zs45 : n0 ≤ h45.size := Nat.le_trans Zs42 E45.1
      have f49 : Arv Z h45 b45 k45 .byte (1 : Int32) [(.int (0 : Int32))] (.int (0 : Int32)) := (Arv.new A45 (by decide)).pad (pad_rep [] (.int (0 : Int32)) 1)
      refine own_by st45 ?_
      show own_Go p.tables e below (T45.setTop (mkF m 84 #[.val (.int p0), .val (.int p1), .val (.int p2), .val (.int p3), .val (.int (0 : Int32)), .val (.int (0 : Int32)), .val (.int (p0.toInt8.toInt32)), .val (.int (p1.toInt8.toInt32)), .val (.int (p2.toInt8.toInt32)), .val (.ref b42), .unset, .unset, .unset, .unset] [(.ref b45)])) _
      refine own_by (fun _ kt => XS.astore X45.here hx rfl (hb hby at_84) rfl rfl (l' := #[.val (.int p0), .val (.int p1), .val (.int p2), .val (.int p3), .val (.int (0 : Int32)), .val (.int (0 : Int32)), .val (.int (p0.toInt8.toInt32)), .val (.int (p1.toInt8.toInt32)), .val (.int (p2.toInt8.toInt32)), .val (.ref b42), .val (.ref b45), .unset, .unset, .unset]) rfl kt) ?_
      show own_Go p.tables e below (T45.setTop (mkF m 86 #[.val (.int p0), .val (.int p1), .val (.int p2), .val (.int p3), .val (.int (0 : Int32)), .val (.int (0 : Int32)), .val (.int (p0.toInt8.toInt32)), .val (.int (p1.toInt8.toInt32)), .val (.int (p2.toInt8.toInt32)), .val (.ref b42), .val (.ref b45), .unset, .unset, .unset] [])) _
      refine own_by (fun _ kt => XS.aload X45.here hx rfl (hb hby at_86) rfl rfl kt) ?_
      show own_Go p.tables e below (T45.setTop (mkF m 88 #[.val (.int p0), .val (.int p1), .val (.int p2), .val (.int p3), .val (.int (0 : Int32)), .val (.int (0 : Int32)), .val (.int (p0.toInt8.toInt32)), .val (.int (p1.toInt8.toInt32)), .val (.int (p2.toInt8.toInt32)), .val (.ref b42), .val (.ref b45), .unset, .unset, .unset] [(.ref b45)])) _
      refine own_by (fun _ kt => XS.iconst X45.here hx rfl (hb hby at_88) kt) ?_
      show own_Go p.tables e below (T45.setTop (mkF m 89 #[.val (.int p0), .val (.int p1), .val (.int p2), .val (.int p3), .val (.int (0 : Int32)), .val (.int (0 : Int32)), .val (.int (p0.toInt8.toInt32)), .val (.int (p1.toInt8.toInt32)), .val (.int (p2.toInt8.toInt32)), .val (.ref b42), .val (.ref b45), .unset, .unset, .unset] [(.int (0 : Int32)), (.ref b45)])) _
      refine own_by (fun _ kt => XS.iloadN X45.here hx rfl (hb hby at_89) rfl kt) ?_
      show own_Go p.tables e below (T45.setTop (mkF m 90 #[.val (.int p0), .val (.int p1), .val (.int p2), .val (.int p3), .val (.int (0 : Int32)), .val (.int (0 : Int32)), .val (.int (p0.toInt8.toInt32)), .val (.int (p1.toInt8.toInt32)), .val (.int (p2.toInt8.toInt32)), .val (.ref b42), .val (.ref b45), .unset, .unset, .unset] [(.int p0), (.int (0 : Int32)), (.ref b45)])) _
      refine own_by (fun _ kt => XS.bipush X45.here hx rfl (hb hby at_90) kt) ?_
      show own_Go p.tables e below (T45.setTop (mkF m 92 #[.val (.int p0), .val (.int p1), .val (.int p2), .val (.int p3), .val (.int (0 : Int32)), .val (.int (0 : Int32)), .val (.int (p0.toInt8.toInt32)), .val (.int (p1.toInt8.toInt32)), .val (.int (p2.toInt8.toInt32)), .val (.ref b42), .val (.ref b45), .unset, .unset, .unset] [(.int (8 : Int32)), (.int p0), (.int (0 : Int32)), (.ref b45)])) _
      refine own_by (fun _ kt => XS.iushr X45.here hx rfl (hb hby at_92) rfl kt) ?_
      show own_Go p.tables e below (T45.setTop (mkF m 93 #[.val (.int p0), .val (.int p1), .val (.int p2), .val (.int p3), .val (.int (0 : Int32)), .val (.int (0 : Int32)), .val (.int (p0.toInt8.toInt32)), .val (.int (p1.toInt8.toInt32)), .val (.int (p2.toInt8.toInt32)), .val (.ref b42), .val (.ref b45), .unset, .unset, .unset] [(.int ((p0.toUInt32 >>> ((8 : Int32) &&& 31).toUInt32).toInt32)), (.int (0 : Int32)), (.ref b45)])) _
      refine own_by (fun _ kt => XS.i2b X45.here hx rfl (hb hby at_93) rfl kt) ?_
      show own_Go p.tables e below (T45.setTop (mkF m 94 #[.val (.int p0), .val (.int p1), .val (.int p2), .val (.int p3), .val (.int (0 : Int32)), .val (.int (0 : Int32)), .val (.int (p0.toInt8.toInt32)), .val (.int (p1.toInt8.toInt32)), .val (.int (p2.toInt8.toInt32)), .val (.ref b42), .val (.ref b45), .unset, .unset, .unset] [(.int (((p0.toUInt32 >>> ((8 : Int32) &&& 31).toUInt32).toInt32).toInt8.toInt32)), (.int (0 : Int32)), (.ref b45)])) _
      obtain ⟨cl50, Ar50, q50, S50, M50, H50, G50⟩ := f49
      obtain ⟨T50, h50, X50, e50, W50, st50⟩ := stB X45 hx hZ e45 Ar50 (j := (0 : Int32)) (inb_of S50 ⟨by decide, by decide⟩) (g := (mkF m 94 #[.val (.int p0), .val (.int p1), .val (.int p2), .val (.int p3), .val (.int (0 : Int32)), .val (.int (0 : Int32)), .val (.int (p0.toInt8.toInt32)), .val (.int (p1.toInt8.toInt32)), .val (.int (p2.toInt8.toInt32)), .val (.ref b42), .val (.ref b45), .unset, .unset, .unset] [(.int (((p0.toUInt32 >>> ((8 : Int32) &&& 31).toUInt32).toInt32).toInt8.toInt32)), (.int (0 : Int32)), (.ref b45)])) rfl rfl (hb hby at_94)
      have f51 : Arv Z h50 b45 k45 .byte (1 : Int32) [(.int (nar .byte (((p0.toUInt32 >>> ((8 : Int32) &&& 31).toUInt32).toInt32).toInt8.toInt32)))] (.int (0 : Int32)) := Arv.set Ar50 q50 S50 M50 H50 G50 (fits_nar_byte _) W50 0 rfl (Nat.le_of_ble_eq_true rfl)
      have f52 := f46.wr W50
      have f53 := f47.other W50 ne_b42_b45
      have f54 := f48.wr W50
      have f55 := Ea45.wr W50
      have Zs50 : n0 ≤ h50.size := by rw [W50.size]; exact Zs45
      have N50 := Fr.snoc X50 N0 gn_b45
      refine own_by st50 ?_
      show own_Go p.tables e below (T50.setTop (mkF m 95 #[.val (.int p0), .val (.int p1), .val (.int p2), .val (.int p3), .val (.int (0 : Int32)), .val (.int (0 : Int32)), .val (.int (p0.toInt8.toInt32)), .val (.int (p1.toInt8.toInt32)), .val (.int (p2.toInt8.toInt32)), .val (.ref b42), .val (.ref b45), .unset, .unset, .unset] [])) _
      obtain ⟨T56, h56, X56, e56, E56, A56, D56, -, st56⟩ := newO X50 hx hZ hown (hw _ (List.mem_of_getElem? (i := 1) rfl)) (hw _ (List.mem_of_getElem? (i := 2) rfl)) (hw _ (List.mem_of_getElem? (i := 3) rfl)) e50 (g := (mkF m 95 #[.val (.int p0), .val (.int p1), .val (.int p2), .val (.int p3), .val (.int (0 : Int32)), .val (.int (0 : Int32)), .val (.int (p0.toInt8.toInt32)), .val (.int (p1.toInt8.toInt32)), .val (.int (p2.toInt8.toInt32)), .val (.ref b42), .val (.ref b45), .unset, .unset, .unset] [])) rfl (hb hby at_95) (by decide) (by decide)
      obtain ⟨b56, g56⟩ : ∃ z, z = h50.size := ⟨_, rfl⟩
      rw [← g56] at A56 D56 st56
      have gn_b56 : n0 ≤ b56 := Nat.le_trans Zs50 (Nat.le_of_eq g56.symm)
      have ne_b42_b56 : b42 ≠ b56 := Nat.ne_of_lt (Nat.lt_of_lt_of_le f53.lt (Nat.le_of_eq g56.symm))
      have ne_b45_b56 : b45 ≠ b56 := Nat.ne_of_lt (Nat.lt_of_lt_of_le f51.lt (Nat.le_of_eq g56.symm))
      have f57 := f52.ext E56
      have f58 := f53.ext E56
      have f59 := f54.ext E56
      have f60 := f51.ext E56
      have f61 := f55.ext E56
      have Zs56 : n0 ≤ h56.size := Nat.le_trans Zs50 E56.1
      have f62 : Fld Z h56 b56 "com/example/relampago/relampago/lcp/Call" "method" "Ljava/lang/String;" .null := D56 (Or.inr (hw _ (List.mem_of_getElem? (i := 48) rfl))) (ty := (.object "java/lang/String")) (by decide)
      have f63 : Fld Z h56 b56 "com/example/relampago/relampago/lcp/Call" "request" "[B" .null := D56 (Or.inr (hw _ (List.mem_of_getElem? (i := 50) rfl))) (ty := (.array .byte)) (by decide)
      have f64 : Fld Z h56 b56 "com/example/relampago/relampago/lcp/Call" "requestContentType" "Ljava/lang/String;" .null := D56 (Or.inr (hw _ (List.mem_of_getElem? (i := 52) rfl))) (ty := (.object "java/lang/String")) (by decide)
      have f65 : Fld Z h56 b56 "com/example/relampago/relampago/lcp/Call" "params" "[B" .null := D56 (Or.inr (hw _ (List.mem_of_getElem? (i := 54) rfl))) (ty := (.array .byte)) (by decide)
      refine own_by st56 ?_
      show own_Go p.tables e below (T56.setTop (mkF m 98 #[.val (.int p0), .val (.int p1), .val (.int p2), .val (.int p3), .val (.int (0 : Int32)), .val (.int (0 : Int32)), .val (.int (p0.toInt8.toInt32)), .val (.int (p1.toInt8.toInt32)), .val (.int (p2.toInt8.toInt32)), .val (.ref b42), .val (.ref b45), .unset, .unset, .unset] [(.ref b56)])) _
      refine own_by (fun _ kt => XS.dup X56.here hx rfl (hb hby at_98) rfl rfl kt) ?_
      show own_Go p.tables e below (T56.setTop (mkF m 99 #[.val (.int p0), .val (.int p1), .val (.int p2), .val (.int p3), .val (.int (0 : Int32)), .val (.int (0 : Int32)), .val (.int (p0.toInt8.toInt32)), .val (.int (p1.toInt8.toInt32)), .val (.int (p2.toInt8.toInt32)), .val (.ref b42), .val (.ref b45), .unset, .unset, .unset] [(.ref b56), (.ref b56)])) _
      refine own_by (fun _ kt => XS.iloadN X56.here hx rfl (hb hby at_99) rfl kt) ?_
      show own_Go p.tables e below (T56.setTop (mkF m 100 #[.val (.int p0), .val (.int p1), .val (.int p2), .val (.int p3), .val (.int (0 : Int32)), .val (.int (0 : Int32)), .val (.int (p0.toInt8.toInt32)), .val (.int (p1.toInt8.toInt32)), .val (.int (p2.toInt8.toInt32)), .val (.ref b42), .val (.ref b45), .unset, .unset, .unset] [(.int p1), (.ref b56), (.ref b56)])) _
      refine own_by (fun _ kt => XS.sipush X56.here hx rfl (hb hby at_100) kt) ?_
      show own_Go p.tables e below (T56.setTop (mkF m 103 #[.val (.int p0), .val (.int p1), .val (.int p2), .val (.int p3), .val (.int (0 : Int32)), .val (.int (0 : Int32)), .val (.int (p0.toInt8.toInt32)), .val (.int (p1.toInt8.toInt32)), .val (.int (p2.toInt8.toInt32)), .val (.ref b42), .val (.ref b45), .unset, .unset, .unset] [(.int (255 : Int32)), (.int p1), (.ref b56), (.ref b56)])) _
      refine own_by (fun _ kt => XS.iand X56.here hx rfl (hb hby at_103) rfl kt) ?_
      show own_Go p.tables e below (T56.setTop (mkF m 104 #[.val (.int p0), .val (.int p1), .val (.int p2), .val (.int p3), .val (.int (0 : Int32)), .val (.int (0 : Int32)), .val (.int (p0.toInt8.toInt32)), .val (.int (p1.toInt8.toInt32)), .val (.int (p2.toInt8.toInt32)), .val (.ref b42), .val (.ref b45), .unset, .unset, .unset] [(.int (p1 &&& (255 : Int32))), (.ref b56), (.ref b56)])) _
      refine own_by (fun _ kt => XS.i2c X56.here hx rfl (hb hby at_104) rfl kt) ?_
      show own_Go p.tables e below (T56.setTop (mkF m 105 #[.val (.int p0), .val (.int p1), .val (.int p2), .val (.int p3), .val (.int (0 : Int32)), .val (.int (0 : Int32)), .val (.int (p0.toInt8.toInt32)), .val (.int (p1.toInt8.toInt32)), .val (.int (p2.toInt8.toInt32)), .val (.ref b42), .val (.ref b45), .unset, .unset, .unset] [(.int ((p1 &&& (255 : Int32)).toUInt32.toUInt16.toUInt32.toInt32)), (.ref b56), (.ref b56)])) _
      obtain ⟨_, _, ⟨T66, L66, k66, n66⟩, -, X66, ⟨Lc66, hQ66, l66, y66, z66⟩, st66⟩ := Jvm.LawKit.callS X56 hx (y := (⟨"java/lang/String", "valueOf", "(C)Ljava/lang/String;"⟩ : MethodName)) hown (mvT hZ (hw _ (List.mem_of_getElem? (i := 4) rfl))) (mvT hZ (hw _ (List.mem_of_getElem? (i := 5) rfl))) (mvT hZ (hw _ (List.mem_of_getElem? (i := 6) rfl))) (mvT hZ (hw _ (List.mem_of_getElem? (i := 7) rfl))) (by decide) (backOf (W := 2) (rm_valueOf l Z a0 hw [] ((p1 &&& (255 : Int32)).toUInt32.toUInt16.toUInt32.toInt32) (cs) h56 n0 Zs56 f57 hcs (own_chr _)) hZ (hw _ (List.mem_of_getElem? (i := 7) rfl)) (hw _ (List.mem_of_getElem? (i := 6) rfl)) (by decide) (by decide)) (g := (mkF m 105 #[.val (.int p0), .val (.int p1), .val (.int p2), .val (.int p3), .val (.int (0 : Int32)), .val (.int (0 : Int32)), .val (.int (p0.toInt8.toInt32)), .val (.int (p1.toInt8.toInt32)), .val (.int (p2.toInt8.toInt32)), .val (.ref b42), .val (.ref b45), .unset, .unset, .unset] [(.int ((p1 &&& (255 : Int32)).toUInt32.toUInt16.toUInt32.toInt32)), (.ref b56), (.ref b56)])) rfl (by rw [hml]; rfl) (argsL := [(.int ((p1 &&& (255 : Int32)).toUInt32.toUInt16.toUInt32.toInt32))]) (rest := [(.ref b56), (.ref b56)]) (lenOf pd_4 rfl) rfl (by show 2 * 0 + _ ≤ _; exact Nat.le_of_eq rfl) (hb hby at_105) (fun _ _ => ⟨rfl, e56, (by decide : 3 + 2 ≤ _), (by decide : 5 + 5 ≤ _)⟩)
      dsimp only [Pt.U, Pt.locs, Pt.cells, Pt.slots] at X66 l66 y66 z66 st66 hQ66
      subst l66 y66 z66
      obtain ⟨b66, rfl, Nq66, K66, gn_b66, szq_b66⟩ := hQ66
      have ne_b42_b66 : b42 ≠ b66 := Nat.ne_of_lt (Nat.lt_of_lt_of_le f58.lt szq_b66)
      have ne_b45_b66 : b45 ≠ b66 := Nat.ne_of_lt (Nat.lt_of_lt_of_le f60.lt szq_b66)
      have ne_b56_b66 : b56 ≠ b66 := Nat.ne_of_lt (Nat.lt_of_lt_of_le A56.lt szq_b66)
      have f67 := own_sta_keep f57 K66
      have f68 := f58.keep K66 List.not_mem_nil
      have f69 := f59.keep K66
      have f70 := f60.keep K66 List.not_mem_nil
      have f71 := f61.keep K66
      have f72 := A56.keep K66
      have f73 := f62.keep K66 List.not_mem_nil
      have f74 := f63.keep K66 List.not_mem_nil
      have f75 := f64.keep K66 List.not_mem_nil
      have f76 := f65.keep K66 List.not_mem_nil
      have Zs66 : n0 ≤ T66.heap.size := Nat.le_trans Zs56 K66.1
      have N66 := Fr.app N50 Nq66
      refine own_by (st66) ?_
      show own_Go p.tables e below (T66.setTop (mkF m 108 #[.val (.int p0), .val (.int p1), .val (.int p2), .val (.int p3), .val (.int (0 : Int32)), .val (.int (0 : Int32)), .val (.int (p0.toInt8.toInt32)), .val (.int (p1.toInt8.toInt32)), .val (.int (p2.toInt8.toInt32)), .val (.ref b42), .val (.ref b45), .unset, .unset, .unset] [(.ref b66), (.ref b56), (.ref b56)])) _
      refine own_by (fun _ kt => XS.aload X66.here hx rfl (hb hby at_108) rfl rfl kt) ?_
      show own_Go p.tables e below (T66.setTop (mkF m 110 #[.val (.int p0), .val (.int p1), .val (.int p2), .val (.int p3), .val (.int (0 : Int32)), .val (.int (0 : Int32)), .val (.int (p0.toInt8.toInt32)), .val (.int (p1.toInt8.toInt32)), .val (.int (p2.toInt8.toInt32)), .val (.ref b42), .val (.ref b45), .unset, .unset, .unset] [(.ref b45), (.ref b66), (.ref b56), (.ref b56)])) _
      refine own_by (fun _ kt => XS.iloadN X66.here hx rfl (hb hby at_110) rfl kt) ?_
      show own_Go p.tables e below (T66.setTop (mkF m 111 #[.val (.int p0), .val (.int p1), .val (.int p2), .val (.int p3), .val (.int (0 : Int32)), .val (.int (0 : Int32)), .val (.int (p0.toInt8.toInt32)), .val (.int (p1.toInt8.toInt32)), .val (.int (p2.toInt8.toInt32)), .val (.ref b42), .val (.ref b45), .unset, .unset, .unset] [(.int p2), (.ref b45), (.ref b66), (.ref b56), (.ref b56)])) _
      refine own_by (fun _ kt => XS.sipush X66.here hx rfl (hb hby at_111) kt) ?_
      show own_Go p.tables e below (T66.setTop (mkF m 114 #[.val (.int p0), .val (.int p1), .val (.int p2), .val (.int p3), .val (.int (0 : Int32)), .val (.int (0 : Int32)), .val (.int (p0.toInt8.toInt32)), .val (.int (p1.toInt8.toInt32)), .val (.int (p2.toInt8.toInt32)), .val (.ref b42), .val (.ref b45), .unset, .unset, .unset] [(.int (255 : Int32)), (.int p2), (.ref b45), (.ref b66), (.ref b56), (.ref b56)])) _
      refine own_by (fun _ kt => XS.iand X66.here hx rfl (hb hby at_114) rfl kt) ?_
      show own_Go p.tables e below (T66.setTop (mkF m 115 #[.val (.int p0), .val (.int p1), .val (.int p2), .val (.int p3), .val (.int (0 : Int32)), .val (.int (0 : Int32)), .val (.int (p0.toInt8.toInt32)), .val (.int (p1.toInt8.toInt32)), .val (.int (p2.toInt8.toInt32)), .val (.ref b42), .val (.ref b45), .unset, .unset, .unset] [(.int (p2 &&& (255 : Int32))), (.ref b45), (.ref b66), (.ref b56), (.ref b56)])) _
      refine own_by (fun _ kt => XS.i2c X66.here hx rfl (hb hby at_115) rfl kt) ?_
      show own_Go p.tables e below (T66.setTop (mkF m 116 #[.val (.int p0), .val (.int p1), .val (.int p2), .val (.int p3), .val (.int (0 : Int32)), .val (.int (0 : Int32)), .val (.int (p0.toInt8.toInt32)), .val (.int (p1.toInt8.toInt32)), .val (.int (p2.toInt8.toInt32)), .val (.ref b42), .val (.ref b45), .unset, .unset, .unset] [(.int ((p2 &&& (255 : Int32)).toUInt32.toUInt16.toUInt32.toInt32)), (.ref b45), (.ref b66), (.ref b56), (.ref b56)])) _
      obtain ⟨_, _, ⟨T77, L77, k77, n77⟩, -, X77, ⟨Lc77, hQ77, l77, y77, z77⟩, st77⟩ := Jvm.LawKit.callS X66 hx (y := (⟨"java/lang/String", "valueOf", "(C)Ljava/lang/String;"⟩ : MethodName)) hown (mvT hZ (hw _ (List.mem_of_getElem? (i := 4) rfl))) (mvT hZ (hw _ (List.mem_of_getElem? (i := 5) rfl))) (mvT hZ (hw _ (List.mem_of_getElem? (i := 6) rfl))) (mvT hZ (hw _ (List.mem_of_getElem? (i := 7) rfl))) (by decide) (backOf (W := 4) (rm_valueOf l Z a0 hw [] ((p2 &&& (255 : Int32)).toUInt32.toUInt16.toUInt32.toInt32) (cs) T66.heap n0 Zs66 f67 hcs (own_chr _)) hZ (hw _ (List.mem_of_getElem? (i := 7) rfl)) (hw _ (List.mem_of_getElem? (i := 6) rfl)) (by decide) (by decide)) (g := (mkF m 116 #[.val (.int p0), .val (.int p1), .val (.int p2), .val (.int p3), .val (.int (0 : Int32)), .val (.int (0 : Int32)), .val (.int (p0.toInt8.toInt32)), .val (.int (p1.toInt8.toInt32)), .val (.int (p2.toInt8.toInt32)), .val (.ref b42), .val (.ref b45), .unset, .unset, .unset] [(.int ((p2 &&& (255 : Int32)).toUInt32.toUInt16.toUInt32.toInt32)), (.ref b45), (.ref b66), (.ref b56), (.ref b56)])) rfl (by rw [hml]; rfl) (argsL := [(.int ((p2 &&& (255 : Int32)).toUInt32.toUInt16.toUInt32.toInt32))]) (rest := [(.ref b45), (.ref b66), (.ref b56), (.ref b56)]) (lenOf pd_4 rfl) rfl (by show 2 * 0 + _ ≤ _; exact Nat.le_of_eq rfl) (hb hby at_116) (fun _ _ => ⟨rfl, rfl, (by decide : 5 + 2 ≤ _), (by decide : 10 + 5 ≤ _)⟩)
      dsimp only [Pt.U, Pt.locs, Pt.cells, Pt.slots] at X77 l77 y77 z77 st77 hQ77
      subst l77 y77 z77
      obtain ⟨b77, rfl, Nq77, K77, gn_b77, szq_b77⟩ := hQ77
      have ne_b42_b77 : b42 ≠ b77 := Nat.ne_of_lt (Nat.lt_of_lt_of_le f68.lt szq_b77)
      have ne_b45_b77 : b45 ≠ b77 := Nat.ne_of_lt (Nat.lt_of_lt_of_le f70.lt szq_b77)
      have ne_b56_b77 : b56 ≠ b77 := Nat.ne_of_lt (Nat.lt_of_lt_of_le f72.lt szq_b77)
      have f78 := own_sta_keep f67 K77
      have f79 := f68.keep K77 List.not_mem_nil
      have f80 := f69.keep K77
      have f81 := f70.keep K77 List.not_mem_nil
      have f82 := f71.keep K77
      have f83 := f72.keep K77
      have f84 := f73.keep K77 List.not_mem_nil
      have f85 := f74.keep K77 List.not_mem_nil
      have f86 := f75.keep K77 List.not_mem_nil
      have f87 := f76.keep K77 List.not_mem_nil
      have Zs77 : n0 ≤ T77.heap.size := Nat.le_trans Zs66 K77.1
      have N77 := Fr.app N66 Nq77
      refine own_by (st77) ?_
      show own_Go p.tables e below (T77.setTop (mkF m 119 #[.val (.int p0), .val (.int p1), .val (.int p2), .val (.int p3), .val (.int (0 : Int32)), .val (.int (0 : Int32)), .val (.int (p0.toInt8.toInt32)), .val (.int (p1.toInt8.toInt32)), .val (.int (p2.toInt8.toInt32)), .val (.ref b42), .val (.ref b45), .unset, .unset, .unset] [(.ref b77), (.ref b45), (.ref b66), (.ref b56), (.ref b56)])) _
      refine own_by (fun _ kt => XS.aload X77.here hx rfl (hb hby at_119) rfl rfl kt) ?_
      show own_Go p.tables e below (T77.setTop (mkF m 121 #[.val (.int p0), .val (.int p1), .val (.int p2), .val (.int p3), .val (.int (0 : Int32)), .val (.int (0 : Int32)), .val (.int (p0.toInt8.toInt32)), .val (.int (p1.toInt8.toInt32)), .val (.int (p2.toInt8.toInt32)), .val (.ref b42), .val (.ref b45), .unset, .unset, .unset] [(.ref b42), (.ref b77), (.ref b45), (.ref b66), (.ref b56), (.ref b56)])) _
      obtain ⟨_, _, ⟨T88, L88, k88, n88⟩, -, X88, ⟨Lc88, hQ88, l88, y88, z88⟩, st88⟩ := X77.specialBack hx (y := (⟨"com/example/relampago/relampago/lcp/Call", "<init>", "(Ljava/lang/String;[BLjava/lang/String;[B)V"⟩ : MethodName)) rfl hown (mvT hZ (hw _ (List.mem_of_getElem? (i := 29) rfl))) (mvT hZ (hw _ (List.mem_of_getElem? (i := 30) rfl))) (mvT hZ (hw _ (List.mem_of_getElem? (i := 31) rfl))) (by decide) (backOf (W := 1) (rm_init1 l Z a0 hw [] b56 b66 b45 b77 b42 (k45) ((nar .byte (((p0.toUInt32 >>> ((8 : Int32) &&& 31).toUInt32).toInt32).toInt8.toInt32))) (k42) ([]) ((0 : Int32)) T77.heap n0 Zs77 f84 f85 f86 f87 f83 gn_b56 f81 f82 ne_b45_b56 f79 f80 ne_b42_b56 (by decide)) hZ (hw _ (List.mem_of_getElem? (i := 31) rfl)) (hw _ (List.mem_of_getElem? (i := 3) rfl)) (by decide) (by decide)) (g := (mkF m 121 #[.val (.int p0), .val (.int p1), .val (.int p2), .val (.int p3), .val (.int (0 : Int32)), .val (.int (0 : Int32)), .val (.int (p0.toInt8.toInt32)), .val (.int (p1.toInt8.toInt32)), .val (.int (p2.toInt8.toInt32)), .val (.ref b42), .val (.ref b45), .unset, .unset, .unset] [(.ref b42), (.ref b77), (.ref b45), (.ref b66), (.ref b56), (.ref b56)])) rfl (by rw [hml]; rfl) (Steps.refl _) (a := b56) (argsL := [(.ref b66), (.ref b45), (.ref b77), (.ref b42)]) (rest := [(.ref b56)]) (lenOf pd_5 rfl) rfl (by show 2 * 0 + _ ≤ _; exact Nat.le_of_eq rfl) (hb hby at_121) (fun _ _ => ⟨rfl, rfl, (by decide : 7 + 2 ≤ _), (by decide : 15 + 4 ≤ _)⟩)
      dsimp only [Pt.U, Pt.locs, Pt.cells, Pt.slots] at X88 l88 y88 z88 st88 hQ88
      subst l88 y88 z88
      obtain ⟨b88, rfl, Nq88, K88, gn_b88, szq_b88, f88_0, f88_1, f88_2, f88_3⟩ := hQ88
      have ne_b42_b88 : b42 ≠ b88 := Nat.ne_of_lt (Nat.lt_of_lt_of_le f79.lt szq_b88)
      have ne_b45_b88 : b45 ≠ b88 := Nat.ne_of_lt (Nat.lt_of_lt_of_le f81.lt szq_b88)
      have ne_b56_b88 : b56 ≠ b88 := Nat.ne_of_lt (Nat.lt_of_lt_of_le f83.lt szq_b88)
      have f89 := f79.keep K88 (own_nin ne_b42_b56)
      have f90 := f80.keep K88
      have f91 := f81.keep K88 (own_nin ne_b45_b56)
      have f92 := f82.keep K88
      have f93 := f83.keep K88
      have Zs88 : n0 ≤ T88.heap.size := Nat.le_trans Zs77 K88.1
      have N88 := Fr.app N77 Nq88
      refine own_by (fun _ kt => st88.trans kt) ?_
      show own_Go p.tables e below (T88.setTop (mkF m 124 #[.val (.int p0), .val (.int p1), .val (.int p2), .val (.int p3), .val (.int (0 : Int32)), .val (.int (0 : Int32)), .val (.int (p0.toInt8.toInt32)), .val (.int (p1.toInt8.toInt32)), .val (.int (p2.toInt8.toInt32)), .val (.ref b42), .val (.ref b45), .unset, .unset, .unset] [(.ref b56)])) _
      refine own_by (fun _ kt => XS.astore X88.here hx rfl (hb hby at_124) rfl rfl (l' := #[.val (.int p0), .val (.int p1), .val (.int p2), .val (.int p3), .val (.int (0 : Int32)), .val (.int (0 : Int32)), .val (.int (p0.toInt8.toInt32)), .val (.int (p1.toInt8.toInt32)), .val (.int (p2.toInt8.toInt32)), .val (.ref b42), .val (.ref b45), .val (.ref b56), .unset, .unset]) rfl kt) ?_
      show own_Go p.tables e below (T88.setTop (mkF m 126 #[.val (.int p0), .val (.int p1), .val (.int p2), .val (.int p3), .val (.int (0 : Int32)), .val (.int (0 : Int32)), .val (.int (p0.toInt8.toInt32)), .val (.int (p1.toInt8.toInt32)), .val (.int (p2.toInt8.toInt32)), .val (.ref b42), .val (.ref b45), .val (.ref b56), .unset, .unset] [])) _
      refine own_by (fun _ kt => XS.iload X88.here hx rfl (hb hby at_126) rfl kt) ?_
      show own_Go p.tables e below (T88.setTop (mkF m 128 #[.val (.int p0), .val (.int p1), .val (.int p2), .val (.int p3), .val (.int (0 : Int32)), .val (.int (0 : Int32)), .val (.int (p0.toInt8.toInt32)), .val (.int (p1.toInt8.toInt32)), .val (.int (p2.toInt8.toInt32)), .val (.ref b42), .val (.ref b45), .val (.ref b56), .unset, .unset] [(.int (0 : Int32))])) _
      refine own_by (fun _ kt => XS.ifNo X88.here hx rfl (hb hby at_128) rfl ((if0 _ _).trans (teq (by decide : (0 : Int32) = (0 : Int32))).2) kt) ?_
      show own_Go p.tables e below (T88.setTop (mkF m 131 #[.val (.int p0), .val (.int p1), .val (.int p2), .val (.int p3), .val (.int (0 : Int32)), .val (.int (0 : Int32)), .val (.int (p0.toInt8.toInt32)), .val (.int (p1.toInt8.toInt32)), .val (.int (p2.toInt8.toInt32)), .val (.ref b42), .val (.ref b45), .val (.ref b56), .unset, .unset] [])) _
      refine own_by (fun _ kt => XS.aload X88.here hx rfl (hb hby at_131) rfl rfl kt) ?_
      show own_Go p.tables e below (T88.setTop (mkF m 133 #[.val (.int p0), .val (.int p1), .val (.int p2), .val (.int p3), .val (.int (0 : Int32)), .val (.int (0 : Int32)), .val (.int (p0.toInt8.toInt32)), .val (.int (p1.toInt8.toInt32)), .val (.int (p2.toInt8.toInt32)), .val (.ref b42), .val (.ref b45), .val (.ref b56), .unset, .unset] [(.ref b42)])) _
      refine own_by (fun _ kt => XS.iload X88.here hx rfl (hb hby at_133) rfl kt) ?_
      show own_Go p.tables e below (T88.setTop (mkF m 135 #[.val (.int p0), .val (.int p1), .val (.int p2), .val (.int p3), .val (.int (0 : Int32)), .val (.int (0 : Int32)), .val (.int (p0.toInt8.toInt32)), .val (.int (p1.toInt8.toInt32)), .val (.int (p2.toInt8.toInt32)), .val (.ref b42), .val (.ref b45), .val (.ref b56), .unset, .unset] [(.int (0 : Int32)), (.ref b42)])) _
      obtain ⟨_, _, ⟨T94, L94, k94, n94⟩, -, X94, ⟨Lc94, hQ94, l94, y94, z94⟩, st94⟩ := Jvm.LawKit.callS X88 hx (y := (⟨"com/example/relampago/relampago/lcp/CallParamsPinLaw", "bump", "([BI)V"⟩ : MethodName)) hown (mvT hZ (hw _ (List.mem_of_getElem? (i := 55) rfl))) (mvT hZ (hw _ (List.mem_of_getElem? (i := 56) rfl))) (mvT hZ (hw _ (List.mem_of_getElem? (i := 57) rfl))) (mvT hZ (hw _ (List.mem_of_getElem? (i := 58) rfl))) (by decide) (backOf (W := 0) (rm_bump0 l Z a0 hw [] b42 (k42) T88.heap n0 Zs88 f89 gn_b42) hZ (hw _ (List.mem_of_getElem? (i := 58) rfl)) (hw _ (List.mem_of_getElem? (i := 57) rfl)) (by decide) (by decide)) (g := (mkF m 135 #[.val (.int p0), .val (.int p1), .val (.int p2), .val (.int p3), .val (.int (0 : Int32)), .val (.int (0 : Int32)), .val (.int (p0.toInt8.toInt32)), .val (.int (p1.toInt8.toInt32)), .val (.int (p2.toInt8.toInt32)), .val (.ref b42), .val (.ref b45), .val (.ref b56), .unset, .unset] [(.int (0 : Int32)), (.ref b42)])) rfl (by rw [hml]; rfl) (argsL := [(.ref b42), (.int (0 : Int32))]) (rest := []) (lenOf pd_7 rfl) rfl (by show 2 * 0 + _ ≤ _; exact Nat.le_of_eq rfl) (hb hby at_135) (fun _ _ => ⟨rfl, rfl, (by decide : 9 + 0 ≤ _), (by decide : 19 + 0 ≤ _)⟩)
      dsimp only [Pt.U, Pt.locs, Pt.cells, Pt.slots] at X94 l94 y94 z94 st94 hQ94
      subst l94 y94 z94
      obtain ⟨rfl, Nq94, K94, f94_0⟩ := hQ94
      have f95 := f90.keep K94
      have f96 := f91.keep K94 (own_nin (Ne.symm ne_b42_b45))
      have f97 := f92.keep K94
      have f98 := f88_0.keep K94
      have f99 := f88_1.keep K94 (own_nin (Ne.symm ne_b42_b56))
      have f100 := f88_2.keep K94 (own_nin (Ne.symm ne_b42_b88))
      have f101 := f88_3.keep K94
      have Zs94 : n0 ≤ T94.heap.size := Nat.le_trans Zs88 K94.1
      have N94 := Fr.app N88 Nq94
      refine own_by (st94) ?_
      show own_Go p.tables e below (T94.setTop (mkF m 138 #[.val (.int p0), .val (.int p1), .val (.int p2), .val (.int p3), .val (.int (0 : Int32)), .val (.int (0 : Int32)), .val (.int (p0.toInt8.toInt32)), .val (.int (p1.toInt8.toInt32)), .val (.int (p2.toInt8.toInt32)), .val (.ref b42), .val (.ref b45), .val (.ref b56), .unset, .unset] [])) _
      refine own_by (fun _ kt => XS.aload X94.here hx rfl (hb hby at_138) rfl rfl kt) ?_
      show own_Go p.tables e below (T94.setTop (mkF m 140 #[.val (.int p0), .val (.int p1), .val (.int p2), .val (.int p3), .val (.int (0 : Int32)), .val (.int (0 : Int32)), .val (.int (p0.toInt8.toInt32)), .val (.int (p1.toInt8.toInt32)), .val (.int (p2.toInt8.toInt32)), .val (.ref b42), .val (.ref b45), .val (.ref b56), .unset, .unset] [(.ref b56)])) _
      obtain ⟨cq102, kq102, q102a, q102b, q102c⟩ := isOf hZ rfl f98
      obtain ⟨_, _, ⟨T102, L102, k102, n102⟩, -, X102, ⟨Lc102, hQ102, l102, y102, z102⟩, st102⟩ := X94.virtualBack hx (y := (⟨"com/example/relampago/relampago/lcp/Call", "params", "()[B"⟩ : MethodName)) (z := (⟨"com/example/relampago/relampago/lcp/Call", "params", "()[B"⟩ : MethodName)) hown (mvT hZ (hw _ (List.mem_of_getElem? (i := 59) rfl))) (mvT hZ (hw _ (List.mem_of_getElem? (i := 60) rfl))) (notFace_of_selects (args := #[]) (mvT hZ (hw _ (List.mem_of_getElem? (i := 62) rfl)))) (mvT hZ (hw _ (List.mem_of_getElem? (i := 62) rfl))) (mvT hZ (hw _ (List.mem_of_getElem? (i := 61) rfl))) (by decide) (backOf (W := 0) (rm_params1 l Z a0 hw [] b56 (b88) (k42) ([]) ((0 : Int32)) T94.heap n0 Zs94 f99 f100 f101 (by decide)) hZ (hw _ (List.mem_of_getElem? (i := 63) rfl)) (hw _ (List.mem_of_getElem? (i := 3) rfl)) (by decide) (by decide)) q102a q102c (g := (mkF m 140 #[.val (.int p0), .val (.int p1), .val (.int p2), .val (.int p3), .val (.int (0 : Int32)), .val (.int (0 : Int32)), .val (.int (p0.toInt8.toInt32)), .val (.int (p1.toInt8.toInt32)), .val (.int (p2.toInt8.toInt32)), .val (.ref b42), .val (.ref b45), .val (.ref b56), .unset, .unset] [(.ref b56)])) rfl (by rw [hml]; rfl) (Steps.refl _) (argsL := []) (rest := []) (lenOf pd_6 rfl) rfl (by show 2 * 0 + _ ≤ _; exact Nat.le_of_eq rfl) (hb hby at_140) (fun _ _ => ⟨rfl, rfl, (by decide : 9 + 1 ≤ _), (by decide : 19 + 3 ≤ _)⟩)
      dsimp only [Pt.U, Pt.locs, Pt.cells, Pt.slots] at X102 l102 y102 z102 st102 hQ102
      subst l102 y102 z102
      obtain ⟨b102, rfl, Nq102, K102, gn_b102, szq_b102, f102_0, f102_1⟩ := hQ102
      have ne_b42_b102 : b42 ≠ b102 := Nat.ne_of_lt (Nat.lt_of_lt_of_le f95.lt szq_b102)
      have ne_b45_b102 : b45 ≠ b102 := Nat.ne_of_lt (Nat.lt_of_lt_of_le f96.lt szq_b102)
      have ne_b56_b102 : b56 ≠ b102 := Nat.ne_of_lt (Nat.lt_of_lt_of_le f98.lt szq_b102)
      have ne_b88_b102 : b88 ≠ b102 := Nat.ne_of_lt (Nat.lt_of_lt_of_le f100.lt szq_b102)
      have f103 := f95.keep K102
      have f104 := f96.keep K102 List.not_mem_nil
      have f105 := f97.keep K102
      have f106 := f98.keep K102
      have f107 := f99.keep K102 List.not_mem_nil
      have f108 := f100.keep K102 List.not_mem_nil
      have f109 := f101.keep K102
      have f110 := f94_0.keep K102 List.not_mem_nil
      have Zs102 : n0 ≤ T102.heap.size := Nat.le_trans Zs94 K102.1
      have N102 := Fr.app N94 Nq102
      refine own_by (fun _ kt => st102.trans kt) ?_
      show own_Go p.tables e below (T102.setTop (mkF m 143 #[.val (.int p0), .val (.int p1), .val (.int p2), .val (.int p3), .val (.int (0 : Int32)), .val (.int (0 : Int32)), .val (.int (p0.toInt8.toInt32)), .val (.int (p1.toInt8.toInt32)), .val (.int (p2.toInt8.toInt32)), .val (.ref b42), .val (.ref b45), .val (.ref b56), .unset, .unset] [(.ref b102)])) _
      refine own_by (fun _ kt => XS.astore X102.here hx rfl (hb hby at_143) rfl rfl (l' := #[.val (.int p0), .val (.int p1), .val (.int p2), .val (.int p3), .val (.int (0 : Int32)), .val (.int (0 : Int32)), .val (.int (p0.toInt8.toInt32)), .val (.int (p1.toInt8.toInt32)), .val (.int (p2.toInt8.toInt32)), .val (.ref b42), .val (.ref b45), .val (.ref b56), .val (.ref b102), .unset]) rfl kt) ?_
      show own_Go p.tables e below (T102.setTop (mkF m 145 #[.val (.int p0), .val (.int p1), .val (.int p2), .val (.int p3), .val (.int (0 : Int32)), .val (.int (0 : Int32)), .val (.int (p0.toInt8.toInt32)), .val (.int (p1.toInt8.toInt32)), .val (.int (p2.toInt8.toInt32)), .val (.ref b42), .val (.ref b45), .val (.ref b56), .val (.ref b102), .unset] [])) _
      refine own_by (fun _ kt => XS.iload X102.here hx rfl (hb hby at_145) rfl kt) ?_
      show own_Go p.tables e below (T102.setTop (mkF m 147 #[.val (.int p0), .val (.int p1), .val (.int p2), .val (.int p3), .val (.int (0 : Int32)), .val (.int (0 : Int32)), .val (.int (p0.toInt8.toInt32)), .val (.int (p1.toInt8.toInt32)), .val (.int (p2.toInt8.toInt32)), .val (.ref b42), .val (.ref b45), .val (.ref b56), .val (.ref b102), .unset] [(.int (0 : Int32))])) _
      refine own_by (fun _ kt => XS.ifYes X102.here hx rfl (pc0 := 147) (pc' := 169) rfl (hb hby at_147) rfl ((if0 _ _).trans (teq (by decide : (0 : Int32) = (0 : Int32))).1) (by decide) (by decide) kt) ?_
      show own_Go p.tables e below (T102.setTop (mkF m 169 #[.val (.int p0), .val (.int p1), .val (.int p2), .val (.int p3), .val (.int (0 : Int32)), .val (.int (0 : Int32)), .val (.int (p0.toInt8.toInt32)), .val (.int (p1.toInt8.toInt32)), .val (.int (p2.toInt8.toInt32)), .val (.ref b42), .val (.ref b45), .val (.ref b56), .val (.ref b102), .unset] [])) _
      refine own_by (fun _ kt => XS.aload X102.here hx rfl (hb hby at_169) rfl rfl kt) ?_
      show own_Go p.tables e below (T102.setTop (mkF m 171 #[.val (.int p0), .val (.int p1), .val (.int p2), .val (.int p3), .val (.int (0 : Int32)), .val (.int (0 : Int32)), .val (.int (p0.toInt8.toInt32)), .val (.int (p1.toInt8.toInt32)), .val (.int (p2.toInt8.toInt32)), .val (.ref b42), .val (.ref b45), .val (.ref b56), .val (.ref b102), .unset] [(.ref b102)])) _
      refine own_by (fun _ kt => XS.ifnullNo X102.here hx rfl (hb hby at_171) rfl kt) ?_
      show own_Go p.tables e below (T102.setTop (mkF m 174 #[.val (.int p0), .val (.int p1), .val (.int p2), .val (.int p3), .val (.int (0 : Int32)), .val (.int (0 : Int32)), .val (.int (p0.toInt8.toInt32)), .val (.int (p1.toInt8.toInt32)), .val (.int (p2.toInt8.toInt32)), .val (.ref b42), .val (.ref b45), .val (.ref b56), .val (.ref b102), .unset] [])) _
      refine own_by (fun _ kt => XS.aload X102.here hx rfl (hb hby at_174) rfl rfl kt) ?_
      show own_Go p.tables e below (T102.setTop (mkF m 176 #[.val (.int p0), .val (.int p1), .val (.int p2), .val (.int p3), .val (.int (0 : Int32)), .val (.int (0 : Int32)), .val (.int (p0.toInt8.toInt32)), .val (.int (p1.toInt8.toInt32)), .val (.int (p2.toInt8.toInt32)), .val (.ref b42), .val (.ref b45), .val (.ref b56), .val (.ref b102), .unset] [(.ref b102)])) _
      refine own_by (fun _ kt => XS.aload X102.here hx rfl (hb hby at_176) rfl rfl kt) ?_
      show own_Go p.tables e below (T102.setTop (mkF m 178 #[.val (.int p0), .val (.int p1), .val (.int p2), .val (.int p3), .val (.int (0 : Int32)), .val (.int (0 : Int32)), .val (.int (p0.toInt8.toInt32)), .val (.int (p1.toInt8.toInt32)), .val (.int (p2.toInt8.toInt32)), .val (.ref b42), .val (.ref b45), .val (.ref b56), .val (.ref b102), .unset] [(.ref b42), (.ref b102)])) _
      refine own_by (fun _ kt => Jvm.RoadKit.acmp (g := (mkF m 178 #[.val (.int p0), .val (.int p1), .val (.int p2), .val (.int p3), .val (.int (0 : Int32)), .val (.int (0 : Int32)), .val (.int (p0.toInt8.toInt32)), .val (.int (p1.toInt8.toInt32)), .val (.int (p2.toInt8.toInt32)), .val (.ref b42), .val (.ref b45), .val (.ref b56), .val (.ref b102), .unset] [(.ref b42), (.ref b102)])) X102 hx rfl rfl rfl (pc0 := 178) (pc' := 183) (same := false) rfl (hb hby at_178) rfl (decide_eq_false fun q => (Ne.symm ne_b42_b102) (Value.ref.inj q)) (by decide) (by decide) kt) ?_
      show own_Go p.tables e below (T102.setTop (mkF m 183 #[.val (.int p0), .val (.int p1), .val (.int p2), .val (.int p3), .val (.int (0 : Int32)), .val (.int (0 : Int32)), .val (.int (p0.toInt8.toInt32)), .val (.int (p1.toInt8.toInt32)), .val (.int (p2.toInt8.toInt32)), .val (.ref b42), .val (.ref b45), .val (.ref b56), .val (.ref b102), .unset] [])) _
      refine own_by (fun _ kt => XS.aload X102.here hx rfl (hb hby at_183) rfl rfl kt) ?_
      show own_Go p.tables e below (T102.setTop (mkF m 185 #[.val (.int p0), .val (.int p1), .val (.int p2), .val (.int p3), .val (.int (0 : Int32)), .val (.int (0 : Int32)), .val (.int (p0.toInt8.toInt32)), .val (.int (p1.toInt8.toInt32)), .val (.int (p2.toInt8.toInt32)), .val (.ref b42), .val (.ref b45), .val (.ref b56), .val (.ref b102), .unset] [(.ref b102)])) _
      refine own_by (fun _ kt => XS.iload X102.here hx rfl (hb hby at_185) rfl kt) ?_
      show own_Go p.tables e below (T102.setTop (mkF m 187 #[.val (.int p0), .val (.int p1), .val (.int p2), .val (.int p3), .val (.int (0 : Int32)), .val (.int (0 : Int32)), .val (.int (p0.toInt8.toInt32)), .val (.int (p1.toInt8.toInt32)), .val (.int (p2.toInt8.toInt32)), .val (.ref b42), .val (.ref b45), .val (.ref b56), .val (.ref b102), .unset] [(.int (0 : Int32)), (.ref b102)])) _
      refine own_by (fun _ kt => XS.iload X102.here hx rfl (hb hby at_187) rfl kt) ?_
      show own_Go p.tables e below (T102.setTop (mkF m 189 #[.val (.int p0), .val (.int p1), .val (.int p2), .val (.int p3), .val (.int (0 : Int32)), .val (.int (0 : Int32)), .val (.int (p0.toInt8.toInt32)), .val (.int (p1.toInt8.toInt32)), .val (.int (p2.toInt8.toInt32)), .val (.ref b42), .val (.ref b45), .val (.ref b56), .val (.ref b102), .unset] [(.int (p0.toInt8.toInt32)), (.int (0 : Int32)), (.ref b102)])) _
      refine own_by (fun _ kt => XS.iload X102.here hx rfl (hb hby at_189) rfl kt) ?_
      show own_Go p.tables e below (T102.setTop (mkF m 191 #[.val (.int p0), .val (.int p1), .val (.int p2), .val (.int p3), .val (.int (0 : Int32)), .val (.int (0 : Int32)), .val (.int (p0.toInt8.toInt32)), .val (.int (p1.toInt8.toInt32)), .val (.int (p2.toInt8.toInt32)), .val (.ref b42), .val (.ref b45), .val (.ref b56), .val (.ref b102), .unset] [(.int (p1.toInt8.toInt32)), (.int (p0.toInt8.toInt32)), (.int (0 : Int32)), (.ref b102)])) _
      refine own_by (fun _ kt => XS.iload X102.here hx rfl (hb hby at_191) rfl kt) ?_
      show own_Go p.tables e below (T102.setTop (mkF m 193 #[.val (.int p0), .val (.int p1), .val (.int p2), .val (.int p3), .val (.int (0 : Int32)), .val (.int (0 : Int32)), .val (.int (p0.toInt8.toInt32)), .val (.int (p1.toInt8.toInt32)), .val (.int (p2.toInt8.toInt32)), .val (.ref b42), .val (.ref b45), .val (.ref b56), .val (.ref b102), .unset] [(.int (p2.toInt8.toInt32)), (.int (p1.toInt8.toInt32)), (.int (p0.toInt8.toInt32)), (.int (0 : Int32)), (.ref b102)])) _
      obtain ⟨_, _, ⟨T111, L111, k111, n111⟩, -, X111, ⟨Lc111, hQ111, l111, y111, z111⟩, st111⟩ := Jvm.LawKit.callS X102 hx (y := (⟨"com/example/relampago/relampago/lcp/CallParamsPinLaw", "same", "([BIBBB)Z"⟩ : MethodName)) hown (mvT hZ (hw _ (List.mem_of_getElem? (i := 64) rfl))) (mvT hZ (hw _ (List.mem_of_getElem? (i := 65) rfl))) (mvT hZ (hw _ (List.mem_of_getElem? (i := 57) rfl))) (mvT hZ (hw _ (List.mem_of_getElem? (i := 66) rfl))) (by decide) (backOf (W := 0) (rm_same0 l Z a0 hw [] b102 (p0.toInt8.toInt32) (p1.toInt8.toInt32) (p2.toInt8.toInt32) (k42) T102.heap n0 Zs102 f102_0) hZ (hw _ (List.mem_of_getElem? (i := 66) rfl)) (hw _ (List.mem_of_getElem? (i := 57) rfl)) (by decide) (by decide)) (g := (mkF m 193 #[.val (.int p0), .val (.int p1), .val (.int p2), .val (.int p3), .val (.int (0 : Int32)), .val (.int (0 : Int32)), .val (.int (p0.toInt8.toInt32)), .val (.int (p1.toInt8.toInt32)), .val (.int (p2.toInt8.toInt32)), .val (.ref b42), .val (.ref b45), .val (.ref b56), .val (.ref b102), .unset] [(.int (p2.toInt8.toInt32)), (.int (p1.toInt8.toInt32)), (.int (p0.toInt8.toInt32)), (.int (0 : Int32)), (.ref b102)])) rfl (by rw [hml]; rfl) (argsL := [(.ref b102), (.int (0 : Int32)), (.int (p0.toInt8.toInt32)), (.int (p1.toInt8.toInt32)), (.int (p2.toInt8.toInt32))]) (rest := []) (lenOf pd_8 rfl) rfl (by show 2 * 0 + _ ≤ _; exact Nat.le_of_eq rfl) (hb hby at_193) (fun _ _ => ⟨rfl, rfl, (by decide : 10 + 0 ≤ _), (by decide : 22 + 0 ≤ _)⟩)
      dsimp only [Pt.U, Pt.locs, Pt.cells, Pt.slots] at X111 l111 y111 z111 st111 hQ111
      subst l111 y111 z111
      obtain ⟨rfl, Nq111, eh111⟩ := hQ111
      have N111 := Fr.app N102 Nq111
      refine own_by (st111) ?_
      show own_Go p.tables e below (T111.setTop (mkF m 196 #[.val (.int p0), .val (.int p1), .val (.int p2), .val (.int p3), .val (.int (0 : Int32)), .val (.int (0 : Int32)), .val (.int (p0.toInt8.toInt32)), .val (.int (p1.toInt8.toInt32)), .val (.int (p2.toInt8.toInt32)), .val (.ref b42), .val (.ref b45), .val (.ref b56), .val (.ref b102), .unset] [(.int (1 : Int32))])) _
      refine own_by (fun _ kt => XS.ifYes X111.here hx rfl (pc0 := 196) (pc' := 201) rfl (hb hby at_196) rfl ((if0 _ _).trans (feq (by decide : ¬ ((1 : Int32) = (0 : Int32)))).2) (by decide) (by decide) kt) ?_
      show own_Go p.tables e below (T111.setTop (mkF m 201 #[.val (.int p0), .val (.int p1), .val (.int p2), .val (.int p3), .val (.int (0 : Int32)), .val (.int (0 : Int32)), .val (.int (p0.toInt8.toInt32)), .val (.int (p1.toInt8.toInt32)), .val (.int (p2.toInt8.toInt32)), .val (.ref b42), .val (.ref b45), .val (.ref b56), .val (.ref b102), .unset] [])) _
      refine own_by (fun _ kt => XS.aload X111.here hx rfl (hb hby at_201) rfl rfl kt) ?_
      show own_Go p.tables e below (T111.setTop (mkF m 203 #[.val (.int p0), .val (.int p1), .val (.int p2), .val (.int p3), .val (.int (0 : Int32)), .val (.int (0 : Int32)), .val (.int (p0.toInt8.toInt32)), .val (.int (p1.toInt8.toInt32)), .val (.int (p2.toInt8.toInt32)), .val (.ref b42), .val (.ref b45), .val (.ref b56), .val (.ref b102), .unset] [(.ref b102)])) _
      refine own_by (fun _ kt => XS.iload X111.here hx rfl (hb hby at_203) rfl kt) ?_
      show own_Go p.tables e below (T111.setTop (mkF m 205 #[.val (.int p0), .val (.int p1), .val (.int p2), .val (.int p3), .val (.int (0 : Int32)), .val (.int (0 : Int32)), .val (.int (p0.toInt8.toInt32)), .val (.int (p1.toInt8.toInt32)), .val (.int (p2.toInt8.toInt32)), .val (.ref b42), .val (.ref b45), .val (.ref b56), .val (.ref b102), .unset] [(.int (0 : Int32)), (.ref b102)])) _
      obtain ⟨_, _, ⟨T112, L112, k112, n112⟩, -, X112, ⟨Lc112, hQ112, l112, y112, z112⟩, st112⟩ := Jvm.LawKit.callS X111 hx (y := (⟨"com/example/relampago/relampago/lcp/CallParamsPinLaw", "bump", "([BI)V"⟩ : MethodName)) hown (mvT hZ (hw _ (List.mem_of_getElem? (i := 55) rfl))) (mvT hZ (hw _ (List.mem_of_getElem? (i := 56) rfl))) (mvT hZ (hw _ (List.mem_of_getElem? (i := 57) rfl))) (mvT hZ (hw _ (List.mem_of_getElem? (i := 58) rfl))) (by decide) (backOf (W := 0) (rm_bump0 l Z a0 hw [] b102 (k42) T102.heap n0 Zs102 f102_0 gn_b102) hZ (hw _ (List.mem_of_getElem? (i := 58) rfl)) (hw _ (List.mem_of_getElem? (i := 57) rfl)) (by decide) (by decide)) (g := (mkF m 205 #[.val (.int p0), .val (.int p1), .val (.int p2), .val (.int p3), .val (.int (0 : Int32)), .val (.int (0 : Int32)), .val (.int (p0.toInt8.toInt32)), .val (.int (p1.toInt8.toInt32)), .val (.int (p2.toInt8.toInt32)), .val (.ref b42), .val (.ref b45), .val (.ref b56), .val (.ref b102), .unset] [(.int (0 : Int32)), (.ref b102)])) rfl (by rw [hml]; rfl) (argsL := [(.ref b102), (.int (0 : Int32))]) (rest := []) (lenOf pd_7 rfl) rfl (by show 2 * 0 + _ ≤ _; exact Nat.le_of_eq rfl) (hb hby at_205) (fun _ _ => ⟨rfl, eh111, (by decide : 10 + 0 ≤ _), (by decide : 22 + 0 ≤ _)⟩)
      dsimp only [Pt.U, Pt.locs, Pt.cells, Pt.slots] at X112 l112 y112 z112 st112 hQ112
      subst l112 y112 z112
      obtain ⟨rfl, Nq112, K112, f112_0⟩ := hQ112
      have f113 := f103.keep K112
      have f114 := f104.keep K112 (own_nin ne_b45_b102)
      have f115 := f105.keep K112
      have f116 := f106.keep K112
      have f117 := f107.keep K112 (own_nin ne_b56_b102)
      have f118 := f108.keep K112 (own_nin ne_b88_b102)
      have f119 := f109.keep K112
      have f120 := f110.keep K112 (own_nin ne_b42_b102)
      have f121 := f102_1.keep K112
      have Zs112 : n0 ≤ T112.heap.size := Nat.le_trans Zs102 K112.1
      have N112 := Fr.app N111 Nq112
      refine own_by (st112) ?_
      show own_Go p.tables e below (T112.setTop (mkF m 208 #[.val (.int p0), .val (.int p1), .val (.int p2), .val (.int p3), .val (.int (0 : Int32)), .val (.int (0 : Int32)), .val (.int (p0.toInt8.toInt32)), .val (.int (p1.toInt8.toInt32)), .val (.int (p2.toInt8.toInt32)), .val (.ref b42), .val (.ref b45), .val (.ref b56), .val (.ref b102), .unset] [])) _
      refine own_by (fun _ kt => XS.aload X112.here hx rfl (hb hby at_208) rfl rfl kt) ?_
      show own_Go p.tables e below (T112.setTop (mkF m 210 #[.val (.int p0), .val (.int p1), .val (.int p2), .val (.int p3), .val (.int (0 : Int32)), .val (.int (0 : Int32)), .val (.int (p0.toInt8.toInt32)), .val (.int (p1.toInt8.toInt32)), .val (.int (p2.toInt8.toInt32)), .val (.ref b42), .val (.ref b45), .val (.ref b56), .val (.ref b102), .unset] [(.ref b56)])) _
      obtain ⟨cq122, kq122, q122a, q122b, q122c⟩ := isOf hZ rfl f116
      obtain ⟨_, _, ⟨T122, L122, k122, n122⟩, -, X122, ⟨Lc122, hQ122, l122, y122, z122⟩, st122⟩ := X112.virtualBack hx (y := (⟨"com/example/relampago/relampago/lcp/Call", "params", "()[B"⟩ : MethodName)) (z := (⟨"com/example/relampago/relampago/lcp/Call", "params", "()[B"⟩ : MethodName)) hown (mvT hZ (hw _ (List.mem_of_getElem? (i := 59) rfl))) (mvT hZ (hw _ (List.mem_of_getElem? (i := 60) rfl))) (notFace_of_selects (args := #[]) (mvT hZ (hw _ (List.mem_of_getElem? (i := 62) rfl)))) (mvT hZ (hw _ (List.mem_of_getElem? (i := 62) rfl))) (mvT hZ (hw _ (List.mem_of_getElem? (i := 61) rfl))) (by decide) (backOf (W := 0) (rm_params1 l Z a0 hw [] b56 (b88) (k42) ([]) ((0 : Int32)) T112.heap n0 Zs112 f117 f118 f119 (by decide)) hZ (hw _ (List.mem_of_getElem? (i := 63) rfl)) (hw _ (List.mem_of_getElem? (i := 3) rfl)) (by decide) (by decide)) q122a q122c (g := (mkF m 210 #[.val (.int p0), .val (.int p1), .val (.int p2), .val (.int p3), .val (.int (0 : Int32)), .val (.int (0 : Int32)), .val (.int (p0.toInt8.toInt32)), .val (.int (p1.toInt8.toInt32)), .val (.int (p2.toInt8.toInt32)), .val (.ref b42), .val (.ref b45), .val (.ref b56), .val (.ref b102), .unset] [(.ref b56)])) rfl (by rw [hml]; rfl) (Steps.refl _) (argsL := []) (rest := []) (lenOf pd_6 rfl) rfl (by show 2 * 0 + _ ≤ _; exact Nat.le_of_eq rfl) (hb hby at_210) (fun _ _ => ⟨rfl, rfl, (by decide : 10 + 1 ≤ _), (by decide : 22 + 3 ≤ _)⟩)
      dsimp only [Pt.U, Pt.locs, Pt.cells, Pt.slots] at X122 l122 y122 z122 st122 hQ122
      subst l122 y122 z122
      obtain ⟨b122, rfl, Nq122, K122, gn_b122, szq_b122, f122_0, f122_1⟩ := hQ122
      have ne_b42_b122 : b42 ≠ b122 := Nat.ne_of_lt (Nat.lt_of_lt_of_le f113.lt szq_b122)
      have ne_b45_b122 : b45 ≠ b122 := Nat.ne_of_lt (Nat.lt_of_lt_of_le f114.lt szq_b122)
      have ne_b56_b122 : b56 ≠ b122 := Nat.ne_of_lt (Nat.lt_of_lt_of_le f116.lt szq_b122)
      have ne_b88_b122 : b88 ≠ b122 := Nat.ne_of_lt (Nat.lt_of_lt_of_le f118.lt szq_b122)
      have ne_b102_b122 : b102 ≠ b122 := Nat.ne_of_lt (Nat.lt_of_lt_of_le f121.lt szq_b122)
      have f123 := f113.keep K122
      have f124 := f114.keep K122 List.not_mem_nil
      have f125 := f115.keep K122
      have f126 := f116.keep K122
      have f127 := f117.keep K122 List.not_mem_nil
      have f128 := f118.keep K122 List.not_mem_nil
      have f129 := f119.keep K122
      have f130 := f120.keep K122 List.not_mem_nil
      have f131 := f121.keep K122
      have f132 := f112_0.keep K122 List.not_mem_nil
      have Zs122 : n0 ≤ T122.heap.size := Nat.le_trans Zs112 K122.1
      have N122 := Fr.app N112 Nq122
      refine own_by (fun _ kt => st122.trans kt) ?_
      show own_Go p.tables e below (T122.setTop (mkF m 213 #[.val (.int p0), .val (.int p1), .val (.int p2), .val (.int p3), .val (.int (0 : Int32)), .val (.int (0 : Int32)), .val (.int (p0.toInt8.toInt32)), .val (.int (p1.toInt8.toInt32)), .val (.int (p2.toInt8.toInt32)), .val (.ref b42), .val (.ref b45), .val (.ref b56), .val (.ref b102), .unset] [(.ref b122)])) _
      refine own_by (fun _ kt => XS.astore X122.here hx rfl (hb hby at_213) rfl rfl (l' := #[.val (.int p0), .val (.int p1), .val (.int p2), .val (.int p3), .val (.int (0 : Int32)), .val (.int (0 : Int32)), .val (.int (p0.toInt8.toInt32)), .val (.int (p1.toInt8.toInt32)), .val (.int (p2.toInt8.toInt32)), .val (.ref b42), .val (.ref b45), .val (.ref b56), .val (.ref b102), .val (.ref b122)]) rfl kt) ?_
      show own_Go p.tables e below (T122.setTop (mkF m 215 #[.val (.int p0), .val (.int p1), .val (.int p2), .val (.int p3), .val (.int (0 : Int32)), .val (.int (0 : Int32)), .val (.int (p0.toInt8.toInt32)), .val (.int (p1.toInt8.toInt32)), .val (.int (p2.toInt8.toInt32)), .val (.ref b42), .val (.ref b45), .val (.ref b56), .val (.ref b102), .val (.ref b122)] [])) _
      refine own_by (fun _ kt => XS.aload X122.here hx rfl (hb hby at_215) rfl rfl kt) ?_
      show own_Go p.tables e below (T122.setTop (mkF m 217 #[.val (.int p0), .val (.int p1), .val (.int p2), .val (.int p3), .val (.int (0 : Int32)), .val (.int (0 : Int32)), .val (.int (p0.toInt8.toInt32)), .val (.int (p1.toInt8.toInt32)), .val (.int (p2.toInt8.toInt32)), .val (.ref b42), .val (.ref b45), .val (.ref b56), .val (.ref b102), .val (.ref b122)] [(.ref b122)])) _
      refine own_by (fun _ kt => XS.ifnullNo X122.here hx rfl (hb hby at_217) rfl kt) ?_
      show own_Go p.tables e below (T122.setTop (mkF m 220 #[.val (.int p0), .val (.int p1), .val (.int p2), .val (.int p3), .val (.int (0 : Int32)), .val (.int (0 : Int32)), .val (.int (p0.toInt8.toInt32)), .val (.int (p1.toInt8.toInt32)), .val (.int (p2.toInt8.toInt32)), .val (.ref b42), .val (.ref b45), .val (.ref b56), .val (.ref b102), .val (.ref b122)] [])) _
      refine own_by (fun _ kt => XS.aload X122.here hx rfl (hb hby at_220) rfl rfl kt) ?_
      show own_Go p.tables e below (T122.setTop (mkF m 222 #[.val (.int p0), .val (.int p1), .val (.int p2), .val (.int p3), .val (.int (0 : Int32)), .val (.int (0 : Int32)), .val (.int (p0.toInt8.toInt32)), .val (.int (p1.toInt8.toInt32)), .val (.int (p2.toInt8.toInt32)), .val (.ref b42), .val (.ref b45), .val (.ref b56), .val (.ref b102), .val (.ref b122)] [(.ref b122)])) _
      refine own_by (fun _ kt => XS.aload X122.here hx rfl (hb hby at_222) rfl rfl kt) ?_
      show own_Go p.tables e below (T122.setTop (mkF m 224 #[.val (.int p0), .val (.int p1), .val (.int p2), .val (.int p3), .val (.int (0 : Int32)), .val (.int (0 : Int32)), .val (.int (p0.toInt8.toInt32)), .val (.int (p1.toInt8.toInt32)), .val (.int (p2.toInt8.toInt32)), .val (.ref b42), .val (.ref b45), .val (.ref b56), .val (.ref b102), .val (.ref b122)] [(.ref b42), (.ref b122)])) _
      refine own_by (fun _ kt => Jvm.RoadKit.acmp (g := (mkF m 224 #[.val (.int p0), .val (.int p1), .val (.int p2), .val (.int p3), .val (.int (0 : Int32)), .val (.int (0 : Int32)), .val (.int (p0.toInt8.toInt32)), .val (.int (p1.toInt8.toInt32)), .val (.int (p2.toInt8.toInt32)), .val (.ref b42), .val (.ref b45), .val (.ref b56), .val (.ref b102), .val (.ref b122)] [(.ref b42), (.ref b122)])) X122 hx rfl rfl rfl (pc0 := 224) (pc' := 227) (same := false) rfl (hb hby at_224) rfl (decide_eq_false fun q => (Ne.symm ne_b42_b122) (Value.ref.inj q)) (by decide) (by decide) kt) ?_
      show own_Go p.tables e below (T122.setTop (mkF m 227 #[.val (.int p0), .val (.int p1), .val (.int p2), .val (.int p3), .val (.int (0 : Int32)), .val (.int (0 : Int32)), .val (.int (p0.toInt8.toInt32)), .val (.int (p1.toInt8.toInt32)), .val (.int (p2.toInt8.toInt32)), .val (.ref b42), .val (.ref b45), .val (.ref b56), .val (.ref b102), .val (.ref b122)] [])) _
      refine own_by (fun _ kt => XS.aload X122.here hx rfl (hb hby at_227) rfl rfl kt) ?_
      show own_Go p.tables e below (T122.setTop (mkF m 229 #[.val (.int p0), .val (.int p1), .val (.int p2), .val (.int p3), .val (.int (0 : Int32)), .val (.int (0 : Int32)), .val (.int (p0.toInt8.toInt32)), .val (.int (p1.toInt8.toInt32)), .val (.int (p2.toInt8.toInt32)), .val (.ref b42), .val (.ref b45), .val (.ref b56), .val (.ref b102), .val (.ref b122)] [(.ref b122)])) _
      refine own_by (fun _ kt => XS.aload X122.here hx rfl (hb hby at_229) rfl rfl kt) ?_
      show own_Go p.tables e below (T122.setTop (mkF m 231 #[.val (.int p0), .val (.int p1), .val (.int p2), .val (.int p3), .val (.int (0 : Int32)), .val (.int (0 : Int32)), .val (.int (p0.toInt8.toInt32)), .val (.int (p1.toInt8.toInt32)), .val (.int (p2.toInt8.toInt32)), .val (.ref b42), .val (.ref b45), .val (.ref b56), .val (.ref b102), .val (.ref b122)] [(.ref b102), (.ref b122)])) _
      refine own_by (fun _ kt => Jvm.RoadKit.acmp (g := (mkF m 231 #[.val (.int p0), .val (.int p1), .val (.int p2), .val (.int p3), .val (.int (0 : Int32)), .val (.int (0 : Int32)), .val (.int (p0.toInt8.toInt32)), .val (.int (p1.toInt8.toInt32)), .val (.int (p2.toInt8.toInt32)), .val (.ref b42), .val (.ref b45), .val (.ref b56), .val (.ref b102), .val (.ref b122)] [(.ref b102), (.ref b122)])) X122 hx rfl rfl rfl (pc0 := 231) (pc' := 236) (same := false) rfl (hb hby at_231) rfl (decide_eq_false fun q => (Ne.symm ne_b102_b122) (Value.ref.inj q)) (by decide) (by decide) kt) ?_
      show own_Go p.tables e below (T122.setTop (mkF m 236 #[.val (.int p0), .val (.int p1), .val (.int p2), .val (.int p3), .val (.int (0 : Int32)), .val (.int (0 : Int32)), .val (.int (p0.toInt8.toInt32)), .val (.int (p1.toInt8.toInt32)), .val (.int (p2.toInt8.toInt32)), .val (.ref b42), .val (.ref b45), .val (.ref b56), .val (.ref b102), .val (.ref b122)] [])) _
      refine own_by (fun _ kt => XS.aload X122.here hx rfl (hb hby at_236) rfl rfl kt) ?_
      show own_Go p.tables e below (T122.setTop (mkF m 238 #[.val (.int p0), .val (.int p1), .val (.int p2), .val (.int p3), .val (.int (0 : Int32)), .val (.int (0 : Int32)), .val (.int (p0.toInt8.toInt32)), .val (.int (p1.toInt8.toInt32)), .val (.int (p2.toInt8.toInt32)), .val (.ref b42), .val (.ref b45), .val (.ref b56), .val (.ref b102), .val (.ref b122)] [(.ref b122)])) _
      refine own_by (fun _ kt => XS.iload X122.here hx rfl (hb hby at_238) rfl kt) ?_
      show own_Go p.tables e below (T122.setTop (mkF m 240 #[.val (.int p0), .val (.int p1), .val (.int p2), .val (.int p3), .val (.int (0 : Int32)), .val (.int (0 : Int32)), .val (.int (p0.toInt8.toInt32)), .val (.int (p1.toInt8.toInt32)), .val (.int (p2.toInt8.toInt32)), .val (.ref b42), .val (.ref b45), .val (.ref b56), .val (.ref b102), .val (.ref b122)] [(.int (0 : Int32)), (.ref b122)])) _
      refine own_by (fun _ kt => XS.iload X122.here hx rfl (hb hby at_240) rfl kt) ?_
      show own_Go p.tables e below (T122.setTop (mkF m 242 #[.val (.int p0), .val (.int p1), .val (.int p2), .val (.int p3), .val (.int (0 : Int32)), .val (.int (0 : Int32)), .val (.int (p0.toInt8.toInt32)), .val (.int (p1.toInt8.toInt32)), .val (.int (p2.toInt8.toInt32)), .val (.ref b42), .val (.ref b45), .val (.ref b56), .val (.ref b102), .val (.ref b122)] [(.int (p0.toInt8.toInt32)), (.int (0 : Int32)), (.ref b122)])) _
      refine own_by (fun _ kt => XS.iload X122.here hx rfl (hb hby at_242) rfl kt) ?_
      show own_Go p.tables e below (T122.setTop (mkF m 244 #[.val (.int p0), .val (.int p1), .val (.int p2), .val (.int p3), .val (.int (0 : Int32)), .val (.int (0 : Int32)), .val (.int (p0.toInt8.toInt32)), .val (.int (p1.toInt8.toInt32)), .val (.int (p2.toInt8.toInt32)), .val (.ref b42), .val (.ref b45), .val (.ref b56), .val (.ref b102), .val (.ref b122)] [(.int (p1.toInt8.toInt32)), (.int (p0.toInt8.toInt32)), (.int (0 : Int32)), (.ref b122)])) _
      refine own_by (fun _ kt => XS.iload X122.here hx rfl (hb hby at_244) rfl kt) ?_
      show own_Go p.tables e below (T122.setTop (mkF m 246 #[.val (.int p0), .val (.int p1), .val (.int p2), .val (.int p3), .val (.int (0 : Int32)), .val (.int (0 : Int32)), .val (.int (p0.toInt8.toInt32)), .val (.int (p1.toInt8.toInt32)), .val (.int (p2.toInt8.toInt32)), .val (.ref b42), .val (.ref b45), .val (.ref b56), .val (.ref b102), .val (.ref b122)] [(.int (p2.toInt8.toInt32)), (.int (p1.toInt8.toInt32)), (.int (p0.toInt8.toInt32)), (.int (0 : Int32)), (.ref b122)])) _
      obtain ⟨_, _, ⟨T133, L133, k133, n133⟩, -, X133, ⟨Lc133, hQ133, l133, y133, z133⟩, st133⟩ := Jvm.LawKit.callS X122 hx (y := (⟨"com/example/relampago/relampago/lcp/CallParamsPinLaw", "same", "([BIBBB)Z"⟩ : MethodName)) hown (mvT hZ (hw _ (List.mem_of_getElem? (i := 64) rfl))) (mvT hZ (hw _ (List.mem_of_getElem? (i := 65) rfl))) (mvT hZ (hw _ (List.mem_of_getElem? (i := 57) rfl))) (mvT hZ (hw _ (List.mem_of_getElem? (i := 66) rfl))) (by decide) (backOf (W := 0) (rm_same0 l Z a0 hw [] b122 (p0.toInt8.toInt32) (p1.toInt8.toInt32) (p2.toInt8.toInt32) (k42) T122.heap n0 Zs122 f122_0) hZ (hw _ (List.mem_of_getElem? (i := 66) rfl)) (hw _ (List.mem_of_getElem? (i := 57) rfl)) (by decide) (by decide)) (g := (mkF m 246 #[.val (.int p0), .val (.int p1), .val (.int p2), .val (.int p3), .val (.int (0 : Int32)), .val (.int (0 : Int32)), .val (.int (p0.toInt8.toInt32)), .val (.int (p1.toInt8.toInt32)), .val (.int (p2.toInt8.toInt32)), .val (.ref b42), .val (.ref b45), .val (.ref b56), .val (.ref b102), .val (.ref b122)] [(.int (p2.toInt8.toInt32)), (.int (p1.toInt8.toInt32)), (.int (p0.toInt8.toInt32)), (.int (0 : Int32)), (.ref b122)])) rfl (by rw [hml]; rfl) (argsL := [(.ref b122), (.int (0 : Int32)), (.int (p0.toInt8.toInt32)), (.int (p1.toInt8.toInt32)), (.int (p2.toInt8.toInt32))]) (rest := []) (lenOf pd_8 rfl) rfl (by show 2 * 0 + _ ≤ _; exact Nat.le_of_eq rfl) (hb hby at_246) (fun _ _ => ⟨rfl, rfl, (by decide : 11 + 0 ≤ _), (by decide : 25 + 0 ≤ _)⟩)
      dsimp only [Pt.U, Pt.locs, Pt.cells, Pt.slots] at X133 l133 y133 z133 st133 hQ133
      subst l133 y133 z133
      obtain ⟨rfl, Nq133, eh133⟩ := hQ133
      have N133 := Fr.app N122 Nq133
      refine own_by (st133) ?_
      show own_Go p.tables e below (T133.setTop (mkF m 249 #[.val (.int p0), .val (.int p1), .val (.int p2), .val (.int p3), .val (.int (0 : Int32)), .val (.int (0 : Int32)), .val (.int (p0.toInt8.toInt32)), .val (.int (p1.toInt8.toInt32)), .val (.int (p2.toInt8.toInt32)), .val (.ref b42), .val (.ref b45), .val (.ref b56), .val (.ref b102), .val (.ref b122)] [(.int (1 : Int32))])) _
      exact own_retN X133 hx (t := .boolean) Bd.returns hlk (by simp) (hb hby at_249) ⟨rfl, N133⟩ (by decide) (by decide)
    · rw [hs18_41]
      show own_Go p.tables e below (s₁.setTop (mkF m 18 #[.val (.int p0), .val (.int p1), .val (.int p2), .val (.int p3), .val (.int (0 : Int32)), .unset, .unset, .unset, .unset, .unset, .unset, .unset, .unset, .unset] [(.int (1 : Int32))])) _
      refine own_by (fun _ kt => XS.istore X0.here hx rfl (hb hby at_18) rfl (l' := #[.val (.int p0), .val (.int p1), .val (.int p2), .val (.int p3), .val (.int (0 : Int32)), .val (.int (1 : Int32)), .unset, .unset, .unset, .unset, .unset, .unset, .unset, .unset]) rfl kt) ?_
      show own_Go p.tables e below (s₁.setTop (mkF m 20 #[.val (.int p0), .val (.int p1), .val (.int p2), .val (.int p3), .val (.int (0 : Int32)), .val (.int (1 : Int32)), .unset, .unset, .unset, .unset, .unset, .unset, .unset, .unset] [])) _
      refine own_by (fun _ kt => XS.iloadN X0.here hx rfl (hb hby at_20) rfl kt) ?_
      show own_Go p.tables e below (s₁.setTop (mkF m 21 #[.val (.int p0), .val (.int p1), .val (.int p2), .val (.int p3), .val (.int (0 : Int32)), .val (.int (1 : Int32)), .unset, .unset, .unset, .unset, .unset, .unset, .unset, .unset] [(.int p0)])) _
      refine own_by (fun _ kt => XS.i2b X0.here hx rfl (hb hby at_21) rfl kt) ?_
      show own_Go p.tables e below (s₁.setTop (mkF m 22 #[.val (.int p0), .val (.int p1), .val (.int p2), .val (.int p3), .val (.int (0 : Int32)), .val (.int (1 : Int32)), .unset, .unset, .unset, .unset, .unset, .unset, .unset, .unset] [(.int (p0.toInt8.toInt32))])) _
      refine own_by (fun _ kt => XS.istore X0.here hx rfl (hb hby at_22) rfl (l' := #[.val (.int p0), .val (.int p1), .val (.int p2), .val (.int p3), .val (.int (0 : Int32)), .val (.int (1 : Int32)), .val (.int (p0.toInt8.toInt32)), .unset, .unset, .unset, .unset, .unset, .unset, .unset]) rfl kt) ?_
      show own_Go p.tables e below (s₁.setTop (mkF m 24 #[.val (.int p0), .val (.int p1), .val (.int p2), .val (.int p3), .val (.int (0 : Int32)), .val (.int (1 : Int32)), .val (.int (p0.toInt8.toInt32)), .unset, .unset, .unset, .unset, .unset, .unset, .unset] [])) _
      refine own_by (fun _ kt => XS.iloadN X0.here hx rfl (hb hby at_24) rfl kt) ?_
      show own_Go p.tables e below (s₁.setTop (mkF m 25 #[.val (.int p0), .val (.int p1), .val (.int p2), .val (.int p3), .val (.int (0 : Int32)), .val (.int (1 : Int32)), .val (.int (p0.toInt8.toInt32)), .unset, .unset, .unset, .unset, .unset, .unset, .unset] [(.int p1)])) _
      refine own_by (fun _ kt => XS.i2b X0.here hx rfl (hb hby at_25) rfl kt) ?_
      show own_Go p.tables e below (s₁.setTop (mkF m 26 #[.val (.int p0), .val (.int p1), .val (.int p2), .val (.int p3), .val (.int (0 : Int32)), .val (.int (1 : Int32)), .val (.int (p0.toInt8.toInt32)), .unset, .unset, .unset, .unset, .unset, .unset, .unset] [(.int (p1.toInt8.toInt32))])) _
      refine own_by (fun _ kt => XS.istore X0.here hx rfl (hb hby at_26) rfl (l' := #[.val (.int p0), .val (.int p1), .val (.int p2), .val (.int p3), .val (.int (0 : Int32)), .val (.int (1 : Int32)), .val (.int (p0.toInt8.toInt32)), .val (.int (p1.toInt8.toInt32)), .unset, .unset, .unset, .unset, .unset, .unset]) rfl kt) ?_
      show own_Go p.tables e below (s₁.setTop (mkF m 28 #[.val (.int p0), .val (.int p1), .val (.int p2), .val (.int p3), .val (.int (0 : Int32)), .val (.int (1 : Int32)), .val (.int (p0.toInt8.toInt32)), .val (.int (p1.toInt8.toInt32)), .unset, .unset, .unset, .unset, .unset, .unset] [])) _
      refine own_by (fun _ kt => XS.iloadN X0.here hx rfl (hb hby at_28) rfl kt) ?_
      show own_Go p.tables e below (s₁.setTop (mkF m 29 #[.val (.int p0), .val (.int p1), .val (.int p2), .val (.int p3), .val (.int (0 : Int32)), .val (.int (1 : Int32)), .val (.int (p0.toInt8.toInt32)), .val (.int (p1.toInt8.toInt32)), .unset, .unset, .unset, .unset, .unset, .unset] [(.int p2)])) _
      refine own_by (fun _ kt => XS.i2b X0.here hx rfl (hb hby at_29) rfl kt) ?_
      show own_Go p.tables e below (s₁.setTop (mkF m 30 #[.val (.int p0), .val (.int p1), .val (.int p2), .val (.int p3), .val (.int (0 : Int32)), .val (.int (1 : Int32)), .val (.int (p0.toInt8.toInt32)), .val (.int (p1.toInt8.toInt32)), .unset, .unset, .unset, .unset, .unset, .unset] [(.int (p2.toInt8.toInt32))])) _
      refine own_by (fun _ kt => XS.istore X0.here hx rfl (hb hby at_30) rfl (l' := #[.val (.int p0), .val (.int p1), .val (.int p2), .val (.int p3), .val (.int (0 : Int32)), .val (.int (1 : Int32)), .val (.int (p0.toInt8.toInt32)), .val (.int (p1.toInt8.toInt32)), .val (.int (p2.toInt8.toInt32)), .unset, .unset, .unset, .unset, .unset]) rfl kt) ?_
      show own_Go p.tables e below (s₁.setTop (mkF m 32 #[.val (.int p0), .val (.int p1), .val (.int p2), .val (.int p3), .val (.int (0 : Int32)), .val (.int (1 : Int32)), .val (.int (p0.toInt8.toInt32)), .val (.int (p1.toInt8.toInt32)), .val (.int (p2.toInt8.toInt32)), .unset, .unset, .unset, .unset, .unset] [])) _
      refine own_by (fun _ kt => XS.aconstNull X0.here hx rfl (hb hby at_32) kt) ?_
      show own_Go p.tables e below (s₁.setTop (mkF m 33 #[.val (.int p0), .val (.int p1), .val (.int p2), .val (.int p3), .val (.int (0 : Int32)), .val (.int (1 : Int32)), .val (.int (p0.toInt8.toInt32)), .val (.int (p1.toInt8.toInt32)), .val (.int (p2.toInt8.toInt32)), .unset, .unset, .unset, .unset, .unset] [.null])) _
      refine own_by (fun _ kt => XS.astore X0.here hx rfl (hb hby at_33) rfl rfl (l' := #[.val (.int p0), .val (.int p1), .val (.int p2), .val (.int p3), .val (.int (0 : Int32)), .val (.int (1 : Int32)), .val (.int (p0.toInt8.toInt32)), .val (.int (p1.toInt8.toInt32)), .val (.int (p2.toInt8.toInt32)), .val .null, .unset, .unset, .unset, .unset]) rfl kt) ?_
      show own_Go p.tables e below (s₁.setTop (mkF m 35 #[.val (.int p0), .val (.int p1), .val (.int p2), .val (.int p3), .val (.int (0 : Int32)), .val (.int (1 : Int32)), .val (.int (p0.toInt8.toInt32)), .val (.int (p1.toInt8.toInt32)), .val (.int (p2.toInt8.toInt32)), .val .null, .unset, .unset, .unset, .unset] [])) _
      refine own_by (fun _ kt => XS.iload X0.here hx rfl (hb hby at_35) rfl kt) ?_
      show own_Go p.tables e below (s₁.setTop (mkF m 37 #[.val (.int p0), .val (.int p1), .val (.int p2), .val (.int p3), .val (.int (0 : Int32)), .val (.int (1 : Int32)), .val (.int (p0.toInt8.toInt32)), .val (.int (p1.toInt8.toInt32)), .val (.int (p2.toInt8.toInt32)), .val .null, .unset, .unset, .unset, .unset] [(.int (0 : Int32))])) _
      refine own_by (fun _ kt => XS.ifNo X0.here hx rfl (hb hby at_37) rfl ((if0 _ _).trans (teq (by decide : (0 : Int32) = (0 : Int32))).2) kt) ?_
      show own_Go p.tables e below (s₁.setTop (mkF m 40 #[.val (.int p0), .val (.int p1), .val (.int p2), .val (.int p3), .val (.int (0 : Int32)), .val (.int (1 : Int32)), .val (.int (p0.toInt8.toInt32)), .val (.int (p1.toInt8.toInt32)), .val (.int (p2.toInt8.toInt32)), .val .null, .unset, .unset, .unset, .unset] [])) _
      refine own_by (fun _ kt => XS.iload X0.here hx rfl (hb hby at_40) rfl kt) ?_
      show own_Go p.tables e below (s₁.setTop (mkF m 42 #[.val (.int p0), .val (.int p1), .val (.int p2), .val (.int p3), .val (.int (0 : Int32)), .val (.int (1 : Int32)), .val (.int (p0.toInt8.toInt32)), .val (.int (p1.toInt8.toInt32)), .val (.int (p2.toInt8.toInt32)), .val .null, .unset, .unset, .unset, .unset] [(.int (1 : Int32))])) _
      obtain ⟨T134, h134, k134, X134, e134, E134, A134, Ea134, st134⟩ := newPE X0 hx hZ (hw _ (List.mem_of_getElem? (i := 0) rfl)) e0 (g := (mkF m 42 #[.val (.int p0), .val (.int p1), .val (.int p2), .val (.int p3), .val (.int (0 : Int32)), .val (.int (1 : Int32)), .val (.int (p0.toInt8.toInt32)), .val (.int (p1.toInt8.toInt32)), .val (.int (p2.toInt8.toInt32)), .val .null, .unset, .unset, .unset, .unset] [(.int (1 : Int32))])) rfl (hb hby at_42) rfl (by decide) (cap := 1) (by decide) (by decide) (by decide) (by decide) (ad := "[B") (by decide)
      obtain ⟨b134, g134⟩ : ∃ z, z = h0.size := ⟨_, rfl⟩
      rw [← g134] at A134 Ea134 st134
      have gn_b134 : n0 ≤ b134 := Nat.le_trans Z0 (Nat.le_of_eq g134.symm)
      have f135 := S_CS.ext E134
      have Zs134 : n0 ≤ h134.size := Nat.le_trans Z0 E134.1
      have f136 : Arv Z h134 b134 k134 .byte (1 : Int32) [(.int (0 : Int32))] (.int (0 : Int32)) := (Arv.new A134 (by decide)).pad (pad_rep [] (.int (0 : Int32)) 1)
      refine own_by st134 ?_
      show own_Go p.tables e below (T134.setTop (mkF m 44 #[.val (.int p0), .val (.int p1), .val (.int p2), .val (.int p3), .val (.int (0 : Int32)), .val (.int (1 : Int32)), .val (.int (p0.toInt8.toInt32)), .val (.int (p1.toInt8.toInt32)), .val (.int (p2.toInt8.toInt32)), .val .null, .unset, .unset, .unset, .unset] [(.ref b134)])) _
      refine own_by (fun _ kt => XS.astore X134.here hx rfl (hb hby at_44) rfl rfl (l' := #[.val (.int p0), .val (.int p1), .val (.int p2), .val (.int p3), .val (.int (0 : Int32)), .val (.int (1 : Int32)), .val (.int (p0.toInt8.toInt32)), .val (.int (p1.toInt8.toInt32)), .val (.int (p2.toInt8.toInt32)), .val (.ref b134), .unset, .unset, .unset, .unset]) rfl kt) ?_
      show own_Go p.tables e below (T134.setTop (mkF m 46 #[.val (.int p0), .val (.int p1), .val (.int p2), .val (.int p3), .val (.int (0 : Int32)), .val (.int (1 : Int32)), .val (.int (p0.toInt8.toInt32)), .val (.int (p1.toInt8.toInt32)), .val (.int (p2.toInt8.toInt32)), .val (.ref b134), .unset, .unset, .unset, .unset] [])) _
      refine own_by (fun _ kt => XS.iload X134.here hx rfl (hb hby at_46) rfl kt) ?_
      show own_Go p.tables e below (T134.setTop (mkF m 48 #[.val (.int p0), .val (.int p1), .val (.int p2), .val (.int p3), .val (.int (0 : Int32)), .val (.int (1 : Int32)), .val (.int (p0.toInt8.toInt32)), .val (.int (p1.toInt8.toInt32)), .val (.int (p2.toInt8.toInt32)), .val (.ref b134), .unset, .unset, .unset, .unset] [(.int (1 : Int32))])) _
      refine own_by (fun _ kt => XS.ifNo X134.here hx rfl (hb hby at_48) rfl ((if0 _ _).trans (tlt (by decide : (0 : Int32) < (1 : Int32))).2.2.2) kt) ?_
      show own_Go p.tables e below (T134.setTop (mkF m 51 #[.val (.int p0), .val (.int p1), .val (.int p2), .val (.int p3), .val (.int (0 : Int32)), .val (.int (1 : Int32)), .val (.int (p0.toInt8.toInt32)), .val (.int (p1.toInt8.toInt32)), .val (.int (p2.toInt8.toInt32)), .val (.ref b134), .unset, .unset, .unset, .unset] [])) _
      refine own_by (fun _ kt => XS.aload X134.here hx rfl (hb hby at_51) rfl rfl kt) ?_
      show own_Go p.tables e below (T134.setTop (mkF m 53 #[.val (.int p0), .val (.int p1), .val (.int p2), .val (.int p3), .val (.int (0 : Int32)), .val (.int (1 : Int32)), .val (.int (p0.toInt8.toInt32)), .val (.int (p1.toInt8.toInt32)), .val (.int (p2.toInt8.toInt32)), .val (.ref b134), .unset, .unset, .unset, .unset] [(.ref b134)])) _
      refine own_by (fun _ kt => XS.iconst X134.here hx rfl (hb hby at_53) kt) ?_
      show own_Go p.tables e below (T134.setTop (mkF m 54 #[.val (.int p0), .val (.int p1), .val (.int p2), .val (.int p3), .val (.int (0 : Int32)), .val (.int (1 : Int32)), .val (.int (p0.toInt8.toInt32)), .val (.int (p1.toInt8.toInt32)), .val (.int (p2.toInt8.toInt32)), .val (.ref b134), .unset, .unset, .unset, .unset] [(.int (0 : Int32)), (.ref b134)])) _
      refine own_by (fun _ kt => XS.iload X134.here hx rfl (hb hby at_54) rfl kt) ?_
      show own_Go p.tables e below (T134.setTop (mkF m 56 #[.val (.int p0), .val (.int p1), .val (.int p2), .val (.int p3), .val (.int (0 : Int32)), .val (.int (1 : Int32)), .val (.int (p0.toInt8.toInt32)), .val (.int (p1.toInt8.toInt32)), .val (.int (p2.toInt8.toInt32)), .val (.ref b134), .unset, .unset, .unset, .unset] [(.int (p0.toInt8.toInt32)), (.int (0 : Int32)), (.ref b134)])) _
      obtain ⟨cl137, Ar137, q137, S137, M137, H137, G137⟩ := f136
      obtain ⟨T137, h137, X137, e137, W137, st137⟩ := stB X134 hx hZ e134 Ar137 (j := (0 : Int32)) (inb_of S137 ⟨by decide, by decide⟩) (g := (mkF m 56 #[.val (.int p0), .val (.int p1), .val (.int p2), .val (.int p3), .val (.int (0 : Int32)), .val (.int (1 : Int32)), .val (.int (p0.toInt8.toInt32)), .val (.int (p1.toInt8.toInt32)), .val (.int (p2.toInt8.toInt32)), .val (.ref b134), .unset, .unset, .unset, .unset] [(.int (p0.toInt8.toInt32)), (.int (0 : Int32)), (.ref b134)])) rfl rfl (hb hby at_56)
      have f138 : Arv Z h137 b134 k134 .byte (1 : Int32) [(.int (nar .byte (p0.toInt8.toInt32)))] (.int (0 : Int32)) := Arv.set Ar137 q137 S137 M137 H137 G137 (fits_nar_byte _) W137 0 rfl (Nat.le_of_ble_eq_true rfl)
      have f139 := f135.wr W137
      have f140 := Ea134.wr W137
      have Zs137 : n0 ≤ h137.size := by rw [W137.size]; exact Zs134
      have N137 := Fr.snoc X137 N0 gn_b134
      refine own_by st137 ?_
      show own_Go p.tables e below (T137.setTop (mkF m 57 #[.val (.int p0), .val (.int p1), .val (.int p2), .val (.int p3), .val (.int (0 : Int32)), .val (.int (1 : Int32)), .val (.int (p0.toInt8.toInt32)), .val (.int (p1.toInt8.toInt32)), .val (.int (p2.toInt8.toInt32)), .val (.ref b134), .unset, .unset, .unset, .unset] [])) _
      refine own_by (fun _ kt => XS.iload X137.here hx rfl (hb hby at_57) rfl kt) ?_
      show own_Go p.tables e below (T137.setTop (mkF m 59 #[.val (.int p0), .val (.int p1), .val (.int p2), .val (.int p3), .val (.int (0 : Int32)), .val (.int (1 : Int32)), .val (.int (p0.toInt8.toInt32)), .val (.int (p1.toInt8.toInt32)), .val (.int (p2.toInt8.toInt32)), .val (.ref b134), .unset, .unset, .unset, .unset] [(.int (1 : Int32))])) _
      refine own_by (fun _ kt => XS.iconst X137.here hx rfl (hb hby at_59) kt) ?_
      show own_Go p.tables e below (T137.setTop (mkF m 60 #[.val (.int p0), .val (.int p1), .val (.int p2), .val (.int p3), .val (.int (0 : Int32)), .val (.int (1 : Int32)), .val (.int (p0.toInt8.toInt32)), .val (.int (p1.toInt8.toInt32)), .val (.int (p2.toInt8.toInt32)), .val (.ref b134), .unset, .unset, .unset, .unset] [(.int (1 : Int32)), (.int (1 : Int32))])) _
      refine own_by (fun _ kt => XS.icmpYes X137.here hx rfl (pc0 := 60) (pc' := 69) rfl (hb hby at_60) rfl (flt (by decide : ¬ ((1 : Int32) < (1 : Int32)))).2.2.2 (by decide) (by decide) kt) ?_
      show own_Go p.tables e below (T137.setTop (mkF m 69 #[.val (.int p0), .val (.int p1), .val (.int p2), .val (.int p3), .val (.int (0 : Int32)), .val (.int (1 : Int32)), .val (.int (p0.toInt8.toInt32)), .val (.int (p1.toInt8.toInt32)), .val (.int (p2.toInt8.toInt32)), .val (.ref b134), .unset, .unset, .unset, .unset] [])) _
      refine own_by (fun _ kt => XS.iload X137.here hx rfl (hb hby at_69) rfl kt) ?_
      show own_Go p.tables e below (T137.setTop (mkF m 71 #[.val (.int p0), .val (.int p1), .val (.int p2), .val (.int p3), .val (.int (0 : Int32)), .val (.int (1 : Int32)), .val (.int (p0.toInt8.toInt32)), .val (.int (p1.toInt8.toInt32)), .val (.int (p2.toInt8.toInt32)), .val (.ref b134), .unset, .unset, .unset, .unset] [(.int (1 : Int32))])) _
      refine own_by (fun _ kt => XS.iconst X137.here hx rfl (hb hby at_71) kt) ?_
      show own_Go p.tables e below (T137.setTop (mkF m 72 #[.val (.int p0), .val (.int p1), .val (.int p2), .val (.int p3), .val (.int (0 : Int32)), .val (.int (1 : Int32)), .val (.int (p0.toInt8.toInt32)), .val (.int (p1.toInt8.toInt32)), .val (.int (p2.toInt8.toInt32)), .val (.ref b134), .unset, .unset, .unset, .unset] [(.int (2 : Int32)), (.int (1 : Int32))])) _
      refine own_by (fun _ kt => XS.icmpYes X137.here hx rfl (pc0 := 72) (pc' := 81) rfl (hb hby at_72) rfl (flt (by decide : ¬ ((2 : Int32) < (1 : Int32)))).2.2.2 (by decide) (by decide) kt) ?_
      show own_Go p.tables e below (T137.setTop (mkF m 81 #[.val (.int p0), .val (.int p1), .val (.int p2), .val (.int p3), .val (.int (0 : Int32)), .val (.int (1 : Int32)), .val (.int (p0.toInt8.toInt32)), .val (.int (p1.toInt8.toInt32)), .val (.int (p2.toInt8.toInt32)), .val (.ref b134), .unset, .unset, .unset, .unset] [])) _
      refine own_by (fun _ kt => XS.iconst X137.here hx rfl (hb hby at_81) kt) ?_
      show own_Go p.tables e below (T137.setTop (mkF m 82 #[.val (.int p0), .val (.int p1), .val (.int p2), .val (.int p3), .val (.int (0 : Int32)), .val (.int (1 : Int32)), .val (.int (p0.toInt8.toInt32)), .val (.int (p1.toInt8.toInt32)), .val (.int (p2.toInt8.toInt32)), .val (.ref b134), .unset, .unset, .unset, .unset] [(.int (1 : Int32))])) _
      obtain ⟨T141, h141, k141, X141, e141, E141, A141, Ea141, st141⟩ := newPE X137 hx hZ (hw _ (List.mem_of_getElem? (i := 0) rfl)) e137 (g := (mkF m 82 #[.val (.int p0), .val (.int p1), .val (.int p2), .val (.int p3), .val (.int (0 : Int32)), .val (.int (1 : Int32)), .val (.int (p0.toInt8.toInt32)), .val (.int (p1.toInt8.toInt32)), .val (.int (p2.toInt8.toInt32)), .val (.ref b134), .unset, .unset, .unset, .unset] [(.int (1 : Int32))])) rfl (hb hby at_82) rfl (by decide) (cap := 1) (by decide) (by decide) (by decide) (by decide) (ad := "[B") (by decide)
      obtain ⟨b141, g141⟩ : ∃ z, z = h137.size := ⟨_, rfl⟩
      rw [← g141] at A141 Ea141 st141
      have gn_b141 : n0 ≤ b141 := Nat.le_trans Zs137 (Nat.le_of_eq g141.symm)
      have ne_b134_b141 : b134 ≠ b141 := Nat.ne_of_lt (Nat.lt_of_lt_of_le f138.lt (Nat.le_of_eq g141.symm))
      have f142 := f139.ext E141
      have f143 := f138.ext E141
      have f144 := f140.ext E141
      have Zs141 : n0 ≤ h141.size := Nat.le_trans Zs137 E141.1
      have f145 : Arv Z h141 b141 k141 .byte (1 : Int32) [(.int (0 : Int32))] (.int (0 : Int32)) := (Arv.new A141 (by decide)).pad (pad_rep [] (.int (0 : Int32)) 1)
      refine own_by st141 ?_
      show own_Go p.tables e below (T141.setTop (mkF m 84 #[.val (.int p0), .val (.int p1), .val (.int p2), .val (.int p3), .val (.int (0 : Int32)), .val (.int (1 : Int32)), .val (.int (p0.toInt8.toInt32)), .val (.int (p1.toInt8.toInt32)), .val (.int (p2.toInt8.toInt32)), .val (.ref b134), .unset, .unset, .unset, .unset] [(.ref b141)])) _
      refine own_by (fun _ kt => XS.astore X141.here hx rfl (hb hby at_84) rfl rfl (l' := #[.val (.int p0), .val (.int p1), .val (.int p2), .val (.int p3), .val (.int (0 : Int32)), .val (.int (1 : Int32)), .val (.int (p0.toInt8.toInt32)), .val (.int (p1.toInt8.toInt32)), .val (.int (p2.toInt8.toInt32)), .val (.ref b134), .val (.ref b141), .unset, .unset, .unset]) rfl kt) ?_
      show own_Go p.tables e below (T141.setTop (mkF m 86 #[.val (.int p0), .val (.int p1), .val (.int p2), .val (.int p3), .val (.int (0 : Int32)), .val (.int (1 : Int32)), .val (.int (p0.toInt8.toInt32)), .val (.int (p1.toInt8.toInt32)), .val (.int (p2.toInt8.toInt32)), .val (.ref b134), .val (.ref b141), .unset, .unset, .unset] [])) _
      refine own_by (fun _ kt => XS.aload X141.here hx rfl (hb hby at_86) rfl rfl kt) ?_
      show own_Go p.tables e below (T141.setTop (mkF m 88 #[.val (.int p0), .val (.int p1), .val (.int p2), .val (.int p3), .val (.int (0 : Int32)), .val (.int (1 : Int32)), .val (.int (p0.toInt8.toInt32)), .val (.int (p1.toInt8.toInt32)), .val (.int (p2.toInt8.toInt32)), .val (.ref b134), .val (.ref b141), .unset, .unset, .unset] [(.ref b141)])) _
      refine own_by (fun _ kt => XS.iconst X141.here hx rfl (hb hby at_88) kt) ?_
      show own_Go p.tables e below (T141.setTop (mkF m 89 #[.val (.int p0), .val (.int p1), .val (.int p2), .val (.int p3), .val (.int (0 : Int32)), .val (.int (1 : Int32)), .val (.int (p0.toInt8.toInt32)), .val (.int (p1.toInt8.toInt32)), .val (.int (p2.toInt8.toInt32)), .val (.ref b134), .val (.ref b141), .unset, .unset, .unset] [(.int (0 : Int32)), (.ref b141)])) _
      refine own_by (fun _ kt => XS.iloadN X141.here hx rfl (hb hby at_89) rfl kt) ?_
      show own_Go p.tables e below (T141.setTop (mkF m 90 #[.val (.int p0), .val (.int p1), .val (.int p2), .val (.int p3), .val (.int (0 : Int32)), .val (.int (1 : Int32)), .val (.int (p0.toInt8.toInt32)), .val (.int (p1.toInt8.toInt32)), .val (.int (p2.toInt8.toInt32)), .val (.ref b134), .val (.ref b141), .unset, .unset, .unset] [(.int p0), (.int (0 : Int32)), (.ref b141)])) _
      refine own_by (fun _ kt => XS.bipush X141.here hx rfl (hb hby at_90) kt) ?_
      show own_Go p.tables e below (T141.setTop (mkF m 92 #[.val (.int p0), .val (.int p1), .val (.int p2), .val (.int p3), .val (.int (0 : Int32)), .val (.int (1 : Int32)), .val (.int (p0.toInt8.toInt32)), .val (.int (p1.toInt8.toInt32)), .val (.int (p2.toInt8.toInt32)), .val (.ref b134), .val (.ref b141), .unset, .unset, .unset] [(.int (8 : Int32)), (.int p0), (.int (0 : Int32)), (.ref b141)])) _
      refine own_by (fun _ kt => XS.iushr X141.here hx rfl (hb hby at_92) rfl kt) ?_
      show own_Go p.tables e below (T141.setTop (mkF m 93 #[.val (.int p0), .val (.int p1), .val (.int p2), .val (.int p3), .val (.int (0 : Int32)), .val (.int (1 : Int32)), .val (.int (p0.toInt8.toInt32)), .val (.int (p1.toInt8.toInt32)), .val (.int (p2.toInt8.toInt32)), .val (.ref b134), .val (.ref b141), .unset, .unset, .unset] [(.int ((p0.toUInt32 >>> ((8 : Int32) &&& 31).toUInt32).toInt32)), (.int (0 : Int32)), (.ref b141)])) _
      refine own_by (fun _ kt => XS.i2b X141.here hx rfl (hb hby at_93) rfl kt) ?_
      show own_Go p.tables e below (T141.setTop (mkF m 94 #[.val (.int p0), .val (.int p1), .val (.int p2), .val (.int p3), .val (.int (0 : Int32)), .val (.int (1 : Int32)), .val (.int (p0.toInt8.toInt32)), .val (.int (p1.toInt8.toInt32)), .val (.int (p2.toInt8.toInt32)), .val (.ref b134), .val (.ref b141), .unset, .unset, .unset] [(.int (((p0.toUInt32 >>> ((8 : Int32) &&& 31).toUInt32).toInt32).toInt8.toInt32)), (.int (0 : Int32)), (.ref b141)])) _
      obtain ⟨cl146, Ar146, q146, S146, M146, H146, G146⟩ := f145
      obtain ⟨T146, h146, X146, e146, W146, st146⟩ := stB X141 hx hZ e141 Ar146 (j := (0 : Int32)) (inb_of S146 ⟨by decide, by decide⟩) (g := (mkF m 94 #[.val (.int p0), .val (.int p1), .val (.int p2), .val (.int p3), .val (.int (0 : Int32)), .val (.int (1 : Int32)), .val (.int (p0.toInt8.toInt32)), .val (.int (p1.toInt8.toInt32)), .val (.int (p2.toInt8.toInt32)), .val (.ref b134), .val (.ref b141), .unset, .unset, .unset] [(.int (((p0.toUInt32 >>> ((8 : Int32) &&& 31).toUInt32).toInt32).toInt8.toInt32)), (.int (0 : Int32)), (.ref b141)])) rfl rfl (hb hby at_94)
      have f147 : Arv Z h146 b141 k141 .byte (1 : Int32) [(.int (nar .byte (((p0.toUInt32 >>> ((8 : Int32) &&& 31).toUInt32).toInt32).toInt8.toInt32)))] (.int (0 : Int32)) := Arv.set Ar146 q146 S146 M146 H146 G146 (fits_nar_byte _) W146 0 rfl (Nat.le_of_ble_eq_true rfl)
      have f148 := f142.wr W146
      have f149 := f143.other W146 ne_b134_b141
      have f150 := f144.wr W146
      have f151 := Ea141.wr W146
      have Zs146 : n0 ≤ h146.size := by rw [W146.size]; exact Zs141
      have N146 := Fr.snoc X146 N137 gn_b141
      refine own_by st146 ?_
      show own_Go p.tables e below (T146.setTop (mkF m 95 #[.val (.int p0), .val (.int p1), .val (.int p2), .val (.int p3), .val (.int (0 : Int32)), .val (.int (1 : Int32)), .val (.int (p0.toInt8.toInt32)), .val (.int (p1.toInt8.toInt32)), .val (.int (p2.toInt8.toInt32)), .val (.ref b134), .val (.ref b141), .unset, .unset, .unset] [])) _
      obtain ⟨T152, h152, X152, e152, E152, A152, D152, -, st152⟩ := newO X146 hx hZ hown (hw _ (List.mem_of_getElem? (i := 1) rfl)) (hw _ (List.mem_of_getElem? (i := 2) rfl)) (hw _ (List.mem_of_getElem? (i := 3) rfl)) e146 (g := (mkF m 95 #[.val (.int p0), .val (.int p1), .val (.int p2), .val (.int p3), .val (.int (0 : Int32)), .val (.int (1 : Int32)), .val (.int (p0.toInt8.toInt32)), .val (.int (p1.toInt8.toInt32)), .val (.int (p2.toInt8.toInt32)), .val (.ref b134), .val (.ref b141), .unset, .unset, .unset] [])) rfl (hb hby at_95) (by decide) (by decide)
      obtain ⟨b152, g152⟩ : ∃ z, z = h146.size := ⟨_, rfl⟩
      rw [← g152] at A152 D152 st152
      have gn_b152 : n0 ≤ b152 := Nat.le_trans Zs146 (Nat.le_of_eq g152.symm)
      have ne_b134_b152 : b134 ≠ b152 := Nat.ne_of_lt (Nat.lt_of_lt_of_le f149.lt (Nat.le_of_eq g152.symm))
      have ne_b141_b152 : b141 ≠ b152 := Nat.ne_of_lt (Nat.lt_of_lt_of_le f147.lt (Nat.le_of_eq g152.symm))
      have f153 := f148.ext E152
      have f154 := f149.ext E152
      have f155 := f150.ext E152
      have f156 := f147.ext E152
      have f157 := f151.ext E152
      have Zs152 : n0 ≤ h152.size := Nat.le_trans Zs146 E152.1
      have f158 : Fld Z h152 b152 "com/example/relampago/relampago/lcp/Call" "method" "Ljava/lang/String;" .null := D152 (Or.inr (hw _ (List.mem_of_getElem? (i := 48) rfl))) (ty := (.object "java/lang/String")) (by decide)
      have f159 : Fld Z h152 b152 "com/example/relampago/relampago/lcp/Call" "request" "[B" .null := D152 (Or.inr (hw _ (List.mem_of_getElem? (i := 50) rfl))) (ty := (.array .byte)) (by decide)
      have f160 : Fld Z h152 b152 "com/example/relampago/relampago/lcp/Call" "requestContentType" "Ljava/lang/String;" .null := D152 (Or.inr (hw _ (List.mem_of_getElem? (i := 52) rfl))) (ty := (.object "java/lang/String")) (by decide)
      have f161 : Fld Z h152 b152 "com/example/relampago/relampago/lcp/Call" "params" "[B" .null := D152 (Or.inr (hw _ (List.mem_of_getElem? (i := 54) rfl))) (ty := (.array .byte)) (by decide)
      refine own_by st152 ?_
      show own_Go p.tables e below (T152.setTop (mkF m 98 #[.val (.int p0), .val (.int p1), .val (.int p2), .val (.int p3), .val (.int (0 : Int32)), .val (.int (1 : Int32)), .val (.int (p0.toInt8.toInt32)), .val (.int (p1.toInt8.toInt32)), .val (.int (p2.toInt8.toInt32)), .val (.ref b134), .val (.ref b141), .unset, .unset, .unset] [(.ref b152)])) _
      refine own_by (fun _ kt => XS.dup X152.here hx rfl (hb hby at_98) rfl rfl kt) ?_
      show own_Go p.tables e below (T152.setTop (mkF m 99 #[.val (.int p0), .val (.int p1), .val (.int p2), .val (.int p3), .val (.int (0 : Int32)), .val (.int (1 : Int32)), .val (.int (p0.toInt8.toInt32)), .val (.int (p1.toInt8.toInt32)), .val (.int (p2.toInt8.toInt32)), .val (.ref b134), .val (.ref b141), .unset, .unset, .unset] [(.ref b152), (.ref b152)])) _
      refine own_by (fun _ kt => XS.iloadN X152.here hx rfl (hb hby at_99) rfl kt) ?_
      show own_Go p.tables e below (T152.setTop (mkF m 100 #[.val (.int p0), .val (.int p1), .val (.int p2), .val (.int p3), .val (.int (0 : Int32)), .val (.int (1 : Int32)), .val (.int (p0.toInt8.toInt32)), .val (.int (p1.toInt8.toInt32)), .val (.int (p2.toInt8.toInt32)), .val (.ref b134), .val (.ref b141), .unset, .unset, .unset] [(.int p1), (.ref b152), (.ref b152)])) _
      refine own_by (fun _ kt => XS.sipush X152.here hx rfl (hb hby at_100) kt) ?_
      show own_Go p.tables e below (T152.setTop (mkF m 103 #[.val (.int p0), .val (.int p1), .val (.int p2), .val (.int p3), .val (.int (0 : Int32)), .val (.int (1 : Int32)), .val (.int (p0.toInt8.toInt32)), .val (.int (p1.toInt8.toInt32)), .val (.int (p2.toInt8.toInt32)), .val (.ref b134), .val (.ref b141), .unset, .unset, .unset] [(.int (255 : Int32)), (.int p1), (.ref b152), (.ref b152)])) _
      refine own_by (fun _ kt => XS.iand X152.here hx rfl (hb hby at_103) rfl kt) ?_
      show own_Go p.tables e below (T152.setTop (mkF m 104 #[.val (.int p0), .val (.int p1), .val (.int p2), .val (.int p3), .val (.int (0 : Int32)), .val (.int (1 : Int32)), .val (.int (p0.toInt8.toInt32)), .val (.int (p1.toInt8.toInt32)), .val (.int (p2.toInt8.toInt32)), .val (.ref b134), .val (.ref b141), .unset, .unset, .unset] [(.int (p1 &&& (255 : Int32))), (.ref b152), (.ref b152)])) _
      refine own_by (fun _ kt => XS.i2c X152.here hx rfl (hb hby at_104) rfl kt) ?_
      show own_Go p.tables e below (T152.setTop (mkF m 105 #[.val (.int p0), .val (.int p1), .val (.int p2), .val (.int p3), .val (.int (0 : Int32)), .val (.int (1 : Int32)), .val (.int (p0.toInt8.toInt32)), .val (.int (p1.toInt8.toInt32)), .val (.int (p2.toInt8.toInt32)), .val (.ref b134), .val (.ref b141), .unset, .unset, .unset] [(.int ((p1 &&& (255 : Int32)).toUInt32.toUInt16.toUInt32.toInt32)), (.ref b152), (.ref b152)])) _
      obtain ⟨_, _, ⟨T162, L162, k162, n162⟩, -, X162, ⟨Lc162, hQ162, l162, y162, z162⟩, st162⟩ := Jvm.LawKit.callS X152 hx (y := (⟨"java/lang/String", "valueOf", "(C)Ljava/lang/String;"⟩ : MethodName)) hown (mvT hZ (hw _ (List.mem_of_getElem? (i := 4) rfl))) (mvT hZ (hw _ (List.mem_of_getElem? (i := 5) rfl))) (mvT hZ (hw _ (List.mem_of_getElem? (i := 6) rfl))) (mvT hZ (hw _ (List.mem_of_getElem? (i := 7) rfl))) (by decide) (backOf (W := 2) (rm_valueOf l Z a0 hw [] ((p1 &&& (255 : Int32)).toUInt32.toUInt16.toUInt32.toInt32) (cs) h152 n0 Zs152 f153 hcs (own_chr _)) hZ (hw _ (List.mem_of_getElem? (i := 7) rfl)) (hw _ (List.mem_of_getElem? (i := 6) rfl)) (by decide) (by decide)) (g := (mkF m 105 #[.val (.int p0), .val (.int p1), .val (.int p2), .val (.int p3), .val (.int (0 : Int32)), .val (.int (1 : Int32)), .val (.int (p0.toInt8.toInt32)), .val (.int (p1.toInt8.toInt32)), .val (.int (p2.toInt8.toInt32)), .val (.ref b134), .val (.ref b141), .unset, .unset, .unset] [(.int ((p1 &&& (255 : Int32)).toUInt32.toUInt16.toUInt32.toInt32)), (.ref b152), (.ref b152)])) rfl (by rw [hml]; rfl) (argsL := [(.int ((p1 &&& (255 : Int32)).toUInt32.toUInt16.toUInt32.toInt32))]) (rest := [(.ref b152), (.ref b152)]) (lenOf pd_4 rfl) rfl (by show 2 * 0 + _ ≤ _; exact Nat.le_of_eq rfl) (hb hby at_105) (fun _ _ => ⟨rfl, e152, (by decide : 3 + 2 ≤ _), (by decide : 6 + 5 ≤ _)⟩)
      dsimp only [Pt.U, Pt.locs, Pt.cells, Pt.slots] at X162 l162 y162 z162 st162 hQ162
      subst l162 y162 z162
      obtain ⟨b162, rfl, Nq162, K162, gn_b162, szq_b162⟩ := hQ162
      have ne_b134_b162 : b134 ≠ b162 := Nat.ne_of_lt (Nat.lt_of_lt_of_le f154.lt szq_b162)
      have ne_b141_b162 : b141 ≠ b162 := Nat.ne_of_lt (Nat.lt_of_lt_of_le f156.lt szq_b162)
      have ne_b152_b162 : b152 ≠ b162 := Nat.ne_of_lt (Nat.lt_of_lt_of_le A152.lt szq_b162)
      have f163 := own_sta_keep f153 K162
      have f164 := f154.keep K162 List.not_mem_nil
      have f165 := f155.keep K162
      have f166 := f156.keep K162 List.not_mem_nil
      have f167 := f157.keep K162
      have f168 := A152.keep K162
      have f169 := f158.keep K162 List.not_mem_nil
      have f170 := f159.keep K162 List.not_mem_nil
      have f171 := f160.keep K162 List.not_mem_nil
      have f172 := f161.keep K162 List.not_mem_nil
      have Zs162 : n0 ≤ T162.heap.size := Nat.le_trans Zs152 K162.1
      have N162 := Fr.app N146 Nq162
      refine own_by (st162) ?_
      show own_Go p.tables e below (T162.setTop (mkF m 108 #[.val (.int p0), .val (.int p1), .val (.int p2), .val (.int p3), .val (.int (0 : Int32)), .val (.int (1 : Int32)), .val (.int (p0.toInt8.toInt32)), .val (.int (p1.toInt8.toInt32)), .val (.int (p2.toInt8.toInt32)), .val (.ref b134), .val (.ref b141), .unset, .unset, .unset] [(.ref b162), (.ref b152), (.ref b152)])) _
      refine own_by (fun _ kt => XS.aload X162.here hx rfl (hb hby at_108) rfl rfl kt) ?_
      show own_Go p.tables e below (T162.setTop (mkF m 110 #[.val (.int p0), .val (.int p1), .val (.int p2), .val (.int p3), .val (.int (0 : Int32)), .val (.int (1 : Int32)), .val (.int (p0.toInt8.toInt32)), .val (.int (p1.toInt8.toInt32)), .val (.int (p2.toInt8.toInt32)), .val (.ref b134), .val (.ref b141), .unset, .unset, .unset] [(.ref b141), (.ref b162), (.ref b152), (.ref b152)])) _
      refine own_by (fun _ kt => XS.iloadN X162.here hx rfl (hb hby at_110) rfl kt) ?_
      show own_Go p.tables e below (T162.setTop (mkF m 111 #[.val (.int p0), .val (.int p1), .val (.int p2), .val (.int p3), .val (.int (0 : Int32)), .val (.int (1 : Int32)), .val (.int (p0.toInt8.toInt32)), .val (.int (p1.toInt8.toInt32)), .val (.int (p2.toInt8.toInt32)), .val (.ref b134), .val (.ref b141), .unset, .unset, .unset] [(.int p2), (.ref b141), (.ref b162), (.ref b152), (.ref b152)])) _
      refine own_by (fun _ kt => XS.sipush X162.here hx rfl (hb hby at_111) kt) ?_
      show own_Go p.tables e below (T162.setTop (mkF m 114 #[.val (.int p0), .val (.int p1), .val (.int p2), .val (.int p3), .val (.int (0 : Int32)), .val (.int (1 : Int32)), .val (.int (p0.toInt8.toInt32)), .val (.int (p1.toInt8.toInt32)), .val (.int (p2.toInt8.toInt32)), .val (.ref b134), .val (.ref b141), .unset, .unset, .unset] [(.int (255 : Int32)), (.int p2), (.ref b141), (.ref b162), (.ref b152), (.ref b152)])) _
      refine own_by (fun _ kt => XS.iand X162.here hx rfl (hb hby at_114) rfl kt) ?_
      show own_Go p.tables e below (T162.setTop (mkF m 115 #[.val (.int p0), .val (.int p1), .val (.int p2), .val (.int p3), .val (.int (0 : Int32)), .val (.int (1 : Int32)), .val (.int (p0.toInt8.toInt32)), .val (.int (p1.toInt8.toInt32)), .val (.int (p2.toInt8.toInt32)), .val (.ref b134), .val (.ref b141), .unset, .unset, .unset] [(.int (p2 &&& (255 : Int32))), (.ref b141), (.ref b162), (.ref b152), (.ref b152)])) _
      refine own_by (fun _ kt => XS.i2c X162.here hx rfl (hb hby at_115) rfl kt) ?_
      show own_Go p.tables e below (T162.setTop (mkF m 116 #[.val (.int p0), .val (.int p1), .val (.int p2), .val (.int p3), .val (.int (0 : Int32)), .val (.int (1 : Int32)), .val (.int (p0.toInt8.toInt32)), .val (.int (p1.toInt8.toInt32)), .val (.int (p2.toInt8.toInt32)), .val (.ref b134), .val (.ref b141), .unset, .unset, .unset] [(.int ((p2 &&& (255 : Int32)).toUInt32.toUInt16.toUInt32.toInt32)), (.ref b141), (.ref b162), (.ref b152), (.ref b152)])) _
      obtain ⟨_, _, ⟨T173, L173, k173, n173⟩, -, X173, ⟨Lc173, hQ173, l173, y173, z173⟩, st173⟩ := Jvm.LawKit.callS X162 hx (y := (⟨"java/lang/String", "valueOf", "(C)Ljava/lang/String;"⟩ : MethodName)) hown (mvT hZ (hw _ (List.mem_of_getElem? (i := 4) rfl))) (mvT hZ (hw _ (List.mem_of_getElem? (i := 5) rfl))) (mvT hZ (hw _ (List.mem_of_getElem? (i := 6) rfl))) (mvT hZ (hw _ (List.mem_of_getElem? (i := 7) rfl))) (by decide) (backOf (W := 4) (rm_valueOf l Z a0 hw [] ((p2 &&& (255 : Int32)).toUInt32.toUInt16.toUInt32.toInt32) (cs) T162.heap n0 Zs162 f163 hcs (own_chr _)) hZ (hw _ (List.mem_of_getElem? (i := 7) rfl)) (hw _ (List.mem_of_getElem? (i := 6) rfl)) (by decide) (by decide)) (g := (mkF m 116 #[.val (.int p0), .val (.int p1), .val (.int p2), .val (.int p3), .val (.int (0 : Int32)), .val (.int (1 : Int32)), .val (.int (p0.toInt8.toInt32)), .val (.int (p1.toInt8.toInt32)), .val (.int (p2.toInt8.toInt32)), .val (.ref b134), .val (.ref b141), .unset, .unset, .unset] [(.int ((p2 &&& (255 : Int32)).toUInt32.toUInt16.toUInt32.toInt32)), (.ref b141), (.ref b162), (.ref b152), (.ref b152)])) rfl (by rw [hml]; rfl) (argsL := [(.int ((p2 &&& (255 : Int32)).toUInt32.toUInt16.toUInt32.toInt32))]) (rest := [(.ref b141), (.ref b162), (.ref b152), (.ref b152)]) (lenOf pd_4 rfl) rfl (by show 2 * 0 + _ ≤ _; exact Nat.le_of_eq rfl) (hb hby at_116) (fun _ _ => ⟨rfl, rfl, (by decide : 5 + 2 ≤ _), (by decide : 11 + 5 ≤ _)⟩)
      dsimp only [Pt.U, Pt.locs, Pt.cells, Pt.slots] at X173 l173 y173 z173 st173 hQ173
      subst l173 y173 z173
      obtain ⟨b173, rfl, Nq173, K173, gn_b173, szq_b173⟩ := hQ173
      have ne_b134_b173 : b134 ≠ b173 := Nat.ne_of_lt (Nat.lt_of_lt_of_le f164.lt szq_b173)
      have ne_b141_b173 : b141 ≠ b173 := Nat.ne_of_lt (Nat.lt_of_lt_of_le f166.lt szq_b173)
      have ne_b152_b173 : b152 ≠ b173 := Nat.ne_of_lt (Nat.lt_of_lt_of_le f168.lt szq_b173)
      have f174 := own_sta_keep f163 K173
      have f175 := f164.keep K173 List.not_mem_nil
      have f176 := f165.keep K173
      have f177 := f166.keep K173 List.not_mem_nil
      have f178 := f167.keep K173
      have f179 := f168.keep K173
      have f180 := f169.keep K173 List.not_mem_nil
      have f181 := f170.keep K173 List.not_mem_nil
      have f182 := f171.keep K173 List.not_mem_nil
      have f183 := f172.keep K173 List.not_mem_nil
      have Zs173 : n0 ≤ T173.heap.size := Nat.le_trans Zs162 K173.1
      have N173 := Fr.app N162 Nq173
      refine own_by (st173) ?_
      show own_Go p.tables e below (T173.setTop (mkF m 119 #[.val (.int p0), .val (.int p1), .val (.int p2), .val (.int p3), .val (.int (0 : Int32)), .val (.int (1 : Int32)), .val (.int (p0.toInt8.toInt32)), .val (.int (p1.toInt8.toInt32)), .val (.int (p2.toInt8.toInt32)), .val (.ref b134), .val (.ref b141), .unset, .unset, .unset] [(.ref b173), (.ref b141), (.ref b162), (.ref b152), (.ref b152)])) _
      refine own_by (fun _ kt => XS.aload X173.here hx rfl (hb hby at_119) rfl rfl kt) ?_
      show own_Go p.tables e below (T173.setTop (mkF m 121 #[.val (.int p0), .val (.int p1), .val (.int p2), .val (.int p3), .val (.int (0 : Int32)), .val (.int (1 : Int32)), .val (.int (p0.toInt8.toInt32)), .val (.int (p1.toInt8.toInt32)), .val (.int (p2.toInt8.toInt32)), .val (.ref b134), .val (.ref b141), .unset, .unset, .unset] [(.ref b134), (.ref b173), (.ref b141), (.ref b162), (.ref b152), (.ref b152)])) _
      obtain ⟨_, _, ⟨T184, L184, k184, n184⟩, -, X184, ⟨Lc184, hQ184, l184, y184, z184⟩, st184⟩ := X173.specialBack hx (y := (⟨"com/example/relampago/relampago/lcp/Call", "<init>", "(Ljava/lang/String;[BLjava/lang/String;[B)V"⟩ : MethodName)) rfl hown (mvT hZ (hw _ (List.mem_of_getElem? (i := 29) rfl))) (mvT hZ (hw _ (List.mem_of_getElem? (i := 30) rfl))) (mvT hZ (hw _ (List.mem_of_getElem? (i := 31) rfl))) (by decide) (backOf (W := 1) (rm_init1 l Z a0 hw [] b152 b162 b141 b173 b134 (k141) ((nar .byte (((p0.toUInt32 >>> ((8 : Int32) &&& 31).toUInt32).toInt32).toInt8.toInt32))) (k134) ([(.int (nar .byte (p0.toInt8.toInt32)))]) ((1 : Int32)) T173.heap n0 Zs173 f180 f181 f182 f183 f179 gn_b152 f177 f178 ne_b141_b152 f175 f176 ne_b134_b152 (by decide)) hZ (hw _ (List.mem_of_getElem? (i := 31) rfl)) (hw _ (List.mem_of_getElem? (i := 3) rfl)) (by decide) (by decide)) (g := (mkF m 121 #[.val (.int p0), .val (.int p1), .val (.int p2), .val (.int p3), .val (.int (0 : Int32)), .val (.int (1 : Int32)), .val (.int (p0.toInt8.toInt32)), .val (.int (p1.toInt8.toInt32)), .val (.int (p2.toInt8.toInt32)), .val (.ref b134), .val (.ref b141), .unset, .unset, .unset] [(.ref b134), (.ref b173), (.ref b141), (.ref b162), (.ref b152), (.ref b152)])) rfl (by rw [hml]; rfl) (Steps.refl _) (a := b152) (argsL := [(.ref b162), (.ref b141), (.ref b173), (.ref b134)]) (rest := [(.ref b152)]) (lenOf pd_5 rfl) rfl (by show 2 * 0 + _ ≤ _; exact Nat.le_of_eq rfl) (hb hby at_121) (fun _ _ => ⟨rfl, rfl, (by decide : 7 + 2 ≤ _), (by decide : 16 + 4 ≤ _)⟩)
      dsimp only [Pt.U, Pt.locs, Pt.cells, Pt.slots] at X184 l184 y184 z184 st184 hQ184
      subst l184 y184 z184
      obtain ⟨b184, rfl, Nq184, K184, gn_b184, szq_b184, f184_0, f184_1, f184_2, f184_3⟩ := hQ184
      have ne_b134_b184 : b134 ≠ b184 := Nat.ne_of_lt (Nat.lt_of_lt_of_le f175.lt szq_b184)
      have ne_b141_b184 : b141 ≠ b184 := Nat.ne_of_lt (Nat.lt_of_lt_of_le f177.lt szq_b184)
      have ne_b152_b184 : b152 ≠ b184 := Nat.ne_of_lt (Nat.lt_of_lt_of_le f179.lt szq_b184)
      have f185 := f175.keep K184 (own_nin ne_b134_b152)
      have f186 := f176.keep K184
      have f187 := f177.keep K184 (own_nin ne_b141_b152)
      have f188 := f178.keep K184
      have f189 := f179.keep K184
      have Zs184 : n0 ≤ T184.heap.size := Nat.le_trans Zs173 K184.1
      have N184 := Fr.app N173 Nq184
      refine own_by (fun _ kt => st184.trans kt) ?_
      show own_Go p.tables e below (T184.setTop (mkF m 124 #[.val (.int p0), .val (.int p1), .val (.int p2), .val (.int p3), .val (.int (0 : Int32)), .val (.int (1 : Int32)), .val (.int (p0.toInt8.toInt32)), .val (.int (p1.toInt8.toInt32)), .val (.int (p2.toInt8.toInt32)), .val (.ref b134), .val (.ref b141), .unset, .unset, .unset] [(.ref b152)])) _
      refine own_by (fun _ kt => XS.astore X184.here hx rfl (hb hby at_124) rfl rfl (l' := #[.val (.int p0), .val (.int p1), .val (.int p2), .val (.int p3), .val (.int (0 : Int32)), .val (.int (1 : Int32)), .val (.int (p0.toInt8.toInt32)), .val (.int (p1.toInt8.toInt32)), .val (.int (p2.toInt8.toInt32)), .val (.ref b134), .val (.ref b141), .val (.ref b152), .unset, .unset]) rfl kt) ?_
      show own_Go p.tables e below (T184.setTop (mkF m 126 #[.val (.int p0), .val (.int p1), .val (.int p2), .val (.int p3), .val (.int (0 : Int32)), .val (.int (1 : Int32)), .val (.int (p0.toInt8.toInt32)), .val (.int (p1.toInt8.toInt32)), .val (.int (p2.toInt8.toInt32)), .val (.ref b134), .val (.ref b141), .val (.ref b152), .unset, .unset] [])) _
      refine own_by (fun _ kt => XS.iload X184.here hx rfl (hb hby at_126) rfl kt) ?_
      show own_Go p.tables e below (T184.setTop (mkF m 128 #[.val (.int p0), .val (.int p1), .val (.int p2), .val (.int p3), .val (.int (0 : Int32)), .val (.int (1 : Int32)), .val (.int (p0.toInt8.toInt32)), .val (.int (p1.toInt8.toInt32)), .val (.int (p2.toInt8.toInt32)), .val (.ref b134), .val (.ref b141), .val (.ref b152), .unset, .unset] [(.int (0 : Int32))])) _
      refine own_by (fun _ kt => XS.ifNo X184.here hx rfl (hb hby at_128) rfl ((if0 _ _).trans (teq (by decide : (0 : Int32) = (0 : Int32))).2) kt) ?_
      show own_Go p.tables e below (T184.setTop (mkF m 131 #[.val (.int p0), .val (.int p1), .val (.int p2), .val (.int p3), .val (.int (0 : Int32)), .val (.int (1 : Int32)), .val (.int (p0.toInt8.toInt32)), .val (.int (p1.toInt8.toInt32)), .val (.int (p2.toInt8.toInt32)), .val (.ref b134), .val (.ref b141), .val (.ref b152), .unset, .unset] [])) _
      refine own_by (fun _ kt => XS.aload X184.here hx rfl (hb hby at_131) rfl rfl kt) ?_
      show own_Go p.tables e below (T184.setTop (mkF m 133 #[.val (.int p0), .val (.int p1), .val (.int p2), .val (.int p3), .val (.int (0 : Int32)), .val (.int (1 : Int32)), .val (.int (p0.toInt8.toInt32)), .val (.int (p1.toInt8.toInt32)), .val (.int (p2.toInt8.toInt32)), .val (.ref b134), .val (.ref b141), .val (.ref b152), .unset, .unset] [(.ref b134)])) _
      refine own_by (fun _ kt => XS.iload X184.here hx rfl (hb hby at_133) rfl kt) ?_
      show own_Go p.tables e below (T184.setTop (mkF m 135 #[.val (.int p0), .val (.int p1), .val (.int p2), .val (.int p3), .val (.int (0 : Int32)), .val (.int (1 : Int32)), .val (.int (p0.toInt8.toInt32)), .val (.int (p1.toInt8.toInt32)), .val (.int (p2.toInt8.toInt32)), .val (.ref b134), .val (.ref b141), .val (.ref b152), .unset, .unset] [(.int (1 : Int32)), (.ref b134)])) _
      obtain ⟨_, _, ⟨T190, L190, k190, n190⟩, -, X190, ⟨Lc190, hQ190, l190, y190, z190⟩, st190⟩ := Jvm.LawKit.callS X184 hx (y := (⟨"com/example/relampago/relampago/lcp/CallParamsPinLaw", "bump", "([BI)V"⟩ : MethodName)) hown (mvT hZ (hw _ (List.mem_of_getElem? (i := 55) rfl))) (mvT hZ (hw _ (List.mem_of_getElem? (i := 56) rfl))) (mvT hZ (hw _ (List.mem_of_getElem? (i := 57) rfl))) (mvT hZ (hw _ (List.mem_of_getElem? (i := 58) rfl))) (by decide) (backOf (W := 0) (rm_bump1 l Z a0 hw [] b134 (k134) ((nar .byte (p0.toInt8.toInt32))) T184.heap n0 Zs184 f185 gn_b134) hZ (hw _ (List.mem_of_getElem? (i := 58) rfl)) (hw _ (List.mem_of_getElem? (i := 57) rfl)) (by decide) (by decide)) (g := (mkF m 135 #[.val (.int p0), .val (.int p1), .val (.int p2), .val (.int p3), .val (.int (0 : Int32)), .val (.int (1 : Int32)), .val (.int (p0.toInt8.toInt32)), .val (.int (p1.toInt8.toInt32)), .val (.int (p2.toInt8.toInt32)), .val (.ref b134), .val (.ref b141), .val (.ref b152), .unset, .unset] [(.int (1 : Int32)), (.ref b134)])) rfl (by rw [hml]; rfl) (argsL := [(.ref b134), (.int (1 : Int32))]) (rest := []) (lenOf pd_7 rfl) rfl (by show 2 * 0 + _ ≤ _; exact Nat.le_of_eq rfl) (hb hby at_135) (fun _ _ => ⟨rfl, rfl, (by decide : 9 + 0 ≤ _), (by decide : 20 + 0 ≤ _)⟩)
      dsimp only [Pt.U, Pt.locs, Pt.cells, Pt.slots] at X190 l190 y190 z190 st190 hQ190
      subst l190 y190 z190
      obtain ⟨rfl, Nq190, K190, f190_0⟩ := hQ190
      have f191 := f186.keep K190
      have f192 := f187.keep K190 (own_nin (Ne.symm ne_b134_b141))
      have f193 := f188.keep K190
      have f194 := f184_0.keep K190
      have f195 := f184_1.keep K190 (own_nin (Ne.symm ne_b134_b152))
      have f196 := f184_2.keep K190 (own_nin (Ne.symm ne_b134_b184))
      have f197 := f184_3.keep K190
      have Zs190 : n0 ≤ T190.heap.size := Nat.le_trans Zs184 K190.1
      have N190 := Fr.app N184 Nq190
      refine own_by (st190) ?_
      show own_Go p.tables e below (T190.setTop (mkF m 138 #[.val (.int p0), .val (.int p1), .val (.int p2), .val (.int p3), .val (.int (0 : Int32)), .val (.int (1 : Int32)), .val (.int (p0.toInt8.toInt32)), .val (.int (p1.toInt8.toInt32)), .val (.int (p2.toInt8.toInt32)), .val (.ref b134), .val (.ref b141), .val (.ref b152), .unset, .unset] [])) _
      refine own_by (fun _ kt => XS.aload X190.here hx rfl (hb hby at_138) rfl rfl kt) ?_
      show own_Go p.tables e below (T190.setTop (mkF m 140 #[.val (.int p0), .val (.int p1), .val (.int p2), .val (.int p3), .val (.int (0 : Int32)), .val (.int (1 : Int32)), .val (.int (p0.toInt8.toInt32)), .val (.int (p1.toInt8.toInt32)), .val (.int (p2.toInt8.toInt32)), .val (.ref b134), .val (.ref b141), .val (.ref b152), .unset, .unset] [(.ref b152)])) _
      obtain ⟨cq198, kq198, q198a, q198b, q198c⟩ := isOf hZ rfl f194
      obtain ⟨_, _, ⟨T198, L198, k198, n198⟩, -, X198, ⟨Lc198, hQ198, l198, y198, z198⟩, st198⟩ := X190.virtualBack hx (y := (⟨"com/example/relampago/relampago/lcp/Call", "params", "()[B"⟩ : MethodName)) (z := (⟨"com/example/relampago/relampago/lcp/Call", "params", "()[B"⟩ : MethodName)) hown (mvT hZ (hw _ (List.mem_of_getElem? (i := 59) rfl))) (mvT hZ (hw _ (List.mem_of_getElem? (i := 60) rfl))) (notFace_of_selects (args := #[]) (mvT hZ (hw _ (List.mem_of_getElem? (i := 62) rfl)))) (mvT hZ (hw _ (List.mem_of_getElem? (i := 62) rfl))) (mvT hZ (hw _ (List.mem_of_getElem? (i := 61) rfl))) (by decide) (backOf (W := 0) (rm_params1 l Z a0 hw [] b152 (b184) (k134) ([(.int (nar .byte (p0.toInt8.toInt32)))]) ((1 : Int32)) T190.heap n0 Zs190 f195 f196 f197 (by decide)) hZ (hw _ (List.mem_of_getElem? (i := 63) rfl)) (hw _ (List.mem_of_getElem? (i := 3) rfl)) (by decide) (by decide)) q198a q198c (g := (mkF m 140 #[.val (.int p0), .val (.int p1), .val (.int p2), .val (.int p3), .val (.int (0 : Int32)), .val (.int (1 : Int32)), .val (.int (p0.toInt8.toInt32)), .val (.int (p1.toInt8.toInt32)), .val (.int (p2.toInt8.toInt32)), .val (.ref b134), .val (.ref b141), .val (.ref b152), .unset, .unset] [(.ref b152)])) rfl (by rw [hml]; rfl) (Steps.refl _) (argsL := []) (rest := []) (lenOf pd_6 rfl) rfl (by show 2 * 0 + _ ≤ _; exact Nat.le_of_eq rfl) (hb hby at_140) (fun _ _ => ⟨rfl, rfl, (by decide : 9 + 1 ≤ _), (by decide : 20 + 3 ≤ _)⟩)
      dsimp only [Pt.U, Pt.locs, Pt.cells, Pt.slots] at X198 l198 y198 z198 st198 hQ198
      subst l198 y198 z198
      obtain ⟨b198, rfl, Nq198, K198, gn_b198, szq_b198, f198_0, f198_1⟩ := hQ198
      have ne_b134_b198 : b134 ≠ b198 := Nat.ne_of_lt (Nat.lt_of_lt_of_le f191.lt szq_b198)
      have ne_b141_b198 : b141 ≠ b198 := Nat.ne_of_lt (Nat.lt_of_lt_of_le f192.lt szq_b198)
      have ne_b152_b198 : b152 ≠ b198 := Nat.ne_of_lt (Nat.lt_of_lt_of_le f194.lt szq_b198)
      have ne_b184_b198 : b184 ≠ b198 := Nat.ne_of_lt (Nat.lt_of_lt_of_le f196.lt szq_b198)
      have f199 := f191.keep K198
      have f200 := f192.keep K198 List.not_mem_nil
      have f201 := f193.keep K198
      have f202 := f194.keep K198
      have f203 := f195.keep K198 List.not_mem_nil
      have f204 := f196.keep K198 List.not_mem_nil
      have f205 := f197.keep K198
      have f206 := f190_0.keep K198 List.not_mem_nil
      have Zs198 : n0 ≤ T198.heap.size := Nat.le_trans Zs190 K198.1
      have N198 := Fr.app N190 Nq198
      refine own_by (fun _ kt => st198.trans kt) ?_
      show own_Go p.tables e below (T198.setTop (mkF m 143 #[.val (.int p0), .val (.int p1), .val (.int p2), .val (.int p3), .val (.int (0 : Int32)), .val (.int (1 : Int32)), .val (.int (p0.toInt8.toInt32)), .val (.int (p1.toInt8.toInt32)), .val (.int (p2.toInt8.toInt32)), .val (.ref b134), .val (.ref b141), .val (.ref b152), .unset, .unset] [(.ref b198)])) _
      refine own_by (fun _ kt => XS.astore X198.here hx rfl (hb hby at_143) rfl rfl (l' := #[.val (.int p0), .val (.int p1), .val (.int p2), .val (.int p3), .val (.int (0 : Int32)), .val (.int (1 : Int32)), .val (.int (p0.toInt8.toInt32)), .val (.int (p1.toInt8.toInt32)), .val (.int (p2.toInt8.toInt32)), .val (.ref b134), .val (.ref b141), .val (.ref b152), .val (.ref b198), .unset]) rfl kt) ?_
      show own_Go p.tables e below (T198.setTop (mkF m 145 #[.val (.int p0), .val (.int p1), .val (.int p2), .val (.int p3), .val (.int (0 : Int32)), .val (.int (1 : Int32)), .val (.int (p0.toInt8.toInt32)), .val (.int (p1.toInt8.toInt32)), .val (.int (p2.toInt8.toInt32)), .val (.ref b134), .val (.ref b141), .val (.ref b152), .val (.ref b198), .unset] [])) _
      refine own_by (fun _ kt => XS.iload X198.here hx rfl (hb hby at_145) rfl kt) ?_
      show own_Go p.tables e below (T198.setTop (mkF m 147 #[.val (.int p0), .val (.int p1), .val (.int p2), .val (.int p3), .val (.int (0 : Int32)), .val (.int (1 : Int32)), .val (.int (p0.toInt8.toInt32)), .val (.int (p1.toInt8.toInt32)), .val (.int (p2.toInt8.toInt32)), .val (.ref b134), .val (.ref b141), .val (.ref b152), .val (.ref b198), .unset] [(.int (0 : Int32))])) _
      refine own_by (fun _ kt => XS.ifYes X198.here hx rfl (pc0 := 147) (pc' := 169) rfl (hb hby at_147) rfl ((if0 _ _).trans (teq (by decide : (0 : Int32) = (0 : Int32))).1) (by decide) (by decide) kt) ?_
      show own_Go p.tables e below (T198.setTop (mkF m 169 #[.val (.int p0), .val (.int p1), .val (.int p2), .val (.int p3), .val (.int (0 : Int32)), .val (.int (1 : Int32)), .val (.int (p0.toInt8.toInt32)), .val (.int (p1.toInt8.toInt32)), .val (.int (p2.toInt8.toInt32)), .val (.ref b134), .val (.ref b141), .val (.ref b152), .val (.ref b198), .unset] [])) _
      refine own_by (fun _ kt => XS.aload X198.here hx rfl (hb hby at_169) rfl rfl kt) ?_
      show own_Go p.tables e below (T198.setTop (mkF m 171 #[.val (.int p0), .val (.int p1), .val (.int p2), .val (.int p3), .val (.int (0 : Int32)), .val (.int (1 : Int32)), .val (.int (p0.toInt8.toInt32)), .val (.int (p1.toInt8.toInt32)), .val (.int (p2.toInt8.toInt32)), .val (.ref b134), .val (.ref b141), .val (.ref b152), .val (.ref b198), .unset] [(.ref b198)])) _
      refine own_by (fun _ kt => XS.ifnullNo X198.here hx rfl (hb hby at_171) rfl kt) ?_
      show own_Go p.tables e below (T198.setTop (mkF m 174 #[.val (.int p0), .val (.int p1), .val (.int p2), .val (.int p3), .val (.int (0 : Int32)), .val (.int (1 : Int32)), .val (.int (p0.toInt8.toInt32)), .val (.int (p1.toInt8.toInt32)), .val (.int (p2.toInt8.toInt32)), .val (.ref b134), .val (.ref b141), .val (.ref b152), .val (.ref b198), .unset] [])) _
      refine own_by (fun _ kt => XS.aload X198.here hx rfl (hb hby at_174) rfl rfl kt) ?_
      show own_Go p.tables e below (T198.setTop (mkF m 176 #[.val (.int p0), .val (.int p1), .val (.int p2), .val (.int p3), .val (.int (0 : Int32)), .val (.int (1 : Int32)), .val (.int (p0.toInt8.toInt32)), .val (.int (p1.toInt8.toInt32)), .val (.int (p2.toInt8.toInt32)), .val (.ref b134), .val (.ref b141), .val (.ref b152), .val (.ref b198), .unset] [(.ref b198)])) _
      refine own_by (fun _ kt => XS.aload X198.here hx rfl (hb hby at_176) rfl rfl kt) ?_
      show own_Go p.tables e below (T198.setTop (mkF m 178 #[.val (.int p0), .val (.int p1), .val (.int p2), .val (.int p3), .val (.int (0 : Int32)), .val (.int (1 : Int32)), .val (.int (p0.toInt8.toInt32)), .val (.int (p1.toInt8.toInt32)), .val (.int (p2.toInt8.toInt32)), .val (.ref b134), .val (.ref b141), .val (.ref b152), .val (.ref b198), .unset] [(.ref b134), (.ref b198)])) _
      refine own_by (fun _ kt => Jvm.RoadKit.acmp (g := (mkF m 178 #[.val (.int p0), .val (.int p1), .val (.int p2), .val (.int p3), .val (.int (0 : Int32)), .val (.int (1 : Int32)), .val (.int (p0.toInt8.toInt32)), .val (.int (p1.toInt8.toInt32)), .val (.int (p2.toInt8.toInt32)), .val (.ref b134), .val (.ref b141), .val (.ref b152), .val (.ref b198), .unset] [(.ref b134), (.ref b198)])) X198 hx rfl rfl rfl (pc0 := 178) (pc' := 183) (same := false) rfl (hb hby at_178) rfl (decide_eq_false fun q => (Ne.symm ne_b134_b198) (Value.ref.inj q)) (by decide) (by decide) kt) ?_
      show own_Go p.tables e below (T198.setTop (mkF m 183 #[.val (.int p0), .val (.int p1), .val (.int p2), .val (.int p3), .val (.int (0 : Int32)), .val (.int (1 : Int32)), .val (.int (p0.toInt8.toInt32)), .val (.int (p1.toInt8.toInt32)), .val (.int (p2.toInt8.toInt32)), .val (.ref b134), .val (.ref b141), .val (.ref b152), .val (.ref b198), .unset] [])) _
      refine own_by (fun _ kt => XS.aload X198.here hx rfl (hb hby at_183) rfl rfl kt) ?_
      show own_Go p.tables e below (T198.setTop (mkF m 185 #[.val (.int p0), .val (.int p1), .val (.int p2), .val (.int p3), .val (.int (0 : Int32)), .val (.int (1 : Int32)), .val (.int (p0.toInt8.toInt32)), .val (.int (p1.toInt8.toInt32)), .val (.int (p2.toInt8.toInt32)), .val (.ref b134), .val (.ref b141), .val (.ref b152), .val (.ref b198), .unset] [(.ref b198)])) _
      refine own_by (fun _ kt => XS.iload X198.here hx rfl (hb hby at_185) rfl kt) ?_
      show own_Go p.tables e below (T198.setTop (mkF m 187 #[.val (.int p0), .val (.int p1), .val (.int p2), .val (.int p3), .val (.int (0 : Int32)), .val (.int (1 : Int32)), .val (.int (p0.toInt8.toInt32)), .val (.int (p1.toInt8.toInt32)), .val (.int (p2.toInt8.toInt32)), .val (.ref b134), .val (.ref b141), .val (.ref b152), .val (.ref b198), .unset] [(.int (1 : Int32)), (.ref b198)])) _
      refine own_by (fun _ kt => XS.iload X198.here hx rfl (hb hby at_187) rfl kt) ?_
      show own_Go p.tables e below (T198.setTop (mkF m 189 #[.val (.int p0), .val (.int p1), .val (.int p2), .val (.int p3), .val (.int (0 : Int32)), .val (.int (1 : Int32)), .val (.int (p0.toInt8.toInt32)), .val (.int (p1.toInt8.toInt32)), .val (.int (p2.toInt8.toInt32)), .val (.ref b134), .val (.ref b141), .val (.ref b152), .val (.ref b198), .unset] [(.int (p0.toInt8.toInt32)), (.int (1 : Int32)), (.ref b198)])) _
      refine own_by (fun _ kt => XS.iload X198.here hx rfl (hb hby at_189) rfl kt) ?_
      show own_Go p.tables e below (T198.setTop (mkF m 191 #[.val (.int p0), .val (.int p1), .val (.int p2), .val (.int p3), .val (.int (0 : Int32)), .val (.int (1 : Int32)), .val (.int (p0.toInt8.toInt32)), .val (.int (p1.toInt8.toInt32)), .val (.int (p2.toInt8.toInt32)), .val (.ref b134), .val (.ref b141), .val (.ref b152), .val (.ref b198), .unset] [(.int (p1.toInt8.toInt32)), (.int (p0.toInt8.toInt32)), (.int (1 : Int32)), (.ref b198)])) _
      refine own_by (fun _ kt => XS.iload X198.here hx rfl (hb hby at_191) rfl kt) ?_
      show own_Go p.tables e below (T198.setTop (mkF m 193 #[.val (.int p0), .val (.int p1), .val (.int p2), .val (.int p3), .val (.int (0 : Int32)), .val (.int (1 : Int32)), .val (.int (p0.toInt8.toInt32)), .val (.int (p1.toInt8.toInt32)), .val (.int (p2.toInt8.toInt32)), .val (.ref b134), .val (.ref b141), .val (.ref b152), .val (.ref b198), .unset] [(.int (p2.toInt8.toInt32)), (.int (p1.toInt8.toInt32)), (.int (p0.toInt8.toInt32)), (.int (1 : Int32)), (.ref b198)])) _
      obtain ⟨_, _, ⟨T207, L207, k207, n207⟩, -, X207, ⟨Lc207, hQ207, l207, y207, z207⟩, st207⟩ := Jvm.LawKit.callS X198 hx (y := (⟨"com/example/relampago/relampago/lcp/CallParamsPinLaw", "same", "([BIBBB)Z"⟩ : MethodName)) hown (mvT hZ (hw _ (List.mem_of_getElem? (i := 64) rfl))) (mvT hZ (hw _ (List.mem_of_getElem? (i := 65) rfl))) (mvT hZ (hw _ (List.mem_of_getElem? (i := 57) rfl))) (mvT hZ (hw _ (List.mem_of_getElem? (i := 66) rfl))) (by decide) (backOf (W := 0) (rm_same1 l Z a0 hw [] b198 (p0.toInt8.toInt32) (p1.toInt8.toInt32) (p2.toInt8.toInt32) (k134) ((nar .byte (p0.toInt8.toInt32))) T198.heap n0 Zs198 f198_0 (own_nb _)) hZ (hw _ (List.mem_of_getElem? (i := 66) rfl)) (hw _ (List.mem_of_getElem? (i := 57) rfl)) (by decide) (by decide)) (g := (mkF m 193 #[.val (.int p0), .val (.int p1), .val (.int p2), .val (.int p3), .val (.int (0 : Int32)), .val (.int (1 : Int32)), .val (.int (p0.toInt8.toInt32)), .val (.int (p1.toInt8.toInt32)), .val (.int (p2.toInt8.toInt32)), .val (.ref b134), .val (.ref b141), .val (.ref b152), .val (.ref b198), .unset] [(.int (p2.toInt8.toInt32)), (.int (p1.toInt8.toInt32)), (.int (p0.toInt8.toInt32)), (.int (1 : Int32)), (.ref b198)])) rfl (by rw [hml]; rfl) (argsL := [(.ref b198), (.int (1 : Int32)), (.int (p0.toInt8.toInt32)), (.int (p1.toInt8.toInt32)), (.int (p2.toInt8.toInt32))]) (rest := []) (lenOf pd_8 rfl) rfl (by show 2 * 0 + _ ≤ _; exact Nat.le_of_eq rfl) (hb hby at_193) (fun _ _ => ⟨rfl, rfl, (by decide : 10 + 0 ≤ _), (by decide : 23 + 0 ≤ _)⟩)
      dsimp only [Pt.U, Pt.locs, Pt.cells, Pt.slots] at X207 l207 y207 z207 st207 hQ207
      subst l207 y207 z207
      obtain ⟨rfl, Nq207, eh207⟩ := hQ207
      have N207 := Fr.app N198 Nq207
      refine own_by (st207) ?_
      show own_Go p.tables e below (T207.setTop (mkF m 196 #[.val (.int p0), .val (.int p1), .val (.int p2), .val (.int p3), .val (.int (0 : Int32)), .val (.int (1 : Int32)), .val (.int (p0.toInt8.toInt32)), .val (.int (p1.toInt8.toInt32)), .val (.int (p2.toInt8.toInt32)), .val (.ref b134), .val (.ref b141), .val (.ref b152), .val (.ref b198), .unset] [(.int (1 : Int32))])) _
      refine own_by (fun _ kt => XS.ifYes X207.here hx rfl (pc0 := 196) (pc' := 201) rfl (hb hby at_196) rfl ((if0 _ _).trans (feq (by decide : ¬ ((1 : Int32) = (0 : Int32)))).2) (by decide) (by decide) kt) ?_
      show own_Go p.tables e below (T207.setTop (mkF m 201 #[.val (.int p0), .val (.int p1), .val (.int p2), .val (.int p3), .val (.int (0 : Int32)), .val (.int (1 : Int32)), .val (.int (p0.toInt8.toInt32)), .val (.int (p1.toInt8.toInt32)), .val (.int (p2.toInt8.toInt32)), .val (.ref b134), .val (.ref b141), .val (.ref b152), .val (.ref b198), .unset] [])) _
      refine own_by (fun _ kt => XS.aload X207.here hx rfl (hb hby at_201) rfl rfl kt) ?_
      show own_Go p.tables e below (T207.setTop (mkF m 203 #[.val (.int p0), .val (.int p1), .val (.int p2), .val (.int p3), .val (.int (0 : Int32)), .val (.int (1 : Int32)), .val (.int (p0.toInt8.toInt32)), .val (.int (p1.toInt8.toInt32)), .val (.int (p2.toInt8.toInt32)), .val (.ref b134), .val (.ref b141), .val (.ref b152), .val (.ref b198), .unset] [(.ref b198)])) _
      refine own_by (fun _ kt => XS.iload X207.here hx rfl (hb hby at_203) rfl kt) ?_
      show own_Go p.tables e below (T207.setTop (mkF m 205 #[.val (.int p0), .val (.int p1), .val (.int p2), .val (.int p3), .val (.int (0 : Int32)), .val (.int (1 : Int32)), .val (.int (p0.toInt8.toInt32)), .val (.int (p1.toInt8.toInt32)), .val (.int (p2.toInt8.toInt32)), .val (.ref b134), .val (.ref b141), .val (.ref b152), .val (.ref b198), .unset] [(.int (1 : Int32)), (.ref b198)])) _
      obtain ⟨_, _, ⟨T208, L208, k208, n208⟩, -, X208, ⟨Lc208, hQ208, l208, y208, z208⟩, st208⟩ := Jvm.LawKit.callS X207 hx (y := (⟨"com/example/relampago/relampago/lcp/CallParamsPinLaw", "bump", "([BI)V"⟩ : MethodName)) hown (mvT hZ (hw _ (List.mem_of_getElem? (i := 55) rfl))) (mvT hZ (hw _ (List.mem_of_getElem? (i := 56) rfl))) (mvT hZ (hw _ (List.mem_of_getElem? (i := 57) rfl))) (mvT hZ (hw _ (List.mem_of_getElem? (i := 58) rfl))) (by decide) (backOf (W := 0) (rm_bump1 l Z a0 hw [] b198 (k134) ((nar .byte (p0.toInt8.toInt32))) T198.heap n0 Zs198 f198_0 gn_b198) hZ (hw _ (List.mem_of_getElem? (i := 58) rfl)) (hw _ (List.mem_of_getElem? (i := 57) rfl)) (by decide) (by decide)) (g := (mkF m 205 #[.val (.int p0), .val (.int p1), .val (.int p2), .val (.int p3), .val (.int (0 : Int32)), .val (.int (1 : Int32)), .val (.int (p0.toInt8.toInt32)), .val (.int (p1.toInt8.toInt32)), .val (.int (p2.toInt8.toInt32)), .val (.ref b134), .val (.ref b141), .val (.ref b152), .val (.ref b198), .unset] [(.int (1 : Int32)), (.ref b198)])) rfl (by rw [hml]; rfl) (argsL := [(.ref b198), (.int (1 : Int32))]) (rest := []) (lenOf pd_7 rfl) rfl (by show 2 * 0 + _ ≤ _; exact Nat.le_of_eq rfl) (hb hby at_205) (fun _ _ => ⟨rfl, eh207, (by decide : 10 + 0 ≤ _), (by decide : 23 + 0 ≤ _)⟩)
      dsimp only [Pt.U, Pt.locs, Pt.cells, Pt.slots] at X208 l208 y208 z208 st208 hQ208
      subst l208 y208 z208
      obtain ⟨rfl, Nq208, K208, f208_0⟩ := hQ208
      have f209 := f199.keep K208
      have f210 := f200.keep K208 (own_nin ne_b141_b198)
      have f211 := f201.keep K208
      have f212 := f202.keep K208
      have f213 := f203.keep K208 (own_nin ne_b152_b198)
      have f214 := f204.keep K208 (own_nin ne_b184_b198)
      have f215 := f205.keep K208
      have f216 := f206.keep K208 (own_nin ne_b134_b198)
      have f217 := f198_1.keep K208
      have Zs208 : n0 ≤ T208.heap.size := Nat.le_trans Zs198 K208.1
      have N208 := Fr.app N207 Nq208
      refine own_by (st208) ?_
      show own_Go p.tables e below (T208.setTop (mkF m 208 #[.val (.int p0), .val (.int p1), .val (.int p2), .val (.int p3), .val (.int (0 : Int32)), .val (.int (1 : Int32)), .val (.int (p0.toInt8.toInt32)), .val (.int (p1.toInt8.toInt32)), .val (.int (p2.toInt8.toInt32)), .val (.ref b134), .val (.ref b141), .val (.ref b152), .val (.ref b198), .unset] [])) _
      refine own_by (fun _ kt => XS.aload X208.here hx rfl (hb hby at_208) rfl rfl kt) ?_
      show own_Go p.tables e below (T208.setTop (mkF m 210 #[.val (.int p0), .val (.int p1), .val (.int p2), .val (.int p3), .val (.int (0 : Int32)), .val (.int (1 : Int32)), .val (.int (p0.toInt8.toInt32)), .val (.int (p1.toInt8.toInt32)), .val (.int (p2.toInt8.toInt32)), .val (.ref b134), .val (.ref b141), .val (.ref b152), .val (.ref b198), .unset] [(.ref b152)])) _
      obtain ⟨cq218, kq218, q218a, q218b, q218c⟩ := isOf hZ rfl f212
      obtain ⟨_, _, ⟨T218, L218, k218, n218⟩, -, X218, ⟨Lc218, hQ218, l218, y218, z218⟩, st218⟩ := X208.virtualBack hx (y := (⟨"com/example/relampago/relampago/lcp/Call", "params", "()[B"⟩ : MethodName)) (z := (⟨"com/example/relampago/relampago/lcp/Call", "params", "()[B"⟩ : MethodName)) hown (mvT hZ (hw _ (List.mem_of_getElem? (i := 59) rfl))) (mvT hZ (hw _ (List.mem_of_getElem? (i := 60) rfl))) (notFace_of_selects (args := #[]) (mvT hZ (hw _ (List.mem_of_getElem? (i := 62) rfl)))) (mvT hZ (hw _ (List.mem_of_getElem? (i := 62) rfl))) (mvT hZ (hw _ (List.mem_of_getElem? (i := 61) rfl))) (by decide) (backOf (W := 0) (rm_params1 l Z a0 hw [] b152 (b184) (k134) ([(.int (nar .byte (p0.toInt8.toInt32)))]) ((1 : Int32)) T208.heap n0 Zs208 f213 f214 f215 (by decide)) hZ (hw _ (List.mem_of_getElem? (i := 63) rfl)) (hw _ (List.mem_of_getElem? (i := 3) rfl)) (by decide) (by decide)) q218a q218c (g := (mkF m 210 #[.val (.int p0), .val (.int p1), .val (.int p2), .val (.int p3), .val (.int (0 : Int32)), .val (.int (1 : Int32)), .val (.int (p0.toInt8.toInt32)), .val (.int (p1.toInt8.toInt32)), .val (.int (p2.toInt8.toInt32)), .val (.ref b134), .val (.ref b141), .val (.ref b152), .val (.ref b198), .unset] [(.ref b152)])) rfl (by rw [hml]; rfl) (Steps.refl _) (argsL := []) (rest := []) (lenOf pd_6 rfl) rfl (by show 2 * 0 + _ ≤ _; exact Nat.le_of_eq rfl) (hb hby at_210) (fun _ _ => ⟨rfl, rfl, (by decide : 10 + 1 ≤ _), (by decide : 23 + 3 ≤ _)⟩)
      dsimp only [Pt.U, Pt.locs, Pt.cells, Pt.slots] at X218 l218 y218 z218 st218 hQ218
      subst l218 y218 z218
      obtain ⟨b218, rfl, Nq218, K218, gn_b218, szq_b218, f218_0, f218_1⟩ := hQ218
      have ne_b134_b218 : b134 ≠ b218 := Nat.ne_of_lt (Nat.lt_of_lt_of_le f209.lt szq_b218)
      have ne_b141_b218 : b141 ≠ b218 := Nat.ne_of_lt (Nat.lt_of_lt_of_le f210.lt szq_b218)
      have ne_b152_b218 : b152 ≠ b218 := Nat.ne_of_lt (Nat.lt_of_lt_of_le f212.lt szq_b218)
      have ne_b184_b218 : b184 ≠ b218 := Nat.ne_of_lt (Nat.lt_of_lt_of_le f214.lt szq_b218)
      have ne_b198_b218 : b198 ≠ b218 := Nat.ne_of_lt (Nat.lt_of_lt_of_le f217.lt szq_b218)
      have f219 := f209.keep K218
      have f220 := f210.keep K218 List.not_mem_nil
      have f221 := f211.keep K218
      have f222 := f212.keep K218
      have f223 := f213.keep K218 List.not_mem_nil
      have f224 := f214.keep K218 List.not_mem_nil
      have f225 := f215.keep K218
      have f226 := f216.keep K218 List.not_mem_nil
      have f227 := f217.keep K218
      have f228 := f208_0.keep K218 List.not_mem_nil
      have Zs218 : n0 ≤ T218.heap.size := Nat.le_trans Zs208 K218.1
      have N218 := Fr.app N208 Nq218
      refine own_by (fun _ kt => st218.trans kt) ?_
      show own_Go p.tables e below (T218.setTop (mkF m 213 #[.val (.int p0), .val (.int p1), .val (.int p2), .val (.int p3), .val (.int (0 : Int32)), .val (.int (1 : Int32)), .val (.int (p0.toInt8.toInt32)), .val (.int (p1.toInt8.toInt32)), .val (.int (p2.toInt8.toInt32)), .val (.ref b134), .val (.ref b141), .val (.ref b152), .val (.ref b198), .unset] [(.ref b218)])) _
      refine own_by (fun _ kt => XS.astore X218.here hx rfl (hb hby at_213) rfl rfl (l' := #[.val (.int p0), .val (.int p1), .val (.int p2), .val (.int p3), .val (.int (0 : Int32)), .val (.int (1 : Int32)), .val (.int (p0.toInt8.toInt32)), .val (.int (p1.toInt8.toInt32)), .val (.int (p2.toInt8.toInt32)), .val (.ref b134), .val (.ref b141), .val (.ref b152), .val (.ref b198), .val (.ref b218)]) rfl kt) ?_
      show own_Go p.tables e below (T218.setTop (mkF m 215 #[.val (.int p0), .val (.int p1), .val (.int p2), .val (.int p3), .val (.int (0 : Int32)), .val (.int (1 : Int32)), .val (.int (p0.toInt8.toInt32)), .val (.int (p1.toInt8.toInt32)), .val (.int (p2.toInt8.toInt32)), .val (.ref b134), .val (.ref b141), .val (.ref b152), .val (.ref b198), .val (.ref b218)] [])) _
      refine own_by (fun _ kt => XS.aload X218.here hx rfl (hb hby at_215) rfl rfl kt) ?_
      show own_Go p.tables e below (T218.setTop (mkF m 217 #[.val (.int p0), .val (.int p1), .val (.int p2), .val (.int p3), .val (.int (0 : Int32)), .val (.int (1 : Int32)), .val (.int (p0.toInt8.toInt32)), .val (.int (p1.toInt8.toInt32)), .val (.int (p2.toInt8.toInt32)), .val (.ref b134), .val (.ref b141), .val (.ref b152), .val (.ref b198), .val (.ref b218)] [(.ref b218)])) _
      refine own_by (fun _ kt => XS.ifnullNo X218.here hx rfl (hb hby at_217) rfl kt) ?_
      show own_Go p.tables e below (T218.setTop (mkF m 220 #[.val (.int p0), .val (.int p1), .val (.int p2), .val (.int p3), .val (.int (0 : Int32)), .val (.int (1 : Int32)), .val (.int (p0.toInt8.toInt32)), .val (.int (p1.toInt8.toInt32)), .val (.int (p2.toInt8.toInt32)), .val (.ref b134), .val (.ref b141), .val (.ref b152), .val (.ref b198), .val (.ref b218)] [])) _
      refine own_by (fun _ kt => XS.aload X218.here hx rfl (hb hby at_220) rfl rfl kt) ?_
      show own_Go p.tables e below (T218.setTop (mkF m 222 #[.val (.int p0), .val (.int p1), .val (.int p2), .val (.int p3), .val (.int (0 : Int32)), .val (.int (1 : Int32)), .val (.int (p0.toInt8.toInt32)), .val (.int (p1.toInt8.toInt32)), .val (.int (p2.toInt8.toInt32)), .val (.ref b134), .val (.ref b141), .val (.ref b152), .val (.ref b198), .val (.ref b218)] [(.ref b218)])) _
      refine own_by (fun _ kt => XS.aload X218.here hx rfl (hb hby at_222) rfl rfl kt) ?_
      show own_Go p.tables e below (T218.setTop (mkF m 224 #[.val (.int p0), .val (.int p1), .val (.int p2), .val (.int p3), .val (.int (0 : Int32)), .val (.int (1 : Int32)), .val (.int (p0.toInt8.toInt32)), .val (.int (p1.toInt8.toInt32)), .val (.int (p2.toInt8.toInt32)), .val (.ref b134), .val (.ref b141), .val (.ref b152), .val (.ref b198), .val (.ref b218)] [(.ref b134), (.ref b218)])) _
      refine own_by (fun _ kt => Jvm.RoadKit.acmp (g := (mkF m 224 #[.val (.int p0), .val (.int p1), .val (.int p2), .val (.int p3), .val (.int (0 : Int32)), .val (.int (1 : Int32)), .val (.int (p0.toInt8.toInt32)), .val (.int (p1.toInt8.toInt32)), .val (.int (p2.toInt8.toInt32)), .val (.ref b134), .val (.ref b141), .val (.ref b152), .val (.ref b198), .val (.ref b218)] [(.ref b134), (.ref b218)])) X218 hx rfl rfl rfl (pc0 := 224) (pc' := 227) (same := false) rfl (hb hby at_224) rfl (decide_eq_false fun q => (Ne.symm ne_b134_b218) (Value.ref.inj q)) (by decide) (by decide) kt) ?_
      show own_Go p.tables e below (T218.setTop (mkF m 227 #[.val (.int p0), .val (.int p1), .val (.int p2), .val (.int p3), .val (.int (0 : Int32)), .val (.int (1 : Int32)), .val (.int (p0.toInt8.toInt32)), .val (.int (p1.toInt8.toInt32)), .val (.int (p2.toInt8.toInt32)), .val (.ref b134), .val (.ref b141), .val (.ref b152), .val (.ref b198), .val (.ref b218)] [])) _
      refine own_by (fun _ kt => XS.aload X218.here hx rfl (hb hby at_227) rfl rfl kt) ?_
      show own_Go p.tables e below (T218.setTop (mkF m 229 #[.val (.int p0), .val (.int p1), .val (.int p2), .val (.int p3), .val (.int (0 : Int32)), .val (.int (1 : Int32)), .val (.int (p0.toInt8.toInt32)), .val (.int (p1.toInt8.toInt32)), .val (.int (p2.toInt8.toInt32)), .val (.ref b134), .val (.ref b141), .val (.ref b152), .val (.ref b198), .val (.ref b218)] [(.ref b218)])) _
      refine own_by (fun _ kt => XS.aload X218.here hx rfl (hb hby at_229) rfl rfl kt) ?_
      show own_Go p.tables e below (T218.setTop (mkF m 231 #[.val (.int p0), .val (.int p1), .val (.int p2), .val (.int p3), .val (.int (0 : Int32)), .val (.int (1 : Int32)), .val (.int (p0.toInt8.toInt32)), .val (.int (p1.toInt8.toInt32)), .val (.int (p2.toInt8.toInt32)), .val (.ref b134), .val (.ref b141), .val (.ref b152), .val (.ref b198), .val (.ref b218)] [(.ref b198), (.ref b218)])) _
      refine own_by (fun _ kt => Jvm.RoadKit.acmp (g := (mkF m 231 #[.val (.int p0), .val (.int p1), .val (.int p2), .val (.int p3), .val (.int (0 : Int32)), .val (.int (1 : Int32)), .val (.int (p0.toInt8.toInt32)), .val (.int (p1.toInt8.toInt32)), .val (.int (p2.toInt8.toInt32)), .val (.ref b134), .val (.ref b141), .val (.ref b152), .val (.ref b198), .val (.ref b218)] [(.ref b198), (.ref b218)])) X218 hx rfl rfl rfl (pc0 := 231) (pc' := 236) (same := false) rfl (hb hby at_231) rfl (decide_eq_false fun q => (Ne.symm ne_b198_b218) (Value.ref.inj q)) (by decide) (by decide) kt) ?_
      show own_Go p.tables e below (T218.setTop (mkF m 236 #[.val (.int p0), .val (.int p1), .val (.int p2), .val (.int p3), .val (.int (0 : Int32)), .val (.int (1 : Int32)), .val (.int (p0.toInt8.toInt32)), .val (.int (p1.toInt8.toInt32)), .val (.int (p2.toInt8.toInt32)), .val (.ref b134), .val (.ref b141), .val (.ref b152), .val (.ref b198), .val (.ref b218)] [])) _
      refine own_by (fun _ kt => XS.aload X218.here hx rfl (hb hby at_236) rfl rfl kt) ?_
      show own_Go p.tables e below (T218.setTop (mkF m 238 #[.val (.int p0), .val (.int p1), .val (.int p2), .val (.int p3), .val (.int (0 : Int32)), .val (.int (1 : Int32)), .val (.int (p0.toInt8.toInt32)), .val (.int (p1.toInt8.toInt32)), .val (.int (p2.toInt8.toInt32)), .val (.ref b134), .val (.ref b141), .val (.ref b152), .val (.ref b198), .val (.ref b218)] [(.ref b218)])) _
      refine own_by (fun _ kt => XS.iload X218.here hx rfl (hb hby at_238) rfl kt) ?_
      show own_Go p.tables e below (T218.setTop (mkF m 240 #[.val (.int p0), .val (.int p1), .val (.int p2), .val (.int p3), .val (.int (0 : Int32)), .val (.int (1 : Int32)), .val (.int (p0.toInt8.toInt32)), .val (.int (p1.toInt8.toInt32)), .val (.int (p2.toInt8.toInt32)), .val (.ref b134), .val (.ref b141), .val (.ref b152), .val (.ref b198), .val (.ref b218)] [(.int (1 : Int32)), (.ref b218)])) _
      refine own_by (fun _ kt => XS.iload X218.here hx rfl (hb hby at_240) rfl kt) ?_
      show own_Go p.tables e below (T218.setTop (mkF m 242 #[.val (.int p0), .val (.int p1), .val (.int p2), .val (.int p3), .val (.int (0 : Int32)), .val (.int (1 : Int32)), .val (.int (p0.toInt8.toInt32)), .val (.int (p1.toInt8.toInt32)), .val (.int (p2.toInt8.toInt32)), .val (.ref b134), .val (.ref b141), .val (.ref b152), .val (.ref b198), .val (.ref b218)] [(.int (p0.toInt8.toInt32)), (.int (1 : Int32)), (.ref b218)])) _
      refine own_by (fun _ kt => XS.iload X218.here hx rfl (hb hby at_242) rfl kt) ?_
      show own_Go p.tables e below (T218.setTop (mkF m 244 #[.val (.int p0), .val (.int p1), .val (.int p2), .val (.int p3), .val (.int (0 : Int32)), .val (.int (1 : Int32)), .val (.int (p0.toInt8.toInt32)), .val (.int (p1.toInt8.toInt32)), .val (.int (p2.toInt8.toInt32)), .val (.ref b134), .val (.ref b141), .val (.ref b152), .val (.ref b198), .val (.ref b218)] [(.int (p1.toInt8.toInt32)), (.int (p0.toInt8.toInt32)), (.int (1 : Int32)), (.ref b218)])) _
      refine own_by (fun _ kt => XS.iload X218.here hx rfl (hb hby at_244) rfl kt) ?_
      show own_Go p.tables e below (T218.setTop (mkF m 246 #[.val (.int p0), .val (.int p1), .val (.int p2), .val (.int p3), .val (.int (0 : Int32)), .val (.int (1 : Int32)), .val (.int (p0.toInt8.toInt32)), .val (.int (p1.toInt8.toInt32)), .val (.int (p2.toInt8.toInt32)), .val (.ref b134), .val (.ref b141), .val (.ref b152), .val (.ref b198), .val (.ref b218)] [(.int (p2.toInt8.toInt32)), (.int (p1.toInt8.toInt32)), (.int (p0.toInt8.toInt32)), (.int (1 : Int32)), (.ref b218)])) _
      obtain ⟨_, _, ⟨T229, L229, k229, n229⟩, -, X229, ⟨Lc229, hQ229, l229, y229, z229⟩, st229⟩ := Jvm.LawKit.callS X218 hx (y := (⟨"com/example/relampago/relampago/lcp/CallParamsPinLaw", "same", "([BIBBB)Z"⟩ : MethodName)) hown (mvT hZ (hw _ (List.mem_of_getElem? (i := 64) rfl))) (mvT hZ (hw _ (List.mem_of_getElem? (i := 65) rfl))) (mvT hZ (hw _ (List.mem_of_getElem? (i := 57) rfl))) (mvT hZ (hw _ (List.mem_of_getElem? (i := 66) rfl))) (by decide) (backOf (W := 0) (rm_same1 l Z a0 hw [] b218 (p0.toInt8.toInt32) (p1.toInt8.toInt32) (p2.toInt8.toInt32) (k134) ((nar .byte (p0.toInt8.toInt32))) T218.heap n0 Zs218 f218_0 (own_nb _)) hZ (hw _ (List.mem_of_getElem? (i := 66) rfl)) (hw _ (List.mem_of_getElem? (i := 57) rfl)) (by decide) (by decide)) (g := (mkF m 246 #[.val (.int p0), .val (.int p1), .val (.int p2), .val (.int p3), .val (.int (0 : Int32)), .val (.int (1 : Int32)), .val (.int (p0.toInt8.toInt32)), .val (.int (p1.toInt8.toInt32)), .val (.int (p2.toInt8.toInt32)), .val (.ref b134), .val (.ref b141), .val (.ref b152), .val (.ref b198), .val (.ref b218)] [(.int (p2.toInt8.toInt32)), (.int (p1.toInt8.toInt32)), (.int (p0.toInt8.toInt32)), (.int (1 : Int32)), (.ref b218)])) rfl (by rw [hml]; rfl) (argsL := [(.ref b218), (.int (1 : Int32)), (.int (p0.toInt8.toInt32)), (.int (p1.toInt8.toInt32)), (.int (p2.toInt8.toInt32))]) (rest := []) (lenOf pd_8 rfl) rfl (by show 2 * 0 + _ ≤ _; exact Nat.le_of_eq rfl) (hb hby at_246) (fun _ _ => ⟨rfl, rfl, (by decide : 11 + 0 ≤ _), (by decide : 26 + 0 ≤ _)⟩)
      dsimp only [Pt.U, Pt.locs, Pt.cells, Pt.slots] at X229 l229 y229 z229 st229 hQ229
      subst l229 y229 z229
      obtain ⟨rfl, Nq229, eh229⟩ := hQ229
      have N229 := Fr.app N218 Nq229
      refine own_by (st229) ?_
      show own_Go p.tables e below (T229.setTop (mkF m 249 #[.val (.int p0), .val (.int p1), .val (.int p2), .val (.int p3), .val (.int (0 : Int32)), .val (.int (1 : Int32)), .val (.int (p0.toInt8.toInt32)), .val (.int (p1.toInt8.toInt32)), .val (.int (p2.toInt8.toInt32)), .val (.ref b134), .val (.ref b141), .val (.ref b152), .val (.ref b198), .val (.ref b218)] [(.int (1 : Int32))])) _
      exact own_retN X229 hx (t := .boolean) Bd.returns hlk (by simp) (hb hby at_249) ⟨rfl, N229⟩ (by decide) (by decide)
    · rw [hs18_41]
      show own_Go p.tables e below (s₁.setTop (mkF m 18 #[.val (.int p0), .val (.int p1), .val (.int p2), .val (.int p3), .val (.int (0 : Int32)), .unset, .unset, .unset, .unset, .unset, .unset, .unset, .unset, .unset] [(.int (2 : Int32))])) _
      refine own_by (fun _ kt => XS.istore X0.here hx rfl (hb hby at_18) rfl (l' := #[.val (.int p0), .val (.int p1), .val (.int p2), .val (.int p3), .val (.int (0 : Int32)), .val (.int (2 : Int32)), .unset, .unset, .unset, .unset, .unset, .unset, .unset, .unset]) rfl kt) ?_
      show own_Go p.tables e below (s₁.setTop (mkF m 20 #[.val (.int p0), .val (.int p1), .val (.int p2), .val (.int p3), .val (.int (0 : Int32)), .val (.int (2 : Int32)), .unset, .unset, .unset, .unset, .unset, .unset, .unset, .unset] [])) _
      refine own_by (fun _ kt => XS.iloadN X0.here hx rfl (hb hby at_20) rfl kt) ?_
      show own_Go p.tables e below (s₁.setTop (mkF m 21 #[.val (.int p0), .val (.int p1), .val (.int p2), .val (.int p3), .val (.int (0 : Int32)), .val (.int (2 : Int32)), .unset, .unset, .unset, .unset, .unset, .unset, .unset, .unset] [(.int p0)])) _
      refine own_by (fun _ kt => XS.i2b X0.here hx rfl (hb hby at_21) rfl kt) ?_
      show own_Go p.tables e below (s₁.setTop (mkF m 22 #[.val (.int p0), .val (.int p1), .val (.int p2), .val (.int p3), .val (.int (0 : Int32)), .val (.int (2 : Int32)), .unset, .unset, .unset, .unset, .unset, .unset, .unset, .unset] [(.int (p0.toInt8.toInt32))])) _
      refine own_by (fun _ kt => XS.istore X0.here hx rfl (hb hby at_22) rfl (l' := #[.val (.int p0), .val (.int p1), .val (.int p2), .val (.int p3), .val (.int (0 : Int32)), .val (.int (2 : Int32)), .val (.int (p0.toInt8.toInt32)), .unset, .unset, .unset, .unset, .unset, .unset, .unset]) rfl kt) ?_
      show own_Go p.tables e below (s₁.setTop (mkF m 24 #[.val (.int p0), .val (.int p1), .val (.int p2), .val (.int p3), .val (.int (0 : Int32)), .val (.int (2 : Int32)), .val (.int (p0.toInt8.toInt32)), .unset, .unset, .unset, .unset, .unset, .unset, .unset] [])) _
      refine own_by (fun _ kt => XS.iloadN X0.here hx rfl (hb hby at_24) rfl kt) ?_
      show own_Go p.tables e below (s₁.setTop (mkF m 25 #[.val (.int p0), .val (.int p1), .val (.int p2), .val (.int p3), .val (.int (0 : Int32)), .val (.int (2 : Int32)), .val (.int (p0.toInt8.toInt32)), .unset, .unset, .unset, .unset, .unset, .unset, .unset] [(.int p1)])) _
      refine own_by (fun _ kt => XS.i2b X0.here hx rfl (hb hby at_25) rfl kt) ?_
      show own_Go p.tables e below (s₁.setTop (mkF m 26 #[.val (.int p0), .val (.int p1), .val (.int p2), .val (.int p3), .val (.int (0 : Int32)), .val (.int (2 : Int32)), .val (.int (p0.toInt8.toInt32)), .unset, .unset, .unset, .unset, .unset, .unset, .unset] [(.int (p1.toInt8.toInt32))])) _
      refine own_by (fun _ kt => XS.istore X0.here hx rfl (hb hby at_26) rfl (l' := #[.val (.int p0), .val (.int p1), .val (.int p2), .val (.int p3), .val (.int (0 : Int32)), .val (.int (2 : Int32)), .val (.int (p0.toInt8.toInt32)), .val (.int (p1.toInt8.toInt32)), .unset, .unset, .unset, .unset, .unset, .unset]) rfl kt) ?_
      show own_Go p.tables e below (s₁.setTop (mkF m 28 #[.val (.int p0), .val (.int p1), .val (.int p2), .val (.int p3), .val (.int (0 : Int32)), .val (.int (2 : Int32)), .val (.int (p0.toInt8.toInt32)), .val (.int (p1.toInt8.toInt32)), .unset, .unset, .unset, .unset, .unset, .unset] [])) _
      refine own_by (fun _ kt => XS.iloadN X0.here hx rfl (hb hby at_28) rfl kt) ?_
      show own_Go p.tables e below (s₁.setTop (mkF m 29 #[.val (.int p0), .val (.int p1), .val (.int p2), .val (.int p3), .val (.int (0 : Int32)), .val (.int (2 : Int32)), .val (.int (p0.toInt8.toInt32)), .val (.int (p1.toInt8.toInt32)), .unset, .unset, .unset, .unset, .unset, .unset] [(.int p2)])) _
      refine own_by (fun _ kt => XS.i2b X0.here hx rfl (hb hby at_29) rfl kt) ?_
      show own_Go p.tables e below (s₁.setTop (mkF m 30 #[.val (.int p0), .val (.int p1), .val (.int p2), .val (.int p3), .val (.int (0 : Int32)), .val (.int (2 : Int32)), .val (.int (p0.toInt8.toInt32)), .val (.int (p1.toInt8.toInt32)), .unset, .unset, .unset, .unset, .unset, .unset] [(.int (p2.toInt8.toInt32))])) _
      refine own_by (fun _ kt => XS.istore X0.here hx rfl (hb hby at_30) rfl (l' := #[.val (.int p0), .val (.int p1), .val (.int p2), .val (.int p3), .val (.int (0 : Int32)), .val (.int (2 : Int32)), .val (.int (p0.toInt8.toInt32)), .val (.int (p1.toInt8.toInt32)), .val (.int (p2.toInt8.toInt32)), .unset, .unset, .unset, .unset, .unset]) rfl kt) ?_
      show own_Go p.tables e below (s₁.setTop (mkF m 32 #[.val (.int p0), .val (.int p1), .val (.int p2), .val (.int p3), .val (.int (0 : Int32)), .val (.int (2 : Int32)), .val (.int (p0.toInt8.toInt32)), .val (.int (p1.toInt8.toInt32)), .val (.int (p2.toInt8.toInt32)), .unset, .unset, .unset, .unset, .unset] [])) _
      refine own_by (fun _ kt => XS.aconstNull X0.here hx rfl (hb hby at_32) kt) ?_
      show own_Go p.tables e below (s₁.setTop (mkF m 33 #[.val (.int p0), .val (.int p1), .val (.int p2), .val (.int p3), .val (.int (0 : Int32)), .val (.int (2 : Int32)), .val (.int (p0.toInt8.toInt32)), .val (.int (p1.toInt8.toInt32)), .val (.int (p2.toInt8.toInt32)), .unset, .unset, .unset, .unset, .unset] [.null])) _
      refine own_by (fun _ kt => XS.astore X0.here hx rfl (hb hby at_33) rfl rfl (l' := #[.val (.int p0), .val (.int p1), .val (.int p2), .val (.int p3), .val (.int (0 : Int32)), .val (.int (2 : Int32)), .val (.int (p0.toInt8.toInt32)), .val (.int (p1.toInt8.toInt32)), .val (.int (p2.toInt8.toInt32)), .val .null, .unset, .unset, .unset, .unset]) rfl kt) ?_
      show own_Go p.tables e below (s₁.setTop (mkF m 35 #[.val (.int p0), .val (.int p1), .val (.int p2), .val (.int p3), .val (.int (0 : Int32)), .val (.int (2 : Int32)), .val (.int (p0.toInt8.toInt32)), .val (.int (p1.toInt8.toInt32)), .val (.int (p2.toInt8.toInt32)), .val .null, .unset, .unset, .unset, .unset] [])) _
      refine own_by (fun _ kt => XS.iload X0.here hx rfl (hb hby at_35) rfl kt) ?_
      show own_Go p.tables e below (s₁.setTop (mkF m 37 #[.val (.int p0), .val (.int p1), .val (.int p2), .val (.int p3), .val (.int (0 : Int32)), .val (.int (2 : Int32)), .val (.int (p0.toInt8.toInt32)), .val (.int (p1.toInt8.toInt32)), .val (.int (p2.toInt8.toInt32)), .val .null, .unset, .unset, .unset, .unset] [(.int (0 : Int32))])) _
      refine own_by (fun _ kt => XS.ifNo X0.here hx rfl (hb hby at_37) rfl ((if0 _ _).trans (teq (by decide : (0 : Int32) = (0 : Int32))).2) kt) ?_
      show own_Go p.tables e below (s₁.setTop (mkF m 40 #[.val (.int p0), .val (.int p1), .val (.int p2), .val (.int p3), .val (.int (0 : Int32)), .val (.int (2 : Int32)), .val (.int (p0.toInt8.toInt32)), .val (.int (p1.toInt8.toInt32)), .val (.int (p2.toInt8.toInt32)), .val .null, .unset, .unset, .unset, .unset] [])) _
      refine own_by (fun _ kt => XS.iload X0.here hx rfl (hb hby at_40) rfl kt) ?_
      show own_Go p.tables e below (s₁.setTop (mkF m 42 #[.val (.int p0), .val (.int p1), .val (.int p2), .val (.int p3), .val (.int (0 : Int32)), .val (.int (2 : Int32)), .val (.int (p0.toInt8.toInt32)), .val (.int (p1.toInt8.toInt32)), .val (.int (p2.toInt8.toInt32)), .val .null, .unset, .unset, .unset, .unset] [(.int (2 : Int32))])) _
      obtain ⟨T230, h230, k230, X230, e230, E230, A230, Ea230, st230⟩ := newPE X0 hx hZ (hw _ (List.mem_of_getElem? (i := 0) rfl)) e0 (g := (mkF m 42 #[.val (.int p0), .val (.int p1), .val (.int p2), .val (.int p3), .val (.int (0 : Int32)), .val (.int (2 : Int32)), .val (.int (p0.toInt8.toInt32)), .val (.int (p1.toInt8.toInt32)), .val (.int (p2.toInt8.toInt32)), .val .null, .unset, .unset, .unset, .unset] [(.int (2 : Int32))])) rfl (hb hby at_42) rfl (by decide) (cap := 2) (by decide) (by decide) (by decide) (by decide) (ad := "[B") (by decide)
      obtain ⟨b230, g230⟩ : ∃ z, z = h0.size := ⟨_, rfl⟩
      rw [← g230] at A230 Ea230 st230
      have gn_b230 : n0 ≤ b230 := Nat.le_trans Z0 (Nat.le_of_eq g230.symm)
      have f231 := S_CS.ext E230
      have Zs230 : n0 ≤ h230.size := Nat.le_trans Z0 E230.1
      have f232 : Arv Z h230 b230 k230 .byte (2 : Int32) [(.int (0 : Int32)), (.int (0 : Int32))] (.int (0 : Int32)) := (Arv.new A230 (by decide)).pad (pad_rep [] (.int (0 : Int32)) 2)
      refine own_by st230 ?_
      show own_Go p.tables e below (T230.setTop (mkF m 44 #[.val (.int p0), .val (.int p1), .val (.int p2), .val (.int p3), .val (.int (0 : Int32)), .val (.int (2 : Int32)), .val (.int (p0.toInt8.toInt32)), .val (.int (p1.toInt8.toInt32)), .val (.int (p2.toInt8.toInt32)), .val .null, .unset, .unset, .unset, .unset] [(.ref b230)])) _
      refine own_by (fun _ kt => XS.astore X230.here hx rfl (hb hby at_44) rfl rfl (l' := #[.val (.int p0), .val (.int p1), .val (.int p2), .val (.int p3), .val (.int (0 : Int32)), .val (.int (2 : Int32)), .val (.int (p0.toInt8.toInt32)), .val (.int (p1.toInt8.toInt32)), .val (.int (p2.toInt8.toInt32)), .val (.ref b230), .unset, .unset, .unset, .unset]) rfl kt) ?_
      show own_Go p.tables e below (T230.setTop (mkF m 46 #[.val (.int p0), .val (.int p1), .val (.int p2), .val (.int p3), .val (.int (0 : Int32)), .val (.int (2 : Int32)), .val (.int (p0.toInt8.toInt32)), .val (.int (p1.toInt8.toInt32)), .val (.int (p2.toInt8.toInt32)), .val (.ref b230), .unset, .unset, .unset, .unset] [])) _
      refine own_by (fun _ kt => XS.iload X230.here hx rfl (hb hby at_46) rfl kt) ?_
      show own_Go p.tables e below (T230.setTop (mkF m 48 #[.val (.int p0), .val (.int p1), .val (.int p2), .val (.int p3), .val (.int (0 : Int32)), .val (.int (2 : Int32)), .val (.int (p0.toInt8.toInt32)), .val (.int (p1.toInt8.toInt32)), .val (.int (p2.toInt8.toInt32)), .val (.ref b230), .unset, .unset, .unset, .unset] [(.int (2 : Int32))])) _
      refine own_by (fun _ kt => XS.ifNo X230.here hx rfl (hb hby at_48) rfl ((if0 _ _).trans (tlt (by decide : (0 : Int32) < (2 : Int32))).2.2.2) kt) ?_
      show own_Go p.tables e below (T230.setTop (mkF m 51 #[.val (.int p0), .val (.int p1), .val (.int p2), .val (.int p3), .val (.int (0 : Int32)), .val (.int (2 : Int32)), .val (.int (p0.toInt8.toInt32)), .val (.int (p1.toInt8.toInt32)), .val (.int (p2.toInt8.toInt32)), .val (.ref b230), .unset, .unset, .unset, .unset] [])) _
      refine own_by (fun _ kt => XS.aload X230.here hx rfl (hb hby at_51) rfl rfl kt) ?_
      show own_Go p.tables e below (T230.setTop (mkF m 53 #[.val (.int p0), .val (.int p1), .val (.int p2), .val (.int p3), .val (.int (0 : Int32)), .val (.int (2 : Int32)), .val (.int (p0.toInt8.toInt32)), .val (.int (p1.toInt8.toInt32)), .val (.int (p2.toInt8.toInt32)), .val (.ref b230), .unset, .unset, .unset, .unset] [(.ref b230)])) _
      refine own_by (fun _ kt => XS.iconst X230.here hx rfl (hb hby at_53) kt) ?_
      show own_Go p.tables e below (T230.setTop (mkF m 54 #[.val (.int p0), .val (.int p1), .val (.int p2), .val (.int p3), .val (.int (0 : Int32)), .val (.int (2 : Int32)), .val (.int (p0.toInt8.toInt32)), .val (.int (p1.toInt8.toInt32)), .val (.int (p2.toInt8.toInt32)), .val (.ref b230), .unset, .unset, .unset, .unset] [(.int (0 : Int32)), (.ref b230)])) _
      refine own_by (fun _ kt => XS.iload X230.here hx rfl (hb hby at_54) rfl kt) ?_
      show own_Go p.tables e below (T230.setTop (mkF m 56 #[.val (.int p0), .val (.int p1), .val (.int p2), .val (.int p3), .val (.int (0 : Int32)), .val (.int (2 : Int32)), .val (.int (p0.toInt8.toInt32)), .val (.int (p1.toInt8.toInt32)), .val (.int (p2.toInt8.toInt32)), .val (.ref b230), .unset, .unset, .unset, .unset] [(.int (p0.toInt8.toInt32)), (.int (0 : Int32)), (.ref b230)])) _
      obtain ⟨cl233, Ar233, q233, S233, M233, H233, G233⟩ := f232
      obtain ⟨T233, h233, X233, e233, W233, st233⟩ := stB X230 hx hZ e230 Ar233 (j := (0 : Int32)) (inb_of S233 ⟨by decide, by decide⟩) (g := (mkF m 56 #[.val (.int p0), .val (.int p1), .val (.int p2), .val (.int p3), .val (.int (0 : Int32)), .val (.int (2 : Int32)), .val (.int (p0.toInt8.toInt32)), .val (.int (p1.toInt8.toInt32)), .val (.int (p2.toInt8.toInt32)), .val (.ref b230), .unset, .unset, .unset, .unset] [(.int (p0.toInt8.toInt32)), (.int (0 : Int32)), (.ref b230)])) rfl rfl (hb hby at_56)
      have f234 : Arv Z h233 b230 k230 .byte (2 : Int32) [(.int (nar .byte (p0.toInt8.toInt32))), (.int (0 : Int32))] (.int (0 : Int32)) := Arv.set Ar233 q233 S233 M233 H233 G233 (fits_nar_byte _) W233 0 rfl (Nat.le_of_ble_eq_true rfl)
      have f235 := f231.wr W233
      have f236 := Ea230.wr W233
      have Zs233 : n0 ≤ h233.size := by rw [W233.size]; exact Zs230
      have N233 := Fr.snoc X233 N0 gn_b230
      refine own_by st233 ?_
      show own_Go p.tables e below (T233.setTop (mkF m 57 #[.val (.int p0), .val (.int p1), .val (.int p2), .val (.int p3), .val (.int (0 : Int32)), .val (.int (2 : Int32)), .val (.int (p0.toInt8.toInt32)), .val (.int (p1.toInt8.toInt32)), .val (.int (p2.toInt8.toInt32)), .val (.ref b230), .unset, .unset, .unset, .unset] [])) _
      refine own_by (fun _ kt => XS.iload X233.here hx rfl (hb hby at_57) rfl kt) ?_
      show own_Go p.tables e below (T233.setTop (mkF m 59 #[.val (.int p0), .val (.int p1), .val (.int p2), .val (.int p3), .val (.int (0 : Int32)), .val (.int (2 : Int32)), .val (.int (p0.toInt8.toInt32)), .val (.int (p1.toInt8.toInt32)), .val (.int (p2.toInt8.toInt32)), .val (.ref b230), .unset, .unset, .unset, .unset] [(.int (2 : Int32))])) _
      refine own_by (fun _ kt => XS.iconst X233.here hx rfl (hb hby at_59) kt) ?_
      show own_Go p.tables e below (T233.setTop (mkF m 60 #[.val (.int p0), .val (.int p1), .val (.int p2), .val (.int p3), .val (.int (0 : Int32)), .val (.int (2 : Int32)), .val (.int (p0.toInt8.toInt32)), .val (.int (p1.toInt8.toInt32)), .val (.int (p2.toInt8.toInt32)), .val (.ref b230), .unset, .unset, .unset, .unset] [(.int (1 : Int32)), (.int (2 : Int32))])) _
      refine own_by (fun _ kt => XS.icmpNo X233.here hx rfl (hb hby at_60) rfl (tlt (by decide : (1 : Int32) < (2 : Int32))).2.2.2 kt) ?_
      show own_Go p.tables e below (T233.setTop (mkF m 63 #[.val (.int p0), .val (.int p1), .val (.int p2), .val (.int p3), .val (.int (0 : Int32)), .val (.int (2 : Int32)), .val (.int (p0.toInt8.toInt32)), .val (.int (p1.toInt8.toInt32)), .val (.int (p2.toInt8.toInt32)), .val (.ref b230), .unset, .unset, .unset, .unset] [])) _
      refine own_by (fun _ kt => XS.aload X233.here hx rfl (hb hby at_63) rfl rfl kt) ?_
      show own_Go p.tables e below (T233.setTop (mkF m 65 #[.val (.int p0), .val (.int p1), .val (.int p2), .val (.int p3), .val (.int (0 : Int32)), .val (.int (2 : Int32)), .val (.int (p0.toInt8.toInt32)), .val (.int (p1.toInt8.toInt32)), .val (.int (p2.toInt8.toInt32)), .val (.ref b230), .unset, .unset, .unset, .unset] [(.ref b230)])) _
      refine own_by (fun _ kt => XS.iconst X233.here hx rfl (hb hby at_65) kt) ?_
      show own_Go p.tables e below (T233.setTop (mkF m 66 #[.val (.int p0), .val (.int p1), .val (.int p2), .val (.int p3), .val (.int (0 : Int32)), .val (.int (2 : Int32)), .val (.int (p0.toInt8.toInt32)), .val (.int (p1.toInt8.toInt32)), .val (.int (p2.toInt8.toInt32)), .val (.ref b230), .unset, .unset, .unset, .unset] [(.int (1 : Int32)), (.ref b230)])) _
      refine own_by (fun _ kt => XS.iload X233.here hx rfl (hb hby at_66) rfl kt) ?_
      show own_Go p.tables e below (T233.setTop (mkF m 68 #[.val (.int p0), .val (.int p1), .val (.int p2), .val (.int p3), .val (.int (0 : Int32)), .val (.int (2 : Int32)), .val (.int (p0.toInt8.toInt32)), .val (.int (p1.toInt8.toInt32)), .val (.int (p2.toInt8.toInt32)), .val (.ref b230), .unset, .unset, .unset, .unset] [(.int (p1.toInt8.toInt32)), (.int (1 : Int32)), (.ref b230)])) _
      obtain ⟨cl237, Ar237, q237, S237, M237, H237, G237⟩ := f234
      obtain ⟨T237, h237, X237, e237, W237, st237⟩ := stB X233 hx hZ e233 Ar237 (j := (1 : Int32)) (inb_of S237 ⟨by decide, by decide⟩) (g := (mkF m 68 #[.val (.int p0), .val (.int p1), .val (.int p2), .val (.int p3), .val (.int (0 : Int32)), .val (.int (2 : Int32)), .val (.int (p0.toInt8.toInt32)), .val (.int (p1.toInt8.toInt32)), .val (.int (p2.toInt8.toInt32)), .val (.ref b230), .unset, .unset, .unset, .unset] [(.int (p1.toInt8.toInt32)), (.int (1 : Int32)), (.ref b230)])) rfl rfl (hb hby at_68)
      have f238 : Arv Z h237 b230 k230 .byte (2 : Int32) [(.int (nar .byte (p0.toInt8.toInt32))), (.int (nar .byte (p1.toInt8.toInt32)))] (.int (0 : Int32)) := Arv.set Ar237 q237 S237 M237 H237 G237 (fits_nar_byte _) W237 1 rfl (Nat.le_of_ble_eq_true rfl)
      have f239 := f235.wr W237
      have f240 := f236.wr W237
      have Zs237 : n0 ≤ h237.size := by rw [W237.size]; exact Zs233
      have N237 := Fr.snoc X237 N233 gn_b230
      refine own_by st237 ?_
      show own_Go p.tables e below (T237.setTop (mkF m 69 #[.val (.int p0), .val (.int p1), .val (.int p2), .val (.int p3), .val (.int (0 : Int32)), .val (.int (2 : Int32)), .val (.int (p0.toInt8.toInt32)), .val (.int (p1.toInt8.toInt32)), .val (.int (p2.toInt8.toInt32)), .val (.ref b230), .unset, .unset, .unset, .unset] [])) _
      refine own_by (fun _ kt => XS.iload X237.here hx rfl (hb hby at_69) rfl kt) ?_
      show own_Go p.tables e below (T237.setTop (mkF m 71 #[.val (.int p0), .val (.int p1), .val (.int p2), .val (.int p3), .val (.int (0 : Int32)), .val (.int (2 : Int32)), .val (.int (p0.toInt8.toInt32)), .val (.int (p1.toInt8.toInt32)), .val (.int (p2.toInt8.toInt32)), .val (.ref b230), .unset, .unset, .unset, .unset] [(.int (2 : Int32))])) _
      refine own_by (fun _ kt => XS.iconst X237.here hx rfl (hb hby at_71) kt) ?_
      show own_Go p.tables e below (T237.setTop (mkF m 72 #[.val (.int p0), .val (.int p1), .val (.int p2), .val (.int p3), .val (.int (0 : Int32)), .val (.int (2 : Int32)), .val (.int (p0.toInt8.toInt32)), .val (.int (p1.toInt8.toInt32)), .val (.int (p2.toInt8.toInt32)), .val (.ref b230), .unset, .unset, .unset, .unset] [(.int (2 : Int32)), (.int (2 : Int32))])) _
      refine own_by (fun _ kt => XS.icmpYes X237.here hx rfl (pc0 := 72) (pc' := 81) rfl (hb hby at_72) rfl (flt (by decide : ¬ ((2 : Int32) < (2 : Int32)))).2.2.2 (by decide) (by decide) kt) ?_
      show own_Go p.tables e below (T237.setTop (mkF m 81 #[.val (.int p0), .val (.int p1), .val (.int p2), .val (.int p3), .val (.int (0 : Int32)), .val (.int (2 : Int32)), .val (.int (p0.toInt8.toInt32)), .val (.int (p1.toInt8.toInt32)), .val (.int (p2.toInt8.toInt32)), .val (.ref b230), .unset, .unset, .unset, .unset] [])) _
      refine own_by (fun _ kt => XS.iconst X237.here hx rfl (hb hby at_81) kt) ?_
      show own_Go p.tables e below (T237.setTop (mkF m 82 #[.val (.int p0), .val (.int p1), .val (.int p2), .val (.int p3), .val (.int (0 : Int32)), .val (.int (2 : Int32)), .val (.int (p0.toInt8.toInt32)), .val (.int (p1.toInt8.toInt32)), .val (.int (p2.toInt8.toInt32)), .val (.ref b230), .unset, .unset, .unset, .unset] [(.int (1 : Int32))])) _
      obtain ⟨T241, h241, k241, X241, e241, E241, A241, Ea241, st241⟩ := newPE X237 hx hZ (hw _ (List.mem_of_getElem? (i := 0) rfl)) e237 (g := (mkF m 82 #[.val (.int p0), .val (.int p1), .val (.int p2), .val (.int p3), .val (.int (0 : Int32)), .val (.int (2 : Int32)), .val (.int (p0.toInt8.toInt32)), .val (.int (p1.toInt8.toInt32)), .val (.int (p2.toInt8.toInt32)), .val (.ref b230), .unset, .unset, .unset, .unset] [(.int (1 : Int32))])) rfl (hb hby at_82) rfl (by decide) (cap := 1) (by decide) (by decide) (by decide) (by decide) (ad := "[B") (by decide)
      obtain ⟨b241, g241⟩ : ∃ z, z = h237.size := ⟨_, rfl⟩
      rw [← g241] at A241 Ea241 st241
      have gn_b241 : n0 ≤ b241 := Nat.le_trans Zs237 (Nat.le_of_eq g241.symm)
      have ne_b230_b241 : b230 ≠ b241 := Nat.ne_of_lt (Nat.lt_of_lt_of_le f238.lt (Nat.le_of_eq g241.symm))
      have f242 := f239.ext E241
      have f243 := f238.ext E241
      have f244 := f240.ext E241
      have Zs241 : n0 ≤ h241.size := Nat.le_trans Zs237 E241.1
      have f245 : Arv Z h241 b241 k241 .byte (1 : Int32) [(.int (0 : Int32))] (.int (0 : Int32)) := (Arv.new A241 (by decide)).pad (pad_rep [] (.int (0 : Int32)) 1)
      refine own_by st241 ?_
      show own_Go p.tables e below (T241.setTop (mkF m 84 #[.val (.int p0), .val (.int p1), .val (.int p2), .val (.int p3), .val (.int (0 : Int32)), .val (.int (2 : Int32)), .val (.int (p0.toInt8.toInt32)), .val (.int (p1.toInt8.toInt32)), .val (.int (p2.toInt8.toInt32)), .val (.ref b230), .unset, .unset, .unset, .unset] [(.ref b241)])) _
      refine own_by (fun _ kt => XS.astore X241.here hx rfl (hb hby at_84) rfl rfl (l' := #[.val (.int p0), .val (.int p1), .val (.int p2), .val (.int p3), .val (.int (0 : Int32)), .val (.int (2 : Int32)), .val (.int (p0.toInt8.toInt32)), .val (.int (p1.toInt8.toInt32)), .val (.int (p2.toInt8.toInt32)), .val (.ref b230), .val (.ref b241), .unset, .unset, .unset]) rfl kt) ?_
      show own_Go p.tables e below (T241.setTop (mkF m 86 #[.val (.int p0), .val (.int p1), .val (.int p2), .val (.int p3), .val (.int (0 : Int32)), .val (.int (2 : Int32)), .val (.int (p0.toInt8.toInt32)), .val (.int (p1.toInt8.toInt32)), .val (.int (p2.toInt8.toInt32)), .val (.ref b230), .val (.ref b241), .unset, .unset, .unset] [])) _
      refine own_by (fun _ kt => XS.aload X241.here hx rfl (hb hby at_86) rfl rfl kt) ?_
      show own_Go p.tables e below (T241.setTop (mkF m 88 #[.val (.int p0), .val (.int p1), .val (.int p2), .val (.int p3), .val (.int (0 : Int32)), .val (.int (2 : Int32)), .val (.int (p0.toInt8.toInt32)), .val (.int (p1.toInt8.toInt32)), .val (.int (p2.toInt8.toInt32)), .val (.ref b230), .val (.ref b241), .unset, .unset, .unset] [(.ref b241)])) _
      refine own_by (fun _ kt => XS.iconst X241.here hx rfl (hb hby at_88) kt) ?_
      show own_Go p.tables e below (T241.setTop (mkF m 89 #[.val (.int p0), .val (.int p1), .val (.int p2), .val (.int p3), .val (.int (0 : Int32)), .val (.int (2 : Int32)), .val (.int (p0.toInt8.toInt32)), .val (.int (p1.toInt8.toInt32)), .val (.int (p2.toInt8.toInt32)), .val (.ref b230), .val (.ref b241), .unset, .unset, .unset] [(.int (0 : Int32)), (.ref b241)])) _
      refine own_by (fun _ kt => XS.iloadN X241.here hx rfl (hb hby at_89) rfl kt) ?_
      show own_Go p.tables e below (T241.setTop (mkF m 90 #[.val (.int p0), .val (.int p1), .val (.int p2), .val (.int p3), .val (.int (0 : Int32)), .val (.int (2 : Int32)), .val (.int (p0.toInt8.toInt32)), .val (.int (p1.toInt8.toInt32)), .val (.int (p2.toInt8.toInt32)), .val (.ref b230), .val (.ref b241), .unset, .unset, .unset] [(.int p0), (.int (0 : Int32)), (.ref b241)])) _
      refine own_by (fun _ kt => XS.bipush X241.here hx rfl (hb hby at_90) kt) ?_
      show own_Go p.tables e below (T241.setTop (mkF m 92 #[.val (.int p0), .val (.int p1), .val (.int p2), .val (.int p3), .val (.int (0 : Int32)), .val (.int (2 : Int32)), .val (.int (p0.toInt8.toInt32)), .val (.int (p1.toInt8.toInt32)), .val (.int (p2.toInt8.toInt32)), .val (.ref b230), .val (.ref b241), .unset, .unset, .unset] [(.int (8 : Int32)), (.int p0), (.int (0 : Int32)), (.ref b241)])) _
      refine own_by (fun _ kt => XS.iushr X241.here hx rfl (hb hby at_92) rfl kt) ?_
      show own_Go p.tables e below (T241.setTop (mkF m 93 #[.val (.int p0), .val (.int p1), .val (.int p2), .val (.int p3), .val (.int (0 : Int32)), .val (.int (2 : Int32)), .val (.int (p0.toInt8.toInt32)), .val (.int (p1.toInt8.toInt32)), .val (.int (p2.toInt8.toInt32)), .val (.ref b230), .val (.ref b241), .unset, .unset, .unset] [(.int ((p0.toUInt32 >>> ((8 : Int32) &&& 31).toUInt32).toInt32)), (.int (0 : Int32)), (.ref b241)])) _
      refine own_by (fun _ kt => XS.i2b X241.here hx rfl (hb hby at_93) rfl kt) ?_
      show own_Go p.tables e below (T241.setTop (mkF m 94 #[.val (.int p0), .val (.int p1), .val (.int p2), .val (.int p3), .val (.int (0 : Int32)), .val (.int (2 : Int32)), .val (.int (p0.toInt8.toInt32)), .val (.int (p1.toInt8.toInt32)), .val (.int (p2.toInt8.toInt32)), .val (.ref b230), .val (.ref b241), .unset, .unset, .unset] [(.int (((p0.toUInt32 >>> ((8 : Int32) &&& 31).toUInt32).toInt32).toInt8.toInt32)), (.int (0 : Int32)), (.ref b241)])) _
      obtain ⟨cl246, Ar246, q246, S246, M246, H246, G246⟩ := f245
      obtain ⟨T246, h246, X246, e246, W246, st246⟩ := stB X241 hx hZ e241 Ar246 (j := (0 : Int32)) (inb_of S246 ⟨by decide, by decide⟩) (g := (mkF m 94 #[.val (.int p0), .val (.int p1), .val (.int p2), .val (.int p3), .val (.int (0 : Int32)), .val (.int (2 : Int32)), .val (.int (p0.toInt8.toInt32)), .val (.int (p1.toInt8.toInt32)), .val (.int (p2.toInt8.toInt32)), .val (.ref b230), .val (.ref b241), .unset, .unset, .unset] [(.int (((p0.toUInt32 >>> ((8 : Int32) &&& 31).toUInt32).toInt32).toInt8.toInt32)), (.int (0 : Int32)), (.ref b241)])) rfl rfl (hb hby at_94)
      have f247 : Arv Z h246 b241 k241 .byte (1 : Int32) [(.int (nar .byte (((p0.toUInt32 >>> ((8 : Int32) &&& 31).toUInt32).toInt32).toInt8.toInt32)))] (.int (0 : Int32)) := Arv.set Ar246 q246 S246 M246 H246 G246 (fits_nar_byte _) W246 0 rfl (Nat.le_of_ble_eq_true rfl)
      have f248 := f242.wr W246
      have f249 := f243.other W246 ne_b230_b241
      have f250 := f244.wr W246
      have f251 := Ea241.wr W246
      have Zs246 : n0 ≤ h246.size := by rw [W246.size]; exact Zs241
      have N246 := Fr.snoc X246 N237 gn_b241
      refine own_by st246 ?_
      show own_Go p.tables e below (T246.setTop (mkF m 95 #[.val (.int p0), .val (.int p1), .val (.int p2), .val (.int p3), .val (.int (0 : Int32)), .val (.int (2 : Int32)), .val (.int (p0.toInt8.toInt32)), .val (.int (p1.toInt8.toInt32)), .val (.int (p2.toInt8.toInt32)), .val (.ref b230), .val (.ref b241), .unset, .unset, .unset] [])) _
      obtain ⟨T252, h252, X252, e252, E252, A252, D252, -, st252⟩ := newO X246 hx hZ hown (hw _ (List.mem_of_getElem? (i := 1) rfl)) (hw _ (List.mem_of_getElem? (i := 2) rfl)) (hw _ (List.mem_of_getElem? (i := 3) rfl)) e246 (g := (mkF m 95 #[.val (.int p0), .val (.int p1), .val (.int p2), .val (.int p3), .val (.int (0 : Int32)), .val (.int (2 : Int32)), .val (.int (p0.toInt8.toInt32)), .val (.int (p1.toInt8.toInt32)), .val (.int (p2.toInt8.toInt32)), .val (.ref b230), .val (.ref b241), .unset, .unset, .unset] [])) rfl (hb hby at_95) (by decide) (by decide)
      obtain ⟨b252, g252⟩ : ∃ z, z = h246.size := ⟨_, rfl⟩
      rw [← g252] at A252 D252 st252
      have gn_b252 : n0 ≤ b252 := Nat.le_trans Zs246 (Nat.le_of_eq g252.symm)
      have ne_b230_b252 : b230 ≠ b252 := Nat.ne_of_lt (Nat.lt_of_lt_of_le f249.lt (Nat.le_of_eq g252.symm))
      have ne_b241_b252 : b241 ≠ b252 := Nat.ne_of_lt (Nat.lt_of_lt_of_le f247.lt (Nat.le_of_eq g252.symm))
      have f253 := f248.ext E252
      have f254 := f249.ext E252
      have f255 := f250.ext E252
      have f256 := f247.ext E252
      have f257 := f251.ext E252
      have Zs252 : n0 ≤ h252.size := Nat.le_trans Zs246 E252.1
      have f258 : Fld Z h252 b252 "com/example/relampago/relampago/lcp/Call" "method" "Ljava/lang/String;" .null := D252 (Or.inr (hw _ (List.mem_of_getElem? (i := 48) rfl))) (ty := (.object "java/lang/String")) (by decide)
      have f259 : Fld Z h252 b252 "com/example/relampago/relampago/lcp/Call" "request" "[B" .null := D252 (Or.inr (hw _ (List.mem_of_getElem? (i := 50) rfl))) (ty := (.array .byte)) (by decide)
      have f260 : Fld Z h252 b252 "com/example/relampago/relampago/lcp/Call" "requestContentType" "Ljava/lang/String;" .null := D252 (Or.inr (hw _ (List.mem_of_getElem? (i := 52) rfl))) (ty := (.object "java/lang/String")) (by decide)
      have f261 : Fld Z h252 b252 "com/example/relampago/relampago/lcp/Call" "params" "[B" .null := D252 (Or.inr (hw _ (List.mem_of_getElem? (i := 54) rfl))) (ty := (.array .byte)) (by decide)
      refine own_by st252 ?_
      show own_Go p.tables e below (T252.setTop (mkF m 98 #[.val (.int p0), .val (.int p1), .val (.int p2), .val (.int p3), .val (.int (0 : Int32)), .val (.int (2 : Int32)), .val (.int (p0.toInt8.toInt32)), .val (.int (p1.toInt8.toInt32)), .val (.int (p2.toInt8.toInt32)), .val (.ref b230), .val (.ref b241), .unset, .unset, .unset] [(.ref b252)])) _
      refine own_by (fun _ kt => XS.dup X252.here hx rfl (hb hby at_98) rfl rfl kt) ?_
      show own_Go p.tables e below (T252.setTop (mkF m 99 #[.val (.int p0), .val (.int p1), .val (.int p2), .val (.int p3), .val (.int (0 : Int32)), .val (.int (2 : Int32)), .val (.int (p0.toInt8.toInt32)), .val (.int (p1.toInt8.toInt32)), .val (.int (p2.toInt8.toInt32)), .val (.ref b230), .val (.ref b241), .unset, .unset, .unset] [(.ref b252), (.ref b252)])) _
      refine own_by (fun _ kt => XS.iloadN X252.here hx rfl (hb hby at_99) rfl kt) ?_
      show own_Go p.tables e below (T252.setTop (mkF m 100 #[.val (.int p0), .val (.int p1), .val (.int p2), .val (.int p3), .val (.int (0 : Int32)), .val (.int (2 : Int32)), .val (.int (p0.toInt8.toInt32)), .val (.int (p1.toInt8.toInt32)), .val (.int (p2.toInt8.toInt32)), .val (.ref b230), .val (.ref b241), .unset, .unset, .unset] [(.int p1), (.ref b252), (.ref b252)])) _
      refine own_by (fun _ kt => XS.sipush X252.here hx rfl (hb hby at_100) kt) ?_
      show own_Go p.tables e below (T252.setTop (mkF m 103 #[.val (.int p0), .val (.int p1), .val (.int p2), .val (.int p3), .val (.int (0 : Int32)), .val (.int (2 : Int32)), .val (.int (p0.toInt8.toInt32)), .val (.int (p1.toInt8.toInt32)), .val (.int (p2.toInt8.toInt32)), .val (.ref b230), .val (.ref b241), .unset, .unset, .unset] [(.int (255 : Int32)), (.int p1), (.ref b252), (.ref b252)])) _
      refine own_by (fun _ kt => XS.iand X252.here hx rfl (hb hby at_103) rfl kt) ?_
      show own_Go p.tables e below (T252.setTop (mkF m 104 #[.val (.int p0), .val (.int p1), .val (.int p2), .val (.int p3), .val (.int (0 : Int32)), .val (.int (2 : Int32)), .val (.int (p0.toInt8.toInt32)), .val (.int (p1.toInt8.toInt32)), .val (.int (p2.toInt8.toInt32)), .val (.ref b230), .val (.ref b241), .unset, .unset, .unset] [(.int (p1 &&& (255 : Int32))), (.ref b252), (.ref b252)])) _
      refine own_by (fun _ kt => XS.i2c X252.here hx rfl (hb hby at_104) rfl kt) ?_
      show own_Go p.tables e below (T252.setTop (mkF m 105 #[.val (.int p0), .val (.int p1), .val (.int p2), .val (.int p3), .val (.int (0 : Int32)), .val (.int (2 : Int32)), .val (.int (p0.toInt8.toInt32)), .val (.int (p1.toInt8.toInt32)), .val (.int (p2.toInt8.toInt32)), .val (.ref b230), .val (.ref b241), .unset, .unset, .unset] [(.int ((p1 &&& (255 : Int32)).toUInt32.toUInt16.toUInt32.toInt32)), (.ref b252), (.ref b252)])) _
      obtain ⟨_, _, ⟨T262, L262, k262, n262⟩, -, X262, ⟨Lc262, hQ262, l262, y262, z262⟩, st262⟩ := Jvm.LawKit.callS X252 hx (y := (⟨"java/lang/String", "valueOf", "(C)Ljava/lang/String;"⟩ : MethodName)) hown (mvT hZ (hw _ (List.mem_of_getElem? (i := 4) rfl))) (mvT hZ (hw _ (List.mem_of_getElem? (i := 5) rfl))) (mvT hZ (hw _ (List.mem_of_getElem? (i := 6) rfl))) (mvT hZ (hw _ (List.mem_of_getElem? (i := 7) rfl))) (by decide) (backOf (W := 2) (rm_valueOf l Z a0 hw [] ((p1 &&& (255 : Int32)).toUInt32.toUInt16.toUInt32.toInt32) (cs) h252 n0 Zs252 f253 hcs (own_chr _)) hZ (hw _ (List.mem_of_getElem? (i := 7) rfl)) (hw _ (List.mem_of_getElem? (i := 6) rfl)) (by decide) (by decide)) (g := (mkF m 105 #[.val (.int p0), .val (.int p1), .val (.int p2), .val (.int p3), .val (.int (0 : Int32)), .val (.int (2 : Int32)), .val (.int (p0.toInt8.toInt32)), .val (.int (p1.toInt8.toInt32)), .val (.int (p2.toInt8.toInt32)), .val (.ref b230), .val (.ref b241), .unset, .unset, .unset] [(.int ((p1 &&& (255 : Int32)).toUInt32.toUInt16.toUInt32.toInt32)), (.ref b252), (.ref b252)])) rfl (by rw [hml]; rfl) (argsL := [(.int ((p1 &&& (255 : Int32)).toUInt32.toUInt16.toUInt32.toInt32))]) (rest := [(.ref b252), (.ref b252)]) (lenOf pd_4 rfl) rfl (by show 2 * 0 + _ ≤ _; exact Nat.le_of_eq rfl) (hb hby at_105) (fun _ _ => ⟨rfl, e252, (by decide : 3 + 2 ≤ _), (by decide : 7 + 5 ≤ _)⟩)
      dsimp only [Pt.U, Pt.locs, Pt.cells, Pt.slots] at X262 l262 y262 z262 st262 hQ262
      subst l262 y262 z262
      obtain ⟨b262, rfl, Nq262, K262, gn_b262, szq_b262⟩ := hQ262
      have ne_b230_b262 : b230 ≠ b262 := Nat.ne_of_lt (Nat.lt_of_lt_of_le f254.lt szq_b262)
      have ne_b241_b262 : b241 ≠ b262 := Nat.ne_of_lt (Nat.lt_of_lt_of_le f256.lt szq_b262)
      have ne_b252_b262 : b252 ≠ b262 := Nat.ne_of_lt (Nat.lt_of_lt_of_le A252.lt szq_b262)
      have f263 := own_sta_keep f253 K262
      have f264 := f254.keep K262 List.not_mem_nil
      have f265 := f255.keep K262
      have f266 := f256.keep K262 List.not_mem_nil
      have f267 := f257.keep K262
      have f268 := A252.keep K262
      have f269 := f258.keep K262 List.not_mem_nil
      have f270 := f259.keep K262 List.not_mem_nil
      have f271 := f260.keep K262 List.not_mem_nil
      have f272 := f261.keep K262 List.not_mem_nil
      have Zs262 : n0 ≤ T262.heap.size := Nat.le_trans Zs252 K262.1
      have N262 := Fr.app N246 Nq262
      refine own_by (st262) ?_
      show own_Go p.tables e below (T262.setTop (mkF m 108 #[.val (.int p0), .val (.int p1), .val (.int p2), .val (.int p3), .val (.int (0 : Int32)), .val (.int (2 : Int32)), .val (.int (p0.toInt8.toInt32)), .val (.int (p1.toInt8.toInt32)), .val (.int (p2.toInt8.toInt32)), .val (.ref b230), .val (.ref b241), .unset, .unset, .unset] [(.ref b262), (.ref b252), (.ref b252)])) _
      refine own_by (fun _ kt => XS.aload X262.here hx rfl (hb hby at_108) rfl rfl kt) ?_
      show own_Go p.tables e below (T262.setTop (mkF m 110 #[.val (.int p0), .val (.int p1), .val (.int p2), .val (.int p3), .val (.int (0 : Int32)), .val (.int (2 : Int32)), .val (.int (p0.toInt8.toInt32)), .val (.int (p1.toInt8.toInt32)), .val (.int (p2.toInt8.toInt32)), .val (.ref b230), .val (.ref b241), .unset, .unset, .unset] [(.ref b241), (.ref b262), (.ref b252), (.ref b252)])) _
      refine own_by (fun _ kt => XS.iloadN X262.here hx rfl (hb hby at_110) rfl kt) ?_
      show own_Go p.tables e below (T262.setTop (mkF m 111 #[.val (.int p0), .val (.int p1), .val (.int p2), .val (.int p3), .val (.int (0 : Int32)), .val (.int (2 : Int32)), .val (.int (p0.toInt8.toInt32)), .val (.int (p1.toInt8.toInt32)), .val (.int (p2.toInt8.toInt32)), .val (.ref b230), .val (.ref b241), .unset, .unset, .unset] [(.int p2), (.ref b241), (.ref b262), (.ref b252), (.ref b252)])) _
      refine own_by (fun _ kt => XS.sipush X262.here hx rfl (hb hby at_111) kt) ?_
      show own_Go p.tables e below (T262.setTop (mkF m 114 #[.val (.int p0), .val (.int p1), .val (.int p2), .val (.int p3), .val (.int (0 : Int32)), .val (.int (2 : Int32)), .val (.int (p0.toInt8.toInt32)), .val (.int (p1.toInt8.toInt32)), .val (.int (p2.toInt8.toInt32)), .val (.ref b230), .val (.ref b241), .unset, .unset, .unset] [(.int (255 : Int32)), (.int p2), (.ref b241), (.ref b262), (.ref b252), (.ref b252)])) _
      refine own_by (fun _ kt => XS.iand X262.here hx rfl (hb hby at_114) rfl kt) ?_
      show own_Go p.tables e below (T262.setTop (mkF m 115 #[.val (.int p0), .val (.int p1), .val (.int p2), .val (.int p3), .val (.int (0 : Int32)), .val (.int (2 : Int32)), .val (.int (p0.toInt8.toInt32)), .val (.int (p1.toInt8.toInt32)), .val (.int (p2.toInt8.toInt32)), .val (.ref b230), .val (.ref b241), .unset, .unset, .unset] [(.int (p2 &&& (255 : Int32))), (.ref b241), (.ref b262), (.ref b252), (.ref b252)])) _
      refine own_by (fun _ kt => XS.i2c X262.here hx rfl (hb hby at_115) rfl kt) ?_
      show own_Go p.tables e below (T262.setTop (mkF m 116 #[.val (.int p0), .val (.int p1), .val (.int p2), .val (.int p3), .val (.int (0 : Int32)), .val (.int (2 : Int32)), .val (.int (p0.toInt8.toInt32)), .val (.int (p1.toInt8.toInt32)), .val (.int (p2.toInt8.toInt32)), .val (.ref b230), .val (.ref b241), .unset, .unset, .unset] [(.int ((p2 &&& (255 : Int32)).toUInt32.toUInt16.toUInt32.toInt32)), (.ref b241), (.ref b262), (.ref b252), (.ref b252)])) _
      obtain ⟨_, _, ⟨T273, L273, k273, n273⟩, -, X273, ⟨Lc273, hQ273, l273, y273, z273⟩, st273⟩ := Jvm.LawKit.callS X262 hx (y := (⟨"java/lang/String", "valueOf", "(C)Ljava/lang/String;"⟩ : MethodName)) hown (mvT hZ (hw _ (List.mem_of_getElem? (i := 4) rfl))) (mvT hZ (hw _ (List.mem_of_getElem? (i := 5) rfl))) (mvT hZ (hw _ (List.mem_of_getElem? (i := 6) rfl))) (mvT hZ (hw _ (List.mem_of_getElem? (i := 7) rfl))) (by decide) (backOf (W := 4) (rm_valueOf l Z a0 hw [] ((p2 &&& (255 : Int32)).toUInt32.toUInt16.toUInt32.toInt32) (cs) T262.heap n0 Zs262 f263 hcs (own_chr _)) hZ (hw _ (List.mem_of_getElem? (i := 7) rfl)) (hw _ (List.mem_of_getElem? (i := 6) rfl)) (by decide) (by decide)) (g := (mkF m 116 #[.val (.int p0), .val (.int p1), .val (.int p2), .val (.int p3), .val (.int (0 : Int32)), .val (.int (2 : Int32)), .val (.int (p0.toInt8.toInt32)), .val (.int (p1.toInt8.toInt32)), .val (.int (p2.toInt8.toInt32)), .val (.ref b230), .val (.ref b241), .unset, .unset, .unset] [(.int ((p2 &&& (255 : Int32)).toUInt32.toUInt16.toUInt32.toInt32)), (.ref b241), (.ref b262), (.ref b252), (.ref b252)])) rfl (by rw [hml]; rfl) (argsL := [(.int ((p2 &&& (255 : Int32)).toUInt32.toUInt16.toUInt32.toInt32))]) (rest := [(.ref b241), (.ref b262), (.ref b252), (.ref b252)]) (lenOf pd_4 rfl) rfl (by show 2 * 0 + _ ≤ _; exact Nat.le_of_eq rfl) (hb hby at_116) (fun _ _ => ⟨rfl, rfl, (by decide : 5 + 2 ≤ _), (by decide : 12 + 5 ≤ _)⟩)
      dsimp only [Pt.U, Pt.locs, Pt.cells, Pt.slots] at X273 l273 y273 z273 st273 hQ273
      subst l273 y273 z273
      obtain ⟨b273, rfl, Nq273, K273, gn_b273, szq_b273⟩ := hQ273
      have ne_b230_b273 : b230 ≠ b273 := Nat.ne_of_lt (Nat.lt_of_lt_of_le f264.lt szq_b273)
      have ne_b241_b273 : b241 ≠ b273 := Nat.ne_of_lt (Nat.lt_of_lt_of_le f266.lt szq_b273)
      have ne_b252_b273 : b252 ≠ b273 := Nat.ne_of_lt (Nat.lt_of_lt_of_le f268.lt szq_b273)
      have f274 := own_sta_keep f263 K273
      have f275 := f264.keep K273 List.not_mem_nil
      have f276 := f265.keep K273
      have f277 := f266.keep K273 List.not_mem_nil
      have f278 := f267.keep K273
      have f279 := f268.keep K273
      have f280 := f269.keep K273 List.not_mem_nil
      have f281 := f270.keep K273 List.not_mem_nil
      have f282 := f271.keep K273 List.not_mem_nil
      have f283 := f272.keep K273 List.not_mem_nil
      have Zs273 : n0 ≤ T273.heap.size := Nat.le_trans Zs262 K273.1
      have N273 := Fr.app N262 Nq273
      refine own_by (st273) ?_
      show own_Go p.tables e below (T273.setTop (mkF m 119 #[.val (.int p0), .val (.int p1), .val (.int p2), .val (.int p3), .val (.int (0 : Int32)), .val (.int (2 : Int32)), .val (.int (p0.toInt8.toInt32)), .val (.int (p1.toInt8.toInt32)), .val (.int (p2.toInt8.toInt32)), .val (.ref b230), .val (.ref b241), .unset, .unset, .unset] [(.ref b273), (.ref b241), (.ref b262), (.ref b252), (.ref b252)])) _
      refine own_by (fun _ kt => XS.aload X273.here hx rfl (hb hby at_119) rfl rfl kt) ?_
      show own_Go p.tables e below (T273.setTop (mkF m 121 #[.val (.int p0), .val (.int p1), .val (.int p2), .val (.int p3), .val (.int (0 : Int32)), .val (.int (2 : Int32)), .val (.int (p0.toInt8.toInt32)), .val (.int (p1.toInt8.toInt32)), .val (.int (p2.toInt8.toInt32)), .val (.ref b230), .val (.ref b241), .unset, .unset, .unset] [(.ref b230), (.ref b273), (.ref b241), (.ref b262), (.ref b252), (.ref b252)])) _
      obtain ⟨_, _, ⟨T284, L284, k284, n284⟩, -, X284, ⟨Lc284, hQ284, l284, y284, z284⟩, st284⟩ := X273.specialBack hx (y := (⟨"com/example/relampago/relampago/lcp/Call", "<init>", "(Ljava/lang/String;[BLjava/lang/String;[B)V"⟩ : MethodName)) rfl hown (mvT hZ (hw _ (List.mem_of_getElem? (i := 29) rfl))) (mvT hZ (hw _ (List.mem_of_getElem? (i := 30) rfl))) (mvT hZ (hw _ (List.mem_of_getElem? (i := 31) rfl))) (by decide) (backOf (W := 1) (rm_init1 l Z a0 hw [] b252 b262 b241 b273 b230 (k241) ((nar .byte (((p0.toUInt32 >>> ((8 : Int32) &&& 31).toUInt32).toInt32).toInt8.toInt32))) (k230) ([(.int (nar .byte (p0.toInt8.toInt32))), (.int (nar .byte (p1.toInt8.toInt32)))]) ((2 : Int32)) T273.heap n0 Zs273 f280 f281 f282 f283 f279 gn_b252 f277 f278 ne_b241_b252 f275 f276 ne_b230_b252 (by decide)) hZ (hw _ (List.mem_of_getElem? (i := 31) rfl)) (hw _ (List.mem_of_getElem? (i := 3) rfl)) (by decide) (by decide)) (g := (mkF m 121 #[.val (.int p0), .val (.int p1), .val (.int p2), .val (.int p3), .val (.int (0 : Int32)), .val (.int (2 : Int32)), .val (.int (p0.toInt8.toInt32)), .val (.int (p1.toInt8.toInt32)), .val (.int (p2.toInt8.toInt32)), .val (.ref b230), .val (.ref b241), .unset, .unset, .unset] [(.ref b230), (.ref b273), (.ref b241), (.ref b262), (.ref b252), (.ref b252)])) rfl (by rw [hml]; rfl) (Steps.refl _) (a := b252) (argsL := [(.ref b262), (.ref b241), (.ref b273), (.ref b230)]) (rest := [(.ref b252)]) (lenOf pd_5 rfl) rfl (by show 2 * 0 + _ ≤ _; exact Nat.le_of_eq rfl) (hb hby at_121) (fun _ _ => ⟨rfl, rfl, (by decide : 7 + 2 ≤ _), (by decide : 17 + 4 ≤ _)⟩)
      dsimp only [Pt.U, Pt.locs, Pt.cells, Pt.slots] at X284 l284 y284 z284 st284 hQ284
      subst l284 y284 z284
      obtain ⟨b284, rfl, Nq284, K284, gn_b284, szq_b284, f284_0, f284_1, f284_2, f284_3⟩ := hQ284
      have ne_b230_b284 : b230 ≠ b284 := Nat.ne_of_lt (Nat.lt_of_lt_of_le f275.lt szq_b284)
      have ne_b241_b284 : b241 ≠ b284 := Nat.ne_of_lt (Nat.lt_of_lt_of_le f277.lt szq_b284)
      have ne_b252_b284 : b252 ≠ b284 := Nat.ne_of_lt (Nat.lt_of_lt_of_le f279.lt szq_b284)
      have f285 := f275.keep K284 (own_nin ne_b230_b252)
      have f286 := f276.keep K284
      have f287 := f277.keep K284 (own_nin ne_b241_b252)
      have f288 := f278.keep K284
      have f289 := f279.keep K284
      have Zs284 : n0 ≤ T284.heap.size := Nat.le_trans Zs273 K284.1
      have N284 := Fr.app N273 Nq284
      refine own_by (fun _ kt => st284.trans kt) ?_
      show own_Go p.tables e below (T284.setTop (mkF m 124 #[.val (.int p0), .val (.int p1), .val (.int p2), .val (.int p3), .val (.int (0 : Int32)), .val (.int (2 : Int32)), .val (.int (p0.toInt8.toInt32)), .val (.int (p1.toInt8.toInt32)), .val (.int (p2.toInt8.toInt32)), .val (.ref b230), .val (.ref b241), .unset, .unset, .unset] [(.ref b252)])) _
      refine own_by (fun _ kt => XS.astore X284.here hx rfl (hb hby at_124) rfl rfl (l' := #[.val (.int p0), .val (.int p1), .val (.int p2), .val (.int p3), .val (.int (0 : Int32)), .val (.int (2 : Int32)), .val (.int (p0.toInt8.toInt32)), .val (.int (p1.toInt8.toInt32)), .val (.int (p2.toInt8.toInt32)), .val (.ref b230), .val (.ref b241), .val (.ref b252), .unset, .unset]) rfl kt) ?_
      show own_Go p.tables e below (T284.setTop (mkF m 126 #[.val (.int p0), .val (.int p1), .val (.int p2), .val (.int p3), .val (.int (0 : Int32)), .val (.int (2 : Int32)), .val (.int (p0.toInt8.toInt32)), .val (.int (p1.toInt8.toInt32)), .val (.int (p2.toInt8.toInt32)), .val (.ref b230), .val (.ref b241), .val (.ref b252), .unset, .unset] [])) _
      refine own_by (fun _ kt => XS.iload X284.here hx rfl (hb hby at_126) rfl kt) ?_
      show own_Go p.tables e below (T284.setTop (mkF m 128 #[.val (.int p0), .val (.int p1), .val (.int p2), .val (.int p3), .val (.int (0 : Int32)), .val (.int (2 : Int32)), .val (.int (p0.toInt8.toInt32)), .val (.int (p1.toInt8.toInt32)), .val (.int (p2.toInt8.toInt32)), .val (.ref b230), .val (.ref b241), .val (.ref b252), .unset, .unset] [(.int (0 : Int32))])) _
      refine own_by (fun _ kt => XS.ifNo X284.here hx rfl (hb hby at_128) rfl ((if0 _ _).trans (teq (by decide : (0 : Int32) = (0 : Int32))).2) kt) ?_
      show own_Go p.tables e below (T284.setTop (mkF m 131 #[.val (.int p0), .val (.int p1), .val (.int p2), .val (.int p3), .val (.int (0 : Int32)), .val (.int (2 : Int32)), .val (.int (p0.toInt8.toInt32)), .val (.int (p1.toInt8.toInt32)), .val (.int (p2.toInt8.toInt32)), .val (.ref b230), .val (.ref b241), .val (.ref b252), .unset, .unset] [])) _
      refine own_by (fun _ kt => XS.aload X284.here hx rfl (hb hby at_131) rfl rfl kt) ?_
      show own_Go p.tables e below (T284.setTop (mkF m 133 #[.val (.int p0), .val (.int p1), .val (.int p2), .val (.int p3), .val (.int (0 : Int32)), .val (.int (2 : Int32)), .val (.int (p0.toInt8.toInt32)), .val (.int (p1.toInt8.toInt32)), .val (.int (p2.toInt8.toInt32)), .val (.ref b230), .val (.ref b241), .val (.ref b252), .unset, .unset] [(.ref b230)])) _
      refine own_by (fun _ kt => XS.iload X284.here hx rfl (hb hby at_133) rfl kt) ?_
      show own_Go p.tables e below (T284.setTop (mkF m 135 #[.val (.int p0), .val (.int p1), .val (.int p2), .val (.int p3), .val (.int (0 : Int32)), .val (.int (2 : Int32)), .val (.int (p0.toInt8.toInt32)), .val (.int (p1.toInt8.toInt32)), .val (.int (p2.toInt8.toInt32)), .val (.ref b230), .val (.ref b241), .val (.ref b252), .unset, .unset] [(.int (2 : Int32)), (.ref b230)])) _
      obtain ⟨_, _, ⟨T290, L290, k290, n290⟩, -, X290, ⟨Lc290, hQ290, l290, y290, z290⟩, st290⟩ := Jvm.LawKit.callS X284 hx (y := (⟨"com/example/relampago/relampago/lcp/CallParamsPinLaw", "bump", "([BI)V"⟩ : MethodName)) hown (mvT hZ (hw _ (List.mem_of_getElem? (i := 55) rfl))) (mvT hZ (hw _ (List.mem_of_getElem? (i := 56) rfl))) (mvT hZ (hw _ (List.mem_of_getElem? (i := 57) rfl))) (mvT hZ (hw _ (List.mem_of_getElem? (i := 58) rfl))) (by decide) (backOf (W := 0) (rm_bump2 l Z a0 hw [] b230 (k230) ((nar .byte (p0.toInt8.toInt32))) ((nar .byte (p1.toInt8.toInt32))) T284.heap n0 Zs284 f285 gn_b230) hZ (hw _ (List.mem_of_getElem? (i := 58) rfl)) (hw _ (List.mem_of_getElem? (i := 57) rfl)) (by decide) (by decide)) (g := (mkF m 135 #[.val (.int p0), .val (.int p1), .val (.int p2), .val (.int p3), .val (.int (0 : Int32)), .val (.int (2 : Int32)), .val (.int (p0.toInt8.toInt32)), .val (.int (p1.toInt8.toInt32)), .val (.int (p2.toInt8.toInt32)), .val (.ref b230), .val (.ref b241), .val (.ref b252), .unset, .unset] [(.int (2 : Int32)), (.ref b230)])) rfl (by rw [hml]; rfl) (argsL := [(.ref b230), (.int (2 : Int32))]) (rest := []) (lenOf pd_7 rfl) rfl (by show 2 * 0 + _ ≤ _; exact Nat.le_of_eq rfl) (hb hby at_135) (fun _ _ => ⟨rfl, rfl, (by decide : 9 + 0 ≤ _), (by decide : 21 + 0 ≤ _)⟩)
      dsimp only [Pt.U, Pt.locs, Pt.cells, Pt.slots] at X290 l290 y290 z290 st290 hQ290
      subst l290 y290 z290
      obtain ⟨rfl, Nq290, K290, f290_0⟩ := hQ290
      have f291 := f286.keep K290
      have f292 := f287.keep K290 (own_nin (Ne.symm ne_b230_b241))
      have f293 := f288.keep K290
      have f294 := f284_0.keep K290
      have f295 := f284_1.keep K290 (own_nin (Ne.symm ne_b230_b252))
      have f296 := f284_2.keep K290 (own_nin (Ne.symm ne_b230_b284))
      have f297 := f284_3.keep K290
      have Zs290 : n0 ≤ T290.heap.size := Nat.le_trans Zs284 K290.1
      have N290 := Fr.app N284 Nq290
      refine own_by (st290) ?_
      show own_Go p.tables e below (T290.setTop (mkF m 138 #[.val (.int p0), .val (.int p1), .val (.int p2), .val (.int p3), .val (.int (0 : Int32)), .val (.int (2 : Int32)), .val (.int (p0.toInt8.toInt32)), .val (.int (p1.toInt8.toInt32)), .val (.int (p2.toInt8.toInt32)), .val (.ref b230), .val (.ref b241), .val (.ref b252), .unset, .unset] [])) _
      refine own_by (fun _ kt => XS.aload X290.here hx rfl (hb hby at_138) rfl rfl kt) ?_
      show own_Go p.tables e below (T290.setTop (mkF m 140 #[.val (.int p0), .val (.int p1), .val (.int p2), .val (.int p3), .val (.int (0 : Int32)), .val (.int (2 : Int32)), .val (.int (p0.toInt8.toInt32)), .val (.int (p1.toInt8.toInt32)), .val (.int (p2.toInt8.toInt32)), .val (.ref b230), .val (.ref b241), .val (.ref b252), .unset, .unset] [(.ref b252)])) _
      obtain ⟨cq298, kq298, q298a, q298b, q298c⟩ := isOf hZ rfl f294
      obtain ⟨_, _, ⟨T298, L298, k298, n298⟩, -, X298, ⟨Lc298, hQ298, l298, y298, z298⟩, st298⟩ := X290.virtualBack hx (y := (⟨"com/example/relampago/relampago/lcp/Call", "params", "()[B"⟩ : MethodName)) (z := (⟨"com/example/relampago/relampago/lcp/Call", "params", "()[B"⟩ : MethodName)) hown (mvT hZ (hw _ (List.mem_of_getElem? (i := 59) rfl))) (mvT hZ (hw _ (List.mem_of_getElem? (i := 60) rfl))) (notFace_of_selects (args := #[]) (mvT hZ (hw _ (List.mem_of_getElem? (i := 62) rfl)))) (mvT hZ (hw _ (List.mem_of_getElem? (i := 62) rfl))) (mvT hZ (hw _ (List.mem_of_getElem? (i := 61) rfl))) (by decide) (backOf (W := 0) (rm_params1 l Z a0 hw [] b252 (b284) (k230) ([(.int (nar .byte (p0.toInt8.toInt32))), (.int (nar .byte (p1.toInt8.toInt32)))]) ((2 : Int32)) T290.heap n0 Zs290 f295 f296 f297 (by decide)) hZ (hw _ (List.mem_of_getElem? (i := 63) rfl)) (hw _ (List.mem_of_getElem? (i := 3) rfl)) (by decide) (by decide)) q298a q298c (g := (mkF m 140 #[.val (.int p0), .val (.int p1), .val (.int p2), .val (.int p3), .val (.int (0 : Int32)), .val (.int (2 : Int32)), .val (.int (p0.toInt8.toInt32)), .val (.int (p1.toInt8.toInt32)), .val (.int (p2.toInt8.toInt32)), .val (.ref b230), .val (.ref b241), .val (.ref b252), .unset, .unset] [(.ref b252)])) rfl (by rw [hml]; rfl) (Steps.refl _) (argsL := []) (rest := []) (lenOf pd_6 rfl) rfl (by show 2 * 0 + _ ≤ _; exact Nat.le_of_eq rfl) (hb hby at_140) (fun _ _ => ⟨rfl, rfl, (by decide : 9 + 1 ≤ _), (by decide : 21 + 3 ≤ _)⟩)
      dsimp only [Pt.U, Pt.locs, Pt.cells, Pt.slots] at X298 l298 y298 z298 st298 hQ298
      subst l298 y298 z298
      obtain ⟨b298, rfl, Nq298, K298, gn_b298, szq_b298, f298_0, f298_1⟩ := hQ298
      have ne_b230_b298 : b230 ≠ b298 := Nat.ne_of_lt (Nat.lt_of_lt_of_le f291.lt szq_b298)
      have ne_b241_b298 : b241 ≠ b298 := Nat.ne_of_lt (Nat.lt_of_lt_of_le f292.lt szq_b298)
      have ne_b252_b298 : b252 ≠ b298 := Nat.ne_of_lt (Nat.lt_of_lt_of_le f294.lt szq_b298)
      have ne_b284_b298 : b284 ≠ b298 := Nat.ne_of_lt (Nat.lt_of_lt_of_le f296.lt szq_b298)
      have f299 := f291.keep K298
      have f300 := f292.keep K298 List.not_mem_nil
      have f301 := f293.keep K298
      have f302 := f294.keep K298
      have f303 := f295.keep K298 List.not_mem_nil
      have f304 := f296.keep K298 List.not_mem_nil
      have f305 := f297.keep K298
      have f306 := f290_0.keep K298 List.not_mem_nil
      have Zs298 : n0 ≤ T298.heap.size := Nat.le_trans Zs290 K298.1
      have N298 := Fr.app N290 Nq298
      refine own_by (fun _ kt => st298.trans kt) ?_
      show own_Go p.tables e below (T298.setTop (mkF m 143 #[.val (.int p0), .val (.int p1), .val (.int p2), .val (.int p3), .val (.int (0 : Int32)), .val (.int (2 : Int32)), .val (.int (p0.toInt8.toInt32)), .val (.int (p1.toInt8.toInt32)), .val (.int (p2.toInt8.toInt32)), .val (.ref b230), .val (.ref b241), .val (.ref b252), .unset, .unset] [(.ref b298)])) _
      refine own_by (fun _ kt => XS.astore X298.here hx rfl (hb hby at_143) rfl rfl (l' := #[.val (.int p0), .val (.int p1), .val (.int p2), .val (.int p3), .val (.int (0 : Int32)), .val (.int (2 : Int32)), .val (.int (p0.toInt8.toInt32)), .val (.int (p1.toInt8.toInt32)), .val (.int (p2.toInt8.toInt32)), .val (.ref b230), .val (.ref b241), .val (.ref b252), .val (.ref b298), .unset]) rfl kt) ?_
      show own_Go p.tables e below (T298.setTop (mkF m 145 #[.val (.int p0), .val (.int p1), .val (.int p2), .val (.int p3), .val (.int (0 : Int32)), .val (.int (2 : Int32)), .val (.int (p0.toInt8.toInt32)), .val (.int (p1.toInt8.toInt32)), .val (.int (p2.toInt8.toInt32)), .val (.ref b230), .val (.ref b241), .val (.ref b252), .val (.ref b298), .unset] [])) _
      refine own_by (fun _ kt => XS.iload X298.here hx rfl (hb hby at_145) rfl kt) ?_
      show own_Go p.tables e below (T298.setTop (mkF m 147 #[.val (.int p0), .val (.int p1), .val (.int p2), .val (.int p3), .val (.int (0 : Int32)), .val (.int (2 : Int32)), .val (.int (p0.toInt8.toInt32)), .val (.int (p1.toInt8.toInt32)), .val (.int (p2.toInt8.toInt32)), .val (.ref b230), .val (.ref b241), .val (.ref b252), .val (.ref b298), .unset] [(.int (0 : Int32))])) _
      refine own_by (fun _ kt => XS.ifYes X298.here hx rfl (pc0 := 147) (pc' := 169) rfl (hb hby at_147) rfl ((if0 _ _).trans (teq (by decide : (0 : Int32) = (0 : Int32))).1) (by decide) (by decide) kt) ?_
      show own_Go p.tables e below (T298.setTop (mkF m 169 #[.val (.int p0), .val (.int p1), .val (.int p2), .val (.int p3), .val (.int (0 : Int32)), .val (.int (2 : Int32)), .val (.int (p0.toInt8.toInt32)), .val (.int (p1.toInt8.toInt32)), .val (.int (p2.toInt8.toInt32)), .val (.ref b230), .val (.ref b241), .val (.ref b252), .val (.ref b298), .unset] [])) _
      refine own_by (fun _ kt => XS.aload X298.here hx rfl (hb hby at_169) rfl rfl kt) ?_
      show own_Go p.tables e below (T298.setTop (mkF m 171 #[.val (.int p0), .val (.int p1), .val (.int p2), .val (.int p3), .val (.int (0 : Int32)), .val (.int (2 : Int32)), .val (.int (p0.toInt8.toInt32)), .val (.int (p1.toInt8.toInt32)), .val (.int (p2.toInt8.toInt32)), .val (.ref b230), .val (.ref b241), .val (.ref b252), .val (.ref b298), .unset] [(.ref b298)])) _
      refine own_by (fun _ kt => XS.ifnullNo X298.here hx rfl (hb hby at_171) rfl kt) ?_
      show own_Go p.tables e below (T298.setTop (mkF m 174 #[.val (.int p0), .val (.int p1), .val (.int p2), .val (.int p3), .val (.int (0 : Int32)), .val (.int (2 : Int32)), .val (.int (p0.toInt8.toInt32)), .val (.int (p1.toInt8.toInt32)), .val (.int (p2.toInt8.toInt32)), .val (.ref b230), .val (.ref b241), .val (.ref b252), .val (.ref b298), .unset] [])) _
      refine own_by (fun _ kt => XS.aload X298.here hx rfl (hb hby at_174) rfl rfl kt) ?_
      show own_Go p.tables e below (T298.setTop (mkF m 176 #[.val (.int p0), .val (.int p1), .val (.int p2), .val (.int p3), .val (.int (0 : Int32)), .val (.int (2 : Int32)), .val (.int (p0.toInt8.toInt32)), .val (.int (p1.toInt8.toInt32)), .val (.int (p2.toInt8.toInt32)), .val (.ref b230), .val (.ref b241), .val (.ref b252), .val (.ref b298), .unset] [(.ref b298)])) _
      refine own_by (fun _ kt => XS.aload X298.here hx rfl (hb hby at_176) rfl rfl kt) ?_
      show own_Go p.tables e below (T298.setTop (mkF m 178 #[.val (.int p0), .val (.int p1), .val (.int p2), .val (.int p3), .val (.int (0 : Int32)), .val (.int (2 : Int32)), .val (.int (p0.toInt8.toInt32)), .val (.int (p1.toInt8.toInt32)), .val (.int (p2.toInt8.toInt32)), .val (.ref b230), .val (.ref b241), .val (.ref b252), .val (.ref b298), .unset] [(.ref b230), (.ref b298)])) _
      refine own_by (fun _ kt => Jvm.RoadKit.acmp (g := (mkF m 178 #[.val (.int p0), .val (.int p1), .val (.int p2), .val (.int p3), .val (.int (0 : Int32)), .val (.int (2 : Int32)), .val (.int (p0.toInt8.toInt32)), .val (.int (p1.toInt8.toInt32)), .val (.int (p2.toInt8.toInt32)), .val (.ref b230), .val (.ref b241), .val (.ref b252), .val (.ref b298), .unset] [(.ref b230), (.ref b298)])) X298 hx rfl rfl rfl (pc0 := 178) (pc' := 183) (same := false) rfl (hb hby at_178) rfl (decide_eq_false fun q => (Ne.symm ne_b230_b298) (Value.ref.inj q)) (by decide) (by decide) kt) ?_
      show own_Go p.tables e below (T298.setTop (mkF m 183 #[.val (.int p0), .val (.int p1), .val (.int p2), .val (.int p3), .val (.int (0 : Int32)), .val (.int (2 : Int32)), .val (.int (p0.toInt8.toInt32)), .val (.int (p1.toInt8.toInt32)), .val (.int (p2.toInt8.toInt32)), .val (.ref b230), .val (.ref b241), .val (.ref b252), .val (.ref b298), .unset] [])) _
      refine own_by (fun _ kt => XS.aload X298.here hx rfl (hb hby at_183) rfl rfl kt) ?_
      show own_Go p.tables e below (T298.setTop (mkF m 185 #[.val (.int p0), .val (.int p1), .val (.int p2), .val (.int p3), .val (.int (0 : Int32)), .val (.int (2 : Int32)), .val (.int (p0.toInt8.toInt32)), .val (.int (p1.toInt8.toInt32)), .val (.int (p2.toInt8.toInt32)), .val (.ref b230), .val (.ref b241), .val (.ref b252), .val (.ref b298), .unset] [(.ref b298)])) _
      refine own_by (fun _ kt => XS.iload X298.here hx rfl (hb hby at_185) rfl kt) ?_
      show own_Go p.tables e below (T298.setTop (mkF m 187 #[.val (.int p0), .val (.int p1), .val (.int p2), .val (.int p3), .val (.int (0 : Int32)), .val (.int (2 : Int32)), .val (.int (p0.toInt8.toInt32)), .val (.int (p1.toInt8.toInt32)), .val (.int (p2.toInt8.toInt32)), .val (.ref b230), .val (.ref b241), .val (.ref b252), .val (.ref b298), .unset] [(.int (2 : Int32)), (.ref b298)])) _
      refine own_by (fun _ kt => XS.iload X298.here hx rfl (hb hby at_187) rfl kt) ?_
      show own_Go p.tables e below (T298.setTop (mkF m 189 #[.val (.int p0), .val (.int p1), .val (.int p2), .val (.int p3), .val (.int (0 : Int32)), .val (.int (2 : Int32)), .val (.int (p0.toInt8.toInt32)), .val (.int (p1.toInt8.toInt32)), .val (.int (p2.toInt8.toInt32)), .val (.ref b230), .val (.ref b241), .val (.ref b252), .val (.ref b298), .unset] [(.int (p0.toInt8.toInt32)), (.int (2 : Int32)), (.ref b298)])) _
      refine own_by (fun _ kt => XS.iload X298.here hx rfl (hb hby at_189) rfl kt) ?_
      show own_Go p.tables e below (T298.setTop (mkF m 191 #[.val (.int p0), .val (.int p1), .val (.int p2), .val (.int p3), .val (.int (0 : Int32)), .val (.int (2 : Int32)), .val (.int (p0.toInt8.toInt32)), .val (.int (p1.toInt8.toInt32)), .val (.int (p2.toInt8.toInt32)), .val (.ref b230), .val (.ref b241), .val (.ref b252), .val (.ref b298), .unset] [(.int (p1.toInt8.toInt32)), (.int (p0.toInt8.toInt32)), (.int (2 : Int32)), (.ref b298)])) _
      refine own_by (fun _ kt => XS.iload X298.here hx rfl (hb hby at_191) rfl kt) ?_
      show own_Go p.tables e below (T298.setTop (mkF m 193 #[.val (.int p0), .val (.int p1), .val (.int p2), .val (.int p3), .val (.int (0 : Int32)), .val (.int (2 : Int32)), .val (.int (p0.toInt8.toInt32)), .val (.int (p1.toInt8.toInt32)), .val (.int (p2.toInt8.toInt32)), .val (.ref b230), .val (.ref b241), .val (.ref b252), .val (.ref b298), .unset] [(.int (p2.toInt8.toInt32)), (.int (p1.toInt8.toInt32)), (.int (p0.toInt8.toInt32)), (.int (2 : Int32)), (.ref b298)])) _
      obtain ⟨_, _, ⟨T307, L307, k307, n307⟩, -, X307, ⟨Lc307, hQ307, l307, y307, z307⟩, st307⟩ := Jvm.LawKit.callS X298 hx (y := (⟨"com/example/relampago/relampago/lcp/CallParamsPinLaw", "same", "([BIBBB)Z"⟩ : MethodName)) hown (mvT hZ (hw _ (List.mem_of_getElem? (i := 64) rfl))) (mvT hZ (hw _ (List.mem_of_getElem? (i := 65) rfl))) (mvT hZ (hw _ (List.mem_of_getElem? (i := 57) rfl))) (mvT hZ (hw _ (List.mem_of_getElem? (i := 66) rfl))) (by decide) (backOf (W := 0) (rm_same2 l Z a0 hw [] b298 (p0.toInt8.toInt32) (p1.toInt8.toInt32) (p2.toInt8.toInt32) (k230) ((nar .byte (p0.toInt8.toInt32))) ((nar .byte (p1.toInt8.toInt32))) T298.heap n0 Zs298 f298_0 (own_nb _) (own_nb _)) hZ (hw _ (List.mem_of_getElem? (i := 66) rfl)) (hw _ (List.mem_of_getElem? (i := 57) rfl)) (by decide) (by decide)) (g := (mkF m 193 #[.val (.int p0), .val (.int p1), .val (.int p2), .val (.int p3), .val (.int (0 : Int32)), .val (.int (2 : Int32)), .val (.int (p0.toInt8.toInt32)), .val (.int (p1.toInt8.toInt32)), .val (.int (p2.toInt8.toInt32)), .val (.ref b230), .val (.ref b241), .val (.ref b252), .val (.ref b298), .unset] [(.int (p2.toInt8.toInt32)), (.int (p1.toInt8.toInt32)), (.int (p0.toInt8.toInt32)), (.int (2 : Int32)), (.ref b298)])) rfl (by rw [hml]; rfl) (argsL := [(.ref b298), (.int (2 : Int32)), (.int (p0.toInt8.toInt32)), (.int (p1.toInt8.toInt32)), (.int (p2.toInt8.toInt32))]) (rest := []) (lenOf pd_8 rfl) rfl (by show 2 * 0 + _ ≤ _; exact Nat.le_of_eq rfl) (hb hby at_193) (fun _ _ => ⟨rfl, rfl, (by decide : 10 + 0 ≤ _), (by decide : 24 + 0 ≤ _)⟩)
      dsimp only [Pt.U, Pt.locs, Pt.cells, Pt.slots] at X307 l307 y307 z307 st307 hQ307
      subst l307 y307 z307
      obtain ⟨rfl, Nq307, eh307⟩ := hQ307
      have N307 := Fr.app N298 Nq307
      refine own_by (st307) ?_
      show own_Go p.tables e below (T307.setTop (mkF m 196 #[.val (.int p0), .val (.int p1), .val (.int p2), .val (.int p3), .val (.int (0 : Int32)), .val (.int (2 : Int32)), .val (.int (p0.toInt8.toInt32)), .val (.int (p1.toInt8.toInt32)), .val (.int (p2.toInt8.toInt32)), .val (.ref b230), .val (.ref b241), .val (.ref b252), .val (.ref b298), .unset] [(.int (1 : Int32))])) _
      refine own_by (fun _ kt => XS.ifYes X307.here hx rfl (pc0 := 196) (pc' := 201) rfl (hb hby at_196) rfl ((if0 _ _).trans (feq (by decide : ¬ ((1 : Int32) = (0 : Int32)))).2) (by decide) (by decide) kt) ?_
      show own_Go p.tables e below (T307.setTop (mkF m 201 #[.val (.int p0), .val (.int p1), .val (.int p2), .val (.int p3), .val (.int (0 : Int32)), .val (.int (2 : Int32)), .val (.int (p0.toInt8.toInt32)), .val (.int (p1.toInt8.toInt32)), .val (.int (p2.toInt8.toInt32)), .val (.ref b230), .val (.ref b241), .val (.ref b252), .val (.ref b298), .unset] [])) _
      refine own_by (fun _ kt => XS.aload X307.here hx rfl (hb hby at_201) rfl rfl kt) ?_
      show own_Go p.tables e below (T307.setTop (mkF m 203 #[.val (.int p0), .val (.int p1), .val (.int p2), .val (.int p3), .val (.int (0 : Int32)), .val (.int (2 : Int32)), .val (.int (p0.toInt8.toInt32)), .val (.int (p1.toInt8.toInt32)), .val (.int (p2.toInt8.toInt32)), .val (.ref b230), .val (.ref b241), .val (.ref b252), .val (.ref b298), .unset] [(.ref b298)])) _
      refine own_by (fun _ kt => XS.iload X307.here hx rfl (hb hby at_203) rfl kt) ?_
      show own_Go p.tables e below (T307.setTop (mkF m 205 #[.val (.int p0), .val (.int p1), .val (.int p2), .val (.int p3), .val (.int (0 : Int32)), .val (.int (2 : Int32)), .val (.int (p0.toInt8.toInt32)), .val (.int (p1.toInt8.toInt32)), .val (.int (p2.toInt8.toInt32)), .val (.ref b230), .val (.ref b241), .val (.ref b252), .val (.ref b298), .unset] [(.int (2 : Int32)), (.ref b298)])) _
      obtain ⟨_, _, ⟨T308, L308, k308, n308⟩, -, X308, ⟨Lc308, hQ308, l308, y308, z308⟩, st308⟩ := Jvm.LawKit.callS X307 hx (y := (⟨"com/example/relampago/relampago/lcp/CallParamsPinLaw", "bump", "([BI)V"⟩ : MethodName)) hown (mvT hZ (hw _ (List.mem_of_getElem? (i := 55) rfl))) (mvT hZ (hw _ (List.mem_of_getElem? (i := 56) rfl))) (mvT hZ (hw _ (List.mem_of_getElem? (i := 57) rfl))) (mvT hZ (hw _ (List.mem_of_getElem? (i := 58) rfl))) (by decide) (backOf (W := 0) (rm_bump2 l Z a0 hw [] b298 (k230) ((nar .byte (p0.toInt8.toInt32))) ((nar .byte (p1.toInt8.toInt32))) T298.heap n0 Zs298 f298_0 gn_b298) hZ (hw _ (List.mem_of_getElem? (i := 58) rfl)) (hw _ (List.mem_of_getElem? (i := 57) rfl)) (by decide) (by decide)) (g := (mkF m 205 #[.val (.int p0), .val (.int p1), .val (.int p2), .val (.int p3), .val (.int (0 : Int32)), .val (.int (2 : Int32)), .val (.int (p0.toInt8.toInt32)), .val (.int (p1.toInt8.toInt32)), .val (.int (p2.toInt8.toInt32)), .val (.ref b230), .val (.ref b241), .val (.ref b252), .val (.ref b298), .unset] [(.int (2 : Int32)), (.ref b298)])) rfl (by rw [hml]; rfl) (argsL := [(.ref b298), (.int (2 : Int32))]) (rest := []) (lenOf pd_7 rfl) rfl (by show 2 * 0 + _ ≤ _; exact Nat.le_of_eq rfl) (hb hby at_205) (fun _ _ => ⟨rfl, eh307, (by decide : 10 + 0 ≤ _), (by decide : 24 + 0 ≤ _)⟩)
      dsimp only [Pt.U, Pt.locs, Pt.cells, Pt.slots] at X308 l308 y308 z308 st308 hQ308
      subst l308 y308 z308
      obtain ⟨rfl, Nq308, K308, f308_0⟩ := hQ308
      have f309 := f299.keep K308
      have f310 := f300.keep K308 (own_nin ne_b241_b298)
      have f311 := f301.keep K308
      have f312 := f302.keep K308
      have f313 := f303.keep K308 (own_nin ne_b252_b298)
      have f314 := f304.keep K308 (own_nin ne_b284_b298)
      have f315 := f305.keep K308
      have f316 := f306.keep K308 (own_nin ne_b230_b298)
      have f317 := f298_1.keep K308
      have Zs308 : n0 ≤ T308.heap.size := Nat.le_trans Zs298 K308.1
      have N308 := Fr.app N307 Nq308
      refine own_by (st308) ?_
      show own_Go p.tables e below (T308.setTop (mkF m 208 #[.val (.int p0), .val (.int p1), .val (.int p2), .val (.int p3), .val (.int (0 : Int32)), .val (.int (2 : Int32)), .val (.int (p0.toInt8.toInt32)), .val (.int (p1.toInt8.toInt32)), .val (.int (p2.toInt8.toInt32)), .val (.ref b230), .val (.ref b241), .val (.ref b252), .val (.ref b298), .unset] [])) _
      refine own_by (fun _ kt => XS.aload X308.here hx rfl (hb hby at_208) rfl rfl kt) ?_
      show own_Go p.tables e below (T308.setTop (mkF m 210 #[.val (.int p0), .val (.int p1), .val (.int p2), .val (.int p3), .val (.int (0 : Int32)), .val (.int (2 : Int32)), .val (.int (p0.toInt8.toInt32)), .val (.int (p1.toInt8.toInt32)), .val (.int (p2.toInt8.toInt32)), .val (.ref b230), .val (.ref b241), .val (.ref b252), .val (.ref b298), .unset] [(.ref b252)])) _
      obtain ⟨cq318, kq318, q318a, q318b, q318c⟩ := isOf hZ rfl f312
      obtain ⟨_, _, ⟨T318, L318, k318, n318⟩, -, X318, ⟨Lc318, hQ318, l318, y318, z318⟩, st318⟩ := X308.virtualBack hx (y := (⟨"com/example/relampago/relampago/lcp/Call", "params", "()[B"⟩ : MethodName)) (z := (⟨"com/example/relampago/relampago/lcp/Call", "params", "()[B"⟩ : MethodName)) hown (mvT hZ (hw _ (List.mem_of_getElem? (i := 59) rfl))) (mvT hZ (hw _ (List.mem_of_getElem? (i := 60) rfl))) (notFace_of_selects (args := #[]) (mvT hZ (hw _ (List.mem_of_getElem? (i := 62) rfl)))) (mvT hZ (hw _ (List.mem_of_getElem? (i := 62) rfl))) (mvT hZ (hw _ (List.mem_of_getElem? (i := 61) rfl))) (by decide) (backOf (W := 0) (rm_params1 l Z a0 hw [] b252 (b284) (k230) ([(.int (nar .byte (p0.toInt8.toInt32))), (.int (nar .byte (p1.toInt8.toInt32)))]) ((2 : Int32)) T308.heap n0 Zs308 f313 f314 f315 (by decide)) hZ (hw _ (List.mem_of_getElem? (i := 63) rfl)) (hw _ (List.mem_of_getElem? (i := 3) rfl)) (by decide) (by decide)) q318a q318c (g := (mkF m 210 #[.val (.int p0), .val (.int p1), .val (.int p2), .val (.int p3), .val (.int (0 : Int32)), .val (.int (2 : Int32)), .val (.int (p0.toInt8.toInt32)), .val (.int (p1.toInt8.toInt32)), .val (.int (p2.toInt8.toInt32)), .val (.ref b230), .val (.ref b241), .val (.ref b252), .val (.ref b298), .unset] [(.ref b252)])) rfl (by rw [hml]; rfl) (Steps.refl _) (argsL := []) (rest := []) (lenOf pd_6 rfl) rfl (by show 2 * 0 + _ ≤ _; exact Nat.le_of_eq rfl) (hb hby at_210) (fun _ _ => ⟨rfl, rfl, (by decide : 10 + 1 ≤ _), (by decide : 24 + 3 ≤ _)⟩)
      dsimp only [Pt.U, Pt.locs, Pt.cells, Pt.slots] at X318 l318 y318 z318 st318 hQ318
      subst l318 y318 z318
      obtain ⟨b318, rfl, Nq318, K318, gn_b318, szq_b318, f318_0, f318_1⟩ := hQ318
      have ne_b230_b318 : b230 ≠ b318 := Nat.ne_of_lt (Nat.lt_of_lt_of_le f309.lt szq_b318)
      have ne_b241_b318 : b241 ≠ b318 := Nat.ne_of_lt (Nat.lt_of_lt_of_le f310.lt szq_b318)
      have ne_b252_b318 : b252 ≠ b318 := Nat.ne_of_lt (Nat.lt_of_lt_of_le f312.lt szq_b318)
      have ne_b284_b318 : b284 ≠ b318 := Nat.ne_of_lt (Nat.lt_of_lt_of_le f314.lt szq_b318)
      have ne_b298_b318 : b298 ≠ b318 := Nat.ne_of_lt (Nat.lt_of_lt_of_le f317.lt szq_b318)
      have f319 := f309.keep K318
      have f320 := f310.keep K318 List.not_mem_nil
      have f321 := f311.keep K318
      have f322 := f312.keep K318
      have f323 := f313.keep K318 List.not_mem_nil
      have f324 := f314.keep K318 List.not_mem_nil
      have f325 := f315.keep K318
      have f326 := f316.keep K318 List.not_mem_nil
      have f327 := f317.keep K318
      have f328 := f308_0.keep K318 List.not_mem_nil
      have Zs318 : n0 ≤ T318.heap.size := Nat.le_trans Zs308 K318.1
      have N318 := Fr.app N308 Nq318
      refine own_by (fun _ kt => st318.trans kt) ?_
      show own_Go p.tables e below (T318.setTop (mkF m 213 #[.val (.int p0), .val (.int p1), .val (.int p2), .val (.int p3), .val (.int (0 : Int32)), .val (.int (2 : Int32)), .val (.int (p0.toInt8.toInt32)), .val (.int (p1.toInt8.toInt32)), .val (.int (p2.toInt8.toInt32)), .val (.ref b230), .val (.ref b241), .val (.ref b252), .val (.ref b298), .unset] [(.ref b318)])) _
      refine own_by (fun _ kt => XS.astore X318.here hx rfl (hb hby at_213) rfl rfl (l' := #[.val (.int p0), .val (.int p1), .val (.int p2), .val (.int p3), .val (.int (0 : Int32)), .val (.int (2 : Int32)), .val (.int (p0.toInt8.toInt32)), .val (.int (p1.toInt8.toInt32)), .val (.int (p2.toInt8.toInt32)), .val (.ref b230), .val (.ref b241), .val (.ref b252), .val (.ref b298), .val (.ref b318)]) rfl kt) ?_
      show own_Go p.tables e below (T318.setTop (mkF m 215 #[.val (.int p0), .val (.int p1), .val (.int p2), .val (.int p3), .val (.int (0 : Int32)), .val (.int (2 : Int32)), .val (.int (p0.toInt8.toInt32)), .val (.int (p1.toInt8.toInt32)), .val (.int (p2.toInt8.toInt32)), .val (.ref b230), .val (.ref b241), .val (.ref b252), .val (.ref b298), .val (.ref b318)] [])) _
      refine own_by (fun _ kt => XS.aload X318.here hx rfl (hb hby at_215) rfl rfl kt) ?_
      show own_Go p.tables e below (T318.setTop (mkF m 217 #[.val (.int p0), .val (.int p1), .val (.int p2), .val (.int p3), .val (.int (0 : Int32)), .val (.int (2 : Int32)), .val (.int (p0.toInt8.toInt32)), .val (.int (p1.toInt8.toInt32)), .val (.int (p2.toInt8.toInt32)), .val (.ref b230), .val (.ref b241), .val (.ref b252), .val (.ref b298), .val (.ref b318)] [(.ref b318)])) _
      refine own_by (fun _ kt => XS.ifnullNo X318.here hx rfl (hb hby at_217) rfl kt) ?_
      show own_Go p.tables e below (T318.setTop (mkF m 220 #[.val (.int p0), .val (.int p1), .val (.int p2), .val (.int p3), .val (.int (0 : Int32)), .val (.int (2 : Int32)), .val (.int (p0.toInt8.toInt32)), .val (.int (p1.toInt8.toInt32)), .val (.int (p2.toInt8.toInt32)), .val (.ref b230), .val (.ref b241), .val (.ref b252), .val (.ref b298), .val (.ref b318)] [])) _
      refine own_by (fun _ kt => XS.aload X318.here hx rfl (hb hby at_220) rfl rfl kt) ?_
      show own_Go p.tables e below (T318.setTop (mkF m 222 #[.val (.int p0), .val (.int p1), .val (.int p2), .val (.int p3), .val (.int (0 : Int32)), .val (.int (2 : Int32)), .val (.int (p0.toInt8.toInt32)), .val (.int (p1.toInt8.toInt32)), .val (.int (p2.toInt8.toInt32)), .val (.ref b230), .val (.ref b241), .val (.ref b252), .val (.ref b298), .val (.ref b318)] [(.ref b318)])) _
      refine own_by (fun _ kt => XS.aload X318.here hx rfl (hb hby at_222) rfl rfl kt) ?_
      show own_Go p.tables e below (T318.setTop (mkF m 224 #[.val (.int p0), .val (.int p1), .val (.int p2), .val (.int p3), .val (.int (0 : Int32)), .val (.int (2 : Int32)), .val (.int (p0.toInt8.toInt32)), .val (.int (p1.toInt8.toInt32)), .val (.int (p2.toInt8.toInt32)), .val (.ref b230), .val (.ref b241), .val (.ref b252), .val (.ref b298), .val (.ref b318)] [(.ref b230), (.ref b318)])) _
      refine own_by (fun _ kt => Jvm.RoadKit.acmp (g := (mkF m 224 #[.val (.int p0), .val (.int p1), .val (.int p2), .val (.int p3), .val (.int (0 : Int32)), .val (.int (2 : Int32)), .val (.int (p0.toInt8.toInt32)), .val (.int (p1.toInt8.toInt32)), .val (.int (p2.toInt8.toInt32)), .val (.ref b230), .val (.ref b241), .val (.ref b252), .val (.ref b298), .val (.ref b318)] [(.ref b230), (.ref b318)])) X318 hx rfl rfl rfl (pc0 := 224) (pc' := 227) (same := false) rfl (hb hby at_224) rfl (decide_eq_false fun q => (Ne.symm ne_b230_b318) (Value.ref.inj q)) (by decide) (by decide) kt) ?_
      show own_Go p.tables e below (T318.setTop (mkF m 227 #[.val (.int p0), .val (.int p1), .val (.int p2), .val (.int p3), .val (.int (0 : Int32)), .val (.int (2 : Int32)), .val (.int (p0.toInt8.toInt32)), .val (.int (p1.toInt8.toInt32)), .val (.int (p2.toInt8.toInt32)), .val (.ref b230), .val (.ref b241), .val (.ref b252), .val (.ref b298), .val (.ref b318)] [])) _
      refine own_by (fun _ kt => XS.aload X318.here hx rfl (hb hby at_227) rfl rfl kt) ?_
      show own_Go p.tables e below (T318.setTop (mkF m 229 #[.val (.int p0), .val (.int p1), .val (.int p2), .val (.int p3), .val (.int (0 : Int32)), .val (.int (2 : Int32)), .val (.int (p0.toInt8.toInt32)), .val (.int (p1.toInt8.toInt32)), .val (.int (p2.toInt8.toInt32)), .val (.ref b230), .val (.ref b241), .val (.ref b252), .val (.ref b298), .val (.ref b318)] [(.ref b318)])) _
      refine own_by (fun _ kt => XS.aload X318.here hx rfl (hb hby at_229) rfl rfl kt) ?_
      show own_Go p.tables e below (T318.setTop (mkF m 231 #[.val (.int p0), .val (.int p1), .val (.int p2), .val (.int p3), .val (.int (0 : Int32)), .val (.int (2 : Int32)), .val (.int (p0.toInt8.toInt32)), .val (.int (p1.toInt8.toInt32)), .val (.int (p2.toInt8.toInt32)), .val (.ref b230), .val (.ref b241), .val (.ref b252), .val (.ref b298), .val (.ref b318)] [(.ref b298), (.ref b318)])) _
      refine own_by (fun _ kt => Jvm.RoadKit.acmp (g := (mkF m 231 #[.val (.int p0), .val (.int p1), .val (.int p2), .val (.int p3), .val (.int (0 : Int32)), .val (.int (2 : Int32)), .val (.int (p0.toInt8.toInt32)), .val (.int (p1.toInt8.toInt32)), .val (.int (p2.toInt8.toInt32)), .val (.ref b230), .val (.ref b241), .val (.ref b252), .val (.ref b298), .val (.ref b318)] [(.ref b298), (.ref b318)])) X318 hx rfl rfl rfl (pc0 := 231) (pc' := 236) (same := false) rfl (hb hby at_231) rfl (decide_eq_false fun q => (Ne.symm ne_b298_b318) (Value.ref.inj q)) (by decide) (by decide) kt) ?_
      show own_Go p.tables e below (T318.setTop (mkF m 236 #[.val (.int p0), .val (.int p1), .val (.int p2), .val (.int p3), .val (.int (0 : Int32)), .val (.int (2 : Int32)), .val (.int (p0.toInt8.toInt32)), .val (.int (p1.toInt8.toInt32)), .val (.int (p2.toInt8.toInt32)), .val (.ref b230), .val (.ref b241), .val (.ref b252), .val (.ref b298), .val (.ref b318)] [])) _
      refine own_by (fun _ kt => XS.aload X318.here hx rfl (hb hby at_236) rfl rfl kt) ?_
      show own_Go p.tables e below (T318.setTop (mkF m 238 #[.val (.int p0), .val (.int p1), .val (.int p2), .val (.int p3), .val (.int (0 : Int32)), .val (.int (2 : Int32)), .val (.int (p0.toInt8.toInt32)), .val (.int (p1.toInt8.toInt32)), .val (.int (p2.toInt8.toInt32)), .val (.ref b230), .val (.ref b241), .val (.ref b252), .val (.ref b298), .val (.ref b318)] [(.ref b318)])) _
      refine own_by (fun _ kt => XS.iload X318.here hx rfl (hb hby at_238) rfl kt) ?_
      show own_Go p.tables e below (T318.setTop (mkF m 240 #[.val (.int p0), .val (.int p1), .val (.int p2), .val (.int p3), .val (.int (0 : Int32)), .val (.int (2 : Int32)), .val (.int (p0.toInt8.toInt32)), .val (.int (p1.toInt8.toInt32)), .val (.int (p2.toInt8.toInt32)), .val (.ref b230), .val (.ref b241), .val (.ref b252), .val (.ref b298), .val (.ref b318)] [(.int (2 : Int32)), (.ref b318)])) _
      refine own_by (fun _ kt => XS.iload X318.here hx rfl (hb hby at_240) rfl kt) ?_
      show own_Go p.tables e below (T318.setTop (mkF m 242 #[.val (.int p0), .val (.int p1), .val (.int p2), .val (.int p3), .val (.int (0 : Int32)), .val (.int (2 : Int32)), .val (.int (p0.toInt8.toInt32)), .val (.int (p1.toInt8.toInt32)), .val (.int (p2.toInt8.toInt32)), .val (.ref b230), .val (.ref b241), .val (.ref b252), .val (.ref b298), .val (.ref b318)] [(.int (p0.toInt8.toInt32)), (.int (2 : Int32)), (.ref b318)])) _
      refine own_by (fun _ kt => XS.iload X318.here hx rfl (hb hby at_242) rfl kt) ?_
      show own_Go p.tables e below (T318.setTop (mkF m 244 #[.val (.int p0), .val (.int p1), .val (.int p2), .val (.int p3), .val (.int (0 : Int32)), .val (.int (2 : Int32)), .val (.int (p0.toInt8.toInt32)), .val (.int (p1.toInt8.toInt32)), .val (.int (p2.toInt8.toInt32)), .val (.ref b230), .val (.ref b241), .val (.ref b252), .val (.ref b298), .val (.ref b318)] [(.int (p1.toInt8.toInt32)), (.int (p0.toInt8.toInt32)), (.int (2 : Int32)), (.ref b318)])) _
      refine own_by (fun _ kt => XS.iload X318.here hx rfl (hb hby at_244) rfl kt) ?_
      show own_Go p.tables e below (T318.setTop (mkF m 246 #[.val (.int p0), .val (.int p1), .val (.int p2), .val (.int p3), .val (.int (0 : Int32)), .val (.int (2 : Int32)), .val (.int (p0.toInt8.toInt32)), .val (.int (p1.toInt8.toInt32)), .val (.int (p2.toInt8.toInt32)), .val (.ref b230), .val (.ref b241), .val (.ref b252), .val (.ref b298), .val (.ref b318)] [(.int (p2.toInt8.toInt32)), (.int (p1.toInt8.toInt32)), (.int (p0.toInt8.toInt32)), (.int (2 : Int32)), (.ref b318)])) _
      obtain ⟨_, _, ⟨T329, L329, k329, n329⟩, -, X329, ⟨Lc329, hQ329, l329, y329, z329⟩, st329⟩ := Jvm.LawKit.callS X318 hx (y := (⟨"com/example/relampago/relampago/lcp/CallParamsPinLaw", "same", "([BIBBB)Z"⟩ : MethodName)) hown (mvT hZ (hw _ (List.mem_of_getElem? (i := 64) rfl))) (mvT hZ (hw _ (List.mem_of_getElem? (i := 65) rfl))) (mvT hZ (hw _ (List.mem_of_getElem? (i := 57) rfl))) (mvT hZ (hw _ (List.mem_of_getElem? (i := 66) rfl))) (by decide) (backOf (W := 0) (rm_same2 l Z a0 hw [] b318 (p0.toInt8.toInt32) (p1.toInt8.toInt32) (p2.toInt8.toInt32) (k230) ((nar .byte (p0.toInt8.toInt32))) ((nar .byte (p1.toInt8.toInt32))) T318.heap n0 Zs318 f318_0 (own_nb _) (own_nb _)) hZ (hw _ (List.mem_of_getElem? (i := 66) rfl)) (hw _ (List.mem_of_getElem? (i := 57) rfl)) (by decide) (by decide)) (g := (mkF m 246 #[.val (.int p0), .val (.int p1), .val (.int p2), .val (.int p3), .val (.int (0 : Int32)), .val (.int (2 : Int32)), .val (.int (p0.toInt8.toInt32)), .val (.int (p1.toInt8.toInt32)), .val (.int (p2.toInt8.toInt32)), .val (.ref b230), .val (.ref b241), .val (.ref b252), .val (.ref b298), .val (.ref b318)] [(.int (p2.toInt8.toInt32)), (.int (p1.toInt8.toInt32)), (.int (p0.toInt8.toInt32)), (.int (2 : Int32)), (.ref b318)])) rfl (by rw [hml]; rfl) (argsL := [(.ref b318), (.int (2 : Int32)), (.int (p0.toInt8.toInt32)), (.int (p1.toInt8.toInt32)), (.int (p2.toInt8.toInt32))]) (rest := []) (lenOf pd_8 rfl) rfl (by show 2 * 0 + _ ≤ _; exact Nat.le_of_eq rfl) (hb hby at_246) (fun _ _ => ⟨rfl, rfl, (by decide : 11 + 0 ≤ _), (by decide : 27 + 0 ≤ _)⟩)
      dsimp only [Pt.U, Pt.locs, Pt.cells, Pt.slots] at X329 l329 y329 z329 st329 hQ329
      subst l329 y329 z329
      obtain ⟨rfl, Nq329, eh329⟩ := hQ329
      have N329 := Fr.app N318 Nq329
      refine own_by (st329) ?_
      show own_Go p.tables e below (T329.setTop (mkF m 249 #[.val (.int p0), .val (.int p1), .val (.int p2), .val (.int p3), .val (.int (0 : Int32)), .val (.int (2 : Int32)), .val (.int (p0.toInt8.toInt32)), .val (.int (p1.toInt8.toInt32)), .val (.int (p2.toInt8.toInt32)), .val (.ref b230), .val (.ref b241), .val (.ref b252), .val (.ref b298), .val (.ref b318)] [(.int (1 : Int32))])) _
      exact own_retN X329 hx (t := .boolean) Bd.returns hlk (by simp) (hb hby at_249) ⟨rfl, N329⟩ (by decide) (by decide)
    · rw [hs18_41]
      show own_Go p.tables e below (s₁.setTop (mkF m 18 #[.val (.int p0), .val (.int p1), .val (.int p2), .val (.int p3), .val (.int (0 : Int32)), .unset, .unset, .unset, .unset, .unset, .unset, .unset, .unset, .unset] [(.int (3 : Int32))])) _
      refine own_by (fun _ kt => XS.istore X0.here hx rfl (hb hby at_18) rfl (l' := #[.val (.int p0), .val (.int p1), .val (.int p2), .val (.int p3), .val (.int (0 : Int32)), .val (.int (3 : Int32)), .unset, .unset, .unset, .unset, .unset, .unset, .unset, .unset]) rfl kt) ?_
      show own_Go p.tables e below (s₁.setTop (mkF m 20 #[.val (.int p0), .val (.int p1), .val (.int p2), .val (.int p3), .val (.int (0 : Int32)), .val (.int (3 : Int32)), .unset, .unset, .unset, .unset, .unset, .unset, .unset, .unset] [])) _
      refine own_by (fun _ kt => XS.iloadN X0.here hx rfl (hb hby at_20) rfl kt) ?_
      show own_Go p.tables e below (s₁.setTop (mkF m 21 #[.val (.int p0), .val (.int p1), .val (.int p2), .val (.int p3), .val (.int (0 : Int32)), .val (.int (3 : Int32)), .unset, .unset, .unset, .unset, .unset, .unset, .unset, .unset] [(.int p0)])) _
      refine own_by (fun _ kt => XS.i2b X0.here hx rfl (hb hby at_21) rfl kt) ?_
      show own_Go p.tables e below (s₁.setTop (mkF m 22 #[.val (.int p0), .val (.int p1), .val (.int p2), .val (.int p3), .val (.int (0 : Int32)), .val (.int (3 : Int32)), .unset, .unset, .unset, .unset, .unset, .unset, .unset, .unset] [(.int (p0.toInt8.toInt32))])) _
      refine own_by (fun _ kt => XS.istore X0.here hx rfl (hb hby at_22) rfl (l' := #[.val (.int p0), .val (.int p1), .val (.int p2), .val (.int p3), .val (.int (0 : Int32)), .val (.int (3 : Int32)), .val (.int (p0.toInt8.toInt32)), .unset, .unset, .unset, .unset, .unset, .unset, .unset]) rfl kt) ?_
      show own_Go p.tables e below (s₁.setTop (mkF m 24 #[.val (.int p0), .val (.int p1), .val (.int p2), .val (.int p3), .val (.int (0 : Int32)), .val (.int (3 : Int32)), .val (.int (p0.toInt8.toInt32)), .unset, .unset, .unset, .unset, .unset, .unset, .unset] [])) _
      refine own_by (fun _ kt => XS.iloadN X0.here hx rfl (hb hby at_24) rfl kt) ?_
      show own_Go p.tables e below (s₁.setTop (mkF m 25 #[.val (.int p0), .val (.int p1), .val (.int p2), .val (.int p3), .val (.int (0 : Int32)), .val (.int (3 : Int32)), .val (.int (p0.toInt8.toInt32)), .unset, .unset, .unset, .unset, .unset, .unset, .unset] [(.int p1)])) _
      refine own_by (fun _ kt => XS.i2b X0.here hx rfl (hb hby at_25) rfl kt) ?_
      show own_Go p.tables e below (s₁.setTop (mkF m 26 #[.val (.int p0), .val (.int p1), .val (.int p2), .val (.int p3), .val (.int (0 : Int32)), .val (.int (3 : Int32)), .val (.int (p0.toInt8.toInt32)), .unset, .unset, .unset, .unset, .unset, .unset, .unset] [(.int (p1.toInt8.toInt32))])) _
      refine own_by (fun _ kt => XS.istore X0.here hx rfl (hb hby at_26) rfl (l' := #[.val (.int p0), .val (.int p1), .val (.int p2), .val (.int p3), .val (.int (0 : Int32)), .val (.int (3 : Int32)), .val (.int (p0.toInt8.toInt32)), .val (.int (p1.toInt8.toInt32)), .unset, .unset, .unset, .unset, .unset, .unset]) rfl kt) ?_
      show own_Go p.tables e below (s₁.setTop (mkF m 28 #[.val (.int p0), .val (.int p1), .val (.int p2), .val (.int p3), .val (.int (0 : Int32)), .val (.int (3 : Int32)), .val (.int (p0.toInt8.toInt32)), .val (.int (p1.toInt8.toInt32)), .unset, .unset, .unset, .unset, .unset, .unset] [])) _
      refine own_by (fun _ kt => XS.iloadN X0.here hx rfl (hb hby at_28) rfl kt) ?_
      show own_Go p.tables e below (s₁.setTop (mkF m 29 #[.val (.int p0), .val (.int p1), .val (.int p2), .val (.int p3), .val (.int (0 : Int32)), .val (.int (3 : Int32)), .val (.int (p0.toInt8.toInt32)), .val (.int (p1.toInt8.toInt32)), .unset, .unset, .unset, .unset, .unset, .unset] [(.int p2)])) _
      refine own_by (fun _ kt => XS.i2b X0.here hx rfl (hb hby at_29) rfl kt) ?_
      show own_Go p.tables e below (s₁.setTop (mkF m 30 #[.val (.int p0), .val (.int p1), .val (.int p2), .val (.int p3), .val (.int (0 : Int32)), .val (.int (3 : Int32)), .val (.int (p0.toInt8.toInt32)), .val (.int (p1.toInt8.toInt32)), .unset, .unset, .unset, .unset, .unset, .unset] [(.int (p2.toInt8.toInt32))])) _
      refine own_by (fun _ kt => XS.istore X0.here hx rfl (hb hby at_30) rfl (l' := #[.val (.int p0), .val (.int p1), .val (.int p2), .val (.int p3), .val (.int (0 : Int32)), .val (.int (3 : Int32)), .val (.int (p0.toInt8.toInt32)), .val (.int (p1.toInt8.toInt32)), .val (.int (p2.toInt8.toInt32)), .unset, .unset, .unset, .unset, .unset]) rfl kt) ?_
      show own_Go p.tables e below (s₁.setTop (mkF m 32 #[.val (.int p0), .val (.int p1), .val (.int p2), .val (.int p3), .val (.int (0 : Int32)), .val (.int (3 : Int32)), .val (.int (p0.toInt8.toInt32)), .val (.int (p1.toInt8.toInt32)), .val (.int (p2.toInt8.toInt32)), .unset, .unset, .unset, .unset, .unset] [])) _
      refine own_by (fun _ kt => XS.aconstNull X0.here hx rfl (hb hby at_32) kt) ?_
      show own_Go p.tables e below (s₁.setTop (mkF m 33 #[.val (.int p0), .val (.int p1), .val (.int p2), .val (.int p3), .val (.int (0 : Int32)), .val (.int (3 : Int32)), .val (.int (p0.toInt8.toInt32)), .val (.int (p1.toInt8.toInt32)), .val (.int (p2.toInt8.toInt32)), .unset, .unset, .unset, .unset, .unset] [.null])) _
      refine own_by (fun _ kt => XS.astore X0.here hx rfl (hb hby at_33) rfl rfl (l' := #[.val (.int p0), .val (.int p1), .val (.int p2), .val (.int p3), .val (.int (0 : Int32)), .val (.int (3 : Int32)), .val (.int (p0.toInt8.toInt32)), .val (.int (p1.toInt8.toInt32)), .val (.int (p2.toInt8.toInt32)), .val .null, .unset, .unset, .unset, .unset]) rfl kt) ?_
      show own_Go p.tables e below (s₁.setTop (mkF m 35 #[.val (.int p0), .val (.int p1), .val (.int p2), .val (.int p3), .val (.int (0 : Int32)), .val (.int (3 : Int32)), .val (.int (p0.toInt8.toInt32)), .val (.int (p1.toInt8.toInt32)), .val (.int (p2.toInt8.toInt32)), .val .null, .unset, .unset, .unset, .unset] [])) _
      refine own_by (fun _ kt => XS.iload X0.here hx rfl (hb hby at_35) rfl kt) ?_
      show own_Go p.tables e below (s₁.setTop (mkF m 37 #[.val (.int p0), .val (.int p1), .val (.int p2), .val (.int p3), .val (.int (0 : Int32)), .val (.int (3 : Int32)), .val (.int (p0.toInt8.toInt32)), .val (.int (p1.toInt8.toInt32)), .val (.int (p2.toInt8.toInt32)), .val .null, .unset, .unset, .unset, .unset] [(.int (0 : Int32))])) _
      refine own_by (fun _ kt => XS.ifNo X0.here hx rfl (hb hby at_37) rfl ((if0 _ _).trans (teq (by decide : (0 : Int32) = (0 : Int32))).2) kt) ?_
      show own_Go p.tables e below (s₁.setTop (mkF m 40 #[.val (.int p0), .val (.int p1), .val (.int p2), .val (.int p3), .val (.int (0 : Int32)), .val (.int (3 : Int32)), .val (.int (p0.toInt8.toInt32)), .val (.int (p1.toInt8.toInt32)), .val (.int (p2.toInt8.toInt32)), .val .null, .unset, .unset, .unset, .unset] [])) _
      refine own_by (fun _ kt => XS.iload X0.here hx rfl (hb hby at_40) rfl kt) ?_
      show own_Go p.tables e below (s₁.setTop (mkF m 42 #[.val (.int p0), .val (.int p1), .val (.int p2), .val (.int p3), .val (.int (0 : Int32)), .val (.int (3 : Int32)), .val (.int (p0.toInt8.toInt32)), .val (.int (p1.toInt8.toInt32)), .val (.int (p2.toInt8.toInt32)), .val .null, .unset, .unset, .unset, .unset] [(.int (3 : Int32))])) _
      obtain ⟨T330, h330, k330, X330, e330, E330, A330, Ea330, st330⟩ := newPE X0 hx hZ (hw _ (List.mem_of_getElem? (i := 0) rfl)) e0 (g := (mkF m 42 #[.val (.int p0), .val (.int p1), .val (.int p2), .val (.int p3), .val (.int (0 : Int32)), .val (.int (3 : Int32)), .val (.int (p0.toInt8.toInt32)), .val (.int (p1.toInt8.toInt32)), .val (.int (p2.toInt8.toInt32)), .val .null, .unset, .unset, .unset, .unset] [(.int (3 : Int32))])) rfl (hb hby at_42) rfl (by decide) (cap := 3) (by decide) (by decide) (by decide) (by decide) (ad := "[B") (by decide)
      obtain ⟨b330, g330⟩ : ∃ z, z = h0.size := ⟨_, rfl⟩
      rw [← g330] at A330 Ea330 st330
      have gn_b330 : n0 ≤ b330 := Nat.le_trans Z0 (Nat.le_of_eq g330.symm)
      have f331 := S_CS.ext E330
      have Zs330 : n0 ≤ h330.size := Nat.le_trans Z0 E330.1
      have f332 : Arv Z h330 b330 k330 .byte (3 : Int32) [(.int (0 : Int32)), (.int (0 : Int32)), (.int (0 : Int32))] (.int (0 : Int32)) := (Arv.new A330 (by decide)).pad (pad_rep [] (.int (0 : Int32)) 3)
      refine own_by st330 ?_
      show own_Go p.tables e below (T330.setTop (mkF m 44 #[.val (.int p0), .val (.int p1), .val (.int p2), .val (.int p3), .val (.int (0 : Int32)), .val (.int (3 : Int32)), .val (.int (p0.toInt8.toInt32)), .val (.int (p1.toInt8.toInt32)), .val (.int (p2.toInt8.toInt32)), .val .null, .unset, .unset, .unset, .unset] [(.ref b330)])) _
      refine own_by (fun _ kt => XS.astore X330.here hx rfl (hb hby at_44) rfl rfl (l' := #[.val (.int p0), .val (.int p1), .val (.int p2), .val (.int p3), .val (.int (0 : Int32)), .val (.int (3 : Int32)), .val (.int (p0.toInt8.toInt32)), .val (.int (p1.toInt8.toInt32)), .val (.int (p2.toInt8.toInt32)), .val (.ref b330), .unset, .unset, .unset, .unset]) rfl kt) ?_
      show own_Go p.tables e below (T330.setTop (mkF m 46 #[.val (.int p0), .val (.int p1), .val (.int p2), .val (.int p3), .val (.int (0 : Int32)), .val (.int (3 : Int32)), .val (.int (p0.toInt8.toInt32)), .val (.int (p1.toInt8.toInt32)), .val (.int (p2.toInt8.toInt32)), .val (.ref b330), .unset, .unset, .unset, .unset] [])) _
      refine own_by (fun _ kt => XS.iload X330.here hx rfl (hb hby at_46) rfl kt) ?_
      show own_Go p.tables e below (T330.setTop (mkF m 48 #[.val (.int p0), .val (.int p1), .val (.int p2), .val (.int p3), .val (.int (0 : Int32)), .val (.int (3 : Int32)), .val (.int (p0.toInt8.toInt32)), .val (.int (p1.toInt8.toInt32)), .val (.int (p2.toInt8.toInt32)), .val (.ref b330), .unset, .unset, .unset, .unset] [(.int (3 : Int32))])) _
      refine own_by (fun _ kt => XS.ifNo X330.here hx rfl (hb hby at_48) rfl ((if0 _ _).trans (tlt (by decide : (0 : Int32) < (3 : Int32))).2.2.2) kt) ?_
      show own_Go p.tables e below (T330.setTop (mkF m 51 #[.val (.int p0), .val (.int p1), .val (.int p2), .val (.int p3), .val (.int (0 : Int32)), .val (.int (3 : Int32)), .val (.int (p0.toInt8.toInt32)), .val (.int (p1.toInt8.toInt32)), .val (.int (p2.toInt8.toInt32)), .val (.ref b330), .unset, .unset, .unset, .unset] [])) _
      refine own_by (fun _ kt => XS.aload X330.here hx rfl (hb hby at_51) rfl rfl kt) ?_
      show own_Go p.tables e below (T330.setTop (mkF m 53 #[.val (.int p0), .val (.int p1), .val (.int p2), .val (.int p3), .val (.int (0 : Int32)), .val (.int (3 : Int32)), .val (.int (p0.toInt8.toInt32)), .val (.int (p1.toInt8.toInt32)), .val (.int (p2.toInt8.toInt32)), .val (.ref b330), .unset, .unset, .unset, .unset] [(.ref b330)])) _
      refine own_by (fun _ kt => XS.iconst X330.here hx rfl (hb hby at_53) kt) ?_
      show own_Go p.tables e below (T330.setTop (mkF m 54 #[.val (.int p0), .val (.int p1), .val (.int p2), .val (.int p3), .val (.int (0 : Int32)), .val (.int (3 : Int32)), .val (.int (p0.toInt8.toInt32)), .val (.int (p1.toInt8.toInt32)), .val (.int (p2.toInt8.toInt32)), .val (.ref b330), .unset, .unset, .unset, .unset] [(.int (0 : Int32)), (.ref b330)])) _
      refine own_by (fun _ kt => XS.iload X330.here hx rfl (hb hby at_54) rfl kt) ?_
      show own_Go p.tables e below (T330.setTop (mkF m 56 #[.val (.int p0), .val (.int p1), .val (.int p2), .val (.int p3), .val (.int (0 : Int32)), .val (.int (3 : Int32)), .val (.int (p0.toInt8.toInt32)), .val (.int (p1.toInt8.toInt32)), .val (.int (p2.toInt8.toInt32)), .val (.ref b330), .unset, .unset, .unset, .unset] [(.int (p0.toInt8.toInt32)), (.int (0 : Int32)), (.ref b330)])) _
      obtain ⟨cl333, Ar333, q333, S333, M333, H333, G333⟩ := f332
      obtain ⟨T333, h333, X333, e333, W333, st333⟩ := stB X330 hx hZ e330 Ar333 (j := (0 : Int32)) (inb_of S333 ⟨by decide, by decide⟩) (g := (mkF m 56 #[.val (.int p0), .val (.int p1), .val (.int p2), .val (.int p3), .val (.int (0 : Int32)), .val (.int (3 : Int32)), .val (.int (p0.toInt8.toInt32)), .val (.int (p1.toInt8.toInt32)), .val (.int (p2.toInt8.toInt32)), .val (.ref b330), .unset, .unset, .unset, .unset] [(.int (p0.toInt8.toInt32)), (.int (0 : Int32)), (.ref b330)])) rfl rfl (hb hby at_56)
      have f334 : Arv Z h333 b330 k330 .byte (3 : Int32) [(.int (nar .byte (p0.toInt8.toInt32))), (.int (0 : Int32)), (.int (0 : Int32))] (.int (0 : Int32)) := Arv.set Ar333 q333 S333 M333 H333 G333 (fits_nar_byte _) W333 0 rfl (Nat.le_of_ble_eq_true rfl)
      have f335 := f331.wr W333
      have f336 := Ea330.wr W333
      have Zs333 : n0 ≤ h333.size := by rw [W333.size]; exact Zs330
      have N333 := Fr.snoc X333 N0 gn_b330
      refine own_by st333 ?_
      show own_Go p.tables e below (T333.setTop (mkF m 57 #[.val (.int p0), .val (.int p1), .val (.int p2), .val (.int p3), .val (.int (0 : Int32)), .val (.int (3 : Int32)), .val (.int (p0.toInt8.toInt32)), .val (.int (p1.toInt8.toInt32)), .val (.int (p2.toInt8.toInt32)), .val (.ref b330), .unset, .unset, .unset, .unset] [])) _
      refine own_by (fun _ kt => XS.iload X333.here hx rfl (hb hby at_57) rfl kt) ?_
      show own_Go p.tables e below (T333.setTop (mkF m 59 #[.val (.int p0), .val (.int p1), .val (.int p2), .val (.int p3), .val (.int (0 : Int32)), .val (.int (3 : Int32)), .val (.int (p0.toInt8.toInt32)), .val (.int (p1.toInt8.toInt32)), .val (.int (p2.toInt8.toInt32)), .val (.ref b330), .unset, .unset, .unset, .unset] [(.int (3 : Int32))])) _
      refine own_by (fun _ kt => XS.iconst X333.here hx rfl (hb hby at_59) kt) ?_
      show own_Go p.tables e below (T333.setTop (mkF m 60 #[.val (.int p0), .val (.int p1), .val (.int p2), .val (.int p3), .val (.int (0 : Int32)), .val (.int (3 : Int32)), .val (.int (p0.toInt8.toInt32)), .val (.int (p1.toInt8.toInt32)), .val (.int (p2.toInt8.toInt32)), .val (.ref b330), .unset, .unset, .unset, .unset] [(.int (1 : Int32)), (.int (3 : Int32))])) _
      refine own_by (fun _ kt => XS.icmpNo X333.here hx rfl (hb hby at_60) rfl (tlt (by decide : (1 : Int32) < (3 : Int32))).2.2.2 kt) ?_
      show own_Go p.tables e below (T333.setTop (mkF m 63 #[.val (.int p0), .val (.int p1), .val (.int p2), .val (.int p3), .val (.int (0 : Int32)), .val (.int (3 : Int32)), .val (.int (p0.toInt8.toInt32)), .val (.int (p1.toInt8.toInt32)), .val (.int (p2.toInt8.toInt32)), .val (.ref b330), .unset, .unset, .unset, .unset] [])) _
      refine own_by (fun _ kt => XS.aload X333.here hx rfl (hb hby at_63) rfl rfl kt) ?_
      show own_Go p.tables e below (T333.setTop (mkF m 65 #[.val (.int p0), .val (.int p1), .val (.int p2), .val (.int p3), .val (.int (0 : Int32)), .val (.int (3 : Int32)), .val (.int (p0.toInt8.toInt32)), .val (.int (p1.toInt8.toInt32)), .val (.int (p2.toInt8.toInt32)), .val (.ref b330), .unset, .unset, .unset, .unset] [(.ref b330)])) _
      refine own_by (fun _ kt => XS.iconst X333.here hx rfl (hb hby at_65) kt) ?_
      show own_Go p.tables e below (T333.setTop (mkF m 66 #[.val (.int p0), .val (.int p1), .val (.int p2), .val (.int p3), .val (.int (0 : Int32)), .val (.int (3 : Int32)), .val (.int (p0.toInt8.toInt32)), .val (.int (p1.toInt8.toInt32)), .val (.int (p2.toInt8.toInt32)), .val (.ref b330), .unset, .unset, .unset, .unset] [(.int (1 : Int32)), (.ref b330)])) _
      refine own_by (fun _ kt => XS.iload X333.here hx rfl (hb hby at_66) rfl kt) ?_
      show own_Go p.tables e below (T333.setTop (mkF m 68 #[.val (.int p0), .val (.int p1), .val (.int p2), .val (.int p3), .val (.int (0 : Int32)), .val (.int (3 : Int32)), .val (.int (p0.toInt8.toInt32)), .val (.int (p1.toInt8.toInt32)), .val (.int (p2.toInt8.toInt32)), .val (.ref b330), .unset, .unset, .unset, .unset] [(.int (p1.toInt8.toInt32)), (.int (1 : Int32)), (.ref b330)])) _
      obtain ⟨cl337, Ar337, q337, S337, M337, H337, G337⟩ := f334
      obtain ⟨T337, h337, X337, e337, W337, st337⟩ := stB X333 hx hZ e333 Ar337 (j := (1 : Int32)) (inb_of S337 ⟨by decide, by decide⟩) (g := (mkF m 68 #[.val (.int p0), .val (.int p1), .val (.int p2), .val (.int p3), .val (.int (0 : Int32)), .val (.int (3 : Int32)), .val (.int (p0.toInt8.toInt32)), .val (.int (p1.toInt8.toInt32)), .val (.int (p2.toInt8.toInt32)), .val (.ref b330), .unset, .unset, .unset, .unset] [(.int (p1.toInt8.toInt32)), (.int (1 : Int32)), (.ref b330)])) rfl rfl (hb hby at_68)
      have f338 : Arv Z h337 b330 k330 .byte (3 : Int32) [(.int (nar .byte (p0.toInt8.toInt32))), (.int (nar .byte (p1.toInt8.toInt32))), (.int (0 : Int32))] (.int (0 : Int32)) := Arv.set Ar337 q337 S337 M337 H337 G337 (fits_nar_byte _) W337 1 rfl (Nat.le_of_ble_eq_true rfl)
      have f339 := f335.wr W337
      have f340 := f336.wr W337
      have Zs337 : n0 ≤ h337.size := by rw [W337.size]; exact Zs333
      have N337 := Fr.snoc X337 N333 gn_b330
      refine own_by st337 ?_
      show own_Go p.tables e below (T337.setTop (mkF m 69 #[.val (.int p0), .val (.int p1), .val (.int p2), .val (.int p3), .val (.int (0 : Int32)), .val (.int (3 : Int32)), .val (.int (p0.toInt8.toInt32)), .val (.int (p1.toInt8.toInt32)), .val (.int (p2.toInt8.toInt32)), .val (.ref b330), .unset, .unset, .unset, .unset] [])) _
      refine own_by (fun _ kt => XS.iload X337.here hx rfl (hb hby at_69) rfl kt) ?_
      show own_Go p.tables e below (T337.setTop (mkF m 71 #[.val (.int p0), .val (.int p1), .val (.int p2), .val (.int p3), .val (.int (0 : Int32)), .val (.int (3 : Int32)), .val (.int (p0.toInt8.toInt32)), .val (.int (p1.toInt8.toInt32)), .val (.int (p2.toInt8.toInt32)), .val (.ref b330), .unset, .unset, .unset, .unset] [(.int (3 : Int32))])) _
      refine own_by (fun _ kt => XS.iconst X337.here hx rfl (hb hby at_71) kt) ?_
      show own_Go p.tables e below (T337.setTop (mkF m 72 #[.val (.int p0), .val (.int p1), .val (.int p2), .val (.int p3), .val (.int (0 : Int32)), .val (.int (3 : Int32)), .val (.int (p0.toInt8.toInt32)), .val (.int (p1.toInt8.toInt32)), .val (.int (p2.toInt8.toInt32)), .val (.ref b330), .unset, .unset, .unset, .unset] [(.int (2 : Int32)), (.int (3 : Int32))])) _
      refine own_by (fun _ kt => XS.icmpNo X337.here hx rfl (hb hby at_72) rfl (tlt (by decide : (2 : Int32) < (3 : Int32))).2.2.2 kt) ?_
      show own_Go p.tables e below (T337.setTop (mkF m 75 #[.val (.int p0), .val (.int p1), .val (.int p2), .val (.int p3), .val (.int (0 : Int32)), .val (.int (3 : Int32)), .val (.int (p0.toInt8.toInt32)), .val (.int (p1.toInt8.toInt32)), .val (.int (p2.toInt8.toInt32)), .val (.ref b330), .unset, .unset, .unset, .unset] [])) _
      refine own_by (fun _ kt => XS.aload X337.here hx rfl (hb hby at_75) rfl rfl kt) ?_
      show own_Go p.tables e below (T337.setTop (mkF m 77 #[.val (.int p0), .val (.int p1), .val (.int p2), .val (.int p3), .val (.int (0 : Int32)), .val (.int (3 : Int32)), .val (.int (p0.toInt8.toInt32)), .val (.int (p1.toInt8.toInt32)), .val (.int (p2.toInt8.toInt32)), .val (.ref b330), .unset, .unset, .unset, .unset] [(.ref b330)])) _
      refine own_by (fun _ kt => XS.iconst X337.here hx rfl (hb hby at_77) kt) ?_
      show own_Go p.tables e below (T337.setTop (mkF m 78 #[.val (.int p0), .val (.int p1), .val (.int p2), .val (.int p3), .val (.int (0 : Int32)), .val (.int (3 : Int32)), .val (.int (p0.toInt8.toInt32)), .val (.int (p1.toInt8.toInt32)), .val (.int (p2.toInt8.toInt32)), .val (.ref b330), .unset, .unset, .unset, .unset] [(.int (2 : Int32)), (.ref b330)])) _
      refine own_by (fun _ kt => XS.iload X337.here hx rfl (hb hby at_78) rfl kt) ?_
      show own_Go p.tables e below (T337.setTop (mkF m 80 #[.val (.int p0), .val (.int p1), .val (.int p2), .val (.int p3), .val (.int (0 : Int32)), .val (.int (3 : Int32)), .val (.int (p0.toInt8.toInt32)), .val (.int (p1.toInt8.toInt32)), .val (.int (p2.toInt8.toInt32)), .val (.ref b330), .unset, .unset, .unset, .unset] [(.int (p2.toInt8.toInt32)), (.int (2 : Int32)), (.ref b330)])) _
      obtain ⟨cl341, Ar341, q341, S341, M341, H341, G341⟩ := f338
      obtain ⟨T341, h341, X341, e341, W341, st341⟩ := stB X337 hx hZ e337 Ar341 (j := (2 : Int32)) (inb_of S341 ⟨by decide, by decide⟩) (g := (mkF m 80 #[.val (.int p0), .val (.int p1), .val (.int p2), .val (.int p3), .val (.int (0 : Int32)), .val (.int (3 : Int32)), .val (.int (p0.toInt8.toInt32)), .val (.int (p1.toInt8.toInt32)), .val (.int (p2.toInt8.toInt32)), .val (.ref b330), .unset, .unset, .unset, .unset] [(.int (p2.toInt8.toInt32)), (.int (2 : Int32)), (.ref b330)])) rfl rfl (hb hby at_80)
      have f342 : Arv Z h341 b330 k330 .byte (3 : Int32) [(.int (nar .byte (p0.toInt8.toInt32))), (.int (nar .byte (p1.toInt8.toInt32))), (.int (nar .byte (p2.toInt8.toInt32)))] (.int (0 : Int32)) := Arv.set Ar341 q341 S341 M341 H341 G341 (fits_nar_byte _) W341 2 rfl (Nat.le_of_ble_eq_true rfl)
      have f343 := f339.wr W341
      have f344 := f340.wr W341
      have Zs341 : n0 ≤ h341.size := by rw [W341.size]; exact Zs337
      have N341 := Fr.snoc X341 N337 gn_b330
      refine own_by st341 ?_
      show own_Go p.tables e below (T341.setTop (mkF m 81 #[.val (.int p0), .val (.int p1), .val (.int p2), .val (.int p3), .val (.int (0 : Int32)), .val (.int (3 : Int32)), .val (.int (p0.toInt8.toInt32)), .val (.int (p1.toInt8.toInt32)), .val (.int (p2.toInt8.toInt32)), .val (.ref b330), .unset, .unset, .unset, .unset] [])) _
      refine own_by (fun _ kt => XS.iconst X341.here hx rfl (hb hby at_81) kt) ?_
      show own_Go p.tables e below (T341.setTop (mkF m 82 #[.val (.int p0), .val (.int p1), .val (.int p2), .val (.int p3), .val (.int (0 : Int32)), .val (.int (3 : Int32)), .val (.int (p0.toInt8.toInt32)), .val (.int (p1.toInt8.toInt32)), .val (.int (p2.toInt8.toInt32)), .val (.ref b330), .unset, .unset, .unset, .unset] [(.int (1 : Int32))])) _
      obtain ⟨T345, h345, k345, X345, e345, E345, A345, Ea345, st345⟩ := newPE X341 hx hZ (hw _ (List.mem_of_getElem? (i := 0) rfl)) e341 (g := (mkF m 82 #[.val (.int p0), .val (.int p1), .val (.int p2), .val (.int p3), .val (.int (0 : Int32)), .val (.int (3 : Int32)), .val (.int (p0.toInt8.toInt32)), .val (.int (p1.toInt8.toInt32)), .val (.int (p2.toInt8.toInt32)), .val (.ref b330), .unset, .unset, .unset, .unset] [(.int (1 : Int32))])) rfl (hb hby at_82) rfl (by decide) (cap := 1) (by decide) (by decide) (by decide) (by decide) (ad := "[B") (by decide)
      obtain ⟨b345, g345⟩ : ∃ z, z = h341.size := ⟨_, rfl⟩
      rw [← g345] at A345 Ea345 st345
      have gn_b345 : n0 ≤ b345 := Nat.le_trans Zs341 (Nat.le_of_eq g345.symm)
      have ne_b330_b345 : b330 ≠ b345 := Nat.ne_of_lt (Nat.lt_of_lt_of_le f342.lt (Nat.le_of_eq g345.symm))
      have f346 := f343.ext E345
      have f347 := f342.ext E345
      have f348 := f344.ext E345
      have Zs345 : n0 ≤ h345.size := Nat.le_trans Zs341 E345.1
      have f349 : Arv Z h345 b345 k345 .byte (1 : Int32) [(.int (0 : Int32))] (.int (0 : Int32)) := (Arv.new A345 (by decide)).pad (pad_rep [] (.int (0 : Int32)) 1)
      refine own_by st345 ?_
      show own_Go p.tables e below (T345.setTop (mkF m 84 #[.val (.int p0), .val (.int p1), .val (.int p2), .val (.int p3), .val (.int (0 : Int32)), .val (.int (3 : Int32)), .val (.int (p0.toInt8.toInt32)), .val (.int (p1.toInt8.toInt32)), .val (.int (p2.toInt8.toInt32)), .val (.ref b330), .unset, .unset, .unset, .unset] [(.ref b345)])) _
      refine own_by (fun _ kt => XS.astore X345.here hx rfl (hb hby at_84) rfl rfl (l' := #[.val (.int p0), .val (.int p1), .val (.int p2), .val (.int p3), .val (.int (0 : Int32)), .val (.int (3 : Int32)), .val (.int (p0.toInt8.toInt32)), .val (.int (p1.toInt8.toInt32)), .val (.int (p2.toInt8.toInt32)), .val (.ref b330), .val (.ref b345), .unset, .unset, .unset]) rfl kt) ?_
      show own_Go p.tables e below (T345.setTop (mkF m 86 #[.val (.int p0), .val (.int p1), .val (.int p2), .val (.int p3), .val (.int (0 : Int32)), .val (.int (3 : Int32)), .val (.int (p0.toInt8.toInt32)), .val (.int (p1.toInt8.toInt32)), .val (.int (p2.toInt8.toInt32)), .val (.ref b330), .val (.ref b345), .unset, .unset, .unset] [])) _
      refine own_by (fun _ kt => XS.aload X345.here hx rfl (hb hby at_86) rfl rfl kt) ?_
      show own_Go p.tables e below (T345.setTop (mkF m 88 #[.val (.int p0), .val (.int p1), .val (.int p2), .val (.int p3), .val (.int (0 : Int32)), .val (.int (3 : Int32)), .val (.int (p0.toInt8.toInt32)), .val (.int (p1.toInt8.toInt32)), .val (.int (p2.toInt8.toInt32)), .val (.ref b330), .val (.ref b345), .unset, .unset, .unset] [(.ref b345)])) _
      refine own_by (fun _ kt => XS.iconst X345.here hx rfl (hb hby at_88) kt) ?_
      show own_Go p.tables e below (T345.setTop (mkF m 89 #[.val (.int p0), .val (.int p1), .val (.int p2), .val (.int p3), .val (.int (0 : Int32)), .val (.int (3 : Int32)), .val (.int (p0.toInt8.toInt32)), .val (.int (p1.toInt8.toInt32)), .val (.int (p2.toInt8.toInt32)), .val (.ref b330), .val (.ref b345), .unset, .unset, .unset] [(.int (0 : Int32)), (.ref b345)])) _
      refine own_by (fun _ kt => XS.iloadN X345.here hx rfl (hb hby at_89) rfl kt) ?_
      show own_Go p.tables e below (T345.setTop (mkF m 90 #[.val (.int p0), .val (.int p1), .val (.int p2), .val (.int p3), .val (.int (0 : Int32)), .val (.int (3 : Int32)), .val (.int (p0.toInt8.toInt32)), .val (.int (p1.toInt8.toInt32)), .val (.int (p2.toInt8.toInt32)), .val (.ref b330), .val (.ref b345), .unset, .unset, .unset] [(.int p0), (.int (0 : Int32)), (.ref b345)])) _
      refine own_by (fun _ kt => XS.bipush X345.here hx rfl (hb hby at_90) kt) ?_
      show own_Go p.tables e below (T345.setTop (mkF m 92 #[.val (.int p0), .val (.int p1), .val (.int p2), .val (.int p3), .val (.int (0 : Int32)), .val (.int (3 : Int32)), .val (.int (p0.toInt8.toInt32)), .val (.int (p1.toInt8.toInt32)), .val (.int (p2.toInt8.toInt32)), .val (.ref b330), .val (.ref b345), .unset, .unset, .unset] [(.int (8 : Int32)), (.int p0), (.int (0 : Int32)), (.ref b345)])) _
      refine own_by (fun _ kt => XS.iushr X345.here hx rfl (hb hby at_92) rfl kt) ?_
      show own_Go p.tables e below (T345.setTop (mkF m 93 #[.val (.int p0), .val (.int p1), .val (.int p2), .val (.int p3), .val (.int (0 : Int32)), .val (.int (3 : Int32)), .val (.int (p0.toInt8.toInt32)), .val (.int (p1.toInt8.toInt32)), .val (.int (p2.toInt8.toInt32)), .val (.ref b330), .val (.ref b345), .unset, .unset, .unset] [(.int ((p0.toUInt32 >>> ((8 : Int32) &&& 31).toUInt32).toInt32)), (.int (0 : Int32)), (.ref b345)])) _
      refine own_by (fun _ kt => XS.i2b X345.here hx rfl (hb hby at_93) rfl kt) ?_
      show own_Go p.tables e below (T345.setTop (mkF m 94 #[.val (.int p0), .val (.int p1), .val (.int p2), .val (.int p3), .val (.int (0 : Int32)), .val (.int (3 : Int32)), .val (.int (p0.toInt8.toInt32)), .val (.int (p1.toInt8.toInt32)), .val (.int (p2.toInt8.toInt32)), .val (.ref b330), .val (.ref b345), .unset, .unset, .unset] [(.int (((p0.toUInt32 >>> ((8 : Int32) &&& 31).toUInt32).toInt32).toInt8.toInt32)), (.int (0 : Int32)), (.ref b345)])) _
      obtain ⟨cl350, Ar350, q350, S350, M350, H350, G350⟩ := f349
      obtain ⟨T350, h350, X350, e350, W350, st350⟩ := stB X345 hx hZ e345 Ar350 (j := (0 : Int32)) (inb_of S350 ⟨by decide, by decide⟩) (g := (mkF m 94 #[.val (.int p0), .val (.int p1), .val (.int p2), .val (.int p3), .val (.int (0 : Int32)), .val (.int (3 : Int32)), .val (.int (p0.toInt8.toInt32)), .val (.int (p1.toInt8.toInt32)), .val (.int (p2.toInt8.toInt32)), .val (.ref b330), .val (.ref b345), .unset, .unset, .unset] [(.int (((p0.toUInt32 >>> ((8 : Int32) &&& 31).toUInt32).toInt32).toInt8.toInt32)), (.int (0 : Int32)), (.ref b345)])) rfl rfl (hb hby at_94)
      have f351 : Arv Z h350 b345 k345 .byte (1 : Int32) [(.int (nar .byte (((p0.toUInt32 >>> ((8 : Int32) &&& 31).toUInt32).toInt32).toInt8.toInt32)))] (.int (0 : Int32)) := Arv.set Ar350 q350 S350 M350 H350 G350 (fits_nar_byte _) W350 0 rfl (Nat.le_of_ble_eq_true rfl)
      have f352 := f346.wr W350
      have f353 := f347.other W350 ne_b330_b345
      have f354 := f348.wr W350
      have f355 := Ea345.wr W350
      have Zs350 : n0 ≤ h350.size := by rw [W350.size]; exact Zs345
      have N350 := Fr.snoc X350 N341 gn_b345
      refine own_by st350 ?_
      show own_Go p.tables e below (T350.setTop (mkF m 95 #[.val (.int p0), .val (.int p1), .val (.int p2), .val (.int p3), .val (.int (0 : Int32)), .val (.int (3 : Int32)), .val (.int (p0.toInt8.toInt32)), .val (.int (p1.toInt8.toInt32)), .val (.int (p2.toInt8.toInt32)), .val (.ref b330), .val (.ref b345), .unset, .unset, .unset] [])) _
      obtain ⟨T356, h356, X356, e356, E356, A356, D356, -, st356⟩ := newO X350 hx hZ hown (hw _ (List.mem_of_getElem? (i := 1) rfl)) (hw _ (List.mem_of_getElem? (i := 2) rfl)) (hw _ (List.mem_of_getElem? (i := 3) rfl)) e350 (g := (mkF m 95 #[.val (.int p0), .val (.int p1), .val (.int p2), .val (.int p3), .val (.int (0 : Int32)), .val (.int (3 : Int32)), .val (.int (p0.toInt8.toInt32)), .val (.int (p1.toInt8.toInt32)), .val (.int (p2.toInt8.toInt32)), .val (.ref b330), .val (.ref b345), .unset, .unset, .unset] [])) rfl (hb hby at_95) (by decide) (by decide)
      obtain ⟨b356, g356⟩ : ∃ z, z = h350.size := ⟨_, rfl⟩
      rw [← g356] at A356 D356 st356
      have gn_b356 : n0 ≤ b356 := Nat.le_trans Zs350 (Nat.le_of_eq g356.symm)
      have ne_b330_b356 : b330 ≠ b356 := Nat.ne_of_lt (Nat.lt_of_lt_of_le f353.lt (Nat.le_of_eq g356.symm))
      have ne_b345_b356 : b345 ≠ b356 := Nat.ne_of_lt (Nat.lt_of_lt_of_le f351.lt (Nat.le_of_eq g356.symm))
      have f357 := f352.ext E356
      have f358 := f353.ext E356
      have f359 := f354.ext E356
      have f360 := f351.ext E356
      have f361 := f355.ext E356
      have Zs356 : n0 ≤ h356.size := Nat.le_trans Zs350 E356.1
      have f362 : Fld Z h356 b356 "com/example/relampago/relampago/lcp/Call" "method" "Ljava/lang/String;" .null := D356 (Or.inr (hw _ (List.mem_of_getElem? (i := 48) rfl))) (ty := (.object "java/lang/String")) (by decide)
      have f363 : Fld Z h356 b356 "com/example/relampago/relampago/lcp/Call" "request" "[B" .null := D356 (Or.inr (hw _ (List.mem_of_getElem? (i := 50) rfl))) (ty := (.array .byte)) (by decide)
      have f364 : Fld Z h356 b356 "com/example/relampago/relampago/lcp/Call" "requestContentType" "Ljava/lang/String;" .null := D356 (Or.inr (hw _ (List.mem_of_getElem? (i := 52) rfl))) (ty := (.object "java/lang/String")) (by decide)
      have f365 : Fld Z h356 b356 "com/example/relampago/relampago/lcp/Call" "params" "[B" .null := D356 (Or.inr (hw _ (List.mem_of_getElem? (i := 54) rfl))) (ty := (.array .byte)) (by decide)
      refine own_by st356 ?_
      show own_Go p.tables e below (T356.setTop (mkF m 98 #[.val (.int p0), .val (.int p1), .val (.int p2), .val (.int p3), .val (.int (0 : Int32)), .val (.int (3 : Int32)), .val (.int (p0.toInt8.toInt32)), .val (.int (p1.toInt8.toInt32)), .val (.int (p2.toInt8.toInt32)), .val (.ref b330), .val (.ref b345), .unset, .unset, .unset] [(.ref b356)])) _
      refine own_by (fun _ kt => XS.dup X356.here hx rfl (hb hby at_98) rfl rfl kt) ?_
      show own_Go p.tables e below (T356.setTop (mkF m 99 #[.val (.int p0), .val (.int p1), .val (.int p2), .val (.int p3), .val (.int (0 : Int32)), .val (.int (3 : Int32)), .val (.int (p0.toInt8.toInt32)), .val (.int (p1.toInt8.toInt32)), .val (.int (p2.toInt8.toInt32)), .val (.ref b330), .val (.ref b345), .unset, .unset, .unset] [(.ref b356), (.ref b356)])) _
      refine own_by (fun _ kt => XS.iloadN X356.here hx rfl (hb hby at_99) rfl kt) ?_
      show own_Go p.tables e below (T356.setTop (mkF m 100 #[.val (.int p0), .val (.int p1), .val (.int p2), .val (.int p3), .val (.int (0 : Int32)), .val (.int (3 : Int32)), .val (.int (p0.toInt8.toInt32)), .val (.int (p1.toInt8.toInt32)), .val (.int (p2.toInt8.toInt32)), .val (.ref b330), .val (.ref b345), .unset, .unset, .unset] [(.int p1), (.ref b356), (.ref b356)])) _
      refine own_by (fun _ kt => XS.sipush X356.here hx rfl (hb hby at_100) kt) ?_
      show own_Go p.tables e below (T356.setTop (mkF m 103 #[.val (.int p0), .val (.int p1), .val (.int p2), .val (.int p3), .val (.int (0 : Int32)), .val (.int (3 : Int32)), .val (.int (p0.toInt8.toInt32)), .val (.int (p1.toInt8.toInt32)), .val (.int (p2.toInt8.toInt32)), .val (.ref b330), .val (.ref b345), .unset, .unset, .unset] [(.int (255 : Int32)), (.int p1), (.ref b356), (.ref b356)])) _
      refine own_by (fun _ kt => XS.iand X356.here hx rfl (hb hby at_103) rfl kt) ?_
      show own_Go p.tables e below (T356.setTop (mkF m 104 #[.val (.int p0), .val (.int p1), .val (.int p2), .val (.int p3), .val (.int (0 : Int32)), .val (.int (3 : Int32)), .val (.int (p0.toInt8.toInt32)), .val (.int (p1.toInt8.toInt32)), .val (.int (p2.toInt8.toInt32)), .val (.ref b330), .val (.ref b345), .unset, .unset, .unset] [(.int (p1 &&& (255 : Int32))), (.ref b356), (.ref b356)])) _
      refine own_by (fun _ kt => XS.i2c X356.here hx rfl (hb hby at_104) rfl kt) ?_
      show own_Go p.tables e below (T356.setTop (mkF m 105 #[.val (.int p0), .val (.int p1), .val (.int p2), .val (.int p3), .val (.int (0 : Int32)), .val (.int (3 : Int32)), .val (.int (p0.toInt8.toInt32)), .val (.int (p1.toInt8.toInt32)), .val (.int (p2.toInt8.toInt32)), .val (.ref b330), .val (.ref b345), .unset, .unset, .unset] [(.int ((p1 &&& (255 : Int32)).toUInt32.toUInt16.toUInt32.toInt32)), (.ref b356), (.ref b356)])) _
      obtain ⟨_, _, ⟨T366, L366, k366, n366⟩, -, X366, ⟨Lc366, hQ366, l366, y366, z366⟩, st366⟩ := Jvm.LawKit.callS X356 hx (y := (⟨"java/lang/String", "valueOf", "(C)Ljava/lang/String;"⟩ : MethodName)) hown (mvT hZ (hw _ (List.mem_of_getElem? (i := 4) rfl))) (mvT hZ (hw _ (List.mem_of_getElem? (i := 5) rfl))) (mvT hZ (hw _ (List.mem_of_getElem? (i := 6) rfl))) (mvT hZ (hw _ (List.mem_of_getElem? (i := 7) rfl))) (by decide) (backOf (W := 2) (rm_valueOf l Z a0 hw [] ((p1 &&& (255 : Int32)).toUInt32.toUInt16.toUInt32.toInt32) (cs) h356 n0 Zs356 f357 hcs (own_chr _)) hZ (hw _ (List.mem_of_getElem? (i := 7) rfl)) (hw _ (List.mem_of_getElem? (i := 6) rfl)) (by decide) (by decide)) (g := (mkF m 105 #[.val (.int p0), .val (.int p1), .val (.int p2), .val (.int p3), .val (.int (0 : Int32)), .val (.int (3 : Int32)), .val (.int (p0.toInt8.toInt32)), .val (.int (p1.toInt8.toInt32)), .val (.int (p2.toInt8.toInt32)), .val (.ref b330), .val (.ref b345), .unset, .unset, .unset] [(.int ((p1 &&& (255 : Int32)).toUInt32.toUInt16.toUInt32.toInt32)), (.ref b356), (.ref b356)])) rfl (by rw [hml]; rfl) (argsL := [(.int ((p1 &&& (255 : Int32)).toUInt32.toUInt16.toUInt32.toInt32))]) (rest := [(.ref b356), (.ref b356)]) (lenOf pd_4 rfl) rfl (by show 2 * 0 + _ ≤ _; exact Nat.le_of_eq rfl) (hb hby at_105) (fun _ _ => ⟨rfl, e356, (by decide : 3 + 2 ≤ _), (by decide : 8 + 5 ≤ _)⟩)
      dsimp only [Pt.U, Pt.locs, Pt.cells, Pt.slots] at X366 l366 y366 z366 st366 hQ366
      subst l366 y366 z366
      obtain ⟨b366, rfl, Nq366, K366, gn_b366, szq_b366⟩ := hQ366
      have ne_b330_b366 : b330 ≠ b366 := Nat.ne_of_lt (Nat.lt_of_lt_of_le f358.lt szq_b366)
      have ne_b345_b366 : b345 ≠ b366 := Nat.ne_of_lt (Nat.lt_of_lt_of_le f360.lt szq_b366)
      have ne_b356_b366 : b356 ≠ b366 := Nat.ne_of_lt (Nat.lt_of_lt_of_le A356.lt szq_b366)
      have f367 := own_sta_keep f357 K366
      have f368 := f358.keep K366 List.not_mem_nil
      have f369 := f359.keep K366
      have f370 := f360.keep K366 List.not_mem_nil
      have f371 := f361.keep K366
      have f372 := A356.keep K366
      have f373 := f362.keep K366 List.not_mem_nil
      have f374 := f363.keep K366 List.not_mem_nil
      have f375 := f364.keep K366 List.not_mem_nil
      have f376 := f365.keep K366 List.not_mem_nil
      have Zs366 : n0 ≤ T366.heap.size := Nat.le_trans Zs356 K366.1
      have N366 := Fr.app N350 Nq366
      refine own_by (st366) ?_
      show own_Go p.tables e below (T366.setTop (mkF m 108 #[.val (.int p0), .val (.int p1), .val (.int p2), .val (.int p3), .val (.int (0 : Int32)), .val (.int (3 : Int32)), .val (.int (p0.toInt8.toInt32)), .val (.int (p1.toInt8.toInt32)), .val (.int (p2.toInt8.toInt32)), .val (.ref b330), .val (.ref b345), .unset, .unset, .unset] [(.ref b366), (.ref b356), (.ref b356)])) _
      refine own_by (fun _ kt => XS.aload X366.here hx rfl (hb hby at_108) rfl rfl kt) ?_
      show own_Go p.tables e below (T366.setTop (mkF m 110 #[.val (.int p0), .val (.int p1), .val (.int p2), .val (.int p3), .val (.int (0 : Int32)), .val (.int (3 : Int32)), .val (.int (p0.toInt8.toInt32)), .val (.int (p1.toInt8.toInt32)), .val (.int (p2.toInt8.toInt32)), .val (.ref b330), .val (.ref b345), .unset, .unset, .unset] [(.ref b345), (.ref b366), (.ref b356), (.ref b356)])) _
      refine own_by (fun _ kt => XS.iloadN X366.here hx rfl (hb hby at_110) rfl kt) ?_
      show own_Go p.tables e below (T366.setTop (mkF m 111 #[.val (.int p0), .val (.int p1), .val (.int p2), .val (.int p3), .val (.int (0 : Int32)), .val (.int (3 : Int32)), .val (.int (p0.toInt8.toInt32)), .val (.int (p1.toInt8.toInt32)), .val (.int (p2.toInt8.toInt32)), .val (.ref b330), .val (.ref b345), .unset, .unset, .unset] [(.int p2), (.ref b345), (.ref b366), (.ref b356), (.ref b356)])) _
      refine own_by (fun _ kt => XS.sipush X366.here hx rfl (hb hby at_111) kt) ?_
      show own_Go p.tables e below (T366.setTop (mkF m 114 #[.val (.int p0), .val (.int p1), .val (.int p2), .val (.int p3), .val (.int (0 : Int32)), .val (.int (3 : Int32)), .val (.int (p0.toInt8.toInt32)), .val (.int (p1.toInt8.toInt32)), .val (.int (p2.toInt8.toInt32)), .val (.ref b330), .val (.ref b345), .unset, .unset, .unset] [(.int (255 : Int32)), (.int p2), (.ref b345), (.ref b366), (.ref b356), (.ref b356)])) _
      refine own_by (fun _ kt => XS.iand X366.here hx rfl (hb hby at_114) rfl kt) ?_
      show own_Go p.tables e below (T366.setTop (mkF m 115 #[.val (.int p0), .val (.int p1), .val (.int p2), .val (.int p3), .val (.int (0 : Int32)), .val (.int (3 : Int32)), .val (.int (p0.toInt8.toInt32)), .val (.int (p1.toInt8.toInt32)), .val (.int (p2.toInt8.toInt32)), .val (.ref b330), .val (.ref b345), .unset, .unset, .unset] [(.int (p2 &&& (255 : Int32))), (.ref b345), (.ref b366), (.ref b356), (.ref b356)])) _
      refine own_by (fun _ kt => XS.i2c X366.here hx rfl (hb hby at_115) rfl kt) ?_
      show own_Go p.tables e below (T366.setTop (mkF m 116 #[.val (.int p0), .val (.int p1), .val (.int p2), .val (.int p3), .val (.int (0 : Int32)), .val (.int (3 : Int32)), .val (.int (p0.toInt8.toInt32)), .val (.int (p1.toInt8.toInt32)), .val (.int (p2.toInt8.toInt32)), .val (.ref b330), .val (.ref b345), .unset, .unset, .unset] [(.int ((p2 &&& (255 : Int32)).toUInt32.toUInt16.toUInt32.toInt32)), (.ref b345), (.ref b366), (.ref b356), (.ref b356)])) _
      obtain ⟨_, _, ⟨T377, L377, k377, n377⟩, -, X377, ⟨Lc377, hQ377, l377, y377, z377⟩, st377⟩ := Jvm.LawKit.callS X366 hx (y := (⟨"java/lang/String", "valueOf", "(C)Ljava/lang/String;"⟩ : MethodName)) hown (mvT hZ (hw _ (List.mem_of_getElem? (i := 4) rfl))) (mvT hZ (hw _ (List.mem_of_getElem? (i := 5) rfl))) (mvT hZ (hw _ (List.mem_of_getElem? (i := 6) rfl))) (mvT hZ (hw _ (List.mem_of_getElem? (i := 7) rfl))) (by decide) (backOf (W := 4) (rm_valueOf l Z a0 hw [] ((p2 &&& (255 : Int32)).toUInt32.toUInt16.toUInt32.toInt32) (cs) T366.heap n0 Zs366 f367 hcs (own_chr _)) hZ (hw _ (List.mem_of_getElem? (i := 7) rfl)) (hw _ (List.mem_of_getElem? (i := 6) rfl)) (by decide) (by decide)) (g := (mkF m 116 #[.val (.int p0), .val (.int p1), .val (.int p2), .val (.int p3), .val (.int (0 : Int32)), .val (.int (3 : Int32)), .val (.int (p0.toInt8.toInt32)), .val (.int (p1.toInt8.toInt32)), .val (.int (p2.toInt8.toInt32)), .val (.ref b330), .val (.ref b345), .unset, .unset, .unset] [(.int ((p2 &&& (255 : Int32)).toUInt32.toUInt16.toUInt32.toInt32)), (.ref b345), (.ref b366), (.ref b356), (.ref b356)])) rfl (by rw [hml]; rfl) (argsL := [(.int ((p2 &&& (255 : Int32)).toUInt32.toUInt16.toUInt32.toInt32))]) (rest := [(.ref b345), (.ref b366), (.ref b356), (.ref b356)]) (lenOf pd_4 rfl) rfl (by show 2 * 0 + _ ≤ _; exact Nat.le_of_eq rfl) (hb hby at_116) (fun _ _ => ⟨rfl, rfl, (by decide : 5 + 2 ≤ _), (by decide : 13 + 5 ≤ _)⟩)
      dsimp only [Pt.U, Pt.locs, Pt.cells, Pt.slots] at X377 l377 y377 z377 st377 hQ377
      subst l377 y377 z377
      obtain ⟨b377, rfl, Nq377, K377, gn_b377, szq_b377⟩ := hQ377
      have ne_b330_b377 : b330 ≠ b377 := Nat.ne_of_lt (Nat.lt_of_lt_of_le f368.lt szq_b377)
      have ne_b345_b377 : b345 ≠ b377 := Nat.ne_of_lt (Nat.lt_of_lt_of_le f370.lt szq_b377)
      have ne_b356_b377 : b356 ≠ b377 := Nat.ne_of_lt (Nat.lt_of_lt_of_le f372.lt szq_b377)
      have f378 := own_sta_keep f367 K377
      have f379 := f368.keep K377 List.not_mem_nil
      have f380 := f369.keep K377
      have f381 := f370.keep K377 List.not_mem_nil
      have f382 := f371.keep K377
      have f383 := f372.keep K377
      have f384 := f373.keep K377 List.not_mem_nil
      have f385 := f374.keep K377 List.not_mem_nil
      have f386 := f375.keep K377 List.not_mem_nil
      have f387 := f376.keep K377 List.not_mem_nil
      have Zs377 : n0 ≤ T377.heap.size := Nat.le_trans Zs366 K377.1
      have N377 := Fr.app N366 Nq377
      refine own_by (st377) ?_
      show own_Go p.tables e below (T377.setTop (mkF m 119 #[.val (.int p0), .val (.int p1), .val (.int p2), .val (.int p3), .val (.int (0 : Int32)), .val (.int (3 : Int32)), .val (.int (p0.toInt8.toInt32)), .val (.int (p1.toInt8.toInt32)), .val (.int (p2.toInt8.toInt32)), .val (.ref b330), .val (.ref b345), .unset, .unset, .unset] [(.ref b377), (.ref b345), (.ref b366), (.ref b356), (.ref b356)])) _
      refine own_by (fun _ kt => XS.aload X377.here hx rfl (hb hby at_119) rfl rfl kt) ?_
      show own_Go p.tables e below (T377.setTop (mkF m 121 #[.val (.int p0), .val (.int p1), .val (.int p2), .val (.int p3), .val (.int (0 : Int32)), .val (.int (3 : Int32)), .val (.int (p0.toInt8.toInt32)), .val (.int (p1.toInt8.toInt32)), .val (.int (p2.toInt8.toInt32)), .val (.ref b330), .val (.ref b345), .unset, .unset, .unset] [(.ref b330), (.ref b377), (.ref b345), (.ref b366), (.ref b356), (.ref b356)])) _
      obtain ⟨_, _, ⟨T388, L388, k388, n388⟩, -, X388, ⟨Lc388, hQ388, l388, y388, z388⟩, st388⟩ := X377.specialBack hx (y := (⟨"com/example/relampago/relampago/lcp/Call", "<init>", "(Ljava/lang/String;[BLjava/lang/String;[B)V"⟩ : MethodName)) rfl hown (mvT hZ (hw _ (List.mem_of_getElem? (i := 29) rfl))) (mvT hZ (hw _ (List.mem_of_getElem? (i := 30) rfl))) (mvT hZ (hw _ (List.mem_of_getElem? (i := 31) rfl))) (by decide) (backOf (W := 1) (rm_init1 l Z a0 hw [] b356 b366 b345 b377 b330 (k345) ((nar .byte (((p0.toUInt32 >>> ((8 : Int32) &&& 31).toUInt32).toInt32).toInt8.toInt32))) (k330) ([(.int (nar .byte (p0.toInt8.toInt32))), (.int (nar .byte (p1.toInt8.toInt32))), (.int (nar .byte (p2.toInt8.toInt32)))]) ((3 : Int32)) T377.heap n0 Zs377 f384 f385 f386 f387 f383 gn_b356 f381 f382 ne_b345_b356 f379 f380 ne_b330_b356 (by decide)) hZ (hw _ (List.mem_of_getElem? (i := 31) rfl)) (hw _ (List.mem_of_getElem? (i := 3) rfl)) (by decide) (by decide)) (g := (mkF m 121 #[.val (.int p0), .val (.int p1), .val (.int p2), .val (.int p3), .val (.int (0 : Int32)), .val (.int (3 : Int32)), .val (.int (p0.toInt8.toInt32)), .val (.int (p1.toInt8.toInt32)), .val (.int (p2.toInt8.toInt32)), .val (.ref b330), .val (.ref b345), .unset, .unset, .unset] [(.ref b330), (.ref b377), (.ref b345), (.ref b366), (.ref b356), (.ref b356)])) rfl (by rw [hml]; rfl) (Steps.refl _) (a := b356) (argsL := [(.ref b366), (.ref b345), (.ref b377), (.ref b330)]) (rest := [(.ref b356)]) (lenOf pd_5 rfl) rfl (by show 2 * 0 + _ ≤ _; exact Nat.le_of_eq rfl) (hb hby at_121) (fun _ _ => ⟨rfl, rfl, (by decide : 7 + 2 ≤ _), (by decide : 18 + 4 ≤ _)⟩)
      dsimp only [Pt.U, Pt.locs, Pt.cells, Pt.slots] at X388 l388 y388 z388 st388 hQ388
      subst l388 y388 z388
      obtain ⟨b388, rfl, Nq388, K388, gn_b388, szq_b388, f388_0, f388_1, f388_2, f388_3⟩ := hQ388
      have ne_b330_b388 : b330 ≠ b388 := Nat.ne_of_lt (Nat.lt_of_lt_of_le f379.lt szq_b388)
      have ne_b345_b388 : b345 ≠ b388 := Nat.ne_of_lt (Nat.lt_of_lt_of_le f381.lt szq_b388)
      have ne_b356_b388 : b356 ≠ b388 := Nat.ne_of_lt (Nat.lt_of_lt_of_le f383.lt szq_b388)
      have f389 := f379.keep K388 (own_nin ne_b330_b356)
      have f390 := f380.keep K388
      have f391 := f381.keep K388 (own_nin ne_b345_b356)
      have f392 := f382.keep K388
      have f393 := f383.keep K388
      have Zs388 : n0 ≤ T388.heap.size := Nat.le_trans Zs377 K388.1
      have N388 := Fr.app N377 Nq388
      refine own_by (fun _ kt => st388.trans kt) ?_
      show own_Go p.tables e below (T388.setTop (mkF m 124 #[.val (.int p0), .val (.int p1), .val (.int p2), .val (.int p3), .val (.int (0 : Int32)), .val (.int (3 : Int32)), .val (.int (p0.toInt8.toInt32)), .val (.int (p1.toInt8.toInt32)), .val (.int (p2.toInt8.toInt32)), .val (.ref b330), .val (.ref b345), .unset, .unset, .unset] [(.ref b356)])) _
      refine own_by (fun _ kt => XS.astore X388.here hx rfl (hb hby at_124) rfl rfl (l' := #[.val (.int p0), .val (.int p1), .val (.int p2), .val (.int p3), .val (.int (0 : Int32)), .val (.int (3 : Int32)), .val (.int (p0.toInt8.toInt32)), .val (.int (p1.toInt8.toInt32)), .val (.int (p2.toInt8.toInt32)), .val (.ref b330), .val (.ref b345), .val (.ref b356), .unset, .unset]) rfl kt) ?_
      show own_Go p.tables e below (T388.setTop (mkF m 126 #[.val (.int p0), .val (.int p1), .val (.int p2), .val (.int p3), .val (.int (0 : Int32)), .val (.int (3 : Int32)), .val (.int (p0.toInt8.toInt32)), .val (.int (p1.toInt8.toInt32)), .val (.int (p2.toInt8.toInt32)), .val (.ref b330), .val (.ref b345), .val (.ref b356), .unset, .unset] [])) _
      refine own_by (fun _ kt => XS.iload X388.here hx rfl (hb hby at_126) rfl kt) ?_
      show own_Go p.tables e below (T388.setTop (mkF m 128 #[.val (.int p0), .val (.int p1), .val (.int p2), .val (.int p3), .val (.int (0 : Int32)), .val (.int (3 : Int32)), .val (.int (p0.toInt8.toInt32)), .val (.int (p1.toInt8.toInt32)), .val (.int (p2.toInt8.toInt32)), .val (.ref b330), .val (.ref b345), .val (.ref b356), .unset, .unset] [(.int (0 : Int32))])) _
      refine own_by (fun _ kt => XS.ifNo X388.here hx rfl (hb hby at_128) rfl ((if0 _ _).trans (teq (by decide : (0 : Int32) = (0 : Int32))).2) kt) ?_
      show own_Go p.tables e below (T388.setTop (mkF m 131 #[.val (.int p0), .val (.int p1), .val (.int p2), .val (.int p3), .val (.int (0 : Int32)), .val (.int (3 : Int32)), .val (.int (p0.toInt8.toInt32)), .val (.int (p1.toInt8.toInt32)), .val (.int (p2.toInt8.toInt32)), .val (.ref b330), .val (.ref b345), .val (.ref b356), .unset, .unset] [])) _
      refine own_by (fun _ kt => XS.aload X388.here hx rfl (hb hby at_131) rfl rfl kt) ?_
      show own_Go p.tables e below (T388.setTop (mkF m 133 #[.val (.int p0), .val (.int p1), .val (.int p2), .val (.int p3), .val (.int (0 : Int32)), .val (.int (3 : Int32)), .val (.int (p0.toInt8.toInt32)), .val (.int (p1.toInt8.toInt32)), .val (.int (p2.toInt8.toInt32)), .val (.ref b330), .val (.ref b345), .val (.ref b356), .unset, .unset] [(.ref b330)])) _
      refine own_by (fun _ kt => XS.iload X388.here hx rfl (hb hby at_133) rfl kt) ?_
      show own_Go p.tables e below (T388.setTop (mkF m 135 #[.val (.int p0), .val (.int p1), .val (.int p2), .val (.int p3), .val (.int (0 : Int32)), .val (.int (3 : Int32)), .val (.int (p0.toInt8.toInt32)), .val (.int (p1.toInt8.toInt32)), .val (.int (p2.toInt8.toInt32)), .val (.ref b330), .val (.ref b345), .val (.ref b356), .unset, .unset] [(.int (3 : Int32)), (.ref b330)])) _
      obtain ⟨_, _, ⟨T394, L394, k394, n394⟩, -, X394, ⟨Lc394, hQ394, l394, y394, z394⟩, st394⟩ := Jvm.LawKit.callS X388 hx (y := (⟨"com/example/relampago/relampago/lcp/CallParamsPinLaw", "bump", "([BI)V"⟩ : MethodName)) hown (mvT hZ (hw _ (List.mem_of_getElem? (i := 55) rfl))) (mvT hZ (hw _ (List.mem_of_getElem? (i := 56) rfl))) (mvT hZ (hw _ (List.mem_of_getElem? (i := 57) rfl))) (mvT hZ (hw _ (List.mem_of_getElem? (i := 58) rfl))) (by decide) (backOf (W := 0) (rm_bump3 l Z a0 hw [] b330 (k330) ((nar .byte (p0.toInt8.toInt32))) ((nar .byte (p1.toInt8.toInt32))) ((nar .byte (p2.toInt8.toInt32))) T388.heap n0 Zs388 f389 gn_b330) hZ (hw _ (List.mem_of_getElem? (i := 58) rfl)) (hw _ (List.mem_of_getElem? (i := 57) rfl)) (by decide) (by decide)) (g := (mkF m 135 #[.val (.int p0), .val (.int p1), .val (.int p2), .val (.int p3), .val (.int (0 : Int32)), .val (.int (3 : Int32)), .val (.int (p0.toInt8.toInt32)), .val (.int (p1.toInt8.toInt32)), .val (.int (p2.toInt8.toInt32)), .val (.ref b330), .val (.ref b345), .val (.ref b356), .unset, .unset] [(.int (3 : Int32)), (.ref b330)])) rfl (by rw [hml]; rfl) (argsL := [(.ref b330), (.int (3 : Int32))]) (rest := []) (lenOf pd_7 rfl) rfl (by show 2 * 0 + _ ≤ _; exact Nat.le_of_eq rfl) (hb hby at_135) (fun _ _ => ⟨rfl, rfl, (by decide : 9 + 0 ≤ _), (by decide : 22 + 0 ≤ _)⟩)
      dsimp only [Pt.U, Pt.locs, Pt.cells, Pt.slots] at X394 l394 y394 z394 st394 hQ394
      subst l394 y394 z394
      obtain ⟨rfl, Nq394, K394, f394_0⟩ := hQ394
      have f395 := f390.keep K394
      have f396 := f391.keep K394 (own_nin (Ne.symm ne_b330_b345))
      have f397 := f392.keep K394
      have f398 := f388_0.keep K394
      have f399 := f388_1.keep K394 (own_nin (Ne.symm ne_b330_b356))
      have f400 := f388_2.keep K394 (own_nin (Ne.symm ne_b330_b388))
      have f401 := f388_3.keep K394
      have Zs394 : n0 ≤ T394.heap.size := Nat.le_trans Zs388 K394.1
      have N394 := Fr.app N388 Nq394
      refine own_by (st394) ?_
      show own_Go p.tables e below (T394.setTop (mkF m 138 #[.val (.int p0), .val (.int p1), .val (.int p2), .val (.int p3), .val (.int (0 : Int32)), .val (.int (3 : Int32)), .val (.int (p0.toInt8.toInt32)), .val (.int (p1.toInt8.toInt32)), .val (.int (p2.toInt8.toInt32)), .val (.ref b330), .val (.ref b345), .val (.ref b356), .unset, .unset] [])) _
      refine own_by (fun _ kt => XS.aload X394.here hx rfl (hb hby at_138) rfl rfl kt) ?_
      show own_Go p.tables e below (T394.setTop (mkF m 140 #[.val (.int p0), .val (.int p1), .val (.int p2), .val (.int p3), .val (.int (0 : Int32)), .val (.int (3 : Int32)), .val (.int (p0.toInt8.toInt32)), .val (.int (p1.toInt8.toInt32)), .val (.int (p2.toInt8.toInt32)), .val (.ref b330), .val (.ref b345), .val (.ref b356), .unset, .unset] [(.ref b356)])) _
      obtain ⟨cq402, kq402, q402a, q402b, q402c⟩ := isOf hZ rfl f398
      obtain ⟨_, _, ⟨T402, L402, k402, n402⟩, -, X402, ⟨Lc402, hQ402, l402, y402, z402⟩, st402⟩ := X394.virtualBack hx (y := (⟨"com/example/relampago/relampago/lcp/Call", "params", "()[B"⟩ : MethodName)) (z := (⟨"com/example/relampago/relampago/lcp/Call", "params", "()[B"⟩ : MethodName)) hown (mvT hZ (hw _ (List.mem_of_getElem? (i := 59) rfl))) (mvT hZ (hw _ (List.mem_of_getElem? (i := 60) rfl))) (notFace_of_selects (args := #[]) (mvT hZ (hw _ (List.mem_of_getElem? (i := 62) rfl)))) (mvT hZ (hw _ (List.mem_of_getElem? (i := 62) rfl))) (mvT hZ (hw _ (List.mem_of_getElem? (i := 61) rfl))) (by decide) (backOf (W := 0) (rm_params1 l Z a0 hw [] b356 (b388) (k330) ([(.int (nar .byte (p0.toInt8.toInt32))), (.int (nar .byte (p1.toInt8.toInt32))), (.int (nar .byte (p2.toInt8.toInt32)))]) ((3 : Int32)) T394.heap n0 Zs394 f399 f400 f401 (by decide)) hZ (hw _ (List.mem_of_getElem? (i := 63) rfl)) (hw _ (List.mem_of_getElem? (i := 3) rfl)) (by decide) (by decide)) q402a q402c (g := (mkF m 140 #[.val (.int p0), .val (.int p1), .val (.int p2), .val (.int p3), .val (.int (0 : Int32)), .val (.int (3 : Int32)), .val (.int (p0.toInt8.toInt32)), .val (.int (p1.toInt8.toInt32)), .val (.int (p2.toInt8.toInt32)), .val (.ref b330), .val (.ref b345), .val (.ref b356), .unset, .unset] [(.ref b356)])) rfl (by rw [hml]; rfl) (Steps.refl _) (argsL := []) (rest := []) (lenOf pd_6 rfl) rfl (by show 2 * 0 + _ ≤ _; exact Nat.le_of_eq rfl) (hb hby at_140) (fun _ _ => ⟨rfl, rfl, (by decide : 9 + 1 ≤ _), (by decide : 22 + 3 ≤ _)⟩)
      dsimp only [Pt.U, Pt.locs, Pt.cells, Pt.slots] at X402 l402 y402 z402 st402 hQ402
      subst l402 y402 z402
      obtain ⟨b402, rfl, Nq402, K402, gn_b402, szq_b402, f402_0, f402_1⟩ := hQ402
      have ne_b330_b402 : b330 ≠ b402 := Nat.ne_of_lt (Nat.lt_of_lt_of_le f395.lt szq_b402)
      have ne_b345_b402 : b345 ≠ b402 := Nat.ne_of_lt (Nat.lt_of_lt_of_le f396.lt szq_b402)
      have ne_b356_b402 : b356 ≠ b402 := Nat.ne_of_lt (Nat.lt_of_lt_of_le f398.lt szq_b402)
      have ne_b388_b402 : b388 ≠ b402 := Nat.ne_of_lt (Nat.lt_of_lt_of_le f400.lt szq_b402)
      have f403 := f395.keep K402
      have f404 := f396.keep K402 List.not_mem_nil
      have f405 := f397.keep K402
      have f406 := f398.keep K402
      have f407 := f399.keep K402 List.not_mem_nil
      have f408 := f400.keep K402 List.not_mem_nil
      have f409 := f401.keep K402
      have f410 := f394_0.keep K402 List.not_mem_nil
      have Zs402 : n0 ≤ T402.heap.size := Nat.le_trans Zs394 K402.1
      have N402 := Fr.app N394 Nq402
      refine own_by (fun _ kt => st402.trans kt) ?_
      show own_Go p.tables e below (T402.setTop (mkF m 143 #[.val (.int p0), .val (.int p1), .val (.int p2), .val (.int p3), .val (.int (0 : Int32)), .val (.int (3 : Int32)), .val (.int (p0.toInt8.toInt32)), .val (.int (p1.toInt8.toInt32)), .val (.int (p2.toInt8.toInt32)), .val (.ref b330), .val (.ref b345), .val (.ref b356), .unset, .unset] [(.ref b402)])) _
      refine own_by (fun _ kt => XS.astore X402.here hx rfl (hb hby at_143) rfl rfl (l' := #[.val (.int p0), .val (.int p1), .val (.int p2), .val (.int p3), .val (.int (0 : Int32)), .val (.int (3 : Int32)), .val (.int (p0.toInt8.toInt32)), .val (.int (p1.toInt8.toInt32)), .val (.int (p2.toInt8.toInt32)), .val (.ref b330), .val (.ref b345), .val (.ref b356), .val (.ref b402), .unset]) rfl kt) ?_
      show own_Go p.tables e below (T402.setTop (mkF m 145 #[.val (.int p0), .val (.int p1), .val (.int p2), .val (.int p3), .val (.int (0 : Int32)), .val (.int (3 : Int32)), .val (.int (p0.toInt8.toInt32)), .val (.int (p1.toInt8.toInt32)), .val (.int (p2.toInt8.toInt32)), .val (.ref b330), .val (.ref b345), .val (.ref b356), .val (.ref b402), .unset] [])) _
      refine own_by (fun _ kt => XS.iload X402.here hx rfl (hb hby at_145) rfl kt) ?_
      show own_Go p.tables e below (T402.setTop (mkF m 147 #[.val (.int p0), .val (.int p1), .val (.int p2), .val (.int p3), .val (.int (0 : Int32)), .val (.int (3 : Int32)), .val (.int (p0.toInt8.toInt32)), .val (.int (p1.toInt8.toInt32)), .val (.int (p2.toInt8.toInt32)), .val (.ref b330), .val (.ref b345), .val (.ref b356), .val (.ref b402), .unset] [(.int (0 : Int32))])) _
      refine own_by (fun _ kt => XS.ifYes X402.here hx rfl (pc0 := 147) (pc' := 169) rfl (hb hby at_147) rfl ((if0 _ _).trans (teq (by decide : (0 : Int32) = (0 : Int32))).1) (by decide) (by decide) kt) ?_
      show own_Go p.tables e below (T402.setTop (mkF m 169 #[.val (.int p0), .val (.int p1), .val (.int p2), .val (.int p3), .val (.int (0 : Int32)), .val (.int (3 : Int32)), .val (.int (p0.toInt8.toInt32)), .val (.int (p1.toInt8.toInt32)), .val (.int (p2.toInt8.toInt32)), .val (.ref b330), .val (.ref b345), .val (.ref b356), .val (.ref b402), .unset] [])) _
      refine own_by (fun _ kt => XS.aload X402.here hx rfl (hb hby at_169) rfl rfl kt) ?_
      show own_Go p.tables e below (T402.setTop (mkF m 171 #[.val (.int p0), .val (.int p1), .val (.int p2), .val (.int p3), .val (.int (0 : Int32)), .val (.int (3 : Int32)), .val (.int (p0.toInt8.toInt32)), .val (.int (p1.toInt8.toInt32)), .val (.int (p2.toInt8.toInt32)), .val (.ref b330), .val (.ref b345), .val (.ref b356), .val (.ref b402), .unset] [(.ref b402)])) _
      refine own_by (fun _ kt => XS.ifnullNo X402.here hx rfl (hb hby at_171) rfl kt) ?_
      show own_Go p.tables e below (T402.setTop (mkF m 174 #[.val (.int p0), .val (.int p1), .val (.int p2), .val (.int p3), .val (.int (0 : Int32)), .val (.int (3 : Int32)), .val (.int (p0.toInt8.toInt32)), .val (.int (p1.toInt8.toInt32)), .val (.int (p2.toInt8.toInt32)), .val (.ref b330), .val (.ref b345), .val (.ref b356), .val (.ref b402), .unset] [])) _
      refine own_by (fun _ kt => XS.aload X402.here hx rfl (hb hby at_174) rfl rfl kt) ?_
      show own_Go p.tables e below (T402.setTop (mkF m 176 #[.val (.int p0), .val (.int p1), .val (.int p2), .val (.int p3), .val (.int (0 : Int32)), .val (.int (3 : Int32)), .val (.int (p0.toInt8.toInt32)), .val (.int (p1.toInt8.toInt32)), .val (.int (p2.toInt8.toInt32)), .val (.ref b330), .val (.ref b345), .val (.ref b356), .val (.ref b402), .unset] [(.ref b402)])) _
      refine own_by (fun _ kt => XS.aload X402.here hx rfl (hb hby at_176) rfl rfl kt) ?_
      show own_Go p.tables e below (T402.setTop (mkF m 178 #[.val (.int p0), .val (.int p1), .val (.int p2), .val (.int p3), .val (.int (0 : Int32)), .val (.int (3 : Int32)), .val (.int (p0.toInt8.toInt32)), .val (.int (p1.toInt8.toInt32)), .val (.int (p2.toInt8.toInt32)), .val (.ref b330), .val (.ref b345), .val (.ref b356), .val (.ref b402), .unset] [(.ref b330), (.ref b402)])) _
      refine own_by (fun _ kt => Jvm.RoadKit.acmp (g := (mkF m 178 #[.val (.int p0), .val (.int p1), .val (.int p2), .val (.int p3), .val (.int (0 : Int32)), .val (.int (3 : Int32)), .val (.int (p0.toInt8.toInt32)), .val (.int (p1.toInt8.toInt32)), .val (.int (p2.toInt8.toInt32)), .val (.ref b330), .val (.ref b345), .val (.ref b356), .val (.ref b402), .unset] [(.ref b330), (.ref b402)])) X402 hx rfl rfl rfl (pc0 := 178) (pc' := 183) (same := false) rfl (hb hby at_178) rfl (decide_eq_false fun q => (Ne.symm ne_b330_b402) (Value.ref.inj q)) (by decide) (by decide) kt) ?_
      show own_Go p.tables e below (T402.setTop (mkF m 183 #[.val (.int p0), .val (.int p1), .val (.int p2), .val (.int p3), .val (.int (0 : Int32)), .val (.int (3 : Int32)), .val (.int (p0.toInt8.toInt32)), .val (.int (p1.toInt8.toInt32)), .val (.int (p2.toInt8.toInt32)), .val (.ref b330), .val (.ref b345), .val (.ref b356), .val (.ref b402), .unset] [])) _
      refine own_by (fun _ kt => XS.aload X402.here hx rfl (hb hby at_183) rfl rfl kt) ?_
      show own_Go p.tables e below (T402.setTop (mkF m 185 #[.val (.int p0), .val (.int p1), .val (.int p2), .val (.int p3), .val (.int (0 : Int32)), .val (.int (3 : Int32)), .val (.int (p0.toInt8.toInt32)), .val (.int (p1.toInt8.toInt32)), .val (.int (p2.toInt8.toInt32)), .val (.ref b330), .val (.ref b345), .val (.ref b356), .val (.ref b402), .unset] [(.ref b402)])) _
      refine own_by (fun _ kt => XS.iload X402.here hx rfl (hb hby at_185) rfl kt) ?_
      show own_Go p.tables e below (T402.setTop (mkF m 187 #[.val (.int p0), .val (.int p1), .val (.int p2), .val (.int p3), .val (.int (0 : Int32)), .val (.int (3 : Int32)), .val (.int (p0.toInt8.toInt32)), .val (.int (p1.toInt8.toInt32)), .val (.int (p2.toInt8.toInt32)), .val (.ref b330), .val (.ref b345), .val (.ref b356), .val (.ref b402), .unset] [(.int (3 : Int32)), (.ref b402)])) _
      refine own_by (fun _ kt => XS.iload X402.here hx rfl (hb hby at_187) rfl kt) ?_
      show own_Go p.tables e below (T402.setTop (mkF m 189 #[.val (.int p0), .val (.int p1), .val (.int p2), .val (.int p3), .val (.int (0 : Int32)), .val (.int (3 : Int32)), .val (.int (p0.toInt8.toInt32)), .val (.int (p1.toInt8.toInt32)), .val (.int (p2.toInt8.toInt32)), .val (.ref b330), .val (.ref b345), .val (.ref b356), .val (.ref b402), .unset] [(.int (p0.toInt8.toInt32)), (.int (3 : Int32)), (.ref b402)])) _
      refine own_by (fun _ kt => XS.iload X402.here hx rfl (hb hby at_189) rfl kt) ?_
      show own_Go p.tables e below (T402.setTop (mkF m 191 #[.val (.int p0), .val (.int p1), .val (.int p2), .val (.int p3), .val (.int (0 : Int32)), .val (.int (3 : Int32)), .val (.int (p0.toInt8.toInt32)), .val (.int (p1.toInt8.toInt32)), .val (.int (p2.toInt8.toInt32)), .val (.ref b330), .val (.ref b345), .val (.ref b356), .val (.ref b402), .unset] [(.int (p1.toInt8.toInt32)), (.int (p0.toInt8.toInt32)), (.int (3 : Int32)), (.ref b402)])) _
      refine own_by (fun _ kt => XS.iload X402.here hx rfl (hb hby at_191) rfl kt) ?_
      show own_Go p.tables e below (T402.setTop (mkF m 193 #[.val (.int p0), .val (.int p1), .val (.int p2), .val (.int p3), .val (.int (0 : Int32)), .val (.int (3 : Int32)), .val (.int (p0.toInt8.toInt32)), .val (.int (p1.toInt8.toInt32)), .val (.int (p2.toInt8.toInt32)), .val (.ref b330), .val (.ref b345), .val (.ref b356), .val (.ref b402), .unset] [(.int (p2.toInt8.toInt32)), (.int (p1.toInt8.toInt32)), (.int (p0.toInt8.toInt32)), (.int (3 : Int32)), (.ref b402)])) _
      obtain ⟨_, _, ⟨T411, L411, k411, n411⟩, -, X411, ⟨Lc411, hQ411, l411, y411, z411⟩, st411⟩ := Jvm.LawKit.callS X402 hx (y := (⟨"com/example/relampago/relampago/lcp/CallParamsPinLaw", "same", "([BIBBB)Z"⟩ : MethodName)) hown (mvT hZ (hw _ (List.mem_of_getElem? (i := 64) rfl))) (mvT hZ (hw _ (List.mem_of_getElem? (i := 65) rfl))) (mvT hZ (hw _ (List.mem_of_getElem? (i := 57) rfl))) (mvT hZ (hw _ (List.mem_of_getElem? (i := 66) rfl))) (by decide) (backOf (W := 0) (rm_same3 l Z a0 hw [] b402 (p0.toInt8.toInt32) (p1.toInt8.toInt32) (p2.toInt8.toInt32) (k330) ((nar .byte (p0.toInt8.toInt32))) ((nar .byte (p1.toInt8.toInt32))) ((nar .byte (p2.toInt8.toInt32))) T402.heap n0 Zs402 f402_0 (own_nb _) (own_nb _) (own_nb _)) hZ (hw _ (List.mem_of_getElem? (i := 66) rfl)) (hw _ (List.mem_of_getElem? (i := 57) rfl)) (by decide) (by decide)) (g := (mkF m 193 #[.val (.int p0), .val (.int p1), .val (.int p2), .val (.int p3), .val (.int (0 : Int32)), .val (.int (3 : Int32)), .val (.int (p0.toInt8.toInt32)), .val (.int (p1.toInt8.toInt32)), .val (.int (p2.toInt8.toInt32)), .val (.ref b330), .val (.ref b345), .val (.ref b356), .val (.ref b402), .unset] [(.int (p2.toInt8.toInt32)), (.int (p1.toInt8.toInt32)), (.int (p0.toInt8.toInt32)), (.int (3 : Int32)), (.ref b402)])) rfl (by rw [hml]; rfl) (argsL := [(.ref b402), (.int (3 : Int32)), (.int (p0.toInt8.toInt32)), (.int (p1.toInt8.toInt32)), (.int (p2.toInt8.toInt32))]) (rest := []) (lenOf pd_8 rfl) rfl (by show 2 * 0 + _ ≤ _; exact Nat.le_of_eq rfl) (hb hby at_193) (fun _ _ => ⟨rfl, rfl, (by decide : 10 + 0 ≤ _), (by decide : 25 + 0 ≤ _)⟩)
      dsimp only [Pt.U, Pt.locs, Pt.cells, Pt.slots] at X411 l411 y411 z411 st411 hQ411
      subst l411 y411 z411
      obtain ⟨rfl, Nq411, eh411⟩ := hQ411
      have N411 := Fr.app N402 Nq411
      refine own_by (st411) ?_
      show own_Go p.tables e below (T411.setTop (mkF m 196 #[.val (.int p0), .val (.int p1), .val (.int p2), .val (.int p3), .val (.int (0 : Int32)), .val (.int (3 : Int32)), .val (.int (p0.toInt8.toInt32)), .val (.int (p1.toInt8.toInt32)), .val (.int (p2.toInt8.toInt32)), .val (.ref b330), .val (.ref b345), .val (.ref b356), .val (.ref b402), .unset] [(.int (1 : Int32))])) _
      refine own_by (fun _ kt => XS.ifYes X411.here hx rfl (pc0 := 196) (pc' := 201) rfl (hb hby at_196) rfl ((if0 _ _).trans (feq (by decide : ¬ ((1 : Int32) = (0 : Int32)))).2) (by decide) (by decide) kt) ?_
      show own_Go p.tables e below (T411.setTop (mkF m 201 #[.val (.int p0), .val (.int p1), .val (.int p2), .val (.int p3), .val (.int (0 : Int32)), .val (.int (3 : Int32)), .val (.int (p0.toInt8.toInt32)), .val (.int (p1.toInt8.toInt32)), .val (.int (p2.toInt8.toInt32)), .val (.ref b330), .val (.ref b345), .val (.ref b356), .val (.ref b402), .unset] [])) _
      refine own_by (fun _ kt => XS.aload X411.here hx rfl (hb hby at_201) rfl rfl kt) ?_
      show own_Go p.tables e below (T411.setTop (mkF m 203 #[.val (.int p0), .val (.int p1), .val (.int p2), .val (.int p3), .val (.int (0 : Int32)), .val (.int (3 : Int32)), .val (.int (p0.toInt8.toInt32)), .val (.int (p1.toInt8.toInt32)), .val (.int (p2.toInt8.toInt32)), .val (.ref b330), .val (.ref b345), .val (.ref b356), .val (.ref b402), .unset] [(.ref b402)])) _
      refine own_by (fun _ kt => XS.iload X411.here hx rfl (hb hby at_203) rfl kt) ?_
      show own_Go p.tables e below (T411.setTop (mkF m 205 #[.val (.int p0), .val (.int p1), .val (.int p2), .val (.int p3), .val (.int (0 : Int32)), .val (.int (3 : Int32)), .val (.int (p0.toInt8.toInt32)), .val (.int (p1.toInt8.toInt32)), .val (.int (p2.toInt8.toInt32)), .val (.ref b330), .val (.ref b345), .val (.ref b356), .val (.ref b402), .unset] [(.int (3 : Int32)), (.ref b402)])) _
      obtain ⟨_, _, ⟨T412, L412, k412, n412⟩, -, X412, ⟨Lc412, hQ412, l412, y412, z412⟩, st412⟩ := Jvm.LawKit.callS X411 hx (y := (⟨"com/example/relampago/relampago/lcp/CallParamsPinLaw", "bump", "([BI)V"⟩ : MethodName)) hown (mvT hZ (hw _ (List.mem_of_getElem? (i := 55) rfl))) (mvT hZ (hw _ (List.mem_of_getElem? (i := 56) rfl))) (mvT hZ (hw _ (List.mem_of_getElem? (i := 57) rfl))) (mvT hZ (hw _ (List.mem_of_getElem? (i := 58) rfl))) (by decide) (backOf (W := 0) (rm_bump3 l Z a0 hw [] b402 (k330) ((nar .byte (p0.toInt8.toInt32))) ((nar .byte (p1.toInt8.toInt32))) ((nar .byte (p2.toInt8.toInt32))) T402.heap n0 Zs402 f402_0 gn_b402) hZ (hw _ (List.mem_of_getElem? (i := 58) rfl)) (hw _ (List.mem_of_getElem? (i := 57) rfl)) (by decide) (by decide)) (g := (mkF m 205 #[.val (.int p0), .val (.int p1), .val (.int p2), .val (.int p3), .val (.int (0 : Int32)), .val (.int (3 : Int32)), .val (.int (p0.toInt8.toInt32)), .val (.int (p1.toInt8.toInt32)), .val (.int (p2.toInt8.toInt32)), .val (.ref b330), .val (.ref b345), .val (.ref b356), .val (.ref b402), .unset] [(.int (3 : Int32)), (.ref b402)])) rfl (by rw [hml]; rfl) (argsL := [(.ref b402), (.int (3 : Int32))]) (rest := []) (lenOf pd_7 rfl) rfl (by show 2 * 0 + _ ≤ _; exact Nat.le_of_eq rfl) (hb hby at_205) (fun _ _ => ⟨rfl, eh411, (by decide : 10 + 0 ≤ _), (by decide : 25 + 0 ≤ _)⟩)
      dsimp only [Pt.U, Pt.locs, Pt.cells, Pt.slots] at X412 l412 y412 z412 st412 hQ412
      subst l412 y412 z412
      obtain ⟨rfl, Nq412, K412, f412_0⟩ := hQ412
      have f413 := f403.keep K412
      have f414 := f404.keep K412 (own_nin ne_b345_b402)
      have f415 := f405.keep K412
      have f416 := f406.keep K412
      have f417 := f407.keep K412 (own_nin ne_b356_b402)
      have f418 := f408.keep K412 (own_nin ne_b388_b402)
      have f419 := f409.keep K412
      have f420 := f410.keep K412 (own_nin ne_b330_b402)
      have f421 := f402_1.keep K412
      have Zs412 : n0 ≤ T412.heap.size := Nat.le_trans Zs402 K412.1
      have N412 := Fr.app N411 Nq412
      refine own_by (st412) ?_
      show own_Go p.tables e below (T412.setTop (mkF m 208 #[.val (.int p0), .val (.int p1), .val (.int p2), .val (.int p3), .val (.int (0 : Int32)), .val (.int (3 : Int32)), .val (.int (p0.toInt8.toInt32)), .val (.int (p1.toInt8.toInt32)), .val (.int (p2.toInt8.toInt32)), .val (.ref b330), .val (.ref b345), .val (.ref b356), .val (.ref b402), .unset] [])) _
      refine own_by (fun _ kt => XS.aload X412.here hx rfl (hb hby at_208) rfl rfl kt) ?_
      show own_Go p.tables e below (T412.setTop (mkF m 210 #[.val (.int p0), .val (.int p1), .val (.int p2), .val (.int p3), .val (.int (0 : Int32)), .val (.int (3 : Int32)), .val (.int (p0.toInt8.toInt32)), .val (.int (p1.toInt8.toInt32)), .val (.int (p2.toInt8.toInt32)), .val (.ref b330), .val (.ref b345), .val (.ref b356), .val (.ref b402), .unset] [(.ref b356)])) _
      obtain ⟨cq422, kq422, q422a, q422b, q422c⟩ := isOf hZ rfl f416
      obtain ⟨_, _, ⟨T422, L422, k422, n422⟩, -, X422, ⟨Lc422, hQ422, l422, y422, z422⟩, st422⟩ := X412.virtualBack hx (y := (⟨"com/example/relampago/relampago/lcp/Call", "params", "()[B"⟩ : MethodName)) (z := (⟨"com/example/relampago/relampago/lcp/Call", "params", "()[B"⟩ : MethodName)) hown (mvT hZ (hw _ (List.mem_of_getElem? (i := 59) rfl))) (mvT hZ (hw _ (List.mem_of_getElem? (i := 60) rfl))) (notFace_of_selects (args := #[]) (mvT hZ (hw _ (List.mem_of_getElem? (i := 62) rfl)))) (mvT hZ (hw _ (List.mem_of_getElem? (i := 62) rfl))) (mvT hZ (hw _ (List.mem_of_getElem? (i := 61) rfl))) (by decide) (backOf (W := 0) (rm_params1 l Z a0 hw [] b356 (b388) (k330) ([(.int (nar .byte (p0.toInt8.toInt32))), (.int (nar .byte (p1.toInt8.toInt32))), (.int (nar .byte (p2.toInt8.toInt32)))]) ((3 : Int32)) T412.heap n0 Zs412 f417 f418 f419 (by decide)) hZ (hw _ (List.mem_of_getElem? (i := 63) rfl)) (hw _ (List.mem_of_getElem? (i := 3) rfl)) (by decide) (by decide)) q422a q422c (g := (mkF m 210 #[.val (.int p0), .val (.int p1), .val (.int p2), .val (.int p3), .val (.int (0 : Int32)), .val (.int (3 : Int32)), .val (.int (p0.toInt8.toInt32)), .val (.int (p1.toInt8.toInt32)), .val (.int (p2.toInt8.toInt32)), .val (.ref b330), .val (.ref b345), .val (.ref b356), .val (.ref b402), .unset] [(.ref b356)])) rfl (by rw [hml]; rfl) (Steps.refl _) (argsL := []) (rest := []) (lenOf pd_6 rfl) rfl (by show 2 * 0 + _ ≤ _; exact Nat.le_of_eq rfl) (hb hby at_210) (fun _ _ => ⟨rfl, rfl, (by decide : 10 + 1 ≤ _), (by decide : 25 + 3 ≤ _)⟩)
      dsimp only [Pt.U, Pt.locs, Pt.cells, Pt.slots] at X422 l422 y422 z422 st422 hQ422
      subst l422 y422 z422
      obtain ⟨b422, rfl, Nq422, K422, gn_b422, szq_b422, f422_0, f422_1⟩ := hQ422
      have ne_b330_b422 : b330 ≠ b422 := Nat.ne_of_lt (Nat.lt_of_lt_of_le f413.lt szq_b422)
      have ne_b345_b422 : b345 ≠ b422 := Nat.ne_of_lt (Nat.lt_of_lt_of_le f414.lt szq_b422)
      have ne_b356_b422 : b356 ≠ b422 := Nat.ne_of_lt (Nat.lt_of_lt_of_le f416.lt szq_b422)
      have ne_b388_b422 : b388 ≠ b422 := Nat.ne_of_lt (Nat.lt_of_lt_of_le f418.lt szq_b422)
      have ne_b402_b422 : b402 ≠ b422 := Nat.ne_of_lt (Nat.lt_of_lt_of_le f421.lt szq_b422)
      have f423 := f413.keep K422
      have f424 := f414.keep K422 List.not_mem_nil
      have f425 := f415.keep K422
      have f426 := f416.keep K422
      have f427 := f417.keep K422 List.not_mem_nil
      have f428 := f418.keep K422 List.not_mem_nil
      have f429 := f419.keep K422
      have f430 := f420.keep K422 List.not_mem_nil
      have f431 := f421.keep K422
      have f432 := f412_0.keep K422 List.not_mem_nil
      have Zs422 : n0 ≤ T422.heap.size := Nat.le_trans Zs412 K422.1
      have N422 := Fr.app N412 Nq422
      refine own_by (fun _ kt => st422.trans kt) ?_
      show own_Go p.tables e below (T422.setTop (mkF m 213 #[.val (.int p0), .val (.int p1), .val (.int p2), .val (.int p3), .val (.int (0 : Int32)), .val (.int (3 : Int32)), .val (.int (p0.toInt8.toInt32)), .val (.int (p1.toInt8.toInt32)), .val (.int (p2.toInt8.toInt32)), .val (.ref b330), .val (.ref b345), .val (.ref b356), .val (.ref b402), .unset] [(.ref b422)])) _
      refine own_by (fun _ kt => XS.astore X422.here hx rfl (hb hby at_213) rfl rfl (l' := #[.val (.int p0), .val (.int p1), .val (.int p2), .val (.int p3), .val (.int (0 : Int32)), .val (.int (3 : Int32)), .val (.int (p0.toInt8.toInt32)), .val (.int (p1.toInt8.toInt32)), .val (.int (p2.toInt8.toInt32)), .val (.ref b330), .val (.ref b345), .val (.ref b356), .val (.ref b402), .val (.ref b422)]) rfl kt) ?_
      show own_Go p.tables e below (T422.setTop (mkF m 215 #[.val (.int p0), .val (.int p1), .val (.int p2), .val (.int p3), .val (.int (0 : Int32)), .val (.int (3 : Int32)), .val (.int (p0.toInt8.toInt32)), .val (.int (p1.toInt8.toInt32)), .val (.int (p2.toInt8.toInt32)), .val (.ref b330), .val (.ref b345), .val (.ref b356), .val (.ref b402), .val (.ref b422)] [])) _
      refine own_by (fun _ kt => XS.aload X422.here hx rfl (hb hby at_215) rfl rfl kt) ?_
      show own_Go p.tables e below (T422.setTop (mkF m 217 #[.val (.int p0), .val (.int p1), .val (.int p2), .val (.int p3), .val (.int (0 : Int32)), .val (.int (3 : Int32)), .val (.int (p0.toInt8.toInt32)), .val (.int (p1.toInt8.toInt32)), .val (.int (p2.toInt8.toInt32)), .val (.ref b330), .val (.ref b345), .val (.ref b356), .val (.ref b402), .val (.ref b422)] [(.ref b422)])) _
      refine own_by (fun _ kt => XS.ifnullNo X422.here hx rfl (hb hby at_217) rfl kt) ?_
      show own_Go p.tables e below (T422.setTop (mkF m 220 #[.val (.int p0), .val (.int p1), .val (.int p2), .val (.int p3), .val (.int (0 : Int32)), .val (.int (3 : Int32)), .val (.int (p0.toInt8.toInt32)), .val (.int (p1.toInt8.toInt32)), .val (.int (p2.toInt8.toInt32)), .val (.ref b330), .val (.ref b345), .val (.ref b356), .val (.ref b402), .val (.ref b422)] [])) _
      refine own_by (fun _ kt => XS.aload X422.here hx rfl (hb hby at_220) rfl rfl kt) ?_
      show own_Go p.tables e below (T422.setTop (mkF m 222 #[.val (.int p0), .val (.int p1), .val (.int p2), .val (.int p3), .val (.int (0 : Int32)), .val (.int (3 : Int32)), .val (.int (p0.toInt8.toInt32)), .val (.int (p1.toInt8.toInt32)), .val (.int (p2.toInt8.toInt32)), .val (.ref b330), .val (.ref b345), .val (.ref b356), .val (.ref b402), .val (.ref b422)] [(.ref b422)])) _
      refine own_by (fun _ kt => XS.aload X422.here hx rfl (hb hby at_222) rfl rfl kt) ?_
      show own_Go p.tables e below (T422.setTop (mkF m 224 #[.val (.int p0), .val (.int p1), .val (.int p2), .val (.int p3), .val (.int (0 : Int32)), .val (.int (3 : Int32)), .val (.int (p0.toInt8.toInt32)), .val (.int (p1.toInt8.toInt32)), .val (.int (p2.toInt8.toInt32)), .val (.ref b330), .val (.ref b345), .val (.ref b356), .val (.ref b402), .val (.ref b422)] [(.ref b330), (.ref b422)])) _
      refine own_by (fun _ kt => Jvm.RoadKit.acmp (g := (mkF m 224 #[.val (.int p0), .val (.int p1), .val (.int p2), .val (.int p3), .val (.int (0 : Int32)), .val (.int (3 : Int32)), .val (.int (p0.toInt8.toInt32)), .val (.int (p1.toInt8.toInt32)), .val (.int (p2.toInt8.toInt32)), .val (.ref b330), .val (.ref b345), .val (.ref b356), .val (.ref b402), .val (.ref b422)] [(.ref b330), (.ref b422)])) X422 hx rfl rfl rfl (pc0 := 224) (pc' := 227) (same := false) rfl (hb hby at_224) rfl (decide_eq_false fun q => (Ne.symm ne_b330_b422) (Value.ref.inj q)) (by decide) (by decide) kt) ?_
      show own_Go p.tables e below (T422.setTop (mkF m 227 #[.val (.int p0), .val (.int p1), .val (.int p2), .val (.int p3), .val (.int (0 : Int32)), .val (.int (3 : Int32)), .val (.int (p0.toInt8.toInt32)), .val (.int (p1.toInt8.toInt32)), .val (.int (p2.toInt8.toInt32)), .val (.ref b330), .val (.ref b345), .val (.ref b356), .val (.ref b402), .val (.ref b422)] [])) _
      refine own_by (fun _ kt => XS.aload X422.here hx rfl (hb hby at_227) rfl rfl kt) ?_
      show own_Go p.tables e below (T422.setTop (mkF m 229 #[.val (.int p0), .val (.int p1), .val (.int p2), .val (.int p3), .val (.int (0 : Int32)), .val (.int (3 : Int32)), .val (.int (p0.toInt8.toInt32)), .val (.int (p1.toInt8.toInt32)), .val (.int (p2.toInt8.toInt32)), .val (.ref b330), .val (.ref b345), .val (.ref b356), .val (.ref b402), .val (.ref b422)] [(.ref b422)])) _
      refine own_by (fun _ kt => XS.aload X422.here hx rfl (hb hby at_229) rfl rfl kt) ?_
      show own_Go p.tables e below (T422.setTop (mkF m 231 #[.val (.int p0), .val (.int p1), .val (.int p2), .val (.int p3), .val (.int (0 : Int32)), .val (.int (3 : Int32)), .val (.int (p0.toInt8.toInt32)), .val (.int (p1.toInt8.toInt32)), .val (.int (p2.toInt8.toInt32)), .val (.ref b330), .val (.ref b345), .val (.ref b356), .val (.ref b402), .val (.ref b422)] [(.ref b402), (.ref b422)])) _
      refine own_by (fun _ kt => Jvm.RoadKit.acmp (g := (mkF m 231 #[.val (.int p0), .val (.int p1), .val (.int p2), .val (.int p3), .val (.int (0 : Int32)), .val (.int (3 : Int32)), .val (.int (p0.toInt8.toInt32)), .val (.int (p1.toInt8.toInt32)), .val (.int (p2.toInt8.toInt32)), .val (.ref b330), .val (.ref b345), .val (.ref b356), .val (.ref b402), .val (.ref b422)] [(.ref b402), (.ref b422)])) X422 hx rfl rfl rfl (pc0 := 231) (pc' := 236) (same := false) rfl (hb hby at_231) rfl (decide_eq_false fun q => (Ne.symm ne_b402_b422) (Value.ref.inj q)) (by decide) (by decide) kt) ?_
      show own_Go p.tables e below (T422.setTop (mkF m 236 #[.val (.int p0), .val (.int p1), .val (.int p2), .val (.int p3), .val (.int (0 : Int32)), .val (.int (3 : Int32)), .val (.int (p0.toInt8.toInt32)), .val (.int (p1.toInt8.toInt32)), .val (.int (p2.toInt8.toInt32)), .val (.ref b330), .val (.ref b345), .val (.ref b356), .val (.ref b402), .val (.ref b422)] [])) _
      refine own_by (fun _ kt => XS.aload X422.here hx rfl (hb hby at_236) rfl rfl kt) ?_
      show own_Go p.tables e below (T422.setTop (mkF m 238 #[.val (.int p0), .val (.int p1), .val (.int p2), .val (.int p3), .val (.int (0 : Int32)), .val (.int (3 : Int32)), .val (.int (p0.toInt8.toInt32)), .val (.int (p1.toInt8.toInt32)), .val (.int (p2.toInt8.toInt32)), .val (.ref b330), .val (.ref b345), .val (.ref b356), .val (.ref b402), .val (.ref b422)] [(.ref b422)])) _
      refine own_by (fun _ kt => XS.iload X422.here hx rfl (hb hby at_238) rfl kt) ?_
      show own_Go p.tables e below (T422.setTop (mkF m 240 #[.val (.int p0), .val (.int p1), .val (.int p2), .val (.int p3), .val (.int (0 : Int32)), .val (.int (3 : Int32)), .val (.int (p0.toInt8.toInt32)), .val (.int (p1.toInt8.toInt32)), .val (.int (p2.toInt8.toInt32)), .val (.ref b330), .val (.ref b345), .val (.ref b356), .val (.ref b402), .val (.ref b422)] [(.int (3 : Int32)), (.ref b422)])) _
      refine own_by (fun _ kt => XS.iload X422.here hx rfl (hb hby at_240) rfl kt) ?_
      show own_Go p.tables e below (T422.setTop (mkF m 242 #[.val (.int p0), .val (.int p1), .val (.int p2), .val (.int p3), .val (.int (0 : Int32)), .val (.int (3 : Int32)), .val (.int (p0.toInt8.toInt32)), .val (.int (p1.toInt8.toInt32)), .val (.int (p2.toInt8.toInt32)), .val (.ref b330), .val (.ref b345), .val (.ref b356), .val (.ref b402), .val (.ref b422)] [(.int (p0.toInt8.toInt32)), (.int (3 : Int32)), (.ref b422)])) _
      refine own_by (fun _ kt => XS.iload X422.here hx rfl (hb hby at_242) rfl kt) ?_
      show own_Go p.tables e below (T422.setTop (mkF m 244 #[.val (.int p0), .val (.int p1), .val (.int p2), .val (.int p3), .val (.int (0 : Int32)), .val (.int (3 : Int32)), .val (.int (p0.toInt8.toInt32)), .val (.int (p1.toInt8.toInt32)), .val (.int (p2.toInt8.toInt32)), .val (.ref b330), .val (.ref b345), .val (.ref b356), .val (.ref b402), .val (.ref b422)] [(.int (p1.toInt8.toInt32)), (.int (p0.toInt8.toInt32)), (.int (3 : Int32)), (.ref b422)])) _
      refine own_by (fun _ kt => XS.iload X422.here hx rfl (hb hby at_244) rfl kt) ?_
      show own_Go p.tables e below (T422.setTop (mkF m 246 #[.val (.int p0), .val (.int p1), .val (.int p2), .val (.int p3), .val (.int (0 : Int32)), .val (.int (3 : Int32)), .val (.int (p0.toInt8.toInt32)), .val (.int (p1.toInt8.toInt32)), .val (.int (p2.toInt8.toInt32)), .val (.ref b330), .val (.ref b345), .val (.ref b356), .val (.ref b402), .val (.ref b422)] [(.int (p2.toInt8.toInt32)), (.int (p1.toInt8.toInt32)), (.int (p0.toInt8.toInt32)), (.int (3 : Int32)), (.ref b422)])) _
      obtain ⟨_, _, ⟨T433, L433, k433, n433⟩, -, X433, ⟨Lc433, hQ433, l433, y433, z433⟩, st433⟩ := Jvm.LawKit.callS X422 hx (y := (⟨"com/example/relampago/relampago/lcp/CallParamsPinLaw", "same", "([BIBBB)Z"⟩ : MethodName)) hown (mvT hZ (hw _ (List.mem_of_getElem? (i := 64) rfl))) (mvT hZ (hw _ (List.mem_of_getElem? (i := 65) rfl))) (mvT hZ (hw _ (List.mem_of_getElem? (i := 57) rfl))) (mvT hZ (hw _ (List.mem_of_getElem? (i := 66) rfl))) (by decide) (backOf (W := 0) (rm_same3 l Z a0 hw [] b422 (p0.toInt8.toInt32) (p1.toInt8.toInt32) (p2.toInt8.toInt32) (k330) ((nar .byte (p0.toInt8.toInt32))) ((nar .byte (p1.toInt8.toInt32))) ((nar .byte (p2.toInt8.toInt32))) T422.heap n0 Zs422 f422_0 (own_nb _) (own_nb _) (own_nb _)) hZ (hw _ (List.mem_of_getElem? (i := 66) rfl)) (hw _ (List.mem_of_getElem? (i := 57) rfl)) (by decide) (by decide)) (g := (mkF m 246 #[.val (.int p0), .val (.int p1), .val (.int p2), .val (.int p3), .val (.int (0 : Int32)), .val (.int (3 : Int32)), .val (.int (p0.toInt8.toInt32)), .val (.int (p1.toInt8.toInt32)), .val (.int (p2.toInt8.toInt32)), .val (.ref b330), .val (.ref b345), .val (.ref b356), .val (.ref b402), .val (.ref b422)] [(.int (p2.toInt8.toInt32)), (.int (p1.toInt8.toInt32)), (.int (p0.toInt8.toInt32)), (.int (3 : Int32)), (.ref b422)])) rfl (by rw [hml]; rfl) (argsL := [(.ref b422), (.int (3 : Int32)), (.int (p0.toInt8.toInt32)), (.int (p1.toInt8.toInt32)), (.int (p2.toInt8.toInt32))]) (rest := []) (lenOf pd_8 rfl) rfl (by show 2 * 0 + _ ≤ _; exact Nat.le_of_eq rfl) (hb hby at_246) (fun _ _ => ⟨rfl, rfl, (by decide : 11 + 0 ≤ _), (by decide : 28 + 0 ≤ _)⟩)
      dsimp only [Pt.U, Pt.locs, Pt.cells, Pt.slots] at X433 l433 y433 z433 st433 hQ433
      subst l433 y433 z433
      obtain ⟨rfl, Nq433, eh433⟩ := hQ433
      have N433 := Fr.app N422 Nq433
      refine own_by (st433) ?_
      show own_Go p.tables e below (T433.setTop (mkF m 249 #[.val (.int p0), .val (.int p1), .val (.int p2), .val (.int p3), .val (.int (0 : Int32)), .val (.int (3 : Int32)), .val (.int (p0.toInt8.toInt32)), .val (.int (p1.toInt8.toInt32)), .val (.int (p2.toInt8.toInt32)), .val (.ref b330), .val (.ref b345), .val (.ref b356), .val (.ref b402), .val (.ref b422)] [(.int (1 : Int32))])) _
      exact own_retN X433 hx (t := .boolean) Bd.returns hlk (by simp) (hb hby at_249) ⟨rfl, N433⟩ (by decide) (by decide)
set_option maxRecDepth 65536 in
set_option maxHeartbeats 40000000 in
theorem comes_1 {Post : Tables → Env → Array Value → State → Outcome → State → Prop} (hpost : ∀ tb e args s v u, (limb_1_1.after args s (.returned v) u = true ∧ limb_1_2.after args s (.returned v) u = true ∧ True) → FrameEnd s (.returned v) u (Jvm.fieldLocs frame_1_writes args s ++ Jvm.arrayLocs frame_1_arrays args s ++ Jvm.staticLocs frame_1_statics s) 32 128 → Post tb e args s (.returned v) u) :
    ArmFor flags0 classFile x code maxLocals ret World_1 tables_1 room_1 Calls_1 rest_1 Pre_1 Post := by
  intro l hfl _ _ p e ha hc hk s m args below hf hA hF happ hP
  obtain ⟨hcalls, hrest, hpre⟩ := hP
  obtain ⟨-, -, -, hnamed, -, -, -, hat⟩ := (Spec.applies_iff hf).mp happ
  obtain ⟨hg, hn⟩ := and_e (Cond.before_iff.mp (show (Jvm.Cond.and given_1 narrow_1).before args s = true from hpre))
  obtain ⟨hcnt, g0⟩ := and_e hg
  obtain ⟨i0, g1⟩ := and_e g0
  obtain ⟨i1, g2⟩ := and_e g1
  obtain ⟨i2, g3⟩ := and_e g2
  obtain ⟨w0, w1, w2, w3, rfl⟩ : ∃ w0 w1 w2 w3 : Value, args = #[w0, w1, w2, w3] := by
    have hs : args.size = 4 := by simpa [Cond.value, given_1] using hcnt
    obtain ⟨L⟩ := args
    match L, hs with
    | [w0, w1, w2, w3], _ => exact ⟨w0, w1, w2, w3, rfl⟩
  have hw := fun d (hd : d ∈ tables_1) => atoms_spec (ws := Jvm.Cond.code x code maxLocals ret :: tables_1) hat d (List.mem_cons_of_mem _ hd)
  obtain ⟨hsets, hown0⟩ := atoms_of _ (rest_1_c_eq ▸ (show rest_1_c.before _ s = true from hrest))
  have ncs := not_v (Cond.before_iff.mp (hsets _ (List.mem_of_getElem? (i := 2) rfl)))
  obtain ⟨cs, ecs⟩ := is_v (Cond.before_iff.mp (hsets _ (List.mem_of_getElem? (i := 1) rfl)))
  have Scs : Sta s s.heap "java/lang/String" "COMPACT_STRINGS" "Z" (.int cs) := Sta.start ecs (Or.inl (hsets _ (List.mem_of_getElem? (i := 0) rfl)))
  have hcs : ¬ (cs = (0 : Int32)) := gotF (Cond.eq_ints ecs (Term.int_eval (0))) ncs
  obtain ⟨v0, ev0⟩ := is_v i0
  obtain rfl : w0 = (.int v0) := Option.some.inj ev0
  obtain ⟨v1, ev1⟩ := is_v i1
  obtain rfl : w1 = (.int v1) := Option.some.inj ev1
  obtain ⟨v2, ev2⟩ := is_v i2
  obtain rfl : w2 = (.int v2) := Option.some.inj ev2
  obtain ⟨v3, ev3⟩ := is_v g3
  obtain rfl : w3 = (.int v3) := Option.some.inj ev3
  obtain ⟨n, o, h1, h2, h3, _, L, rfl, ⟨rfl, N⟩, hq⟩ := rm_law l s _ hw tables_1 v0 v1 v2 v3 cs s.heap s.heap.size (Nat.le_refl _) Scs hcs p e ha hc hk s m _ below hf ((Spec.applies_iff_loose hf).mp happ).1 ⟨rfl, State.Warmed39.refl s, rfl⟩ trivial
  refine ⟨n, _, h1, h2, h3, hpost _ _ _ _ _ _ ⟨Cond.after_iff.mpr rfl, Cond.after_iff.mpr (eq_i res_at (Term.int_eval (1)) rfl), trivial⟩ ⟨hq.1, hq.2.1, (hq.2.2.sift fun y hy => Or.inr (N y hy)).mono (by decide) (by decide)⟩⟩
theorem main_1_1 : Claimed_1_1 := comes_1 fun _ _ _ _ _ _ h hF => ⟨h.1, hF⟩
theorem main_1_2 : Claimed_1_2 := comes_1 fun _ _ _ _ _ _ h hF => ⟨h.2.1, hF⟩
end Jvm.Pilot.@@N@@
namespace Jvm.Pilot.@@N@@
open Jvm Jvm.ClassFile Sem Op Lib Jvm.Free Jvm.Stand Jvm.Pilot.@@N@@.Jvm.D
/-! MADE BY PROGRAM (witnessworld.py) out of the Statement's table words and the real class files: 18 classes; the members and pool entries that the words name. The judged class is class 1, her method 1. -/
namespace start1
open Jvm.ClassFile
def u (s : String) : CpInfo := .utf8 (stringToUtf16 s)
/-- a pool by its gaps: so many unusable entries, then the entry; so many at the end -/
def gap : Nat → List CpInfo → List CpInfo
  | 0, r => r
  | n + 1, r => .unusable :: gap n r
def poolList (es : List (Nat × CpInfo)) (last : Nat) : List CpInfo := es.foldr (fun e r => gap e.1 (e.2 :: r)) (gap last [])
def pool (es : List (Nat × CpInfo)) (last : Nat) : Array CpInfo := ⟨poolList es last⟩
def fileOf (pool : Array CpInfo) (this : Nat) (attrs : Array Attribute := #[]) (ms : Array MethodInfo := #[]) (fl : Nat := 33) (sup : Nat := 0) (ifs : Array Nat := #[]) (fds : Array FieldInfo := #[]) : ClassFile where
  minorVersion := 0
  majorVersion := 65
  constantPool := pool
  accessFlags := fl
  thisClass := this
  superClass := sup
  interfaces := ifs
  fields := fds
  methods := ms
  attributes := attrs
def plain (name : String) (sup : Option ClassId) : Class where
  name := name
  kind := .ordinary
  loader := none
  accessFlags := 33
  super := sup
  interfaces := #[]
  cf := none
  fields := #[]
  methods := #[]
  instanceTypes := #[]
  staticTypes := #[]
  resolved := #[]
  callSites := []
  init := .initialized
  statics := none
  mirror := none

def pool0 : Array CpInfo := pool [(5, u "<init>"), (0, u "()V"), (1, .class_ 10), (1, u "java/lang/Object"), (85, u "clone"), (0, u "()Ljava/lang/Object;")] 26

def k0c0 : Code := { maxStack := 0, maxLocals := 1, code := object_method_1_code, exceptionTable := #[], attributes := #[] }
def k0m0 : Method := { name := "<init>", desc := "()V", sig := { parameters := [], returnType := none }, accessFlags := 1, code := some k0c0 }
def k0m1 : Method := { name := "clone", desc := "()Ljava/lang/Object;", sig := { parameters := [], returnType := some (.object "java/lang/Object") }, accessFlags := 260, code := none }
/-- java/lang/Object -/
def k0 : Class := { plain "java/lang/Object" none with
  accessFlags := 33
  interfaces := #[]
  cf := some (fileOf pool0 8 #[] #[{ accessFlags := 1, nameIndex := 5, descriptorIndex := 6, attributes := #[] }, { accessFlags := 260, nameIndex := 96, descriptorIndex := 97, attributes := #[] }] 33 0 #[] #[])
  fields := #[]
  methods := #[k0m0, k0m1]
  instanceTypes := #[]
  staticTypes := #[]
  resolved := Array.replicate 124 none
  statics := none }

def pool1 : Array CpInfo := pool [(2, .class_ 4), (1, u "java/lang/Object"), (0, u "<init>"), (0, u "()V"), (0, .class_ 8), (0, u "com/example/relampago/relampago/lcp/Call"), (0, .methodref 10 11), (0, .class_ 12), (0, .nameAndType 13 14), (0, u "java/lang/String"), (0, u "valueOf"), (0, u "(C)Ljava/lang/String;"), (0, .methodref 7 16), (0, .nameAndType 5 17), (0, u "(Ljava/lang/String;[BLjava/lang/String;[B)V"), (0, .methodref 19 20), (0, .class_ 21), (0, .nameAndType 22 23), (0, u "com/example/relampago/relampago/lcp/CallParamsPinLaw"), (0, u "bump"), (0, u "([BI)V"), (0, .methodref 7 25), (0, .nameAndType 26 27), (0, u "params"), (0, u "()[B"), (0, .methodref 19 29), (0, .nameAndType 30 31), (0, u "same"), (0, u "([BIBBB)Z"), (2, u "law"), (0, u "(IIII)Z")] 5

def k1m0 : Method := { name := "<init>", desc := "()V", sig := { parameters := [], returnType := none }, accessFlags := 1, code := none }
def k1c1 : Code := { maxStack := 6, maxLocals := 14, code := code, exceptionTable := #[], attributes := #[] }
def k1m1 : Method := { name := "law", desc := "(IIII)Z", sig := { parameters := [.int, .int, .int, .int], returnType := some .boolean }, accessFlags := 9, code := some k1c1 }
def k1c2 : Code := { maxStack := 4, maxLocals := 2, code := method_3_code, exceptionTable := #[], attributes := #[] }
def k1m2 : Method := { name := "bump", desc := "([BI)V", sig := { parameters := [(.array .byte), .int], returnType := none }, accessFlags := 10, code := some k1c2 }
def k1c3 : Code := { maxStack := 2, maxLocals := 5, code := method_4_code, exceptionTable := #[], attributes := #[] }
def k1m3 : Method := { name := "same", desc := "([BIBBB)Z", sig := { parameters := [(.array .byte), .int, .byte, .byte, .byte], returnType := some .boolean }, accessFlags := 10, code := some k1c3 }
/-- com/example/relampago/relampago/lcp/CallParamsPinLaw -/
def k1 : Class := { plain "com/example/relampago/relampago/lcp/CallParamsPinLaw" (some 0) with
  accessFlags := 49
  interfaces := #[]
  cf := some (fileOf pool1 19 #[] #[{ accessFlags := 1, nameIndex := 5, descriptorIndex := 6, attributes := #[] }, { accessFlags := 9, nameIndex := 34, descriptorIndex := 35, attributes := #[] }, { accessFlags := 10, nameIndex := 22, descriptorIndex := 23, attributes := #[] }, { accessFlags := 10, nameIndex := 30, descriptorIndex := 31, attributes := #[] }] 49 2 #[] #[])
  fields := #[]
  methods := #[k1m0, k1m1, k1m2, k1m3]
  instanceTypes := #[]
  staticTypes := #[]
  resolved := Array.replicate 41 none
  statics := none }

def pool2 : Array CpInfo := pool [(1, .methodref 2 3), (0, .class_ 4), (0, .nameAndType 5 6), (0, u "java/lang/Object"), (0, u "<init>"), (0, u "()V"), (0, .class_ 8), (0, u "java/lang/Record")] 13

def k2c0 : Code := { maxStack := 1, maxLocals := 1, code := jdk_30_method_1_code, exceptionTable := #[], attributes := #[] }
def k2m0 : Method := { name := "<init>", desc := "()V", sig := { parameters := [], returnType := none }, accessFlags := 4, code := some k2c0 }
/-- java/lang/Record -/
def k2 : Class := { plain "java/lang/Record" (some 0) with
  accessFlags := 1057
  interfaces := #[]
  cf := some (fileOf pool2 7 #[] #[{ accessFlags := 4, nameIndex := 5, descriptorIndex := 6, attributes := #[] }] 1057 2 #[] #[])
  fields := #[]
  methods := #[k2m0]
  instanceTypes := #[]
  staticTypes := #[]
  resolved := Array.replicate 22 none
  statics := none }

def pool3 : Array CpInfo := pool [(1, .methodref 2 3), (0, .class_ 4), (0, .nameAndType 5 6), (0, u "java/lang/Record"), (0, u "<init>"), (0, u "()V"), (0, .methodref 8 9), (0, .class_ 10), (0, .nameAndType 11 12), (0, u "[B"), (0, u "clone"), (0, u "()Ljava/lang/Object;"), (0, .fieldref 14 15), (0, .class_ 16), (0, .nameAndType 17 18), (0, u "com/example/relampago/relampago/lcp/Call"), (0, u "method"), (0, u "Ljava/lang/String;"), (0, .fieldref 14 20), (0, .nameAndType 21 10), (0, u "request"), (0, .fieldref 14 23), (0, .nameAndType 24 18), (0, u "requestContentType"), (0, .fieldref 14 26), (0, .nameAndType 27 10), (0, u "params"), (12, u "(Ljava/lang/String;[BLjava/lang/String;[B)V"), (6, u "()[B")] 26

def k3c0 : Code := { maxStack := 2, maxLocals := 5, code := prog_8_method_1_code, exceptionTable := #[], attributes := #[] }
def k3m0 : Method := { name := "<init>", desc := "(Ljava/lang/String;[BLjava/lang/String;[B)V", sig := { parameters := [(.object "java/lang/String"), (.array .byte), (.object "java/lang/String"), (.array .byte)], returnType := none }, accessFlags := 1, code := some k3c0 }
def k3c1 : Code := { maxStack := 1, maxLocals := 1, code := prog_8_method_3_code, exceptionTable := #[], attributes := #[] }
def k3m1 : Method := { name := "params", desc := "()[B", sig := { parameters := [], returnType := some (.array .byte) }, accessFlags := 1, code := some k3c1 }
/-- com/example/relampago/relampago/lcp/Call -/
def k3 : Class := { plain "com/example/relampago/relampago/lcp/Call" (some 2) with
  accessFlags := 49
  interfaces := #[]
  cf := some (fileOf pool3 14 #[] #[{ accessFlags := 1, nameIndex := 5, descriptorIndex := 40, attributes := #[] }, { accessFlags := 1, nameIndex := 27, descriptorIndex := 47, attributes := #[] }] 49 2 #[] #[{ accessFlags := 18, nameIndex := 17, descriptorIndex := 18, attributes := #[] }, { accessFlags := 18, nameIndex := 21, descriptorIndex := 10, attributes := #[] }, { accessFlags := 18, nameIndex := 24, descriptorIndex := 18, attributes := #[] }, { accessFlags := 18, nameIndex := 27, descriptorIndex := 10, attributes := #[] }])
  fields := #[{ name := "method", type := (.object "java/lang/String"), accessFlags := 18, slot := 0, constantValue := 0 }, { name := "request", type := (.array .byte), accessFlags := 18, slot := 1, constantValue := 0 }, { name := "requestContentType", type := (.object "java/lang/String"), accessFlags := 18, slot := 2, constantValue := 0 }, { name := "params", type := (.array .byte), accessFlags := 18, slot := 3, constantValue := 0 }]
  methods := #[k3m0, k3m1]
  instanceTypes := #[(.object "java/lang/String"), (.array .byte), (.object "java/lang/String"), (.array .byte)]
  staticTypes := #[]
  resolved := Array.replicate 74 none
  statics := none }

def pool4 : Array CpInfo := pool [(1, .class_ 2), (0, u "java/io/Serializable"), (0, .class_ 4), (0, u "java/lang/Object")] 2

/-- java/io/Serializable -/
def k4 : Class := { plain "java/io/Serializable" (some 0) with
  accessFlags := 1537
  interfaces := #[]
  cf := some (fileOf pool4 1 #[] #[] 1537 3 #[] #[])
  fields := #[]
  methods := #[]
  instanceTypes := #[]
  staticTypes := #[]
  resolved := Array.replicate 7 none
  statics := none }

def pool5 : Array CpInfo := pool [(1, .class_ 2), (0, u "java/lang/Comparable"), (0, .class_ 4), (0, u "java/lang/Object")] 7

/-- java/lang/Comparable -/
def k5 : Class := { plain "java/lang/Comparable" (some 0) with
  accessFlags := 1537
  interfaces := #[]
  cf := some (fileOf pool5 1 #[] #[] 1537 3 #[] #[])
  fields := #[]
  methods := #[]
  instanceTypes := #[]
  staticTypes := #[]
  resolved := Array.replicate 12 none
  statics := none }

def pool6 : Array CpInfo := pool [(2, .class_ 4), (1, u "java/lang/CharSequence"), (42, .class_ 48), (0, u "java/lang/CharSequence$1CodePointIterator"), (10, .class_ 60), (0, u "java/lang/CharSequence$1CharIterator"), (5, .class_ 67), (0, u "java/lang/Object")] 63

/-- java/lang/CharSequence -/
def k6 : Class := { plain "java/lang/CharSequence" (some 0) with
  accessFlags := 1537
  interfaces := #[]
  cf := some (fileOf pool6 2 #[.nestMembers #[47, 59]] #[] 1537 66 #[] #[])
  fields := #[]
  methods := #[]
  instanceTypes := #[]
  staticTypes := #[]
  resolved := Array.replicate 131 none
  statics := none }

def pool7 : Array CpInfo := pool [(1, .class_ 2), (0, u "java/lang/constant/Constable"), (0, .class_ 4), (0, u "java/lang/Object")] 6

/-- java/lang/constant/Constable -/
def k7 : Class := { plain "java/lang/constant/Constable" (some 0) with
  accessFlags := 1537
  interfaces := #[]
  cf := some (fileOf pool7 1 #[] #[] 1537 3 #[] #[])
  fields := #[]
  methods := #[]
  instanceTypes := #[]
  staticTypes := #[]
  resolved := Array.replicate 11 none
  statics := none }

def pool8 : Array CpInfo := pool [(1, .class_ 2), (0, u "java/lang/constant/ConstantDesc"), (0, .class_ 4), (0, u "java/lang/Object")] 32

/-- java/lang/constant/ConstantDesc -/
def k8 : Class := { plain "java/lang/constant/ConstantDesc" (some 0) with
  accessFlags := 1537
  interfaces := #[]
  cf := some (fileOf pool8 1 #[] #[] 1537 3 #[] #[])
  fields := #[]
  methods := #[]
  instanceTypes := #[]
  staticTypes := #[]
  resolved := Array.replicate 37 none
  statics := none }

def pool9 : Array CpInfo := pool [(1, .methodref 2 3), (0, .class_ 4), (0, .nameAndType 5 6), (0, u "java/lang/Object"), (0, u "<init>"), (0, u "()V"), (2, .fieldref 10 11), (0, .class_ 12), (0, .nameAndType 13 14), (0, u "java/lang/String"), (0, u "value"), (0, u "[B"), (0, .fieldref 10 16), (0, .nameAndType 17 18), (0, u "coder"), (0, u "B"), (2, u "hash"), (0, u "I"), (2, u "hashIsZero"), (0, u "Z"), (11, .fieldref 10 39), (0, .nameAndType 40 26), (0, u "COMPACT_STRINGS"), (12, u "toBytes"), (53, .class_ 109), (1, u "java/lang/StringLatin1"), (99, .methodref 10 210), (0, .nameAndType 5 211), (0, u "([BB)V"), (157, u "(C)Z"), (205, .class_ 576), (0, u "java/lang/CharSequence"), (22, u "CASE_INSENSITIVE_ORDER"), (0, u "Ljava/util/Comparator;"), (181, u "valueOf"), (0, u "(C)Ljava/lang/String;"), (231, .methodref 107 1016), (0, .nameAndType 1017 369), (0, u "canEncode"), (0, .methodref 107 1019), (0, .nameAndType 53 1020), (0, u "(C)[B"), (80, u "serialPersistentFields"), (0, u "[Ljava/io/ObjectStreamField;"), (0, .class_ 1104), (0, u "java/lang/String$CaseInsensitiveComparator"), (1, .class_ 1107), (0, u "java/io/Serializable"), (0, .class_ 1109), (0, u "java/lang/Comparable"), (0, .class_ 1111), (0, u "java/lang/constant/Constable"), (0, .class_ 1113), (0, u "java/lang/constant/ConstantDesc"), (2, u "serialVersionUID"), (0, u "J"), (3, u "REPL"), (0, u "C"), (2, u "LATIN1"), (1, u "UTF16")] 323

def k9m0 : Method := { name := "<init>", desc := "()V", sig := { parameters := [], returnType := none }, accessFlags := 1, code := none }
def k9c1 : Code := { maxStack := 4, maxLocals := 1, code := jdk_42_method_139_code, exceptionTable := #[], attributes := #[] }
def k9m1 : Method := { name := "valueOf", desc := "(C)Ljava/lang/String;", sig := { parameters := [.char], returnType := some (.object "java/lang/String") }, accessFlags := 9, code := some k9c1 }
def k9c2 : Code := { maxStack := 2, maxLocals := 3, code := jdk_42_method_151_code, exceptionTable := #[], attributes := #[] }
def k9m2 : Method := { name := "<init>", desc := "([BB)V", sig := { parameters := [(.array .byte), .byte], returnType := none }, accessFlags := 0, code := some k9c2 }
/-- java/lang/String -/
def k9 : Class := { plain "java/lang/String" (some 0) with
  accessFlags := 49
  interfaces := #[4, 5, 6, 7, 8]
  cf := some (fileOf pool9 10 #[.nestMembers #[1103]] #[{ accessFlags := 1, nameIndex := 5, descriptorIndex := 6, attributes := #[] }, { accessFlags := 9, nameIndex := 782, descriptorIndex := 783, attributes := #[] }, { accessFlags := 0, nameIndex := 5, descriptorIndex := 211, attributes := #[] }] 49 2 #[1106, 1108, 575, 1110, 1112] #[{ accessFlags := 18, nameIndex := 13, descriptorIndex := 14, attributes := #[] }, { accessFlags := 18, nameIndex := 17, descriptorIndex := 18, attributes := #[] }, { accessFlags := 2, nameIndex := 21, descriptorIndex := 22, attributes := #[] }, { accessFlags := 2, nameIndex := 25, descriptorIndex := 26, attributes := #[] }, { accessFlags := 26, nameIndex := 1116, descriptorIndex := 1117, attributes := #[] }, { accessFlags := 24, nameIndex := 40, descriptorIndex := 26, attributes := #[] }, { accessFlags := 26, nameIndex := 1101, descriptorIndex := 1102, attributes := #[] }, { accessFlags := 26, nameIndex := 1121, descriptorIndex := 1122, attributes := #[] }, { accessFlags := 25, nameIndex := 599, descriptorIndex := 600, attributes := #[] }, { accessFlags := 24, nameIndex := 1125, descriptorIndex := 18, attributes := #[] }, { accessFlags := 24, nameIndex := 1127, descriptorIndex := 18, attributes := #[] }])
  fields := #[{ name := "value", type := (.array .byte), accessFlags := 18, slot := 0, constantValue := 0 }, { name := "coder", type := .byte, accessFlags := 18, slot := 1, constantValue := 0 }, { name := "hash", type := .int, accessFlags := 2, slot := 2, constantValue := 0 }, { name := "hashIsZero", type := .boolean, accessFlags := 2, slot := 3, constantValue := 0 }, { name := "serialVersionUID", type := .long, accessFlags := 26, slot := 0, constantValue := 0 }, { name := "COMPACT_STRINGS", type := .boolean, accessFlags := 24, slot := 1, constantValue := 0 }, { name := "serialPersistentFields", type := (.array (.object "java/io/ObjectStreamField")), accessFlags := 26, slot := 2, constantValue := 0 }, { name := "REPL", type := .char, accessFlags := 26, slot := 3, constantValue := 0 }, { name := "CASE_INSENSITIVE_ORDER", type := (.object "java/util/Comparator"), accessFlags := 25, slot := 4, constantValue := 0 }, { name := "LATIN1", type := .byte, accessFlags := 24, slot := 5, constantValue := 0 }, { name := "UTF16", type := .byte, accessFlags := 24, slot := 6, constantValue := 0 }]
  methods := #[k9m0, k9m1, k9m2]
  instanceTypes := #[(.array .byte), .byte, .int, .boolean]
  staticTypes := #[.long, .boolean, (.array (.object "java/io/ObjectStreamField")), .char, (.object "java/util/Comparator"), .byte, .byte]
  resolved := Array.replicate 1451 none
  statics := some 0 }

def pool10 : Array CpInfo := pool [(4, .class_ 6), (1, u "java/lang/Object"), (0, u "<init>"), (0, u "()V"), (5, .class_ 16), (1, u "java/lang/StringLatin1"), (73, u "canEncode"), (14, u "(C)Z"), (15, u "$assertionsDisabled"), (0, u "Z"), (98, .class_ 223), (1, u "java/lang/StringLatin1$LinesSpliterator"), (156, u "toBytes"), (1, u "(C)[B"), (7, .class_ 391), (0, u "java/lang/StringLatin1$CharsSpliterator")] 3

def k10m0 : Method := { name := "<init>", desc := "()V", sig := { parameters := [], returnType := none }, accessFlags := 0, code := none }
def k10c1 : Code := { maxStack := 2, maxLocals := 1, code := jdk_43_method_3_code, exceptionTable := #[], attributes := #[] }
def k10m1 : Method := { name := "canEncode", desc := "(C)Z", sig := { parameters := [.char], returnType := some .boolean }, accessFlags := 9, code := some k10c1 }
def k10c2 : Code := { maxStack := 4, maxLocals := 1, code := jdk_43_method_46_code, exceptionTable := #[], attributes := #[] }
def k10m2 : Method := { name := "toBytes", desc := "(C)[B", sig := { parameters := [.char], returnType := some (.array .byte) }, accessFlags := 9, code := some k10c2 }
/-- java/lang/StringLatin1 -/
def k10 : Class := { plain "java/lang/StringLatin1" (some 0) with
  accessFlags := 48
  interfaces := #[]
  cf := some (fileOf pool10 14 #[.nestMembers #[390, 221]] #[{ accessFlags := 0, nameIndex := 7, descriptorIndex := 8, attributes := #[] }, { accessFlags := 9, nameIndex := 90, descriptorIndex := 105, attributes := #[] }, { accessFlags := 9, nameIndex := 380, descriptorIndex := 382, attributes := #[] }] 48 4 #[] #[{ accessFlags := 4120, nameIndex := 121, descriptorIndex := 122, attributes := #[] }])
  fields := #[{ name := "$assertionsDisabled", type := .boolean, accessFlags := 4120, slot := 0, constantValue := 0 }]
  methods := #[k10m0, k10m1, k10m2]
  instanceTypes := #[]
  staticTypes := #[.boolean]
  resolved := Array.replicate 395 none
  statics := none }

def pool11 : Array CpInfo := pool [(1, .class_ 2), (0, u "java/lang/Cloneable"), (0, .class_ 4), (0, u "java/lang/Object")] 2

/-- java/lang/Cloneable -/
def k11 : Class := { plain "java/lang/Cloneable" (some 0) with
  accessFlags := 1537
  interfaces := #[]
  cf := some (fileOf pool11 1 #[] #[] 1537 3 #[] #[])
  fields := #[]
  methods := #[]
  instanceTypes := #[]
  staticTypes := #[]
  resolved := Array.replicate 7 none
  statics := none }

def pool12 : Array CpInfo := pool [(2, .class_ 4), (1, u "java/lang/Object"), (0, u "<init>"), (0, u "()V"), (17, .class_ 26), (1, u "jdk/internal/util/Preconditions"), (28, .class_ 56), (0, u "jdk/internal/util/Preconditions$4"), (57, .class_ 115), (0, u "jdk/internal/util/Preconditions$1"), (7, u "SIOOBE_FORMATTER"), (0, u "Ljava/util/function/BiFunction;"), (0, .class_ 126), (0, u "jdk/internal/util/Preconditions$2"), (3, u "AIOOBE_FORMATTER"), (0, .class_ 132), (0, u "jdk/internal/util/Preconditions$3"), (3, u "IOOBE_FORMATTER")] 57

def k12m0 : Method := { name := "<init>", desc := "()V", sig := { parameters := [], returnType := none }, accessFlags := 1, code := none }
/-- jdk/internal/util/Preconditions -/
def k12 : Class := { plain "jdk/internal/util/Preconditions" (some 0) with
  accessFlags := 33
  interfaces := #[]
  cf := some (fileOf pool12 24 #[.nestMembers #[55, 131, 125, 114]] #[{ accessFlags := 1, nameIndex := 5, descriptorIndex := 6, attributes := #[] }] 33 2 #[] #[{ accessFlags := 25, nameIndex := 123, descriptorIndex := 124, attributes := #[] }, { accessFlags := 25, nameIndex := 130, descriptorIndex := 124, attributes := #[] }, { accessFlags := 25, nameIndex := 136, descriptorIndex := 124, attributes := #[] }])
  fields := #[{ name := "SIOOBE_FORMATTER", type := (.object "java/util/function/BiFunction"), accessFlags := 25, slot := 0, constantValue := 0 }, { name := "AIOOBE_FORMATTER", type := (.object "java/util/function/BiFunction"), accessFlags := 25, slot := 1, constantValue := 0 }, { name := "IOOBE_FORMATTER", type := (.object "java/util/function/BiFunction"), accessFlags := 25, slot := 2, constantValue := 0 }]
  methods := #[k12m0]
  instanceTypes := #[]
  staticTypes := #[(.object "java/util/function/BiFunction"), (.object "java/util/function/BiFunction"), (.object "java/util/function/BiFunction")]
  resolved := Array.replicate 194 none
  statics := some 1 }

def pool13 : Array CpInfo := pool [(9, u "<init>"), (6, .class_ 18), (1, u "java/lang/Object"), (0, u "()V"), (1, .class_ 23), (1, u "jdk/internal/util/ArraysSupport"), (0, u "LOG2_ARRAY_LONG_INDEX_SCALE"), (0, u "I"), (2, u "U"), (0, u "Ljdk/internal/misc/Unsafe;"), (8, u "BIG_ENDIAN"), (0, u "Z"), (8, u "LOG2_BYTE_BIT_SIZE"), (4, u "LOG2_ARRAY_INT_INDEX_SCALE"), (54, u "JLA"), (0, u "Ljdk/internal/access/JavaLangAccess;"), (11, u "LOG2_ARRAY_BOOLEAN_INDEX_SCALE"), (9, u "LOG2_ARRAY_BYTE_INDEX_SCALE"), (5, u "LOG2_ARRAY_CHAR_INDEX_SCALE"), (5, u "LOG2_ARRAY_SHORT_INDEX_SCALE"), (18, u "LOG2_ARRAY_FLOAT_INDEX_SCALE"), (24, u "LOG2_ARRAY_DOUBLE_INDEX_SCALE"), (89, u "T_BOOLEAN"), (2, u "T_CHAR"), (1, u "T_FLOAT"), (1, u "T_DOUBLE"), (1, u "T_BYTE"), (1, u "T_SHORT"), (1, u "T_INT"), (1, u "T_LONG"), (1, u "SOFT_MAX_ARRAY_LENGTH")] 83

def k13m0 : Method := { name := "<init>", desc := "()V", sig := { parameters := [], returnType := none }, accessFlags := 2, code := none }
/-- jdk/internal/util/ArraysSupport -/
def k13 : Class := { plain "jdk/internal/util/ArraysSupport" (some 0) with
  accessFlags := 33
  interfaces := #[]
  cf := some (fileOf pool13 21 #[] #[{ accessFlags := 2, nameIndex := 9, descriptorIndex := 19, attributes := #[] }] 33 16 #[] #[{ accessFlags := 24, nameIndex := 28, descriptorIndex := 29, attributes := #[] }, { accessFlags := 26, nameIndex := 38, descriptorIndex := 39, attributes := #[] }, { accessFlags := 25, nameIndex := 121, descriptorIndex := 25, attributes := #[] }, { accessFlags := 25, nameIndex := 131, descriptorIndex := 25, attributes := #[] }, { accessFlags := 25, nameIndex := 137, descriptorIndex := 25, attributes := #[] }, { accessFlags := 25, nameIndex := 143, descriptorIndex := 25, attributes := #[] }, { accessFlags := 25, nameIndex := 53, descriptorIndex := 25, attributes := #[] }, { accessFlags := 25, nameIndex := 24, descriptorIndex := 25, attributes := #[] }, { accessFlags := 25, nameIndex := 162, descriptorIndex := 25, attributes := #[] }, { accessFlags := 25, nameIndex := 187, descriptorIndex := 25, attributes := #[] }, { accessFlags := 26, nameIndex := 48, descriptorIndex := 25, attributes := #[] }, { accessFlags := 25, nameIndex := 277, descriptorIndex := 25, attributes := #[] }, { accessFlags := 25, nameIndex := 280, descriptorIndex := 25, attributes := #[] }, { accessFlags := 25, nameIndex := 282, descriptorIndex := 25, attributes := #[] }, { accessFlags := 25, nameIndex := 284, descriptorIndex := 25, attributes := #[] }, { accessFlags := 25, nameIndex := 286, descriptorIndex := 25, attributes := #[] }, { accessFlags := 25, nameIndex := 288, descriptorIndex := 25, attributes := #[] }, { accessFlags := 25, nameIndex := 290, descriptorIndex := 25, attributes := #[] }, { accessFlags := 25, nameIndex := 292, descriptorIndex := 25, attributes := #[] }, { accessFlags := 26, nameIndex := 108, descriptorIndex := 109, attributes := #[] }, { accessFlags := 25, nameIndex := 294, descriptorIndex := 25, attributes := #[] }])
  fields := #[{ name := "U", type := (.object "jdk/internal/misc/Unsafe"), accessFlags := 24, slot := 0, constantValue := 0 }, { name := "BIG_ENDIAN", type := .boolean, accessFlags := 26, slot := 1, constantValue := 0 }, { name := "LOG2_ARRAY_BOOLEAN_INDEX_SCALE", type := .int, accessFlags := 25, slot := 2, constantValue := 0 }, { name := "LOG2_ARRAY_BYTE_INDEX_SCALE", type := .int, accessFlags := 25, slot := 3, constantValue := 0 }, { name := "LOG2_ARRAY_CHAR_INDEX_SCALE", type := .int, accessFlags := 25, slot := 4, constantValue := 0 }, { name := "LOG2_ARRAY_SHORT_INDEX_SCALE", type := .int, accessFlags := 25, slot := 5, constantValue := 0 }, { name := "LOG2_ARRAY_INT_INDEX_SCALE", type := .int, accessFlags := 25, slot := 6, constantValue := 0 }, { name := "LOG2_ARRAY_LONG_INDEX_SCALE", type := .int, accessFlags := 25, slot := 7, constantValue := 0 }, { name := "LOG2_ARRAY_FLOAT_INDEX_SCALE", type := .int, accessFlags := 25, slot := 8, constantValue := 0 }, { name := "LOG2_ARRAY_DOUBLE_INDEX_SCALE", type := .int, accessFlags := 25, slot := 9, constantValue := 0 }, { name := "LOG2_BYTE_BIT_SIZE", type := .int, accessFlags := 26, slot := 10, constantValue := 0 }, { name := "T_BOOLEAN", type := .int, accessFlags := 25, slot := 11, constantValue := 0 }, { name := "T_CHAR", type := .int, accessFlags := 25, slot := 12, constantValue := 0 }, { name := "T_FLOAT", type := .int, accessFlags := 25, slot := 13, constantValue := 0 }, { name := "T_DOUBLE", type := .int, accessFlags := 25, slot := 14, constantValue := 0 }, { name := "T_BYTE", type := .int, accessFlags := 25, slot := 15, constantValue := 0 }, { name := "T_SHORT", type := .int, accessFlags := 25, slot := 16, constantValue := 0 }, { name := "T_INT", type := .int, accessFlags := 25, slot := 17, constantValue := 0 }, { name := "T_LONG", type := .int, accessFlags := 25, slot := 18, constantValue := 0 }, { name := "JLA", type := (.object "jdk/internal/access/JavaLangAccess"), accessFlags := 26, slot := 19, constantValue := 0 }, { name := "SOFT_MAX_ARRAY_LENGTH", type := .int, accessFlags := 25, slot := 20, constantValue := 0 }]
  methods := #[k13m0]
  instanceTypes := #[]
  staticTypes := #[(.object "jdk/internal/misc/Unsafe"), .boolean, .int, .int, .int, .int, .int, .int, .int, .int, .int, .int, .int, .int, .int, .int, .int, .int, .int, (.object "jdk/internal/access/JavaLangAccess"), .int]
  resolved := Array.replicate 378 none
  statics := none }

/-- the primitive byte -/
def k14 : Class := { plain "byte" none with kind := .primitive 'B', accessFlags := 0x411 }
/-- [B -/
def k15 : Class := { plain "[B" (some 0) with kind := .array 14 .byte, interfaces := #[11, 4], accessFlags := 1041 }

/-- the primitive int -/
def k16 : Class := { plain "int" none with kind := .primitive 'I', accessFlags := 0x411 }
/-- [I -/
def k17 : Class := { plain "[I" (some 0) with kind := .array 16 .int, interfaces := #[11, 4], accessFlags := 1041 }

def heap : Heap := #[{ cls := 9, slots := #[.long 0, .int 1, .null, .int 0, .null, .int 0, .int 0], vm := .statics 9 },
  { cls := 12, slots := #[.null, .null, .null], vm := .statics 12 }]
def classes : Array Class := #[k0, k1, k2, k3, k4, k5, k6, k7, k8, k9, k10, k11, k12, k13, k14, k15, k16, k17]
def interned : List (Array UInt16 × Addr) := []
def slotsUsed : Nat := 10
def theMethod : MethodId := ⟨1, 1⟩
def args0 : Array Value := #[.int 3, .int 4, .int 5, .int 6]
def aboutOver (below : List Frame) : State where
  vm := { classes := classes, interned := interned.toArray }
  heap := heap
  slotsUsed := slotsUsed
  threads := #[{ frames := .invoking theMethod args0 :: below }]
def below0 : List Frame := [.native { method := ⟨0, 0⟩, args := #[] }]
def about1 : State := aboutOver below0
def p0 : Program := .bare "" "" ""
def e0 : Env := launch0.env 0 0 0
theorem w_frames : about1.frames = Frame.invoking theMethod args0 :: below0 := rfl
set_option maxRecDepth 65536 in
theorem w_args : argsFit about1.vm theMethod args0 = true := by decide +kernel
set_option maxRecDepth 65536 in
theorem w_heap : heapFits about1 = true := by decide +kernel
set_option maxRecDepth 65536 in
theorem w_runnable : about1.curStatus? = some .runnable := by decide +kernel
set_option maxRecDepth 65536 in
theorem w_alone : about1.alone = true := by decide +kernel
set_option maxRecDepth 65536 in
theorem w_named : about1.methodNamed? x = some theMethod := by decide +kernel
set_option maxRecDepth 65536 in
theorem w_hears : about1.hears theMethod below0 = true := by decide +kernel
set_option maxRecDepth 65536 in
theorem w_ripe : about1.ripe theMethod args0 below0 = true := by decide +kernel
theorem w_running : about1.status = .running := rfl
set_option maxRecDepth 65536 in
theorem w_room : about1.hasRoom e0.platform room_1 = true :=
  launch0.hasRoom_least _ room_1 (by decide +kernel) (by decide +kernel) (by decide +kernel) (by decide +kernel) (by decide +kernel) (by decide +kernel)
theorem allAtoms_all (ts : List Jvm.Cond) (a : Array Jvm.Value) (st : Jvm.State) : (allAtoms ts).before a st = ts.all (fun c => c.before a st) := by
  induction ts with
  | nil => rfl
  | cons c t ih =>
    show (Jvm.Cond.and c (allAtoms t)).before a st = _
    rw [Jvm.Cond.before_and, ih, List.all_cons]
def words1 : List Jvm.Cond := Jvm.Cond.code x code maxLocals ret :: tables_1
/-- a 'code' word, met by the world's own term for the bytes: nothing is compared byte by byte -/
theorem code_word {y : MethodName} {bytes : ByteArray} {mx : Nat} {rt : Option FieldType} {a : Array Value} {s : State} {m : MethodId} {meth : Method} {c : Code} (h1 : s.methodNamed? y = some m) (h2 : s.vm.method? m = some meth) (h3 : meth.code = some c) (h4 : c.code = bytes)
    (h5 : (c.maxLocals == mx && c.exceptionTable.isEmpty && decide (c.maxStack ≤ mostOperands) && decide (meth.sig.returnType = rt) && !meth.locks && decide (parseMethodDescriptor y.desc = some meth.sig)) = true) : (Jvm.Cond.code y bytes mx rt).before a s = true := by
  simp only [Bool.and_eq_true, beq_iff_eq, Bool.not_eq_true', decide_eq_true_eq] at h5
  obtain ⟨⟨⟨⟨⟨g1, g2⟩, g3⟩, g4⟩, g5⟩, g6⟩ := h5
  simp [Cond.before, Cond.holds, Cond.value, h1, h2, h3, h4, g1, g2, g3, g4, g5, g6]
def isCode : Jvm.Cond → Bool
  | .code _ _ _ _ => true
  | _ => false
theorem all_split {L : List Jvm.Cond} {P : Jvm.Cond → Bool} (h1 : L.all (fun c => isCode c || P c) = true) (h2 : ∀ c ∈ L.filter isCode, P c = true) : L.all P = true := by
  refine List.all_eq_true.mpr fun c hc => ?_
  have h := List.all_eq_true.mp h1 c hc
  rcases Bool.eq_false_or_eq_true (isCode c) with hi | hi
  · exact h2 c (List.mem_filter.mpr ⟨hc, hi⟩)
  · simpa [hi] using h
set_option maxRecDepth 65536 in
theorem w_c0 : (Jvm.Cond.code x code maxLocals ret).before args0 about1 = true := code_word (m := ⟨1, 1⟩) (meth := k1m1) (c := k1c1) (by decide +kernel) rfl rfl rfl (by decide +kernel)
set_option maxRecDepth 65536 in
theorem w_c1 : (Jvm.Cond.code ({ cls := "java/lang/String", name := "valueOf", desc := "(C)Ljava/lang/String;" } : Jvm.MethodName) jdk_42_method_139_code (1 : Nat) (Option.some (Jvm.ClassFile.FieldType.object "java/lang/String"))).before args0 about1 = true := code_word (m := ⟨9, 1⟩) (meth := k9m1) (c := k9c1) (by decide +kernel) rfl rfl rfl (by decide +kernel)
set_option maxRecDepth 65536 in
theorem w_c2 : (Jvm.Cond.code ({ cls := "java/lang/StringLatin1", name := "canEncode", desc := "(C)Z" } : Jvm.MethodName) jdk_43_method_3_code (1 : Nat) (Option.some Jvm.ClassFile.FieldType.boolean)).before args0 about1 = true := code_word (m := ⟨10, 1⟩) (meth := k10m1) (c := k10c1) (by decide +kernel) rfl rfl rfl (by decide +kernel)
set_option maxRecDepth 65536 in
theorem w_c3 : (Jvm.Cond.code ({ cls := "java/lang/StringLatin1", name := "toBytes", desc := "(C)[B" } : Jvm.MethodName) jdk_43_method_46_code (1 : Nat) (Option.some (Jvm.ClassFile.FieldType.array Jvm.ClassFile.FieldType.byte))).before args0 about1 = true := code_word (m := ⟨10, 2⟩) (meth := k10m2) (c := k10c2) (by decide +kernel) rfl rfl rfl (by decide +kernel)
set_option maxRecDepth 65536 in
theorem w_c4 : (Jvm.Cond.code ({ cls := "java/lang/String", name := "<init>", desc := "([BB)V" } : Jvm.MethodName) jdk_42_method_151_code (3 : Nat) (Option.none : Option Jvm.ClassFile.FieldType)).before args0 about1 = true := code_word (m := ⟨9, 2⟩) (meth := k9m2) (c := k9c2) (by decide +kernel) rfl rfl rfl (by decide +kernel)
set_option maxRecDepth 65536 in
theorem w_c5 : (Jvm.Cond.code ({ cls := "java/lang/Object", name := "<init>", desc := "()V" } : Jvm.MethodName) object_method_1_code (1 : Nat) (Option.none : Option Jvm.ClassFile.FieldType)).before args0 about1 = true := code_word (m := ⟨0, 0⟩) (meth := k0m0) (c := k0c0) (by decide +kernel) rfl rfl rfl (by decide +kernel)
set_option maxRecDepth 65536 in
theorem w_c6 : (Jvm.Cond.code ({ cls := "com/example/relampago/relampago/lcp/Call", name := "<init>", desc := "(Ljava/lang/String;[BLjava/lang/String;[B)V" } : Jvm.MethodName) prog_8_method_1_code (5 : Nat) (Option.none : Option Jvm.ClassFile.FieldType)).before args0 about1 = true := code_word (m := ⟨3, 0⟩) (meth := k3m0) (c := k3c0) (by decide +kernel) rfl rfl rfl (by decide +kernel)
set_option maxRecDepth 65536 in
theorem w_c7 : (Jvm.Cond.code ({ cls := "java/lang/Record", name := "<init>", desc := "()V" } : Jvm.MethodName) jdk_30_method_1_code (1 : Nat) (Option.none : Option Jvm.ClassFile.FieldType)).before args0 about1 = true := code_word (m := ⟨2, 0⟩) (meth := k2m0) (c := k2c0) (by decide +kernel) rfl rfl rfl (by decide +kernel)
set_option maxRecDepth 65536 in
theorem w_c8 : (Jvm.Cond.code ({ cls := "com/example/relampago/relampago/lcp/CallParamsPinLaw", name := "bump", desc := "([BI)V" } : Jvm.MethodName) method_3_code (2 : Nat) (Option.none : Option Jvm.ClassFile.FieldType)).before args0 about1 = true := code_word (m := ⟨1, 2⟩) (meth := k1m2) (c := k1c2) (by decide +kernel) rfl rfl rfl (by decide +kernel)
set_option maxRecDepth 65536 in
theorem w_c9 : (Jvm.Cond.code ({ cls := "com/example/relampago/relampago/lcp/Call", name := "params", desc := "()[B" } : Jvm.MethodName) prog_8_method_3_code (1 : Nat) (Option.some (Jvm.ClassFile.FieldType.array Jvm.ClassFile.FieldType.byte))).before args0 about1 = true := code_word (m := ⟨3, 1⟩) (meth := k3m1) (c := k3c1) (by decide +kernel) rfl rfl rfl (by decide +kernel)
set_option maxRecDepth 65536 in
theorem w_c10 : (Jvm.Cond.code ({ cls := "com/example/relampago/relampago/lcp/CallParamsPinLaw", name := "same", desc := "([BIBBB)Z" } : Jvm.MethodName) method_4_code (5 : Nat) (Option.some Jvm.ClassFile.FieldType.boolean)).before args0 about1 = true := code_word (m := ⟨1, 3⟩) (meth := k1m3) (c := k1c3) (by decide +kernel) rfl rfl rfl (by decide +kernel)
def codes1 : List Jvm.Cond := [Jvm.Cond.code x code maxLocals ret, Jvm.Cond.code ({ cls := "java/lang/String", name := "valueOf", desc := "(C)Ljava/lang/String;" } : Jvm.MethodName) jdk_42_method_139_code (1 : Nat) (Option.some (Jvm.ClassFile.FieldType.object "java/lang/String")), Jvm.Cond.code ({ cls := "java/lang/StringLatin1", name := "canEncode", desc := "(C)Z" } : Jvm.MethodName) jdk_43_method_3_code (1 : Nat) (Option.some Jvm.ClassFile.FieldType.boolean), Jvm.Cond.code ({ cls := "java/lang/StringLatin1", name := "toBytes", desc := "(C)[B" } : Jvm.MethodName) jdk_43_method_46_code (1 : Nat) (Option.some (Jvm.ClassFile.FieldType.array Jvm.ClassFile.FieldType.byte)), Jvm.Cond.code ({ cls := "java/lang/String", name := "<init>", desc := "([BB)V" } : Jvm.MethodName) jdk_42_method_151_code (3 : Nat) (Option.none : Option Jvm.ClassFile.FieldType), Jvm.Cond.code ({ cls := "java/lang/Object", name := "<init>", desc := "()V" } : Jvm.MethodName) object_method_1_code (1 : Nat) (Option.none : Option Jvm.ClassFile.FieldType), Jvm.Cond.code ({ cls := "com/example/relampago/relampago/lcp/Call", name := "<init>", desc := "(Ljava/lang/String;[BLjava/lang/String;[B)V" } : Jvm.MethodName) prog_8_method_1_code (5 : Nat) (Option.none : Option Jvm.ClassFile.FieldType), Jvm.Cond.code ({ cls := "java/lang/Record", name := "<init>", desc := "()V" } : Jvm.MethodName) jdk_30_method_1_code (1 : Nat) (Option.none : Option Jvm.ClassFile.FieldType), Jvm.Cond.code ({ cls := "com/example/relampago/relampago/lcp/CallParamsPinLaw", name := "bump", desc := "([BI)V" } : Jvm.MethodName) method_3_code (2 : Nat) (Option.none : Option Jvm.ClassFile.FieldType), Jvm.Cond.code ({ cls := "com/example/relampago/relampago/lcp/Call", name := "params", desc := "()[B" } : Jvm.MethodName) prog_8_method_3_code (1 : Nat) (Option.some (Jvm.ClassFile.FieldType.array Jvm.ClassFile.FieldType.byte)), Jvm.Cond.code ({ cls := "com/example/relampago/relampago/lcp/CallParamsPinLaw", name := "same", desc := "([BIBBB)Z" } : Jvm.MethodName) method_4_code (5 : Nat) (Option.some Jvm.ClassFile.FieldType.boolean)]
set_option maxRecDepth 65536 in
theorem codes_eq : words1.filter isCode = codes1 := rfl
theorem w_codes : ∀ c ∈ words1.filter isCode, c.before args0 about1 = true := by
  rw [codes_eq]
  intro c hc
  simp only [codes1, List.mem_cons, List.not_mem_nil, or_false] at hc
  rcases hc with rfl | rfl | rfl | rfl | rfl | rfl | rfl | rfl | rfl | rfl | rfl
  · exact w_c0
  · exact w_c1
  · exact w_c2
  · exact w_c3
  · exact w_c4
  · exact w_c5
  · exact w_c6
  · exact w_c7
  · exact w_c8
  · exact w_c9
  · exact w_c10
set_option maxRecDepth 65536 in
theorem w_t1 : (words1.take 24).all (fun c => isCode c || c.before args0 about1) = true := by decide +kernel
set_option maxRecDepth 65536 in
theorem w_t2 : ((words1.drop 24).take 24).all (fun c => isCode c || c.before args0 about1) = true := by decide +kernel
set_option maxRecDepth 65536 in
theorem w_t3 : ((words1.drop 24).drop 24).all (fun c => isCode c || c.before args0 about1) = true := by decide +kernel
theorem w_tables : (allAtoms (Jvm.Cond.code x code maxLocals ret :: tables_1)).before args0 about1 = true := by
  rw [allAtoms_all]
  show words1.all (fun c => c.before args0 about1) = true
  refine all_split ?_ w_codes
  rw [← List.take_append_drop 24 words1, List.all_append, w_t1, ← List.take_append_drop 24 (words1.drop 24), List.all_append, w_t2, w_t3]
  rfl
set_option maxRecDepth 65536 in
theorem w_rest : rest_1_c.before args0 about1 = true := by decide +kernel
set_option maxRecDepth 65536 in
theorem w_case : (Jvm.Cond.and given_1 narrow_1).before args0 about1 = true := by decide +kernel
theorem w_applies : (headSpec (Jvm.Cond.code x code maxLocals ret :: tables_1) room_1).applies x e0.platform about1 = true :=
  (Spec.applies_iff w_frames).mpr ⟨w_running, w_runnable, w_alone, w_named, w_hears, w_ripe, w_room, w_tables⟩
theorem atStart : AtStart classFile x code maxLocals ret World_1 tables_1 room_1 Calls_1 rest_1 Pre_1 launch0 p0 e0 about1 theMethod args0 below0 :=
  ⟨lists_1, trivial, launch0.admits_env _ _ _, launch0.least_env, fairChoices_fair.cas, fairChoices_fair.clock, w_frames, w_args, w_heap, w_applies, trivial, w_rest, w_case⟩
end start1
theorem witness_1 : WitnessClaimed_1 := ⟨start1.p0, start1.e0, start1.about1, start1.theMethod, start1.args0, start1.below0, start1.atStart⟩
end Jvm.Pilot.@@N@@
