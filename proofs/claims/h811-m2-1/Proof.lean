import JvmDerived
import JvmDerived.Pilot.@@N@@Statement
import JvmDerived.Pilot.@@N@@Code
set_option linter.unusedVariables false
set_option linter.unusedSimpArgs false
namespace Jvm.Pilot.@@N@@
open Jvm Jvm.ClassFile Sem Op Lib Jvm.Free Jvm.Stand Jvm.LawKit Jvm.RoadKit Bundle Jvm.Pilot.@@N@@.Jvm.D
/-! own_Go: a walk still to be made from the state A; every step of the machine is one own_by. -/
def own_Go (tb : Tables) (e : Env) (below : List Frame) (A : State) (R : Outcome → State → Prop) : Prop := ∃ s₂ o, Steps tb e below A s₂ ∧ s₂.status = .running ∧ Ended s₂ below o ∧ R o s₂
theorem own_by {tb : Tables} {e : Env} {below : List Frame} {A B : State} {R : Outcome → State → Prop} (h : ∀ t, Steps tb e below A t → Steps tb e below B t) (g : own_Go tb e below A R) : own_Go tb e below B R := by
  obtain ⟨s₂, o, h1, h2⟩ := g
  exact ⟨s₂, o, h _ h1, h2⟩
def own_R (s : State) (Q : Option Value → Heap → List Loc → Prop) (cc nn : Nat) (o : Outcome) (U : State) : Prop := ∃ v L, o = .returned v ∧ Q v U.heap L ∧ FrameEnd s o U L cc nn
abbrev own_lrem (x y : Int64) : Int64 := x - (x / y) * y
section OwnEnds
variable {p : Program} {l : Launch} {e : Env} {R : Room} {s : State} {m : MethodId} {args : Array Value} {below : List Frame} {meth : Method} {c : Code} {T : State} {locs : List Loc} {cells slots : Nat} {Q : Option Value → Heap → List Loc → Prop} {cc nn : Nat}
theorem own_fin (X : Stand p l e R s m args below meth c T locs cells slots) {v : Option Value} (hv : meth.sig.returnType = none → v = none) (hlk : meth.locks = false) {B : State}
    (hs : ∀ fs, (∀ (f : JFrame) (acts : List Action), f.method = m → f.locked = none → f.entered = [] → (doReturn e (T.setTop f) acts v).1 = T.setFrames fs) → Steps p.tables e below B (T.setFrames fs))
    (hq : Q v T.heap locs) (hc : cells ≤ cc) (hn : slots ≤ nn) : own_Go p.tables e below B (own_R s Q cc nn) := by
  obtain ⟨fs, hr, hrun, hended, hW, hsame⟩ := X.leave hv hlk
  exact ⟨_, _, hs fs hr, hrun, hended, v, locs, rfl, hq, ⟨_, rfl⟩, hW, hsame.mono hc hn⟩
theorem own_retN (X : Stand p l e R s m args below meth c T locs cells slots) (hx : p.tables.exec = Jvm.exec) {pc : Nat} {Ls : Array Slot} {z : Int32} {t : FieldType} {rest : List Value} (hret : meth.sig.returnType = some t) (hlk : meth.locks = false) (ht : t = .boolean ∨ t = .byte ∨ t = .char ∨ t = .short)
    (hd : decode c.code pc = .ok (.ireturn, 1)) (hq : Q (some (.int (nar t z))) T.heap locs) (hc : cells ≤ cc) (hn : slots ≤ nn) : own_Go p.tables e below (T.setTop (mkF m pc Ls (.int z :: rest))) (own_R s Q cc nn) :=
  own_fin X (fun h => by rw [hret] at h; cases h) hlk (fun fs hr => retN X hx hret ht hd hr) hq hc hn
theorem own_retI (X : Stand p l e R s m args below meth c T locs cells slots) (hx : p.tables.exec = Jvm.exec) {pc : Nat} {Ls : Array Slot} {z : Int32} (hret : meth.sig.returnType = some .int) (hlk : meth.locks = false)
    (hd : decode c.code pc = .ok (.ireturn, 1)) (hq : Q (some (.int z)) T.heap locs) (hc : cells ≤ cc) (hn : slots ≤ nn) : own_Go p.tables e below (T.setTop (mkF m pc Ls [.int z])) (own_R s Q cc nn) :=
  own_fin X (fun h => by rw [hret] at h; cases h) hlk (fun fs hr => X.ireturnOut hx hret rfl (Or.inl rfl) hd hr) hq hc hn
theorem own_retL (X : Stand p l e R s m args below meth c T locs cells slots) (hx : p.tables.exec = Jvm.exec) {pc : Nat} {Ls : Array Slot} {z : Int64} (hret : meth.sig.returnType = some .long) (hlk : meth.locks = false)
    (hd : decode c.code pc = .ok (.lreturn, 1)) (hq : Q (some (.long z)) T.heap locs) (hc : cells ≤ cc) (hn : slots ≤ nn) : own_Go p.tables e below (T.setTop (mkF m pc Ls [.long z])) (own_R s Q cc nn) :=
  own_fin X (fun h => by rw [hret] at h; cases h) hlk (fun fs hr => X.lreturnOut hx hret hd hr) hq hc hn
theorem own_retA (X : Stand p l e R s m args below meth c T locs cells slots) (hx : p.tables.exec = Jvm.exec) {pc : Nat} {Ls : Array Slot} {w : Value} {t : FieldType} (hret : meth.sig.returnType = some t) (hlk : meth.locks = false) (hw : w.isRef = true) (ht : t.isReference = true)
    (hd : decode c.code pc = .ok (.areturn, 1)) (hq : Q (some w) T.heap locs) (hc : cells ≤ cc) (hn : slots ≤ nn) : own_Go p.tables e below (T.setTop (mkF m pc Ls [w])) (own_R s Q cc nn) :=
  own_fin X (fun h => by rw [hret] at h; cases h) hlk (fun fs hr => X.areturnOut hx hw hret ht hd hr) hq hc hn
theorem own_retV (X : Stand p l e R s m args below meth c T locs cells slots) (hx : p.tables.exec = Jvm.exec) {pc : Nat} {Ls : Array Slot} (hret : meth.sig.returnType = none) (hlk : meth.locks = false)
    (hd : decode c.code pc = .ok (.return_, 1)) (hq : Q none T.heap locs) (hc : cells ≤ cc) (hn : slots ≤ nn) : own_Go p.tables e below (T.setTop (mkF m pc Ls [])) (own_R s Q cc nn) :=
  own_fin X (fun _ => rfl) hlk (fun fs hr => X.returnOut hx hret hd hr) hq hc hn
end OwnEnds
theorem own_nin {a b : Addr} (h : a ≠ b) : a ∉ [b] := fun q => h (List.mem_singleton.mp q)
theorem own_nin2 {a b c : Addr} (h : a ≠ b) (h' : a ≠ c) : a ∉ [b, c] := fun q => by
  rcases List.mem_cons.mp q with q | q
  · exact h q
  · exact h' (List.mem_singleton.mp q)
section OwnArrays
variable {p : Program} {l : Launch} {e : Env} {R : Room} {s : State} {m : MethodId} {args : Array Value} {below : List Frame} {meth : Method} {c : Code} {T : State} {locs : List Loc} {cells slots : Nat} {Z : State} {h : Heap} {a : Addr} {k : ClassId} {z j : Int32} {vs : List Value} {dv v : Value} {g : JFrame} {rest : List Value}
theorem own_iaload (X : Stand p l e R s m args below meth c T locs cells slots) (hx : p.tables.exec = Jvm.exec) (hZ : Z.Warmed39 s.vm) (eT : T.heap = h) (F : Arv Z h a k .int z vs dv) (hj : ¬ j < 0 ∧ j < z) (hv : vs.getD j.toNatClampNeg dv = v)
    (hg : g.method = m) (hs : g.stack = .int j :: .ref a :: rest) (hd : decode c.code g.pc = .ok (.iaload, 1)) (t : State) (kt : Steps p.tables e below (T.setTop { g with pc := g.pc + 1, stack := v :: rest }) t) : Steps p.tables e below (T.setTop g) t := by
  obtain ⟨cl, A, -, S, -, H, -⟩ := F
  exact X.iaload hx (by rw [eT]; exact A.1) (State.isArrayOf_alike hZ.alike A.2.1) A.2.2 (inb_of S hj) (H.at (inb_of S hj) hv) hg hs hd t kt
theorem own_caload (X : Stand p l e R s m args below meth c T locs cells slots) (hx : p.tables.exec = Jvm.exec) (hZ : Z.Warmed39 s.vm) (eT : T.heap = h) (F : Arv Z h a k .char z vs dv) (hj : ¬ j < 0 ∧ j < z) (hv : vs.getD j.toNatClampNeg dv = v)
    (hg : g.method = m) (hs : g.stack = .int j :: .ref a :: rest) (hd : decode c.code g.pc = .ok (.caload, 1)) (t : State) (kt : Steps p.tables e below (T.setTop { g with pc := g.pc + 1, stack := v :: rest }) t) : Steps p.tables e below (T.setTop g) t := by
  obtain ⟨cl, A, -, S, -, H, -⟩ := F
  exact X.caload hx (by rw [eT]; exact A.1) (State.isArrayOf_alike hZ.alike A.2.1) A.2.2 (inb_of S hj) (H.at (inb_of S hj) hv) hg hs hd t kt
theorem own_baload (X : Stand p l e R s m args below meth c T locs cells slots) (hx : p.tables.exec = Jvm.exec) (hZ : Z.Warmed39 s.vm) (eT : T.heap = h) (F : Arv Z h a k .byte z vs dv) (hj : ¬ j < 0 ∧ j < z) (hv : vs.getD j.toNatClampNeg dv = v)
    (hg : g.method = m) (hs : g.stack = .int j :: .ref a :: rest) (hd : decode c.code g.pc = .ok (.baload, 1)) (t : State) (kt : Steps p.tables e below (T.setTop { g with pc := g.pc + 1, stack := v :: rest }) t) : Steps p.tables e below (T.setTop g) t := by
  obtain ⟨cl, A, -, S, -, H, -⟩ := F
  exact X.baloadBytes hx (by rw [eT]; exact A.1) (State.isArrayOf_alike hZ.alike A.2.1) A.2.2 (inb_of S hj) (H.at (inb_of S hj) hv) hg hs hd t kt
theorem own_alen {ty : FieldType} (X : Stand p l e R s m args below meth c T locs cells slots) (hx : p.tables.exec = Jvm.exec) (hZ : Z.Warmed39 s.vm) (eT : T.heap = h) (F : Arv Z h a k ty z vs dv)
    (hg : g.method = m) (hs : g.stack = .ref a :: rest) (hd : decode c.code g.pc = .ok (.arraylength, 1)) (t : State) (kt : Steps p.tables e below (T.setTop { g with pc := g.pc + 1, stack := .int z :: rest }) t) : Steps p.tables e below (T.setTop g) t := by
  obtain ⟨cl, A, -, S, N, -, -⟩ := F
  exact X.arraylength hx (by rw [eT]; exact A.1) (State.isArrayOf_alike hZ.alike A.2.1) hg hs hd t (by rw [len_of S N]; exact kt)
end OwnArrays
section OwnBounds
variable {x k k' : Int32}
theorem own_i1 (h : x < k') (q : k'.toInt ≤ k.toInt) : x < k := by rw [Int32.lt_iff_toInt_lt] at *; omega
theorem own_i2 (h : ¬ k' < x) (q : k'.toInt < k.toInt) : x < k := by rw [Int32.lt_iff_toInt_lt] at *; omega
theorem own_i3 (h : ¬ x < k') (q : k.toInt ≤ k'.toInt) : ¬ x < k := by rw [Int32.lt_iff_toInt_lt] at *; omega
theorem own_i4 (h : k' < x) (q : k.toInt ≤ k'.toInt + 1) : ¬ x < k := by rw [Int32.lt_iff_toInt_lt] at *; omega
theorem own_j1 (h : k' < x) (q : k.toInt ≤ k'.toInt) : k < x := by rw [Int32.lt_iff_toInt_lt] at *; omega
theorem own_j2 (h : ¬ x < k') (q : k.toInt < k'.toInt) : k < x := by rw [Int32.lt_iff_toInt_lt] at *; omega
theorem own_j3 (h : ¬ k' < x) (q : k'.toInt ≤ k.toInt) : ¬ k < x := by rw [Int32.lt_iff_toInt_lt] at *; omega
theorem own_j4 (h : x < k') (q : k'.toInt ≤ k.toInt + 1) : ¬ k < x := by rw [Int32.lt_iff_toInt_lt] at *; omega
theorem own_q1 (h : x < k') (q : k'.toInt ≤ k.toInt) : ¬ x = k := fun u => by rw [Int32.lt_iff_toInt_lt] at *; subst u; omega
theorem own_q2 (h : k' < x) (q : k.toInt ≤ k'.toInt) : ¬ x = k := fun u => by rw [Int32.lt_iff_toInt_lt] at *; subst u; omega
theorem own_q3 (h : ¬ x < k') (q : k.toInt < k'.toInt) : ¬ x = k := fun u => by rw [Int32.lt_iff_toInt_lt] at *; subst u; omega
theorem own_q4 (h : ¬ k' < x) (q : k'.toInt < k.toInt) : ¬ x = k := fun u => by rw [Int32.lt_iff_toInt_lt] at *; subst u; omega
end OwnBounds
theorem own_sta_keep {Z : State} {h h' : Heap} {C n d : String} {w : Value} (F : Sta Z h C n d w) (K : Keep h h' []) : Sta Z h' C n d w := by
  obtain ⟨cf, i, k, f, st, cell, h1, h2, h3, h4, h5, r⟩ := F
  exact ⟨cf, i, k, f, st, cell, h1, h2, h3, h4, K.2.1 _ _ h5 List.not_mem_nil, r⟩
def own_pick (p0 : Int32) : Int32 := (if (p0 &&& (3 : Int32)) = (0 : Int32) then (10 : Int32) else (if (p0 &&& (3 : Int32)) = (1 : Int32) then (13 : Int32) else (nar .char (((p0.toUInt32 >>> ((2 : Int32) &&& 31).toUInt32).toInt32).toUInt32.toUInt16.toUInt32.toInt32))))
theorem pn_0 : plainName "com/example/ivaldi/ivaldi/io/TextPositionAdvancePinLaw" = true := by first | (simp [plainName, overriddenIn]; done) | decide +kernel
theorem d_method_2_code_0 : decode method_2_code 0 = .ok (.iload_n 0, 1) := by decide +kernel
theorem d_method_2_code_1 : decode method_2_code 1 = .ok (.iconst 3, 1) := by decide +kernel
theorem d_method_2_code_2 : decode method_2_code 2 = .ok (.iand, 1) := by decide +kernel
theorem d_method_2_code_3 : decode method_2_code 3 = .ok (.istore_n 1, 1) := by decide +kernel
theorem d_method_2_code_4 : decode method_2_code 4 = .ok (.iload_n 1, 1) := by decide +kernel
theorem d_method_2_code_5 : decode method_2_code 5 = .ok (.ifCond .ne 6, 3) := by decide +kernel
theorem d_method_2_code_8 : decode method_2_code 8 = .ok (.bipush 10, 2) := by decide +kernel
theorem d_method_2_code_10 : decode method_2_code 10 = .ok (.ireturn, 1) := by decide +kernel
theorem d_method_2_code_11 : decode method_2_code 11 = .ok (.iload_n 1, 1) := by decide +kernel
theorem d_method_2_code_12 : decode method_2_code 12 = .ok (.iconst 1, 1) := by decide +kernel
theorem d_method_2_code_13 : decode method_2_code 13 = .ok (.if_icmp .ne 6, 3) := by decide +kernel
theorem d_method_2_code_16 : decode method_2_code 16 = .ok (.bipush 13, 2) := by decide +kernel
theorem d_method_2_code_18 : decode method_2_code 18 = .ok (.ireturn, 1) := by decide +kernel
theorem d_method_2_code_19 : decode method_2_code 19 = .ok (.iload_n 0, 1) := by decide +kernel
theorem d_method_2_code_20 : decode method_2_code 20 = .ok (.iconst 2, 1) := by decide +kernel
theorem d_method_2_code_21 : decode method_2_code 21 = .ok (.iushr, 1) := by decide +kernel
theorem d_method_2_code_22 : decode method_2_code 22 = .ok (.i2c, 1) := by decide +kernel
theorem d_method_2_code_23 : decode method_2_code 23 = .ok (.ireturn, 1) := by decide +kernel
theorem ef_1 (m : MethodId) (p0 : Int32) : entryFrame m #[(.int p0)] 2 = mkF m 0 #[.val (.int p0), .unset] [] := by first | (simp [entryFrame, mkF, argsToLocals, Value.category]; done) | rfl
def Q_rm_own_pick (Z : State) (p0 : Int32)  (h0 : Heap) (n0 : Nat) (v : Option Value) (h : Heap) (L : List Loc) : Prop := v = some (.int (own_pick p0)) ∧ Fr n0 L ∧ h = h0
set_option maxRecDepth 65536 in
set_option maxHeartbeats 40000000 in
theorem rm_own_pick (l : Launch) (Z : State) (a0 : Array Value) (hw : ∀ d ∈ tables_1, d.before a0 Z = true) (ws : List Jvm.Cond) (p0 : Int32)  (h0 : Heap) (n0 : Nat) (Z0 : n0 ≤ h0.size)  :
    MetFree l (⟨"com/example/ivaldi/ivaldi/io/TextPositionAdvancePinLaw", "pick", "(I)C"⟩ : MethodName) (head1 (Jvm.Cond.code (⟨"com/example/ivaldi/ivaldi/io/TextPositionAdvancePinLaw", "pick", "(I)C"⟩ : MethodName) method_2_code 2 (some .char) :: ws) ({ frames := 0, cells := 0, slots := 0, locals := 0 } : Room)) (fun av_ U => av_ = #[(.int p0)] ∧ Z.Warmed39 U.vm ∧ U.heap = h0) (fun _ _ _ _ _ => True) (fun _ U o U' => ∃ v L, o = .returned v ∧ Q_rm_own_pick Z p0 h0 n0 v U'.heap L ∧ FrameEnd U o U' L ({ frames := 0, cells := 0, slots := 0, locals := 0 } : Room).cells ({ frames := 0, cells := 0, slots := 0, locals := 0 } : Room).slots) := by
  refine MetFree.of_bodySF (plainFor_of_name pn_0) hisR ?_
  intro p e s m args below meth c s₁ Bd hml0 hP hK
  obtain ⟨rfl, hZ, hh⟩ := hP
  have hx := Bd.exec
  have hby := Bd.bytes
  have hml : c.maxLocals = 2 := hml0
  have hown : s.vm.findClass "com/example/ivaldi/ivaldi/io/TextPositionAdvancePinLaw" = some m.cls := findClass_of_methodNamed Bd.named
  have hnm := (name_of_methodNamed Bd.named Bd.method).1
  have hlk : meth.locks = false := BodyLoose.notSynchronized Bd
  have X0 : Stand p l e ({ frames := 0, cells := 0, slots := 0, locals := 0 } : Room) s m #[(.int p0)] below meth c s₁ [] 0 0 := Stand.of_body Bd
  have e0 : s₁.heap = h0 := by rw [← hh, Bd.state]; rfl
  have N0 := Fr.nil n0
  refine own_by (fun _ kt => castTop (ef_1 m p0) kt) (R := own_R s (Q_rm_own_pick Z p0 h0 n0) 0 0) ?_
  show own_Go p.tables e below (s₁.setTop (mkF m 0 #[.val (.int p0), .unset] [])) _
  refine own_by (fun _ kt => XS.iloadN X0.here hx rfl (hb hby d_method_2_code_0) rfl kt) ?_
  show own_Go p.tables e below (s₁.setTop (mkF m 1 #[.val (.int p0), .unset] [(.int p0)])) _
  refine own_by (fun _ kt => XS.iconst X0.here hx rfl (hb hby d_method_2_code_1) kt) ?_
  show own_Go p.tables e below (s₁.setTop (mkF m 2 #[.val (.int p0), .unset] [(.int (3 : Int32)), (.int p0)])) _
  refine own_by (fun _ kt => XS.iand X0.here hx rfl (hb hby d_method_2_code_2) rfl kt) ?_
  show own_Go p.tables e below (s₁.setTop (mkF m 3 #[.val (.int p0), .unset] [(.int (p0 &&& (3 : Int32)))])) _
  refine own_by (fun _ kt => XS.istoreN X0.here hx rfl (hb hby d_method_2_code_3) rfl (l' := #[.val (.int p0), .val (.int (p0 &&& (3 : Int32)))]) rfl kt) ?_
  show own_Go p.tables e below (s₁.setTop (mkF m 4 #[.val (.int p0), .val (.int (p0 &&& (3 : Int32)))] [])) _
  refine own_by (fun _ kt => XS.iloadN X0.here hx rfl (hb hby d_method_2_code_4) rfl kt) ?_
  show own_Go p.tables e below (s₁.setTop (mkF m 5 #[.val (.int p0), .val (.int (p0 &&& (3 : Int32)))] [(.int (p0 &&& (3 : Int32)))])) _
  by_cases hc5_1 : (p0 &&& (3 : Int32)) = (0 : Int32)
  · refine own_by (fun _ kt => XS.ifNo X0.here hx rfl (hb hby d_method_2_code_5) rfl ((if0 _ _).trans (teq hc5_1).2) kt) ?_
    show own_Go p.tables e below (s₁.setTop (mkF m 8 #[.val (.int p0), .val (.int (p0 &&& (3 : Int32)))] [])) _
    refine own_by (fun _ kt => XS.bipush X0.here hx rfl (hb hby d_method_2_code_8) kt) ?_
    show own_Go p.tables e below (s₁.setTop (mkF m 10 #[.val (.int p0), .val (.int (p0 &&& (3 : Int32)))] [(.int (10 : Int32))])) _
    exact own_retN X0 hx (t := .char) Bd.returns hlk (by simp) (hb hby d_method_2_code_10) ⟨by rw [own_pick, if_pos hc5_1] <;> rfl, N0, e0⟩ (by decide) (by decide)
  · refine own_by (fun _ kt => XS.ifYes X0.here hx rfl (pc0 := 5) (pc' := 11) rfl (hb hby d_method_2_code_5) rfl ((if0 _ _).trans (feq hc5_1).2) (by decide) (by decide) kt) ?_
    show own_Go p.tables e below (s₁.setTop (mkF m 11 #[.val (.int p0), .val (.int (p0 &&& (3 : Int32)))] [])) _
    refine own_by (fun _ kt => XS.iloadN X0.here hx rfl (hb hby d_method_2_code_11) rfl kt) ?_
    show own_Go p.tables e below (s₁.setTop (mkF m 12 #[.val (.int p0), .val (.int (p0 &&& (3 : Int32)))] [(.int (p0 &&& (3 : Int32)))])) _
    refine own_by (fun _ kt => XS.iconst X0.here hx rfl (hb hby d_method_2_code_12) kt) ?_
    show own_Go p.tables e below (s₁.setTop (mkF m 13 #[.val (.int p0), .val (.int (p0 &&& (3 : Int32)))] [(.int (1 : Int32)), (.int (p0 &&& (3 : Int32)))])) _
    by_cases hc13_2 : (p0 &&& (3 : Int32)) = (1 : Int32)
    · refine own_by (fun _ kt => XS.icmpNo X0.here hx rfl (hb hby d_method_2_code_13) rfl (teq hc13_2).2 kt) ?_
      show own_Go p.tables e below (s₁.setTop (mkF m 16 #[.val (.int p0), .val (.int (p0 &&& (3 : Int32)))] [])) _
      refine own_by (fun _ kt => XS.bipush X0.here hx rfl (hb hby d_method_2_code_16) kt) ?_
      show own_Go p.tables e below (s₁.setTop (mkF m 18 #[.val (.int p0), .val (.int (p0 &&& (3 : Int32)))] [(.int (13 : Int32))])) _
      exact own_retN X0 hx (t := .char) Bd.returns hlk (by simp) (hb hby d_method_2_code_18) ⟨by rw [own_pick, if_neg hc5_1, if_pos hc13_2] <;> rfl, N0, e0⟩ (by decide) (by decide)
    · refine own_by (fun _ kt => XS.icmpYes X0.here hx rfl (pc0 := 13) (pc' := 19) rfl (hb hby d_method_2_code_13) rfl (feq hc13_2).2 (by decide) (by decide) kt) ?_
      show own_Go p.tables e below (s₁.setTop (mkF m 19 #[.val (.int p0), .val (.int (p0 &&& (3 : Int32)))] [])) _
      refine own_by (fun _ kt => XS.iloadN X0.here hx rfl (hb hby d_method_2_code_19) rfl kt) ?_
      show own_Go p.tables e below (s₁.setTop (mkF m 20 #[.val (.int p0), .val (.int (p0 &&& (3 : Int32)))] [(.int p0)])) _
      refine own_by (fun _ kt => XS.iconst X0.here hx rfl (hb hby d_method_2_code_20) kt) ?_
      show own_Go p.tables e below (s₁.setTop (mkF m 21 #[.val (.int p0), .val (.int (p0 &&& (3 : Int32)))] [(.int (2 : Int32)), (.int p0)])) _
      refine own_by (fun _ kt => XS.iushr X0.here hx rfl (hb hby d_method_2_code_21) rfl kt) ?_
      show own_Go p.tables e below (s₁.setTop (mkF m 22 #[.val (.int p0), .val (.int (p0 &&& (3 : Int32)))] [(.int ((p0.toUInt32 >>> ((2 : Int32) &&& 31).toUInt32).toInt32))])) _
      refine own_by (fun _ kt => XS.i2c X0.here hx rfl (hb hby d_method_2_code_22) rfl kt) ?_
      show own_Go p.tables e below (s₁.setTop (mkF m 23 #[.val (.int p0), .val (.int (p0 &&& (3 : Int32)))] [(.int (((p0.toUInt32 >>> ((2 : Int32) &&& 31).toUInt32).toInt32).toUInt32.toUInt16.toUInt32.toInt32))])) _
      exact own_retN X0 hx (t := .char) Bd.returns hlk (by simp) (hb hby d_method_2_code_23) ⟨by rw [own_pick, if_neg hc5_1, if_neg hc13_2] <;> rfl, N0, e0⟩ (by decide) (by decide)
def own_ln (c r l : Int32) : Int32 := if c = 10 then (if r = 0 then l + 1 else l) else (if c = 13 then l + 1 else l)
def own_cl (c r k : Int32) : Int32 := if c = 10 then (if r = 0 then 1 else k) else (if c = 13 then 1 else k + 1)
def own_ar (c r : Int32) : Int32 := if c = 10 then (if r = 0 then 0 else 0) else (if c = 13 then 1 else 0)
theorem pn_1 : plainName "com/example/ivaldi/ivaldi/io/TextPosition" = true := by first | (simp [plainName, overriddenIn]; done) | decide +kernel
theorem d_prog_69_method_1_code_0 : decode prog_69_method_1_code 0 = .ok (.aload_n 0, 1) := by decide +kernel
theorem d_prog_69_method_1_code_1 : decode prog_69_method_1_code 1 = .ok (.invokespecial 1, 3) := by decide +kernel
theorem pd_0 : parseMethodDescriptor "()V" = some ⟨[], none⟩ := by decide +kernel
theorem d_prog_69_method_1_code_4 : decode prog_69_method_1_code 4 = .ok (.aload_n 0, 1) := by decide +kernel
theorem d_prog_69_method_1_code_5 : decode prog_69_method_1_code 5 = .ok (.iconst 1, 1) := by decide +kernel
theorem d_prog_69_method_1_code_6 : decode prog_69_method_1_code 6 = .ok (.putfield 7, 3) := by decide +kernel
theorem d_prog_69_method_1_code_9 : decode prog_69_method_1_code 9 = .ok (.aload_n 0, 1) := by decide +kernel
theorem d_prog_69_method_1_code_10 : decode prog_69_method_1_code 10 = .ok (.iconst 1, 1) := by decide +kernel
theorem d_prog_69_method_1_code_11 : decode prog_69_method_1_code 11 = .ok (.putfield 13, 3) := by decide +kernel
theorem d_prog_69_method_1_code_14 : decode prog_69_method_1_code 14 = .ok (.return_, 1) := by decide +kernel
theorem ef_2 (m : MethodId) (a : Addr) : entryFrame m #[(.ref a)] 1 = mkF m 0 #[.val (.ref a)] [] := by first | (simp [entryFrame, mkF, argsToLocals, Value.category]; done) | rfl
def Q_rm_init (Z : State) (a : Addr)  (h0 : Heap) (n0 : Nat) (v : Option Value) (h : Heap) (L : List Loc) : Prop := v = none ∧ Fr n0 L ∧ Keep h0 h [a] ∧ Exa Z h a "com/example/ivaldi/ivaldi/io/TextPosition" ∧ Fld Z h a "com/example/ivaldi/ivaldi/io/TextPosition" "line" "I" (.int (1 : Int32)) ∧ Fld Z h a "com/example/ivaldi/ivaldi/io/TextPosition" "column" "I" (.int (1 : Int32)) ∧ Fld Z h a "com/example/ivaldi/ivaldi/io/TextPosition" "afterReturn" "Z" (.int (0 : Int32))
set_option maxRecDepth 65536 in
set_option maxHeartbeats 40000000 in
theorem rm_init (l : Launch) (Z : State) (a0 : Array Value) (hw : ∀ d ∈ tables_1, d.before a0 Z = true) (ws : List Jvm.Cond) (a : Addr)  (h0 : Heap) (n0 : Nat) (Z0 : n0 ≤ h0.size) (F_line_a : Fld Z h0 a "com/example/ivaldi/ivaldi/io/TextPosition" "line" "I" (.int (0 : Int32))) (F_column_a : Fld Z h0 a "com/example/ivaldi/ivaldi/io/TextPosition" "column" "I" (.int (0 : Int32))) (F_afterReturn_a : Fld Z h0 a "com/example/ivaldi/ivaldi/io/TextPosition" "afterReturn" "Z" (.int (0 : Int32))) (E_a : Exa Z h0 a "com/example/ivaldi/ivaldi/io/TextPosition") (gn_a : n0 ≤ a) :
    MetFree l (⟨"com/example/ivaldi/ivaldi/io/TextPosition", "<init>", "()V"⟩ : MethodName) (head1 (Jvm.Cond.code (⟨"com/example/ivaldi/ivaldi/io/TextPosition", "<init>", "()V"⟩ : MethodName) prog_69_method_1_code 1 none :: ws) ({ frames := 1, cells := 0, slots := 0, locals := 12 } : Room)) (fun av_ U => av_ = #[(.ref a)] ∧ Z.Warmed39 U.vm ∧ U.heap = h0) (fun _ _ _ _ _ => True) (fun _ U o U' => ∃ v L, o = .returned v ∧ Q_rm_init Z a h0 n0 v U'.heap L ∧ FrameEnd U o U' L ({ frames := 1, cells := 0, slots := 0, locals := 12 } : Room).cells ({ frames := 1, cells := 0, slots := 0, locals := 12 } : Room).slots) := by
  refine MetFree.of_bodySF (plainFor_of_name pn_1) hisR ?_
  intro p e s m args below meth c s₁ Bd hml0 hP hK
  obtain ⟨rfl, hZ, hh⟩ := hP
  have hx := Bd.exec
  have hby := Bd.bytes
  have hml : c.maxLocals = 1 := hml0
  have hown : s.vm.findClass "com/example/ivaldi/ivaldi/io/TextPosition" = some m.cls := findClass_of_methodNamed Bd.named
  have hnm := (name_of_methodNamed Bd.named Bd.method).1
  have hlk : meth.locks = false := BodyLoose.notSynchronized Bd
  have X0 : Stand p l e ({ frames := 1, cells := 0, slots := 0, locals := 12 } : Room) s m #[(.ref a)] below meth c s₁ [] 0 0 := Stand.of_body Bd
  have e0 : s₁.heap = h0 := by rw [← hh, Bd.state]; rfl
  have N0 := Fr.nil n0
  refine own_by (fun _ kt => castTop (ef_2 m a) kt) (R := own_R s (Q_rm_init Z a h0 n0) 0 0) ?_
  show own_Go p.tables e below (s₁.setTop (mkF m 0 #[.val (.ref a)] [])) _
  refine own_by (fun _ kt => XS.aloadN X0.here hx rfl (hb hby d_prog_69_method_1_code_0) rfl rfl kt) ?_
  show own_Go p.tables e below (s₁.setTop (mkF m 1 #[.val (.ref a)] [(.ref a)])) _
  obtain ⟨T1, X1, e1, st1⟩ := initO X0 hx hZ hown (hw _ (List.mem_of_getElem? (i := 11) rfl)) (hw _ (List.mem_of_getElem? (i := 12) rfl)) (hw _ (List.mem_of_getElem? (i := 13) rfl)) e0 (g := (mkF m 1 #[.val (.ref a)] [(.ref a)])) rfl (by rw [hml]; rfl) rfl (hb hby d_prog_69_method_1_code_1) (by decide) (W := 0) (by show 2 * 0 + _ ≤ _; exact Nat.le_of_eq rfl) (by decide)
  refine own_by st1 ?_
  show own_Go p.tables e below (T1.setTop (mkF m 4 #[.val (.ref a)] [])) _
  refine own_by (fun _ kt => XS.aloadN X1.here hx rfl (hb hby d_prog_69_method_1_code_4) rfl rfl kt) ?_
  show own_Go p.tables e below (T1.setTop (mkF m 5 #[.val (.ref a)] [(.ref a)])) _
  refine own_by (fun _ kt => XS.iconst X1.here hx rfl (hb hby d_prog_69_method_1_code_5) kt) ?_
  show own_Go p.tables e below (T1.setTop (mkF m 6 #[.val (.ref a)] [(.int (1 : Int32)), (.ref a)])) _
  obtain ⟨T2, h2, X2, e2, W2, st2⟩ := putF X1 hx hZ hown (host := "") (Or.inl (hw _ (List.mem_of_getElem? (i := 14) rfl))) Via.refl e1 F_line_a E_a (Or.inl (hw _ (List.mem_of_getElem? (i := 15) rfl))) (hw _ (List.mem_of_getElem? (i := 6) rfl)) (ty := .int) (by decide) rfl rfl (g := (mkF m 6 #[.val (.ref a)] [(.int (1 : Int32)), (.ref a)])) rfl rfl (hb hby d_prog_69_method_1_code_6)
  have Fw2 := F_line_a.same W2
  have f3 := F_column_a.other W2 (Or.inr (slot_ne (Or.inl (hw _ (List.mem_of_getElem? (i := 17) rfl))) (Or.inl (hw _ (List.mem_of_getElem? (i := 15) rfl))) (by decide) (t := .int) (t' := .int) (by decide) (by decide)))
  have f4 := F_afterReturn_a.other W2 (Or.inr (slot_ne (Or.inl (hw _ (List.mem_of_getElem? (i := 24) rfl))) (Or.inl (hw _ (List.mem_of_getElem? (i := 15) rfl))) (by decide) (t := .boolean) (t' := .int) (by decide) (by decide)))
  have f5 := E_a.wr W2
  have Zs2 : n0 ≤ h2.size := by rw [W2.size]; exact Z0
  have K2 : Keep h0 h2 [a] := (Keep.refl h0 [a]).wr W2 (Or.inl (List.mem_of_getElem? (i := 0) rfl))
  have N2 := Fr.snoc X2 N0 gn_a
  refine own_by st2 ?_
  show own_Go p.tables e below (T2.setTop (mkF m 9 #[.val (.ref a)] [])) _
  refine own_by (fun _ kt => XS.aloadN X2.here hx rfl (hb hby d_prog_69_method_1_code_9) rfl rfl kt) ?_
  show own_Go p.tables e below (T2.setTop (mkF m 10 #[.val (.ref a)] [(.ref a)])) _
  refine own_by (fun _ kt => XS.iconst X2.here hx rfl (hb hby d_prog_69_method_1_code_10) kt) ?_
  show own_Go p.tables e below (T2.setTop (mkF m 11 #[.val (.ref a)] [(.int (1 : Int32)), (.ref a)])) _
  obtain ⟨T6, h6, X6, e6, W6, st6⟩ := putF X2 hx hZ hown (host := "") (Or.inl (hw _ (List.mem_of_getElem? (i := 16) rfl))) Via.refl e2 f3 f5 (Or.inl (hw _ (List.mem_of_getElem? (i := 17) rfl))) (hw _ (List.mem_of_getElem? (i := 6) rfl)) (ty := .int) (by decide) rfl rfl (g := (mkF m 11 #[.val (.ref a)] [(.int (1 : Int32)), (.ref a)])) rfl rfl (hb hby d_prog_69_method_1_code_11)
  have Fw6 := f3.same W6
  have f7 := Fw2.other W6 (Or.inr (slot_ne (Or.inl (hw _ (List.mem_of_getElem? (i := 15) rfl))) (Or.inl (hw _ (List.mem_of_getElem? (i := 17) rfl))) (by decide) (t := .int) (t' := .int) (by decide) (by decide)))
  have f8 := f4.other W6 (Or.inr (slot_ne (Or.inl (hw _ (List.mem_of_getElem? (i := 24) rfl))) (Or.inl (hw _ (List.mem_of_getElem? (i := 17) rfl))) (by decide) (t := .boolean) (t' := .int) (by decide) (by decide)))
  have f9 := f5.wr W6
  have Zs6 : n0 ≤ h6.size := by rw [W6.size]; exact Zs2
  have K6 : Keep h0 h6 [a] := K2.wr W6 (Or.inl (List.mem_of_getElem? (i := 0) rfl))
  have N6 := Fr.snoc X6 N2 gn_a
  refine own_by st6 ?_
  show own_Go p.tables e below (T6.setTop (mkF m 14 #[.val (.ref a)] [])) _
  exact own_retV X6 hx Bd.returns hlk (hb hby d_prog_69_method_1_code_14) (by rw [e6]; exact ⟨rfl, N6, K6, f9, f7, Fw6, f8⟩) (by decide) (by decide)
theorem d_prog_69_method_5_code_0 : decode prog_69_method_5_code 0 = .ok (.iload_n 1, 1) := by decide +kernel
theorem d_prog_69_method_5_code_1 : decode prog_69_method_5_code 1 = .ok (.bipush 10, 2) := by decide +kernel
theorem d_prog_69_method_5_code_3 : decode prog_69_method_5_code 3 = .ok (.if_icmp .ne 18, 3) := by decide +kernel
theorem d_prog_69_method_5_code_6 : decode prog_69_method_5_code 6 = .ok (.aload_n 0, 1) := by decide +kernel
theorem d_prog_69_method_5_code_7 : decode prog_69_method_5_code 7 = .ok (.getfield 27, 3) := by decide +kernel
theorem d_prog_69_method_5_code_10 : decode prog_69_method_5_code 10 = .ok (.ifCond .eq 11, 3) := by decide +kernel
theorem d_prog_69_method_5_code_21 : decode prog_69_method_5_code 21 = .ok (.iload_n 1, 1) := by decide +kernel
theorem d_prog_69_method_5_code_22 : decode prog_69_method_5_code 22 = .ok (.bipush 10, 2) := by decide +kernel
theorem d_prog_69_method_5_code_24 : decode prog_69_method_5_code 24 = .ok (.if_icmp .eq 9, 3) := by decide +kernel
theorem d_prog_69_method_5_code_33 : decode prog_69_method_5_code 33 = .ok (.aload_n 0, 1) := by decide +kernel
theorem d_prog_69_method_5_code_34 : decode prog_69_method_5_code 34 = .ok (.dup, 1) := by decide +kernel
theorem d_prog_69_method_5_code_35 : decode prog_69_method_5_code 35 = .ok (.getfield 7, 3) := by decide +kernel
theorem d_prog_69_method_5_code_38 : decode prog_69_method_5_code 38 = .ok (.iconst 1, 1) := by decide +kernel
theorem d_prog_69_method_5_code_39 : decode prog_69_method_5_code 39 = .ok (.iadd, 1) := by decide +kernel
theorem d_prog_69_method_5_code_40 : decode prog_69_method_5_code 40 = .ok (.putfield 7, 3) := by decide +kernel
theorem d_prog_69_method_5_code_43 : decode prog_69_method_5_code 43 = .ok (.aload_n 0, 1) := by decide +kernel
theorem d_prog_69_method_5_code_44 : decode prog_69_method_5_code 44 = .ok (.iconst 1, 1) := by decide +kernel
theorem d_prog_69_method_5_code_45 : decode prog_69_method_5_code 45 = .ok (.putfield 13, 3) := by decide +kernel
theorem d_prog_69_method_5_code_48 : decode prog_69_method_5_code 48 = .ok (.aload_n 0, 1) := by decide +kernel
theorem d_prog_69_method_5_code_49 : decode prog_69_method_5_code 49 = .ok (.iload_n 1, 1) := by decide +kernel
theorem d_prog_69_method_5_code_50 : decode prog_69_method_5_code 50 = .ok (.bipush 13, 2) := by decide +kernel
theorem d_prog_69_method_5_code_52 : decode prog_69_method_5_code 52 = .ok (.if_icmp .ne 7, 3) := by decide +kernel
theorem d_prog_69_method_5_code_59 : decode prog_69_method_5_code 59 = .ok (.iconst 0, 1) := by decide +kernel
theorem d_prog_69_method_5_code_60 : decode prog_69_method_5_code 60 = .ok (.putfield 27, 3) := by decide +kernel
theorem d_prog_69_method_5_code_63 : decode prog_69_method_5_code 63 = .ok (.goto 18, 3) := by decide +kernel
theorem d_prog_69_method_5_code_81 : decode prog_69_method_5_code 81 = .ok (.return_, 1) := by decide +kernel
theorem d_prog_69_method_5_code_13 : decode prog_69_method_5_code 13 = .ok (.aload_n 0, 1) := by decide +kernel
theorem d_prog_69_method_5_code_14 : decode prog_69_method_5_code 14 = .ok (.iconst 0, 1) := by decide +kernel
theorem d_prog_69_method_5_code_15 : decode prog_69_method_5_code 15 = .ok (.putfield 27, 3) := by decide +kernel
theorem d_prog_69_method_5_code_18 : decode prog_69_method_5_code 18 = .ok (.goto 63, 3) := by decide +kernel
theorem d_prog_69_method_5_code_27 : decode prog_69_method_5_code 27 = .ok (.iload_n 1, 1) := by decide +kernel
theorem d_prog_69_method_5_code_28 : decode prog_69_method_5_code 28 = .ok (.bipush 13, 2) := by decide +kernel
theorem d_prog_69_method_5_code_30 : decode prog_69_method_5_code 30 = .ok (.if_icmp .ne 36, 3) := by decide +kernel
theorem d_prog_69_method_5_code_55 : decode prog_69_method_5_code 55 = .ok (.iconst 1, 1) := by decide +kernel
theorem d_prog_69_method_5_code_56 : decode prog_69_method_5_code 56 = .ok (.goto 4, 3) := by decide +kernel
theorem d_prog_69_method_5_code_66 : decode prog_69_method_5_code 66 = .ok (.aload_n 0, 1) := by decide +kernel
theorem d_prog_69_method_5_code_67 : decode prog_69_method_5_code 67 = .ok (.dup, 1) := by decide +kernel
theorem d_prog_69_method_5_code_68 : decode prog_69_method_5_code 68 = .ok (.getfield 13, 3) := by decide +kernel
theorem d_prog_69_method_5_code_71 : decode prog_69_method_5_code 71 = .ok (.iconst 1, 1) := by decide +kernel
theorem d_prog_69_method_5_code_72 : decode prog_69_method_5_code 72 = .ok (.iadd, 1) := by decide +kernel
theorem d_prog_69_method_5_code_73 : decode prog_69_method_5_code 73 = .ok (.putfield 13, 3) := by decide +kernel
theorem d_prog_69_method_5_code_76 : decode prog_69_method_5_code 76 = .ok (.aload_n 0, 1) := by decide +kernel
theorem d_prog_69_method_5_code_77 : decode prog_69_method_5_code 77 = .ok (.iconst 0, 1) := by decide +kernel
theorem d_prog_69_method_5_code_78 : decode prog_69_method_5_code 78 = .ok (.putfield 27, 3) := by decide +kernel
theorem ef_3 (m : MethodId) (a : Addr) (c0 : Int32) : entryFrame m #[(.ref a), (.int c0)] 2 = mkF m 0 #[.val (.ref a), .val (.int c0)] [] := by first | (simp [entryFrame, mkF, argsToLocals, Value.category]; done) | rfl
def Q_rm_adv (Z : State) (a : Addr) (c0 : Int32) (l0 : Int32) (k0 : Int32) (r0 : Int32) (h0 : Heap) (n0 : Nat) (v : Option Value) (h : Heap) (L : List Loc) : Prop := v = none ∧ Fr n0 L ∧ Keep h0 h [a] ∧ Exa Z h a "com/example/ivaldi/ivaldi/io/TextPosition" ∧ Fld Z h a "com/example/ivaldi/ivaldi/io/TextPosition" "line" "I" (.int (own_ln c0 r0 l0)) ∧ Fld Z h a "com/example/ivaldi/ivaldi/io/TextPosition" "column" "I" (.int (own_cl c0 r0 k0)) ∧ Fld Z h a "com/example/ivaldi/ivaldi/io/TextPosition" "afterReturn" "Z" (.int (own_ar c0 r0))
set_option maxRecDepth 65536 in
set_option maxHeartbeats 40000000 in
theorem rm_adv (l : Launch) (Z : State) (a0 : Array Value) (hw : ∀ d ∈ tables_1, d.before a0 Z = true) (ws : List Jvm.Cond) (a : Addr) (c0 : Int32) (l0 : Int32) (k0 : Int32) (r0 : Int32) (h0 : Heap) (n0 : Nat) (Z0 : n0 ≤ h0.size) (F_line_a : Fld Z h0 a "com/example/ivaldi/ivaldi/io/TextPosition" "line" "I" (.int l0)) (F_column_a : Fld Z h0 a "com/example/ivaldi/ivaldi/io/TextPosition" "column" "I" (.int k0)) (F_afterReturn_a : Fld Z h0 a "com/example/ivaldi/ivaldi/io/TextPosition" "afterReturn" "Z" (.int r0)) (E_a : Exa Z h0 a "com/example/ivaldi/ivaldi/io/TextPosition") (gn_a : n0 ≤ a) :
    MetFree l (⟨"com/example/ivaldi/ivaldi/io/TextPosition", "advance", "(C)V"⟩ : MethodName) (head1 (Jvm.Cond.code (⟨"com/example/ivaldi/ivaldi/io/TextPosition", "advance", "(C)V"⟩ : MethodName) prog_69_method_5_code 2 none :: ws) ({ frames := 0, cells := 0, slots := 0, locals := 0 } : Room)) (fun av_ U => av_ = #[(.ref a), (.int c0)] ∧ Z.Warmed39 U.vm ∧ U.heap = h0) (fun _ _ _ _ _ => True) (fun _ U o U' => ∃ v L, o = .returned v ∧ Q_rm_adv Z a c0 l0 k0 r0 h0 n0 v U'.heap L ∧ FrameEnd U o U' L ({ frames := 0, cells := 0, slots := 0, locals := 0 } : Room).cells ({ frames := 0, cells := 0, slots := 0, locals := 0 } : Room).slots) := by
  refine MetFree.of_bodySF (plainFor_of_name pn_1) hisR ?_
  intro p e s m args below meth c s₁ Bd hml0 hP hK
  obtain ⟨rfl, hZ, hh⟩ := hP
  have hx := Bd.exec
  have hby := Bd.bytes
  have hml : c.maxLocals = 2 := hml0
  have hown : s.vm.findClass "com/example/ivaldi/ivaldi/io/TextPosition" = some m.cls := findClass_of_methodNamed Bd.named
  have hnm := (name_of_methodNamed Bd.named Bd.method).1
  have hlk : meth.locks = false := BodyLoose.notSynchronized Bd
  have X0 : Stand p l e ({ frames := 0, cells := 0, slots := 0, locals := 0 } : Room) s m #[(.ref a), (.int c0)] below meth c s₁ [] 0 0 := Stand.of_body Bd
  have e0 : s₁.heap = h0 := by rw [← hh, Bd.state]; rfl
  have N0 := Fr.nil n0
  refine own_by (fun _ kt => castTop (ef_3 m a c0) kt) (R := own_R s (Q_rm_adv Z a c0 l0 k0 r0 h0 n0) 0 0) ?_
  show own_Go p.tables e below (s₁.setTop (mkF m 0 #[.val (.ref a), .val (.int c0)] [])) _
  refine own_by (fun _ kt => XS.iloadN X0.here hx rfl (hb hby d_prog_69_method_5_code_0) rfl kt) ?_
  show own_Go p.tables e below (s₁.setTop (mkF m 1 #[.val (.ref a), .val (.int c0)] [(.int c0)])) _
  refine own_by (fun _ kt => XS.bipush X0.here hx rfl (hb hby d_prog_69_method_5_code_1) kt) ?_
  show own_Go p.tables e below (s₁.setTop (mkF m 3 #[.val (.ref a), .val (.int c0)] [(.int (10 : Int32)), (.int c0)])) _
  by_cases hc3_1 : c0 = (10 : Int32)
  · refine own_by (fun _ kt => XS.icmpNo X0.here hx rfl (hb hby d_prog_69_method_5_code_3) rfl (teq hc3_1).2 kt) ?_
    show own_Go p.tables e below (s₁.setTop (mkF m 6 #[.val (.ref a), .val (.int c0)] [])) _
    refine own_by (fun _ kt => XS.aloadN X0.here hx rfl (hb hby d_prog_69_method_5_code_6) rfl rfl kt) ?_
    show own_Go p.tables e below (s₁.setTop (mkF m 7 #[.val (.ref a), .val (.int c0)] [(.ref a)])) _
    obtain ⟨T2, X2, e2, st2⟩ := getF X0 hx hZ hown (host := "") (Or.inl (hw _ (List.mem_of_getElem? (i := 23) rfl))) Via.refl e0 F_afterReturn_a (g := (mkF m 7 #[.val (.ref a), .val (.int c0)] [(.ref a)])) rfl rfl (hb hby d_prog_69_method_5_code_7)
    refine own_by st2 ?_
    show own_Go p.tables e below (T2.setTop (mkF m 10 #[.val (.ref a), .val (.int c0)] [(.int r0)])) _
    by_cases hc10_3 : r0 = (0 : Int32)
    · refine own_by (fun _ kt => XS.ifYes X2.here hx rfl (pc0 := 10) (pc' := 21) rfl (hb hby d_prog_69_method_5_code_10) rfl ((if0 _ _).trans (teq hc10_3).1) (by decide) (by decide) kt) ?_
      show own_Go p.tables e below (T2.setTop (mkF m 21 #[.val (.ref a), .val (.int c0)] [])) _
      refine own_by (fun _ kt => XS.iloadN X2.here hx rfl (hb hby d_prog_69_method_5_code_21) rfl kt) ?_
      show own_Go p.tables e below (T2.setTop (mkF m 22 #[.val (.ref a), .val (.int c0)] [(.int c0)])) _
      refine own_by (fun _ kt => XS.bipush X2.here hx rfl (hb hby d_prog_69_method_5_code_22) kt) ?_
      show own_Go p.tables e below (T2.setTop (mkF m 24 #[.val (.ref a), .val (.int c0)] [(.int (10 : Int32)), (.int c0)])) _
      refine own_by (fun _ kt => XS.icmpYes X2.here hx rfl (pc0 := 24) (pc' := 33) rfl (hb hby d_prog_69_method_5_code_24) rfl (teq hc3_1).1 (by decide) (by decide) kt) ?_
      show own_Go p.tables e below (T2.setTop (mkF m 33 #[.val (.ref a), .val (.int c0)] [])) _
      refine own_by (fun _ kt => XS.aloadN X2.here hx rfl (hb hby d_prog_69_method_5_code_33) rfl rfl kt) ?_
      show own_Go p.tables e below (T2.setTop (mkF m 34 #[.val (.ref a), .val (.int c0)] [(.ref a)])) _
      refine own_by (fun _ kt => XS.dup X2.here hx rfl (hb hby d_prog_69_method_5_code_34) rfl rfl kt) ?_
      show own_Go p.tables e below (T2.setTop (mkF m 35 #[.val (.ref a), .val (.int c0)] [(.ref a), (.ref a)])) _
      obtain ⟨T4, X4, e4, st4⟩ := getF X2 hx hZ hown (host := "") (Or.inl (hw _ (List.mem_of_getElem? (i := 14) rfl))) Via.refl e2 F_line_a (g := (mkF m 35 #[.val (.ref a), .val (.int c0)] [(.ref a), (.ref a)])) rfl rfl (hb hby d_prog_69_method_5_code_35)
      refine own_by st4 ?_
      show own_Go p.tables e below (T4.setTop (mkF m 38 #[.val (.ref a), .val (.int c0)] [(.int l0), (.ref a)])) _
      refine own_by (fun _ kt => XS.iconst X4.here hx rfl (hb hby d_prog_69_method_5_code_38) kt) ?_
      show own_Go p.tables e below (T4.setTop (mkF m 39 #[.val (.ref a), .val (.int c0)] [(.int (1 : Int32)), (.int l0), (.ref a)])) _
      refine own_by (fun _ kt => XS.iadd X4.here hx rfl (hb hby d_prog_69_method_5_code_39) rfl kt) ?_
      show own_Go p.tables e below (T4.setTop (mkF m 40 #[.val (.ref a), .val (.int c0)] [(.int (l0 + (1 : Int32))), (.ref a)])) _
      obtain ⟨T5, h5, X5, e5, W5, st5⟩ := putF X4 hx hZ hown (host := "") (Or.inl (hw _ (List.mem_of_getElem? (i := 14) rfl))) Via.refl e4 F_line_a E_a (Or.inl (hw _ (List.mem_of_getElem? (i := 15) rfl))) (hw _ (List.mem_of_getElem? (i := 6) rfl)) (ty := .int) (by decide) rfl rfl (g := (mkF m 40 #[.val (.ref a), .val (.int c0)] [(.int (l0 + (1 : Int32))), (.ref a)])) rfl rfl (hb hby d_prog_69_method_5_code_40)
      have Fw5 := F_line_a.same W5
      have f6 := F_column_a.other W5 (Or.inr (slot_ne (Or.inl (hw _ (List.mem_of_getElem? (i := 17) rfl))) (Or.inl (hw _ (List.mem_of_getElem? (i := 15) rfl))) (by decide) (t := .int) (t' := .int) (by decide) (by decide)))
      have f7 := F_afterReturn_a.other W5 (Or.inr (slot_ne (Or.inl (hw _ (List.mem_of_getElem? (i := 24) rfl))) (Or.inl (hw _ (List.mem_of_getElem? (i := 15) rfl))) (by decide) (t := .boolean) (t' := .int) (by decide) (by decide)))
      have f8 := E_a.wr W5
      have Zs5 : n0 ≤ h5.size := by rw [W5.size]; exact Z0
      have K5 : Keep h0 h5 [a] := (Keep.refl h0 [a]).wr W5 (Or.inl (List.mem_of_getElem? (i := 0) rfl))
      have N5 := Fr.snoc X5 N0 gn_a
      refine own_by st5 ?_
      show own_Go p.tables e below (T5.setTop (mkF m 43 #[.val (.ref a), .val (.int c0)] [])) _
      refine own_by (fun _ kt => XS.aloadN X5.here hx rfl (hb hby d_prog_69_method_5_code_43) rfl rfl kt) ?_
      show own_Go p.tables e below (T5.setTop (mkF m 44 #[.val (.ref a), .val (.int c0)] [(.ref a)])) _
      refine own_by (fun _ kt => XS.iconst X5.here hx rfl (hb hby d_prog_69_method_5_code_44) kt) ?_
      show own_Go p.tables e below (T5.setTop (mkF m 45 #[.val (.ref a), .val (.int c0)] [(.int (1 : Int32)), (.ref a)])) _
      obtain ⟨T9, h9, X9, e9, W9, st9⟩ := putF X5 hx hZ hown (host := "") (Or.inl (hw _ (List.mem_of_getElem? (i := 16) rfl))) Via.refl e5 f6 f8 (Or.inl (hw _ (List.mem_of_getElem? (i := 17) rfl))) (hw _ (List.mem_of_getElem? (i := 6) rfl)) (ty := .int) (by decide) rfl rfl (g := (mkF m 45 #[.val (.ref a), .val (.int c0)] [(.int (1 : Int32)), (.ref a)])) rfl rfl (hb hby d_prog_69_method_5_code_45)
      have Fw9 := f6.same W9
      have f10 := Fw5.other W9 (Or.inr (slot_ne (Or.inl (hw _ (List.mem_of_getElem? (i := 15) rfl))) (Or.inl (hw _ (List.mem_of_getElem? (i := 17) rfl))) (by decide) (t := .int) (t' := .int) (by decide) (by decide)))
      have f11 := f7.other W9 (Or.inr (slot_ne (Or.inl (hw _ (List.mem_of_getElem? (i := 24) rfl))) (Or.inl (hw _ (List.mem_of_getElem? (i := 17) rfl))) (by decide) (t := .boolean) (t' := .int) (by decide) (by decide)))
      have f12 := f8.wr W9
      have Zs9 : n0 ≤ h9.size := by rw [W9.size]; exact Zs5
      have K9 : Keep h0 h9 [a] := K5.wr W9 (Or.inl (List.mem_of_getElem? (i := 0) rfl))
      have N9 := Fr.snoc X9 N5 gn_a
      refine own_by st9 ?_
      show own_Go p.tables e below (T9.setTop (mkF m 48 #[.val (.ref a), .val (.int c0)] [])) _
      refine own_by (fun _ kt => XS.aloadN X9.here hx rfl (hb hby d_prog_69_method_5_code_48) rfl rfl kt) ?_
      show own_Go p.tables e below (T9.setTop (mkF m 49 #[.val (.ref a), .val (.int c0)] [(.ref a)])) _
      refine own_by (fun _ kt => XS.iloadN X9.here hx rfl (hb hby d_prog_69_method_5_code_49) rfl kt) ?_
      show own_Go p.tables e below (T9.setTop (mkF m 50 #[.val (.ref a), .val (.int c0)] [(.int c0), (.ref a)])) _
      refine own_by (fun _ kt => XS.bipush X9.here hx rfl (hb hby d_prog_69_method_5_code_50) kt) ?_
      show own_Go p.tables e below (T9.setTop (mkF m 52 #[.val (.ref a), .val (.int c0)] [(.int (13 : Int32)), (.int c0), (.ref a)])) _
      refine own_by (fun _ kt => XS.icmpYes X9.here hx rfl (pc0 := 52) (pc' := 59) rfl (hb hby d_prog_69_method_5_code_52) rfl (feq (by rw [hc3_1]; decide : ¬ (c0 = (13 : Int32)))).2 (by decide) (by decide) kt) ?_
      show own_Go p.tables e below (T9.setTop (mkF m 59 #[.val (.ref a), .val (.int c0)] [(.ref a)])) _
      refine own_by (fun _ kt => XS.iconst X9.here hx rfl (hb hby d_prog_69_method_5_code_59) kt) ?_
      show own_Go p.tables e below (T9.setTop (mkF m 60 #[.val (.ref a), .val (.int c0)] [(.int (0 : Int32)), (.ref a)])) _
      obtain ⟨T13, h13, X13, e13, W13, st13⟩ := putFN X9 hx hZ hown (hw _ (List.mem_of_getElem? (i := 23) rfl)) Via.refl e9 f11 f12 (Or.inl (hw _ (List.mem_of_getElem? (i := 24) rfl))) (hw _ (List.mem_of_getElem? (i := 6) rfl)) (ty := .boolean) (v' := (.int (0 : Int32))) (by decide) rfl rfl (g := (mkF m 60 #[.val (.ref a), .val (.int c0)] [(.int (0 : Int32)), (.ref a)])) rfl rfl (hb hby d_prog_69_method_5_code_60)
      have Fw13 := f11.same W13
      have f14 := f10.other W13 (Or.inr (slot_ne (Or.inl (hw _ (List.mem_of_getElem? (i := 15) rfl))) (Or.inl (hw _ (List.mem_of_getElem? (i := 24) rfl))) (by decide) (t := .int) (t' := .boolean) (by decide) (by decide)))
      have f15 := Fw9.other W13 (Or.inr (slot_ne (Or.inl (hw _ (List.mem_of_getElem? (i := 17) rfl))) (Or.inl (hw _ (List.mem_of_getElem? (i := 24) rfl))) (by decide) (t := .int) (t' := .boolean) (by decide) (by decide)))
      have f16 := f12.wr W13
      have Zs13 : n0 ≤ h13.size := by rw [W13.size]; exact Zs9
      have K13 : Keep h0 h13 [a] := K9.wr W13 (Or.inl (List.mem_of_getElem? (i := 0) rfl))
      have N13 := Fr.snoc X13 N9 gn_a
      refine own_by st13 ?_
      show own_Go p.tables e below (T13.setTop (mkF m 63 #[.val (.ref a), .val (.int c0)] [])) _
      refine own_by (fun _ kt => XS.goto X13.here hx rfl (pc0 := 63) (pc' := 81) rfl (hb hby d_prog_69_method_5_code_63) (by decide) (by decide) kt) ?_
      show own_Go p.tables e below (T13.setTop (mkF m 81 #[.val (.ref a), .val (.int c0)] [])) _
      exact own_retV X13 hx Bd.returns hlk (hb hby d_prog_69_method_5_code_81) (by rw [e13]; exact ⟨rfl, N13, K13, f16, (by simp only [own_ln, own_cl, own_ar, if_pos hc3_1, if_pos hc10_3]; exact f14), (by simp only [own_ln, own_cl, own_ar, if_pos hc3_1, if_pos hc10_3]; exact f15), (by simp only [own_ln, own_cl, own_ar, if_pos hc3_1, if_pos hc10_3]; exact Fw13)⟩) (by decide) (by decide)
    · refine own_by (fun _ kt => XS.ifNo X2.here hx rfl (hb hby d_prog_69_method_5_code_10) rfl ((if0 _ _).trans (feq hc10_3).1) kt) ?_
      show own_Go p.tables e below (T2.setTop (mkF m 13 #[.val (.ref a), .val (.int c0)] [])) _
      refine own_by (fun _ kt => XS.aloadN X2.here hx rfl (hb hby d_prog_69_method_5_code_13) rfl rfl kt) ?_
      show own_Go p.tables e below (T2.setTop (mkF m 14 #[.val (.ref a), .val (.int c0)] [(.ref a)])) _
      refine own_by (fun _ kt => XS.iconst X2.here hx rfl (hb hby d_prog_69_method_5_code_14) kt) ?_
      show own_Go p.tables e below (T2.setTop (mkF m 15 #[.val (.ref a), .val (.int c0)] [(.int (0 : Int32)), (.ref a)])) _
      obtain ⟨T17, h17, X17, e17, W17, st17⟩ := putFN X2 hx hZ hown (hw _ (List.mem_of_getElem? (i := 23) rfl)) Via.refl e2 F_afterReturn_a E_a (Or.inl (hw _ (List.mem_of_getElem? (i := 24) rfl))) (hw _ (List.mem_of_getElem? (i := 6) rfl)) (ty := .boolean) (v' := (.int (0 : Int32))) (by decide) rfl rfl (g := (mkF m 15 #[.val (.ref a), .val (.int c0)] [(.int (0 : Int32)), (.ref a)])) rfl rfl (hb hby d_prog_69_method_5_code_15)
      have Fw17 := F_afterReturn_a.same W17
      have f18 := F_line_a.other W17 (Or.inr (slot_ne (Or.inl (hw _ (List.mem_of_getElem? (i := 15) rfl))) (Or.inl (hw _ (List.mem_of_getElem? (i := 24) rfl))) (by decide) (t := .int) (t' := .boolean) (by decide) (by decide)))
      have f19 := F_column_a.other W17 (Or.inr (slot_ne (Or.inl (hw _ (List.mem_of_getElem? (i := 17) rfl))) (Or.inl (hw _ (List.mem_of_getElem? (i := 24) rfl))) (by decide) (t := .int) (t' := .boolean) (by decide) (by decide)))
      have f20 := E_a.wr W17
      have Zs17 : n0 ≤ h17.size := by rw [W17.size]; exact Z0
      have K17 : Keep h0 h17 [a] := (Keep.refl h0 [a]).wr W17 (Or.inl (List.mem_of_getElem? (i := 0) rfl))
      have N17 := Fr.snoc X17 N0 gn_a
      refine own_by st17 ?_
      show own_Go p.tables e below (T17.setTop (mkF m 18 #[.val (.ref a), .val (.int c0)] [])) _
      refine own_by (fun _ kt => XS.goto X17.here hx rfl (pc0 := 18) (pc' := 81) rfl (hb hby d_prog_69_method_5_code_18) (by decide) (by decide) kt) ?_
      show own_Go p.tables e below (T17.setTop (mkF m 81 #[.val (.ref a), .val (.int c0)] [])) _
      exact own_retV X17 hx Bd.returns hlk (hb hby d_prog_69_method_5_code_81) (by rw [e17]; exact ⟨rfl, N17, K17, f20, (by simp only [own_ln, own_cl, own_ar, if_pos hc3_1, if_neg hc10_3]; exact f18), (by simp only [own_ln, own_cl, own_ar, if_pos hc3_1, if_neg hc10_3]; exact f19), (by simp only [own_ln, own_cl, own_ar, if_pos hc3_1, if_neg hc10_3]; exact Fw17)⟩) (by decide) (by decide)
  · refine own_by (fun _ kt => XS.icmpYes X0.here hx rfl (pc0 := 3) (pc' := 21) rfl (hb hby d_prog_69_method_5_code_3) rfl (feq hc3_1).2 (by decide) (by decide) kt) ?_
    show own_Go p.tables e below (s₁.setTop (mkF m 21 #[.val (.ref a), .val (.int c0)] [])) _
    refine own_by (fun _ kt => XS.iloadN X0.here hx rfl (hb hby d_prog_69_method_5_code_21) rfl kt) ?_
    show own_Go p.tables e below (s₁.setTop (mkF m 22 #[.val (.ref a), .val (.int c0)] [(.int c0)])) _
    refine own_by (fun _ kt => XS.bipush X0.here hx rfl (hb hby d_prog_69_method_5_code_22) kt) ?_
    show own_Go p.tables e below (s₁.setTop (mkF m 24 #[.val (.ref a), .val (.int c0)] [(.int (10 : Int32)), (.int c0)])) _
    refine own_by (fun _ kt => XS.icmpNo X0.here hx rfl (hb hby d_prog_69_method_5_code_24) rfl (feq hc3_1).1 kt) ?_
    show own_Go p.tables e below (s₁.setTop (mkF m 27 #[.val (.ref a), .val (.int c0)] [])) _
    refine own_by (fun _ kt => XS.iloadN X0.here hx rfl (hb hby d_prog_69_method_5_code_27) rfl kt) ?_
    show own_Go p.tables e below (s₁.setTop (mkF m 28 #[.val (.ref a), .val (.int c0)] [(.int c0)])) _
    refine own_by (fun _ kt => XS.bipush X0.here hx rfl (hb hby d_prog_69_method_5_code_28) kt) ?_
    show own_Go p.tables e below (s₁.setTop (mkF m 30 #[.val (.ref a), .val (.int c0)] [(.int (13 : Int32)), (.int c0)])) _
    by_cases hc30_21 : c0 = (13 : Int32)
    · refine own_by (fun _ kt => XS.icmpNo X0.here hx rfl (hb hby d_prog_69_method_5_code_30) rfl (teq hc30_21).2 kt) ?_
      show own_Go p.tables e below (s₁.setTop (mkF m 33 #[.val (.ref a), .val (.int c0)] [])) _
      refine own_by (fun _ kt => XS.aloadN X0.here hx rfl (hb hby d_prog_69_method_5_code_33) rfl rfl kt) ?_
      show own_Go p.tables e below (s₁.setTop (mkF m 34 #[.val (.ref a), .val (.int c0)] [(.ref a)])) _
      refine own_by (fun _ kt => XS.dup X0.here hx rfl (hb hby d_prog_69_method_5_code_34) rfl rfl kt) ?_
      show own_Go p.tables e below (s₁.setTop (mkF m 35 #[.val (.ref a), .val (.int c0)] [(.ref a), (.ref a)])) _
      obtain ⟨T22, X22, e22, st22⟩ := getF X0 hx hZ hown (host := "") (Or.inl (hw _ (List.mem_of_getElem? (i := 14) rfl))) Via.refl e0 F_line_a (g := (mkF m 35 #[.val (.ref a), .val (.int c0)] [(.ref a), (.ref a)])) rfl rfl (hb hby d_prog_69_method_5_code_35)
      refine own_by st22 ?_
      show own_Go p.tables e below (T22.setTop (mkF m 38 #[.val (.ref a), .val (.int c0)] [(.int l0), (.ref a)])) _
      refine own_by (fun _ kt => XS.iconst X22.here hx rfl (hb hby d_prog_69_method_5_code_38) kt) ?_
      show own_Go p.tables e below (T22.setTop (mkF m 39 #[.val (.ref a), .val (.int c0)] [(.int (1 : Int32)), (.int l0), (.ref a)])) _
      refine own_by (fun _ kt => XS.iadd X22.here hx rfl (hb hby d_prog_69_method_5_code_39) rfl kt) ?_
      show own_Go p.tables e below (T22.setTop (mkF m 40 #[.val (.ref a), .val (.int c0)] [(.int (l0 + (1 : Int32))), (.ref a)])) _
      obtain ⟨T23, h23, X23, e23, W23, st23⟩ := putF X22 hx hZ hown (host := "") (Or.inl (hw _ (List.mem_of_getElem? (i := 14) rfl))) Via.refl e22 F_line_a E_a (Or.inl (hw _ (List.mem_of_getElem? (i := 15) rfl))) (hw _ (List.mem_of_getElem? (i := 6) rfl)) (ty := .int) (by decide) rfl rfl (g := (mkF m 40 #[.val (.ref a), .val (.int c0)] [(.int (l0 + (1 : Int32))), (.ref a)])) rfl rfl (hb hby d_prog_69_method_5_code_40)
      have Fw23 := F_line_a.same W23
      have f24 := F_column_a.other W23 (Or.inr (slot_ne (Or.inl (hw _ (List.mem_of_getElem? (i := 17) rfl))) (Or.inl (hw _ (List.mem_of_getElem? (i := 15) rfl))) (by decide) (t := .int) (t' := .int) (by decide) (by decide)))
      have f25 := F_afterReturn_a.other W23 (Or.inr (slot_ne (Or.inl (hw _ (List.mem_of_getElem? (i := 24) rfl))) (Or.inl (hw _ (List.mem_of_getElem? (i := 15) rfl))) (by decide) (t := .boolean) (t' := .int) (by decide) (by decide)))
      have f26 := E_a.wr W23
      have Zs23 : n0 ≤ h23.size := by rw [W23.size]; exact Z0
      have K23 : Keep h0 h23 [a] := (Keep.refl h0 [a]).wr W23 (Or.inl (List.mem_of_getElem? (i := 0) rfl))
      have N23 := Fr.snoc X23 N0 gn_a
      refine own_by st23 ?_
      show own_Go p.tables e below (T23.setTop (mkF m 43 #[.val (.ref a), .val (.int c0)] [])) _
      refine own_by (fun _ kt => XS.aloadN X23.here hx rfl (hb hby d_prog_69_method_5_code_43) rfl rfl kt) ?_
      show own_Go p.tables e below (T23.setTop (mkF m 44 #[.val (.ref a), .val (.int c0)] [(.ref a)])) _
      refine own_by (fun _ kt => XS.iconst X23.here hx rfl (hb hby d_prog_69_method_5_code_44) kt) ?_
      show own_Go p.tables e below (T23.setTop (mkF m 45 #[.val (.ref a), .val (.int c0)] [(.int (1 : Int32)), (.ref a)])) _
      obtain ⟨T27, h27, X27, e27, W27, st27⟩ := putF X23 hx hZ hown (host := "") (Or.inl (hw _ (List.mem_of_getElem? (i := 16) rfl))) Via.refl e23 f24 f26 (Or.inl (hw _ (List.mem_of_getElem? (i := 17) rfl))) (hw _ (List.mem_of_getElem? (i := 6) rfl)) (ty := .int) (by decide) rfl rfl (g := (mkF m 45 #[.val (.ref a), .val (.int c0)] [(.int (1 : Int32)), (.ref a)])) rfl rfl (hb hby d_prog_69_method_5_code_45)
      have Fw27 := f24.same W27
      have f28 := Fw23.other W27 (Or.inr (slot_ne (Or.inl (hw _ (List.mem_of_getElem? (i := 15) rfl))) (Or.inl (hw _ (List.mem_of_getElem? (i := 17) rfl))) (by decide) (t := .int) (t' := .int) (by decide) (by decide)))
      have f29 := f25.other W27 (Or.inr (slot_ne (Or.inl (hw _ (List.mem_of_getElem? (i := 24) rfl))) (Or.inl (hw _ (List.mem_of_getElem? (i := 17) rfl))) (by decide) (t := .boolean) (t' := .int) (by decide) (by decide)))
      have f30 := f26.wr W27
      have Zs27 : n0 ≤ h27.size := by rw [W27.size]; exact Zs23
      have K27 : Keep h0 h27 [a] := K23.wr W27 (Or.inl (List.mem_of_getElem? (i := 0) rfl))
      have N27 := Fr.snoc X27 N23 gn_a
      refine own_by st27 ?_
      show own_Go p.tables e below (T27.setTop (mkF m 48 #[.val (.ref a), .val (.int c0)] [])) _
      refine own_by (fun _ kt => XS.aloadN X27.here hx rfl (hb hby d_prog_69_method_5_code_48) rfl rfl kt) ?_
      show own_Go p.tables e below (T27.setTop (mkF m 49 #[.val (.ref a), .val (.int c0)] [(.ref a)])) _
      refine own_by (fun _ kt => XS.iloadN X27.here hx rfl (hb hby d_prog_69_method_5_code_49) rfl kt) ?_
      show own_Go p.tables e below (T27.setTop (mkF m 50 #[.val (.ref a), .val (.int c0)] [(.int c0), (.ref a)])) _
      refine own_by (fun _ kt => XS.bipush X27.here hx rfl (hb hby d_prog_69_method_5_code_50) kt) ?_
      show own_Go p.tables e below (T27.setTop (mkF m 52 #[.val (.ref a), .val (.int c0)] [(.int (13 : Int32)), (.int c0), (.ref a)])) _
      refine own_by (fun _ kt => XS.icmpNo X27.here hx rfl (hb hby d_prog_69_method_5_code_52) rfl (teq hc30_21).2 kt) ?_
      show own_Go p.tables e below (T27.setTop (mkF m 55 #[.val (.ref a), .val (.int c0)] [(.ref a)])) _
      refine own_by (fun _ kt => XS.iconst X27.here hx rfl (hb hby d_prog_69_method_5_code_55) kt) ?_
      show own_Go p.tables e below (T27.setTop (mkF m 56 #[.val (.ref a), .val (.int c0)] [(.int (1 : Int32)), (.ref a)])) _
      refine own_by (fun _ kt => XS.goto X27.here hx rfl (pc0 := 56) (pc' := 60) rfl (hb hby d_prog_69_method_5_code_56) (by decide) (by decide) kt) ?_
      show own_Go p.tables e below (T27.setTop (mkF m 60 #[.val (.ref a), .val (.int c0)] [(.int (1 : Int32)), (.ref a)])) _
      obtain ⟨T31, h31, X31, e31, W31, st31⟩ := putFN X27 hx hZ hown (hw _ (List.mem_of_getElem? (i := 23) rfl)) Via.refl e27 f29 f30 (Or.inl (hw _ (List.mem_of_getElem? (i := 24) rfl))) (hw _ (List.mem_of_getElem? (i := 6) rfl)) (ty := .boolean) (v' := (.int (1 : Int32))) (by decide) rfl rfl (g := (mkF m 60 #[.val (.ref a), .val (.int c0)] [(.int (1 : Int32)), (.ref a)])) rfl rfl (hb hby d_prog_69_method_5_code_60)
      have Fw31 := f29.same W31
      have f32 := f28.other W31 (Or.inr (slot_ne (Or.inl (hw _ (List.mem_of_getElem? (i := 15) rfl))) (Or.inl (hw _ (List.mem_of_getElem? (i := 24) rfl))) (by decide) (t := .int) (t' := .boolean) (by decide) (by decide)))
      have f33 := Fw27.other W31 (Or.inr (slot_ne (Or.inl (hw _ (List.mem_of_getElem? (i := 17) rfl))) (Or.inl (hw _ (List.mem_of_getElem? (i := 24) rfl))) (by decide) (t := .int) (t' := .boolean) (by decide) (by decide)))
      have f34 := f30.wr W31
      have Zs31 : n0 ≤ h31.size := by rw [W31.size]; exact Zs27
      have K31 : Keep h0 h31 [a] := K27.wr W31 (Or.inl (List.mem_of_getElem? (i := 0) rfl))
      have N31 := Fr.snoc X31 N27 gn_a
      refine own_by st31 ?_
      show own_Go p.tables e below (T31.setTop (mkF m 63 #[.val (.ref a), .val (.int c0)] [])) _
      refine own_by (fun _ kt => XS.goto X31.here hx rfl (pc0 := 63) (pc' := 81) rfl (hb hby d_prog_69_method_5_code_63) (by decide) (by decide) kt) ?_
      show own_Go p.tables e below (T31.setTop (mkF m 81 #[.val (.ref a), .val (.int c0)] [])) _
      exact own_retV X31 hx Bd.returns hlk (hb hby d_prog_69_method_5_code_81) (by rw [e31]; exact ⟨rfl, N31, K31, f34, (by simp only [own_ln, own_cl, own_ar, if_neg hc3_1, if_pos hc30_21]; exact f32), (by simp only [own_ln, own_cl, own_ar, if_neg hc3_1, if_pos hc30_21]; exact f33), (by simp only [own_ln, own_cl, own_ar, if_neg hc3_1, if_pos hc30_21]; exact Fw31)⟩) (by decide) (by decide)
    · refine own_by (fun _ kt => XS.icmpYes X0.here hx rfl (pc0 := 30) (pc' := 66) rfl (hb hby d_prog_69_method_5_code_30) rfl (feq hc30_21).2 (by decide) (by decide) kt) ?_
      show own_Go p.tables e below (s₁.setTop (mkF m 66 #[.val (.ref a), .val (.int c0)] [])) _
      refine own_by (fun _ kt => XS.aloadN X0.here hx rfl (hb hby d_prog_69_method_5_code_66) rfl rfl kt) ?_
      show own_Go p.tables e below (s₁.setTop (mkF m 67 #[.val (.ref a), .val (.int c0)] [(.ref a)])) _
      refine own_by (fun _ kt => XS.dup X0.here hx rfl (hb hby d_prog_69_method_5_code_67) rfl rfl kt) ?_
      show own_Go p.tables e below (s₁.setTop (mkF m 68 #[.val (.ref a), .val (.int c0)] [(.ref a), (.ref a)])) _
      obtain ⟨T35, X35, e35, st35⟩ := getF X0 hx hZ hown (host := "") (Or.inl (hw _ (List.mem_of_getElem? (i := 16) rfl))) Via.refl e0 F_column_a (g := (mkF m 68 #[.val (.ref a), .val (.int c0)] [(.ref a), (.ref a)])) rfl rfl (hb hby d_prog_69_method_5_code_68)
      refine own_by st35 ?_
      show own_Go p.tables e below (T35.setTop (mkF m 71 #[.val (.ref a), .val (.int c0)] [(.int k0), (.ref a)])) _
      refine own_by (fun _ kt => XS.iconst X35.here hx rfl (hb hby d_prog_69_method_5_code_71) kt) ?_
      show own_Go p.tables e below (T35.setTop (mkF m 72 #[.val (.ref a), .val (.int c0)] [(.int (1 : Int32)), (.int k0), (.ref a)])) _
      refine own_by (fun _ kt => XS.iadd X35.here hx rfl (hb hby d_prog_69_method_5_code_72) rfl kt) ?_
      show own_Go p.tables e below (T35.setTop (mkF m 73 #[.val (.ref a), .val (.int c0)] [(.int (k0 + (1 : Int32))), (.ref a)])) _
      obtain ⟨T36, h36, X36, e36, W36, st36⟩ := putF X35 hx hZ hown (host := "") (Or.inl (hw _ (List.mem_of_getElem? (i := 16) rfl))) Via.refl e35 F_column_a E_a (Or.inl (hw _ (List.mem_of_getElem? (i := 17) rfl))) (hw _ (List.mem_of_getElem? (i := 6) rfl)) (ty := .int) (by decide) rfl rfl (g := (mkF m 73 #[.val (.ref a), .val (.int c0)] [(.int (k0 + (1 : Int32))), (.ref a)])) rfl rfl (hb hby d_prog_69_method_5_code_73)
      have Fw36 := F_column_a.same W36
      have f37 := F_line_a.other W36 (Or.inr (slot_ne (Or.inl (hw _ (List.mem_of_getElem? (i := 15) rfl))) (Or.inl (hw _ (List.mem_of_getElem? (i := 17) rfl))) (by decide) (t := .int) (t' := .int) (by decide) (by decide)))
      have f38 := F_afterReturn_a.other W36 (Or.inr (slot_ne (Or.inl (hw _ (List.mem_of_getElem? (i := 24) rfl))) (Or.inl (hw _ (List.mem_of_getElem? (i := 17) rfl))) (by decide) (t := .boolean) (t' := .int) (by decide) (by decide)))
      have f39 := E_a.wr W36
      have Zs36 : n0 ≤ h36.size := by rw [W36.size]; exact Z0
      have K36 : Keep h0 h36 [a] := (Keep.refl h0 [a]).wr W36 (Or.inl (List.mem_of_getElem? (i := 0) rfl))
      have N36 := Fr.snoc X36 N0 gn_a
      refine own_by st36 ?_
      show own_Go p.tables e below (T36.setTop (mkF m 76 #[.val (.ref a), .val (.int c0)] [])) _
      refine own_by (fun _ kt => XS.aloadN X36.here hx rfl (hb hby d_prog_69_method_5_code_76) rfl rfl kt) ?_
      show own_Go p.tables e below (T36.setTop (mkF m 77 #[.val (.ref a), .val (.int c0)] [(.ref a)])) _
      refine own_by (fun _ kt => XS.iconst X36.here hx rfl (hb hby d_prog_69_method_5_code_77) kt) ?_
      show own_Go p.tables e below (T36.setTop (mkF m 78 #[.val (.ref a), .val (.int c0)] [(.int (0 : Int32)), (.ref a)])) _
      obtain ⟨T40, h40, X40, e40, W40, st40⟩ := putFN X36 hx hZ hown (hw _ (List.mem_of_getElem? (i := 23) rfl)) Via.refl e36 f38 f39 (Or.inl (hw _ (List.mem_of_getElem? (i := 24) rfl))) (hw _ (List.mem_of_getElem? (i := 6) rfl)) (ty := .boolean) (v' := (.int (0 : Int32))) (by decide) rfl rfl (g := (mkF m 78 #[.val (.ref a), .val (.int c0)] [(.int (0 : Int32)), (.ref a)])) rfl rfl (hb hby d_prog_69_method_5_code_78)
      have Fw40 := f38.same W40
      have f41 := f37.other W40 (Or.inr (slot_ne (Or.inl (hw _ (List.mem_of_getElem? (i := 15) rfl))) (Or.inl (hw _ (List.mem_of_getElem? (i := 24) rfl))) (by decide) (t := .int) (t' := .boolean) (by decide) (by decide)))
      have f42 := Fw36.other W40 (Or.inr (slot_ne (Or.inl (hw _ (List.mem_of_getElem? (i := 17) rfl))) (Or.inl (hw _ (List.mem_of_getElem? (i := 24) rfl))) (by decide) (t := .int) (t' := .boolean) (by decide) (by decide)))
      have f43 := f39.wr W40
      have Zs40 : n0 ≤ h40.size := by rw [W40.size]; exact Zs36
      have K40 : Keep h0 h40 [a] := K36.wr W40 (Or.inl (List.mem_of_getElem? (i := 0) rfl))
      have N40 := Fr.snoc X40 N36 gn_a
      refine own_by st40 ?_
      show own_Go p.tables e below (T40.setTop (mkF m 81 #[.val (.ref a), .val (.int c0)] [])) _
      exact own_retV X40 hx Bd.returns hlk (hb hby d_prog_69_method_5_code_81) (by rw [e40]; exact ⟨rfl, N40, K40, f43, (by simp only [own_ln, own_cl, own_ar, if_neg hc3_1, if_neg hc30_21]; exact f41), (by simp only [own_ln, own_cl, own_ar, if_neg hc3_1, if_neg hc30_21]; exact f42), (by simp only [own_ln, own_cl, own_ar, if_neg hc3_1, if_neg hc30_21]; exact Fw40)⟩) (by decide) (by decide)
theorem d_prog_69_method_3_code_0 : decode prog_69_method_3_code 0 = .ok (.aload_n 0, 1) := by decide +kernel
theorem d_prog_69_method_3_code_1 : decode prog_69_method_3_code 1 = .ok (.getfield 7, 3) := by decide +kernel
theorem d_prog_69_method_3_code_4 : decode prog_69_method_3_code 4 = .ok (.ireturn, 1) := by decide +kernel
theorem ef_4 (m : MethodId) (a : Addr) : entryFrame m #[(.ref a)] 1 = mkF m 0 #[.val (.ref a)] [] := by first | (simp [entryFrame, mkF, argsToLocals, Value.category]; done) | rfl
def Q_rm_line (Z : State) (a : Addr) (w : Int32) (h0 : Heap) (n0 : Nat) (v : Option Value) (h : Heap) (L : List Loc) : Prop := v = some (.int w) ∧ Fr n0 L ∧ h = h0
set_option maxRecDepth 65536 in
set_option maxHeartbeats 40000000 in
theorem rm_line (l : Launch) (Z : State) (a0 : Array Value) (hw : ∀ d ∈ tables_1, d.before a0 Z = true) (ws : List Jvm.Cond) (a : Addr) (w : Int32) (h0 : Heap) (n0 : Nat) (Z0 : n0 ≤ h0.size) (F_line_a : Fld Z h0 a "com/example/ivaldi/ivaldi/io/TextPosition" "line" "I" (.int w)) :
    MetFree l (⟨"com/example/ivaldi/ivaldi/io/TextPosition", "line", "()I"⟩ : MethodName) (head1 (Jvm.Cond.code (⟨"com/example/ivaldi/ivaldi/io/TextPosition", "line", "()I"⟩ : MethodName) prog_69_method_3_code 1 (some .int) :: ws) ({ frames := 0, cells := 0, slots := 0, locals := 0 } : Room)) (fun av_ U => av_ = #[(.ref a)] ∧ Z.Warmed39 U.vm ∧ U.heap = h0) (fun _ _ _ _ _ => True) (fun _ U o U' => ∃ v L, o = .returned v ∧ Q_rm_line Z a w h0 n0 v U'.heap L ∧ FrameEnd U o U' L ({ frames := 0, cells := 0, slots := 0, locals := 0 } : Room).cells ({ frames := 0, cells := 0, slots := 0, locals := 0 } : Room).slots) := by
  refine MetFree.of_bodySF (plainFor_of_name pn_1) hisR ?_
  intro p e s m args below meth c s₁ Bd hml0 hP hK
  obtain ⟨rfl, hZ, hh⟩ := hP
  have hx := Bd.exec
  have hby := Bd.bytes
  have hml : c.maxLocals = 1 := hml0
  have hown : s.vm.findClass "com/example/ivaldi/ivaldi/io/TextPosition" = some m.cls := findClass_of_methodNamed Bd.named
  have hnm := (name_of_methodNamed Bd.named Bd.method).1
  have hlk : meth.locks = false := BodyLoose.notSynchronized Bd
  have X0 : Stand p l e ({ frames := 0, cells := 0, slots := 0, locals := 0 } : Room) s m #[(.ref a)] below meth c s₁ [] 0 0 := Stand.of_body Bd
  have e0 : s₁.heap = h0 := by rw [← hh, Bd.state]; rfl
  have N0 := Fr.nil n0
  refine own_by (fun _ kt => castTop (ef_4 m a) kt) (R := own_R s (Q_rm_line Z a w h0 n0) 0 0) ?_
  show own_Go p.tables e below (s₁.setTop (mkF m 0 #[.val (.ref a)] [])) _
  refine own_by (fun _ kt => XS.aloadN X0.here hx rfl (hb hby d_prog_69_method_3_code_0) rfl rfl kt) ?_
  show own_Go p.tables e below (s₁.setTop (mkF m 1 #[.val (.ref a)] [(.ref a)])) _
  obtain ⟨T1, X1, e1, st1⟩ := getF X0 hx hZ hown (host := "") (Or.inl (hw _ (List.mem_of_getElem? (i := 14) rfl))) Via.refl e0 F_line_a (g := (mkF m 1 #[.val (.ref a)] [(.ref a)])) rfl rfl (hb hby d_prog_69_method_3_code_1)
  refine own_by st1 ?_
  show own_Go p.tables e below (T1.setTop (mkF m 4 #[.val (.ref a)] [(.int w)])) _
  exact own_retI X1 hx Bd.returns hlk (hb hby d_prog_69_method_3_code_4) ⟨rfl, N0, e1⟩ (by decide) (by decide)
theorem d_prog_69_method_4_code_0 : decode prog_69_method_4_code 0 = .ok (.aload_n 0, 1) := by decide +kernel
theorem d_prog_69_method_4_code_1 : decode prog_69_method_4_code 1 = .ok (.getfield 13, 3) := by decide +kernel
theorem d_prog_69_method_4_code_4 : decode prog_69_method_4_code 4 = .ok (.ireturn, 1) := by decide +kernel
theorem ef_5 (m : MethodId) (a : Addr) : entryFrame m #[(.ref a)] 1 = mkF m 0 #[.val (.ref a)] [] := by first | (simp [entryFrame, mkF, argsToLocals, Value.category]; done) | rfl
def Q_rm_column (Z : State) (a : Addr) (w : Int32) (h0 : Heap) (n0 : Nat) (v : Option Value) (h : Heap) (L : List Loc) : Prop := v = some (.int w) ∧ Fr n0 L ∧ h = h0
set_option maxRecDepth 65536 in
set_option maxHeartbeats 40000000 in
theorem rm_column (l : Launch) (Z : State) (a0 : Array Value) (hw : ∀ d ∈ tables_1, d.before a0 Z = true) (ws : List Jvm.Cond) (a : Addr) (w : Int32) (h0 : Heap) (n0 : Nat) (Z0 : n0 ≤ h0.size) (F_column_a : Fld Z h0 a "com/example/ivaldi/ivaldi/io/TextPosition" "column" "I" (.int w)) :
    MetFree l (⟨"com/example/ivaldi/ivaldi/io/TextPosition", "column", "()I"⟩ : MethodName) (head1 (Jvm.Cond.code (⟨"com/example/ivaldi/ivaldi/io/TextPosition", "column", "()I"⟩ : MethodName) prog_69_method_4_code 1 (some .int) :: ws) ({ frames := 0, cells := 0, slots := 0, locals := 0 } : Room)) (fun av_ U => av_ = #[(.ref a)] ∧ Z.Warmed39 U.vm ∧ U.heap = h0) (fun _ _ _ _ _ => True) (fun _ U o U' => ∃ v L, o = .returned v ∧ Q_rm_column Z a w h0 n0 v U'.heap L ∧ FrameEnd U o U' L ({ frames := 0, cells := 0, slots := 0, locals := 0 } : Room).cells ({ frames := 0, cells := 0, slots := 0, locals := 0 } : Room).slots) := by
  refine MetFree.of_bodySF (plainFor_of_name pn_1) hisR ?_
  intro p e s m args below meth c s₁ Bd hml0 hP hK
  obtain ⟨rfl, hZ, hh⟩ := hP
  have hx := Bd.exec
  have hby := Bd.bytes
  have hml : c.maxLocals = 1 := hml0
  have hown : s.vm.findClass "com/example/ivaldi/ivaldi/io/TextPosition" = some m.cls := findClass_of_methodNamed Bd.named
  have hnm := (name_of_methodNamed Bd.named Bd.method).1
  have hlk : meth.locks = false := BodyLoose.notSynchronized Bd
  have X0 : Stand p l e ({ frames := 0, cells := 0, slots := 0, locals := 0 } : Room) s m #[(.ref a)] below meth c s₁ [] 0 0 := Stand.of_body Bd
  have e0 : s₁.heap = h0 := by rw [← hh, Bd.state]; rfl
  have N0 := Fr.nil n0
  refine own_by (fun _ kt => castTop (ef_5 m a) kt) (R := own_R s (Q_rm_column Z a w h0 n0) 0 0) ?_
  show own_Go p.tables e below (s₁.setTop (mkF m 0 #[.val (.ref a)] [])) _
  refine own_by (fun _ kt => XS.aloadN X0.here hx rfl (hb hby d_prog_69_method_4_code_0) rfl rfl kt) ?_
  show own_Go p.tables e below (s₁.setTop (mkF m 1 #[.val (.ref a)] [(.ref a)])) _
  obtain ⟨T1, X1, e1, st1⟩ := getF X0 hx hZ hown (host := "") (Or.inl (hw _ (List.mem_of_getElem? (i := 16) rfl))) Via.refl e0 F_column_a (g := (mkF m 1 #[.val (.ref a)] [(.ref a)])) rfl rfl (hb hby d_prog_69_method_4_code_1)
  refine own_by st1 ?_
  show own_Go p.tables e below (T1.setTop (mkF m 4 #[.val (.ref a)] [(.int w)])) _
  exact own_retI X1 hx Bd.returns hlk (hb hby d_prog_69_method_4_code_4) ⟨rfl, N0, e1⟩ (by decide) (by decide)
theorem own_bm32 {z : Int} (h1 : -2147483648 ≤ z) (h2 : z < 2147483648) : z.bmod (2 ^ 32) = z := by
  apply Int.bmod_eq_of_le <;> omega
theorem own_pos31 (p : Int32) : 0 ≤ (p &&& 2147483647).toInt := by
  have hn : (p &&& 2147483647).toBitVec.toNat < 2 ^ 31 := by
    show (p.toBitVec &&& (2147483647 : Int32).toBitVec).toNat < 2 ^ 31
    rw [BitVec.toNat_and]
    exact Nat.lt_of_le_of_lt Nat.and_le_right (by decide)
  show 0 ≤ (p &&& 2147483647).toBitVec.toInt
  rw [BitVec.toInt_eq_toNat_cond, if_pos (by omega)]
  omega
theorem own_rem31 (p n : Int32) (hn : 0 < n.toInt) : 0 ≤ ((p &&& 2147483647) % n).toInt ∧ ((p &&& 2147483647) % n).toInt < n.toInt := by
  rw [Int32.toInt_mod, Int.tmod_eq_emod_of_nonneg (own_pos31 p)]
  exact ⟨Int.emod_nonneg _ (by omega), Int.emod_lt_of_pos _ hn⟩
theorem own_and3 (p : Int32) : p &&& 3 = 0 ∨ p &&& 3 = 1 ∨ p &&& 3 = 2 ∨ p &&& 3 = 3 := by
  have hn : (p &&& 3).toBitVec.toNat ≤ 3 := by
    show (p.toBitVec &&& (3 : Int32).toBitVec).toNat ≤ 3
    rw [BitVec.toNat_and]
    exact Nat.and_le_right
  have e : (p &&& 3).toInt = ((p &&& 3).toBitVec.toNat : Int) := by
    show (p &&& 3).toBitVec.toInt = _
    rw [BitVec.toInt_eq_toNat_cond, if_pos (by omega)]
  simp only [← Int32.toInt_inj, e, show (0 : Int32).toInt = 0 from by decide, show (1 : Int32).toInt = 1 from by decide, show (2 : Int32).toInt = 2 from by decide, show (3 : Int32).toInt = 3 from by decide]
  omega
theorem own_arb (c r : Int32) : nar .boolean (own_ar c r) = own_ar c r := by
  unfold own_ar
  by_cases h : c = 10
  · rw [if_pos h]; by_cases h' : r = 0
    · rw [if_pos h']; rfl
    · rw [if_neg h']; rfl
  · rw [if_neg h]; by_cases h' : c = 13
    · rw [if_pos h']; rfl
    · rw [if_neg h']; rfl
def own_at (x0 x1 x2 x3 i : Int32) : Int32 := if i = 0 then x0 else if i = 1 then x1 else if i = 2 then x2 else x3
def own_run (x0 x1 x2 x3 : Int32) : Nat → Int32 → Int32 × Int32 × Int32 → Int32 × Int32 × Int32
  | 0, _, t => t
  | n + 1, i, t => own_run x0 x1 x2 x3 n (i + 1) (own_ln (own_at x0 x1 x2 x3 i) t.2.2 t.1, own_cl (own_at x0 x1 x2 x3 i) t.2.2 t.2.1, own_ar (own_at x0 x1 x2 x3 i) t.2.2)
theorem own_five (i : Int32) (h0 : 0 ≤ i.toInt) (h1 : i.toInt ≤ 4) : i = 0 ∨ i = 1 ∨ i = 2 ∨ i = 3 ∨ i = 4 := by
  simp only [← Int32.toInt_inj, show (0 : Int32).toInt = 0 from by decide, show (1 : Int32).toInt = 1 from by decide, show (2 : Int32).toInt = 2 from by decide, show (3 : Int32).toInt = 3 from by decide, show (4 : Int32).toInt = 4 from by decide]
  omega
theorem own_inb (i t : Int32) (h0 : 0 ≤ i.toInt) (h1 : i < t) (h2 : t.toInt ≤ 4) : ¬ i < 0 ∧ i < 4 := by
  simp only [Int32.lt_iff_toInt_lt, show (0 : Int32).toInt = 0 from by decide, show (4 : Int32).toInt = 4 from by decide] at *
  omega
theorem own_get (x0 x1 x2 x3 i : Int32) (h : ¬ i < 0 ∧ i < 4) : [Value.int x0, Value.int x1, Value.int x2, Value.int x3].getD i.toNatClampNeg (.int (0 : Int32)) = .int (own_at x0 x1 x2 x3 i) := by
  have h' : i = 0 ∨ i = 1 ∨ i = 2 ∨ i = 3 ∨ i = 4 := by
    apply own_five <;> (simp only [Int32.lt_iff_toInt_lt, show (0 : Int32).toInt = 0 from by decide, show (4 : Int32).toInt = 4 from by decide] at *; omega)
  rcases h' with rfl | rfl | rfl | rfl | rfl
  · rfl
  · rfl
  · rfl
  · rfl
  · exact absurd h.2 (by decide)
theorem own_inc (i t : Int32) (h0 : 0 ≤ i.toInt) (h1 : i < t) (h2 : t.toInt ≤ 4) : (i + 1).toInt = i.toInt + 1 := by
  rw [Int32.lt_iff_toInt_lt] at h1
  rw [Int32.toInt_add, show (1 : Int32).toInt = 1 from by decide]; exact own_bm32 (by omega) (by omega)
theorem own_first (i t : Int32) (h0 : 0 ≤ i.toInt) (h1 : i < t) (h2 : t.toInt ≤ 4) : (t.toInt - i.toInt).toNat = (t.toInt - (i + 1).toInt).toNat + 1 := by
  rw [own_inc i t h0 h1 h2]; rw [Int32.lt_iff_toInt_lt] at h1; omega
theorem own_none (i t : Int32) (h1 : ¬ i < t) : (t.toInt - i.toInt).toNat = 0 := by
  rw [Int32.lt_iff_toInt_lt] at h1; omega
theorem d_prog_69_method_6_code_0 : decode prog_69_method_6_code 0 = .ok (.aload_n 0, 1) := by decide +kernel
theorem d_prog_69_method_6_code_1 : decode prog_69_method_6_code 1 = .ok (.getfield 7, 3) := by decide +kernel
theorem d_prog_69_method_6_code_4 : decode prog_69_method_6_code 4 = .ok (.istore 4, 2) := by decide +kernel
theorem d_prog_69_method_6_code_6 : decode prog_69_method_6_code 6 = .ok (.aload_n 0, 1) := by decide +kernel
theorem d_prog_69_method_6_code_7 : decode prog_69_method_6_code 7 = .ok (.getfield 13, 3) := by decide +kernel
theorem d_prog_69_method_6_code_10 : decode prog_69_method_6_code 10 = .ok (.istore 5, 2) := by decide +kernel
theorem d_prog_69_method_6_code_12 : decode prog_69_method_6_code 12 = .ok (.aload_n 0, 1) := by decide +kernel
theorem d_prog_69_method_6_code_13 : decode prog_69_method_6_code 13 = .ok (.getfield 27, 3) := by decide +kernel
theorem d_prog_69_method_6_code_16 : decode prog_69_method_6_code 16 = .ok (.istore 6, 2) := by decide +kernel
theorem d_prog_69_method_6_code_18 : decode prog_69_method_6_code 18 = .ok (.iload_n 2, 1) := by decide +kernel
theorem d_prog_69_method_6_code_19 : decode prog_69_method_6_code 19 = .ok (.istore 7, 2) := by decide +kernel
theorem d_prog_69_method_6_code_21 : decode prog_69_method_6_code 21 = .ok (.iload 7, 2) := by decide +kernel
theorem d_prog_69_method_6_code_23 : decode prog_69_method_6_code 23 = .ok (.iload_n 3, 1) := by decide +kernel
theorem d_prog_69_method_6_code_24 : decode prog_69_method_6_code 24 = .ok (.if_icmp .ge 76, 3) := by decide +kernel
theorem d_prog_69_method_6_code_100 : decode prog_69_method_6_code 100 = .ok (.aload_n 0, 1) := by decide +kernel
theorem d_prog_69_method_6_code_101 : decode prog_69_method_6_code 101 = .ok (.iload 4, 2) := by decide +kernel
theorem d_prog_69_method_6_code_103 : decode prog_69_method_6_code 103 = .ok (.putfield 7, 3) := by decide +kernel
theorem d_prog_69_method_6_code_106 : decode prog_69_method_6_code 106 = .ok (.aload_n 0, 1) := by decide +kernel
theorem d_prog_69_method_6_code_107 : decode prog_69_method_6_code 107 = .ok (.iload 5, 2) := by decide +kernel
theorem d_prog_69_method_6_code_109 : decode prog_69_method_6_code 109 = .ok (.putfield 13, 3) := by decide +kernel
theorem d_prog_69_method_6_code_112 : decode prog_69_method_6_code 112 = .ok (.aload_n 0, 1) := by decide +kernel
theorem d_prog_69_method_6_code_113 : decode prog_69_method_6_code 113 = .ok (.iload 6, 2) := by decide +kernel
theorem d_prog_69_method_6_code_115 : decode prog_69_method_6_code 115 = .ok (.putfield 27, 3) := by decide +kernel
theorem d_prog_69_method_6_code_118 : decode prog_69_method_6_code 118 = .ok (.return_, 1) := by decide +kernel
theorem d_prog_69_method_6_code_27 : decode prog_69_method_6_code 27 = .ok (.aload_n 1, 1) := by decide +kernel
theorem d_prog_69_method_6_code_28 : decode prog_69_method_6_code 28 = .ok (.iload 7, 2) := by decide +kernel
theorem d_prog_69_method_6_code_30 : decode prog_69_method_6_code 30 = .ok (.caload, 1) := by decide +kernel
theorem d_prog_69_method_6_code_31 : decode prog_69_method_6_code 31 = .ok (.istore 8, 2) := by decide +kernel
theorem d_prog_69_method_6_code_33 : decode prog_69_method_6_code 33 = .ok (.iload 8, 2) := by decide +kernel
theorem d_prog_69_method_6_code_35 : decode prog_69_method_6_code 35 = .ok (.bipush 10, 2) := by decide +kernel
theorem d_prog_69_method_6_code_37 : decode prog_69_method_6_code 37 = .ok (.if_icmp .ne 14, 3) := by decide +kernel
theorem d_prog_69_method_6_code_40 : decode prog_69_method_6_code 40 = .ok (.iload 6, 2) := by decide +kernel
theorem d_prog_69_method_6_code_42 : decode prog_69_method_6_code 42 = .ok (.ifCond .eq 9, 3) := by decide +kernel
theorem d_prog_69_method_6_code_51 : decode prog_69_method_6_code 51 = .ok (.iload 8, 2) := by decide +kernel
theorem d_prog_69_method_6_code_53 : decode prog_69_method_6_code 53 = .ok (.bipush 10, 2) := by decide +kernel
theorem d_prog_69_method_6_code_55 : decode prog_69_method_6_code 55 = .ok (.if_icmp .eq 10, 3) := by decide +kernel
theorem d_prog_69_method_6_code_65 : decode prog_69_method_6_code 65 = .ok (.iinc 4 1, 3) := by decide +kernel
theorem d_prog_69_method_6_code_68 : decode prog_69_method_6_code 68 = .ok (.iconst 1, 1) := by decide +kernel
theorem d_prog_69_method_6_code_69 : decode prog_69_method_6_code 69 = .ok (.istore 5, 2) := by decide +kernel
theorem d_prog_69_method_6_code_71 : decode prog_69_method_6_code 71 = .ok (.iload 8, 2) := by decide +kernel
theorem d_prog_69_method_6_code_73 : decode prog_69_method_6_code 73 = .ok (.bipush 13, 2) := by decide +kernel
theorem d_prog_69_method_6_code_75 : decode prog_69_method_6_code 75 = .ok (.if_icmp .ne 7, 3) := by decide +kernel
theorem d_prog_69_method_6_code_82 : decode prog_69_method_6_code 82 = .ok (.iconst 0, 1) := by decide +kernel
theorem d_prog_69_method_6_code_83 : decode prog_69_method_6_code 83 = .ok (.istore 6, 2) := by decide +kernel
theorem d_prog_69_method_6_code_85 : decode prog_69_method_6_code 85 = .ok (.goto 9, 3) := by decide +kernel
theorem d_prog_69_method_6_code_94 : decode prog_69_method_6_code 94 = .ok (.iinc 7 1, 3) := by decide +kernel
theorem d_prog_69_method_6_code_97 : decode prog_69_method_6_code 97 = .ok (.goto (-76), 3) := by decide +kernel
theorem d_prog_69_method_6_code_45 : decode prog_69_method_6_code 45 = .ok (.iconst 0, 1) := by decide +kernel
theorem d_prog_69_method_6_code_46 : decode prog_69_method_6_code 46 = .ok (.istore 6, 2) := by decide +kernel
theorem d_prog_69_method_6_code_48 : decode prog_69_method_6_code 48 = .ok (.goto 46, 3) := by decide +kernel
theorem d_prog_69_method_6_code_58 : decode prog_69_method_6_code 58 = .ok (.iload 8, 2) := by decide +kernel
theorem d_prog_69_method_6_code_60 : decode prog_69_method_6_code 60 = .ok (.bipush 13, 2) := by decide +kernel
theorem d_prog_69_method_6_code_62 : decode prog_69_method_6_code 62 = .ok (.if_icmp .ne 26, 3) := by decide +kernel
theorem d_prog_69_method_6_code_78 : decode prog_69_method_6_code 78 = .ok (.iconst 1, 1) := by decide +kernel
theorem d_prog_69_method_6_code_79 : decode prog_69_method_6_code 79 = .ok (.goto 4, 3) := by decide +kernel
theorem d_prog_69_method_6_code_88 : decode prog_69_method_6_code 88 = .ok (.iinc 5 1, 3) := by decide +kernel
theorem d_prog_69_method_6_code_91 : decode prog_69_method_6_code 91 = .ok (.iconst 0, 1) := by decide +kernel
theorem d_prog_69_method_6_code_92 : decode prog_69_method_6_code 92 = .ok (.istore 6, 2) := by decide +kernel
theorem ef_6 (m : MethodId) (a : Addr) (b : Addr) (u2 : Int32) (u3 : Int32) : entryFrame m #[(.ref a), (.ref b), (.int u2), (.int u3)] 9 = mkF m 0 #[.val (.ref a), .val (.ref b), .val (.int u2), .val (.int u3), .unset, .unset, .unset, .unset, .unset] [] := by first | (simp [entryFrame, mkF, argsToLocals, Value.category]; done) | rfl
def Q_rm_bulk (Z : State) (a : Addr) (b : Addr) (u2 : Int32) (u3 : Int32) (l0 : Int32) (k0 : Int32) (r0 : Int32) (kb : ClassId) (x0 : Int32) (x1 : Int32) (x2 : Int32) (x3 : Int32) (h0 : Heap) (n0 : Nat) (v : Option Value) (h : Heap) (L : List Loc) : Prop := v = none ∧ Fr n0 L ∧ Keep h0 h [a] ∧ Exa Z h a "com/example/ivaldi/ivaldi/io/TextPosition" ∧ Fld Z h a "com/example/ivaldi/ivaldi/io/TextPosition" "line" "I" (.int (own_run x0 x1 x2 x3 ((u3.toInt - u2.toInt).toNat) u2 (l0, k0, r0)).1) ∧ Fld Z h a "com/example/ivaldi/ivaldi/io/TextPosition" "column" "I" (.int (own_run x0 x1 x2 x3 ((u3.toInt - u2.toInt).toNat) u2 (l0, k0, r0)).2.1) ∧ Fld Z h a "com/example/ivaldi/ivaldi/io/TextPosition" "afterReturn" "Z" (.int (own_run x0 x1 x2 x3 ((u3.toInt - u2.toInt).toNat) u2 (l0, k0, r0)).2.2)
set_option maxRecDepth 65536 in
set_option maxHeartbeats 40000000 in
theorem rm_bulk (l : Launch) (Z : State) (a0 : Array Value) (hw : ∀ d ∈ tables_1, d.before a0 Z = true) (ws : List Jvm.Cond) (a : Addr) (b : Addr) (u2 : Int32) (u3 : Int32) (l0 : Int32) (k0 : Int32) (r0 : Int32) (kb : ClassId) (x0 : Int32) (x1 : Int32) (x2 : Int32) (x3 : Int32) (h0 : Heap) (n0 : Nat) (Z0 : n0 ≤ h0.size) (F_line_a : Fld Z h0 a "com/example/ivaldi/ivaldi/io/TextPosition" "line" "I" (.int l0)) (F_column_a : Fld Z h0 a "com/example/ivaldi/ivaldi/io/TextPosition" "column" "I" (.int k0)) (F_afterReturn_a : Fld Z h0 a "com/example/ivaldi/ivaldi/io/TextPosition" "afterReturn" "Z" (.int r0)) (E_a : Exa Z h0 a "com/example/ivaldi/ivaldi/io/TextPosition") (gn_a : n0 ≤ a) (V_b : Arv Z h0 b kb .char (4 : Int32) [(.int x0), (.int x1), (.int x2), (.int x3)] (.int (0 : Int32))) (ne_b_a : b ≠ a) (hff : 0 ≤ u2.toInt) (htt : u3.toInt ≤ 4) (hb0 : nar .boolean r0 = r0) :
    MetFree l (⟨"com/example/ivaldi/ivaldi/io/TextPosition", "advance", "([CII)V"⟩ : MethodName) (head1 (Jvm.Cond.code (⟨"com/example/ivaldi/ivaldi/io/TextPosition", "advance", "([CII)V"⟩ : MethodName) prog_69_method_6_code 9 none :: ws) ({ frames := 0, cells := 0, slots := 0, locals := 0 } : Room)) (fun av_ U => av_ = #[(.ref a), (.ref b), (.int u2), (.int u3)] ∧ Z.Warmed39 U.vm ∧ U.heap = h0) (fun _ _ _ _ _ => True) (fun _ U o U' => ∃ v L, o = .returned v ∧ Q_rm_bulk Z a b u2 u3 l0 k0 r0 kb x0 x1 x2 x3 h0 n0 v U'.heap L ∧ FrameEnd U o U' L ({ frames := 0, cells := 0, slots := 0, locals := 0 } : Room).cells ({ frames := 0, cells := 0, slots := 0, locals := 0 } : Room).slots) := by
  refine MetFree.of_bodySF (plainFor_of_name pn_1) hisR ?_
  intro p e s m args below meth c s₁ Bd hml0 hP hK
  obtain ⟨rfl, hZ, hh⟩ := hP
  have hx := Bd.exec
  have hby := Bd.bytes
  have hml : c.maxLocals = 9 := hml0
  have hown : s.vm.findClass "com/example/ivaldi/ivaldi/io/TextPosition" = some m.cls := findClass_of_methodNamed Bd.named
  have hnm := (name_of_methodNamed Bd.named Bd.method).1
  have hlk : meth.locks = false := BodyLoose.notSynchronized Bd
  have X0 : Stand p l e ({ frames := 0, cells := 0, slots := 0, locals := 0 } : Room) s m #[(.ref a), (.ref b), (.int u2), (.int u3)] below meth c s₁ [] 0 0 := Stand.of_body Bd
  have e0 : s₁.heap = h0 := by rw [← hh, Bd.state]; rfl
  have N0 := Fr.nil n0
  refine own_by (fun _ kt => castTop (ef_6 m a b u2 u3) kt) (R := own_R s (Q_rm_bulk Z a b u2 u3 l0 k0 r0 kb x0 x1 x2 x3 h0 n0) 0 0) ?_
  show own_Go p.tables e below (s₁.setTop (mkF m 0 #[.val (.ref a), .val (.ref b), .val (.int u2), .val (.int u3), .unset, .unset, .unset, .unset, .unset] [])) _
  refine own_by (fun _ kt => XS.aloadN X0.here hx rfl (hb hby d_prog_69_method_6_code_0) rfl rfl kt) ?_
  show own_Go p.tables e below (s₁.setTop (mkF m 1 #[.val (.ref a), .val (.ref b), .val (.int u2), .val (.int u3), .unset, .unset, .unset, .unset, .unset] [(.ref a)])) _
  obtain ⟨T1, X1, e1, st1⟩ := getF X0 hx hZ hown (host := "") (Or.inl (hw _ (List.mem_of_getElem? (i := 14) rfl))) Via.refl e0 F_line_a (g := (mkF m 1 #[.val (.ref a), .val (.ref b), .val (.int u2), .val (.int u3), .unset, .unset, .unset, .unset, .unset] [(.ref a)])) rfl rfl (hb hby d_prog_69_method_6_code_1)
  refine own_by st1 ?_
  show own_Go p.tables e below (T1.setTop (mkF m 4 #[.val (.ref a), .val (.ref b), .val (.int u2), .val (.int u3), .unset, .unset, .unset, .unset, .unset] [(.int l0)])) _
  refine own_by (fun _ kt => XS.istore X1.here hx rfl (hb hby d_prog_69_method_6_code_4) rfl (l' := #[.val (.ref a), .val (.ref b), .val (.int u2), .val (.int u3), .val (.int l0), .unset, .unset, .unset, .unset]) rfl kt) ?_
  show own_Go p.tables e below (T1.setTop (mkF m 6 #[.val (.ref a), .val (.ref b), .val (.int u2), .val (.int u3), .val (.int l0), .unset, .unset, .unset, .unset] [])) _
  refine own_by (fun _ kt => XS.aloadN X1.here hx rfl (hb hby d_prog_69_method_6_code_6) rfl rfl kt) ?_
  show own_Go p.tables e below (T1.setTop (mkF m 7 #[.val (.ref a), .val (.ref b), .val (.int u2), .val (.int u3), .val (.int l0), .unset, .unset, .unset, .unset] [(.ref a)])) _
  obtain ⟨T2, X2, e2, st2⟩ := getF X1 hx hZ hown (host := "") (Or.inl (hw _ (List.mem_of_getElem? (i := 16) rfl))) Via.refl e1 F_column_a (g := (mkF m 7 #[.val (.ref a), .val (.ref b), .val (.int u2), .val (.int u3), .val (.int l0), .unset, .unset, .unset, .unset] [(.ref a)])) rfl rfl (hb hby d_prog_69_method_6_code_7)
  refine own_by st2 ?_
  show own_Go p.tables e below (T2.setTop (mkF m 10 #[.val (.ref a), .val (.ref b), .val (.int u2), .val (.int u3), .val (.int l0), .unset, .unset, .unset, .unset] [(.int k0)])) _
  refine own_by (fun _ kt => XS.istore X2.here hx rfl (hb hby d_prog_69_method_6_code_10) rfl (l' := #[.val (.ref a), .val (.ref b), .val (.int u2), .val (.int u3), .val (.int l0), .val (.int k0), .unset, .unset, .unset]) rfl kt) ?_
  show own_Go p.tables e below (T2.setTop (mkF m 12 #[.val (.ref a), .val (.ref b), .val (.int u2), .val (.int u3), .val (.int l0), .val (.int k0), .unset, .unset, .unset] [])) _
  refine own_by (fun _ kt => XS.aloadN X2.here hx rfl (hb hby d_prog_69_method_6_code_12) rfl rfl kt) ?_
  show own_Go p.tables e below (T2.setTop (mkF m 13 #[.val (.ref a), .val (.ref b), .val (.int u2), .val (.int u3), .val (.int l0), .val (.int k0), .unset, .unset, .unset] [(.ref a)])) _
  obtain ⟨T3, X3, e3, st3⟩ := getF X2 hx hZ hown (host := "") (Or.inl (hw _ (List.mem_of_getElem? (i := 23) rfl))) Via.refl e2 F_afterReturn_a (g := (mkF m 13 #[.val (.ref a), .val (.ref b), .val (.int u2), .val (.int u3), .val (.int l0), .val (.int k0), .unset, .unset, .unset] [(.ref a)])) rfl rfl (hb hby d_prog_69_method_6_code_13)
  refine own_by st3 ?_
  show own_Go p.tables e below (T3.setTop (mkF m 16 #[.val (.ref a), .val (.ref b), .val (.int u2), .val (.int u3), .val (.int l0), .val (.int k0), .unset, .unset, .unset] [(.int r0)])) _
  refine own_by (fun _ kt => XS.istore X3.here hx rfl (hb hby d_prog_69_method_6_code_16) rfl (l' := #[.val (.ref a), .val (.ref b), .val (.int u2), .val (.int u3), .val (.int l0), .val (.int k0), .val (.int r0), .unset, .unset]) rfl kt) ?_
  show own_Go p.tables e below (T3.setTop (mkF m 18 #[.val (.ref a), .val (.ref b), .val (.int u2), .val (.int u3), .val (.int l0), .val (.int k0), .val (.int r0), .unset, .unset] [])) _
  refine own_by (fun _ kt => XS.iloadN X3.here hx rfl (hb hby d_prog_69_method_6_code_18) rfl kt) ?_
  show own_Go p.tables e below (T3.setTop (mkF m 19 #[.val (.ref a), .val (.ref b), .val (.int u2), .val (.int u3), .val (.int l0), .val (.int k0), .val (.int r0), .unset, .unset] [(.int u2)])) _
  refine own_by (fun _ kt => XS.istore X3.here hx rfl (hb hby d_prog_69_method_6_code_19) rfl (l' := #[.val (.ref a), .val (.ref b), .val (.int u2), .val (.int u3), .val (.int l0), .val (.int k0), .val (.int r0), .val (.int u2), .unset]) rfl kt) ?_
  show own_Go p.tables e below (T3.setTop (mkF m 21 #[.val (.ref a), .val (.ref b), .val (.int u2), .val (.int u3), .val (.int l0), .val (.int k0), .val (.int r0), .val (.int u2), .unset] [])) _
  have J4 : ∀ (nn : Nat) (ll : Int32) (kk : Int32) (rr : Int32) (i : Int32) (c8 : Int32) (hn : (u3.toInt - i.toInt).toNat = nn) (h0i : 0 ≤ i.toInt) (hr : nar .boolean rr = rr) (hF : own_run x0 x1 x2 x3 nn i (ll, kk, rr) = (own_run x0 x1 x2 x3 ((u3.toInt - u2.toInt).toNat) u2 (l0, k0, r0))) , own_Go p.tables e below (T3.setTop (mkF m 21 #[.val (.ref a), .val (.ref b), .val (.int u2), .val (.int u3), .val (.int ll), .val (.int kk), .val (.int rr), .val (.int i), .val (.int c8)] [])) (own_R s (Q_rm_bulk Z a b u2 u3 l0 k0 r0 kb x0 x1 x2 x3 h0 n0) 0 0) := by
    intro nn
    induction nn with
    | zero =>
      intro ll kk rr i c8 hn h0i hr hF
      refine own_by (fun _ kt => XS.iload X3.here hx rfl (hb hby d_prog_69_method_6_code_21) rfl kt) ?_
      show own_Go p.tables e below (T3.setTop (mkF m 23 #[.val (.ref a), .val (.ref b), .val (.int u2), .val (.int u3), .val (.int ll), .val (.int kk), .val (.int rr), .val (.int i), .val (.int c8)] [(.int i)])) _
      refine own_by (fun _ kt => XS.iloadN X3.here hx rfl (hb hby d_prog_69_method_6_code_23) rfl kt) ?_
      show own_Go p.tables e below (T3.setTop (mkF m 24 #[.val (.ref a), .val (.ref b), .val (.int u2), .val (.int u3), .val (.int ll), .val (.int kk), .val (.int rr), .val (.int i), .val (.int c8)] [(.int u3), (.int i)])) _
      refine own_by (fun _ kt => XS.icmpYes X3.here hx rfl (pc0 := 24) (pc' := 100) rfl (hb hby d_prog_69_method_6_code_24) rfl (flt (by rw [Int32.lt_iff_toInt_lt]; omega : ¬ (i < u3))).2.1 (by decide) (by decide) kt) ?_
      show own_Go p.tables e below (T3.setTop (mkF m 100 #[.val (.ref a), .val (.ref b), .val (.int u2), .val (.int u3), .val (.int ll), .val (.int kk), .val (.int rr), .val (.int i), .val (.int c8)] [])) _
      refine own_by (fun _ kt => XS.aloadN X3.here hx rfl (hb hby d_prog_69_method_6_code_100) rfl rfl kt) ?_
      show own_Go p.tables e below (T3.setTop (mkF m 101 #[.val (.ref a), .val (.ref b), .val (.int u2), .val (.int u3), .val (.int ll), .val (.int kk), .val (.int rr), .val (.int i), .val (.int c8)] [(.ref a)])) _
      refine own_by (fun _ kt => XS.iload X3.here hx rfl (hb hby d_prog_69_method_6_code_101) rfl kt) ?_
      show own_Go p.tables e below (T3.setTop (mkF m 103 #[.val (.ref a), .val (.ref b), .val (.int u2), .val (.int u3), .val (.int ll), .val (.int kk), .val (.int rr), .val (.int i), .val (.int c8)] [(.int ll), (.ref a)])) _
      obtain ⟨T5, h5, X5, e5, W5, st5⟩ := putF X3 hx hZ hown (host := "") (Or.inl (hw _ (List.mem_of_getElem? (i := 14) rfl))) Via.refl e3 F_line_a E_a (Or.inl (hw _ (List.mem_of_getElem? (i := 15) rfl))) (hw _ (List.mem_of_getElem? (i := 6) rfl)) (ty := .int) (by decide) rfl rfl (g := (mkF m 103 #[.val (.ref a), .val (.ref b), .val (.int u2), .val (.int u3), .val (.int ll), .val (.int kk), .val (.int rr), .val (.int i), .val (.int c8)] [(.int ll), (.ref a)])) rfl rfl (hb hby d_prog_69_method_6_code_103)
      have Fw5 := F_line_a.same W5
      have f6 := F_column_a.other W5 (Or.inr (slot_ne (Or.inl (hw _ (List.mem_of_getElem? (i := 17) rfl))) (Or.inl (hw _ (List.mem_of_getElem? (i := 15) rfl))) (by decide) (t := .int) (t' := .int) (by decide) (by decide)))
      have f7 := F_afterReturn_a.other W5 (Or.inr (slot_ne (Or.inl (hw _ (List.mem_of_getElem? (i := 24) rfl))) (Or.inl (hw _ (List.mem_of_getElem? (i := 15) rfl))) (by decide) (t := .boolean) (t' := .int) (by decide) (by decide)))
      have f8 := E_a.wr W5
      have f9 := V_b.other W5 ne_b_a
      have Zs5 : n0 ≤ h5.size := by rw [W5.size]; exact Z0
      have K5 : Keep h0 h5 [a] := (Keep.refl h0 [a]).wr W5 (Or.inl (List.mem_of_getElem? (i := 0) rfl))
      have N5 := Fr.snoc X5 N0 gn_a
      refine own_by st5 ?_
      show own_Go p.tables e below (T5.setTop (mkF m 106 #[.val (.ref a), .val (.ref b), .val (.int u2), .val (.int u3), .val (.int ll), .val (.int kk), .val (.int rr), .val (.int i), .val (.int c8)] [])) _
      refine own_by (fun _ kt => XS.aloadN X5.here hx rfl (hb hby d_prog_69_method_6_code_106) rfl rfl kt) ?_
      show own_Go p.tables e below (T5.setTop (mkF m 107 #[.val (.ref a), .val (.ref b), .val (.int u2), .val (.int u3), .val (.int ll), .val (.int kk), .val (.int rr), .val (.int i), .val (.int c8)] [(.ref a)])) _
      refine own_by (fun _ kt => XS.iload X5.here hx rfl (hb hby d_prog_69_method_6_code_107) rfl kt) ?_
      show own_Go p.tables e below (T5.setTop (mkF m 109 #[.val (.ref a), .val (.ref b), .val (.int u2), .val (.int u3), .val (.int ll), .val (.int kk), .val (.int rr), .val (.int i), .val (.int c8)] [(.int kk), (.ref a)])) _
      obtain ⟨T10, h10, X10, e10, W10, st10⟩ := putF X5 hx hZ hown (host := "") (Or.inl (hw _ (List.mem_of_getElem? (i := 16) rfl))) Via.refl e5 f6 f8 (Or.inl (hw _ (List.mem_of_getElem? (i := 17) rfl))) (hw _ (List.mem_of_getElem? (i := 6) rfl)) (ty := .int) (by decide) rfl rfl (g := (mkF m 109 #[.val (.ref a), .val (.ref b), .val (.int u2), .val (.int u3), .val (.int ll), .val (.int kk), .val (.int rr), .val (.int i), .val (.int c8)] [(.int kk), (.ref a)])) rfl rfl (hb hby d_prog_69_method_6_code_109)
      have Fw10 := f6.same W10
      have f11 := Fw5.other W10 (Or.inr (slot_ne (Or.inl (hw _ (List.mem_of_getElem? (i := 15) rfl))) (Or.inl (hw _ (List.mem_of_getElem? (i := 17) rfl))) (by decide) (t := .int) (t' := .int) (by decide) (by decide)))
      have f12 := f7.other W10 (Or.inr (slot_ne (Or.inl (hw _ (List.mem_of_getElem? (i := 24) rfl))) (Or.inl (hw _ (List.mem_of_getElem? (i := 17) rfl))) (by decide) (t := .boolean) (t' := .int) (by decide) (by decide)))
      have f13 := f8.wr W10
      have f14 := f9.other W10 ne_b_a
      have Zs10 : n0 ≤ h10.size := by rw [W10.size]; exact Zs5
      have K10 : Keep h0 h10 [a] := K5.wr W10 (Or.inl (List.mem_of_getElem? (i := 0) rfl))
      have N10 := Fr.snoc X10 N5 gn_a
      refine own_by st10 ?_
      show own_Go p.tables e below (T10.setTop (mkF m 112 #[.val (.ref a), .val (.ref b), .val (.int u2), .val (.int u3), .val (.int ll), .val (.int kk), .val (.int rr), .val (.int i), .val (.int c8)] [])) _
      refine own_by (fun _ kt => XS.aloadN X10.here hx rfl (hb hby d_prog_69_method_6_code_112) rfl rfl kt) ?_
      show own_Go p.tables e below (T10.setTop (mkF m 113 #[.val (.ref a), .val (.ref b), .val (.int u2), .val (.int u3), .val (.int ll), .val (.int kk), .val (.int rr), .val (.int i), .val (.int c8)] [(.ref a)])) _
      refine own_by (fun _ kt => XS.iload X10.here hx rfl (hb hby d_prog_69_method_6_code_113) rfl kt) ?_
      show own_Go p.tables e below (T10.setTop (mkF m 115 #[.val (.ref a), .val (.ref b), .val (.int u2), .val (.int u3), .val (.int ll), .val (.int kk), .val (.int rr), .val (.int i), .val (.int c8)] [(.int rr), (.ref a)])) _
      obtain ⟨T15, h15, X15, e15, W15, st15⟩ := putFN X10 hx hZ hown (hw _ (List.mem_of_getElem? (i := 23) rfl)) Via.refl e10 f12 f13 (Or.inl (hw _ (List.mem_of_getElem? (i := 24) rfl))) (hw _ (List.mem_of_getElem? (i := 6) rfl)) (ty := .boolean) (v' := (.int (nar .boolean rr))) (by decide) rfl (fits_nar_bool _) (g := (mkF m 115 #[.val (.ref a), .val (.ref b), .val (.int u2), .val (.int u3), .val (.int ll), .val (.int kk), .val (.int rr), .val (.int i), .val (.int c8)] [(.int rr), (.ref a)])) rfl rfl (hb hby d_prog_69_method_6_code_115)
      have Fw15 := f12.same W15
      have f16 := f11.other W15 (Or.inr (slot_ne (Or.inl (hw _ (List.mem_of_getElem? (i := 15) rfl))) (Or.inl (hw _ (List.mem_of_getElem? (i := 24) rfl))) (by decide) (t := .int) (t' := .boolean) (by decide) (by decide)))
      have f17 := Fw10.other W15 (Or.inr (slot_ne (Or.inl (hw _ (List.mem_of_getElem? (i := 17) rfl))) (Or.inl (hw _ (List.mem_of_getElem? (i := 24) rfl))) (by decide) (t := .int) (t' := .boolean) (by decide) (by decide)))
      have f18 := f13.wr W15
      have f19 := f14.other W15 ne_b_a
      have Zs15 : n0 ≤ h15.size := by rw [W15.size]; exact Zs10
      have K15 : Keep h0 h15 [a] := K10.wr W15 (Or.inl (List.mem_of_getElem? (i := 0) rfl))
      have N15 := Fr.snoc X15 N10 gn_a
      refine own_by st15 ?_
      show own_Go p.tables e below (T15.setTop (mkF m 118 #[.val (.ref a), .val (.ref b), .val (.int u2), .val (.int u3), .val (.int ll), .val (.int kk), .val (.int rr), .val (.int i), .val (.int c8)] [])) _
      exact own_retV X15 hx Bd.returns hlk (hb hby d_prog_69_method_6_code_118) (by rw [e15]; exact ⟨rfl, N15, K15, f18, (by rw [← hF]; exact f16), (by rw [← hF]; exact f17), (by have q := Fw15; rw [hr] at q; rw [← hF]; exact q)⟩) (by decide) (by decide)
    | succ nn ih =>
      intro ll kk rr i c8 hn h0i hr hF
      refine own_by (fun _ kt => XS.iload X3.here hx rfl (hb hby d_prog_69_method_6_code_21) rfl kt) ?_
      show own_Go p.tables e below (T3.setTop (mkF m 23 #[.val (.ref a), .val (.ref b), .val (.int u2), .val (.int u3), .val (.int ll), .val (.int kk), .val (.int rr), .val (.int i), .val (.int c8)] [(.int i)])) _
      refine own_by (fun _ kt => XS.iloadN X3.here hx rfl (hb hby d_prog_69_method_6_code_23) rfl kt) ?_
      show own_Go p.tables e below (T3.setTop (mkF m 24 #[.val (.ref a), .val (.ref b), .val (.int u2), .val (.int u3), .val (.int ll), .val (.int kk), .val (.int rr), .val (.int i), .val (.int c8)] [(.int u3), (.int i)])) _
      refine own_by (fun _ kt => XS.icmpNo X3.here hx rfl (hb hby d_prog_69_method_6_code_24) rfl (tlt (by rw [Int32.lt_iff_toInt_lt]; omega : i < u3)).2.1 kt) ?_
      show own_Go p.tables e below (T3.setTop (mkF m 27 #[.val (.ref a), .val (.ref b), .val (.int u2), .val (.int u3), .val (.int ll), .val (.int kk), .val (.int rr), .val (.int i), .val (.int c8)] [])) _
      refine own_by (fun _ kt => XS.aloadN X3.here hx rfl (hb hby d_prog_69_method_6_code_27) rfl rfl kt) ?_
      show own_Go p.tables e below (T3.setTop (mkF m 28 #[.val (.ref a), .val (.ref b), .val (.int u2), .val (.int u3), .val (.int ll), .val (.int kk), .val (.int rr), .val (.int i), .val (.int c8)] [(.ref b)])) _
      refine own_by (fun _ kt => XS.iload X3.here hx rfl (hb hby d_prog_69_method_6_code_28) rfl kt) ?_
      show own_Go p.tables e below (T3.setTop (mkF m 30 #[.val (.ref a), .val (.ref b), .val (.int u2), .val (.int u3), .val (.int ll), .val (.int kk), .val (.int rr), .val (.int i), .val (.int c8)] [(.int i), (.ref b)])) _
      refine own_by (own_caload X3 hx hZ e3 V_b (j := i) (v := (.int (own_at x0 x1 x2 x3 i))) (own_inb i u3 h0i (by rw [Int32.lt_iff_toInt_lt]; omega) htt) (own_get _ _ _ _ _ (own_inb i u3 h0i (by rw [Int32.lt_iff_toInt_lt]; omega) htt)) (g := (mkF m 30 #[.val (.ref a), .val (.ref b), .val (.int u2), .val (.int u3), .val (.int ll), .val (.int kk), .val (.int rr), .val (.int i), .val (.int c8)] [(.int i), (.ref b)])) rfl rfl (hb hby d_prog_69_method_6_code_30)) ?_
      show own_Go p.tables e below (T3.setTop (mkF m 31 #[.val (.ref a), .val (.ref b), .val (.int u2), .val (.int u3), .val (.int ll), .val (.int kk), .val (.int rr), .val (.int i), .val (.int c8)] [(.int (own_at x0 x1 x2 x3 i))])) _
      refine own_by (fun _ kt => XS.istore X3.here hx rfl (hb hby d_prog_69_method_6_code_31) rfl (l' := #[.val (.ref a), .val (.ref b), .val (.int u2), .val (.int u3), .val (.int ll), .val (.int kk), .val (.int rr), .val (.int i), .val (.int (own_at x0 x1 x2 x3 i))]) rfl kt) ?_
      show own_Go p.tables e below (T3.setTop (mkF m 33 #[.val (.ref a), .val (.ref b), .val (.int u2), .val (.int u3), .val (.int ll), .val (.int kk), .val (.int rr), .val (.int i), .val (.int (own_at x0 x1 x2 x3 i))] [])) _
      refine own_by (fun _ kt => XS.iload X3.here hx rfl (hb hby d_prog_69_method_6_code_33) rfl kt) ?_
      show own_Go p.tables e below (T3.setTop (mkF m 35 #[.val (.ref a), .val (.ref b), .val (.int u2), .val (.int u3), .val (.int ll), .val (.int kk), .val (.int rr), .val (.int i), .val (.int (own_at x0 x1 x2 x3 i))] [(.int (own_at x0 x1 x2 x3 i))])) _
      refine own_by (fun _ kt => XS.bipush X3.here hx rfl (hb hby d_prog_69_method_6_code_35) kt) ?_
      show own_Go p.tables e below (T3.setTop (mkF m 37 #[.val (.ref a), .val (.ref b), .val (.int u2), .val (.int u3), .val (.int ll), .val (.int kk), .val (.int rr), .val (.int i), .val (.int (own_at x0 x1 x2 x3 i))] [(.int (10 : Int32)), (.int (own_at x0 x1 x2 x3 i))])) _
      by_cases hc37_20 : (own_at x0 x1 x2 x3 i) = (10 : Int32)
      · refine own_by (fun _ kt => XS.icmpNo X3.here hx rfl (hb hby d_prog_69_method_6_code_37) rfl (teq hc37_20).2 kt) ?_
        show own_Go p.tables e below (T3.setTop (mkF m 40 #[.val (.ref a), .val (.ref b), .val (.int u2), .val (.int u3), .val (.int ll), .val (.int kk), .val (.int rr), .val (.int i), .val (.int (own_at x0 x1 x2 x3 i))] [])) _
        refine own_by (fun _ kt => XS.iload X3.here hx rfl (hb hby d_prog_69_method_6_code_40) rfl kt) ?_
        show own_Go p.tables e below (T3.setTop (mkF m 42 #[.val (.ref a), .val (.ref b), .val (.int u2), .val (.int u3), .val (.int ll), .val (.int kk), .val (.int rr), .val (.int i), .val (.int (own_at x0 x1 x2 x3 i))] [(.int rr)])) _
        by_cases hc42_21 : rr = (0 : Int32)
        · refine own_by (fun _ kt => XS.ifYes X3.here hx rfl (pc0 := 42) (pc' := 51) rfl (hb hby d_prog_69_method_6_code_42) rfl ((if0 _ _).trans (teq hc42_21).1) (by decide) (by decide) kt) ?_
          show own_Go p.tables e below (T3.setTop (mkF m 51 #[.val (.ref a), .val (.ref b), .val (.int u2), .val (.int u3), .val (.int ll), .val (.int kk), .val (.int rr), .val (.int i), .val (.int (own_at x0 x1 x2 x3 i))] [])) _
          refine own_by (fun _ kt => XS.iload X3.here hx rfl (hb hby d_prog_69_method_6_code_51) rfl kt) ?_
          show own_Go p.tables e below (T3.setTop (mkF m 53 #[.val (.ref a), .val (.ref b), .val (.int u2), .val (.int u3), .val (.int ll), .val (.int kk), .val (.int rr), .val (.int i), .val (.int (own_at x0 x1 x2 x3 i))] [(.int (own_at x0 x1 x2 x3 i))])) _
          refine own_by (fun _ kt => XS.bipush X3.here hx rfl (hb hby d_prog_69_method_6_code_53) kt) ?_
          show own_Go p.tables e below (T3.setTop (mkF m 55 #[.val (.ref a), .val (.ref b), .val (.int u2), .val (.int u3), .val (.int ll), .val (.int kk), .val (.int rr), .val (.int i), .val (.int (own_at x0 x1 x2 x3 i))] [(.int (10 : Int32)), (.int (own_at x0 x1 x2 x3 i))])) _
          refine own_by (fun _ kt => XS.icmpYes X3.here hx rfl (pc0 := 55) (pc' := 65) rfl (hb hby d_prog_69_method_6_code_55) rfl (teq hc37_20).1 (by decide) (by decide) kt) ?_
          show own_Go p.tables e below (T3.setTop (mkF m 65 #[.val (.ref a), .val (.ref b), .val (.int u2), .val (.int u3), .val (.int ll), .val (.int kk), .val (.int rr), .val (.int i), .val (.int (own_at x0 x1 x2 x3 i))] [])) _
          refine own_by (fun _ kt => XS.iinc X3.here hx rfl (hb hby d_prog_69_method_6_code_65) rfl (l' := #[.val (.ref a), .val (.ref b), .val (.int u2), .val (.int u3), .val (.int (ll + (1 : Int32))), .val (.int kk), .val (.int rr), .val (.int i), .val (.int (own_at x0 x1 x2 x3 i))]) rfl kt) ?_
          show own_Go p.tables e below (T3.setTop (mkF m 68 #[.val (.ref a), .val (.ref b), .val (.int u2), .val (.int u3), .val (.int (ll + (1 : Int32))), .val (.int kk), .val (.int rr), .val (.int i), .val (.int (own_at x0 x1 x2 x3 i))] [])) _
          refine own_by (fun _ kt => XS.iconst X3.here hx rfl (hb hby d_prog_69_method_6_code_68) kt) ?_
          show own_Go p.tables e below (T3.setTop (mkF m 69 #[.val (.ref a), .val (.ref b), .val (.int u2), .val (.int u3), .val (.int (ll + (1 : Int32))), .val (.int kk), .val (.int rr), .val (.int i), .val (.int (own_at x0 x1 x2 x3 i))] [(.int (1 : Int32))])) _
          refine own_by (fun _ kt => XS.istore X3.here hx rfl (hb hby d_prog_69_method_6_code_69) rfl (l' := #[.val (.ref a), .val (.ref b), .val (.int u2), .val (.int u3), .val (.int (ll + (1 : Int32))), .val (.int (1 : Int32)), .val (.int rr), .val (.int i), .val (.int (own_at x0 x1 x2 x3 i))]) rfl kt) ?_
          show own_Go p.tables e below (T3.setTop (mkF m 71 #[.val (.ref a), .val (.ref b), .val (.int u2), .val (.int u3), .val (.int (ll + (1 : Int32))), .val (.int (1 : Int32)), .val (.int rr), .val (.int i), .val (.int (own_at x0 x1 x2 x3 i))] [])) _
          refine own_by (fun _ kt => XS.iload X3.here hx rfl (hb hby d_prog_69_method_6_code_71) rfl kt) ?_
          show own_Go p.tables e below (T3.setTop (mkF m 73 #[.val (.ref a), .val (.ref b), .val (.int u2), .val (.int u3), .val (.int (ll + (1 : Int32))), .val (.int (1 : Int32)), .val (.int rr), .val (.int i), .val (.int (own_at x0 x1 x2 x3 i))] [(.int (own_at x0 x1 x2 x3 i))])) _
          refine own_by (fun _ kt => XS.bipush X3.here hx rfl (hb hby d_prog_69_method_6_code_73) kt) ?_
          show own_Go p.tables e below (T3.setTop (mkF m 75 #[.val (.ref a), .val (.ref b), .val (.int u2), .val (.int u3), .val (.int (ll + (1 : Int32))), .val (.int (1 : Int32)), .val (.int rr), .val (.int i), .val (.int (own_at x0 x1 x2 x3 i))] [(.int (13 : Int32)), (.int (own_at x0 x1 x2 x3 i))])) _
          refine own_by (fun _ kt => XS.icmpYes X3.here hx rfl (pc0 := 75) (pc' := 82) rfl (hb hby d_prog_69_method_6_code_75) rfl (feq (by rw [hc37_20]; decide : ¬ ((own_at x0 x1 x2 x3 i) = (13 : Int32)))).2 (by decide) (by decide) kt) ?_
          show own_Go p.tables e below (T3.setTop (mkF m 82 #[.val (.ref a), .val (.ref b), .val (.int u2), .val (.int u3), .val (.int (ll + (1 : Int32))), .val (.int (1 : Int32)), .val (.int rr), .val (.int i), .val (.int (own_at x0 x1 x2 x3 i))] [])) _
          refine own_by (fun _ kt => XS.iconst X3.here hx rfl (hb hby d_prog_69_method_6_code_82) kt) ?_
          show own_Go p.tables e below (T3.setTop (mkF m 83 #[.val (.ref a), .val (.ref b), .val (.int u2), .val (.int u3), .val (.int (ll + (1 : Int32))), .val (.int (1 : Int32)), .val (.int rr), .val (.int i), .val (.int (own_at x0 x1 x2 x3 i))] [(.int (0 : Int32))])) _
          refine own_by (fun _ kt => XS.istore X3.here hx rfl (hb hby d_prog_69_method_6_code_83) rfl (l' := #[.val (.ref a), .val (.ref b), .val (.int u2), .val (.int u3), .val (.int (ll + (1 : Int32))), .val (.int (1 : Int32)), .val (.int (0 : Int32)), .val (.int i), .val (.int (own_at x0 x1 x2 x3 i))]) rfl kt) ?_
          show own_Go p.tables e below (T3.setTop (mkF m 85 #[.val (.ref a), .val (.ref b), .val (.int u2), .val (.int u3), .val (.int (ll + (1 : Int32))), .val (.int (1 : Int32)), .val (.int (0 : Int32)), .val (.int i), .val (.int (own_at x0 x1 x2 x3 i))] [])) _
          refine own_by (fun _ kt => XS.goto X3.here hx rfl (pc0 := 85) (pc' := 94) rfl (hb hby d_prog_69_method_6_code_85) (by decide) (by decide) kt) ?_
          show own_Go p.tables e below (T3.setTop (mkF m 94 #[.val (.ref a), .val (.ref b), .val (.int u2), .val (.int u3), .val (.int (ll + (1 : Int32))), .val (.int (1 : Int32)), .val (.int (0 : Int32)), .val (.int i), .val (.int (own_at x0 x1 x2 x3 i))] [])) _
          refine own_by (fun _ kt => XS.iinc X3.here hx rfl (hb hby d_prog_69_method_6_code_94) rfl (l' := #[.val (.ref a), .val (.ref b), .val (.int u2), .val (.int u3), .val (.int (ll + (1 : Int32))), .val (.int (1 : Int32)), .val (.int (0 : Int32)), .val (.int (i + (1 : Int32))), .val (.int (own_at x0 x1 x2 x3 i))]) rfl kt) ?_
          show own_Go p.tables e below (T3.setTop (mkF m 97 #[.val (.ref a), .val (.ref b), .val (.int u2), .val (.int u3), .val (.int (ll + (1 : Int32))), .val (.int (1 : Int32)), .val (.int (0 : Int32)), .val (.int (i + (1 : Int32))), .val (.int (own_at x0 x1 x2 x3 i))] [])) _
          refine own_by (fun _ kt => XS.goto X3.here hx rfl (pc0 := 97) (pc' := 21) rfl (hb hby d_prog_69_method_6_code_97) (by decide) (by decide) kt) ?_
          show own_Go p.tables e below (T3.setTop (mkF m 21 #[.val (.ref a), .val (.ref b), .val (.int u2), .val (.int u3), .val (.int (ll + (1 : Int32))), .val (.int (1 : Int32)), .val (.int (0 : Int32)), .val (.int (i + (1 : Int32))), .val (.int (own_at x0 x1 x2 x3 i))] [])) _
          exact ih ((ll + (1 : Int32))) ((1 : Int32)) ((0 : Int32)) ((i + (1 : Int32))) ((own_at x0 x1 x2 x3 i)) (by rw [own_inc i u3 h0i (by rw [Int32.lt_iff_toInt_lt]; omega) htt]; omega) (by rw [own_inc i u3 h0i (by rw [Int32.lt_iff_toInt_lt]; omega) htt]; omega) (rfl) (by rw [← hF]; simp only [own_run, own_ln, own_cl, own_ar, if_pos hc37_20, if_pos hc42_21])
        · refine own_by (fun _ kt => XS.ifNo X3.here hx rfl (hb hby d_prog_69_method_6_code_42) rfl ((if0 _ _).trans (feq hc42_21).1) kt) ?_
          show own_Go p.tables e below (T3.setTop (mkF m 45 #[.val (.ref a), .val (.ref b), .val (.int u2), .val (.int u3), .val (.int ll), .val (.int kk), .val (.int rr), .val (.int i), .val (.int (own_at x0 x1 x2 x3 i))] [])) _
          refine own_by (fun _ kt => XS.iconst X3.here hx rfl (hb hby d_prog_69_method_6_code_45) kt) ?_
          show own_Go p.tables e below (T3.setTop (mkF m 46 #[.val (.ref a), .val (.ref b), .val (.int u2), .val (.int u3), .val (.int ll), .val (.int kk), .val (.int rr), .val (.int i), .val (.int (own_at x0 x1 x2 x3 i))] [(.int (0 : Int32))])) _
          refine own_by (fun _ kt => XS.istore X3.here hx rfl (hb hby d_prog_69_method_6_code_46) rfl (l' := #[.val (.ref a), .val (.ref b), .val (.int u2), .val (.int u3), .val (.int ll), .val (.int kk), .val (.int (0 : Int32)), .val (.int i), .val (.int (own_at x0 x1 x2 x3 i))]) rfl kt) ?_
          show own_Go p.tables e below (T3.setTop (mkF m 48 #[.val (.ref a), .val (.ref b), .val (.int u2), .val (.int u3), .val (.int ll), .val (.int kk), .val (.int (0 : Int32)), .val (.int i), .val (.int (own_at x0 x1 x2 x3 i))] [])) _
          refine own_by (fun _ kt => XS.goto X3.here hx rfl (pc0 := 48) (pc' := 94) rfl (hb hby d_prog_69_method_6_code_48) (by decide) (by decide) kt) ?_
          show own_Go p.tables e below (T3.setTop (mkF m 94 #[.val (.ref a), .val (.ref b), .val (.int u2), .val (.int u3), .val (.int ll), .val (.int kk), .val (.int (0 : Int32)), .val (.int i), .val (.int (own_at x0 x1 x2 x3 i))] [])) _
          refine own_by (fun _ kt => XS.iinc X3.here hx rfl (hb hby d_prog_69_method_6_code_94) rfl (l' := #[.val (.ref a), .val (.ref b), .val (.int u2), .val (.int u3), .val (.int ll), .val (.int kk), .val (.int (0 : Int32)), .val (.int (i + (1 : Int32))), .val (.int (own_at x0 x1 x2 x3 i))]) rfl kt) ?_
          show own_Go p.tables e below (T3.setTop (mkF m 97 #[.val (.ref a), .val (.ref b), .val (.int u2), .val (.int u3), .val (.int ll), .val (.int kk), .val (.int (0 : Int32)), .val (.int (i + (1 : Int32))), .val (.int (own_at x0 x1 x2 x3 i))] [])) _
          refine own_by (fun _ kt => XS.goto X3.here hx rfl (pc0 := 97) (pc' := 21) rfl (hb hby d_prog_69_method_6_code_97) (by decide) (by decide) kt) ?_
          show own_Go p.tables e below (T3.setTop (mkF m 21 #[.val (.ref a), .val (.ref b), .val (.int u2), .val (.int u3), .val (.int ll), .val (.int kk), .val (.int (0 : Int32)), .val (.int (i + (1 : Int32))), .val (.int (own_at x0 x1 x2 x3 i))] [])) _
          exact ih (ll) (kk) ((0 : Int32)) ((i + (1 : Int32))) ((own_at x0 x1 x2 x3 i)) (by rw [own_inc i u3 h0i (by rw [Int32.lt_iff_toInt_lt]; omega) htt]; omega) (by rw [own_inc i u3 h0i (by rw [Int32.lt_iff_toInt_lt]; omega) htt]; omega) (rfl) (by rw [← hF]; simp only [own_run, own_ln, own_cl, own_ar, if_pos hc37_20, if_neg hc42_21])
      · refine own_by (fun _ kt => XS.icmpYes X3.here hx rfl (pc0 := 37) (pc' := 51) rfl (hb hby d_prog_69_method_6_code_37) rfl (feq hc37_20).2 (by decide) (by decide) kt) ?_
        show own_Go p.tables e below (T3.setTop (mkF m 51 #[.val (.ref a), .val (.ref b), .val (.int u2), .val (.int u3), .val (.int ll), .val (.int kk), .val (.int rr), .val (.int i), .val (.int (own_at x0 x1 x2 x3 i))] [])) _
        refine own_by (fun _ kt => XS.iload X3.here hx rfl (hb hby d_prog_69_method_6_code_51) rfl kt) ?_
        show own_Go p.tables e below (T3.setTop (mkF m 53 #[.val (.ref a), .val (.ref b), .val (.int u2), .val (.int u3), .val (.int ll), .val (.int kk), .val (.int rr), .val (.int i), .val (.int (own_at x0 x1 x2 x3 i))] [(.int (own_at x0 x1 x2 x3 i))])) _
        refine own_by (fun _ kt => XS.bipush X3.here hx rfl (hb hby d_prog_69_method_6_code_53) kt) ?_
        show own_Go p.tables e below (T3.setTop (mkF m 55 #[.val (.ref a), .val (.ref b), .val (.int u2), .val (.int u3), .val (.int ll), .val (.int kk), .val (.int rr), .val (.int i), .val (.int (own_at x0 x1 x2 x3 i))] [(.int (10 : Int32)), (.int (own_at x0 x1 x2 x3 i))])) _
        refine own_by (fun _ kt => XS.icmpNo X3.here hx rfl (hb hby d_prog_69_method_6_code_55) rfl (feq hc37_20).1 kt) ?_
        show own_Go p.tables e below (T3.setTop (mkF m 58 #[.val (.ref a), .val (.ref b), .val (.int u2), .val (.int u3), .val (.int ll), .val (.int kk), .val (.int rr), .val (.int i), .val (.int (own_at x0 x1 x2 x3 i))] [])) _
        refine own_by (fun _ kt => XS.iload X3.here hx rfl (hb hby d_prog_69_method_6_code_58) rfl kt) ?_
        show own_Go p.tables e below (T3.setTop (mkF m 60 #[.val (.ref a), .val (.ref b), .val (.int u2), .val (.int u3), .val (.int ll), .val (.int kk), .val (.int rr), .val (.int i), .val (.int (own_at x0 x1 x2 x3 i))] [(.int (own_at x0 x1 x2 x3 i))])) _
        refine own_by (fun _ kt => XS.bipush X3.here hx rfl (hb hby d_prog_69_method_6_code_60) kt) ?_
        show own_Go p.tables e below (T3.setTop (mkF m 62 #[.val (.ref a), .val (.ref b), .val (.int u2), .val (.int u3), .val (.int ll), .val (.int kk), .val (.int rr), .val (.int i), .val (.int (own_at x0 x1 x2 x3 i))] [(.int (13 : Int32)), (.int (own_at x0 x1 x2 x3 i))])) _
        by_cases hc62_22 : (own_at x0 x1 x2 x3 i) = (13 : Int32)
        · refine own_by (fun _ kt => XS.icmpNo X3.here hx rfl (hb hby d_prog_69_method_6_code_62) rfl (teq hc62_22).2 kt) ?_
          show own_Go p.tables e below (T3.setTop (mkF m 65 #[.val (.ref a), .val (.ref b), .val (.int u2), .val (.int u3), .val (.int ll), .val (.int kk), .val (.int rr), .val (.int i), .val (.int (own_at x0 x1 x2 x3 i))] [])) _
          refine own_by (fun _ kt => XS.iinc X3.here hx rfl (hb hby d_prog_69_method_6_code_65) rfl (l' := #[.val (.ref a), .val (.ref b), .val (.int u2), .val (.int u3), .val (.int (ll + (1 : Int32))), .val (.int kk), .val (.int rr), .val (.int i), .val (.int (own_at x0 x1 x2 x3 i))]) rfl kt) ?_
          show own_Go p.tables e below (T3.setTop (mkF m 68 #[.val (.ref a), .val (.ref b), .val (.int u2), .val (.int u3), .val (.int (ll + (1 : Int32))), .val (.int kk), .val (.int rr), .val (.int i), .val (.int (own_at x0 x1 x2 x3 i))] [])) _
          refine own_by (fun _ kt => XS.iconst X3.here hx rfl (hb hby d_prog_69_method_6_code_68) kt) ?_
          show own_Go p.tables e below (T3.setTop (mkF m 69 #[.val (.ref a), .val (.ref b), .val (.int u2), .val (.int u3), .val (.int (ll + (1 : Int32))), .val (.int kk), .val (.int rr), .val (.int i), .val (.int (own_at x0 x1 x2 x3 i))] [(.int (1 : Int32))])) _
          refine own_by (fun _ kt => XS.istore X3.here hx rfl (hb hby d_prog_69_method_6_code_69) rfl (l' := #[.val (.ref a), .val (.ref b), .val (.int u2), .val (.int u3), .val (.int (ll + (1 : Int32))), .val (.int (1 : Int32)), .val (.int rr), .val (.int i), .val (.int (own_at x0 x1 x2 x3 i))]) rfl kt) ?_
          show own_Go p.tables e below (T3.setTop (mkF m 71 #[.val (.ref a), .val (.ref b), .val (.int u2), .val (.int u3), .val (.int (ll + (1 : Int32))), .val (.int (1 : Int32)), .val (.int rr), .val (.int i), .val (.int (own_at x0 x1 x2 x3 i))] [])) _
          refine own_by (fun _ kt => XS.iload X3.here hx rfl (hb hby d_prog_69_method_6_code_71) rfl kt) ?_
          show own_Go p.tables e below (T3.setTop (mkF m 73 #[.val (.ref a), .val (.ref b), .val (.int u2), .val (.int u3), .val (.int (ll + (1 : Int32))), .val (.int (1 : Int32)), .val (.int rr), .val (.int i), .val (.int (own_at x0 x1 x2 x3 i))] [(.int (own_at x0 x1 x2 x3 i))])) _
          refine own_by (fun _ kt => XS.bipush X3.here hx rfl (hb hby d_prog_69_method_6_code_73) kt) ?_
          show own_Go p.tables e below (T3.setTop (mkF m 75 #[.val (.ref a), .val (.ref b), .val (.int u2), .val (.int u3), .val (.int (ll + (1 : Int32))), .val (.int (1 : Int32)), .val (.int rr), .val (.int i), .val (.int (own_at x0 x1 x2 x3 i))] [(.int (13 : Int32)), (.int (own_at x0 x1 x2 x3 i))])) _
          refine own_by (fun _ kt => XS.icmpNo X3.here hx rfl (hb hby d_prog_69_method_6_code_75) rfl (teq hc62_22).2 kt) ?_
          show own_Go p.tables e below (T3.setTop (mkF m 78 #[.val (.ref a), .val (.ref b), .val (.int u2), .val (.int u3), .val (.int (ll + (1 : Int32))), .val (.int (1 : Int32)), .val (.int rr), .val (.int i), .val (.int (own_at x0 x1 x2 x3 i))] [])) _
          refine own_by (fun _ kt => XS.iconst X3.here hx rfl (hb hby d_prog_69_method_6_code_78) kt) ?_
          show own_Go p.tables e below (T3.setTop (mkF m 79 #[.val (.ref a), .val (.ref b), .val (.int u2), .val (.int u3), .val (.int (ll + (1 : Int32))), .val (.int (1 : Int32)), .val (.int rr), .val (.int i), .val (.int (own_at x0 x1 x2 x3 i))] [(.int (1 : Int32))])) _
          refine own_by (fun _ kt => XS.goto X3.here hx rfl (pc0 := 79) (pc' := 83) rfl (hb hby d_prog_69_method_6_code_79) (by decide) (by decide) kt) ?_
          show own_Go p.tables e below (T3.setTop (mkF m 83 #[.val (.ref a), .val (.ref b), .val (.int u2), .val (.int u3), .val (.int (ll + (1 : Int32))), .val (.int (1 : Int32)), .val (.int rr), .val (.int i), .val (.int (own_at x0 x1 x2 x3 i))] [(.int (1 : Int32))])) _
          refine own_by (fun _ kt => XS.istore X3.here hx rfl (hb hby d_prog_69_method_6_code_83) rfl (l' := #[.val (.ref a), .val (.ref b), .val (.int u2), .val (.int u3), .val (.int (ll + (1 : Int32))), .val (.int (1 : Int32)), .val (.int (1 : Int32)), .val (.int i), .val (.int (own_at x0 x1 x2 x3 i))]) rfl kt) ?_
          show own_Go p.tables e below (T3.setTop (mkF m 85 #[.val (.ref a), .val (.ref b), .val (.int u2), .val (.int u3), .val (.int (ll + (1 : Int32))), .val (.int (1 : Int32)), .val (.int (1 : Int32)), .val (.int i), .val (.int (own_at x0 x1 x2 x3 i))] [])) _
          refine own_by (fun _ kt => XS.goto X3.here hx rfl (pc0 := 85) (pc' := 94) rfl (hb hby d_prog_69_method_6_code_85) (by decide) (by decide) kt) ?_
          show own_Go p.tables e below (T3.setTop (mkF m 94 #[.val (.ref a), .val (.ref b), .val (.int u2), .val (.int u3), .val (.int (ll + (1 : Int32))), .val (.int (1 : Int32)), .val (.int (1 : Int32)), .val (.int i), .val (.int (own_at x0 x1 x2 x3 i))] [])) _
          refine own_by (fun _ kt => XS.iinc X3.here hx rfl (hb hby d_prog_69_method_6_code_94) rfl (l' := #[.val (.ref a), .val (.ref b), .val (.int u2), .val (.int u3), .val (.int (ll + (1 : Int32))), .val (.int (1 : Int32)), .val (.int (1 : Int32)), .val (.int (i + (1 : Int32))), .val (.int (own_at x0 x1 x2 x3 i))]) rfl kt) ?_
          show own_Go p.tables e below (T3.setTop (mkF m 97 #[.val (.ref a), .val (.ref b), .val (.int u2), .val (.int u3), .val (.int (ll + (1 : Int32))), .val (.int (1 : Int32)), .val (.int (1 : Int32)), .val (.int (i + (1 : Int32))), .val (.int (own_at x0 x1 x2 x3 i))] [])) _
          refine own_by (fun _ kt => XS.goto X3.here hx rfl (pc0 := 97) (pc' := 21) rfl (hb hby d_prog_69_method_6_code_97) (by decide) (by decide) kt) ?_
          show own_Go p.tables e below (T3.setTop (mkF m 21 #[.val (.ref a), .val (.ref b), .val (.int u2), .val (.int u3), .val (.int (ll + (1 : Int32))), .val (.int (1 : Int32)), .val (.int (1 : Int32)), .val (.int (i + (1 : Int32))), .val (.int (own_at x0 x1 x2 x3 i))] [])) _
          exact ih ((ll + (1 : Int32))) ((1 : Int32)) ((1 : Int32)) ((i + (1 : Int32))) ((own_at x0 x1 x2 x3 i)) (by rw [own_inc i u3 h0i (by rw [Int32.lt_iff_toInt_lt]; omega) htt]; omega) (by rw [own_inc i u3 h0i (by rw [Int32.lt_iff_toInt_lt]; omega) htt]; omega) (rfl) (by rw [← hF]; simp only [own_run, own_ln, own_cl, own_ar, if_neg hc37_20, if_pos hc62_22])
        · refine own_by (fun _ kt => XS.icmpYes X3.here hx rfl (pc0 := 62) (pc' := 88) rfl (hb hby d_prog_69_method_6_code_62) rfl (feq hc62_22).2 (by decide) (by decide) kt) ?_
          show own_Go p.tables e below (T3.setTop (mkF m 88 #[.val (.ref a), .val (.ref b), .val (.int u2), .val (.int u3), .val (.int ll), .val (.int kk), .val (.int rr), .val (.int i), .val (.int (own_at x0 x1 x2 x3 i))] [])) _
          refine own_by (fun _ kt => XS.iinc X3.here hx rfl (hb hby d_prog_69_method_6_code_88) rfl (l' := #[.val (.ref a), .val (.ref b), .val (.int u2), .val (.int u3), .val (.int ll), .val (.int (kk + (1 : Int32))), .val (.int rr), .val (.int i), .val (.int (own_at x0 x1 x2 x3 i))]) rfl kt) ?_
          show own_Go p.tables e below (T3.setTop (mkF m 91 #[.val (.ref a), .val (.ref b), .val (.int u2), .val (.int u3), .val (.int ll), .val (.int (kk + (1 : Int32))), .val (.int rr), .val (.int i), .val (.int (own_at x0 x1 x2 x3 i))] [])) _
          refine own_by (fun _ kt => XS.iconst X3.here hx rfl (hb hby d_prog_69_method_6_code_91) kt) ?_
          show own_Go p.tables e below (T3.setTop (mkF m 92 #[.val (.ref a), .val (.ref b), .val (.int u2), .val (.int u3), .val (.int ll), .val (.int (kk + (1 : Int32))), .val (.int rr), .val (.int i), .val (.int (own_at x0 x1 x2 x3 i))] [(.int (0 : Int32))])) _
          refine own_by (fun _ kt => XS.istore X3.here hx rfl (hb hby d_prog_69_method_6_code_92) rfl (l' := #[.val (.ref a), .val (.ref b), .val (.int u2), .val (.int u3), .val (.int ll), .val (.int (kk + (1 : Int32))), .val (.int (0 : Int32)), .val (.int i), .val (.int (own_at x0 x1 x2 x3 i))]) rfl kt) ?_
          show own_Go p.tables e below (T3.setTop (mkF m 94 #[.val (.ref a), .val (.ref b), .val (.int u2), .val (.int u3), .val (.int ll), .val (.int (kk + (1 : Int32))), .val (.int (0 : Int32)), .val (.int i), .val (.int (own_at x0 x1 x2 x3 i))] [])) _
          refine own_by (fun _ kt => XS.iinc X3.here hx rfl (hb hby d_prog_69_method_6_code_94) rfl (l' := #[.val (.ref a), .val (.ref b), .val (.int u2), .val (.int u3), .val (.int ll), .val (.int (kk + (1 : Int32))), .val (.int (0 : Int32)), .val (.int (i + (1 : Int32))), .val (.int (own_at x0 x1 x2 x3 i))]) rfl kt) ?_
          show own_Go p.tables e below (T3.setTop (mkF m 97 #[.val (.ref a), .val (.ref b), .val (.int u2), .val (.int u3), .val (.int ll), .val (.int (kk + (1 : Int32))), .val (.int (0 : Int32)), .val (.int (i + (1 : Int32))), .val (.int (own_at x0 x1 x2 x3 i))] [])) _
          refine own_by (fun _ kt => XS.goto X3.here hx rfl (pc0 := 97) (pc' := 21) rfl (hb hby d_prog_69_method_6_code_97) (by decide) (by decide) kt) ?_
          show own_Go p.tables e below (T3.setTop (mkF m 21 #[.val (.ref a), .val (.ref b), .val (.int u2), .val (.int u3), .val (.int ll), .val (.int (kk + (1 : Int32))), .val (.int (0 : Int32)), .val (.int (i + (1 : Int32))), .val (.int (own_at x0 x1 x2 x3 i))] [])) _
          exact ih (ll) ((kk + (1 : Int32))) ((0 : Int32)) ((i + (1 : Int32))) ((own_at x0 x1 x2 x3 i)) (by rw [own_inc i u3 h0i (by rw [Int32.lt_iff_toInt_lt]; omega) htt]; omega) (by rw [own_inc i u3 h0i (by rw [Int32.lt_iff_toInt_lt]; omega) htt]; omega) (rfl) (by rw [← hF]; simp only [own_run, own_ln, own_cl, own_ar, if_neg hc37_20, if_neg hc62_22])
  refine own_by (fun _ kt => XS.iload X3.here hx rfl (hb hby d_prog_69_method_6_code_21) rfl kt) ?_
  show own_Go p.tables e below (T3.setTop (mkF m 23 #[.val (.ref a), .val (.ref b), .val (.int u2), .val (.int u3), .val (.int l0), .val (.int k0), .val (.int r0), .val (.int u2), .unset] [(.int u2)])) _
  refine own_by (fun _ kt => XS.iloadN X3.here hx rfl (hb hby d_prog_69_method_6_code_23) rfl kt) ?_
  show own_Go p.tables e below (T3.setTop (mkF m 24 #[.val (.ref a), .val (.ref b), .val (.int u2), .val (.int u3), .val (.int l0), .val (.int k0), .val (.int r0), .val (.int u2), .unset] [(.int u3), (.int u2)])) _
  by_cases hc24_23 : u2 < u3
  · refine own_by (fun _ kt => XS.icmpNo X3.here hx rfl (hb hby d_prog_69_method_6_code_24) rfl (tlt hc24_23).2.1 kt) ?_
    show own_Go p.tables e below (T3.setTop (mkF m 27 #[.val (.ref a), .val (.ref b), .val (.int u2), .val (.int u3), .val (.int l0), .val (.int k0), .val (.int r0), .val (.int u2), .unset] [])) _
    refine own_by (fun _ kt => XS.aloadN X3.here hx rfl (hb hby d_prog_69_method_6_code_27) rfl rfl kt) ?_
    show own_Go p.tables e below (T3.setTop (mkF m 28 #[.val (.ref a), .val (.ref b), .val (.int u2), .val (.int u3), .val (.int l0), .val (.int k0), .val (.int r0), .val (.int u2), .unset] [(.ref b)])) _
    refine own_by (fun _ kt => XS.iload X3.here hx rfl (hb hby d_prog_69_method_6_code_28) rfl kt) ?_
    show own_Go p.tables e below (T3.setTop (mkF m 30 #[.val (.ref a), .val (.ref b), .val (.int u2), .val (.int u3), .val (.int l0), .val (.int k0), .val (.int r0), .val (.int u2), .unset] [(.int u2), (.ref b)])) _
    refine own_by (own_caload X3 hx hZ e3 V_b (j := u2) (v := (.int (own_at x0 x1 x2 x3 u2))) (own_inb u2 u3 hff hc24_23 htt) (own_get _ _ _ _ _ (own_inb u2 u3 hff hc24_23 htt)) (g := (mkF m 30 #[.val (.ref a), .val (.ref b), .val (.int u2), .val (.int u3), .val (.int l0), .val (.int k0), .val (.int r0), .val (.int u2), .unset] [(.int u2), (.ref b)])) rfl rfl (hb hby d_prog_69_method_6_code_30)) ?_
    show own_Go p.tables e below (T3.setTop (mkF m 31 #[.val (.ref a), .val (.ref b), .val (.int u2), .val (.int u3), .val (.int l0), .val (.int k0), .val (.int r0), .val (.int u2), .unset] [(.int (own_at x0 x1 x2 x3 u2))])) _
    refine own_by (fun _ kt => XS.istore X3.here hx rfl (hb hby d_prog_69_method_6_code_31) rfl (l' := #[.val (.ref a), .val (.ref b), .val (.int u2), .val (.int u3), .val (.int l0), .val (.int k0), .val (.int r0), .val (.int u2), .val (.int (own_at x0 x1 x2 x3 u2))]) rfl kt) ?_
    show own_Go p.tables e below (T3.setTop (mkF m 33 #[.val (.ref a), .val (.ref b), .val (.int u2), .val (.int u3), .val (.int l0), .val (.int k0), .val (.int r0), .val (.int u2), .val (.int (own_at x0 x1 x2 x3 u2))] [])) _
    refine own_by (fun _ kt => XS.iload X3.here hx rfl (hb hby d_prog_69_method_6_code_33) rfl kt) ?_
    show own_Go p.tables e below (T3.setTop (mkF m 35 #[.val (.ref a), .val (.ref b), .val (.int u2), .val (.int u3), .val (.int l0), .val (.int k0), .val (.int r0), .val (.int u2), .val (.int (own_at x0 x1 x2 x3 u2))] [(.int (own_at x0 x1 x2 x3 u2))])) _
    refine own_by (fun _ kt => XS.bipush X3.here hx rfl (hb hby d_prog_69_method_6_code_35) kt) ?_
    show own_Go p.tables e below (T3.setTop (mkF m 37 #[.val (.ref a), .val (.ref b), .val (.int u2), .val (.int u3), .val (.int l0), .val (.int k0), .val (.int r0), .val (.int u2), .val (.int (own_at x0 x1 x2 x3 u2))] [(.int (10 : Int32)), (.int (own_at x0 x1 x2 x3 u2))])) _
    by_cases hc37_24 : (own_at x0 x1 x2 x3 u2) = (10 : Int32)
    · refine own_by (fun _ kt => XS.icmpNo X3.here hx rfl (hb hby d_prog_69_method_6_code_37) rfl (teq hc37_24).2 kt) ?_
      show own_Go p.tables e below (T3.setTop (mkF m 40 #[.val (.ref a), .val (.ref b), .val (.int u2), .val (.int u3), .val (.int l0), .val (.int k0), .val (.int r0), .val (.int u2), .val (.int (own_at x0 x1 x2 x3 u2))] [])) _
      refine own_by (fun _ kt => XS.iload X3.here hx rfl (hb hby d_prog_69_method_6_code_40) rfl kt) ?_
      show own_Go p.tables e below (T3.setTop (mkF m 42 #[.val (.ref a), .val (.ref b), .val (.int u2), .val (.int u3), .val (.int l0), .val (.int k0), .val (.int r0), .val (.int u2), .val (.int (own_at x0 x1 x2 x3 u2))] [(.int r0)])) _
      by_cases hc42_25 : r0 = (0 : Int32)
      · refine own_by (fun _ kt => XS.ifYes X3.here hx rfl (pc0 := 42) (pc' := 51) rfl (hb hby d_prog_69_method_6_code_42) rfl ((if0 _ _).trans (teq hc42_25).1) (by decide) (by decide) kt) ?_
        show own_Go p.tables e below (T3.setTop (mkF m 51 #[.val (.ref a), .val (.ref b), .val (.int u2), .val (.int u3), .val (.int l0), .val (.int k0), .val (.int r0), .val (.int u2), .val (.int (own_at x0 x1 x2 x3 u2))] [])) _
        refine own_by (fun _ kt => XS.iload X3.here hx rfl (hb hby d_prog_69_method_6_code_51) rfl kt) ?_
        show own_Go p.tables e below (T3.setTop (mkF m 53 #[.val (.ref a), .val (.ref b), .val (.int u2), .val (.int u3), .val (.int l0), .val (.int k0), .val (.int r0), .val (.int u2), .val (.int (own_at x0 x1 x2 x3 u2))] [(.int (own_at x0 x1 x2 x3 u2))])) _
        refine own_by (fun _ kt => XS.bipush X3.here hx rfl (hb hby d_prog_69_method_6_code_53) kt) ?_
        show own_Go p.tables e below (T3.setTop (mkF m 55 #[.val (.ref a), .val (.ref b), .val (.int u2), .val (.int u3), .val (.int l0), .val (.int k0), .val (.int r0), .val (.int u2), .val (.int (own_at x0 x1 x2 x3 u2))] [(.int (10 : Int32)), (.int (own_at x0 x1 x2 x3 u2))])) _
        refine own_by (fun _ kt => XS.icmpYes X3.here hx rfl (pc0 := 55) (pc' := 65) rfl (hb hby d_prog_69_method_6_code_55) rfl (teq hc37_24).1 (by decide) (by decide) kt) ?_
        show own_Go p.tables e below (T3.setTop (mkF m 65 #[.val (.ref a), .val (.ref b), .val (.int u2), .val (.int u3), .val (.int l0), .val (.int k0), .val (.int r0), .val (.int u2), .val (.int (own_at x0 x1 x2 x3 u2))] [])) _
        refine own_by (fun _ kt => XS.iinc X3.here hx rfl (hb hby d_prog_69_method_6_code_65) rfl (l' := #[.val (.ref a), .val (.ref b), .val (.int u2), .val (.int u3), .val (.int (l0 + (1 : Int32))), .val (.int k0), .val (.int r0), .val (.int u2), .val (.int (own_at x0 x1 x2 x3 u2))]) rfl kt) ?_
        show own_Go p.tables e below (T3.setTop (mkF m 68 #[.val (.ref a), .val (.ref b), .val (.int u2), .val (.int u3), .val (.int (l0 + (1 : Int32))), .val (.int k0), .val (.int r0), .val (.int u2), .val (.int (own_at x0 x1 x2 x3 u2))] [])) _
        refine own_by (fun _ kt => XS.iconst X3.here hx rfl (hb hby d_prog_69_method_6_code_68) kt) ?_
        show own_Go p.tables e below (T3.setTop (mkF m 69 #[.val (.ref a), .val (.ref b), .val (.int u2), .val (.int u3), .val (.int (l0 + (1 : Int32))), .val (.int k0), .val (.int r0), .val (.int u2), .val (.int (own_at x0 x1 x2 x3 u2))] [(.int (1 : Int32))])) _
        refine own_by (fun _ kt => XS.istore X3.here hx rfl (hb hby d_prog_69_method_6_code_69) rfl (l' := #[.val (.ref a), .val (.ref b), .val (.int u2), .val (.int u3), .val (.int (l0 + (1 : Int32))), .val (.int (1 : Int32)), .val (.int r0), .val (.int u2), .val (.int (own_at x0 x1 x2 x3 u2))]) rfl kt) ?_
        show own_Go p.tables e below (T3.setTop (mkF m 71 #[.val (.ref a), .val (.ref b), .val (.int u2), .val (.int u3), .val (.int (l0 + (1 : Int32))), .val (.int (1 : Int32)), .val (.int r0), .val (.int u2), .val (.int (own_at x0 x1 x2 x3 u2))] [])) _
        refine own_by (fun _ kt => XS.iload X3.here hx rfl (hb hby d_prog_69_method_6_code_71) rfl kt) ?_
        show own_Go p.tables e below (T3.setTop (mkF m 73 #[.val (.ref a), .val (.ref b), .val (.int u2), .val (.int u3), .val (.int (l0 + (1 : Int32))), .val (.int (1 : Int32)), .val (.int r0), .val (.int u2), .val (.int (own_at x0 x1 x2 x3 u2))] [(.int (own_at x0 x1 x2 x3 u2))])) _
        refine own_by (fun _ kt => XS.bipush X3.here hx rfl (hb hby d_prog_69_method_6_code_73) kt) ?_
        show own_Go p.tables e below (T3.setTop (mkF m 75 #[.val (.ref a), .val (.ref b), .val (.int u2), .val (.int u3), .val (.int (l0 + (1 : Int32))), .val (.int (1 : Int32)), .val (.int r0), .val (.int u2), .val (.int (own_at x0 x1 x2 x3 u2))] [(.int (13 : Int32)), (.int (own_at x0 x1 x2 x3 u2))])) _
        refine own_by (fun _ kt => XS.icmpYes X3.here hx rfl (pc0 := 75) (pc' := 82) rfl (hb hby d_prog_69_method_6_code_75) rfl (feq (by rw [hc37_24]; decide : ¬ ((own_at x0 x1 x2 x3 u2) = (13 : Int32)))).2 (by decide) (by decide) kt) ?_
        show own_Go p.tables e below (T3.setTop (mkF m 82 #[.val (.ref a), .val (.ref b), .val (.int u2), .val (.int u3), .val (.int (l0 + (1 : Int32))), .val (.int (1 : Int32)), .val (.int r0), .val (.int u2), .val (.int (own_at x0 x1 x2 x3 u2))] [])) _
        refine own_by (fun _ kt => XS.iconst X3.here hx rfl (hb hby d_prog_69_method_6_code_82) kt) ?_
        show own_Go p.tables e below (T3.setTop (mkF m 83 #[.val (.ref a), .val (.ref b), .val (.int u2), .val (.int u3), .val (.int (l0 + (1 : Int32))), .val (.int (1 : Int32)), .val (.int r0), .val (.int u2), .val (.int (own_at x0 x1 x2 x3 u2))] [(.int (0 : Int32))])) _
        refine own_by (fun _ kt => XS.istore X3.here hx rfl (hb hby d_prog_69_method_6_code_83) rfl (l' := #[.val (.ref a), .val (.ref b), .val (.int u2), .val (.int u3), .val (.int (l0 + (1 : Int32))), .val (.int (1 : Int32)), .val (.int (0 : Int32)), .val (.int u2), .val (.int (own_at x0 x1 x2 x3 u2))]) rfl kt) ?_
        show own_Go p.tables e below (T3.setTop (mkF m 85 #[.val (.ref a), .val (.ref b), .val (.int u2), .val (.int u3), .val (.int (l0 + (1 : Int32))), .val (.int (1 : Int32)), .val (.int (0 : Int32)), .val (.int u2), .val (.int (own_at x0 x1 x2 x3 u2))] [])) _
        refine own_by (fun _ kt => XS.goto X3.here hx rfl (pc0 := 85) (pc' := 94) rfl (hb hby d_prog_69_method_6_code_85) (by decide) (by decide) kt) ?_
        show own_Go p.tables e below (T3.setTop (mkF m 94 #[.val (.ref a), .val (.ref b), .val (.int u2), .val (.int u3), .val (.int (l0 + (1 : Int32))), .val (.int (1 : Int32)), .val (.int (0 : Int32)), .val (.int u2), .val (.int (own_at x0 x1 x2 x3 u2))] [])) _
        refine own_by (fun _ kt => XS.iinc X3.here hx rfl (hb hby d_prog_69_method_6_code_94) rfl (l' := #[.val (.ref a), .val (.ref b), .val (.int u2), .val (.int u3), .val (.int (l0 + (1 : Int32))), .val (.int (1 : Int32)), .val (.int (0 : Int32)), .val (.int (u2 + (1 : Int32))), .val (.int (own_at x0 x1 x2 x3 u2))]) rfl kt) ?_
        show own_Go p.tables e below (T3.setTop (mkF m 97 #[.val (.ref a), .val (.ref b), .val (.int u2), .val (.int u3), .val (.int (l0 + (1 : Int32))), .val (.int (1 : Int32)), .val (.int (0 : Int32)), .val (.int (u2 + (1 : Int32))), .val (.int (own_at x0 x1 x2 x3 u2))] [])) _
        refine own_by (fun _ kt => XS.goto X3.here hx rfl (pc0 := 97) (pc' := 21) rfl (hb hby d_prog_69_method_6_code_97) (by decide) (by decide) kt) ?_
        show own_Go p.tables e below (T3.setTop (mkF m 21 #[.val (.ref a), .val (.ref b), .val (.int u2), .val (.int u3), .val (.int (l0 + (1 : Int32))), .val (.int (1 : Int32)), .val (.int (0 : Int32)), .val (.int (u2 + (1 : Int32))), .val (.int (own_at x0 x1 x2 x3 u2))] [])) _
        exact J4 ((u3.toInt - (u2 + 1).toInt).toNat) ((l0 + (1 : Int32))) ((1 : Int32)) ((0 : Int32)) ((u2 + (1 : Int32))) ((own_at x0 x1 x2 x3 u2)) (rfl) (by rw [own_inc u2 u3 hff hc24_23 htt]; omega) (rfl) (by rw [own_first u2 u3 hff hc24_23 htt]; simp only [own_run, own_ln, own_cl, own_ar, if_pos hc37_24, if_pos hc42_25])
      · refine own_by (fun _ kt => XS.ifNo X3.here hx rfl (hb hby d_prog_69_method_6_code_42) rfl ((if0 _ _).trans (feq hc42_25).1) kt) ?_
        show own_Go p.tables e below (T3.setTop (mkF m 45 #[.val (.ref a), .val (.ref b), .val (.int u2), .val (.int u3), .val (.int l0), .val (.int k0), .val (.int r0), .val (.int u2), .val (.int (own_at x0 x1 x2 x3 u2))] [])) _
        refine own_by (fun _ kt => XS.iconst X3.here hx rfl (hb hby d_prog_69_method_6_code_45) kt) ?_
        show own_Go p.tables e below (T3.setTop (mkF m 46 #[.val (.ref a), .val (.ref b), .val (.int u2), .val (.int u3), .val (.int l0), .val (.int k0), .val (.int r0), .val (.int u2), .val (.int (own_at x0 x1 x2 x3 u2))] [(.int (0 : Int32))])) _
        refine own_by (fun _ kt => XS.istore X3.here hx rfl (hb hby d_prog_69_method_6_code_46) rfl (l' := #[.val (.ref a), .val (.ref b), .val (.int u2), .val (.int u3), .val (.int l0), .val (.int k0), .val (.int (0 : Int32)), .val (.int u2), .val (.int (own_at x0 x1 x2 x3 u2))]) rfl kt) ?_
        show own_Go p.tables e below (T3.setTop (mkF m 48 #[.val (.ref a), .val (.ref b), .val (.int u2), .val (.int u3), .val (.int l0), .val (.int k0), .val (.int (0 : Int32)), .val (.int u2), .val (.int (own_at x0 x1 x2 x3 u2))] [])) _
        refine own_by (fun _ kt => XS.goto X3.here hx rfl (pc0 := 48) (pc' := 94) rfl (hb hby d_prog_69_method_6_code_48) (by decide) (by decide) kt) ?_
        show own_Go p.tables e below (T3.setTop (mkF m 94 #[.val (.ref a), .val (.ref b), .val (.int u2), .val (.int u3), .val (.int l0), .val (.int k0), .val (.int (0 : Int32)), .val (.int u2), .val (.int (own_at x0 x1 x2 x3 u2))] [])) _
        refine own_by (fun _ kt => XS.iinc X3.here hx rfl (hb hby d_prog_69_method_6_code_94) rfl (l' := #[.val (.ref a), .val (.ref b), .val (.int u2), .val (.int u3), .val (.int l0), .val (.int k0), .val (.int (0 : Int32)), .val (.int (u2 + (1 : Int32))), .val (.int (own_at x0 x1 x2 x3 u2))]) rfl kt) ?_
        show own_Go p.tables e below (T3.setTop (mkF m 97 #[.val (.ref a), .val (.ref b), .val (.int u2), .val (.int u3), .val (.int l0), .val (.int k0), .val (.int (0 : Int32)), .val (.int (u2 + (1 : Int32))), .val (.int (own_at x0 x1 x2 x3 u2))] [])) _
        refine own_by (fun _ kt => XS.goto X3.here hx rfl (pc0 := 97) (pc' := 21) rfl (hb hby d_prog_69_method_6_code_97) (by decide) (by decide) kt) ?_
        show own_Go p.tables e below (T3.setTop (mkF m 21 #[.val (.ref a), .val (.ref b), .val (.int u2), .val (.int u3), .val (.int l0), .val (.int k0), .val (.int (0 : Int32)), .val (.int (u2 + (1 : Int32))), .val (.int (own_at x0 x1 x2 x3 u2))] [])) _
        exact J4 ((u3.toInt - (u2 + 1).toInt).toNat) (l0) (k0) ((0 : Int32)) ((u2 + (1 : Int32))) ((own_at x0 x1 x2 x3 u2)) (rfl) (by rw [own_inc u2 u3 hff hc24_23 htt]; omega) (rfl) (by rw [own_first u2 u3 hff hc24_23 htt]; simp only [own_run, own_ln, own_cl, own_ar, if_pos hc37_24, if_neg hc42_25])
    · refine own_by (fun _ kt => XS.icmpYes X3.here hx rfl (pc0 := 37) (pc' := 51) rfl (hb hby d_prog_69_method_6_code_37) rfl (feq hc37_24).2 (by decide) (by decide) kt) ?_
      show own_Go p.tables e below (T3.setTop (mkF m 51 #[.val (.ref a), .val (.ref b), .val (.int u2), .val (.int u3), .val (.int l0), .val (.int k0), .val (.int r0), .val (.int u2), .val (.int (own_at x0 x1 x2 x3 u2))] [])) _
      refine own_by (fun _ kt => XS.iload X3.here hx rfl (hb hby d_prog_69_method_6_code_51) rfl kt) ?_
      show own_Go p.tables e below (T3.setTop (mkF m 53 #[.val (.ref a), .val (.ref b), .val (.int u2), .val (.int u3), .val (.int l0), .val (.int k0), .val (.int r0), .val (.int u2), .val (.int (own_at x0 x1 x2 x3 u2))] [(.int (own_at x0 x1 x2 x3 u2))])) _
      refine own_by (fun _ kt => XS.bipush X3.here hx rfl (hb hby d_prog_69_method_6_code_53) kt) ?_
      show own_Go p.tables e below (T3.setTop (mkF m 55 #[.val (.ref a), .val (.ref b), .val (.int u2), .val (.int u3), .val (.int l0), .val (.int k0), .val (.int r0), .val (.int u2), .val (.int (own_at x0 x1 x2 x3 u2))] [(.int (10 : Int32)), (.int (own_at x0 x1 x2 x3 u2))])) _
      refine own_by (fun _ kt => XS.icmpNo X3.here hx rfl (hb hby d_prog_69_method_6_code_55) rfl (feq hc37_24).1 kt) ?_
      show own_Go p.tables e below (T3.setTop (mkF m 58 #[.val (.ref a), .val (.ref b), .val (.int u2), .val (.int u3), .val (.int l0), .val (.int k0), .val (.int r0), .val (.int u2), .val (.int (own_at x0 x1 x2 x3 u2))] [])) _
      refine own_by (fun _ kt => XS.iload X3.here hx rfl (hb hby d_prog_69_method_6_code_58) rfl kt) ?_
      show own_Go p.tables e below (T3.setTop (mkF m 60 #[.val (.ref a), .val (.ref b), .val (.int u2), .val (.int u3), .val (.int l0), .val (.int k0), .val (.int r0), .val (.int u2), .val (.int (own_at x0 x1 x2 x3 u2))] [(.int (own_at x0 x1 x2 x3 u2))])) _
      refine own_by (fun _ kt => XS.bipush X3.here hx rfl (hb hby d_prog_69_method_6_code_60) kt) ?_
      show own_Go p.tables e below (T3.setTop (mkF m 62 #[.val (.ref a), .val (.ref b), .val (.int u2), .val (.int u3), .val (.int l0), .val (.int k0), .val (.int r0), .val (.int u2), .val (.int (own_at x0 x1 x2 x3 u2))] [(.int (13 : Int32)), (.int (own_at x0 x1 x2 x3 u2))])) _
      by_cases hc62_26 : (own_at x0 x1 x2 x3 u2) = (13 : Int32)
      · refine own_by (fun _ kt => XS.icmpNo X3.here hx rfl (hb hby d_prog_69_method_6_code_62) rfl (teq hc62_26).2 kt) ?_
        show own_Go p.tables e below (T3.setTop (mkF m 65 #[.val (.ref a), .val (.ref b), .val (.int u2), .val (.int u3), .val (.int l0), .val (.int k0), .val (.int r0), .val (.int u2), .val (.int (own_at x0 x1 x2 x3 u2))] [])) _
        refine own_by (fun _ kt => XS.iinc X3.here hx rfl (hb hby d_prog_69_method_6_code_65) rfl (l' := #[.val (.ref a), .val (.ref b), .val (.int u2), .val (.int u3), .val (.int (l0 + (1 : Int32))), .val (.int k0), .val (.int r0), .val (.int u2), .val (.int (own_at x0 x1 x2 x3 u2))]) rfl kt) ?_
        show own_Go p.tables e below (T3.setTop (mkF m 68 #[.val (.ref a), .val (.ref b), .val (.int u2), .val (.int u3), .val (.int (l0 + (1 : Int32))), .val (.int k0), .val (.int r0), .val (.int u2), .val (.int (own_at x0 x1 x2 x3 u2))] [])) _
        refine own_by (fun _ kt => XS.iconst X3.here hx rfl (hb hby d_prog_69_method_6_code_68) kt) ?_
        show own_Go p.tables e below (T3.setTop (mkF m 69 #[.val (.ref a), .val (.ref b), .val (.int u2), .val (.int u3), .val (.int (l0 + (1 : Int32))), .val (.int k0), .val (.int r0), .val (.int u2), .val (.int (own_at x0 x1 x2 x3 u2))] [(.int (1 : Int32))])) _
        refine own_by (fun _ kt => XS.istore X3.here hx rfl (hb hby d_prog_69_method_6_code_69) rfl (l' := #[.val (.ref a), .val (.ref b), .val (.int u2), .val (.int u3), .val (.int (l0 + (1 : Int32))), .val (.int (1 : Int32)), .val (.int r0), .val (.int u2), .val (.int (own_at x0 x1 x2 x3 u2))]) rfl kt) ?_
        show own_Go p.tables e below (T3.setTop (mkF m 71 #[.val (.ref a), .val (.ref b), .val (.int u2), .val (.int u3), .val (.int (l0 + (1 : Int32))), .val (.int (1 : Int32)), .val (.int r0), .val (.int u2), .val (.int (own_at x0 x1 x2 x3 u2))] [])) _
        refine own_by (fun _ kt => XS.iload X3.here hx rfl (hb hby d_prog_69_method_6_code_71) rfl kt) ?_
        show own_Go p.tables e below (T3.setTop (mkF m 73 #[.val (.ref a), .val (.ref b), .val (.int u2), .val (.int u3), .val (.int (l0 + (1 : Int32))), .val (.int (1 : Int32)), .val (.int r0), .val (.int u2), .val (.int (own_at x0 x1 x2 x3 u2))] [(.int (own_at x0 x1 x2 x3 u2))])) _
        refine own_by (fun _ kt => XS.bipush X3.here hx rfl (hb hby d_prog_69_method_6_code_73) kt) ?_
        show own_Go p.tables e below (T3.setTop (mkF m 75 #[.val (.ref a), .val (.ref b), .val (.int u2), .val (.int u3), .val (.int (l0 + (1 : Int32))), .val (.int (1 : Int32)), .val (.int r0), .val (.int u2), .val (.int (own_at x0 x1 x2 x3 u2))] [(.int (13 : Int32)), (.int (own_at x0 x1 x2 x3 u2))])) _
        refine own_by (fun _ kt => XS.icmpNo X3.here hx rfl (hb hby d_prog_69_method_6_code_75) rfl (teq hc62_26).2 kt) ?_
        show own_Go p.tables e below (T3.setTop (mkF m 78 #[.val (.ref a), .val (.ref b), .val (.int u2), .val (.int u3), .val (.int (l0 + (1 : Int32))), .val (.int (1 : Int32)), .val (.int r0), .val (.int u2), .val (.int (own_at x0 x1 x2 x3 u2))] [])) _
        refine own_by (fun _ kt => XS.iconst X3.here hx rfl (hb hby d_prog_69_method_6_code_78) kt) ?_
        show own_Go p.tables e below (T3.setTop (mkF m 79 #[.val (.ref a), .val (.ref b), .val (.int u2), .val (.int u3), .val (.int (l0 + (1 : Int32))), .val (.int (1 : Int32)), .val (.int r0), .val (.int u2), .val (.int (own_at x0 x1 x2 x3 u2))] [(.int (1 : Int32))])) _
        refine own_by (fun _ kt => XS.goto X3.here hx rfl (pc0 := 79) (pc' := 83) rfl (hb hby d_prog_69_method_6_code_79) (by decide) (by decide) kt) ?_
        show own_Go p.tables e below (T3.setTop (mkF m 83 #[.val (.ref a), .val (.ref b), .val (.int u2), .val (.int u3), .val (.int (l0 + (1 : Int32))), .val (.int (1 : Int32)), .val (.int r0), .val (.int u2), .val (.int (own_at x0 x1 x2 x3 u2))] [(.int (1 : Int32))])) _
        refine own_by (fun _ kt => XS.istore X3.here hx rfl (hb hby d_prog_69_method_6_code_83) rfl (l' := #[.val (.ref a), .val (.ref b), .val (.int u2), .val (.int u3), .val (.int (l0 + (1 : Int32))), .val (.int (1 : Int32)), .val (.int (1 : Int32)), .val (.int u2), .val (.int (own_at x0 x1 x2 x3 u2))]) rfl kt) ?_
        show own_Go p.tables e below (T3.setTop (mkF m 85 #[.val (.ref a), .val (.ref b), .val (.int u2), .val (.int u3), .val (.int (l0 + (1 : Int32))), .val (.int (1 : Int32)), .val (.int (1 : Int32)), .val (.int u2), .val (.int (own_at x0 x1 x2 x3 u2))] [])) _
        refine own_by (fun _ kt => XS.goto X3.here hx rfl (pc0 := 85) (pc' := 94) rfl (hb hby d_prog_69_method_6_code_85) (by decide) (by decide) kt) ?_
        show own_Go p.tables e below (T3.setTop (mkF m 94 #[.val (.ref a), .val (.ref b), .val (.int u2), .val (.int u3), .val (.int (l0 + (1 : Int32))), .val (.int (1 : Int32)), .val (.int (1 : Int32)), .val (.int u2), .val (.int (own_at x0 x1 x2 x3 u2))] [])) _
        refine own_by (fun _ kt => XS.iinc X3.here hx rfl (hb hby d_prog_69_method_6_code_94) rfl (l' := #[.val (.ref a), .val (.ref b), .val (.int u2), .val (.int u3), .val (.int (l0 + (1 : Int32))), .val (.int (1 : Int32)), .val (.int (1 : Int32)), .val (.int (u2 + (1 : Int32))), .val (.int (own_at x0 x1 x2 x3 u2))]) rfl kt) ?_
        show own_Go p.tables e below (T3.setTop (mkF m 97 #[.val (.ref a), .val (.ref b), .val (.int u2), .val (.int u3), .val (.int (l0 + (1 : Int32))), .val (.int (1 : Int32)), .val (.int (1 : Int32)), .val (.int (u2 + (1 : Int32))), .val (.int (own_at x0 x1 x2 x3 u2))] [])) _
        refine own_by (fun _ kt => XS.goto X3.here hx rfl (pc0 := 97) (pc' := 21) rfl (hb hby d_prog_69_method_6_code_97) (by decide) (by decide) kt) ?_
        show own_Go p.tables e below (T3.setTop (mkF m 21 #[.val (.ref a), .val (.ref b), .val (.int u2), .val (.int u3), .val (.int (l0 + (1 : Int32))), .val (.int (1 : Int32)), .val (.int (1 : Int32)), .val (.int (u2 + (1 : Int32))), .val (.int (own_at x0 x1 x2 x3 u2))] [])) _
        exact J4 ((u3.toInt - (u2 + 1).toInt).toNat) ((l0 + (1 : Int32))) ((1 : Int32)) ((1 : Int32)) ((u2 + (1 : Int32))) ((own_at x0 x1 x2 x3 u2)) (rfl) (by rw [own_inc u2 u3 hff hc24_23 htt]; omega) (rfl) (by rw [own_first u2 u3 hff hc24_23 htt]; simp only [own_run, own_ln, own_cl, own_ar, if_neg hc37_24, if_pos hc62_26])
      · refine own_by (fun _ kt => XS.icmpYes X3.here hx rfl (pc0 := 62) (pc' := 88) rfl (hb hby d_prog_69_method_6_code_62) rfl (feq hc62_26).2 (by decide) (by decide) kt) ?_
        show own_Go p.tables e below (T3.setTop (mkF m 88 #[.val (.ref a), .val (.ref b), .val (.int u2), .val (.int u3), .val (.int l0), .val (.int k0), .val (.int r0), .val (.int u2), .val (.int (own_at x0 x1 x2 x3 u2))] [])) _
        refine own_by (fun _ kt => XS.iinc X3.here hx rfl (hb hby d_prog_69_method_6_code_88) rfl (l' := #[.val (.ref a), .val (.ref b), .val (.int u2), .val (.int u3), .val (.int l0), .val (.int (k0 + (1 : Int32))), .val (.int r0), .val (.int u2), .val (.int (own_at x0 x1 x2 x3 u2))]) rfl kt) ?_
        show own_Go p.tables e below (T3.setTop (mkF m 91 #[.val (.ref a), .val (.ref b), .val (.int u2), .val (.int u3), .val (.int l0), .val (.int (k0 + (1 : Int32))), .val (.int r0), .val (.int u2), .val (.int (own_at x0 x1 x2 x3 u2))] [])) _
        refine own_by (fun _ kt => XS.iconst X3.here hx rfl (hb hby d_prog_69_method_6_code_91) kt) ?_
        show own_Go p.tables e below (T3.setTop (mkF m 92 #[.val (.ref a), .val (.ref b), .val (.int u2), .val (.int u3), .val (.int l0), .val (.int (k0 + (1 : Int32))), .val (.int r0), .val (.int u2), .val (.int (own_at x0 x1 x2 x3 u2))] [(.int (0 : Int32))])) _
        refine own_by (fun _ kt => XS.istore X3.here hx rfl (hb hby d_prog_69_method_6_code_92) rfl (l' := #[.val (.ref a), .val (.ref b), .val (.int u2), .val (.int u3), .val (.int l0), .val (.int (k0 + (1 : Int32))), .val (.int (0 : Int32)), .val (.int u2), .val (.int (own_at x0 x1 x2 x3 u2))]) rfl kt) ?_
        show own_Go p.tables e below (T3.setTop (mkF m 94 #[.val (.ref a), .val (.ref b), .val (.int u2), .val (.int u3), .val (.int l0), .val (.int (k0 + (1 : Int32))), .val (.int (0 : Int32)), .val (.int u2), .val (.int (own_at x0 x1 x2 x3 u2))] [])) _
        refine own_by (fun _ kt => XS.iinc X3.here hx rfl (hb hby d_prog_69_method_6_code_94) rfl (l' := #[.val (.ref a), .val (.ref b), .val (.int u2), .val (.int u3), .val (.int l0), .val (.int (k0 + (1 : Int32))), .val (.int (0 : Int32)), .val (.int (u2 + (1 : Int32))), .val (.int (own_at x0 x1 x2 x3 u2))]) rfl kt) ?_
        show own_Go p.tables e below (T3.setTop (mkF m 97 #[.val (.ref a), .val (.ref b), .val (.int u2), .val (.int u3), .val (.int l0), .val (.int (k0 + (1 : Int32))), .val (.int (0 : Int32)), .val (.int (u2 + (1 : Int32))), .val (.int (own_at x0 x1 x2 x3 u2))] [])) _
        refine own_by (fun _ kt => XS.goto X3.here hx rfl (pc0 := 97) (pc' := 21) rfl (hb hby d_prog_69_method_6_code_97) (by decide) (by decide) kt) ?_
        show own_Go p.tables e below (T3.setTop (mkF m 21 #[.val (.ref a), .val (.ref b), .val (.int u2), .val (.int u3), .val (.int l0), .val (.int (k0 + (1 : Int32))), .val (.int (0 : Int32)), .val (.int (u2 + (1 : Int32))), .val (.int (own_at x0 x1 x2 x3 u2))] [])) _
        exact J4 ((u3.toInt - (u2 + 1).toInt).toNat) (l0) ((k0 + (1 : Int32))) ((0 : Int32)) ((u2 + (1 : Int32))) ((own_at x0 x1 x2 x3 u2)) (rfl) (by rw [own_inc u2 u3 hff hc24_23 htt]; omega) (rfl) (by rw [own_first u2 u3 hff hc24_23 htt]; simp only [own_run, own_ln, own_cl, own_ar, if_neg hc37_24, if_neg hc62_26])
  · refine own_by (fun _ kt => XS.icmpYes X3.here hx rfl (pc0 := 24) (pc' := 100) rfl (hb hby d_prog_69_method_6_code_24) rfl (flt hc24_23).2.1 (by decide) (by decide) kt) ?_
    show own_Go p.tables e below (T3.setTop (mkF m 100 #[.val (.ref a), .val (.ref b), .val (.int u2), .val (.int u3), .val (.int l0), .val (.int k0), .val (.int r0), .val (.int u2), .unset] [])) _
    refine own_by (fun _ kt => XS.aloadN X3.here hx rfl (hb hby d_prog_69_method_6_code_100) rfl rfl kt) ?_
    show own_Go p.tables e below (T3.setTop (mkF m 101 #[.val (.ref a), .val (.ref b), .val (.int u2), .val (.int u3), .val (.int l0), .val (.int k0), .val (.int r0), .val (.int u2), .unset] [(.ref a)])) _
    refine own_by (fun _ kt => XS.iload X3.here hx rfl (hb hby d_prog_69_method_6_code_101) rfl kt) ?_
    show own_Go p.tables e below (T3.setTop (mkF m 103 #[.val (.ref a), .val (.ref b), .val (.int u2), .val (.int u3), .val (.int l0), .val (.int k0), .val (.int r0), .val (.int u2), .unset] [(.int l0), (.ref a)])) _
    obtain ⟨T27, h27, X27, e27, W27, st27⟩ := putF X3 hx hZ hown (host := "") (Or.inl (hw _ (List.mem_of_getElem? (i := 14) rfl))) Via.refl e3 F_line_a E_a (Or.inl (hw _ (List.mem_of_getElem? (i := 15) rfl))) (hw _ (List.mem_of_getElem? (i := 6) rfl)) (ty := .int) (by decide) rfl rfl (g := (mkF m 103 #[.val (.ref a), .val (.ref b), .val (.int u2), .val (.int u3), .val (.int l0), .val (.int k0), .val (.int r0), .val (.int u2), .unset] [(.int l0), (.ref a)])) rfl rfl (hb hby d_prog_69_method_6_code_103)
    have Fw27 := F_line_a.same W27
    have f28 := F_column_a.other W27 (Or.inr (slot_ne (Or.inl (hw _ (List.mem_of_getElem? (i := 17) rfl))) (Or.inl (hw _ (List.mem_of_getElem? (i := 15) rfl))) (by decide) (t := .int) (t' := .int) (by decide) (by decide)))
    have f29 := F_afterReturn_a.other W27 (Or.inr (slot_ne (Or.inl (hw _ (List.mem_of_getElem? (i := 24) rfl))) (Or.inl (hw _ (List.mem_of_getElem? (i := 15) rfl))) (by decide) (t := .boolean) (t' := .int) (by decide) (by decide)))
    have f30 := E_a.wr W27
    have f31 := V_b.other W27 ne_b_a
    have Zs27 : n0 ≤ h27.size := by rw [W27.size]; exact Z0
    have K27 : Keep h0 h27 [a] := (Keep.refl h0 [a]).wr W27 (Or.inl (List.mem_of_getElem? (i := 0) rfl))
    have N27 := Fr.snoc X27 N0 gn_a
    refine own_by st27 ?_
    show own_Go p.tables e below (T27.setTop (mkF m 106 #[.val (.ref a), .val (.ref b), .val (.int u2), .val (.int u3), .val (.int l0), .val (.int k0), .val (.int r0), .val (.int u2), .unset] [])) _
    refine own_by (fun _ kt => XS.aloadN X27.here hx rfl (hb hby d_prog_69_method_6_code_106) rfl rfl kt) ?_
    show own_Go p.tables e below (T27.setTop (mkF m 107 #[.val (.ref a), .val (.ref b), .val (.int u2), .val (.int u3), .val (.int l0), .val (.int k0), .val (.int r0), .val (.int u2), .unset] [(.ref a)])) _
    refine own_by (fun _ kt => XS.iload X27.here hx rfl (hb hby d_prog_69_method_6_code_107) rfl kt) ?_
    show own_Go p.tables e below (T27.setTop (mkF m 109 #[.val (.ref a), .val (.ref b), .val (.int u2), .val (.int u3), .val (.int l0), .val (.int k0), .val (.int r0), .val (.int u2), .unset] [(.int k0), (.ref a)])) _
    obtain ⟨T32, h32, X32, e32, W32, st32⟩ := putF X27 hx hZ hown (host := "") (Or.inl (hw _ (List.mem_of_getElem? (i := 16) rfl))) Via.refl e27 f28 f30 (Or.inl (hw _ (List.mem_of_getElem? (i := 17) rfl))) (hw _ (List.mem_of_getElem? (i := 6) rfl)) (ty := .int) (by decide) rfl rfl (g := (mkF m 109 #[.val (.ref a), .val (.ref b), .val (.int u2), .val (.int u3), .val (.int l0), .val (.int k0), .val (.int r0), .val (.int u2), .unset] [(.int k0), (.ref a)])) rfl rfl (hb hby d_prog_69_method_6_code_109)
    have Fw32 := f28.same W32
    have f33 := Fw27.other W32 (Or.inr (slot_ne (Or.inl (hw _ (List.mem_of_getElem? (i := 15) rfl))) (Or.inl (hw _ (List.mem_of_getElem? (i := 17) rfl))) (by decide) (t := .int) (t' := .int) (by decide) (by decide)))
    have f34 := f29.other W32 (Or.inr (slot_ne (Or.inl (hw _ (List.mem_of_getElem? (i := 24) rfl))) (Or.inl (hw _ (List.mem_of_getElem? (i := 17) rfl))) (by decide) (t := .boolean) (t' := .int) (by decide) (by decide)))
    have f35 := f30.wr W32
    have f36 := f31.other W32 ne_b_a
    have Zs32 : n0 ≤ h32.size := by rw [W32.size]; exact Zs27
    have K32 : Keep h0 h32 [a] := K27.wr W32 (Or.inl (List.mem_of_getElem? (i := 0) rfl))
    have N32 := Fr.snoc X32 N27 gn_a
    refine own_by st32 ?_
    show own_Go p.tables e below (T32.setTop (mkF m 112 #[.val (.ref a), .val (.ref b), .val (.int u2), .val (.int u3), .val (.int l0), .val (.int k0), .val (.int r0), .val (.int u2), .unset] [])) _
    refine own_by (fun _ kt => XS.aloadN X32.here hx rfl (hb hby d_prog_69_method_6_code_112) rfl rfl kt) ?_
    show own_Go p.tables e below (T32.setTop (mkF m 113 #[.val (.ref a), .val (.ref b), .val (.int u2), .val (.int u3), .val (.int l0), .val (.int k0), .val (.int r0), .val (.int u2), .unset] [(.ref a)])) _
    refine own_by (fun _ kt => XS.iload X32.here hx rfl (hb hby d_prog_69_method_6_code_113) rfl kt) ?_
    show own_Go p.tables e below (T32.setTop (mkF m 115 #[.val (.ref a), .val (.ref b), .val (.int u2), .val (.int u3), .val (.int l0), .val (.int k0), .val (.int r0), .val (.int u2), .unset] [(.int r0), (.ref a)])) _
    obtain ⟨T37, h37, X37, e37, W37, st37⟩ := putFN X32 hx hZ hown (hw _ (List.mem_of_getElem? (i := 23) rfl)) Via.refl e32 f34 f35 (Or.inl (hw _ (List.mem_of_getElem? (i := 24) rfl))) (hw _ (List.mem_of_getElem? (i := 6) rfl)) (ty := .boolean) (v' := (.int (nar .boolean r0))) (by decide) rfl (fits_nar_bool _) (g := (mkF m 115 #[.val (.ref a), .val (.ref b), .val (.int u2), .val (.int u3), .val (.int l0), .val (.int k0), .val (.int r0), .val (.int u2), .unset] [(.int r0), (.ref a)])) rfl rfl (hb hby d_prog_69_method_6_code_115)
    have Fw37 := f34.same W37
    have f38 := f33.other W37 (Or.inr (slot_ne (Or.inl (hw _ (List.mem_of_getElem? (i := 15) rfl))) (Or.inl (hw _ (List.mem_of_getElem? (i := 24) rfl))) (by decide) (t := .int) (t' := .boolean) (by decide) (by decide)))
    have f39 := Fw32.other W37 (Or.inr (slot_ne (Or.inl (hw _ (List.mem_of_getElem? (i := 17) rfl))) (Or.inl (hw _ (List.mem_of_getElem? (i := 24) rfl))) (by decide) (t := .int) (t' := .boolean) (by decide) (by decide)))
    have f40 := f35.wr W37
    have f41 := f36.other W37 ne_b_a
    have Zs37 : n0 ≤ h37.size := by rw [W37.size]; exact Zs32
    have K37 : Keep h0 h37 [a] := K32.wr W37 (Or.inl (List.mem_of_getElem? (i := 0) rfl))
    have N37 := Fr.snoc X37 N32 gn_a
    refine own_by st37 ?_
    show own_Go p.tables e below (T37.setTop (mkF m 118 #[.val (.ref a), .val (.ref b), .val (.int u2), .val (.int u3), .val (.int l0), .val (.int k0), .val (.int r0), .val (.int u2), .unset] [])) _
    exact own_retV X37 hx Bd.returns hlk (hb hby d_prog_69_method_6_code_118) (by rw [e37]; exact ⟨rfl, N37, K37, f40, (by rw [own_none _ _ hc24_23]; exact f38), (by rw [own_none _ _ hc24_23]; exact f39), (by have q := Fw37; rw [hb0] at q; rw [own_none _ _ hc24_23]; exact q)⟩) (by decide) (by decide)
theorem d_prog_69_method_7_code_0 : decode prog_69_method_7_code 0 = .ok (.new 8, 3) := by decide +kernel
theorem d_prog_69_method_7_code_3 : decode prog_69_method_7_code 3 = .ok (.dup, 1) := by decide +kernel
theorem d_prog_69_method_7_code_4 : decode prog_69_method_7_code 4 = .ok (.invokespecial 16, 3) := by decide +kernel
theorem d_prog_69_method_7_code_7 : decode prog_69_method_7_code 7 = .ok (.astore_n 1, 1) := by decide +kernel
theorem d_prog_69_method_7_code_8 : decode prog_69_method_7_code 8 = .ok (.aload_n 1, 1) := by decide +kernel
theorem d_prog_69_method_7_code_9 : decode prog_69_method_7_code 9 = .ok (.aload_n 0, 1) := by decide +kernel
theorem d_prog_69_method_7_code_10 : decode prog_69_method_7_code 10 = .ok (.getfield 7, 3) := by decide +kernel
theorem d_prog_69_method_7_code_13 : decode prog_69_method_7_code 13 = .ok (.putfield 7, 3) := by decide +kernel
theorem d_prog_69_method_7_code_16 : decode prog_69_method_7_code 16 = .ok (.aload_n 1, 1) := by decide +kernel
theorem d_prog_69_method_7_code_17 : decode prog_69_method_7_code 17 = .ok (.aload_n 0, 1) := by decide +kernel
theorem d_prog_69_method_7_code_18 : decode prog_69_method_7_code 18 = .ok (.getfield 13, 3) := by decide +kernel
theorem d_prog_69_method_7_code_21 : decode prog_69_method_7_code 21 = .ok (.putfield 13, 3) := by decide +kernel
theorem d_prog_69_method_7_code_24 : decode prog_69_method_7_code 24 = .ok (.aload_n 1, 1) := by decide +kernel
theorem d_prog_69_method_7_code_25 : decode prog_69_method_7_code 25 = .ok (.aload_n 0, 1) := by decide +kernel
theorem d_prog_69_method_7_code_26 : decode prog_69_method_7_code 26 = .ok (.getfield 27, 3) := by decide +kernel
theorem d_prog_69_method_7_code_29 : decode prog_69_method_7_code 29 = .ok (.putfield 27, 3) := by decide +kernel
theorem d_prog_69_method_7_code_32 : decode prog_69_method_7_code 32 = .ok (.aload_n 1, 1) := by decide +kernel
theorem d_prog_69_method_7_code_33 : decode prog_69_method_7_code 33 = .ok (.areturn, 1) := by decide +kernel
theorem ef_7 (m : MethodId) (a : Addr) : entryFrame m #[(.ref a)] 2 = mkF m 0 #[.val (.ref a), .unset] [] := by first | (simp [entryFrame, mkF, argsToLocals, Value.category]; done) | rfl
def Q_rm_copy (Z : State) (a : Addr) (l0 : Int32) (k0 : Int32) (r0 : Int32) (h0 : Heap) (n0 : Nat) (v : Option Value) (h : Heap) (L : List Loc) : Prop := ∃ (b : Addr), v = some (.ref b) ∧ Fr n0 L ∧ Keep h0 h [] ∧ n0 ≤ b ∧ h0.size ≤ b ∧ Exa Z h b "com/example/ivaldi/ivaldi/io/TextPosition" ∧ Fld Z h b "com/example/ivaldi/ivaldi/io/TextPosition" "line" "I" (.int l0) ∧ Fld Z h b "com/example/ivaldi/ivaldi/io/TextPosition" "column" "I" (.int k0) ∧ Fld Z h b "com/example/ivaldi/ivaldi/io/TextPosition" "afterReturn" "Z" (.int r0)
set_option maxRecDepth 65536 in
set_option maxHeartbeats 40000000 in
theorem rm_copy (l : Launch) (Z : State) (a0 : Array Value) (hw : ∀ d ∈ tables_1, d.before a0 Z = true) (ws : List Jvm.Cond) (a : Addr) (l0 : Int32) (k0 : Int32) (r0 : Int32) (h0 : Heap) (n0 : Nat) (Z0 : n0 ≤ h0.size) (F_line_a : Fld Z h0 a "com/example/ivaldi/ivaldi/io/TextPosition" "line" "I" (.int l0)) (F_column_a : Fld Z h0 a "com/example/ivaldi/ivaldi/io/TextPosition" "column" "I" (.int k0)) (F_afterReturn_a : Fld Z h0 a "com/example/ivaldi/ivaldi/io/TextPosition" "afterReturn" "Z" (.int r0)) (hb0 : nar .boolean r0 = r0) :
    MetFree l (⟨"com/example/ivaldi/ivaldi/io/TextPosition", "copy", "()Lcom/example/ivaldi/ivaldi/io/TextPosition;"⟩ : MethodName) (head1 (Jvm.Cond.code (⟨"com/example/ivaldi/ivaldi/io/TextPosition", "copy", "()Lcom/example/ivaldi/ivaldi/io/TextPosition;"⟩ : MethodName) prog_69_method_7_code 2 (some (.object "com/example/ivaldi/ivaldi/io/TextPosition")) :: ws) ({ frames := 2, cells := 1, slots := 3, locals := 25 } : Room)) (fun av_ U => av_ = #[(.ref a)] ∧ Z.Warmed39 U.vm ∧ U.heap = h0) (fun _ _ _ _ _ => True) (fun _ U o U' => ∃ v L, o = .returned v ∧ Q_rm_copy Z a l0 k0 r0 h0 n0 v U'.heap L ∧ FrameEnd U o U' L ({ frames := 2, cells := 1, slots := 3, locals := 25 } : Room).cells ({ frames := 2, cells := 1, slots := 3, locals := 25 } : Room).slots) := by
  refine MetFree.of_bodySF (plainFor_of_name pn_1) hisR ?_
  intro p e s m args below meth c s₁ Bd hml0 hP hK
  obtain ⟨rfl, hZ, hh⟩ := hP
  have hx := Bd.exec
  have hby := Bd.bytes
  have hml : c.maxLocals = 2 := hml0
  have hown : s.vm.findClass "com/example/ivaldi/ivaldi/io/TextPosition" = some m.cls := findClass_of_methodNamed Bd.named
  have hnm := (name_of_methodNamed Bd.named Bd.method).1
  have hlk : meth.locks = false := BodyLoose.notSynchronized Bd
  have X0 : Stand p l e ({ frames := 2, cells := 1, slots := 3, locals := 25 } : Room) s m #[(.ref a)] below meth c s₁ [] 0 0 := Stand.of_body Bd
  have e0 : s₁.heap = h0 := by rw [← hh, Bd.state]; rfl
  have N0 := Fr.nil n0
  refine own_by (fun _ kt => castTop (ef_7 m a) kt) (R := own_R s (Q_rm_copy Z a l0 k0 r0 h0 n0) 1 3) ?_
  show own_Go p.tables e below (s₁.setTop (mkF m 0 #[.val (.ref a), .unset] [])) _
  obtain ⟨T1, h1, X1, e1, E1, A1, D1, -, st1⟩ := newO X0 hx hZ hown (hw _ (List.mem_of_getElem? (i := 30) rfl)) (hw _ (List.mem_of_getElem? (i := 6) rfl)) (hw _ (List.mem_of_getElem? (i := 7) rfl)) e0 (g := (mkF m 0 #[.val (.ref a), .unset] [])) rfl (hb hby d_prog_69_method_7_code_0) (by decide) (by decide)
  obtain ⟨b1, g1⟩ : ∃ z, z = h0.size := ⟨_, rfl⟩
  rw [← g1] at A1 D1 st1
  have gn_b1 : n0 ≤ b1 := Nat.le_trans Z0 (Nat.le_of_eq g1.symm)
  have sz_b1 : h0.size ≤ b1 := Nat.le_trans (Keep.refl h0 []).1 (Nat.le_of_eq g1.symm)
  have ne_a_b1 : a ≠ b1 := Nat.ne_of_lt (Nat.lt_of_lt_of_le F_line_a.lt (Nat.le_of_eq g1.symm))
  have f2 := F_line_a.ext E1
  have f3 := F_column_a.ext E1
  have f4 := F_afterReturn_a.ext E1
  have Zs1 : n0 ≤ h1.size := Nat.le_trans Z0 E1.1
  have K1 : Keep h0 h1 [] := (Keep.refl h0 []).ext E1
  have f5 : Fld Z h1 b1 "com/example/ivaldi/ivaldi/io/TextPosition" "line" "I" (.int (0 : Int32)) := D1 (Or.inl (hw _ (List.mem_of_getElem? (i := 15) rfl))) (ty := .int) (by decide)
  have f6 : Fld Z h1 b1 "com/example/ivaldi/ivaldi/io/TextPosition" "column" "I" (.int (0 : Int32)) := D1 (Or.inl (hw _ (List.mem_of_getElem? (i := 17) rfl))) (ty := .int) (by decide)
  have f7 : Fld Z h1 b1 "com/example/ivaldi/ivaldi/io/TextPosition" "afterReturn" "Z" (.int (0 : Int32)) := D1 (Or.inl (hw _ (List.mem_of_getElem? (i := 24) rfl))) (ty := .boolean) (by decide)
  refine own_by st1 ?_
  show own_Go p.tables e below (T1.setTop (mkF m 3 #[.val (.ref a), .unset] [(.ref b1)])) _
  refine own_by (fun _ kt => XS.dup X1.here hx rfl (hb hby d_prog_69_method_7_code_3) rfl rfl kt) ?_
  show own_Go p.tables e below (T1.setTop (mkF m 4 #[.val (.ref a), .unset] [(.ref b1), (.ref b1)])) _
  obtain ⟨_, _, ⟨T8, L8, k8, n8⟩, -, X8, ⟨Lc8, hQ8, l8, y8, z8⟩, st8⟩ := X1.specialBack hx (y := (⟨"com/example/ivaldi/ivaldi/io/TextPosition", "<init>", "()V"⟩ : MethodName)) rfl hown (mvT hZ (hw _ (List.mem_of_getElem? (i := 31) rfl))) (mvT hZ (hw _ (List.mem_of_getElem? (i := 9) rfl))) (mvT hZ (hw _ (List.mem_of_getElem? (i := 10) rfl))) (by decide) (backOf (W := 1) (rm_init l Z a0 hw [] b1  h1 n0 Zs1 f5 f6 f7 A1 gn_b1) hZ (hw _ (List.mem_of_getElem? (i := 10) rfl)) (hw _ (List.mem_of_getElem? (i := 7) rfl)) (by decide) (by decide)) (g := (mkF m 4 #[.val (.ref a), .unset] [(.ref b1), (.ref b1)])) rfl (by rw [hml]; rfl) (Steps.refl _) (a := b1) (argsL := []) (rest := [(.ref b1)]) (lenOf pd_0 rfl) rfl (by show 2 * 0 + _ ≤ _; exact Nat.le_of_eq rfl) (hb hby d_prog_69_method_7_code_4) (fun _ _ => ⟨rfl, e1, (by decide : 1 + 0 ≤ _), (by decide : 3 + 0 ≤ _)⟩)
  dsimp only [Pt.U, Pt.locs, Pt.cells, Pt.slots] at X8 l8 y8 z8 st8 hQ8
  subst l8 y8 z8
  obtain ⟨rfl, Nq8, K8, f8_0, f8_1, f8_2, f8_3⟩ := hQ8
  have f9 := f2.keep K8 (own_nin ne_a_b1)
  have f10 := f3.keep K8 (own_nin ne_a_b1)
  have f11 := f4.keep K8 (own_nin ne_a_b1)
  have f12 := A1.keep K8
  have Zs8 : n0 ≤ T8.heap.size := Nat.le_trans Zs1 K8.1
  have KK8 : Keep h0 T8.heap [] := K1.trans K8 (fun x hx => by first | exact absurd hx List.not_mem_nil | (cases List.mem_singleton.mp hx; first | exact Or.inr sz_b1 | exact Or.inl (by simp)))
  have N8 := Fr.app N0 Nq8
  refine own_by (fun _ kt => st8.trans kt) ?_
  show own_Go p.tables e below (T8.setTop (mkF m 7 #[.val (.ref a), .unset] [(.ref b1)])) _
  refine own_by (fun _ kt => XS.astoreN X8.here hx rfl (hb hby d_prog_69_method_7_code_7) rfl rfl (l' := #[.val (.ref a), .val (.ref b1)]) rfl kt) ?_
  show own_Go p.tables e below (T8.setTop (mkF m 8 #[.val (.ref a), .val (.ref b1)] [])) _
  refine own_by (fun _ kt => XS.aloadN X8.here hx rfl (hb hby d_prog_69_method_7_code_8) rfl rfl kt) ?_
  show own_Go p.tables e below (T8.setTop (mkF m 9 #[.val (.ref a), .val (.ref b1)] [(.ref b1)])) _
  refine own_by (fun _ kt => XS.aloadN X8.here hx rfl (hb hby d_prog_69_method_7_code_9) rfl rfl kt) ?_
  show own_Go p.tables e below (T8.setTop (mkF m 10 #[.val (.ref a), .val (.ref b1)] [(.ref a), (.ref b1)])) _
  obtain ⟨T13, X13, e13, st13⟩ := getF X8 hx hZ hown (host := "") (Or.inl (hw _ (List.mem_of_getElem? (i := 14) rfl))) Via.refl rfl f9 (g := (mkF m 10 #[.val (.ref a), .val (.ref b1)] [(.ref a), (.ref b1)])) rfl rfl (hb hby d_prog_69_method_7_code_10)
  refine own_by st13 ?_
  show own_Go p.tables e below (T13.setTop (mkF m 13 #[.val (.ref a), .val (.ref b1)] [(.int l0), (.ref b1)])) _
  obtain ⟨T14, h14, X14, e14, W14, st14⟩ := putF X13 hx hZ hown (host := "") (Or.inl (hw _ (List.mem_of_getElem? (i := 14) rfl))) Via.refl e13 f8_1 f8_0 (Or.inl (hw _ (List.mem_of_getElem? (i := 15) rfl))) (hw _ (List.mem_of_getElem? (i := 6) rfl)) (ty := .int) (by decide) rfl rfl (g := (mkF m 13 #[.val (.ref a), .val (.ref b1)] [(.int l0), (.ref b1)])) rfl rfl (hb hby d_prog_69_method_7_code_13)
  have Fw14 := f8_1.same W14
  have f15 := f9.other W14 (Or.inl ne_a_b1)
  have f16 := f10.other W14 (Or.inl ne_a_b1)
  have f17 := f11.other W14 (Or.inl ne_a_b1)
  have f18 := f8_0.wr W14
  have f19 := f8_2.other W14 (Or.inr (slot_ne (Or.inl (hw _ (List.mem_of_getElem? (i := 17) rfl))) (Or.inl (hw _ (List.mem_of_getElem? (i := 15) rfl))) (by decide) (t := .int) (t' := .int) (by decide) (by decide)))
  have f20 := f8_3.other W14 (Or.inr (slot_ne (Or.inl (hw _ (List.mem_of_getElem? (i := 24) rfl))) (Or.inl (hw _ (List.mem_of_getElem? (i := 15) rfl))) (by decide) (t := .boolean) (t' := .int) (by decide) (by decide)))
  have Zs14 : n0 ≤ h14.size := by rw [W14.size]; exact Zs8
  have K14 : Keep h0 h14 [] := KK8.wr W14 (Or.inr sz_b1)
  have N14 := Fr.snoc X14 N8 gn_b1
  refine own_by st14 ?_
  show own_Go p.tables e below (T14.setTop (mkF m 16 #[.val (.ref a), .val (.ref b1)] [])) _
  refine own_by (fun _ kt => XS.aloadN X14.here hx rfl (hb hby d_prog_69_method_7_code_16) rfl rfl kt) ?_
  show own_Go p.tables e below (T14.setTop (mkF m 17 #[.val (.ref a), .val (.ref b1)] [(.ref b1)])) _
  refine own_by (fun _ kt => XS.aloadN X14.here hx rfl (hb hby d_prog_69_method_7_code_17) rfl rfl kt) ?_
  show own_Go p.tables e below (T14.setTop (mkF m 18 #[.val (.ref a), .val (.ref b1)] [(.ref a), (.ref b1)])) _
  obtain ⟨T21, X21, e21, st21⟩ := getF X14 hx hZ hown (host := "") (Or.inl (hw _ (List.mem_of_getElem? (i := 16) rfl))) Via.refl e14 f16 (g := (mkF m 18 #[.val (.ref a), .val (.ref b1)] [(.ref a), (.ref b1)])) rfl rfl (hb hby d_prog_69_method_7_code_18)
  refine own_by st21 ?_
  show own_Go p.tables e below (T21.setTop (mkF m 21 #[.val (.ref a), .val (.ref b1)] [(.int k0), (.ref b1)])) _
  obtain ⟨T22, h22, X22, e22, W22, st22⟩ := putF X21 hx hZ hown (host := "") (Or.inl (hw _ (List.mem_of_getElem? (i := 16) rfl))) Via.refl e21 f19 f18 (Or.inl (hw _ (List.mem_of_getElem? (i := 17) rfl))) (hw _ (List.mem_of_getElem? (i := 6) rfl)) (ty := .int) (by decide) rfl rfl (g := (mkF m 21 #[.val (.ref a), .val (.ref b1)] [(.int k0), (.ref b1)])) rfl rfl (hb hby d_prog_69_method_7_code_21)
  have Fw22 := f19.same W22
  have f23 := f15.other W22 (Or.inl ne_a_b1)
  have f24 := f16.other W22 (Or.inl ne_a_b1)
  have f25 := f17.other W22 (Or.inl ne_a_b1)
  have f26 := f18.wr W22
  have f27 := Fw14.other W22 (Or.inr (slot_ne (Or.inl (hw _ (List.mem_of_getElem? (i := 15) rfl))) (Or.inl (hw _ (List.mem_of_getElem? (i := 17) rfl))) (by decide) (t := .int) (t' := .int) (by decide) (by decide)))
  have f28 := f20.other W22 (Or.inr (slot_ne (Or.inl (hw _ (List.mem_of_getElem? (i := 24) rfl))) (Or.inl (hw _ (List.mem_of_getElem? (i := 17) rfl))) (by decide) (t := .boolean) (t' := .int) (by decide) (by decide)))
  have Zs22 : n0 ≤ h22.size := by rw [W22.size]; exact Zs14
  have K22 : Keep h0 h22 [] := K14.wr W22 (Or.inr sz_b1)
  have N22 := Fr.snoc X22 N14 gn_b1
  refine own_by st22 ?_
  show own_Go p.tables e below (T22.setTop (mkF m 24 #[.val (.ref a), .val (.ref b1)] [])) _
  refine own_by (fun _ kt => XS.aloadN X22.here hx rfl (hb hby d_prog_69_method_7_code_24) rfl rfl kt) ?_
  show own_Go p.tables e below (T22.setTop (mkF m 25 #[.val (.ref a), .val (.ref b1)] [(.ref b1)])) _
  refine own_by (fun _ kt => XS.aloadN X22.here hx rfl (hb hby d_prog_69_method_7_code_25) rfl rfl kt) ?_
  show own_Go p.tables e below (T22.setTop (mkF m 26 #[.val (.ref a), .val (.ref b1)] [(.ref a), (.ref b1)])) _
  obtain ⟨T29, X29, e29, st29⟩ := getF X22 hx hZ hown (host := "") (Or.inl (hw _ (List.mem_of_getElem? (i := 23) rfl))) Via.refl e22 f25 (g := (mkF m 26 #[.val (.ref a), .val (.ref b1)] [(.ref a), (.ref b1)])) rfl rfl (hb hby d_prog_69_method_7_code_26)
  refine own_by st29 ?_
  show own_Go p.tables e below (T29.setTop (mkF m 29 #[.val (.ref a), .val (.ref b1)] [(.int r0), (.ref b1)])) _
  obtain ⟨T30, h30, X30, e30, W30, st30⟩ := putFN X29 hx hZ hown (hw _ (List.mem_of_getElem? (i := 23) rfl)) Via.refl e29 f28 f26 (Or.inl (hw _ (List.mem_of_getElem? (i := 24) rfl))) (hw _ (List.mem_of_getElem? (i := 6) rfl)) (ty := .boolean) (v' := (.int (nar .boolean r0))) (by decide) rfl (fits_nar_bool _) (g := (mkF m 29 #[.val (.ref a), .val (.ref b1)] [(.int r0), (.ref b1)])) rfl rfl (hb hby d_prog_69_method_7_code_29)
  have Fw30 := f28.same W30
  have f31 := f23.other W30 (Or.inl ne_a_b1)
  have f32 := f24.other W30 (Or.inl ne_a_b1)
  have f33 := f25.other W30 (Or.inl ne_a_b1)
  have f34 := f26.wr W30
  have f35 := f27.other W30 (Or.inr (slot_ne (Or.inl (hw _ (List.mem_of_getElem? (i := 15) rfl))) (Or.inl (hw _ (List.mem_of_getElem? (i := 24) rfl))) (by decide) (t := .int) (t' := .boolean) (by decide) (by decide)))
  have f36 := Fw22.other W30 (Or.inr (slot_ne (Or.inl (hw _ (List.mem_of_getElem? (i := 17) rfl))) (Or.inl (hw _ (List.mem_of_getElem? (i := 24) rfl))) (by decide) (t := .int) (t' := .boolean) (by decide) (by decide)))
  have Zs30 : n0 ≤ h30.size := by rw [W30.size]; exact Zs22
  have K30 : Keep h0 h30 [] := K22.wr W30 (Or.inr sz_b1)
  have N30 := Fr.snoc X30 N22 gn_b1
  refine own_by st30 ?_
  show own_Go p.tables e below (T30.setTop (mkF m 32 #[.val (.ref a), .val (.ref b1)] [])) _
  refine own_by (fun _ kt => XS.aloadN X30.here hx rfl (hb hby d_prog_69_method_7_code_32) rfl rfl kt) ?_
  show own_Go p.tables e below (T30.setTop (mkF m 33 #[.val (.ref a), .val (.ref b1)] [(.ref b1)])) _
  exact own_retA X30 hx Bd.returns hlk rfl rfl (hb hby d_prog_69_method_7_code_33) (by rw [e30]; exact ⟨b1, rfl, N30, K30, gn_b1, sz_b1, f34, f35, f36, (by have q := Fw30; rw [hb0] at q; exact q)⟩) (by decide) (by decide)
def own_st (i f t c : Int32) (u : Int32 × Int32 × Int32) : Int32 × Int32 × Int32 := if i < f then u else if i < t then (own_ln c u.2.2 u.1, own_cl c u.2.2 u.2.1, own_ar c u.2.2) else u
theorem own_all (x0 x1 x2 x3 f t : Int32) (u : Int32 × Int32 × Int32) (hf : 0 ≤ f.toInt ∧ f.toInt ≤ 4) (ht : 0 ≤ t.toInt ∧ t.toInt ≤ 4) : own_run x0 x1 x2 x3 (t.toInt - f.toInt).toNat f u = own_st 3 f t x3 (own_st 2 f t x2 (own_st 1 f t x1 (own_st 0 f t x0 u))) := by
  rcases own_five f hf.1 hf.2 with rfl | rfl | rfl | rfl | rfl <;> rcases own_five t ht.1 ht.2 with rfl | rfl | rfl | rfl | rfl <;> rfl
theorem own_b7 (p : Int32) : 0 ≤ ((p &&& 7) % 5).toInt ∧ ((p &&& 7) % 5).toInt ≤ 4 := by
  have hn : (p &&& 7).toBitVec.toNat ≤ 7 := by
    show (p.toBitVec &&& (7 : Int32).toBitVec).toNat ≤ 7
    rw [BitVec.toNat_and]
    exact Nat.and_le_right
  have e : 0 ≤ (p &&& 7).toInt := by
    show 0 ≤ (p &&& 7).toBitVec.toInt
    rw [BitVec.toInt_eq_toNat_cond, if_pos (by omega)]
    omega
  rw [Int32.toInt_mod, show (5 : Int32).toInt = 5 from by decide, Int.tmod_eq_emod_of_nonneg e]
  omega
theorem pd_1 : parseMethodDescriptor "(I)C" = some ⟨[.int], some .char⟩ := by decide +kernel
theorem pd_2 : parseMethodDescriptor "(C)V" = some ⟨[.char], none⟩ := by decide +kernel
theorem pd_3 : parseMethodDescriptor "()Lcom/example/ivaldi/ivaldi/io/TextPosition;" = some ⟨[], some (.object "com/example/ivaldi/ivaldi/io/TextPosition")⟩ := by decide +kernel
theorem pd_4 : parseMethodDescriptor "([CII)V" = some ⟨[(.array .char), .int, .int], none⟩ := by decide +kernel
theorem pd_5 : parseMethodDescriptor "()I" = some ⟨[], some .int⟩ := by decide +kernel
theorem ef_8 (m : MethodId) (p0 : Int32) (p1 : Int32) (p2 : Int32) (p3 : Int32) (p4 : Int32) (p5 : Int32) : entryFrame m #[(.int p0), (.int p1), (.int p2), (.int p3), (.int p4), (.int p5)] maxLocals = mkF m 0 #[.val (.int p0), .val (.int p1), .val (.int p2), .val (.int p3), .val (.int p4), .val (.int p5), .unset, .unset, .unset, .unset, .unset, .unset] [] := by first | (simp [entryFrame, mkF, argsToLocals, Value.category, maxLocals]; done) | rfl
def Q_rm_law (Z : State) (p0 : Int32) (p1 : Int32) (p2 : Int32) (p3 : Int32) (p4 : Int32) (p5 : Int32)  (h0 : Heap) (n0 : Nat) (v : Option Value) (h : Heap) (L : List Loc) : Prop := v = some (.int (1 : Int32)) ∧ Fr n0 L
set_option maxRecDepth 65536 in
set_option maxHeartbeats 40000000 in
theorem rm_law (l : Launch) (Z : State) (a0 : Array Value) (hw : ∀ d ∈ tables_1, d.before a0 Z = true) (ws : List Jvm.Cond) (p0 : Int32) (p1 : Int32) (p2 : Int32) (p3 : Int32) (p4 : Int32) (p5 : Int32)  (h0 : Heap) (n0 : Nat) (Z0 : n0 ≤ h0.size)  :
    MetFree l x (head1 (Jvm.Cond.code x code maxLocals ret :: ws) room_1) (fun av_ U => av_ = #[(.int p0), (.int p1), (.int p2), (.int p3), (.int p4), (.int p5)] ∧ Z.Warmed39 U.vm ∧ U.heap = h0) (fun _ _ _ _ _ => True) (fun _ U o U' => ∃ v L, o = .returned v ∧ Q_rm_law Z p0 p1 p2 p3 p4 p5 h0 n0 v U'.heap L ∧ FrameEnd U o U' L 16 128) := by
  refine MetFree.of_bodySF (plainFor_of_name pn_0) hisR ?_
  intro p e s m args below meth c s₁ Bd hml0 hP hK
  obtain ⟨rfl, hZ, hh⟩ := hP
  have hx := Bd.exec
  have hby := Bd.bytes
  have hml : c.maxLocals = 12 := hml0
  have hown : s.vm.findClass "com/example/ivaldi/ivaldi/io/TextPositionAdvancePinLaw" = some m.cls := findClass_of_methodNamed Bd.named
  have hnm := (name_of_methodNamed Bd.named Bd.method).1
  have hlk : meth.locks = false := BodyLoose.notSynchronized Bd
  have X0 : Stand p l e room_1 s m #[(.int p0), (.int p1), (.int p2), (.int p3), (.int p4), (.int p5)] below meth c s₁ [] 0 0 := Stand.of_body Bd
  have e0 : s₁.heap = h0 := by rw [← hh, Bd.state]; rfl
  have N0 := Fr.nil n0
  refine own_by (fun _ kt => castTop (ef_8 m p0 p1 p2 p3 p4 p5) kt) (R := own_R s (Q_rm_law Z p0 p1 p2 p3 p4 p5 h0 n0) 16 128) ?_
  show own_Go p.tables e below (s₁.setTop (mkF m 0 #[.val (.int p0), .val (.int p1), .val (.int p2), .val (.int p3), .val (.int p4), .val (.int p5), .unset, .unset, .unset, .unset, .unset, .unset] [])) _
  refine own_by (fun _ kt => XS.iconst X0.here hx rfl (hb hby at_0) kt) ?_
  show own_Go p.tables e below (s₁.setTop (mkF m 1 #[.val (.int p0), .val (.int p1), .val (.int p2), .val (.int p3), .val (.int p4), .val (.int p5), .unset, .unset, .unset, .unset, .unset, .unset] [(.int (4 : Int32))])) _
  obtain ⟨T1, h1, k1, X1, e1, E1, A1, st1⟩ := newP X0 hx hZ (hw _ (List.mem_of_getElem? (i := 0) rfl)) e0 (g := (mkF m 1 #[.val (.int p0), .val (.int p1), .val (.int p2), .val (.int p3), .val (.int p4), .val (.int p5), .unset, .unset, .unset, .unset, .unset, .unset] [(.int (4 : Int32))])) rfl (hb hby at_1) rfl (by decide) (cap := 4) (by decide) (by decide) (by decide) (by decide)
  obtain ⟨b1, g1⟩ : ∃ z, z = h0.size := ⟨_, rfl⟩
  rw [← g1] at A1 st1
  have gn_b1 : n0 ≤ b1 := Nat.le_trans Z0 (Nat.le_of_eq g1.symm)
  have Zs1 : n0 ≤ h1.size := Nat.le_trans Z0 E1.1
  have f2 : Arv Z h1 b1 k1 .char (4 : Int32) [(.int (0 : Int32)), (.int (0 : Int32)), (.int (0 : Int32)), (.int (0 : Int32))] (.int (0 : Int32)) := (Arv.new A1 (by decide)).pad (pad_rep [] (.int (0 : Int32)) 4)
  refine own_by st1 ?_
  show own_Go p.tables e below (T1.setTop (mkF m 3 #[.val (.int p0), .val (.int p1), .val (.int p2), .val (.int p3), .val (.int p4), .val (.int p5), .unset, .unset, .unset, .unset, .unset, .unset] [(.ref b1)])) _
  refine own_by (fun _ kt => XS.astore X1.here hx rfl (hb hby at_3) rfl rfl (l' := #[.val (.int p0), .val (.int p1), .val (.int p2), .val (.int p3), .val (.int p4), .val (.int p5), .val (.ref b1), .unset, .unset, .unset, .unset, .unset]) rfl kt) ?_
  show own_Go p.tables e below (T1.setTop (mkF m 5 #[.val (.int p0), .val (.int p1), .val (.int p2), .val (.int p3), .val (.int p4), .val (.int p5), .val (.ref b1), .unset, .unset, .unset, .unset, .unset] [])) _
  refine own_by (fun _ kt => XS.aload X1.here hx rfl (hb hby at_5) rfl rfl kt) ?_
  show own_Go p.tables e below (T1.setTop (mkF m 7 #[.val (.int p0), .val (.int p1), .val (.int p2), .val (.int p3), .val (.int p4), .val (.int p5), .val (.ref b1), .unset, .unset, .unset, .unset, .unset] [(.ref b1)])) _
  refine own_by (fun _ kt => XS.iconst X1.here hx rfl (hb hby at_7) kt) ?_
  show own_Go p.tables e below (T1.setTop (mkF m 8 #[.val (.int p0), .val (.int p1), .val (.int p2), .val (.int p3), .val (.int p4), .val (.int p5), .val (.ref b1), .unset, .unset, .unset, .unset, .unset] [(.int (0 : Int32)), (.ref b1)])) _
  refine own_by (fun _ kt => XS.iloadN X1.here hx rfl (hb hby at_8) rfl kt) ?_
  show own_Go p.tables e below (T1.setTop (mkF m 9 #[.val (.int p0), .val (.int p1), .val (.int p2), .val (.int p3), .val (.int p4), .val (.int p5), .val (.ref b1), .unset, .unset, .unset, .unset, .unset] [(.int p0), (.int (0 : Int32)), (.ref b1)])) _
  obtain ⟨_, _, ⟨T3, L3, k3, n3⟩, -, X3, ⟨Lc3, hQ3, l3, y3, z3⟩, st3⟩ := Jvm.LawKit.callS X1 hx (y := (⟨"com/example/ivaldi/ivaldi/io/TextPositionAdvancePinLaw", "pick", "(I)C"⟩ : MethodName)) hown (mvT hZ (hw _ (List.mem_of_getElem? (i := 1) rfl))) (mvT hZ (hw _ (List.mem_of_getElem? (i := 2) rfl))) (mvT hZ (hw _ (List.mem_of_getElem? (i := 3) rfl))) (mvT hZ (hw _ (List.mem_of_getElem? (i := 4) rfl))) (by decide) (backOf (W := 2) (rm_own_pick l Z a0 hw [] p0 h1 n0 Zs1) hZ (hw _ (List.mem_of_getElem? (i := 4) rfl)) (hw _ (List.mem_of_getElem? (i := 3) rfl)) (by decide) (by decide)) (g := (mkF m 9 #[.val (.int p0), .val (.int p1), .val (.int p2), .val (.int p3), .val (.int p4), .val (.int p5), .val (.ref b1), .unset, .unset, .unset, .unset, .unset] [(.int p0), (.int (0 : Int32)), (.ref b1)])) rfl (by rw [hml]; rfl) (argsL := [(.int p0)]) (rest := [(.int (0 : Int32)), (.ref b1)]) (lenOf pd_1 rfl) rfl (by show 2 * 0 + _ ≤ _; exact Nat.le_of_eq rfl) (hb hby at_9) (fun _ _ => ⟨rfl, e1, (by decide : 1 + 0 ≤ _), (by decide : 4 + 0 ≤ _)⟩)
  dsimp only [Pt.U, Pt.locs, Pt.cells, Pt.slots] at X3 l3 y3 z3 st3 hQ3
  subst l3 y3 z3
  obtain ⟨rfl, Nq3, eh3⟩ := hQ3
  have N3 := Fr.app N0 Nq3
  refine own_by (st3) ?_
  show own_Go p.tables e below (T3.setTop (mkF m 12 #[.val (.int p0), .val (.int p1), .val (.int p2), .val (.int p3), .val (.int p4), .val (.int p5), .val (.ref b1), .unset, .unset, .unset, .unset, .unset] [(.int (own_pick p0)), (.int (0 : Int32)), (.ref b1)])) _
  obtain ⟨cl4, Ar4, q4, S4, M4, H4, G4⟩ := f2
  obtain ⟨T4, h4, X4, e4, W4, st4⟩ := stC X3 hx hZ eh3 Ar4 (j := (0 : Int32)) (inb_of S4 ⟨by decide, by decide⟩) (g := (mkF m 12 #[.val (.int p0), .val (.int p1), .val (.int p2), .val (.int p3), .val (.int p4), .val (.int p5), .val (.ref b1), .unset, .unset, .unset, .unset, .unset] [(.int (own_pick p0)), (.int (0 : Int32)), (.ref b1)])) rfl rfl (hb hby at_12)
  have f5 : Arv Z h4 b1 k1 .char (4 : Int32) [(.int (nar .char (own_pick p0))), (.int (0 : Int32)), (.int (0 : Int32)), (.int (0 : Int32))] (.int (0 : Int32)) := Arv.set Ar4 q4 S4 M4 H4 G4 (fits_nar_char _) W4 0 rfl (Nat.le_of_ble_eq_true rfl)
  have Zs4 : n0 ≤ h4.size := by rw [W4.size]; exact Zs1
  have N4 := Fr.snoc X4 N3 gn_b1
  refine own_by st4 ?_
  show own_Go p.tables e below (T4.setTop (mkF m 13 #[.val (.int p0), .val (.int p1), .val (.int p2), .val (.int p3), .val (.int p4), .val (.int p5), .val (.ref b1), .unset, .unset, .unset, .unset, .unset] [])) _
  refine own_by (fun _ kt => XS.aload X4.here hx rfl (hb hby at_13) rfl rfl kt) ?_
  show own_Go p.tables e below (T4.setTop (mkF m 15 #[.val (.int p0), .val (.int p1), .val (.int p2), .val (.int p3), .val (.int p4), .val (.int p5), .val (.ref b1), .unset, .unset, .unset, .unset, .unset] [(.ref b1)])) _
  refine own_by (fun _ kt => XS.iconst X4.here hx rfl (hb hby at_15) kt) ?_
  show own_Go p.tables e below (T4.setTop (mkF m 16 #[.val (.int p0), .val (.int p1), .val (.int p2), .val (.int p3), .val (.int p4), .val (.int p5), .val (.ref b1), .unset, .unset, .unset, .unset, .unset] [(.int (1 : Int32)), (.ref b1)])) _
  refine own_by (fun _ kt => XS.iloadN X4.here hx rfl (hb hby at_16) rfl kt) ?_
  show own_Go p.tables e below (T4.setTop (mkF m 17 #[.val (.int p0), .val (.int p1), .val (.int p2), .val (.int p3), .val (.int p4), .val (.int p5), .val (.ref b1), .unset, .unset, .unset, .unset, .unset] [(.int p1), (.int (1 : Int32)), (.ref b1)])) _
  obtain ⟨_, _, ⟨T6, L6, k6, n6⟩, -, X6, ⟨Lc6, hQ6, l6, y6, z6⟩, st6⟩ := Jvm.LawKit.callS X4 hx (y := (⟨"com/example/ivaldi/ivaldi/io/TextPositionAdvancePinLaw", "pick", "(I)C"⟩ : MethodName)) hown (mvT hZ (hw _ (List.mem_of_getElem? (i := 1) rfl))) (mvT hZ (hw _ (List.mem_of_getElem? (i := 2) rfl))) (mvT hZ (hw _ (List.mem_of_getElem? (i := 3) rfl))) (mvT hZ (hw _ (List.mem_of_getElem? (i := 4) rfl))) (by decide) (backOf (W := 2) (rm_own_pick l Z a0 hw [] p1 h4 n0 Zs4) hZ (hw _ (List.mem_of_getElem? (i := 4) rfl)) (hw _ (List.mem_of_getElem? (i := 3) rfl)) (by decide) (by decide)) (g := (mkF m 17 #[.val (.int p0), .val (.int p1), .val (.int p2), .val (.int p3), .val (.int p4), .val (.int p5), .val (.ref b1), .unset, .unset, .unset, .unset, .unset] [(.int p1), (.int (1 : Int32)), (.ref b1)])) rfl (by rw [hml]; rfl) (argsL := [(.int p1)]) (rest := [(.int (1 : Int32)), (.ref b1)]) (lenOf pd_1 rfl) rfl (by show 2 * 0 + _ ≤ _; exact Nat.le_of_eq rfl) (hb hby at_17) (fun _ _ => ⟨rfl, e4, (by decide : 1 + 0 ≤ _), (by decide : 4 + 0 ≤ _)⟩)
  dsimp only [Pt.U, Pt.locs, Pt.cells, Pt.slots] at X6 l6 y6 z6 st6 hQ6
  subst l6 y6 z6
  obtain ⟨rfl, Nq6, eh6⟩ := hQ6
  have N6 := Fr.app N4 Nq6
  refine own_by (st6) ?_
  show own_Go p.tables e below (T6.setTop (mkF m 20 #[.val (.int p0), .val (.int p1), .val (.int p2), .val (.int p3), .val (.int p4), .val (.int p5), .val (.ref b1), .unset, .unset, .unset, .unset, .unset] [(.int (own_pick p1)), (.int (1 : Int32)), (.ref b1)])) _
  obtain ⟨cl7, Ar7, q7, S7, M7, H7, G7⟩ := f5
  obtain ⟨T7, h7, X7, e7, W7, st7⟩ := stC X6 hx hZ eh6 Ar7 (j := (1 : Int32)) (inb_of S7 ⟨by decide, by decide⟩) (g := (mkF m 20 #[.val (.int p0), .val (.int p1), .val (.int p2), .val (.int p3), .val (.int p4), .val (.int p5), .val (.ref b1), .unset, .unset, .unset, .unset, .unset] [(.int (own_pick p1)), (.int (1 : Int32)), (.ref b1)])) rfl rfl (hb hby at_20)
  have f8 : Arv Z h7 b1 k1 .char (4 : Int32) [(.int (nar .char (own_pick p0))), (.int (nar .char (own_pick p1))), (.int (0 : Int32)), (.int (0 : Int32))] (.int (0 : Int32)) := Arv.set Ar7 q7 S7 M7 H7 G7 (fits_nar_char _) W7 1 rfl (Nat.le_of_ble_eq_true rfl)
  have Zs7 : n0 ≤ h7.size := by rw [W7.size]; exact Zs4
  have N7 := Fr.snoc X7 N6 gn_b1
  refine own_by st7 ?_
  show own_Go p.tables e below (T7.setTop (mkF m 21 #[.val (.int p0), .val (.int p1), .val (.int p2), .val (.int p3), .val (.int p4), .val (.int p5), .val (.ref b1), .unset, .unset, .unset, .unset, .unset] [])) _
  refine own_by (fun _ kt => XS.aload X7.here hx rfl (hb hby at_21) rfl rfl kt) ?_
  show own_Go p.tables e below (T7.setTop (mkF m 23 #[.val (.int p0), .val (.int p1), .val (.int p2), .val (.int p3), .val (.int p4), .val (.int p5), .val (.ref b1), .unset, .unset, .unset, .unset, .unset] [(.ref b1)])) _
  refine own_by (fun _ kt => XS.iconst X7.here hx rfl (hb hby at_23) kt) ?_
  show own_Go p.tables e below (T7.setTop (mkF m 24 #[.val (.int p0), .val (.int p1), .val (.int p2), .val (.int p3), .val (.int p4), .val (.int p5), .val (.ref b1), .unset, .unset, .unset, .unset, .unset] [(.int (2 : Int32)), (.ref b1)])) _
  refine own_by (fun _ kt => XS.iloadN X7.here hx rfl (hb hby at_24) rfl kt) ?_
  show own_Go p.tables e below (T7.setTop (mkF m 25 #[.val (.int p0), .val (.int p1), .val (.int p2), .val (.int p3), .val (.int p4), .val (.int p5), .val (.ref b1), .unset, .unset, .unset, .unset, .unset] [(.int p2), (.int (2 : Int32)), (.ref b1)])) _
  obtain ⟨_, _, ⟨T9, L9, k9, n9⟩, -, X9, ⟨Lc9, hQ9, l9, y9, z9⟩, st9⟩ := Jvm.LawKit.callS X7 hx (y := (⟨"com/example/ivaldi/ivaldi/io/TextPositionAdvancePinLaw", "pick", "(I)C"⟩ : MethodName)) hown (mvT hZ (hw _ (List.mem_of_getElem? (i := 1) rfl))) (mvT hZ (hw _ (List.mem_of_getElem? (i := 2) rfl))) (mvT hZ (hw _ (List.mem_of_getElem? (i := 3) rfl))) (mvT hZ (hw _ (List.mem_of_getElem? (i := 4) rfl))) (by decide) (backOf (W := 2) (rm_own_pick l Z a0 hw [] p2 h7 n0 Zs7) hZ (hw _ (List.mem_of_getElem? (i := 4) rfl)) (hw _ (List.mem_of_getElem? (i := 3) rfl)) (by decide) (by decide)) (g := (mkF m 25 #[.val (.int p0), .val (.int p1), .val (.int p2), .val (.int p3), .val (.int p4), .val (.int p5), .val (.ref b1), .unset, .unset, .unset, .unset, .unset] [(.int p2), (.int (2 : Int32)), (.ref b1)])) rfl (by rw [hml]; rfl) (argsL := [(.int p2)]) (rest := [(.int (2 : Int32)), (.ref b1)]) (lenOf pd_1 rfl) rfl (by show 2 * 0 + _ ≤ _; exact Nat.le_of_eq rfl) (hb hby at_25) (fun _ _ => ⟨rfl, e7, (by decide : 1 + 0 ≤ _), (by decide : 4 + 0 ≤ _)⟩)
  dsimp only [Pt.U, Pt.locs, Pt.cells, Pt.slots] at X9 l9 y9 z9 st9 hQ9
  subst l9 y9 z9
  obtain ⟨rfl, Nq9, eh9⟩ := hQ9
  have N9 := Fr.app N7 Nq9
  refine own_by (st9) ?_
  show own_Go p.tables e below (T9.setTop (mkF m 28 #[.val (.int p0), .val (.int p1), .val (.int p2), .val (.int p3), .val (.int p4), .val (.int p5), .val (.ref b1), .unset, .unset, .unset, .unset, .unset] [(.int (own_pick p2)), (.int (2 : Int32)), (.ref b1)])) _
  obtain ⟨cl10, Ar10, q10, S10, M10, H10, G10⟩ := f8
  obtain ⟨T10, h10, X10, e10, W10, st10⟩ := stC X9 hx hZ eh9 Ar10 (j := (2 : Int32)) (inb_of S10 ⟨by decide, by decide⟩) (g := (mkF m 28 #[.val (.int p0), .val (.int p1), .val (.int p2), .val (.int p3), .val (.int p4), .val (.int p5), .val (.ref b1), .unset, .unset, .unset, .unset, .unset] [(.int (own_pick p2)), (.int (2 : Int32)), (.ref b1)])) rfl rfl (hb hby at_28)
  have f11 : Arv Z h10 b1 k1 .char (4 : Int32) [(.int (nar .char (own_pick p0))), (.int (nar .char (own_pick p1))), (.int (nar .char (own_pick p2))), (.int (0 : Int32))] (.int (0 : Int32)) := Arv.set Ar10 q10 S10 M10 H10 G10 (fits_nar_char _) W10 2 rfl (Nat.le_of_ble_eq_true rfl)
  have Zs10 : n0 ≤ h10.size := by rw [W10.size]; exact Zs7
  have N10 := Fr.snoc X10 N9 gn_b1
  refine own_by st10 ?_
  show own_Go p.tables e below (T10.setTop (mkF m 29 #[.val (.int p0), .val (.int p1), .val (.int p2), .val (.int p3), .val (.int p4), .val (.int p5), .val (.ref b1), .unset, .unset, .unset, .unset, .unset] [])) _
  refine own_by (fun _ kt => XS.aload X10.here hx rfl (hb hby at_29) rfl rfl kt) ?_
  show own_Go p.tables e below (T10.setTop (mkF m 31 #[.val (.int p0), .val (.int p1), .val (.int p2), .val (.int p3), .val (.int p4), .val (.int p5), .val (.ref b1), .unset, .unset, .unset, .unset, .unset] [(.ref b1)])) _
  refine own_by (fun _ kt => XS.iconst X10.here hx rfl (hb hby at_31) kt) ?_
  show own_Go p.tables e below (T10.setTop (mkF m 32 #[.val (.int p0), .val (.int p1), .val (.int p2), .val (.int p3), .val (.int p4), .val (.int p5), .val (.ref b1), .unset, .unset, .unset, .unset, .unset] [(.int (3 : Int32)), (.ref b1)])) _
  refine own_by (fun _ kt => XS.iloadN X10.here hx rfl (hb hby at_32) rfl kt) ?_
  show own_Go p.tables e below (T10.setTop (mkF m 33 #[.val (.int p0), .val (.int p1), .val (.int p2), .val (.int p3), .val (.int p4), .val (.int p5), .val (.ref b1), .unset, .unset, .unset, .unset, .unset] [(.int p3), (.int (3 : Int32)), (.ref b1)])) _
  obtain ⟨_, _, ⟨T12, L12, k12, n12⟩, -, X12, ⟨Lc12, hQ12, l12, y12, z12⟩, st12⟩ := Jvm.LawKit.callS X10 hx (y := (⟨"com/example/ivaldi/ivaldi/io/TextPositionAdvancePinLaw", "pick", "(I)C"⟩ : MethodName)) hown (mvT hZ (hw _ (List.mem_of_getElem? (i := 1) rfl))) (mvT hZ (hw _ (List.mem_of_getElem? (i := 2) rfl))) (mvT hZ (hw _ (List.mem_of_getElem? (i := 3) rfl))) (mvT hZ (hw _ (List.mem_of_getElem? (i := 4) rfl))) (by decide) (backOf (W := 2) (rm_own_pick l Z a0 hw [] p3 h10 n0 Zs10) hZ (hw _ (List.mem_of_getElem? (i := 4) rfl)) (hw _ (List.mem_of_getElem? (i := 3) rfl)) (by decide) (by decide)) (g := (mkF m 33 #[.val (.int p0), .val (.int p1), .val (.int p2), .val (.int p3), .val (.int p4), .val (.int p5), .val (.ref b1), .unset, .unset, .unset, .unset, .unset] [(.int p3), (.int (3 : Int32)), (.ref b1)])) rfl (by rw [hml]; rfl) (argsL := [(.int p3)]) (rest := [(.int (3 : Int32)), (.ref b1)]) (lenOf pd_1 rfl) rfl (by show 2 * 0 + _ ≤ _; exact Nat.le_of_eq rfl) (hb hby at_33) (fun _ _ => ⟨rfl, e10, (by decide : 1 + 0 ≤ _), (by decide : 4 + 0 ≤ _)⟩)
  dsimp only [Pt.U, Pt.locs, Pt.cells, Pt.slots] at X12 l12 y12 z12 st12 hQ12
  subst l12 y12 z12
  obtain ⟨rfl, Nq12, eh12⟩ := hQ12
  have N12 := Fr.app N10 Nq12
  refine own_by (st12) ?_
  show own_Go p.tables e below (T12.setTop (mkF m 36 #[.val (.int p0), .val (.int p1), .val (.int p2), .val (.int p3), .val (.int p4), .val (.int p5), .val (.ref b1), .unset, .unset, .unset, .unset, .unset] [(.int (own_pick p3)), (.int (3 : Int32)), (.ref b1)])) _
  obtain ⟨cl13, Ar13, q13, S13, M13, H13, G13⟩ := f11
  obtain ⟨T13, h13, X13, e13, W13, st13⟩ := stC X12 hx hZ eh12 Ar13 (j := (3 : Int32)) (inb_of S13 ⟨by decide, by decide⟩) (g := (mkF m 36 #[.val (.int p0), .val (.int p1), .val (.int p2), .val (.int p3), .val (.int p4), .val (.int p5), .val (.ref b1), .unset, .unset, .unset, .unset, .unset] [(.int (own_pick p3)), (.int (3 : Int32)), (.ref b1)])) rfl rfl (hb hby at_36)
  have f14 : Arv Z h13 b1 k1 .char (4 : Int32) [(.int (nar .char (own_pick p0))), (.int (nar .char (own_pick p1))), (.int (nar .char (own_pick p2))), (.int (nar .char (own_pick p3)))] (.int (0 : Int32)) := Arv.set Ar13 q13 S13 M13 H13 G13 (fits_nar_char _) W13 3 rfl (Nat.le_of_ble_eq_true rfl)
  have Zs13 : n0 ≤ h13.size := by rw [W13.size]; exact Zs10
  have N13 := Fr.snoc X13 N12 gn_b1
  refine own_by st13 ?_
  show own_Go p.tables e below (T13.setTop (mkF m 37 #[.val (.int p0), .val (.int p1), .val (.int p2), .val (.int p3), .val (.int p4), .val (.int p5), .val (.ref b1), .unset, .unset, .unset, .unset, .unset] [])) _
  refine own_by (fun _ kt => XS.iload X13.here hx rfl (hb hby at_37) rfl kt) ?_
  show own_Go p.tables e below (T13.setTop (mkF m 39 #[.val (.int p0), .val (.int p1), .val (.int p2), .val (.int p3), .val (.int p4), .val (.int p5), .val (.ref b1), .unset, .unset, .unset, .unset, .unset] [(.int p5)])) _
  refine own_by (fun _ kt => XS.bipush X13.here hx rfl (hb hby at_39) kt) ?_
  show own_Go p.tables e below (T13.setTop (mkF m 41 #[.val (.int p0), .val (.int p1), .val (.int p2), .val (.int p3), .val (.int p4), .val (.int p5), .val (.ref b1), .unset, .unset, .unset, .unset, .unset] [(.int (7 : Int32)), (.int p5)])) _
  refine own_by (fun _ kt => XS.iand X13.here hx rfl (hb hby at_41) rfl kt) ?_
  show own_Go p.tables e below (T13.setTop (mkF m 42 #[.val (.int p0), .val (.int p1), .val (.int p2), .val (.int p3), .val (.int p4), .val (.int p5), .val (.ref b1), .unset, .unset, .unset, .unset, .unset] [(.int (p5 &&& (7 : Int32)))])) _
  refine own_by (fun _ kt => XS.iconst X13.here hx rfl (hb hby at_42) kt) ?_
  show own_Go p.tables e below (T13.setTop (mkF m 43 #[.val (.int p0), .val (.int p1), .val (.int p2), .val (.int p3), .val (.int p4), .val (.int p5), .val (.ref b1), .unset, .unset, .unset, .unset, .unset] [(.int (5 : Int32)), (.int (p5 &&& (7 : Int32)))])) _
  refine own_by (fun _ kt => iremM X13 hx rfl (hb hby at_43) rfl (by decide) kt) ?_
  show own_Go p.tables e below (T13.setTop (mkF m 44 #[.val (.int p0), .val (.int p1), .val (.int p2), .val (.int p3), .val (.int p4), .val (.int p5), .val (.ref b1), .unset, .unset, .unset, .unset, .unset] [(.int ((p5 &&& (7 : Int32)) % (5 : Int32)))])) _
  have h_ff := own_b7 p5
  generalize ((p5 &&& (7 : Int32)) % (5 : Int32)) = ff at h_ff ⊢
  show own_Go p.tables e below (T13.setTop (mkF m 44 #[.val (.int p0), .val (.int p1), .val (.int p2), .val (.int p3), .val (.int p4), .val (.int p5), .val (.ref b1), .unset, .unset, .unset, .unset, .unset] [(.int ff)])) _
  refine own_by (fun _ kt => XS.istore X13.here hx rfl (hb hby at_44) rfl (l' := #[.val (.int p0), .val (.int p1), .val (.int p2), .val (.int p3), .val (.int p4), .val (.int p5), .val (.ref b1), .val (.int ff), .unset, .unset, .unset, .unset]) rfl kt) ?_
  show own_Go p.tables e below (T13.setTop (mkF m 46 #[.val (.int p0), .val (.int p1), .val (.int p2), .val (.int p3), .val (.int p4), .val (.int p5), .val (.ref b1), .val (.int ff), .unset, .unset, .unset, .unset] [])) _
  refine own_by (fun _ kt => XS.iload X13.here hx rfl (hb hby at_46) rfl kt) ?_
  show own_Go p.tables e below (T13.setTop (mkF m 48 #[.val (.int p0), .val (.int p1), .val (.int p2), .val (.int p3), .val (.int p4), .val (.int p5), .val (.ref b1), .val (.int ff), .unset, .unset, .unset, .unset] [(.int p5)])) _
  refine own_by (fun _ kt => XS.iconst X13.here hx rfl (hb hby at_48) kt) ?_
  show own_Go p.tables e below (T13.setTop (mkF m 49 #[.val (.int p0), .val (.int p1), .val (.int p2), .val (.int p3), .val (.int p4), .val (.int p5), .val (.ref b1), .val (.int ff), .unset, .unset, .unset, .unset] [(.int (3 : Int32)), (.int p5)])) _
  refine own_by (fun _ kt => XS.iushr X13.here hx rfl (hb hby at_49) rfl kt) ?_
  show own_Go p.tables e below (T13.setTop (mkF m 50 #[.val (.int p0), .val (.int p1), .val (.int p2), .val (.int p3), .val (.int p4), .val (.int p5), .val (.ref b1), .val (.int ff), .unset, .unset, .unset, .unset] [(.int ((p5.toUInt32 >>> ((3 : Int32) &&& 31).toUInt32).toInt32))])) _
  refine own_by (fun _ kt => XS.bipush X13.here hx rfl (hb hby at_50) kt) ?_
  show own_Go p.tables e below (T13.setTop (mkF m 52 #[.val (.int p0), .val (.int p1), .val (.int p2), .val (.int p3), .val (.int p4), .val (.int p5), .val (.ref b1), .val (.int ff), .unset, .unset, .unset, .unset] [(.int (7 : Int32)), (.int ((p5.toUInt32 >>> ((3 : Int32) &&& 31).toUInt32).toInt32))])) _
  refine own_by (fun _ kt => XS.iand X13.here hx rfl (hb hby at_52) rfl kt) ?_
  show own_Go p.tables e below (T13.setTop (mkF m 53 #[.val (.int p0), .val (.int p1), .val (.int p2), .val (.int p3), .val (.int p4), .val (.int p5), .val (.ref b1), .val (.int ff), .unset, .unset, .unset, .unset] [(.int (((p5.toUInt32 >>> ((3 : Int32) &&& 31).toUInt32).toInt32) &&& (7 : Int32)))])) _
  refine own_by (fun _ kt => XS.iconst X13.here hx rfl (hb hby at_53) kt) ?_
  show own_Go p.tables e below (T13.setTop (mkF m 54 #[.val (.int p0), .val (.int p1), .val (.int p2), .val (.int p3), .val (.int p4), .val (.int p5), .val (.ref b1), .val (.int ff), .unset, .unset, .unset, .unset] [(.int (5 : Int32)), (.int (((p5.toUInt32 >>> ((3 : Int32) &&& 31).toUInt32).toInt32) &&& (7 : Int32)))])) _
  refine own_by (fun _ kt => iremM X13 hx rfl (hb hby at_54) rfl (by decide) kt) ?_
  show own_Go p.tables e below (T13.setTop (mkF m 55 #[.val (.int p0), .val (.int p1), .val (.int p2), .val (.int p3), .val (.int p4), .val (.int p5), .val (.ref b1), .val (.int ff), .unset, .unset, .unset, .unset] [(.int ((((p5.toUInt32 >>> ((3 : Int32) &&& 31).toUInt32).toInt32) &&& (7 : Int32)) % (5 : Int32)))])) _
  have h_tt := own_b7 ((p5.toUInt32 >>> ((3 : Int32) &&& 31).toUInt32).toInt32)
  generalize ((((p5.toUInt32 >>> ((3 : Int32) &&& 31).toUInt32).toInt32) &&& (7 : Int32)) % (5 : Int32)) = tt at h_tt ⊢
  show own_Go p.tables e below (T13.setTop (mkF m 55 #[.val (.int p0), .val (.int p1), .val (.int p2), .val (.int p3), .val (.int p4), .val (.int p5), .val (.ref b1), .val (.int ff), .unset, .unset, .unset, .unset] [(.int tt)])) _
  refine own_by (fun _ kt => XS.istore X13.here hx rfl (hb hby at_55) rfl (l' := #[.val (.int p0), .val (.int p1), .val (.int p2), .val (.int p3), .val (.int p4), .val (.int p5), .val (.ref b1), .val (.int ff), .val (.int tt), .unset, .unset, .unset]) rfl kt) ?_
  show own_Go p.tables e below (T13.setTop (mkF m 57 #[.val (.int p0), .val (.int p1), .val (.int p2), .val (.int p3), .val (.int p4), .val (.int p5), .val (.ref b1), .val (.int ff), .val (.int tt), .unset, .unset, .unset] [])) _
  obtain ⟨T15, h15, X15, e15, E15, A15, D15, -, st15⟩ := newO X13 hx hZ hown (hw _ (List.mem_of_getElem? (i := 5) rfl)) (hw _ (List.mem_of_getElem? (i := 6) rfl)) (hw _ (List.mem_of_getElem? (i := 7) rfl)) e13 (g := (mkF m 57 #[.val (.int p0), .val (.int p1), .val (.int p2), .val (.int p3), .val (.int p4), .val (.int p5), .val (.ref b1), .val (.int ff), .val (.int tt), .unset, .unset, .unset] [])) rfl (hb hby at_57) (by decide) (by decide)
  obtain ⟨b15, g15⟩ : ∃ z, z = h13.size := ⟨_, rfl⟩
  rw [← g15] at A15 D15 st15
  have gn_b15 : n0 ≤ b15 := Nat.le_trans Zs13 (Nat.le_of_eq g15.symm)
  have ne_b1_b15 : b1 ≠ b15 := Nat.ne_of_lt (Nat.lt_of_lt_of_le f14.lt (Nat.le_of_eq g15.symm))
  have f16 := f14.ext E15
  have Zs15 : n0 ≤ h15.size := Nat.le_trans Zs13 E15.1
  have f17 : Fld Z h15 b15 "com/example/ivaldi/ivaldi/io/TextPosition" "line" "I" (.int (0 : Int32)) := D15 (Or.inl (hw _ (List.mem_of_getElem? (i := 15) rfl))) (ty := .int) (by decide)
  have f18 : Fld Z h15 b15 "com/example/ivaldi/ivaldi/io/TextPosition" "column" "I" (.int (0 : Int32)) := D15 (Or.inl (hw _ (List.mem_of_getElem? (i := 17) rfl))) (ty := .int) (by decide)
  have f19 : Fld Z h15 b15 "com/example/ivaldi/ivaldi/io/TextPosition" "afterReturn" "Z" (.int (0 : Int32)) := D15 (Or.inl (hw _ (List.mem_of_getElem? (i := 24) rfl))) (ty := .boolean) (by decide)
  refine own_by st15 ?_
  show own_Go p.tables e below (T15.setTop (mkF m 60 #[.val (.int p0), .val (.int p1), .val (.int p2), .val (.int p3), .val (.int p4), .val (.int p5), .val (.ref b1), .val (.int ff), .val (.int tt), .unset, .unset, .unset] [(.ref b15)])) _
  refine own_by (fun _ kt => XS.dup X15.here hx rfl (hb hby at_60) rfl rfl kt) ?_
  show own_Go p.tables e below (T15.setTop (mkF m 61 #[.val (.int p0), .val (.int p1), .val (.int p2), .val (.int p3), .val (.int p4), .val (.int p5), .val (.ref b1), .val (.int ff), .val (.int tt), .unset, .unset, .unset] [(.ref b15), (.ref b15)])) _
  obtain ⟨_, _, ⟨T20, L20, k20, n20⟩, -, X20, ⟨Lc20, hQ20, l20, y20, z20⟩, st20⟩ := X15.specialBack hx (y := (⟨"com/example/ivaldi/ivaldi/io/TextPosition", "<init>", "()V"⟩ : MethodName)) rfl hown (mvT hZ (hw _ (List.mem_of_getElem? (i := 8) rfl))) (mvT hZ (hw _ (List.mem_of_getElem? (i := 9) rfl))) (mvT hZ (hw _ (List.mem_of_getElem? (i := 10) rfl))) (by decide) (backOf (W := 1) (rm_init l Z a0 hw [] b15  h15 n0 Zs15 f17 f18 f19 A15 gn_b15) hZ (hw _ (List.mem_of_getElem? (i := 10) rfl)) (hw _ (List.mem_of_getElem? (i := 7) rfl)) (by decide) (by decide)) (g := (mkF m 61 #[.val (.int p0), .val (.int p1), .val (.int p2), .val (.int p3), .val (.int p4), .val (.int p5), .val (.ref b1), .val (.int ff), .val (.int tt), .unset, .unset, .unset] [(.ref b15), (.ref b15)])) rfl (by rw [hml]; rfl) (Steps.refl _) (a := b15) (argsL := []) (rest := [(.ref b15)]) (lenOf pd_0 rfl) rfl (by show 2 * 0 + _ ≤ _; exact Nat.le_of_eq rfl) (hb hby at_61) (fun _ _ => ⟨rfl, e15, (by decide : 2 + 0 ≤ _), (by decide : 7 + 0 ≤ _)⟩)
  dsimp only [Pt.U, Pt.locs, Pt.cells, Pt.slots] at X20 l20 y20 z20 st20 hQ20
  subst l20 y20 z20
  obtain ⟨rfl, Nq20, K20, f20_0, f20_1, f20_2, f20_3⟩ := hQ20
  have f21 := f16.keep K20 (own_nin ne_b1_b15)
  have f22 := A15.keep K20
  have Zs20 : n0 ≤ T20.heap.size := Nat.le_trans Zs15 K20.1
  have N20 := Fr.app N13 Nq20
  refine own_by (fun _ kt => st20.trans kt) ?_
  show own_Go p.tables e below (T20.setTop (mkF m 64 #[.val (.int p0), .val (.int p1), .val (.int p2), .val (.int p3), .val (.int p4), .val (.int p5), .val (.ref b1), .val (.int ff), .val (.int tt), .unset, .unset, .unset] [(.ref b15)])) _
  refine own_by (fun _ kt => XS.astore X20.here hx rfl (hb hby at_64) rfl rfl (l' := #[.val (.int p0), .val (.int p1), .val (.int p2), .val (.int p3), .val (.int p4), .val (.int p5), .val (.ref b1), .val (.int ff), .val (.int tt), .val (.ref b15), .unset, .unset]) rfl kt) ?_
  show own_Go p.tables e below (T20.setTop (mkF m 66 #[.val (.int p0), .val (.int p1), .val (.int p2), .val (.int p3), .val (.int p4), .val (.int p5), .val (.ref b1), .val (.int ff), .val (.int tt), .val (.ref b15), .unset, .unset] [])) _
  refine own_by (fun _ kt => XS.aload X20.here hx rfl (hb hby at_66) rfl rfl kt) ?_
  show own_Go p.tables e below (T20.setTop (mkF m 68 #[.val (.int p0), .val (.int p1), .val (.int p2), .val (.int p3), .val (.int p4), .val (.int p5), .val (.ref b1), .val (.int ff), .val (.int tt), .val (.ref b15), .unset, .unset] [(.ref b15)])) _
  refine own_by (fun _ kt => XS.iload X20.here hx rfl (hb hby at_68) rfl kt) ?_
  show own_Go p.tables e below (T20.setTop (mkF m 70 #[.val (.int p0), .val (.int p1), .val (.int p2), .val (.int p3), .val (.int p4), .val (.int p5), .val (.ref b1), .val (.int ff), .val (.int tt), .val (.ref b15), .unset, .unset] [(.int p4), (.ref b15)])) _
  obtain ⟨_, _, ⟨T23, L23, k23, n23⟩, -, X23, ⟨Lc23, hQ23, l23, y23, z23⟩, st23⟩ := Jvm.LawKit.callS X20 hx (y := (⟨"com/example/ivaldi/ivaldi/io/TextPositionAdvancePinLaw", "pick", "(I)C"⟩ : MethodName)) hown (mvT hZ (hw _ (List.mem_of_getElem? (i := 1) rfl))) (mvT hZ (hw _ (List.mem_of_getElem? (i := 2) rfl))) (mvT hZ (hw _ (List.mem_of_getElem? (i := 3) rfl))) (mvT hZ (hw _ (List.mem_of_getElem? (i := 4) rfl))) (by decide) (backOf (W := 1) (rm_own_pick l Z a0 hw [] p4 T20.heap n0 Zs20) hZ (hw _ (List.mem_of_getElem? (i := 4) rfl)) (hw _ (List.mem_of_getElem? (i := 3) rfl)) (by decide) (by decide)) (g := (mkF m 70 #[.val (.int p0), .val (.int p1), .val (.int p2), .val (.int p3), .val (.int p4), .val (.int p5), .val (.ref b1), .val (.int ff), .val (.int tt), .val (.ref b15), .unset, .unset] [(.int p4), (.ref b15)])) rfl (by rw [hml]; rfl) (argsL := [(.int p4)]) (rest := [(.ref b15)]) (lenOf pd_1 rfl) rfl (by show 2 * 0 + _ ≤ _; exact Nat.le_of_eq rfl) (hb hby at_70) (fun _ _ => ⟨rfl, rfl, (by decide : 2 + 0 ≤ _), (by decide : 7 + 0 ≤ _)⟩)
  dsimp only [Pt.U, Pt.locs, Pt.cells, Pt.slots] at X23 l23 y23 z23 st23 hQ23
  subst l23 y23 z23
  obtain ⟨rfl, Nq23, eh23⟩ := hQ23
  have N23 := Fr.app N20 Nq23
  refine own_by (st23) ?_
  show own_Go p.tables e below (T23.setTop (mkF m 73 #[.val (.int p0), .val (.int p1), .val (.int p2), .val (.int p3), .val (.int p4), .val (.int p5), .val (.ref b1), .val (.int ff), .val (.int tt), .val (.ref b15), .unset, .unset] [(.int (own_pick p4)), (.ref b15)])) _
  obtain ⟨cq24, kq24, q24a, q24b, q24c⟩ := isOf hZ eh23 f20_0
  obtain ⟨_, _, ⟨T24, L24, k24, n24⟩, -, X24, ⟨Lc24, hQ24, l24, y24, z24⟩, st24⟩ := X23.virtualBack hx (y := (⟨"com/example/ivaldi/ivaldi/io/TextPosition", "advance", "(C)V"⟩ : MethodName)) (z := (⟨"com/example/ivaldi/ivaldi/io/TextPosition", "advance", "(C)V"⟩ : MethodName)) hown (mvT hZ (hw _ (List.mem_of_getElem? (i := 18) rfl))) (mvT hZ (hw _ (List.mem_of_getElem? (i := 19) rfl))) (notFace_of_selects (args := #[]) (mvT hZ (hw _ (List.mem_of_getElem? (i := 21) rfl)))) (mvT hZ (hw _ (List.mem_of_getElem? (i := 21) rfl))) (mvT hZ (hw _ (List.mem_of_getElem? (i := 20) rfl))) (by decide) (backOf (W := 0) (rm_adv l Z a0 hw [] b15 (own_pick p4) ((1 : Int32)) ((1 : Int32)) ((0 : Int32)) T20.heap n0 Zs20 f20_1 f20_2 f20_3 f20_0 gn_b15) hZ (hw _ (List.mem_of_getElem? (i := 22) rfl)) (hw _ (List.mem_of_getElem? (i := 7) rfl)) (by decide) (by decide)) q24a q24c (g := (mkF m 73 #[.val (.int p0), .val (.int p1), .val (.int p2), .val (.int p3), .val (.int p4), .val (.int p5), .val (.ref b1), .val (.int ff), .val (.int tt), .val (.ref b15), .unset, .unset] [(.int (own_pick p4)), (.ref b15)])) rfl (by rw [hml]; rfl) (Steps.refl _) (argsL := [(.int (own_pick p4))]) (rest := []) (lenOf pd_2 rfl) rfl (by show 2 * 0 + _ ≤ _; exact Nat.le_of_eq rfl) (hb hby at_73) (fun _ _ => ⟨rfl, eh23, (by decide : 2 + 0 ≤ _), (by decide : 7 + 0 ≤ _)⟩)
  dsimp only [Pt.U, Pt.locs, Pt.cells, Pt.slots] at X24 l24 y24 z24 st24 hQ24
  subst l24 y24 z24
  obtain ⟨rfl, Nq24, K24, f24_0, f24_1, f24_2, f24_3⟩ := hQ24
  have f25 := f21.keep K24 (own_nin ne_b1_b15)
  have f26 := f20_0.keep K24
  have Zs24 : n0 ≤ T24.heap.size := Nat.le_trans Zs20 K24.1
  have N24 := Fr.app N23 Nq24
  refine own_by (fun _ kt => st24.trans kt) ?_
  show own_Go p.tables e below (T24.setTop (mkF m 76 #[.val (.int p0), .val (.int p1), .val (.int p2), .val (.int p3), .val (.int p4), .val (.int p5), .val (.ref b1), .val (.int ff), .val (.int tt), .val (.ref b15), .unset, .unset] [])) _
  refine own_by (fun _ kt => XS.aload X24.here hx rfl (hb hby at_76) rfl rfl kt) ?_
  show own_Go p.tables e below (T24.setTop (mkF m 78 #[.val (.int p0), .val (.int p1), .val (.int p2), .val (.int p3), .val (.int p4), .val (.int p5), .val (.ref b1), .val (.int ff), .val (.int tt), .val (.ref b15), .unset, .unset] [(.ref b15)])) _
  obtain ⟨cq27, kq27, q27a, q27b, q27c⟩ := isOf hZ rfl f24_0
  obtain ⟨_, _, ⟨T27, L27, k27, n27⟩, -, X27, ⟨Lc27, hQ27, l27, y27, z27⟩, st27⟩ := X24.virtualBack hx (y := (⟨"com/example/ivaldi/ivaldi/io/TextPosition", "copy", "()Lcom/example/ivaldi/ivaldi/io/TextPosition;"⟩ : MethodName)) (z := (⟨"com/example/ivaldi/ivaldi/io/TextPosition", "copy", "()Lcom/example/ivaldi/ivaldi/io/TextPosition;"⟩ : MethodName)) hown (mvT hZ (hw _ (List.mem_of_getElem? (i := 25) rfl))) (mvT hZ (hw _ (List.mem_of_getElem? (i := 26) rfl))) (notFace_of_selects (args := #[]) (mvT hZ (hw _ (List.mem_of_getElem? (i := 28) rfl)))) (mvT hZ (hw _ (List.mem_of_getElem? (i := 28) rfl))) (mvT hZ (hw _ (List.mem_of_getElem? (i := 27) rfl))) (by decide) (backOf (W := 0) (rm_copy l Z a0 hw [] b15 ((own_ln (own_pick p4) (0 : Int32) (1 : Int32))) ((own_cl (own_pick p4) (0 : Int32) (1 : Int32))) ((own_ar (own_pick p4) (0 : Int32))) T24.heap n0 Zs24 f24_1 f24_2 f24_3 (own_arb _ _)) hZ (hw _ (List.mem_of_getElem? (i := 29) rfl)) (hw _ (List.mem_of_getElem? (i := 7) rfl)) (by decide) (by decide)) q27a q27c (g := (mkF m 78 #[.val (.int p0), .val (.int p1), .val (.int p2), .val (.int p3), .val (.int p4), .val (.int p5), .val (.ref b1), .val (.int ff), .val (.int tt), .val (.ref b15), .unset, .unset] [(.ref b15)])) rfl (by rw [hml]; rfl) (Steps.refl _) (argsL := []) (rest := []) (lenOf pd_3 rfl) rfl (by show 2 * 0 + _ ≤ _; exact Nat.le_of_eq rfl) (hb hby at_78) (fun _ _ => ⟨rfl, rfl, (by decide : 2 + 1 ≤ _), (by decide : 7 + 3 ≤ _)⟩)
  dsimp only [Pt.U, Pt.locs, Pt.cells, Pt.slots] at X27 l27 y27 z27 st27 hQ27
  subst l27 y27 z27
  obtain ⟨b27, rfl, Nq27, K27, gn_b27, szq_b27, f27_0, f27_1, f27_2, f27_3⟩ := hQ27
  have ne_b1_b27 : b1 ≠ b27 := Nat.ne_of_lt (Nat.lt_of_lt_of_le f25.lt szq_b27)
  have ne_b15_b27 : b15 ≠ b27 := Nat.ne_of_lt (Nat.lt_of_lt_of_le f24_0.lt szq_b27)
  have f28 := f25.keep K27 List.not_mem_nil
  have f29 := f24_0.keep K27
  have f30 := f24_1.keep K27 List.not_mem_nil
  have f31 := f24_2.keep K27 List.not_mem_nil
  have f32 := f24_3.keep K27 List.not_mem_nil
  have Zs27 : n0 ≤ T27.heap.size := Nat.le_trans Zs24 K27.1
  have N27 := Fr.app N24 Nq27
  refine own_by (fun _ kt => st27.trans kt) ?_
  show own_Go p.tables e below (T27.setTop (mkF m 81 #[.val (.int p0), .val (.int p1), .val (.int p2), .val (.int p3), .val (.int p4), .val (.int p5), .val (.ref b1), .val (.int ff), .val (.int tt), .val (.ref b15), .unset, .unset] [(.ref b27)])) _
  refine own_by (fun _ kt => XS.astore X27.here hx rfl (hb hby at_81) rfl rfl (l' := #[.val (.int p0), .val (.int p1), .val (.int p2), .val (.int p3), .val (.int p4), .val (.int p5), .val (.ref b1), .val (.int ff), .val (.int tt), .val (.ref b15), .val (.ref b27), .unset]) rfl kt) ?_
  show own_Go p.tables e below (T27.setTop (mkF m 83 #[.val (.int p0), .val (.int p1), .val (.int p2), .val (.int p3), .val (.int p4), .val (.int p5), .val (.ref b1), .val (.int ff), .val (.int tt), .val (.ref b15), .val (.ref b27), .unset] [])) _
  refine own_by (fun _ kt => XS.aload X27.here hx rfl (hb hby at_83) rfl rfl kt) ?_
  show own_Go p.tables e below (T27.setTop (mkF m 85 #[.val (.int p0), .val (.int p1), .val (.int p2), .val (.int p3), .val (.int p4), .val (.int p5), .val (.ref b1), .val (.int ff), .val (.int tt), .val (.ref b15), .val (.ref b27), .unset] [(.ref b15)])) _
  refine own_by (fun _ kt => XS.aload X27.here hx rfl (hb hby at_85) rfl rfl kt) ?_
  show own_Go p.tables e below (T27.setTop (mkF m 87 #[.val (.int p0), .val (.int p1), .val (.int p2), .val (.int p3), .val (.int p4), .val (.int p5), .val (.ref b1), .val (.int ff), .val (.int tt), .val (.ref b15), .val (.ref b27), .unset] [(.ref b1), (.ref b15)])) _
  refine own_by (fun _ kt => XS.iload X27.here hx rfl (hb hby at_87) rfl kt) ?_
  show own_Go p.tables e below (T27.setTop (mkF m 89 #[.val (.int p0), .val (.int p1), .val (.int p2), .val (.int p3), .val (.int p4), .val (.int p5), .val (.ref b1), .val (.int ff), .val (.int tt), .val (.ref b15), .val (.ref b27), .unset] [(.int ff), (.ref b1), (.ref b15)])) _
  refine own_by (fun _ kt => XS.iload X27.here hx rfl (hb hby at_89) rfl kt) ?_
  show own_Go p.tables e below (T27.setTop (mkF m 91 #[.val (.int p0), .val (.int p1), .val (.int p2), .val (.int p3), .val (.int p4), .val (.int p5), .val (.ref b1), .val (.int ff), .val (.int tt), .val (.ref b15), .val (.ref b27), .unset] [(.int tt), (.int ff), (.ref b1), (.ref b15)])) _
  obtain ⟨cq33, kq33, q33a, q33b, q33c⟩ := isOf hZ rfl f29
  obtain ⟨_, _, ⟨T33, L33, k33, n33⟩, -, X33, ⟨Lc33, hQ33, l33, y33, z33⟩, st33⟩ := X27.virtualBack hx (y := (⟨"com/example/ivaldi/ivaldi/io/TextPosition", "advance", "([CII)V"⟩ : MethodName)) (z := (⟨"com/example/ivaldi/ivaldi/io/TextPosition", "advance", "([CII)V"⟩ : MethodName)) hown (mvT hZ (hw _ (List.mem_of_getElem? (i := 32) rfl))) (mvT hZ (hw _ (List.mem_of_getElem? (i := 33) rfl))) (notFace_of_selects (args := #[]) (mvT hZ (hw _ (List.mem_of_getElem? (i := 35) rfl)))) (mvT hZ (hw _ (List.mem_of_getElem? (i := 35) rfl))) (mvT hZ (hw _ (List.mem_of_getElem? (i := 34) rfl))) (by decide) (backOf (W := 0) (rm_bulk l Z a0 hw [] b15 b1 ff tt ((own_ln (own_pick p4) (0 : Int32) (1 : Int32))) ((own_cl (own_pick p4) (0 : Int32) (1 : Int32))) ((own_ar (own_pick p4) (0 : Int32))) (k1) ((nar .char (own_pick p0))) ((nar .char (own_pick p1))) ((nar .char (own_pick p2))) ((nar .char (own_pick p3))) T27.heap n0 Zs27 f30 f31 f32 f29 gn_b15 f28 ne_b1_b15 h_ff.1 h_tt.2 (own_arb _ _)) hZ (hw _ (List.mem_of_getElem? (i := 36) rfl)) (hw _ (List.mem_of_getElem? (i := 7) rfl)) (by decide) (by decide)) q33a q33c (g := (mkF m 91 #[.val (.int p0), .val (.int p1), .val (.int p2), .val (.int p3), .val (.int p4), .val (.int p5), .val (.ref b1), .val (.int ff), .val (.int tt), .val (.ref b15), .val (.ref b27), .unset] [(.int tt), (.int ff), (.ref b1), (.ref b15)])) rfl (by rw [hml]; rfl) (Steps.refl _) (argsL := [(.ref b1), (.int ff), (.int tt)]) (rest := []) (lenOf pd_4 rfl) rfl (by show 2 * 0 + _ ≤ _; exact Nat.le_of_eq rfl) (hb hby at_91) (fun _ _ => ⟨rfl, rfl, (by decide : 3 + 0 ≤ _), (by decide : 10 + 0 ≤ _)⟩)
  dsimp only [Pt.U, Pt.locs, Pt.cells, Pt.slots] at X33 l33 y33 z33 st33 hQ33
  subst l33 y33 z33
  obtain ⟨rfl, Nq33, K33, f33_0, f33_1, f33_2, f33_3⟩ := hQ33
  have f34 := f28.keep K33 (own_nin ne_b1_b15)
  have f35 := f29.keep K33
  have f36 := f27_0.keep K33
  have f37 := f27_1.keep K33 (own_nin (Ne.symm ne_b15_b27))
  have f38 := f27_2.keep K33 (own_nin (Ne.symm ne_b15_b27))
  have f39 := f27_3.keep K33 (own_nin (Ne.symm ne_b15_b27))
  have Zs33 : n0 ≤ T33.heap.size := Nat.le_trans Zs27 K33.1
  have N33 := Fr.app N27 Nq33
  refine own_by (fun _ kt => st33.trans kt) ?_
  show own_Go p.tables e below (T33.setTop (mkF m 94 #[.val (.int p0), .val (.int p1), .val (.int p2), .val (.int p3), .val (.int p4), .val (.int p5), .val (.ref b1), .val (.int ff), .val (.int tt), .val (.ref b15), .val (.ref b27), .unset] [])) _
  have J40 : ∀ (hJ40 : Heap) (TJ40 : State) (lJ40 : List Loc) (XJ40 : Stand p l e room_1 s m #[(.int p0), (.int p1), (.int p2), (.int p3), (.int p4), (.int p5)] below meth c TJ40 lJ40 3 10) (eJ40 : TJ40.heap = hJ40) (NJ40 : Fr n0 lJ40) (ZJ40 : n0 ≤ hJ40.size) (fJ40_0 : Arv Z hJ40 b1 k1 .char (4 : Int32) [(.int (nar .char (own_pick p0))), (.int (nar .char (own_pick p1))), (.int (nar .char (own_pick p2))), (.int (nar .char (own_pick p3)))] (.int (0 : Int32))) (fJ40_1 : Exa Z hJ40 b27 "com/example/ivaldi/ivaldi/io/TextPosition") (fJ40_2 : Fld Z hJ40 b27 "com/example/ivaldi/ivaldi/io/TextPosition" "line" "I" (.int (own_st 0 ff tt (nar .char (own_pick p0)) (own_ln (own_pick p4) (0 : Int32) (1 : Int32), own_cl (own_pick p4) (0 : Int32) (1 : Int32), own_ar (own_pick p4) (0 : Int32))).1)) (fJ40_3 : Fld Z hJ40 b27 "com/example/ivaldi/ivaldi/io/TextPosition" "column" "I" (.int (own_st 0 ff tt (nar .char (own_pick p0)) (own_ln (own_pick p4) (0 : Int32) (1 : Int32), own_cl (own_pick p4) (0 : Int32) (1 : Int32), own_ar (own_pick p4) (0 : Int32))).2.1)) (fJ40_4 : Fld Z hJ40 b27 "com/example/ivaldi/ivaldi/io/TextPosition" "afterReturn" "Z" (.int (own_st 0 ff tt (nar .char (own_pick p0)) (own_ln (own_pick p4) (0 : Int32) (1 : Int32), own_cl (own_pick p4) (0 : Int32) (1 : Int32), own_ar (own_pick p4) (0 : Int32))).2.2)) (fJ40_5 : Exa Z hJ40 b15 "com/example/ivaldi/ivaldi/io/TextPosition") (fJ40_6 : Fld Z hJ40 b15 "com/example/ivaldi/ivaldi/io/TextPosition" "line" "I" (.int (own_run (nar .char (own_pick p0)) (nar .char (own_pick p1)) (nar .char (own_pick p2)) (nar .char (own_pick p3)) ((tt.toInt - ff.toInt).toNat) ff ((own_ln (own_pick p4) (0 : Int32) (1 : Int32)), (own_cl (own_pick p4) (0 : Int32) (1 : Int32)), (own_ar (own_pick p4) (0 : Int32)))).1)) (fJ40_7 : Fld Z hJ40 b15 "com/example/ivaldi/ivaldi/io/TextPosition" "column" "I" (.int (own_run (nar .char (own_pick p0)) (nar .char (own_pick p1)) (nar .char (own_pick p2)) (nar .char (own_pick p3)) ((tt.toInt - ff.toInt).toNat) ff ((own_ln (own_pick p4) (0 : Int32) (1 : Int32)), (own_cl (own_pick p4) (0 : Int32) (1 : Int32)), (own_ar (own_pick p4) (0 : Int32)))).2.1)) (fJ40_8 : Fld Z hJ40 b15 "com/example/ivaldi/ivaldi/io/TextPosition" "afterReturn" "Z" (.int (own_run (nar .char (own_pick p0)) (nar .char (own_pick p1)) (nar .char (own_pick p2)) (nar .char (own_pick p3)) ((tt.toInt - ff.toInt).toNat) ff ((own_ln (own_pick p4) (0 : Int32) (1 : Int32)), (own_cl (own_pick p4) (0 : Int32) (1 : Int32)), (own_ar (own_pick p4) (0 : Int32)))).2.2)) , own_Go p.tables e below (TJ40.setTop (mkF m 114 #[.val (.int p0), .val (.int p1), .val (.int p2), .val (.int p3), .val (.int p4), .val (.int p5), .val (.ref b1), .val (.int ff), .val (.int tt), .val (.ref b15), .val (.ref b27), .unset] [])) (own_R s (Q_rm_law Z p0 p1 p2 p3 p4 p5 h0 n0) 16 128) := by
    intro hJ40 TJ40 lJ40 XJ40 eJ40 NJ40 ZJ40 fJ40_0 fJ40_1 fJ40_2 fJ40_3 fJ40_4 fJ40_5 fJ40_6 fJ40_7 fJ40_8
    have J41 : ∀ (hJ41 : Heap) (TJ41 : State) (lJ41 : List Loc) (XJ41 : Stand p l e room_1 s m #[(.int p0), (.int p1), (.int p2), (.int p3), (.int p4), (.int p5)] below meth c TJ41 lJ41 3 10) (eJ41 : TJ41.heap = hJ41) (NJ41 : Fr n0 lJ41) (ZJ41 : n0 ≤ hJ41.size) (fJ41_0 : Arv Z hJ41 b1 k1 .char (4 : Int32) [(.int (nar .char (own_pick p0))), (.int (nar .char (own_pick p1))), (.int (nar .char (own_pick p2))), (.int (nar .char (own_pick p3)))] (.int (0 : Int32))) (fJ41_1 : Exa Z hJ41 b27 "com/example/ivaldi/ivaldi/io/TextPosition") (fJ41_2 : Fld Z hJ41 b27 "com/example/ivaldi/ivaldi/io/TextPosition" "line" "I" (.int (own_st 1 ff tt (nar .char (own_pick p1)) (own_st 0 ff tt (nar .char (own_pick p0)) (own_ln (own_pick p4) (0 : Int32) (1 : Int32), own_cl (own_pick p4) (0 : Int32) (1 : Int32), own_ar (own_pick p4) (0 : Int32)))).1)) (fJ41_3 : Fld Z hJ41 b27 "com/example/ivaldi/ivaldi/io/TextPosition" "column" "I" (.int (own_st 1 ff tt (nar .char (own_pick p1)) (own_st 0 ff tt (nar .char (own_pick p0)) (own_ln (own_pick p4) (0 : Int32) (1 : Int32), own_cl (own_pick p4) (0 : Int32) (1 : Int32), own_ar (own_pick p4) (0 : Int32)))).2.1)) (fJ41_4 : Fld Z hJ41 b27 "com/example/ivaldi/ivaldi/io/TextPosition" "afterReturn" "Z" (.int (own_st 1 ff tt (nar .char (own_pick p1)) (own_st 0 ff tt (nar .char (own_pick p0)) (own_ln (own_pick p4) (0 : Int32) (1 : Int32), own_cl (own_pick p4) (0 : Int32) (1 : Int32), own_ar (own_pick p4) (0 : Int32)))).2.2)) (fJ41_5 : Exa Z hJ41 b15 "com/example/ivaldi/ivaldi/io/TextPosition") (fJ41_6 : Fld Z hJ41 b15 "com/example/ivaldi/ivaldi/io/TextPosition" "line" "I" (.int (own_run (nar .char (own_pick p0)) (nar .char (own_pick p1)) (nar .char (own_pick p2)) (nar .char (own_pick p3)) ((tt.toInt - ff.toInt).toNat) ff ((own_ln (own_pick p4) (0 : Int32) (1 : Int32)), (own_cl (own_pick p4) (0 : Int32) (1 : Int32)), (own_ar (own_pick p4) (0 : Int32)))).1)) (fJ41_7 : Fld Z hJ41 b15 "com/example/ivaldi/ivaldi/io/TextPosition" "column" "I" (.int (own_run (nar .char (own_pick p0)) (nar .char (own_pick p1)) (nar .char (own_pick p2)) (nar .char (own_pick p3)) ((tt.toInt - ff.toInt).toNat) ff ((own_ln (own_pick p4) (0 : Int32) (1 : Int32)), (own_cl (own_pick p4) (0 : Int32) (1 : Int32)), (own_ar (own_pick p4) (0 : Int32)))).2.1)) (fJ41_8 : Fld Z hJ41 b15 "com/example/ivaldi/ivaldi/io/TextPosition" "afterReturn" "Z" (.int (own_run (nar .char (own_pick p0)) (nar .char (own_pick p1)) (nar .char (own_pick p2)) (nar .char (own_pick p3)) ((tt.toInt - ff.toInt).toNat) ff ((own_ln (own_pick p4) (0 : Int32) (1 : Int32)), (own_cl (own_pick p4) (0 : Int32) (1 : Int32)), (own_ar (own_pick p4) (0 : Int32)))).2.2)) , own_Go p.tables e below (TJ41.setTop (mkF m 135 #[.val (.int p0), .val (.int p1), .val (.int p2), .val (.int p3), .val (.int p4), .val (.int p5), .val (.ref b1), .val (.int ff), .val (.int tt), .val (.ref b15), .val (.ref b27), .unset] [])) (own_R s (Q_rm_law Z p0 p1 p2 p3 p4 p5 h0 n0) 16 128) := by
      intro hJ41 TJ41 lJ41 XJ41 eJ41 NJ41 ZJ41 fJ41_0 fJ41_1 fJ41_2 fJ41_3 fJ41_4 fJ41_5 fJ41_6 fJ41_7 fJ41_8
      have J42 : ∀ (hJ42 : Heap) (TJ42 : State) (lJ42 : List Loc) (XJ42 : Stand p l e room_1 s m #[(.int p0), (.int p1), (.int p2), (.int p3), (.int p4), (.int p5)] below meth c TJ42 lJ42 3 10) (eJ42 : TJ42.heap = hJ42) (NJ42 : Fr n0 lJ42) (ZJ42 : n0 ≤ hJ42.size) (fJ42_0 : Arv Z hJ42 b1 k1 .char (4 : Int32) [(.int (nar .char (own_pick p0))), (.int (nar .char (own_pick p1))), (.int (nar .char (own_pick p2))), (.int (nar .char (own_pick p3)))] (.int (0 : Int32))) (fJ42_1 : Exa Z hJ42 b27 "com/example/ivaldi/ivaldi/io/TextPosition") (fJ42_2 : Fld Z hJ42 b27 "com/example/ivaldi/ivaldi/io/TextPosition" "line" "I" (.int (own_st 2 ff tt (nar .char (own_pick p2)) (own_st 1 ff tt (nar .char (own_pick p1)) (own_st 0 ff tt (nar .char (own_pick p0)) (own_ln (own_pick p4) (0 : Int32) (1 : Int32), own_cl (own_pick p4) (0 : Int32) (1 : Int32), own_ar (own_pick p4) (0 : Int32))))).1)) (fJ42_3 : Fld Z hJ42 b27 "com/example/ivaldi/ivaldi/io/TextPosition" "column" "I" (.int (own_st 2 ff tt (nar .char (own_pick p2)) (own_st 1 ff tt (nar .char (own_pick p1)) (own_st 0 ff tt (nar .char (own_pick p0)) (own_ln (own_pick p4) (0 : Int32) (1 : Int32), own_cl (own_pick p4) (0 : Int32) (1 : Int32), own_ar (own_pick p4) (0 : Int32))))).2.1)) (fJ42_4 : Fld Z hJ42 b27 "com/example/ivaldi/ivaldi/io/TextPosition" "afterReturn" "Z" (.int (own_st 2 ff tt (nar .char (own_pick p2)) (own_st 1 ff tt (nar .char (own_pick p1)) (own_st 0 ff tt (nar .char (own_pick p0)) (own_ln (own_pick p4) (0 : Int32) (1 : Int32), own_cl (own_pick p4) (0 : Int32) (1 : Int32), own_ar (own_pick p4) (0 : Int32))))).2.2)) (fJ42_5 : Exa Z hJ42 b15 "com/example/ivaldi/ivaldi/io/TextPosition") (fJ42_6 : Fld Z hJ42 b15 "com/example/ivaldi/ivaldi/io/TextPosition" "line" "I" (.int (own_run (nar .char (own_pick p0)) (nar .char (own_pick p1)) (nar .char (own_pick p2)) (nar .char (own_pick p3)) ((tt.toInt - ff.toInt).toNat) ff ((own_ln (own_pick p4) (0 : Int32) (1 : Int32)), (own_cl (own_pick p4) (0 : Int32) (1 : Int32)), (own_ar (own_pick p4) (0 : Int32)))).1)) (fJ42_7 : Fld Z hJ42 b15 "com/example/ivaldi/ivaldi/io/TextPosition" "column" "I" (.int (own_run (nar .char (own_pick p0)) (nar .char (own_pick p1)) (nar .char (own_pick p2)) (nar .char (own_pick p3)) ((tt.toInt - ff.toInt).toNat) ff ((own_ln (own_pick p4) (0 : Int32) (1 : Int32)), (own_cl (own_pick p4) (0 : Int32) (1 : Int32)), (own_ar (own_pick p4) (0 : Int32)))).2.1)) (fJ42_8 : Fld Z hJ42 b15 "com/example/ivaldi/ivaldi/io/TextPosition" "afterReturn" "Z" (.int (own_run (nar .char (own_pick p0)) (nar .char (own_pick p1)) (nar .char (own_pick p2)) (nar .char (own_pick p3)) ((tt.toInt - ff.toInt).toNat) ff ((own_ln (own_pick p4) (0 : Int32) (1 : Int32)), (own_cl (own_pick p4) (0 : Int32) (1 : Int32)), (own_ar (own_pick p4) (0 : Int32)))).2.2)) , own_Go p.tables e below (TJ42.setTop (mkF m 156 #[.val (.int p0), .val (.int p1), .val (.int p2), .val (.int p3), .val (.int p4), .val (.int p5), .val (.ref b1), .val (.int ff), .val (.int tt), .val (.ref b15), .val (.ref b27), .unset] [])) (own_R s (Q_rm_law Z p0 p1 p2 p3 p4 p5 h0 n0) 16 128) := by
        intro hJ42 TJ42 lJ42 XJ42 eJ42 NJ42 ZJ42 fJ42_0 fJ42_1 fJ42_2 fJ42_3 fJ42_4 fJ42_5 fJ42_6 fJ42_7 fJ42_8
        have J43 : ∀ (hJ43 : Heap) (TJ43 : State) (lJ43 : List Loc) (XJ43 : Stand p l e room_1 s m #[(.int p0), (.int p1), (.int p2), (.int p3), (.int p4), (.int p5)] below meth c TJ43 lJ43 3 10) (eJ43 : TJ43.heap = hJ43) (NJ43 : Fr n0 lJ43) (ZJ43 : n0 ≤ hJ43.size) (fJ43_0 : Arv Z hJ43 b1 k1 .char (4 : Int32) [(.int (nar .char (own_pick p0))), (.int (nar .char (own_pick p1))), (.int (nar .char (own_pick p2))), (.int (nar .char (own_pick p3)))] (.int (0 : Int32))) (fJ43_1 : Exa Z hJ43 b27 "com/example/ivaldi/ivaldi/io/TextPosition") (fJ43_2 : Fld Z hJ43 b27 "com/example/ivaldi/ivaldi/io/TextPosition" "line" "I" (.int (own_st 3 ff tt (nar .char (own_pick p3)) (own_st 2 ff tt (nar .char (own_pick p2)) (own_st 1 ff tt (nar .char (own_pick p1)) (own_st 0 ff tt (nar .char (own_pick p0)) (own_ln (own_pick p4) (0 : Int32) (1 : Int32), own_cl (own_pick p4) (0 : Int32) (1 : Int32), own_ar (own_pick p4) (0 : Int32)))))).1)) (fJ43_3 : Fld Z hJ43 b27 "com/example/ivaldi/ivaldi/io/TextPosition" "column" "I" (.int (own_st 3 ff tt (nar .char (own_pick p3)) (own_st 2 ff tt (nar .char (own_pick p2)) (own_st 1 ff tt (nar .char (own_pick p1)) (own_st 0 ff tt (nar .char (own_pick p0)) (own_ln (own_pick p4) (0 : Int32) (1 : Int32), own_cl (own_pick p4) (0 : Int32) (1 : Int32), own_ar (own_pick p4) (0 : Int32)))))).2.1)) (fJ43_4 : Fld Z hJ43 b27 "com/example/ivaldi/ivaldi/io/TextPosition" "afterReturn" "Z" (.int (own_st 3 ff tt (nar .char (own_pick p3)) (own_st 2 ff tt (nar .char (own_pick p2)) (own_st 1 ff tt (nar .char (own_pick p1)) (own_st 0 ff tt (nar .char (own_pick p0)) (own_ln (own_pick p4) (0 : Int32) (1 : Int32), own_cl (own_pick p4) (0 : Int32) (1 : Int32), own_ar (own_pick p4) (0 : Int32)))))).2.2)) (fJ43_5 : Exa Z hJ43 b15 "com/example/ivaldi/ivaldi/io/TextPosition") (fJ43_6 : Fld Z hJ43 b15 "com/example/ivaldi/ivaldi/io/TextPosition" "line" "I" (.int (own_run (nar .char (own_pick p0)) (nar .char (own_pick p1)) (nar .char (own_pick p2)) (nar .char (own_pick p3)) ((tt.toInt - ff.toInt).toNat) ff ((own_ln (own_pick p4) (0 : Int32) (1 : Int32)), (own_cl (own_pick p4) (0 : Int32) (1 : Int32)), (own_ar (own_pick p4) (0 : Int32)))).1)) (fJ43_7 : Fld Z hJ43 b15 "com/example/ivaldi/ivaldi/io/TextPosition" "column" "I" (.int (own_run (nar .char (own_pick p0)) (nar .char (own_pick p1)) (nar .char (own_pick p2)) (nar .char (own_pick p3)) ((tt.toInt - ff.toInt).toNat) ff ((own_ln (own_pick p4) (0 : Int32) (1 : Int32)), (own_cl (own_pick p4) (0 : Int32) (1 : Int32)), (own_ar (own_pick p4) (0 : Int32)))).2.1)) (fJ43_8 : Fld Z hJ43 b15 "com/example/ivaldi/ivaldi/io/TextPosition" "afterReturn" "Z" (.int (own_run (nar .char (own_pick p0)) (nar .char (own_pick p1)) (nar .char (own_pick p2)) (nar .char (own_pick p3)) ((tt.toInt - ff.toInt).toNat) ff ((own_ln (own_pick p4) (0 : Int32) (1 : Int32)), (own_cl (own_pick p4) (0 : Int32) (1 : Int32)), (own_ar (own_pick p4) (0 : Int32)))).2.2)) , own_Go p.tables e below (TJ43.setTop (mkF m 177 #[.val (.int p0), .val (.int p1), .val (.int p2), .val (.int p3), .val (.int p4), .val (.int p5), .val (.ref b1), .val (.int ff), .val (.int tt), .val (.ref b15), .val (.ref b27), .unset] [])) (own_R s (Q_rm_law Z p0 p1 p2 p3 p4 p5 h0 n0) 16 128) := by
          intro hJ43 TJ43 lJ43 XJ43 eJ43 NJ43 ZJ43 fJ43_0 fJ43_1 fJ43_2 fJ43_3 fJ43_4 fJ43_5 fJ43_6 fJ43_7 fJ43_8
          refine own_by (fun _ kt => XS.aload XJ43.here hx rfl (hb hby at_177) rfl rfl kt) ?_
          show own_Go p.tables e below (TJ43.setTop (mkF m 179 #[.val (.int p0), .val (.int p1), .val (.int p2), .val (.int p3), .val (.int p4), .val (.int p5), .val (.ref b1), .val (.int ff), .val (.int tt), .val (.ref b15), .val (.ref b27), .unset] [(.ref b15)])) _
          obtain ⟨cq44, kq44, q44a, q44b, q44c⟩ := isOf hZ eJ43 fJ43_5
          obtain ⟨_, _, ⟨T44, L44, k44, n44⟩, -, X44, ⟨Lc44, hQ44, l44, y44, z44⟩, st44⟩ := XJ43.virtualBack hx (y := (⟨"com/example/ivaldi/ivaldi/io/TextPosition", "line", "()I"⟩ : MethodName)) (z := (⟨"com/example/ivaldi/ivaldi/io/TextPosition", "line", "()I"⟩ : MethodName)) hown (mvT hZ (hw _ (List.mem_of_getElem? (i := 37) rfl))) (mvT hZ (hw _ (List.mem_of_getElem? (i := 38) rfl))) (notFace_of_selects (args := #[]) (mvT hZ (hw _ (List.mem_of_getElem? (i := 40) rfl)))) (mvT hZ (hw _ (List.mem_of_getElem? (i := 40) rfl))) (mvT hZ (hw _ (List.mem_of_getElem? (i := 39) rfl))) (by decide) (backOf (W := 0) (rm_line l Z a0 hw [] b15 ((own_run (nar .char (own_pick p0)) (nar .char (own_pick p1)) (nar .char (own_pick p2)) (nar .char (own_pick p3)) ((tt.toInt - ff.toInt).toNat) ff ((own_ln (own_pick p4) (0 : Int32) (1 : Int32)), (own_cl (own_pick p4) (0 : Int32) (1 : Int32)), (own_ar (own_pick p4) (0 : Int32)))).1) hJ43 n0 ZJ43 fJ43_6) hZ (hw _ (List.mem_of_getElem? (i := 41) rfl)) (hw _ (List.mem_of_getElem? (i := 7) rfl)) (by decide) (by decide)) q44a q44c (g := (mkF m 179 #[.val (.int p0), .val (.int p1), .val (.int p2), .val (.int p3), .val (.int p4), .val (.int p5), .val (.ref b1), .val (.int ff), .val (.int tt), .val (.ref b15), .val (.ref b27), .unset] [(.ref b15)])) rfl (by rw [hml]; rfl) (Steps.refl _) (argsL := []) (rest := []) (lenOf pd_5 rfl) rfl (by show 2 * 0 + _ ≤ _; exact Nat.le_of_eq rfl) (hb hby at_179) (fun _ _ => ⟨rfl, eJ43, (by decide : 3 + 0 ≤ _), (by decide : 10 + 0 ≤ _)⟩)
          dsimp only [Pt.U, Pt.locs, Pt.cells, Pt.slots] at X44 l44 y44 z44 st44 hQ44
          subst l44 y44 z44
          obtain ⟨rfl, Nq44, eh44⟩ := hQ44
          have N44 := Fr.app NJ43 Nq44
          refine own_by (fun _ kt => st44.trans kt) ?_
          show own_Go p.tables e below (T44.setTop (mkF m 182 #[.val (.int p0), .val (.int p1), .val (.int p2), .val (.int p3), .val (.int p4), .val (.int p5), .val (.ref b1), .val (.int ff), .val (.int tt), .val (.ref b15), .val (.ref b27), .unset] [(.int (own_run (nar .char (own_pick p0)) (nar .char (own_pick p1)) (nar .char (own_pick p2)) (nar .char (own_pick p3)) ((tt.toInt - ff.toInt).toNat) ff ((own_ln (own_pick p4) (0 : Int32) (1 : Int32)), (own_cl (own_pick p4) (0 : Int32) (1 : Int32)), (own_ar (own_pick p4) (0 : Int32)))).1)])) _
          refine own_by (fun _ kt => XS.aload X44.here hx rfl (hb hby at_182) rfl rfl kt) ?_
          show own_Go p.tables e below (T44.setTop (mkF m 184 #[.val (.int p0), .val (.int p1), .val (.int p2), .val (.int p3), .val (.int p4), .val (.int p5), .val (.ref b1), .val (.int ff), .val (.int tt), .val (.ref b15), .val (.ref b27), .unset] [(.ref b27), (.int (own_run (nar .char (own_pick p0)) (nar .char (own_pick p1)) (nar .char (own_pick p2)) (nar .char (own_pick p3)) ((tt.toInt - ff.toInt).toNat) ff ((own_ln (own_pick p4) (0 : Int32) (1 : Int32)), (own_cl (own_pick p4) (0 : Int32) (1 : Int32)), (own_ar (own_pick p4) (0 : Int32)))).1)])) _
          obtain ⟨cq45, kq45, q45a, q45b, q45c⟩ := isOf hZ eh44 fJ43_1
          obtain ⟨_, _, ⟨T45, L45, k45, n45⟩, -, X45, ⟨Lc45, hQ45, l45, y45, z45⟩, st45⟩ := X44.virtualBack hx (y := (⟨"com/example/ivaldi/ivaldi/io/TextPosition", "line", "()I"⟩ : MethodName)) (z := (⟨"com/example/ivaldi/ivaldi/io/TextPosition", "line", "()I"⟩ : MethodName)) hown (mvT hZ (hw _ (List.mem_of_getElem? (i := 37) rfl))) (mvT hZ (hw _ (List.mem_of_getElem? (i := 38) rfl))) (notFace_of_selects (args := #[]) (mvT hZ (hw _ (List.mem_of_getElem? (i := 40) rfl)))) (mvT hZ (hw _ (List.mem_of_getElem? (i := 40) rfl))) (mvT hZ (hw _ (List.mem_of_getElem? (i := 39) rfl))) (by decide) (backOf (W := 1) (rm_line l Z a0 hw [] b27 ((own_st 3 ff tt (nar .char (own_pick p3)) (own_st 2 ff tt (nar .char (own_pick p2)) (own_st 1 ff tt (nar .char (own_pick p1)) (own_st 0 ff tt (nar .char (own_pick p0)) (own_ln (own_pick p4) (0 : Int32) (1 : Int32), own_cl (own_pick p4) (0 : Int32) (1 : Int32), own_ar (own_pick p4) (0 : Int32)))))).1) hJ43 n0 ZJ43 fJ43_2) hZ (hw _ (List.mem_of_getElem? (i := 41) rfl)) (hw _ (List.mem_of_getElem? (i := 7) rfl)) (by decide) (by decide)) q45a q45c (g := (mkF m 184 #[.val (.int p0), .val (.int p1), .val (.int p2), .val (.int p3), .val (.int p4), .val (.int p5), .val (.ref b1), .val (.int ff), .val (.int tt), .val (.ref b15), .val (.ref b27), .unset] [(.ref b27), (.int (own_run (nar .char (own_pick p0)) (nar .char (own_pick p1)) (nar .char (own_pick p2)) (nar .char (own_pick p3)) ((tt.toInt - ff.toInt).toNat) ff ((own_ln (own_pick p4) (0 : Int32) (1 : Int32)), (own_cl (own_pick p4) (0 : Int32) (1 : Int32)), (own_ar (own_pick p4) (0 : Int32)))).1)])) rfl (by rw [hml]; rfl) (Steps.refl _) (argsL := []) (rest := [(.int (own_run (nar .char (own_pick p0)) (nar .char (own_pick p1)) (nar .char (own_pick p2)) (nar .char (own_pick p3)) ((tt.toInt - ff.toInt).toNat) ff ((own_ln (own_pick p4) (0 : Int32) (1 : Int32)), (own_cl (own_pick p4) (0 : Int32) (1 : Int32)), (own_ar (own_pick p4) (0 : Int32)))).1)]) (lenOf pd_5 rfl) rfl (by show 2 * 0 + _ ≤ _; exact Nat.le_of_eq rfl) (hb hby at_184) (fun _ _ => ⟨rfl, eh44, (by decide : 3 + 0 ≤ _), (by decide : 10 + 0 ≤ _)⟩)
          dsimp only [Pt.U, Pt.locs, Pt.cells, Pt.slots] at X45 l45 y45 z45 st45 hQ45
          subst l45 y45 z45
          obtain ⟨rfl, Nq45, eh45⟩ := hQ45
          have N45 := Fr.app N44 Nq45
          refine own_by (fun _ kt => st45.trans kt) ?_
          show own_Go p.tables e below (T45.setTop (mkF m 187 #[.val (.int p0), .val (.int p1), .val (.int p2), .val (.int p3), .val (.int p4), .val (.int p5), .val (.ref b1), .val (.int ff), .val (.int tt), .val (.ref b15), .val (.ref b27), .unset] [(.int (own_st 3 ff tt (nar .char (own_pick p3)) (own_st 2 ff tt (nar .char (own_pick p2)) (own_st 1 ff tt (nar .char (own_pick p1)) (own_st 0 ff tt (nar .char (own_pick p0)) (own_ln (own_pick p4) (0 : Int32) (1 : Int32), own_cl (own_pick p4) (0 : Int32) (1 : Int32), own_ar (own_pick p4) (0 : Int32)))))).1), (.int (own_run (nar .char (own_pick p0)) (nar .char (own_pick p1)) (nar .char (own_pick p2)) (nar .char (own_pick p3)) ((tt.toInt - ff.toInt).toNat) ff ((own_ln (own_pick p4) (0 : Int32) (1 : Int32)), (own_cl (own_pick p4) (0 : Int32) (1 : Int32)), (own_ar (own_pick p4) (0 : Int32)))).1)])) _
          refine own_by (fun _ kt => XS.icmpNo X45.here hx rfl (hb hby at_187) rfl (teq (by rw [own_all _ _ _ _ ff tt _ h_ff h_tt] : (own_run (nar .char (own_pick p0)) (nar .char (own_pick p1)) (nar .char (own_pick p2)) (nar .char (own_pick p3)) ((tt.toInt - ff.toInt).toNat) ff ((own_ln (own_pick p4) (0 : Int32) (1 : Int32)), (own_cl (own_pick p4) (0 : Int32) (1 : Int32)), (own_ar (own_pick p4) (0 : Int32)))).1 = (own_st 3 ff tt (nar .char (own_pick p3)) (own_st 2 ff tt (nar .char (own_pick p2)) (own_st 1 ff tt (nar .char (own_pick p1)) (own_st 0 ff tt (nar .char (own_pick p0)) (own_ln (own_pick p4) (0 : Int32) (1 : Int32), own_cl (own_pick p4) (0 : Int32) (1 : Int32), own_ar (own_pick p4) (0 : Int32)))))).1)).2 kt) ?_
          show own_Go p.tables e below (T45.setTop (mkF m 190 #[.val (.int p0), .val (.int p1), .val (.int p2), .val (.int p3), .val (.int p4), .val (.int p5), .val (.ref b1), .val (.int ff), .val (.int tt), .val (.ref b15), .val (.ref b27), .unset] [])) _
          refine own_by (fun _ kt => XS.aload X45.here hx rfl (hb hby at_190) rfl rfl kt) ?_
          show own_Go p.tables e below (T45.setTop (mkF m 192 #[.val (.int p0), .val (.int p1), .val (.int p2), .val (.int p3), .val (.int p4), .val (.int p5), .val (.ref b1), .val (.int ff), .val (.int tt), .val (.ref b15), .val (.ref b27), .unset] [(.ref b15)])) _
          obtain ⟨cq46, kq46, q46a, q46b, q46c⟩ := isOf hZ eh45 fJ43_5
          obtain ⟨_, _, ⟨T46, L46, k46, n46⟩, -, X46, ⟨Lc46, hQ46, l46, y46, z46⟩, st46⟩ := X45.virtualBack hx (y := (⟨"com/example/ivaldi/ivaldi/io/TextPosition", "column", "()I"⟩ : MethodName)) (z := (⟨"com/example/ivaldi/ivaldi/io/TextPosition", "column", "()I"⟩ : MethodName)) hown (mvT hZ (hw _ (List.mem_of_getElem? (i := 42) rfl))) (mvT hZ (hw _ (List.mem_of_getElem? (i := 43) rfl))) (notFace_of_selects (args := #[]) (mvT hZ (hw _ (List.mem_of_getElem? (i := 45) rfl)))) (mvT hZ (hw _ (List.mem_of_getElem? (i := 45) rfl))) (mvT hZ (hw _ (List.mem_of_getElem? (i := 44) rfl))) (by decide) (backOf (W := 0) (rm_column l Z a0 hw [] b15 ((own_run (nar .char (own_pick p0)) (nar .char (own_pick p1)) (nar .char (own_pick p2)) (nar .char (own_pick p3)) ((tt.toInt - ff.toInt).toNat) ff ((own_ln (own_pick p4) (0 : Int32) (1 : Int32)), (own_cl (own_pick p4) (0 : Int32) (1 : Int32)), (own_ar (own_pick p4) (0 : Int32)))).2.1) hJ43 n0 ZJ43 fJ43_7) hZ (hw _ (List.mem_of_getElem? (i := 46) rfl)) (hw _ (List.mem_of_getElem? (i := 7) rfl)) (by decide) (by decide)) q46a q46c (g := (mkF m 192 #[.val (.int p0), .val (.int p1), .val (.int p2), .val (.int p3), .val (.int p4), .val (.int p5), .val (.ref b1), .val (.int ff), .val (.int tt), .val (.ref b15), .val (.ref b27), .unset] [(.ref b15)])) rfl (by rw [hml]; rfl) (Steps.refl _) (argsL := []) (rest := []) (lenOf pd_5 rfl) rfl (by show 2 * 0 + _ ≤ _; exact Nat.le_of_eq rfl) (hb hby at_192) (fun _ _ => ⟨rfl, eh45, (by decide : 3 + 0 ≤ _), (by decide : 10 + 0 ≤ _)⟩)
          dsimp only [Pt.U, Pt.locs, Pt.cells, Pt.slots] at X46 l46 y46 z46 st46 hQ46
          subst l46 y46 z46
          obtain ⟨rfl, Nq46, eh46⟩ := hQ46
          have N46 := Fr.app N45 Nq46
          refine own_by (fun _ kt => st46.trans kt) ?_
          show own_Go p.tables e below (T46.setTop (mkF m 195 #[.val (.int p0), .val (.int p1), .val (.int p2), .val (.int p3), .val (.int p4), .val (.int p5), .val (.ref b1), .val (.int ff), .val (.int tt), .val (.ref b15), .val (.ref b27), .unset] [(.int (own_run (nar .char (own_pick p0)) (nar .char (own_pick p1)) (nar .char (own_pick p2)) (nar .char (own_pick p3)) ((tt.toInt - ff.toInt).toNat) ff ((own_ln (own_pick p4) (0 : Int32) (1 : Int32)), (own_cl (own_pick p4) (0 : Int32) (1 : Int32)), (own_ar (own_pick p4) (0 : Int32)))).2.1)])) _
          refine own_by (fun _ kt => XS.aload X46.here hx rfl (hb hby at_195) rfl rfl kt) ?_
          show own_Go p.tables e below (T46.setTop (mkF m 197 #[.val (.int p0), .val (.int p1), .val (.int p2), .val (.int p3), .val (.int p4), .val (.int p5), .val (.ref b1), .val (.int ff), .val (.int tt), .val (.ref b15), .val (.ref b27), .unset] [(.ref b27), (.int (own_run (nar .char (own_pick p0)) (nar .char (own_pick p1)) (nar .char (own_pick p2)) (nar .char (own_pick p3)) ((tt.toInt - ff.toInt).toNat) ff ((own_ln (own_pick p4) (0 : Int32) (1 : Int32)), (own_cl (own_pick p4) (0 : Int32) (1 : Int32)), (own_ar (own_pick p4) (0 : Int32)))).2.1)])) _
          obtain ⟨cq47, kq47, q47a, q47b, q47c⟩ := isOf hZ eh46 fJ43_1
          obtain ⟨_, _, ⟨T47, L47, k47, n47⟩, -, X47, ⟨Lc47, hQ47, l47, y47, z47⟩, st47⟩ := X46.virtualBack hx (y := (⟨"com/example/ivaldi/ivaldi/io/TextPosition", "column", "()I"⟩ : MethodName)) (z := (⟨"com/example/ivaldi/ivaldi/io/TextPosition", "column", "()I"⟩ : MethodName)) hown (mvT hZ (hw _ (List.mem_of_getElem? (i := 42) rfl))) (mvT hZ (hw _ (List.mem_of_getElem? (i := 43) rfl))) (notFace_of_selects (args := #[]) (mvT hZ (hw _ (List.mem_of_getElem? (i := 45) rfl)))) (mvT hZ (hw _ (List.mem_of_getElem? (i := 45) rfl))) (mvT hZ (hw _ (List.mem_of_getElem? (i := 44) rfl))) (by decide) (backOf (W := 1) (rm_column l Z a0 hw [] b27 ((own_st 3 ff tt (nar .char (own_pick p3)) (own_st 2 ff tt (nar .char (own_pick p2)) (own_st 1 ff tt (nar .char (own_pick p1)) (own_st 0 ff tt (nar .char (own_pick p0)) (own_ln (own_pick p4) (0 : Int32) (1 : Int32), own_cl (own_pick p4) (0 : Int32) (1 : Int32), own_ar (own_pick p4) (0 : Int32)))))).2.1) hJ43 n0 ZJ43 fJ43_3) hZ (hw _ (List.mem_of_getElem? (i := 46) rfl)) (hw _ (List.mem_of_getElem? (i := 7) rfl)) (by decide) (by decide)) q47a q47c (g := (mkF m 197 #[.val (.int p0), .val (.int p1), .val (.int p2), .val (.int p3), .val (.int p4), .val (.int p5), .val (.ref b1), .val (.int ff), .val (.int tt), .val (.ref b15), .val (.ref b27), .unset] [(.ref b27), (.int (own_run (nar .char (own_pick p0)) (nar .char (own_pick p1)) (nar .char (own_pick p2)) (nar .char (own_pick p3)) ((tt.toInt - ff.toInt).toNat) ff ((own_ln (own_pick p4) (0 : Int32) (1 : Int32)), (own_cl (own_pick p4) (0 : Int32) (1 : Int32)), (own_ar (own_pick p4) (0 : Int32)))).2.1)])) rfl (by rw [hml]; rfl) (Steps.refl _) (argsL := []) (rest := [(.int (own_run (nar .char (own_pick p0)) (nar .char (own_pick p1)) (nar .char (own_pick p2)) (nar .char (own_pick p3)) ((tt.toInt - ff.toInt).toNat) ff ((own_ln (own_pick p4) (0 : Int32) (1 : Int32)), (own_cl (own_pick p4) (0 : Int32) (1 : Int32)), (own_ar (own_pick p4) (0 : Int32)))).2.1)]) (lenOf pd_5 rfl) rfl (by show 2 * 0 + _ ≤ _; exact Nat.le_of_eq rfl) (hb hby at_197) (fun _ _ => ⟨rfl, eh46, (by decide : 3 + 0 ≤ _), (by decide : 10 + 0 ≤ _)⟩)
          dsimp only [Pt.U, Pt.locs, Pt.cells, Pt.slots] at X47 l47 y47 z47 st47 hQ47
          subst l47 y47 z47
          obtain ⟨rfl, Nq47, eh47⟩ := hQ47
          have N47 := Fr.app N46 Nq47
          refine own_by (fun _ kt => st47.trans kt) ?_
          show own_Go p.tables e below (T47.setTop (mkF m 200 #[.val (.int p0), .val (.int p1), .val (.int p2), .val (.int p3), .val (.int p4), .val (.int p5), .val (.ref b1), .val (.int ff), .val (.int tt), .val (.ref b15), .val (.ref b27), .unset] [(.int (own_st 3 ff tt (nar .char (own_pick p3)) (own_st 2 ff tt (nar .char (own_pick p2)) (own_st 1 ff tt (nar .char (own_pick p1)) (own_st 0 ff tt (nar .char (own_pick p0)) (own_ln (own_pick p4) (0 : Int32) (1 : Int32), own_cl (own_pick p4) (0 : Int32) (1 : Int32), own_ar (own_pick p4) (0 : Int32)))))).2.1), (.int (own_run (nar .char (own_pick p0)) (nar .char (own_pick p1)) (nar .char (own_pick p2)) (nar .char (own_pick p3)) ((tt.toInt - ff.toInt).toNat) ff ((own_ln (own_pick p4) (0 : Int32) (1 : Int32)), (own_cl (own_pick p4) (0 : Int32) (1 : Int32)), (own_ar (own_pick p4) (0 : Int32)))).2.1)])) _
          refine own_by (fun _ kt => XS.icmpNo X47.here hx rfl (hb hby at_200) rfl (teq (by rw [own_all _ _ _ _ ff tt _ h_ff h_tt] : (own_run (nar .char (own_pick p0)) (nar .char (own_pick p1)) (nar .char (own_pick p2)) (nar .char (own_pick p3)) ((tt.toInt - ff.toInt).toNat) ff ((own_ln (own_pick p4) (0 : Int32) (1 : Int32)), (own_cl (own_pick p4) (0 : Int32) (1 : Int32)), (own_ar (own_pick p4) (0 : Int32)))).2.1 = (own_st 3 ff tt (nar .char (own_pick p3)) (own_st 2 ff tt (nar .char (own_pick p2)) (own_st 1 ff tt (nar .char (own_pick p1)) (own_st 0 ff tt (nar .char (own_pick p0)) (own_ln (own_pick p4) (0 : Int32) (1 : Int32), own_cl (own_pick p4) (0 : Int32) (1 : Int32), own_ar (own_pick p4) (0 : Int32)))))).2.1)).2 kt) ?_
          show own_Go p.tables e below (T47.setTop (mkF m 203 #[.val (.int p0), .val (.int p1), .val (.int p2), .val (.int p3), .val (.int p4), .val (.int p5), .val (.ref b1), .val (.int ff), .val (.int tt), .val (.ref b15), .val (.ref b27), .unset] [])) _
          refine own_by (fun _ kt => XS.iconst X47.here hx rfl (hb hby at_203) kt) ?_
          show own_Go p.tables e below (T47.setTop (mkF m 204 #[.val (.int p0), .val (.int p1), .val (.int p2), .val (.int p3), .val (.int p4), .val (.int p5), .val (.ref b1), .val (.int ff), .val (.int tt), .val (.ref b15), .val (.ref b27), .unset] [(.int (1 : Int32))])) _
          refine own_by (fun _ kt => XS.goto X47.here hx rfl (pc0 := 204) (pc' := 208) rfl (hb hby at_204) (by decide) (by decide) kt) ?_
          show own_Go p.tables e below (T47.setTop (mkF m 208 #[.val (.int p0), .val (.int p1), .val (.int p2), .val (.int p3), .val (.int p4), .val (.int p5), .val (.ref b1), .val (.int ff), .val (.int tt), .val (.ref b15), .val (.ref b27), .unset] [(.int (1 : Int32))])) _
          refine own_by (fun _ kt => XS.istore X47.here hx rfl (hb hby at_208) rfl (l' := #[.val (.int p0), .val (.int p1), .val (.int p2), .val (.int p3), .val (.int p4), .val (.int p5), .val (.ref b1), .val (.int ff), .val (.int tt), .val (.ref b15), .val (.ref b27), .val (.int (1 : Int32))]) rfl kt) ?_
          show own_Go p.tables e below (T47.setTop (mkF m 210 #[.val (.int p0), .val (.int p1), .val (.int p2), .val (.int p3), .val (.int p4), .val (.int p5), .val (.ref b1), .val (.int ff), .val (.int tt), .val (.ref b15), .val (.ref b27), .val (.int (1 : Int32))] [])) _
          refine own_by (fun _ kt => XS.aload X47.here hx rfl (hb hby at_210) rfl rfl kt) ?_
          show own_Go p.tables e below (T47.setTop (mkF m 212 #[.val (.int p0), .val (.int p1), .val (.int p2), .val (.int p3), .val (.int p4), .val (.int p5), .val (.ref b1), .val (.int ff), .val (.int tt), .val (.ref b15), .val (.ref b27), .val (.int (1 : Int32))] [(.ref b15)])) _
          refine own_by (fun _ kt => XS.bipush X47.here hx rfl (hb hby at_212) kt) ?_
          show own_Go p.tables e below (T47.setTop (mkF m 214 #[.val (.int p0), .val (.int p1), .val (.int p2), .val (.int p3), .val (.int p4), .val (.int p5), .val (.ref b1), .val (.int ff), .val (.int tt), .val (.ref b15), .val (.ref b27), .val (.int (1 : Int32))] [(.int (10 : Int32)), (.ref b15)])) _
          obtain ⟨cq48, kq48, q48a, q48b, q48c⟩ := isOf hZ eh47 fJ43_5
          obtain ⟨_, _, ⟨T48, L48, k48, n48⟩, -, X48, ⟨Lc48, hQ48, l48, y48, z48⟩, st48⟩ := X47.virtualBack hx (y := (⟨"com/example/ivaldi/ivaldi/io/TextPosition", "advance", "(C)V"⟩ : MethodName)) (z := (⟨"com/example/ivaldi/ivaldi/io/TextPosition", "advance", "(C)V"⟩ : MethodName)) hown (mvT hZ (hw _ (List.mem_of_getElem? (i := 18) rfl))) (mvT hZ (hw _ (List.mem_of_getElem? (i := 19) rfl))) (notFace_of_selects (args := #[]) (mvT hZ (hw _ (List.mem_of_getElem? (i := 21) rfl)))) (mvT hZ (hw _ (List.mem_of_getElem? (i := 21) rfl))) (mvT hZ (hw _ (List.mem_of_getElem? (i := 20) rfl))) (by decide) (backOf (W := 0) (rm_adv l Z a0 hw [] b15 (10 : Int32) ((own_run (nar .char (own_pick p0)) (nar .char (own_pick p1)) (nar .char (own_pick p2)) (nar .char (own_pick p3)) ((tt.toInt - ff.toInt).toNat) ff ((own_ln (own_pick p4) (0 : Int32) (1 : Int32)), (own_cl (own_pick p4) (0 : Int32) (1 : Int32)), (own_ar (own_pick p4) (0 : Int32)))).1) ((own_run (nar .char (own_pick p0)) (nar .char (own_pick p1)) (nar .char (own_pick p2)) (nar .char (own_pick p3)) ((tt.toInt - ff.toInt).toNat) ff ((own_ln (own_pick p4) (0 : Int32) (1 : Int32)), (own_cl (own_pick p4) (0 : Int32) (1 : Int32)), (own_ar (own_pick p4) (0 : Int32)))).2.1) ((own_run (nar .char (own_pick p0)) (nar .char (own_pick p1)) (nar .char (own_pick p2)) (nar .char (own_pick p3)) ((tt.toInt - ff.toInt).toNat) ff ((own_ln (own_pick p4) (0 : Int32) (1 : Int32)), (own_cl (own_pick p4) (0 : Int32) (1 : Int32)), (own_ar (own_pick p4) (0 : Int32)))).2.2) hJ43 n0 ZJ43 fJ43_6 fJ43_7 fJ43_8 fJ43_5 gn_b15) hZ (hw _ (List.mem_of_getElem? (i := 22) rfl)) (hw _ (List.mem_of_getElem? (i := 7) rfl)) (by decide) (by decide)) q48a q48c (g := (mkF m 214 #[.val (.int p0), .val (.int p1), .val (.int p2), .val (.int p3), .val (.int p4), .val (.int p5), .val (.ref b1), .val (.int ff), .val (.int tt), .val (.ref b15), .val (.ref b27), .val (.int (1 : Int32))] [(.int (10 : Int32)), (.ref b15)])) rfl (by rw [hml]; rfl) (Steps.refl _) (argsL := [(.int (10 : Int32))]) (rest := []) (lenOf pd_2 rfl) rfl (by show 2 * 0 + _ ≤ _; exact Nat.le_of_eq rfl) (hb hby at_214) (fun _ _ => ⟨rfl, eh47, (by decide : 3 + 0 ≤ _), (by decide : 10 + 0 ≤ _)⟩)
          dsimp only [Pt.U, Pt.locs, Pt.cells, Pt.slots] at X48 l48 y48 z48 st48 hQ48
          subst l48 y48 z48
          obtain ⟨rfl, Nq48, K48, f48_0, f48_1, f48_2, f48_3⟩ := hQ48
          have f49 := fJ43_0.keep K48 (own_nin ne_b1_b15)
          have f50 := fJ43_1.keep K48
          have f51 := fJ43_2.keep K48 (own_nin (Ne.symm ne_b15_b27))
          have f52 := fJ43_3.keep K48 (own_nin (Ne.symm ne_b15_b27))
          have f53 := fJ43_4.keep K48 (own_nin (Ne.symm ne_b15_b27))
          have f54 := fJ43_5.keep K48
          have Zs48 : n0 ≤ T48.heap.size := Nat.le_trans ZJ43 K48.1
          have N48 := Fr.app N47 Nq48
          refine own_by (fun _ kt => st48.trans kt) ?_
          show own_Go p.tables e below (T48.setTop (mkF m 217 #[.val (.int p0), .val (.int p1), .val (.int p2), .val (.int p3), .val (.int p4), .val (.int p5), .val (.ref b1), .val (.int ff), .val (.int tt), .val (.ref b15), .val (.ref b27), .val (.int (1 : Int32))] [])) _
          refine own_by (fun _ kt => XS.aload X48.here hx rfl (hb hby at_217) rfl rfl kt) ?_
          show own_Go p.tables e below (T48.setTop (mkF m 219 #[.val (.int p0), .val (.int p1), .val (.int p2), .val (.int p3), .val (.int p4), .val (.int p5), .val (.ref b1), .val (.int ff), .val (.int tt), .val (.ref b15), .val (.ref b27), .val (.int (1 : Int32))] [(.ref b27)])) _
          refine own_by (fun _ kt => XS.bipush X48.here hx rfl (hb hby at_219) kt) ?_
          show own_Go p.tables e below (T48.setTop (mkF m 221 #[.val (.int p0), .val (.int p1), .val (.int p2), .val (.int p3), .val (.int p4), .val (.int p5), .val (.ref b1), .val (.int ff), .val (.int tt), .val (.ref b15), .val (.ref b27), .val (.int (1 : Int32))] [(.int (10 : Int32)), (.ref b27)])) _
          obtain ⟨cq55, kq55, q55a, q55b, q55c⟩ := isOf hZ rfl f50
          obtain ⟨_, _, ⟨T55, L55, k55, n55⟩, -, X55, ⟨Lc55, hQ55, l55, y55, z55⟩, st55⟩ := X48.virtualBack hx (y := (⟨"com/example/ivaldi/ivaldi/io/TextPosition", "advance", "(C)V"⟩ : MethodName)) (z := (⟨"com/example/ivaldi/ivaldi/io/TextPosition", "advance", "(C)V"⟩ : MethodName)) hown (mvT hZ (hw _ (List.mem_of_getElem? (i := 18) rfl))) (mvT hZ (hw _ (List.mem_of_getElem? (i := 19) rfl))) (notFace_of_selects (args := #[]) (mvT hZ (hw _ (List.mem_of_getElem? (i := 21) rfl)))) (mvT hZ (hw _ (List.mem_of_getElem? (i := 21) rfl))) (mvT hZ (hw _ (List.mem_of_getElem? (i := 20) rfl))) (by decide) (backOf (W := 0) (rm_adv l Z a0 hw [] b27 (10 : Int32) ((own_st 3 ff tt (nar .char (own_pick p3)) (own_st 2 ff tt (nar .char (own_pick p2)) (own_st 1 ff tt (nar .char (own_pick p1)) (own_st 0 ff tt (nar .char (own_pick p0)) (own_ln (own_pick p4) (0 : Int32) (1 : Int32), own_cl (own_pick p4) (0 : Int32) (1 : Int32), own_ar (own_pick p4) (0 : Int32)))))).1) ((own_st 3 ff tt (nar .char (own_pick p3)) (own_st 2 ff tt (nar .char (own_pick p2)) (own_st 1 ff tt (nar .char (own_pick p1)) (own_st 0 ff tt (nar .char (own_pick p0)) (own_ln (own_pick p4) (0 : Int32) (1 : Int32), own_cl (own_pick p4) (0 : Int32) (1 : Int32), own_ar (own_pick p4) (0 : Int32)))))).2.1) ((own_st 3 ff tt (nar .char (own_pick p3)) (own_st 2 ff tt (nar .char (own_pick p2)) (own_st 1 ff tt (nar .char (own_pick p1)) (own_st 0 ff tt (nar .char (own_pick p0)) (own_ln (own_pick p4) (0 : Int32) (1 : Int32), own_cl (own_pick p4) (0 : Int32) (1 : Int32), own_ar (own_pick p4) (0 : Int32)))))).2.2) T48.heap n0 Zs48 f51 f52 f53 f50 gn_b27) hZ (hw _ (List.mem_of_getElem? (i := 22) rfl)) (hw _ (List.mem_of_getElem? (i := 7) rfl)) (by decide) (by decide)) q55a q55c (g := (mkF m 221 #[.val (.int p0), .val (.int p1), .val (.int p2), .val (.int p3), .val (.int p4), .val (.int p5), .val (.ref b1), .val (.int ff), .val (.int tt), .val (.ref b15), .val (.ref b27), .val (.int (1 : Int32))] [(.int (10 : Int32)), (.ref b27)])) rfl (by rw [hml]; rfl) (Steps.refl _) (argsL := [(.int (10 : Int32))]) (rest := []) (lenOf pd_2 rfl) rfl (by show 2 * 0 + _ ≤ _; exact Nat.le_of_eq rfl) (hb hby at_221) (fun _ _ => ⟨rfl, rfl, (by decide : 3 + 0 ≤ _), (by decide : 10 + 0 ≤ _)⟩)
          dsimp only [Pt.U, Pt.locs, Pt.cells, Pt.slots] at X55 l55 y55 z55 st55 hQ55
          subst l55 y55 z55
          obtain ⟨rfl, Nq55, K55, f55_0, f55_1, f55_2, f55_3⟩ := hQ55
          have f56 := f49.keep K55 (own_nin ne_b1_b27)
          have f57 := f50.keep K55
          have f58 := f48_0.keep K55
          have f59 := f48_1.keep K55 (own_nin ne_b15_b27)
          have f60 := f48_2.keep K55 (own_nin ne_b15_b27)
          have f61 := f48_3.keep K55 (own_nin ne_b15_b27)
          have Zs55 : n0 ≤ T55.heap.size := Nat.le_trans Zs48 K55.1
          have N55 := Fr.app N48 Nq55
          refine own_by (fun _ kt => st55.trans kt) ?_
          show own_Go p.tables e below (T55.setTop (mkF m 224 #[.val (.int p0), .val (.int p1), .val (.int p2), .val (.int p3), .val (.int p4), .val (.int p5), .val (.ref b1), .val (.int ff), .val (.int tt), .val (.ref b15), .val (.ref b27), .val (.int (1 : Int32))] [])) _
          refine own_by (fun _ kt => XS.iload X55.here hx rfl (hb hby at_224) rfl kt) ?_
          show own_Go p.tables e below (T55.setTop (mkF m 226 #[.val (.int p0), .val (.int p1), .val (.int p2), .val (.int p3), .val (.int p4), .val (.int p5), .val (.ref b1), .val (.int ff), .val (.int tt), .val (.ref b15), .val (.ref b27), .val (.int (1 : Int32))] [(.int (1 : Int32))])) _
          refine own_by (fun _ kt => XS.ifNo X55.here hx rfl (hb hby at_226) rfl ((if0 _ _).trans (feq (by decide : ¬ ((1 : Int32) = (0 : Int32)))).1) kt) ?_
          show own_Go p.tables e below (T55.setTop (mkF m 229 #[.val (.int p0), .val (.int p1), .val (.int p2), .val (.int p3), .val (.int p4), .val (.int p5), .val (.ref b1), .val (.int ff), .val (.int tt), .val (.ref b15), .val (.ref b27), .val (.int (1 : Int32))] [])) _
          refine own_by (fun _ kt => XS.aload X55.here hx rfl (hb hby at_229) rfl rfl kt) ?_
          show own_Go p.tables e below (T55.setTop (mkF m 231 #[.val (.int p0), .val (.int p1), .val (.int p2), .val (.int p3), .val (.int p4), .val (.int p5), .val (.ref b1), .val (.int ff), .val (.int tt), .val (.ref b15), .val (.ref b27), .val (.int (1 : Int32))] [(.ref b15)])) _
          obtain ⟨cq62, kq62, q62a, q62b, q62c⟩ := isOf hZ rfl f58
          obtain ⟨_, _, ⟨T62, L62, k62, n62⟩, -, X62, ⟨Lc62, hQ62, l62, y62, z62⟩, st62⟩ := X55.virtualBack hx (y := (⟨"com/example/ivaldi/ivaldi/io/TextPosition", "line", "()I"⟩ : MethodName)) (z := (⟨"com/example/ivaldi/ivaldi/io/TextPosition", "line", "()I"⟩ : MethodName)) hown (mvT hZ (hw _ (List.mem_of_getElem? (i := 37) rfl))) (mvT hZ (hw _ (List.mem_of_getElem? (i := 38) rfl))) (notFace_of_selects (args := #[]) (mvT hZ (hw _ (List.mem_of_getElem? (i := 40) rfl)))) (mvT hZ (hw _ (List.mem_of_getElem? (i := 40) rfl))) (mvT hZ (hw _ (List.mem_of_getElem? (i := 39) rfl))) (by decide) (backOf (W := 0) (rm_line l Z a0 hw [] b15 ((own_ln (10 : Int32) (own_run (nar .char (own_pick p0)) (nar .char (own_pick p1)) (nar .char (own_pick p2)) (nar .char (own_pick p3)) ((tt.toInt - ff.toInt).toNat) ff ((own_ln (own_pick p4) (0 : Int32) (1 : Int32)), (own_cl (own_pick p4) (0 : Int32) (1 : Int32)), (own_ar (own_pick p4) (0 : Int32)))).2.2 (own_run (nar .char (own_pick p0)) (nar .char (own_pick p1)) (nar .char (own_pick p2)) (nar .char (own_pick p3)) ((tt.toInt - ff.toInt).toNat) ff ((own_ln (own_pick p4) (0 : Int32) (1 : Int32)), (own_cl (own_pick p4) (0 : Int32) (1 : Int32)), (own_ar (own_pick p4) (0 : Int32)))).1)) T55.heap n0 Zs55 f59) hZ (hw _ (List.mem_of_getElem? (i := 41) rfl)) (hw _ (List.mem_of_getElem? (i := 7) rfl)) (by decide) (by decide)) q62a q62c (g := (mkF m 231 #[.val (.int p0), .val (.int p1), .val (.int p2), .val (.int p3), .val (.int p4), .val (.int p5), .val (.ref b1), .val (.int ff), .val (.int tt), .val (.ref b15), .val (.ref b27), .val (.int (1 : Int32))] [(.ref b15)])) rfl (by rw [hml]; rfl) (Steps.refl _) (argsL := []) (rest := []) (lenOf pd_5 rfl) rfl (by show 2 * 0 + _ ≤ _; exact Nat.le_of_eq rfl) (hb hby at_231) (fun _ _ => ⟨rfl, rfl, (by decide : 3 + 0 ≤ _), (by decide : 10 + 0 ≤ _)⟩)
          dsimp only [Pt.U, Pt.locs, Pt.cells, Pt.slots] at X62 l62 y62 z62 st62 hQ62
          subst l62 y62 z62
          obtain ⟨rfl, Nq62, eh62⟩ := hQ62
          have N62 := Fr.app N55 Nq62
          refine own_by (fun _ kt => st62.trans kt) ?_
          show own_Go p.tables e below (T62.setTop (mkF m 234 #[.val (.int p0), .val (.int p1), .val (.int p2), .val (.int p3), .val (.int p4), .val (.int p5), .val (.ref b1), .val (.int ff), .val (.int tt), .val (.ref b15), .val (.ref b27), .val (.int (1 : Int32))] [(.int (own_ln (10 : Int32) (own_run (nar .char (own_pick p0)) (nar .char (own_pick p1)) (nar .char (own_pick p2)) (nar .char (own_pick p3)) ((tt.toInt - ff.toInt).toNat) ff ((own_ln (own_pick p4) (0 : Int32) (1 : Int32)), (own_cl (own_pick p4) (0 : Int32) (1 : Int32)), (own_ar (own_pick p4) (0 : Int32)))).2.2 (own_run (nar .char (own_pick p0)) (nar .char (own_pick p1)) (nar .char (own_pick p2)) (nar .char (own_pick p3)) ((tt.toInt - ff.toInt).toNat) ff ((own_ln (own_pick p4) (0 : Int32) (1 : Int32)), (own_cl (own_pick p4) (0 : Int32) (1 : Int32)), (own_ar (own_pick p4) (0 : Int32)))).1))])) _
          refine own_by (fun _ kt => XS.aload X62.here hx rfl (hb hby at_234) rfl rfl kt) ?_
          show own_Go p.tables e below (T62.setTop (mkF m 236 #[.val (.int p0), .val (.int p1), .val (.int p2), .val (.int p3), .val (.int p4), .val (.int p5), .val (.ref b1), .val (.int ff), .val (.int tt), .val (.ref b15), .val (.ref b27), .val (.int (1 : Int32))] [(.ref b27), (.int (own_ln (10 : Int32) (own_run (nar .char (own_pick p0)) (nar .char (own_pick p1)) (nar .char (own_pick p2)) (nar .char (own_pick p3)) ((tt.toInt - ff.toInt).toNat) ff ((own_ln (own_pick p4) (0 : Int32) (1 : Int32)), (own_cl (own_pick p4) (0 : Int32) (1 : Int32)), (own_ar (own_pick p4) (0 : Int32)))).2.2 (own_run (nar .char (own_pick p0)) (nar .char (own_pick p1)) (nar .char (own_pick p2)) (nar .char (own_pick p3)) ((tt.toInt - ff.toInt).toNat) ff ((own_ln (own_pick p4) (0 : Int32) (1 : Int32)), (own_cl (own_pick p4) (0 : Int32) (1 : Int32)), (own_ar (own_pick p4) (0 : Int32)))).1))])) _
          obtain ⟨cq63, kq63, q63a, q63b, q63c⟩ := isOf hZ eh62 f55_0
          obtain ⟨_, _, ⟨T63, L63, k63, n63⟩, -, X63, ⟨Lc63, hQ63, l63, y63, z63⟩, st63⟩ := X62.virtualBack hx (y := (⟨"com/example/ivaldi/ivaldi/io/TextPosition", "line", "()I"⟩ : MethodName)) (z := (⟨"com/example/ivaldi/ivaldi/io/TextPosition", "line", "()I"⟩ : MethodName)) hown (mvT hZ (hw _ (List.mem_of_getElem? (i := 37) rfl))) (mvT hZ (hw _ (List.mem_of_getElem? (i := 38) rfl))) (notFace_of_selects (args := #[]) (mvT hZ (hw _ (List.mem_of_getElem? (i := 40) rfl)))) (mvT hZ (hw _ (List.mem_of_getElem? (i := 40) rfl))) (mvT hZ (hw _ (List.mem_of_getElem? (i := 39) rfl))) (by decide) (backOf (W := 1) (rm_line l Z a0 hw [] b27 ((own_ln (10 : Int32) (own_st 3 ff tt (nar .char (own_pick p3)) (own_st 2 ff tt (nar .char (own_pick p2)) (own_st 1 ff tt (nar .char (own_pick p1)) (own_st 0 ff tt (nar .char (own_pick p0)) (own_ln (own_pick p4) (0 : Int32) (1 : Int32), own_cl (own_pick p4) (0 : Int32) (1 : Int32), own_ar (own_pick p4) (0 : Int32)))))).2.2 (own_st 3 ff tt (nar .char (own_pick p3)) (own_st 2 ff tt (nar .char (own_pick p2)) (own_st 1 ff tt (nar .char (own_pick p1)) (own_st 0 ff tt (nar .char (own_pick p0)) (own_ln (own_pick p4) (0 : Int32) (1 : Int32), own_cl (own_pick p4) (0 : Int32) (1 : Int32), own_ar (own_pick p4) (0 : Int32)))))).1)) T55.heap n0 Zs55 f55_1) hZ (hw _ (List.mem_of_getElem? (i := 41) rfl)) (hw _ (List.mem_of_getElem? (i := 7) rfl)) (by decide) (by decide)) q63a q63c (g := (mkF m 236 #[.val (.int p0), .val (.int p1), .val (.int p2), .val (.int p3), .val (.int p4), .val (.int p5), .val (.ref b1), .val (.int ff), .val (.int tt), .val (.ref b15), .val (.ref b27), .val (.int (1 : Int32))] [(.ref b27), (.int (own_ln (10 : Int32) (own_run (nar .char (own_pick p0)) (nar .char (own_pick p1)) (nar .char (own_pick p2)) (nar .char (own_pick p3)) ((tt.toInt - ff.toInt).toNat) ff ((own_ln (own_pick p4) (0 : Int32) (1 : Int32)), (own_cl (own_pick p4) (0 : Int32) (1 : Int32)), (own_ar (own_pick p4) (0 : Int32)))).2.2 (own_run (nar .char (own_pick p0)) (nar .char (own_pick p1)) (nar .char (own_pick p2)) (nar .char (own_pick p3)) ((tt.toInt - ff.toInt).toNat) ff ((own_ln (own_pick p4) (0 : Int32) (1 : Int32)), (own_cl (own_pick p4) (0 : Int32) (1 : Int32)), (own_ar (own_pick p4) (0 : Int32)))).1))])) rfl (by rw [hml]; rfl) (Steps.refl _) (argsL := []) (rest := [(.int (own_ln (10 : Int32) (own_run (nar .char (own_pick p0)) (nar .char (own_pick p1)) (nar .char (own_pick p2)) (nar .char (own_pick p3)) ((tt.toInt - ff.toInt).toNat) ff ((own_ln (own_pick p4) (0 : Int32) (1 : Int32)), (own_cl (own_pick p4) (0 : Int32) (1 : Int32)), (own_ar (own_pick p4) (0 : Int32)))).2.2 (own_run (nar .char (own_pick p0)) (nar .char (own_pick p1)) (nar .char (own_pick p2)) (nar .char (own_pick p3)) ((tt.toInt - ff.toInt).toNat) ff ((own_ln (own_pick p4) (0 : Int32) (1 : Int32)), (own_cl (own_pick p4) (0 : Int32) (1 : Int32)), (own_ar (own_pick p4) (0 : Int32)))).1))]) (lenOf pd_5 rfl) rfl (by show 2 * 0 + _ ≤ _; exact Nat.le_of_eq rfl) (hb hby at_236) (fun _ _ => ⟨rfl, eh62, (by decide : 3 + 0 ≤ _), (by decide : 10 + 0 ≤ _)⟩)
          dsimp only [Pt.U, Pt.locs, Pt.cells, Pt.slots] at X63 l63 y63 z63 st63 hQ63
          subst l63 y63 z63
          obtain ⟨rfl, Nq63, eh63⟩ := hQ63
          have N63 := Fr.app N62 Nq63
          refine own_by (fun _ kt => st63.trans kt) ?_
          show own_Go p.tables e below (T63.setTop (mkF m 239 #[.val (.int p0), .val (.int p1), .val (.int p2), .val (.int p3), .val (.int p4), .val (.int p5), .val (.ref b1), .val (.int ff), .val (.int tt), .val (.ref b15), .val (.ref b27), .val (.int (1 : Int32))] [(.int (own_ln (10 : Int32) (own_st 3 ff tt (nar .char (own_pick p3)) (own_st 2 ff tt (nar .char (own_pick p2)) (own_st 1 ff tt (nar .char (own_pick p1)) (own_st 0 ff tt (nar .char (own_pick p0)) (own_ln (own_pick p4) (0 : Int32) (1 : Int32), own_cl (own_pick p4) (0 : Int32) (1 : Int32), own_ar (own_pick p4) (0 : Int32)))))).2.2 (own_st 3 ff tt (nar .char (own_pick p3)) (own_st 2 ff tt (nar .char (own_pick p2)) (own_st 1 ff tt (nar .char (own_pick p1)) (own_st 0 ff tt (nar .char (own_pick p0)) (own_ln (own_pick p4) (0 : Int32) (1 : Int32), own_cl (own_pick p4) (0 : Int32) (1 : Int32), own_ar (own_pick p4) (0 : Int32)))))).1)), (.int (own_ln (10 : Int32) (own_run (nar .char (own_pick p0)) (nar .char (own_pick p1)) (nar .char (own_pick p2)) (nar .char (own_pick p3)) ((tt.toInt - ff.toInt).toNat) ff ((own_ln (own_pick p4) (0 : Int32) (1 : Int32)), (own_cl (own_pick p4) (0 : Int32) (1 : Int32)), (own_ar (own_pick p4) (0 : Int32)))).2.2 (own_run (nar .char (own_pick p0)) (nar .char (own_pick p1)) (nar .char (own_pick p2)) (nar .char (own_pick p3)) ((tt.toInt - ff.toInt).toNat) ff ((own_ln (own_pick p4) (0 : Int32) (1 : Int32)), (own_cl (own_pick p4) (0 : Int32) (1 : Int32)), (own_ar (own_pick p4) (0 : Int32)))).1))])) _
          refine own_by (fun _ kt => XS.icmpNo X63.here hx rfl (hb hby at_239) rfl (teq (by rw [own_all _ _ _ _ ff tt _ h_ff h_tt] : (own_ln (10 : Int32) (own_run (nar .char (own_pick p0)) (nar .char (own_pick p1)) (nar .char (own_pick p2)) (nar .char (own_pick p3)) ((tt.toInt - ff.toInt).toNat) ff ((own_ln (own_pick p4) (0 : Int32) (1 : Int32)), (own_cl (own_pick p4) (0 : Int32) (1 : Int32)), (own_ar (own_pick p4) (0 : Int32)))).2.2 (own_run (nar .char (own_pick p0)) (nar .char (own_pick p1)) (nar .char (own_pick p2)) (nar .char (own_pick p3)) ((tt.toInt - ff.toInt).toNat) ff ((own_ln (own_pick p4) (0 : Int32) (1 : Int32)), (own_cl (own_pick p4) (0 : Int32) (1 : Int32)), (own_ar (own_pick p4) (0 : Int32)))).1) = (own_ln (10 : Int32) (own_st 3 ff tt (nar .char (own_pick p3)) (own_st 2 ff tt (nar .char (own_pick p2)) (own_st 1 ff tt (nar .char (own_pick p1)) (own_st 0 ff tt (nar .char (own_pick p0)) (own_ln (own_pick p4) (0 : Int32) (1 : Int32), own_cl (own_pick p4) (0 : Int32) (1 : Int32), own_ar (own_pick p4) (0 : Int32)))))).2.2 (own_st 3 ff tt (nar .char (own_pick p3)) (own_st 2 ff tt (nar .char (own_pick p2)) (own_st 1 ff tt (nar .char (own_pick p1)) (own_st 0 ff tt (nar .char (own_pick p0)) (own_ln (own_pick p4) (0 : Int32) (1 : Int32), own_cl (own_pick p4) (0 : Int32) (1 : Int32), own_ar (own_pick p4) (0 : Int32)))))).1))).2 kt) ?_
          show own_Go p.tables e below (T63.setTop (mkF m 242 #[.val (.int p0), .val (.int p1), .val (.int p2), .val (.int p3), .val (.int p4), .val (.int p5), .val (.ref b1), .val (.int ff), .val (.int tt), .val (.ref b15), .val (.ref b27), .val (.int (1 : Int32))] [])) _
          refine own_by (fun _ kt => XS.iconst X63.here hx rfl (hb hby at_242) kt) ?_
          show own_Go p.tables e below (T63.setTop (mkF m 243 #[.val (.int p0), .val (.int p1), .val (.int p2), .val (.int p3), .val (.int p4), .val (.int p5), .val (.ref b1), .val (.int ff), .val (.int tt), .val (.ref b15), .val (.ref b27), .val (.int (1 : Int32))] [(.int (1 : Int32))])) _
          refine own_by (fun _ kt => XS.goto X63.here hx rfl (pc0 := 243) (pc' := 247) rfl (hb hby at_243) (by decide) (by decide) kt) ?_
          show own_Go p.tables e below (T63.setTop (mkF m 247 #[.val (.int p0), .val (.int p1), .val (.int p2), .val (.int p3), .val (.int p4), .val (.int p5), .val (.ref b1), .val (.int ff), .val (.int tt), .val (.ref b15), .val (.ref b27), .val (.int (1 : Int32))] [(.int (1 : Int32))])) _
          exact own_retN X63 hx (t := .boolean) Bd.returns hlk (by simp) (hb hby at_247) ⟨rfl, N63⟩ (by decide) (by decide)
        refine own_by (fun _ kt => XS.iload XJ42.here hx rfl (hb hby at_156) rfl kt) ?_
        show own_Go p.tables e below (TJ42.setTop (mkF m 158 #[.val (.int p0), .val (.int p1), .val (.int p2), .val (.int p3), .val (.int p4), .val (.int p5), .val (.ref b1), .val (.int ff), .val (.int tt), .val (.ref b15), .val (.ref b27), .unset] [(.int ff)])) _
        refine own_by (fun _ kt => XS.iconst XJ42.here hx rfl (hb hby at_158) kt) ?_
        show own_Go p.tables e below (TJ42.setTop (mkF m 159 #[.val (.int p0), .val (.int p1), .val (.int p2), .val (.int p3), .val (.int p4), .val (.int p5), .val (.ref b1), .val (.int ff), .val (.int tt), .val (.ref b15), .val (.ref b27), .unset] [(.int (3 : Int32)), (.int ff)])) _
        by_cases hc159_64 : (3 : Int32) < ff
        · refine own_by (fun _ kt => XS.icmpYes XJ42.here hx rfl (pc0 := 159) (pc' := 177) rfl (hb hby at_159) rfl (tlt hc159_64).2.2.1 (by decide) (by decide) kt) ?_
          show own_Go p.tables e below (TJ42.setTop (mkF m 177 #[.val (.int p0), .val (.int p1), .val (.int p2), .val (.int p3), .val (.int p4), .val (.int p5), .val (.ref b1), .val (.int ff), .val (.int tt), .val (.ref b15), .val (.ref b27), .unset] [])) _
          exact J43 hJ42 _ _ XJ42 eJ42 NJ42 ZJ42 fJ42_0 fJ42_1 (by rw [own_st, if_pos hc159_64]; exact fJ42_2) (by rw [own_st, if_pos hc159_64]; exact fJ42_3) (by rw [own_st, if_pos hc159_64]; exact fJ42_4) fJ42_5 fJ42_6 fJ42_7 fJ42_8
        · refine own_by (fun _ kt => XS.icmpNo XJ42.here hx rfl (hb hby at_159) rfl (flt hc159_64).2.2.1 kt) ?_
          show own_Go p.tables e below (TJ42.setTop (mkF m 162 #[.val (.int p0), .val (.int p1), .val (.int p2), .val (.int p3), .val (.int p4), .val (.int p5), .val (.ref b1), .val (.int ff), .val (.int tt), .val (.ref b15), .val (.ref b27), .unset] [])) _
          refine own_by (fun _ kt => XS.iconst XJ42.here hx rfl (hb hby at_162) kt) ?_
          show own_Go p.tables e below (TJ42.setTop (mkF m 163 #[.val (.int p0), .val (.int p1), .val (.int p2), .val (.int p3), .val (.int p4), .val (.int p5), .val (.ref b1), .val (.int ff), .val (.int tt), .val (.ref b15), .val (.ref b27), .unset] [(.int (3 : Int32))])) _
          refine own_by (fun _ kt => XS.iload XJ42.here hx rfl (hb hby at_163) rfl kt) ?_
          show own_Go p.tables e below (TJ42.setTop (mkF m 165 #[.val (.int p0), .val (.int p1), .val (.int p2), .val (.int p3), .val (.int p4), .val (.int p5), .val (.ref b1), .val (.int ff), .val (.int tt), .val (.ref b15), .val (.ref b27), .unset] [(.int tt), (.int (3 : Int32))])) _
          by_cases hc165_65 : (3 : Int32) < tt
          · refine own_by (fun _ kt => XS.icmpNo XJ42.here hx rfl (hb hby at_165) rfl (tlt hc165_65).2.1 kt) ?_
            show own_Go p.tables e below (TJ42.setTop (mkF m 168 #[.val (.int p0), .val (.int p1), .val (.int p2), .val (.int p3), .val (.int p4), .val (.int p5), .val (.ref b1), .val (.int ff), .val (.int tt), .val (.ref b15), .val (.ref b27), .unset] [])) _
            refine own_by (fun _ kt => XS.aload XJ42.here hx rfl (hb hby at_168) rfl rfl kt) ?_
            show own_Go p.tables e below (TJ42.setTop (mkF m 170 #[.val (.int p0), .val (.int p1), .val (.int p2), .val (.int p3), .val (.int p4), .val (.int p5), .val (.ref b1), .val (.int ff), .val (.int tt), .val (.ref b15), .val (.ref b27), .unset] [(.ref b27)])) _
            refine own_by (fun _ kt => XS.aload XJ42.here hx rfl (hb hby at_170) rfl rfl kt) ?_
            show own_Go p.tables e below (TJ42.setTop (mkF m 172 #[.val (.int p0), .val (.int p1), .val (.int p2), .val (.int p3), .val (.int p4), .val (.int p5), .val (.ref b1), .val (.int ff), .val (.int tt), .val (.ref b15), .val (.ref b27), .unset] [(.ref b1), (.ref b27)])) _
            refine own_by (fun _ kt => XS.iconst XJ42.here hx rfl (hb hby at_172) kt) ?_
            show own_Go p.tables e below (TJ42.setTop (mkF m 173 #[.val (.int p0), .val (.int p1), .val (.int p2), .val (.int p3), .val (.int p4), .val (.int p5), .val (.ref b1), .val (.int ff), .val (.int tt), .val (.ref b15), .val (.ref b27), .unset] [(.int (3 : Int32)), (.ref b1), (.ref b27)])) _
            refine own_by (own_caload XJ42 hx hZ eJ42 fJ42_0 (j := (3 : Int32)) (v := (.int (nar .char (own_pick p3)))) ⟨by decide, by decide⟩ rfl (g := (mkF m 173 #[.val (.int p0), .val (.int p1), .val (.int p2), .val (.int p3), .val (.int p4), .val (.int p5), .val (.ref b1), .val (.int ff), .val (.int tt), .val (.ref b15), .val (.ref b27), .unset] [(.int (3 : Int32)), (.ref b1), (.ref b27)])) rfl rfl (hb hby at_173)) ?_
            show own_Go p.tables e below (TJ42.setTop (mkF m 174 #[.val (.int p0), .val (.int p1), .val (.int p2), .val (.int p3), .val (.int p4), .val (.int p5), .val (.ref b1), .val (.int ff), .val (.int tt), .val (.ref b15), .val (.ref b27), .unset] [(.int (nar .char (own_pick p3))), (.ref b27)])) _
            obtain ⟨cq66, kq66, q66a, q66b, q66c⟩ := isOf hZ eJ42 fJ42_1
            obtain ⟨_, _, ⟨T66, L66, k66, n66⟩, -, X66, ⟨Lc66, hQ66, l66, y66, z66⟩, st66⟩ := XJ42.virtualBack hx (y := (⟨"com/example/ivaldi/ivaldi/io/TextPosition", "advance", "(C)V"⟩ : MethodName)) (z := (⟨"com/example/ivaldi/ivaldi/io/TextPosition", "advance", "(C)V"⟩ : MethodName)) hown (mvT hZ (hw _ (List.mem_of_getElem? (i := 18) rfl))) (mvT hZ (hw _ (List.mem_of_getElem? (i := 19) rfl))) (notFace_of_selects (args := #[]) (mvT hZ (hw _ (List.mem_of_getElem? (i := 21) rfl)))) (mvT hZ (hw _ (List.mem_of_getElem? (i := 21) rfl))) (mvT hZ (hw _ (List.mem_of_getElem? (i := 20) rfl))) (by decide) (backOf (W := 0) (rm_adv l Z a0 hw [] b27 (nar .char (own_pick p3)) ((own_st 2 ff tt (nar .char (own_pick p2)) (own_st 1 ff tt (nar .char (own_pick p1)) (own_st 0 ff tt (nar .char (own_pick p0)) (own_ln (own_pick p4) (0 : Int32) (1 : Int32), own_cl (own_pick p4) (0 : Int32) (1 : Int32), own_ar (own_pick p4) (0 : Int32))))).1) ((own_st 2 ff tt (nar .char (own_pick p2)) (own_st 1 ff tt (nar .char (own_pick p1)) (own_st 0 ff tt (nar .char (own_pick p0)) (own_ln (own_pick p4) (0 : Int32) (1 : Int32), own_cl (own_pick p4) (0 : Int32) (1 : Int32), own_ar (own_pick p4) (0 : Int32))))).2.1) ((own_st 2 ff tt (nar .char (own_pick p2)) (own_st 1 ff tt (nar .char (own_pick p1)) (own_st 0 ff tt (nar .char (own_pick p0)) (own_ln (own_pick p4) (0 : Int32) (1 : Int32), own_cl (own_pick p4) (0 : Int32) (1 : Int32), own_ar (own_pick p4) (0 : Int32))))).2.2) hJ42 n0 ZJ42 fJ42_2 fJ42_3 fJ42_4 fJ42_1 gn_b27) hZ (hw _ (List.mem_of_getElem? (i := 22) rfl)) (hw _ (List.mem_of_getElem? (i := 7) rfl)) (by decide) (by decide)) q66a q66c (g := (mkF m 174 #[.val (.int p0), .val (.int p1), .val (.int p2), .val (.int p3), .val (.int p4), .val (.int p5), .val (.ref b1), .val (.int ff), .val (.int tt), .val (.ref b15), .val (.ref b27), .unset] [(.int (nar .char (own_pick p3))), (.ref b27)])) rfl (by rw [hml]; rfl) (Steps.refl _) (argsL := [(.int (nar .char (own_pick p3)))]) (rest := []) (lenOf pd_2 rfl) rfl (by show 2 * 0 + _ ≤ _; exact Nat.le_of_eq rfl) (hb hby at_174) (fun _ _ => ⟨rfl, eJ42, (by decide : 3 + 0 ≤ _), (by decide : 10 + 0 ≤ _)⟩)
            dsimp only [Pt.U, Pt.locs, Pt.cells, Pt.slots] at X66 l66 y66 z66 st66 hQ66
            subst l66 y66 z66
            obtain ⟨rfl, Nq66, K66, f66_0, f66_1, f66_2, f66_3⟩ := hQ66
            have f67 := fJ42_0.keep K66 (own_nin ne_b1_b27)
            have f68 := fJ42_1.keep K66
            have f69 := fJ42_5.keep K66
            have f70 := fJ42_6.keep K66 (own_nin ne_b15_b27)
            have f71 := fJ42_7.keep K66 (own_nin ne_b15_b27)
            have f72 := fJ42_8.keep K66 (own_nin ne_b15_b27)
            have Zs66 : n0 ≤ T66.heap.size := Nat.le_trans ZJ42 K66.1
            have N66 := Fr.app NJ42 Nq66
            refine own_by (fun _ kt => st66.trans kt) ?_
            show own_Go p.tables e below (T66.setTop (mkF m 177 #[.val (.int p0), .val (.int p1), .val (.int p2), .val (.int p3), .val (.int p4), .val (.int p5), .val (.ref b1), .val (.int ff), .val (.int tt), .val (.ref b15), .val (.ref b27), .unset] [])) _
            exact J43 T66.heap _ _ X66 rfl N66 Zs66 f67 f66_0 (by rw [own_st, if_neg hc159_64, if_pos hc165_65]; exact f66_1) (by rw [own_st, if_neg hc159_64, if_pos hc165_65]; exact f66_2) (by rw [own_st, if_neg hc159_64, if_pos hc165_65]; exact f66_3) f69 f70 f71 f72
          · refine own_by (fun _ kt => XS.icmpYes XJ42.here hx rfl (pc0 := 165) (pc' := 177) rfl (hb hby at_165) rfl (flt hc165_65).2.1 (by decide) (by decide) kt) ?_
            show own_Go p.tables e below (TJ42.setTop (mkF m 177 #[.val (.int p0), .val (.int p1), .val (.int p2), .val (.int p3), .val (.int p4), .val (.int p5), .val (.ref b1), .val (.int ff), .val (.int tt), .val (.ref b15), .val (.ref b27), .unset] [])) _
            exact J43 hJ42 _ _ XJ42 eJ42 NJ42 ZJ42 fJ42_0 fJ42_1 (by rw [own_st, if_neg hc159_64, if_neg hc165_65]; exact fJ42_2) (by rw [own_st, if_neg hc159_64, if_neg hc165_65]; exact fJ42_3) (by rw [own_st, if_neg hc159_64, if_neg hc165_65]; exact fJ42_4) fJ42_5 fJ42_6 fJ42_7 fJ42_8
      refine own_by (fun _ kt => XS.iload XJ41.here hx rfl (hb hby at_135) rfl kt) ?_
      show own_Go p.tables e below (TJ41.setTop (mkF m 137 #[.val (.int p0), .val (.int p1), .val (.int p2), .val (.int p3), .val (.int p4), .val (.int p5), .val (.ref b1), .val (.int ff), .val (.int tt), .val (.ref b15), .val (.ref b27), .unset] [(.int ff)])) _
      refine own_by (fun _ kt => XS.iconst XJ41.here hx rfl (hb hby at_137) kt) ?_
      show own_Go p.tables e below (TJ41.setTop (mkF m 138 #[.val (.int p0), .val (.int p1), .val (.int p2), .val (.int p3), .val (.int p4), .val (.int p5), .val (.ref b1), .val (.int ff), .val (.int tt), .val (.ref b15), .val (.ref b27), .unset] [(.int (2 : Int32)), (.int ff)])) _
      by_cases hc138_73 : (2 : Int32) < ff
      · refine own_by (fun _ kt => XS.icmpYes XJ41.here hx rfl (pc0 := 138) (pc' := 156) rfl (hb hby at_138) rfl (tlt hc138_73).2.2.1 (by decide) (by decide) kt) ?_
        show own_Go p.tables e below (TJ41.setTop (mkF m 156 #[.val (.int p0), .val (.int p1), .val (.int p2), .val (.int p3), .val (.int p4), .val (.int p5), .val (.ref b1), .val (.int ff), .val (.int tt), .val (.ref b15), .val (.ref b27), .unset] [])) _
        exact J42 hJ41 _ _ XJ41 eJ41 NJ41 ZJ41 fJ41_0 fJ41_1 (by rw [own_st, if_pos hc138_73]; exact fJ41_2) (by rw [own_st, if_pos hc138_73]; exact fJ41_3) (by rw [own_st, if_pos hc138_73]; exact fJ41_4) fJ41_5 fJ41_6 fJ41_7 fJ41_8
      · refine own_by (fun _ kt => XS.icmpNo XJ41.here hx rfl (hb hby at_138) rfl (flt hc138_73).2.2.1 kt) ?_
        show own_Go p.tables e below (TJ41.setTop (mkF m 141 #[.val (.int p0), .val (.int p1), .val (.int p2), .val (.int p3), .val (.int p4), .val (.int p5), .val (.ref b1), .val (.int ff), .val (.int tt), .val (.ref b15), .val (.ref b27), .unset] [])) _
        refine own_by (fun _ kt => XS.iconst XJ41.here hx rfl (hb hby at_141) kt) ?_
        show own_Go p.tables e below (TJ41.setTop (mkF m 142 #[.val (.int p0), .val (.int p1), .val (.int p2), .val (.int p3), .val (.int p4), .val (.int p5), .val (.ref b1), .val (.int ff), .val (.int tt), .val (.ref b15), .val (.ref b27), .unset] [(.int (2 : Int32))])) _
        refine own_by (fun _ kt => XS.iload XJ41.here hx rfl (hb hby at_142) rfl kt) ?_
        show own_Go p.tables e below (TJ41.setTop (mkF m 144 #[.val (.int p0), .val (.int p1), .val (.int p2), .val (.int p3), .val (.int p4), .val (.int p5), .val (.ref b1), .val (.int ff), .val (.int tt), .val (.ref b15), .val (.ref b27), .unset] [(.int tt), (.int (2 : Int32))])) _
        by_cases hc144_74 : (2 : Int32) < tt
        · refine own_by (fun _ kt => XS.icmpNo XJ41.here hx rfl (hb hby at_144) rfl (tlt hc144_74).2.1 kt) ?_
          show own_Go p.tables e below (TJ41.setTop (mkF m 147 #[.val (.int p0), .val (.int p1), .val (.int p2), .val (.int p3), .val (.int p4), .val (.int p5), .val (.ref b1), .val (.int ff), .val (.int tt), .val (.ref b15), .val (.ref b27), .unset] [])) _
          refine own_by (fun _ kt => XS.aload XJ41.here hx rfl (hb hby at_147) rfl rfl kt) ?_
          show own_Go p.tables e below (TJ41.setTop (mkF m 149 #[.val (.int p0), .val (.int p1), .val (.int p2), .val (.int p3), .val (.int p4), .val (.int p5), .val (.ref b1), .val (.int ff), .val (.int tt), .val (.ref b15), .val (.ref b27), .unset] [(.ref b27)])) _
          refine own_by (fun _ kt => XS.aload XJ41.here hx rfl (hb hby at_149) rfl rfl kt) ?_
          show own_Go p.tables e below (TJ41.setTop (mkF m 151 #[.val (.int p0), .val (.int p1), .val (.int p2), .val (.int p3), .val (.int p4), .val (.int p5), .val (.ref b1), .val (.int ff), .val (.int tt), .val (.ref b15), .val (.ref b27), .unset] [(.ref b1), (.ref b27)])) _
          refine own_by (fun _ kt => XS.iconst XJ41.here hx rfl (hb hby at_151) kt) ?_
          show own_Go p.tables e below (TJ41.setTop (mkF m 152 #[.val (.int p0), .val (.int p1), .val (.int p2), .val (.int p3), .val (.int p4), .val (.int p5), .val (.ref b1), .val (.int ff), .val (.int tt), .val (.ref b15), .val (.ref b27), .unset] [(.int (2 : Int32)), (.ref b1), (.ref b27)])) _
          refine own_by (own_caload XJ41 hx hZ eJ41 fJ41_0 (j := (2 : Int32)) (v := (.int (nar .char (own_pick p2)))) ⟨by decide, by decide⟩ rfl (g := (mkF m 152 #[.val (.int p0), .val (.int p1), .val (.int p2), .val (.int p3), .val (.int p4), .val (.int p5), .val (.ref b1), .val (.int ff), .val (.int tt), .val (.ref b15), .val (.ref b27), .unset] [(.int (2 : Int32)), (.ref b1), (.ref b27)])) rfl rfl (hb hby at_152)) ?_
          show own_Go p.tables e below (TJ41.setTop (mkF m 153 #[.val (.int p0), .val (.int p1), .val (.int p2), .val (.int p3), .val (.int p4), .val (.int p5), .val (.ref b1), .val (.int ff), .val (.int tt), .val (.ref b15), .val (.ref b27), .unset] [(.int (nar .char (own_pick p2))), (.ref b27)])) _
          obtain ⟨cq75, kq75, q75a, q75b, q75c⟩ := isOf hZ eJ41 fJ41_1
          obtain ⟨_, _, ⟨T75, L75, k75, n75⟩, -, X75, ⟨Lc75, hQ75, l75, y75, z75⟩, st75⟩ := XJ41.virtualBack hx (y := (⟨"com/example/ivaldi/ivaldi/io/TextPosition", "advance", "(C)V"⟩ : MethodName)) (z := (⟨"com/example/ivaldi/ivaldi/io/TextPosition", "advance", "(C)V"⟩ : MethodName)) hown (mvT hZ (hw _ (List.mem_of_getElem? (i := 18) rfl))) (mvT hZ (hw _ (List.mem_of_getElem? (i := 19) rfl))) (notFace_of_selects (args := #[]) (mvT hZ (hw _ (List.mem_of_getElem? (i := 21) rfl)))) (mvT hZ (hw _ (List.mem_of_getElem? (i := 21) rfl))) (mvT hZ (hw _ (List.mem_of_getElem? (i := 20) rfl))) (by decide) (backOf (W := 0) (rm_adv l Z a0 hw [] b27 (nar .char (own_pick p2)) ((own_st 1 ff tt (nar .char (own_pick p1)) (own_st 0 ff tt (nar .char (own_pick p0)) (own_ln (own_pick p4) (0 : Int32) (1 : Int32), own_cl (own_pick p4) (0 : Int32) (1 : Int32), own_ar (own_pick p4) (0 : Int32)))).1) ((own_st 1 ff tt (nar .char (own_pick p1)) (own_st 0 ff tt (nar .char (own_pick p0)) (own_ln (own_pick p4) (0 : Int32) (1 : Int32), own_cl (own_pick p4) (0 : Int32) (1 : Int32), own_ar (own_pick p4) (0 : Int32)))).2.1) ((own_st 1 ff tt (nar .char (own_pick p1)) (own_st 0 ff tt (nar .char (own_pick p0)) (own_ln (own_pick p4) (0 : Int32) (1 : Int32), own_cl (own_pick p4) (0 : Int32) (1 : Int32), own_ar (own_pick p4) (0 : Int32)))).2.2) hJ41 n0 ZJ41 fJ41_2 fJ41_3 fJ41_4 fJ41_1 gn_b27) hZ (hw _ (List.mem_of_getElem? (i := 22) rfl)) (hw _ (List.mem_of_getElem? (i := 7) rfl)) (by decide) (by decide)) q75a q75c (g := (mkF m 153 #[.val (.int p0), .val (.int p1), .val (.int p2), .val (.int p3), .val (.int p4), .val (.int p5), .val (.ref b1), .val (.int ff), .val (.int tt), .val (.ref b15), .val (.ref b27), .unset] [(.int (nar .char (own_pick p2))), (.ref b27)])) rfl (by rw [hml]; rfl) (Steps.refl _) (argsL := [(.int (nar .char (own_pick p2)))]) (rest := []) (lenOf pd_2 rfl) rfl (by show 2 * 0 + _ ≤ _; exact Nat.le_of_eq rfl) (hb hby at_153) (fun _ _ => ⟨rfl, eJ41, (by decide : 3 + 0 ≤ _), (by decide : 10 + 0 ≤ _)⟩)
          dsimp only [Pt.U, Pt.locs, Pt.cells, Pt.slots] at X75 l75 y75 z75 st75 hQ75
          subst l75 y75 z75
          obtain ⟨rfl, Nq75, K75, f75_0, f75_1, f75_2, f75_3⟩ := hQ75
          have f76 := fJ41_0.keep K75 (own_nin ne_b1_b27)
          have f77 := fJ41_1.keep K75
          have f78 := fJ41_5.keep K75
          have f79 := fJ41_6.keep K75 (own_nin ne_b15_b27)
          have f80 := fJ41_7.keep K75 (own_nin ne_b15_b27)
          have f81 := fJ41_8.keep K75 (own_nin ne_b15_b27)
          have Zs75 : n0 ≤ T75.heap.size := Nat.le_trans ZJ41 K75.1
          have N75 := Fr.app NJ41 Nq75
          refine own_by (fun _ kt => st75.trans kt) ?_
          show own_Go p.tables e below (T75.setTop (mkF m 156 #[.val (.int p0), .val (.int p1), .val (.int p2), .val (.int p3), .val (.int p4), .val (.int p5), .val (.ref b1), .val (.int ff), .val (.int tt), .val (.ref b15), .val (.ref b27), .unset] [])) _
          exact J42 T75.heap _ _ X75 rfl N75 Zs75 f76 f75_0 (by rw [own_st, if_neg hc138_73, if_pos hc144_74]; exact f75_1) (by rw [own_st, if_neg hc138_73, if_pos hc144_74]; exact f75_2) (by rw [own_st, if_neg hc138_73, if_pos hc144_74]; exact f75_3) f78 f79 f80 f81
        · refine own_by (fun _ kt => XS.icmpYes XJ41.here hx rfl (pc0 := 144) (pc' := 156) rfl (hb hby at_144) rfl (flt hc144_74).2.1 (by decide) (by decide) kt) ?_
          show own_Go p.tables e below (TJ41.setTop (mkF m 156 #[.val (.int p0), .val (.int p1), .val (.int p2), .val (.int p3), .val (.int p4), .val (.int p5), .val (.ref b1), .val (.int ff), .val (.int tt), .val (.ref b15), .val (.ref b27), .unset] [])) _
          exact J42 hJ41 _ _ XJ41 eJ41 NJ41 ZJ41 fJ41_0 fJ41_1 (by rw [own_st, if_neg hc138_73, if_neg hc144_74]; exact fJ41_2) (by rw [own_st, if_neg hc138_73, if_neg hc144_74]; exact fJ41_3) (by rw [own_st, if_neg hc138_73, if_neg hc144_74]; exact fJ41_4) fJ41_5 fJ41_6 fJ41_7 fJ41_8
    refine own_by (fun _ kt => XS.iload XJ40.here hx rfl (hb hby at_114) rfl kt) ?_
    show own_Go p.tables e below (TJ40.setTop (mkF m 116 #[.val (.int p0), .val (.int p1), .val (.int p2), .val (.int p3), .val (.int p4), .val (.int p5), .val (.ref b1), .val (.int ff), .val (.int tt), .val (.ref b15), .val (.ref b27), .unset] [(.int ff)])) _
    refine own_by (fun _ kt => XS.iconst XJ40.here hx rfl (hb hby at_116) kt) ?_
    show own_Go p.tables e below (TJ40.setTop (mkF m 117 #[.val (.int p0), .val (.int p1), .val (.int p2), .val (.int p3), .val (.int p4), .val (.int p5), .val (.ref b1), .val (.int ff), .val (.int tt), .val (.ref b15), .val (.ref b27), .unset] [(.int (1 : Int32)), (.int ff)])) _
    by_cases hc117_82 : (1 : Int32) < ff
    · refine own_by (fun _ kt => XS.icmpYes XJ40.here hx rfl (pc0 := 117) (pc' := 135) rfl (hb hby at_117) rfl (tlt hc117_82).2.2.1 (by decide) (by decide) kt) ?_
      show own_Go p.tables e below (TJ40.setTop (mkF m 135 #[.val (.int p0), .val (.int p1), .val (.int p2), .val (.int p3), .val (.int p4), .val (.int p5), .val (.ref b1), .val (.int ff), .val (.int tt), .val (.ref b15), .val (.ref b27), .unset] [])) _
      exact J41 hJ40 _ _ XJ40 eJ40 NJ40 ZJ40 fJ40_0 fJ40_1 (by rw [own_st, if_pos hc117_82]; exact fJ40_2) (by rw [own_st, if_pos hc117_82]; exact fJ40_3) (by rw [own_st, if_pos hc117_82]; exact fJ40_4) fJ40_5 fJ40_6 fJ40_7 fJ40_8
    · refine own_by (fun _ kt => XS.icmpNo XJ40.here hx rfl (hb hby at_117) rfl (flt hc117_82).2.2.1 kt) ?_
      show own_Go p.tables e below (TJ40.setTop (mkF m 120 #[.val (.int p0), .val (.int p1), .val (.int p2), .val (.int p3), .val (.int p4), .val (.int p5), .val (.ref b1), .val (.int ff), .val (.int tt), .val (.ref b15), .val (.ref b27), .unset] [])) _
      refine own_by (fun _ kt => XS.iconst XJ40.here hx rfl (hb hby at_120) kt) ?_
      show own_Go p.tables e below (TJ40.setTop (mkF m 121 #[.val (.int p0), .val (.int p1), .val (.int p2), .val (.int p3), .val (.int p4), .val (.int p5), .val (.ref b1), .val (.int ff), .val (.int tt), .val (.ref b15), .val (.ref b27), .unset] [(.int (1 : Int32))])) _
      refine own_by (fun _ kt => XS.iload XJ40.here hx rfl (hb hby at_121) rfl kt) ?_
      show own_Go p.tables e below (TJ40.setTop (mkF m 123 #[.val (.int p0), .val (.int p1), .val (.int p2), .val (.int p3), .val (.int p4), .val (.int p5), .val (.ref b1), .val (.int ff), .val (.int tt), .val (.ref b15), .val (.ref b27), .unset] [(.int tt), (.int (1 : Int32))])) _
      by_cases hc123_83 : (1 : Int32) < tt
      · refine own_by (fun _ kt => XS.icmpNo XJ40.here hx rfl (hb hby at_123) rfl (tlt hc123_83).2.1 kt) ?_
        show own_Go p.tables e below (TJ40.setTop (mkF m 126 #[.val (.int p0), .val (.int p1), .val (.int p2), .val (.int p3), .val (.int p4), .val (.int p5), .val (.ref b1), .val (.int ff), .val (.int tt), .val (.ref b15), .val (.ref b27), .unset] [])) _
        refine own_by (fun _ kt => XS.aload XJ40.here hx rfl (hb hby at_126) rfl rfl kt) ?_
        show own_Go p.tables e below (TJ40.setTop (mkF m 128 #[.val (.int p0), .val (.int p1), .val (.int p2), .val (.int p3), .val (.int p4), .val (.int p5), .val (.ref b1), .val (.int ff), .val (.int tt), .val (.ref b15), .val (.ref b27), .unset] [(.ref b27)])) _
        refine own_by (fun _ kt => XS.aload XJ40.here hx rfl (hb hby at_128) rfl rfl kt) ?_
        show own_Go p.tables e below (TJ40.setTop (mkF m 130 #[.val (.int p0), .val (.int p1), .val (.int p2), .val (.int p3), .val (.int p4), .val (.int p5), .val (.ref b1), .val (.int ff), .val (.int tt), .val (.ref b15), .val (.ref b27), .unset] [(.ref b1), (.ref b27)])) _
        refine own_by (fun _ kt => XS.iconst XJ40.here hx rfl (hb hby at_130) kt) ?_
        show own_Go p.tables e below (TJ40.setTop (mkF m 131 #[.val (.int p0), .val (.int p1), .val (.int p2), .val (.int p3), .val (.int p4), .val (.int p5), .val (.ref b1), .val (.int ff), .val (.int tt), .val (.ref b15), .val (.ref b27), .unset] [(.int (1 : Int32)), (.ref b1), (.ref b27)])) _
        refine own_by (own_caload XJ40 hx hZ eJ40 fJ40_0 (j := (1 : Int32)) (v := (.int (nar .char (own_pick p1)))) ⟨by decide, by decide⟩ rfl (g := (mkF m 131 #[.val (.int p0), .val (.int p1), .val (.int p2), .val (.int p3), .val (.int p4), .val (.int p5), .val (.ref b1), .val (.int ff), .val (.int tt), .val (.ref b15), .val (.ref b27), .unset] [(.int (1 : Int32)), (.ref b1), (.ref b27)])) rfl rfl (hb hby at_131)) ?_
        show own_Go p.tables e below (TJ40.setTop (mkF m 132 #[.val (.int p0), .val (.int p1), .val (.int p2), .val (.int p3), .val (.int p4), .val (.int p5), .val (.ref b1), .val (.int ff), .val (.int tt), .val (.ref b15), .val (.ref b27), .unset] [(.int (nar .char (own_pick p1))), (.ref b27)])) _
        obtain ⟨cq84, kq84, q84a, q84b, q84c⟩ := isOf hZ eJ40 fJ40_1
        obtain ⟨_, _, ⟨T84, L84, k84, n84⟩, -, X84, ⟨Lc84, hQ84, l84, y84, z84⟩, st84⟩ := XJ40.virtualBack hx (y := (⟨"com/example/ivaldi/ivaldi/io/TextPosition", "advance", "(C)V"⟩ : MethodName)) (z := (⟨"com/example/ivaldi/ivaldi/io/TextPosition", "advance", "(C)V"⟩ : MethodName)) hown (mvT hZ (hw _ (List.mem_of_getElem? (i := 18) rfl))) (mvT hZ (hw _ (List.mem_of_getElem? (i := 19) rfl))) (notFace_of_selects (args := #[]) (mvT hZ (hw _ (List.mem_of_getElem? (i := 21) rfl)))) (mvT hZ (hw _ (List.mem_of_getElem? (i := 21) rfl))) (mvT hZ (hw _ (List.mem_of_getElem? (i := 20) rfl))) (by decide) (backOf (W := 0) (rm_adv l Z a0 hw [] b27 (nar .char (own_pick p1)) ((own_st 0 ff tt (nar .char (own_pick p0)) (own_ln (own_pick p4) (0 : Int32) (1 : Int32), own_cl (own_pick p4) (0 : Int32) (1 : Int32), own_ar (own_pick p4) (0 : Int32))).1) ((own_st 0 ff tt (nar .char (own_pick p0)) (own_ln (own_pick p4) (0 : Int32) (1 : Int32), own_cl (own_pick p4) (0 : Int32) (1 : Int32), own_ar (own_pick p4) (0 : Int32))).2.1) ((own_st 0 ff tt (nar .char (own_pick p0)) (own_ln (own_pick p4) (0 : Int32) (1 : Int32), own_cl (own_pick p4) (0 : Int32) (1 : Int32), own_ar (own_pick p4) (0 : Int32))).2.2) hJ40 n0 ZJ40 fJ40_2 fJ40_3 fJ40_4 fJ40_1 gn_b27) hZ (hw _ (List.mem_of_getElem? (i := 22) rfl)) (hw _ (List.mem_of_getElem? (i := 7) rfl)) (by decide) (by decide)) q84a q84c (g := (mkF m 132 #[.val (.int p0), .val (.int p1), .val (.int p2), .val (.int p3), .val (.int p4), .val (.int p5), .val (.ref b1), .val (.int ff), .val (.int tt), .val (.ref b15), .val (.ref b27), .unset] [(.int (nar .char (own_pick p1))), (.ref b27)])) rfl (by rw [hml]; rfl) (Steps.refl _) (argsL := [(.int (nar .char (own_pick p1)))]) (rest := []) (lenOf pd_2 rfl) rfl (by show 2 * 0 + _ ≤ _; exact Nat.le_of_eq rfl) (hb hby at_132) (fun _ _ => ⟨rfl, eJ40, (by decide : 3 + 0 ≤ _), (by decide : 10 + 0 ≤ _)⟩)
        dsimp only [Pt.U, Pt.locs, Pt.cells, Pt.slots] at X84 l84 y84 z84 st84 hQ84
        subst l84 y84 z84
        obtain ⟨rfl, Nq84, K84, f84_0, f84_1, f84_2, f84_3⟩ := hQ84
        have f85 := fJ40_0.keep K84 (own_nin ne_b1_b27)
        have f86 := fJ40_1.keep K84
        have f87 := fJ40_5.keep K84
        have f88 := fJ40_6.keep K84 (own_nin ne_b15_b27)
        have f89 := fJ40_7.keep K84 (own_nin ne_b15_b27)
        have f90 := fJ40_8.keep K84 (own_nin ne_b15_b27)
        have Zs84 : n0 ≤ T84.heap.size := Nat.le_trans ZJ40 K84.1
        have N84 := Fr.app NJ40 Nq84
        refine own_by (fun _ kt => st84.trans kt) ?_
        show own_Go p.tables e below (T84.setTop (mkF m 135 #[.val (.int p0), .val (.int p1), .val (.int p2), .val (.int p3), .val (.int p4), .val (.int p5), .val (.ref b1), .val (.int ff), .val (.int tt), .val (.ref b15), .val (.ref b27), .unset] [])) _
        exact J41 T84.heap _ _ X84 rfl N84 Zs84 f85 f84_0 (by rw [own_st, if_neg hc117_82, if_pos hc123_83]; exact f84_1) (by rw [own_st, if_neg hc117_82, if_pos hc123_83]; exact f84_2) (by rw [own_st, if_neg hc117_82, if_pos hc123_83]; exact f84_3) f87 f88 f89 f90
      · refine own_by (fun _ kt => XS.icmpYes XJ40.here hx rfl (pc0 := 123) (pc' := 135) rfl (hb hby at_123) rfl (flt hc123_83).2.1 (by decide) (by decide) kt) ?_
        show own_Go p.tables e below (TJ40.setTop (mkF m 135 #[.val (.int p0), .val (.int p1), .val (.int p2), .val (.int p3), .val (.int p4), .val (.int p5), .val (.ref b1), .val (.int ff), .val (.int tt), .val (.ref b15), .val (.ref b27), .unset] [])) _
        exact J41 hJ40 _ _ XJ40 eJ40 NJ40 ZJ40 fJ40_0 fJ40_1 (by rw [own_st, if_neg hc117_82, if_neg hc123_83]; exact fJ40_2) (by rw [own_st, if_neg hc117_82, if_neg hc123_83]; exact fJ40_3) (by rw [own_st, if_neg hc117_82, if_neg hc123_83]; exact fJ40_4) fJ40_5 fJ40_6 fJ40_7 fJ40_8
  refine own_by (fun _ kt => XS.iload X33.here hx rfl (hb hby at_94) rfl kt) ?_
  show own_Go p.tables e below (T33.setTop (mkF m 96 #[.val (.int p0), .val (.int p1), .val (.int p2), .val (.int p3), .val (.int p4), .val (.int p5), .val (.ref b1), .val (.int ff), .val (.int tt), .val (.ref b15), .val (.ref b27), .unset] [(.int ff)])) _
  by_cases hc96_91 : (0 : Int32) < ff
  · refine own_by (fun _ kt => XS.ifYes X33.here hx rfl (pc0 := 96) (pc' := 114) rfl (hb hby at_96) rfl ((if0 _ _).trans (tlt hc96_91).2.2.1) (by decide) (by decide) kt) ?_
    show own_Go p.tables e below (T33.setTop (mkF m 114 #[.val (.int p0), .val (.int p1), .val (.int p2), .val (.int p3), .val (.int p4), .val (.int p5), .val (.ref b1), .val (.int ff), .val (.int tt), .val (.ref b15), .val (.ref b27), .unset] [])) _
    exact J40 T33.heap _ _ X33 rfl N33 Zs33 f34 f36 (by rw [own_st, if_pos hc96_91]; exact f37) (by rw [own_st, if_pos hc96_91]; exact f38) (by rw [own_st, if_pos hc96_91]; exact f39) f33_0 f33_1 f33_2 f33_3
  · refine own_by (fun _ kt => XS.ifNo X33.here hx rfl (hb hby at_96) rfl ((if0 _ _).trans (flt hc96_91).2.2.1) kt) ?_
    show own_Go p.tables e below (T33.setTop (mkF m 99 #[.val (.int p0), .val (.int p1), .val (.int p2), .val (.int p3), .val (.int p4), .val (.int p5), .val (.ref b1), .val (.int ff), .val (.int tt), .val (.ref b15), .val (.ref b27), .unset] [])) _
    refine own_by (fun _ kt => XS.iconst X33.here hx rfl (hb hby at_99) kt) ?_
    show own_Go p.tables e below (T33.setTop (mkF m 100 #[.val (.int p0), .val (.int p1), .val (.int p2), .val (.int p3), .val (.int p4), .val (.int p5), .val (.ref b1), .val (.int ff), .val (.int tt), .val (.ref b15), .val (.ref b27), .unset] [(.int (0 : Int32))])) _
    refine own_by (fun _ kt => XS.iload X33.here hx rfl (hb hby at_100) rfl kt) ?_
    show own_Go p.tables e below (T33.setTop (mkF m 102 #[.val (.int p0), .val (.int p1), .val (.int p2), .val (.int p3), .val (.int p4), .val (.int p5), .val (.ref b1), .val (.int ff), .val (.int tt), .val (.ref b15), .val (.ref b27), .unset] [(.int tt), (.int (0 : Int32))])) _
    by_cases hc102_92 : (0 : Int32) < tt
    · refine own_by (fun _ kt => XS.icmpNo X33.here hx rfl (hb hby at_102) rfl (tlt hc102_92).2.1 kt) ?_
      show own_Go p.tables e below (T33.setTop (mkF m 105 #[.val (.int p0), .val (.int p1), .val (.int p2), .val (.int p3), .val (.int p4), .val (.int p5), .val (.ref b1), .val (.int ff), .val (.int tt), .val (.ref b15), .val (.ref b27), .unset] [])) _
      refine own_by (fun _ kt => XS.aload X33.here hx rfl (hb hby at_105) rfl rfl kt) ?_
      show own_Go p.tables e below (T33.setTop (mkF m 107 #[.val (.int p0), .val (.int p1), .val (.int p2), .val (.int p3), .val (.int p4), .val (.int p5), .val (.ref b1), .val (.int ff), .val (.int tt), .val (.ref b15), .val (.ref b27), .unset] [(.ref b27)])) _
      refine own_by (fun _ kt => XS.aload X33.here hx rfl (hb hby at_107) rfl rfl kt) ?_
      show own_Go p.tables e below (T33.setTop (mkF m 109 #[.val (.int p0), .val (.int p1), .val (.int p2), .val (.int p3), .val (.int p4), .val (.int p5), .val (.ref b1), .val (.int ff), .val (.int tt), .val (.ref b15), .val (.ref b27), .unset] [(.ref b1), (.ref b27)])) _
      refine own_by (fun _ kt => XS.iconst X33.here hx rfl (hb hby at_109) kt) ?_
      show own_Go p.tables e below (T33.setTop (mkF m 110 #[.val (.int p0), .val (.int p1), .val (.int p2), .val (.int p3), .val (.int p4), .val (.int p5), .val (.ref b1), .val (.int ff), .val (.int tt), .val (.ref b15), .val (.ref b27), .unset] [(.int (0 : Int32)), (.ref b1), (.ref b27)])) _
      refine own_by (own_caload X33 hx hZ rfl f34 (j := (0 : Int32)) (v := (.int (nar .char (own_pick p0)))) ⟨by decide, by decide⟩ rfl (g := (mkF m 110 #[.val (.int p0), .val (.int p1), .val (.int p2), .val (.int p3), .val (.int p4), .val (.int p5), .val (.ref b1), .val (.int ff), .val (.int tt), .val (.ref b15), .val (.ref b27), .unset] [(.int (0 : Int32)), (.ref b1), (.ref b27)])) rfl rfl (hb hby at_110)) ?_
      show own_Go p.tables e below (T33.setTop (mkF m 111 #[.val (.int p0), .val (.int p1), .val (.int p2), .val (.int p3), .val (.int p4), .val (.int p5), .val (.ref b1), .val (.int ff), .val (.int tt), .val (.ref b15), .val (.ref b27), .unset] [(.int (nar .char (own_pick p0))), (.ref b27)])) _
      obtain ⟨cq93, kq93, q93a, q93b, q93c⟩ := isOf hZ rfl f36
      obtain ⟨_, _, ⟨T93, L93, k93, n93⟩, -, X93, ⟨Lc93, hQ93, l93, y93, z93⟩, st93⟩ := X33.virtualBack hx (y := (⟨"com/example/ivaldi/ivaldi/io/TextPosition", "advance", "(C)V"⟩ : MethodName)) (z := (⟨"com/example/ivaldi/ivaldi/io/TextPosition", "advance", "(C)V"⟩ : MethodName)) hown (mvT hZ (hw _ (List.mem_of_getElem? (i := 18) rfl))) (mvT hZ (hw _ (List.mem_of_getElem? (i := 19) rfl))) (notFace_of_selects (args := #[]) (mvT hZ (hw _ (List.mem_of_getElem? (i := 21) rfl)))) (mvT hZ (hw _ (List.mem_of_getElem? (i := 21) rfl))) (mvT hZ (hw _ (List.mem_of_getElem? (i := 20) rfl))) (by decide) (backOf (W := 0) (rm_adv l Z a0 hw [] b27 (nar .char (own_pick p0)) ((own_ln (own_pick p4) (0 : Int32) (1 : Int32))) ((own_cl (own_pick p4) (0 : Int32) (1 : Int32))) ((own_ar (own_pick p4) (0 : Int32))) T33.heap n0 Zs33 f37 f38 f39 f36 gn_b27) hZ (hw _ (List.mem_of_getElem? (i := 22) rfl)) (hw _ (List.mem_of_getElem? (i := 7) rfl)) (by decide) (by decide)) q93a q93c (g := (mkF m 111 #[.val (.int p0), .val (.int p1), .val (.int p2), .val (.int p3), .val (.int p4), .val (.int p5), .val (.ref b1), .val (.int ff), .val (.int tt), .val (.ref b15), .val (.ref b27), .unset] [(.int (nar .char (own_pick p0))), (.ref b27)])) rfl (by rw [hml]; rfl) (Steps.refl _) (argsL := [(.int (nar .char (own_pick p0)))]) (rest := []) (lenOf pd_2 rfl) rfl (by show 2 * 0 + _ ≤ _; exact Nat.le_of_eq rfl) (hb hby at_111) (fun _ _ => ⟨rfl, rfl, (by decide : 3 + 0 ≤ _), (by decide : 10 + 0 ≤ _)⟩)
      dsimp only [Pt.U, Pt.locs, Pt.cells, Pt.slots] at X93 l93 y93 z93 st93 hQ93
      subst l93 y93 z93
      obtain ⟨rfl, Nq93, K93, f93_0, f93_1, f93_2, f93_3⟩ := hQ93
      have f94 := f34.keep K93 (own_nin ne_b1_b27)
      have f95 := f36.keep K93
      have f96 := f33_0.keep K93
      have f97 := f33_1.keep K93 (own_nin ne_b15_b27)
      have f98 := f33_2.keep K93 (own_nin ne_b15_b27)
      have f99 := f33_3.keep K93 (own_nin ne_b15_b27)
      have Zs93 : n0 ≤ T93.heap.size := Nat.le_trans Zs33 K93.1
      have N93 := Fr.app N33 Nq93
      refine own_by (fun _ kt => st93.trans kt) ?_
      show own_Go p.tables e below (T93.setTop (mkF m 114 #[.val (.int p0), .val (.int p1), .val (.int p2), .val (.int p3), .val (.int p4), .val (.int p5), .val (.ref b1), .val (.int ff), .val (.int tt), .val (.ref b15), .val (.ref b27), .unset] [])) _
      exact J40 T93.heap _ _ X93 rfl N93 Zs93 f94 f93_0 (by rw [own_st, if_neg hc96_91, if_pos hc102_92]; exact f93_1) (by rw [own_st, if_neg hc96_91, if_pos hc102_92]; exact f93_2) (by rw [own_st, if_neg hc96_91, if_pos hc102_92]; exact f93_3) f96 f97 f98 f99
    · refine own_by (fun _ kt => XS.icmpYes X33.here hx rfl (pc0 := 102) (pc' := 114) rfl (hb hby at_102) rfl (flt hc102_92).2.1 (by decide) (by decide) kt) ?_
      show own_Go p.tables e below (T33.setTop (mkF m 114 #[.val (.int p0), .val (.int p1), .val (.int p2), .val (.int p3), .val (.int p4), .val (.int p5), .val (.ref b1), .val (.int ff), .val (.int tt), .val (.ref b15), .val (.ref b27), .unset] [])) _
      exact J40 T33.heap _ _ X33 rfl N33 Zs33 f34 f36 (by rw [own_st, if_neg hc96_91, if_neg hc102_92]; exact f37) (by rw [own_st, if_neg hc96_91, if_neg hc102_92]; exact f38) (by rw [own_st, if_neg hc96_91, if_neg hc102_92]; exact f39) f33_0 f33_1 f33_2 f33_3
set_option maxRecDepth 65536 in
set_option maxHeartbeats 40000000 in
theorem comes_1 {Post : Tables → Env → Array Value → State → Outcome → State → Prop} (hpost : ∀ tb e args s v u, (limb_1_1.after args s (.returned v) u = true ∧ limb_1_2.after args s (.returned v) u = true ∧ True) → FrameEnd s (.returned v) u (Jvm.fieldLocs frame_1_writes args s ++ Jvm.arrayLocs frame_1_arrays args s ++ Jvm.staticLocs frame_1_statics s) 16 128 → Post tb e args s (.returned v) u) :
    ArmFor flags0 classFile x code maxLocals ret World_1 tables_1 room_1 Calls_1 rest_1 Pre_1 Post := by
  intro l hfl _ _ p e ha hc hk s m args below hf hA hF happ hP
  obtain ⟨hcalls, hrest, hpre⟩ := hP
  obtain ⟨-, -, -, hnamed, -, -, -, hat⟩ := (Spec.applies_iff hf).mp happ
  obtain ⟨hg, hn⟩ := and_e (Cond.before_iff.mp (show (Jvm.Cond.and given_1 narrow_1).before args s = true from hpre))
  obtain ⟨hcnt, g0⟩ := and_e hg
  obtain ⟨i0, g1⟩ := and_e g0
  obtain ⟨i1, g2⟩ := and_e g1
  obtain ⟨i2, g3⟩ := and_e g2
  obtain ⟨i3, g4⟩ := and_e g3
  obtain ⟨i4, g5⟩ := and_e g4
  obtain ⟨w0, w1, w2, w3, w4, w5, rfl⟩ : ∃ w0 w1 w2 w3 w4 w5 : Value, args = #[w0, w1, w2, w3, w4, w5] := by
    have hs : args.size = 6 := by simpa [Cond.value, given_1] using hcnt
    obtain ⟨L⟩ := args
    match L, hs with
    | [w0, w1, w2, w3, w4, w5], _ => exact ⟨w0, w1, w2, w3, w4, w5, rfl⟩
  have hw := fun d (hd : d ∈ tables_1) => atoms_spec (ws := Jvm.Cond.code x code maxLocals ret :: tables_1) hat d (List.mem_cons_of_mem _ hd)
  obtain ⟨v0, ev0⟩ := is_v i0
  obtain rfl : w0 = (.int v0) := Option.some.inj ev0
  obtain ⟨v1, ev1⟩ := is_v i1
  obtain rfl : w1 = (.int v1) := Option.some.inj ev1
  obtain ⟨v2, ev2⟩ := is_v i2
  obtain rfl : w2 = (.int v2) := Option.some.inj ev2
  obtain ⟨v3, ev3⟩ := is_v i3
  obtain rfl : w3 = (.int v3) := Option.some.inj ev3
  obtain ⟨v4, ev4⟩ := is_v i4
  obtain rfl : w4 = (.int v4) := Option.some.inj ev4
  obtain ⟨v5, ev5⟩ := is_v g5
  obtain rfl : w5 = (.int v5) := Option.some.inj ev5
  obtain ⟨n, o, h1, h2, h3, _, L, rfl, ⟨rfl, N⟩, hq⟩ := rm_law l s _ hw tables_1 v0 v1 v2 v3 v4 v5  s.heap s.heap.size (Nat.le_refl _)  p e ha hc hk s m _ below hf ((Spec.applies_iff_loose hf).mp happ).1 ⟨rfl, State.Warmed39.refl s, rfl⟩ trivial
  refine ⟨n, _, h1, h2, h3, hpost _ _ _ _ _ _ ⟨Cond.after_iff.mpr rfl, Cond.after_iff.mpr (eq_i res_at (Term.int_eval (1)) rfl), trivial⟩ ⟨hq.1, hq.2.1, (hq.2.2.sift fun y hy => Or.inr (N y hy)).mono (by decide) (by decide)⟩⟩
theorem main_1_1 : Claimed_1_1 := comes_1 fun _ _ _ _ _ _ h hF => ⟨h.1, hF⟩
theorem main_1_2 : Claimed_1_2 := comes_1 fun _ _ _ _ _ _ h hF => ⟨h.2.1, hF⟩
end Jvm.Pilot.@@N@@
namespace Jvm.Pilot.@@N@@
open Jvm Jvm.ClassFile Sem Op Lib Jvm.Free Jvm.Stand Jvm.Pilot.@@N@@.Jvm.D
/-! MADE BY PROGRAM (witnessworld.py) out of the Statement's table words and the real class files: 11 classes; the members and pool entries that the words name. The judged class is class 1, her method 2. -/
namespace start1
open Jvm.ClassFile
def u (s : String) : CpInfo := .utf8 (stringToUtf16 s)
/-- a pool by its gaps: so many unusable entries, then the entry; so many at the end -/
def gap : Nat → List CpInfo → List CpInfo
  | 0, r => r
  | n + 1, r => .unusable :: gap n r
def poolList (es : List (Nat × CpInfo)) (last : Nat) : List CpInfo := es.foldr (fun e r => gap e.1 (e.2 :: r)) (gap last [])
def pool (es : List (Nat × CpInfo)) (last : Nat) : Array CpInfo := ⟨poolList es last⟩
def fileOf (pool : Array CpInfo) (this : Nat) (attrs : Array Attribute := #[]) (ms : Array MethodInfo := #[]) (fl : Nat := 33) (sup : Nat := 0) (ifs : Array Nat := #[]) (fds : Array FieldInfo := #[]) : ClassFile where
  minorVersion := 0
  majorVersion := 65
  constantPool := pool
  accessFlags := fl
  thisClass := this
  superClass := sup
  interfaces := ifs
  fields := fds
  methods := ms
  attributes := attrs
def plain (name : String) (sup : Option ClassId) : Class where
  name := name
  kind := .ordinary
  loader := none
  accessFlags := 33
  super := sup
  interfaces := #[]
  cf := none
  fields := #[]
  methods := #[]
  instanceTypes := #[]
  staticTypes := #[]
  resolved := #[]
  callSites := []
  init := .initialized
  statics := none
  mirror := none

def pool0 : Array CpInfo := pool [(5, u "<init>"), (0, u "()V"), (1, .class_ 10), (1, u "java/lang/Object")] 113

def k0c0 : Code := { maxStack := 0, maxLocals := 1, code := object_method_1_code, exceptionTable := #[], attributes := #[] }
def k0m0 : Method := { name := "<init>", desc := "()V", sig := { parameters := [], returnType := none }, accessFlags := 1, code := some k0c0 }
/-- java/lang/Object -/
def k0 : Class := { plain "java/lang/Object" none with
  accessFlags := 33
  interfaces := #[]
  cf := some (fileOf pool0 8 #[] #[{ accessFlags := 1, nameIndex := 5, descriptorIndex := 6, attributes := #[] }] 33 0 #[] #[])
  fields := #[]
  methods := #[k0m0]
  instanceTypes := #[]
  staticTypes := #[]
  resolved := Array.replicate 124 none
  statics := none }

def pool1 : Array CpInfo := pool [(2, .class_ 4), (0, .nameAndType 5 6), (0, u "java/lang/Object"), (0, u "<init>"), (0, u "()V"), (0, .methodref 8 9), (0, .class_ 10), (0, .nameAndType 11 12), (0, u "com/example/ivaldi/ivaldi/io/TextPositionAdvancePinLaw"), (0, u "pick"), (0, u "(I)C"), (0, .class_ 14), (0, u "com/example/ivaldi/ivaldi/io/TextPosition"), (0, .methodref 13 3), (0, .methodref 13 17), (0, .nameAndType 18 19), (0, u "advance"), (0, u "(C)V"), (0, .methodref 13 21), (0, .nameAndType 22 23), (0, u "copy"), (0, u "()Lcom/example/ivaldi/ivaldi/io/TextPosition;"), (0, .methodref 13 25), (0, .nameAndType 18 26), (0, u "([CII)V"), (0, .methodref 13 28), (0, .nameAndType 29 30), (0, u "line"), (0, u "()I"), (0, .methodref 13 32), (0, .nameAndType 33 30), (0, u "column"), (3, u "law"), (0, u "(IIIIII)Z")] 4

def k1m0 : Method := { name := "<init>", desc := "()V", sig := { parameters := [], returnType := none }, accessFlags := 1, code := none }
def k1c1 : Code := { maxStack := 2, maxLocals := 2, code := method_2_code, exceptionTable := #[], attributes := #[] }
def k1m1 : Method := { name := "pick", desc := "(I)C", sig := { parameters := [.int], returnType := some .char }, accessFlags := 10, code := some k1c1 }
def k1c2 : Code := { maxStack := 4, maxLocals := 12, code := code, exceptionTable := #[], attributes := #[] }
def k1m2 : Method := { name := "law", desc := "(IIIIII)Z", sig := { parameters := [.int, .int, .int, .int, .int, .int], returnType := some .boolean }, accessFlags := 9, code := some k1c2 }
/-- com/example/ivaldi/ivaldi/io/TextPositionAdvancePinLaw -/
def k1 : Class := { plain "com/example/ivaldi/ivaldi/io/TextPositionAdvancePinLaw" (some 0) with
  accessFlags := 49
  interfaces := #[]
  cf := some (fileOf pool1 8 #[] #[{ accessFlags := 1, nameIndex := 5, descriptorIndex := 6, attributes := #[] }, { accessFlags := 10, nameIndex := 11, descriptorIndex := 12, attributes := #[] }, { accessFlags := 9, nameIndex := 37, descriptorIndex := 38, attributes := #[] }] 49 2 #[] #[])
  fields := #[]
  methods := #[k1m0, k1m1, k1m2]
  instanceTypes := #[]
  staticTypes := #[]
  resolved := Array.replicate 43 none
  statics := none }

def pool2 : Array CpInfo := pool [(1, .methodref 2 3), (0, .class_ 4), (0, .nameAndType 5 6), (0, u "java/lang/Object"), (0, u "<init>"), (0, u "()V"), (0, .fieldref 8 9), (0, .class_ 10), (0, .nameAndType 11 12), (0, u "com/example/ivaldi/ivaldi/io/TextPosition"), (0, u "line"), (0, u "I"), (0, .fieldref 8 14), (0, .nameAndType 15 12), (0, u "column"), (0, .methodref 8 3), (8, u "advance"), (0, u "(C)V"), (0, .fieldref 8 28), (0, .nameAndType 29 30), (0, u "afterReturn"), (0, u "Z"), (5, u "()I"), (0, u "([CII)V"), (2, u "copy"), (0, u "()Lcom/example/ivaldi/ivaldi/io/TextPosition;")] 2

def k2c0 : Code := { maxStack := 2, maxLocals := 1, code := prog_69_method_1_code, exceptionTable := #[], attributes := #[] }
def k2m0 : Method := { name := "<init>", desc := "()V", sig := { parameters := [], returnType := none }, accessFlags := 0, code := some k2c0 }
def k2c1 : Code := { maxStack := 1, maxLocals := 1, code := prog_69_method_3_code, exceptionTable := #[], attributes := #[] }
def k2m1 : Method := { name := "line", desc := "()I", sig := { parameters := [], returnType := some .int }, accessFlags := 0, code := some k2c1 }
def k2c2 : Code := { maxStack := 1, maxLocals := 1, code := prog_69_method_4_code, exceptionTable := #[], attributes := #[] }
def k2m2 : Method := { name := "column", desc := "()I", sig := { parameters := [], returnType := some .int }, accessFlags := 0, code := some k2c2 }
def k2c3 : Code := { maxStack := 3, maxLocals := 2, code := prog_69_method_5_code, exceptionTable := #[], attributes := #[] }
def k2m3 : Method := { name := "advance", desc := "(C)V", sig := { parameters := [.char], returnType := none }, accessFlags := 0, code := some k2c3 }
def k2c4 : Code := { maxStack := 2, maxLocals := 9, code := prog_69_method_6_code, exceptionTable := #[], attributes := #[] }
def k2m4 : Method := { name := "advance", desc := "([CII)V", sig := { parameters := [(.array .char), .int, .int], returnType := none }, accessFlags := 0, code := some k2c4 }
def k2c5 : Code := { maxStack := 2, maxLocals := 2, code := prog_69_method_7_code, exceptionTable := #[], attributes := #[] }
def k2m5 : Method := { name := "copy", desc := "()Lcom/example/ivaldi/ivaldi/io/TextPosition;", sig := { parameters := [], returnType := some (.object "com/example/ivaldi/ivaldi/io/TextPosition") }, accessFlags := 0, code := some k2c5 }
/-- com/example/ivaldi/ivaldi/io/TextPosition -/
def k2 : Class := { plain "com/example/ivaldi/ivaldi/io/TextPosition" (some 0) with
  accessFlags := 32
  interfaces := #[]
  cf := some (fileOf pool2 8 #[] #[{ accessFlags := 0, nameIndex := 5, descriptorIndex := 6, attributes := #[] }, { accessFlags := 0, nameIndex := 11, descriptorIndex := 36, attributes := #[] }, { accessFlags := 0, nameIndex := 15, descriptorIndex := 36, attributes := #[] }, { accessFlags := 0, nameIndex := 25, descriptorIndex := 26, attributes := #[] }, { accessFlags := 0, nameIndex := 25, descriptorIndex := 37, attributes := #[] }, { accessFlags := 0, nameIndex := 40, descriptorIndex := 41, attributes := #[] }] 32 2 #[] #[{ accessFlags := 2, nameIndex := 11, descriptorIndex := 12, attributes := #[] }, { accessFlags := 2, nameIndex := 15, descriptorIndex := 12, attributes := #[] }, { accessFlags := 2, nameIndex := 29, descriptorIndex := 30, attributes := #[] }])
  fields := #[{ name := "line", type := .int, accessFlags := 2, slot := 0, constantValue := 0 }, { name := "column", type := .int, accessFlags := 2, slot := 1, constantValue := 0 }, { name := "afterReturn", type := .boolean, accessFlags := 2, slot := 2, constantValue := 0 }]
  methods := #[k2m0, k2m1, k2m2, k2m3, k2m4, k2m5]
  instanceTypes := #[.int, .int, .boolean]
  staticTypes := #[]
  resolved := Array.replicate 44 none
  statics := none }

def pool3 : Array CpInfo := pool [(1, u "java/lang/Cloneable"), (0, .class_ 1), (0, u "java/lang/Object"), (0, .class_ 3)] 3

/-- java/lang/Cloneable -/
def k3 : Class := { plain "java/lang/Cloneable" (some 0) with
  accessFlags := 1537
  interfaces := #[]
  cf := some (fileOf pool3 2 #[] #[] 1537 4 #[] #[])
  fields := #[]
  methods := #[]
  instanceTypes := #[]
  staticTypes := #[]
  resolved := Array.replicate 8 none
  statics := none }

def pool4 : Array CpInfo := pool [(1, u "java/io/Serializable"), (0, .class_ 1), (0, u "java/lang/Object"), (0, .class_ 3)] 3

/-- java/io/Serializable -/
def k4 : Class := { plain "java/io/Serializable" (some 0) with
  accessFlags := 1537
  interfaces := #[]
  cf := some (fileOf pool4 2 #[] #[] 1537 4 #[] #[])
  fields := #[]
  methods := #[]
  instanceTypes := #[]
  staticTypes := #[]
  resolved := Array.replicate 8 none
  statics := none }

/-- the primitive byte -/
def k5 : Class := { plain "byte" none with kind := .primitive 'B', accessFlags := 0x411 }
/-- [B -/
def k6 : Class := { plain "[B" (some 0) with kind := .array 5 .byte, interfaces := #[3, 4], accessFlags := 1041 }

/-- the primitive char -/
def k7 : Class := { plain "char" none with kind := .primitive 'C', accessFlags := 0x411 }
/-- [C -/
def k8 : Class := { plain "[C" (some 0) with kind := .array 7 .char, interfaces := #[3, 4], accessFlags := 1041 }

/-- the primitive int -/
def k9 : Class := { plain "int" none with kind := .primitive 'I', accessFlags := 0x411 }
/-- [I -/
def k10 : Class := { plain "[I" (some 0) with kind := .array 9 .int, interfaces := #[3, 4], accessFlags := 1041 }

def heap : Heap := #[]
def classes : Array Class := #[k0, k1, k2, k3, k4, k5, k6, k7, k8, k9, k10]
def interned : List (Array UInt16 × Addr) := []
def slotsUsed : Nat := 0
def theMethod : MethodId := ⟨1, 2⟩
def args0 : Array Value := #[.int 3, .int 4, .int 5, .int 6, .int 7, .int 40]
def aboutOver (below : List Frame) : State where
  vm := { classes := classes, interned := interned.toArray }
  heap := heap
  slotsUsed := slotsUsed
  threads := #[{ frames := .invoking theMethod args0 :: below }]
def below0 : List Frame := [.native { method := ⟨0, 0⟩, args := #[] }]
def about1 : State := aboutOver below0
def p0 : Program := .bare "" "" ""
def e0 : Env := launch0.env 0 0 0
theorem w_frames : about1.frames = Frame.invoking theMethod args0 :: below0 := rfl
set_option maxRecDepth 65536 in
theorem w_args : argsFit about1.vm theMethod args0 = true := by decide +kernel
set_option maxRecDepth 65536 in
theorem w_heap : heapFits about1 = true := by decide +kernel
set_option maxRecDepth 65536 in
theorem w_runnable : about1.curStatus? = some .runnable := by decide +kernel
set_option maxRecDepth 65536 in
theorem w_alone : about1.alone = true := by decide +kernel
set_option maxRecDepth 65536 in
theorem w_named : about1.methodNamed? x = some theMethod := by decide +kernel
set_option maxRecDepth 65536 in
theorem w_hears : about1.hears theMethod below0 = true := by decide +kernel
set_option maxRecDepth 65536 in
theorem w_ripe : about1.ripe theMethod args0 below0 = true := by decide +kernel
theorem w_running : about1.status = .running := rfl
set_option maxRecDepth 65536 in
theorem w_room : about1.hasRoom e0.platform room_1 = true :=
  launch0.hasRoom_least _ room_1 (by decide +kernel) (by decide +kernel) (by decide +kernel) (by decide +kernel) (by decide +kernel) (by decide +kernel)
theorem allAtoms_all (ts : List Jvm.Cond) (a : Array Jvm.Value) (st : Jvm.State) : (allAtoms ts).before a st = ts.all (fun c => c.before a st) := by
  induction ts with
  | nil => rfl
  | cons c t ih =>
    show (Jvm.Cond.and c (allAtoms t)).before a st = _
    rw [Jvm.Cond.before_and, ih, List.all_cons]
def words1 : List Jvm.Cond := Jvm.Cond.code x code maxLocals ret :: tables_1
/-- a 'code' word, met by the world's own term for the bytes: nothing is compared byte by byte -/
theorem code_word {y : MethodName} {bytes : ByteArray} {mx : Nat} {rt : Option FieldType} {a : Array Value} {s : State} {m : MethodId} {meth : Method} {c : Code} (h1 : s.methodNamed? y = some m) (h2 : s.vm.method? m = some meth) (h3 : meth.code = some c) (h4 : c.code = bytes)
    (h5 : (c.maxLocals == mx && c.exceptionTable.isEmpty && decide (c.maxStack ≤ mostOperands) && decide (meth.sig.returnType = rt) && !meth.locks && decide (parseMethodDescriptor y.desc = some meth.sig)) = true) : (Jvm.Cond.code y bytes mx rt).before a s = true := by
  simp only [Bool.and_eq_true, beq_iff_eq, Bool.not_eq_true', decide_eq_true_eq] at h5
  obtain ⟨⟨⟨⟨⟨g1, g2⟩, g3⟩, g4⟩, g5⟩, g6⟩ := h5
  simp [Cond.before, Cond.holds, Cond.value, h1, h2, h3, h4, g1, g2, g3, g4, g5, g6]
def isCode : Jvm.Cond → Bool
  | .code _ _ _ _ => true
  | _ => false
theorem all_split {L : List Jvm.Cond} {P : Jvm.Cond → Bool} (h1 : L.all (fun c => isCode c || P c) = true) (h2 : ∀ c ∈ L.filter isCode, P c = true) : L.all P = true := by
  refine List.all_eq_true.mpr fun c hc => ?_
  have h := List.all_eq_true.mp h1 c hc
  rcases Bool.eq_false_or_eq_true (isCode c) with hi | hi
  · exact h2 c (List.mem_filter.mpr ⟨hc, hi⟩)
  · simpa [hi] using h
set_option maxRecDepth 65536 in
theorem w_c0 : (Jvm.Cond.code x code maxLocals ret).before args0 about1 = true := code_word (m := ⟨1, 2⟩) (meth := k1m2) (c := k1c2) (by decide +kernel) rfl rfl rfl (by decide +kernel)
set_option maxRecDepth 65536 in
theorem w_c1 : (Jvm.Cond.code ({ cls := "com/example/ivaldi/ivaldi/io/TextPositionAdvancePinLaw", name := "pick", desc := "(I)C" } : Jvm.MethodName) method_2_code (2 : Nat) (Option.some Jvm.ClassFile.FieldType.char)).before args0 about1 = true := code_word (m := ⟨1, 1⟩) (meth := k1m1) (c := k1c1) (by decide +kernel) rfl rfl rfl (by decide +kernel)
set_option maxRecDepth 65536 in
theorem w_c2 : (Jvm.Cond.code ({ cls := "com/example/ivaldi/ivaldi/io/TextPosition", name := "<init>", desc := "()V" } : Jvm.MethodName) prog_69_method_1_code (1 : Nat) (Option.none : Option Jvm.ClassFile.FieldType)).before args0 about1 = true := code_word (m := ⟨2, 0⟩) (meth := k2m0) (c := k2c0) (by decide +kernel) rfl rfl rfl (by decide +kernel)
set_option maxRecDepth 65536 in
theorem w_c3 : (Jvm.Cond.code ({ cls := "java/lang/Object", name := "<init>", desc := "()V" } : Jvm.MethodName) object_method_1_code (1 : Nat) (Option.none : Option Jvm.ClassFile.FieldType)).before args0 about1 = true := code_word (m := ⟨0, 0⟩) (meth := k0m0) (c := k0c0) (by decide +kernel) rfl rfl rfl (by decide +kernel)
set_option maxRecDepth 65536 in
theorem w_c4 : (Jvm.Cond.code ({ cls := "com/example/ivaldi/ivaldi/io/TextPosition", name := "advance", desc := "(C)V" } : Jvm.MethodName) prog_69_method_5_code (2 : Nat) (Option.none : Option Jvm.ClassFile.FieldType)).before args0 about1 = true := code_word (m := ⟨2, 3⟩) (meth := k2m3) (c := k2c3) (by decide +kernel) rfl rfl rfl (by decide +kernel)
set_option maxRecDepth 65536 in
theorem w_c5 : (Jvm.Cond.code ({ cls := "com/example/ivaldi/ivaldi/io/TextPosition", name := "copy", desc := "()Lcom/example/ivaldi/ivaldi/io/TextPosition;" } : Jvm.MethodName) prog_69_method_7_code (2 : Nat) (Option.some (Jvm.ClassFile.FieldType.object "com/example/ivaldi/ivaldi/io/TextPosition"))).before args0 about1 = true := code_word (m := ⟨2, 5⟩) (meth := k2m5) (c := k2c5) (by decide +kernel) rfl rfl rfl (by decide +kernel)
set_option maxRecDepth 65536 in
theorem w_c6 : (Jvm.Cond.code ({ cls := "com/example/ivaldi/ivaldi/io/TextPosition", name := "advance", desc := "([CII)V" } : Jvm.MethodName) prog_69_method_6_code (9 : Nat) (Option.none : Option Jvm.ClassFile.FieldType)).before args0 about1 = true := code_word (m := ⟨2, 4⟩) (meth := k2m4) (c := k2c4) (by decide +kernel) rfl rfl rfl (by decide +kernel)
set_option maxRecDepth 65536 in
theorem w_c7 : (Jvm.Cond.code ({ cls := "com/example/ivaldi/ivaldi/io/TextPosition", name := "line", desc := "()I" } : Jvm.MethodName) prog_69_method_3_code (1 : Nat) (Option.some Jvm.ClassFile.FieldType.int)).before args0 about1 = true := code_word (m := ⟨2, 1⟩) (meth := k2m1) (c := k2c1) (by decide +kernel) rfl rfl rfl (by decide +kernel)
set_option maxRecDepth 65536 in
theorem w_c8 : (Jvm.Cond.code ({ cls := "com/example/ivaldi/ivaldi/io/TextPosition", name := "column", desc := "()I" } : Jvm.MethodName) prog_69_method_4_code (1 : Nat) (Option.some Jvm.ClassFile.FieldType.int)).before args0 about1 = true := code_word (m := ⟨2, 2⟩) (meth := k2m2) (c := k2c2) (by decide +kernel) rfl rfl rfl (by decide +kernel)
def codes1 : List Jvm.Cond := [Jvm.Cond.code x code maxLocals ret, Jvm.Cond.code ({ cls := "com/example/ivaldi/ivaldi/io/TextPositionAdvancePinLaw", name := "pick", desc := "(I)C" } : Jvm.MethodName) method_2_code (2 : Nat) (Option.some Jvm.ClassFile.FieldType.char), Jvm.Cond.code ({ cls := "com/example/ivaldi/ivaldi/io/TextPosition", name := "<init>", desc := "()V" } : Jvm.MethodName) prog_69_method_1_code (1 : Nat) (Option.none : Option Jvm.ClassFile.FieldType), Jvm.Cond.code ({ cls := "java/lang/Object", name := "<init>", desc := "()V" } : Jvm.MethodName) object_method_1_code (1 : Nat) (Option.none : Option Jvm.ClassFile.FieldType), Jvm.Cond.code ({ cls := "com/example/ivaldi/ivaldi/io/TextPosition", name := "advance", desc := "(C)V" } : Jvm.MethodName) prog_69_method_5_code (2 : Nat) (Option.none : Option Jvm.ClassFile.FieldType), Jvm.Cond.code ({ cls := "com/example/ivaldi/ivaldi/io/TextPosition", name := "copy", desc := "()Lcom/example/ivaldi/ivaldi/io/TextPosition;" } : Jvm.MethodName) prog_69_method_7_code (2 : Nat) (Option.some (Jvm.ClassFile.FieldType.object "com/example/ivaldi/ivaldi/io/TextPosition")), Jvm.Cond.code ({ cls := "com/example/ivaldi/ivaldi/io/TextPosition", name := "advance", desc := "([CII)V" } : Jvm.MethodName) prog_69_method_6_code (9 : Nat) (Option.none : Option Jvm.ClassFile.FieldType), Jvm.Cond.code ({ cls := "com/example/ivaldi/ivaldi/io/TextPosition", name := "line", desc := "()I" } : Jvm.MethodName) prog_69_method_3_code (1 : Nat) (Option.some Jvm.ClassFile.FieldType.int), Jvm.Cond.code ({ cls := "com/example/ivaldi/ivaldi/io/TextPosition", name := "column", desc := "()I" } : Jvm.MethodName) prog_69_method_4_code (1 : Nat) (Option.some Jvm.ClassFile.FieldType.int)]
set_option maxRecDepth 65536 in
theorem codes_eq : words1.filter isCode = codes1 := rfl
theorem w_codes : ∀ c ∈ words1.filter isCode, c.before args0 about1 = true := by
  rw [codes_eq]
  intro c hc
  simp only [codes1, List.mem_cons, List.not_mem_nil, or_false] at hc
  rcases hc with rfl | rfl | rfl | rfl | rfl | rfl | rfl | rfl | rfl
  · exact w_c0
  · exact w_c1
  · exact w_c2
  · exact w_c3
  · exact w_c4
  · exact w_c5
  · exact w_c6
  · exact w_c7
  · exact w_c8
set_option maxRecDepth 65536 in
theorem w_t1 : (words1.take 24).all (fun c => isCode c || c.before args0 about1) = true := by decide +kernel
set_option maxRecDepth 65536 in
theorem w_t2 : (words1.drop 24).all (fun c => isCode c || c.before args0 about1) = true := by decide +kernel
theorem w_tables : (allAtoms (Jvm.Cond.code x code maxLocals ret :: tables_1)).before args0 about1 = true := by
  rw [allAtoms_all]
  show words1.all (fun c => c.before args0 about1) = true
  refine all_split ?_ w_codes
  rw [← List.take_append_drop 24 words1, List.all_append, w_t1, w_t2]
  rfl
set_option maxRecDepth 65536 in
theorem w_case : (Jvm.Cond.and given_1 narrow_1).before args0 about1 = true := by decide +kernel
theorem w_applies : (headSpec (Jvm.Cond.code x code maxLocals ret :: tables_1) room_1).applies x e0.platform about1 = true :=
  (Spec.applies_iff w_frames).mpr ⟨w_running, w_runnable, w_alone, w_named, w_hears, w_ripe, w_room, w_tables⟩
theorem atStart : AtStart classFile x code maxLocals ret World_1 tables_1 room_1 Calls_1 rest_1 Pre_1 launch0 p0 e0 about1 theMethod args0 below0 :=
  ⟨lists_1, trivial, launch0.admits_env _ _ _, launch0.least_env, fairChoices_fair.cas, fairChoices_fair.clock, w_frames, w_args, w_heap, w_applies, trivial, trivial, w_case⟩
end start1
theorem witness_1 : WitnessClaimed_1 := ⟨start1.p0, start1.e0, start1.about1, start1.theMethod, start1.args0, start1.below0, start1.atStart⟩
end Jvm.Pilot.@@N@@
