import JvmDerived
import JvmDerived.Pilot.@@N@@Statement
import JvmDerived.Pilot.@@N@@Code
set_option linter.unusedVariables false
set_option linter.unusedSimpArgs false
namespace Jvm.Pilot.@@N@@
open Jvm Jvm.ClassFile Sem Op Lib Jvm.Free Jvm.Stand Jvm.LawKit Jvm.RoadKit Bundle Jvm.Pilot.@@N@@.Jvm.D
/-! own_Go: a walk still to be made from the state A; every step of the machine is one own_by. -/
def own_Go (tb : Tables) (e : Env) (below : List Frame) (A : State) (R : Outcome → State → Prop) : Prop := ∃ s₂ o, Steps tb e below A s₂ ∧ s₂.status = .running ∧ Ended s₂ below o ∧ R o s₂
theorem own_by {tb : Tables} {e : Env} {below : List Frame} {A B : State} {R : Outcome → State → Prop} (h : ∀ t, Steps tb e below A t → Steps tb e below B t) (g : own_Go tb e below A R) : own_Go tb e below B R := by
  obtain ⟨s₂, o, h1, h2⟩ := g
  exact ⟨s₂, o, h _ h1, h2⟩
def own_R (s : State) (Q : Option Value → Heap → List Loc → Prop) (cc nn : Nat) (o : Outcome) (U : State) : Prop := ∃ v L, o = .returned v ∧ Q v U.heap L ∧ FrameEnd s o U L cc nn
abbrev own_lrem (x y : Int64) : Int64 := x - (x / y) * y
section OwnEnds
variable {p : Program} {l : Launch} {e : Env} {R : Room} {s : State} {m : MethodId} {args : Array Value} {below : List Frame} {meth : Method} {c : Code} {T : State} {locs : List Loc} {cells slots : Nat} {Q : Option Value → Heap → List Loc → Prop} {cc nn : Nat}
theorem own_fin (X : Stand p l e R s m args below meth c T locs cells slots) {v : Option Value} (hv : meth.sig.returnType = none → v = none) (hlk : meth.locks = false) {B : State}
    (hs : ∀ fs, (∀ (f : JFrame) (acts : List Action), f.method = m → f.locked = none → f.entered = [] → (doReturn e (T.setTop f) acts v).1 = T.setFrames fs) → Steps p.tables e below B (T.setFrames fs))
    (hq : Q v T.heap locs) (hc : cells ≤ cc) (hn : slots ≤ nn) : own_Go p.tables e below B (own_R s Q cc nn) := by
  obtain ⟨fs, hr, hrun, hended, hW, hsame⟩ := X.leave hv hlk
  exact ⟨_, _, hs fs hr, hrun, hended, v, locs, rfl, hq, ⟨_, rfl⟩, hW, hsame.mono hc hn⟩
theorem own_retN (X : Stand p l e R s m args below meth c T locs cells slots) (hx : p.tables.exec = Jvm.exec) {pc : Nat} {Ls : Array Slot} {z : Int32} {t : FieldType} {rest : List Value} (hret : meth.sig.returnType = some t) (hlk : meth.locks = false) (ht : t = .boolean ∨ t = .byte ∨ t = .char ∨ t = .short)
    (hd : decode c.code pc = .ok (.ireturn, 1)) (hq : Q (some (.int (nar t z))) T.heap locs) (hc : cells ≤ cc) (hn : slots ≤ nn) : own_Go p.tables e below (T.setTop (mkF m pc Ls (.int z :: rest))) (own_R s Q cc nn) :=
  own_fin X (fun h => by rw [hret] at h; cases h) hlk (fun fs hr => retN X hx hret ht hd hr) hq hc hn
theorem own_retI (X : Stand p l e R s m args below meth c T locs cells slots) (hx : p.tables.exec = Jvm.exec) {pc : Nat} {Ls : Array Slot} {z : Int32} (hret : meth.sig.returnType = some .int) (hlk : meth.locks = false)
    (hd : decode c.code pc = .ok (.ireturn, 1)) (hq : Q (some (.int z)) T.heap locs) (hc : cells ≤ cc) (hn : slots ≤ nn) : own_Go p.tables e below (T.setTop (mkF m pc Ls [.int z])) (own_R s Q cc nn) :=
  own_fin X (fun h => by rw [hret] at h; cases h) hlk (fun fs hr => X.ireturnOut hx hret rfl (Or.inl rfl) hd hr) hq hc hn
theorem own_retL (X : Stand p l e R s m args below meth c T locs cells slots) (hx : p.tables.exec = Jvm.exec) {pc : Nat} {Ls : Array Slot} {z : Int64} (hret : meth.sig.returnType = some .long) (hlk : meth.locks = false)
    (hd : decode c.code pc = .ok (.lreturn, 1)) (hq : Q (some (.long z)) T.heap locs) (hc : cells ≤ cc) (hn : slots ≤ nn) : own_Go p.tables e below (T.setTop (mkF m pc Ls [.long z])) (own_R s Q cc nn) :=
  own_fin X (fun h => by rw [hret] at h; cases h) hlk (fun fs hr => X.lreturnOut hx hret hd hr) hq hc hn
theorem own_retA (X : Stand p l e R s m args below meth c T locs cells slots) (hx : p.tables.exec = Jvm.exec) {pc : Nat} {Ls : Array Slot} {w : Value} {t : FieldType} (hret : meth.sig.returnType = some t) (hlk : meth.locks = false) (hw : w.isRef = true) (ht : t.isReference = true)
    (hd : decode c.code pc = .ok (.areturn, 1)) (hq : Q (some w) T.heap locs) (hc : cells ≤ cc) (hn : slots ≤ nn) : own_Go p.tables e below (T.setTop (mkF m pc Ls [w])) (own_R s Q cc nn) :=
  own_fin X (fun h => by rw [hret] at h; cases h) hlk (fun fs hr => X.areturnOut hx hw hret ht hd hr) hq hc hn
theorem own_retV (X : Stand p l e R s m args below meth c T locs cells slots) (hx : p.tables.exec = Jvm.exec) {pc : Nat} {Ls : Array Slot} (hret : meth.sig.returnType = none) (hlk : meth.locks = false)
    (hd : decode c.code pc = .ok (.return_, 1)) (hq : Q none T.heap locs) (hc : cells ≤ cc) (hn : slots ≤ nn) : own_Go p.tables e below (T.setTop (mkF m pc Ls [])) (own_R s Q cc nn) :=
  own_fin X (fun _ => rfl) hlk (fun fs hr => X.returnOut hx hret hd hr) hq hc hn
end OwnEnds
theorem own_nin {a b : Addr} (h : a ≠ b) : a ∉ [b] := fun q => h (List.mem_singleton.mp q)
theorem own_nin2 {a b c : Addr} (h : a ≠ b) (h' : a ≠ c) : a ∉ [b, c] := fun q => by
  rcases List.mem_cons.mp q with q | q
  · exact h q
  · exact h' (List.mem_singleton.mp q)
section OwnArrays
variable {p : Program} {l : Launch} {e : Env} {R : Room} {s : State} {m : MethodId} {args : Array Value} {below : List Frame} {meth : Method} {c : Code} {T : State} {locs : List Loc} {cells slots : Nat} {Z : State} {h : Heap} {a : Addr} {k : ClassId} {z j : Int32} {vs : List Value} {dv v : Value} {g : JFrame} {rest : List Value}
theorem own_iaload (X : Stand p l e R s m args below meth c T locs cells slots) (hx : p.tables.exec = Jvm.exec) (hZ : Z.Warmed39 s.vm) (eT : T.heap = h) (F : Arv Z h a k .int z vs dv) (hj : ¬ j < 0 ∧ j < z) (hv : vs.getD j.toNatClampNeg dv = v)
    (hg : g.method = m) (hs : g.stack = .int j :: .ref a :: rest) (hd : decode c.code g.pc = .ok (.iaload, 1)) (t : State) (kt : Steps p.tables e below (T.setTop { g with pc := g.pc + 1, stack := v :: rest }) t) : Steps p.tables e below (T.setTop g) t := by
  obtain ⟨cl, A, -, S, -, H, -⟩ := F
  exact X.iaload hx (by rw [eT]; exact A.1) (State.isArrayOf_alike hZ.alike A.2.1) A.2.2 (inb_of S hj) (H.at (inb_of S hj) hv) hg hs hd t kt
theorem own_caload (X : Stand p l e R s m args below meth c T locs cells slots) (hx : p.tables.exec = Jvm.exec) (hZ : Z.Warmed39 s.vm) (eT : T.heap = h) (F : Arv Z h a k .char z vs dv) (hj : ¬ j < 0 ∧ j < z) (hv : vs.getD j.toNatClampNeg dv = v)
    (hg : g.method = m) (hs : g.stack = .int j :: .ref a :: rest) (hd : decode c.code g.pc = .ok (.caload, 1)) (t : State) (kt : Steps p.tables e below (T.setTop { g with pc := g.pc + 1, stack := v :: rest }) t) : Steps p.tables e below (T.setTop g) t := by
  obtain ⟨cl, A, -, S, -, H, -⟩ := F
  exact X.caload hx (by rw [eT]; exact A.1) (State.isArrayOf_alike hZ.alike A.2.1) A.2.2 (inb_of S hj) (H.at (inb_of S hj) hv) hg hs hd t kt
theorem own_baload (X : Stand p l e R s m args below meth c T locs cells slots) (hx : p.tables.exec = Jvm.exec) (hZ : Z.Warmed39 s.vm) (eT : T.heap = h) (F : Arv Z h a k .byte z vs dv) (hj : ¬ j < 0 ∧ j < z) (hv : vs.getD j.toNatClampNeg dv = v)
    (hg : g.method = m) (hs : g.stack = .int j :: .ref a :: rest) (hd : decode c.code g.pc = .ok (.baload, 1)) (t : State) (kt : Steps p.tables e below (T.setTop { g with pc := g.pc + 1, stack := v :: rest }) t) : Steps p.tables e below (T.setTop g) t := by
  obtain ⟨cl, A, -, S, -, H, -⟩ := F
  exact X.baloadBytes hx (by rw [eT]; exact A.1) (State.isArrayOf_alike hZ.alike A.2.1) A.2.2 (inb_of S hj) (H.at (inb_of S hj) hv) hg hs hd t kt
theorem own_alen {ty : FieldType} (X : Stand p l e R s m args below meth c T locs cells slots) (hx : p.tables.exec = Jvm.exec) (hZ : Z.Warmed39 s.vm) (eT : T.heap = h) (F : Arv Z h a k ty z vs dv)
    (hg : g.method = m) (hs : g.stack = .ref a :: rest) (hd : decode c.code g.pc = .ok (.arraylength, 1)) (t : State) (kt : Steps p.tables e below (T.setTop { g with pc := g.pc + 1, stack := .int z :: rest }) t) : Steps p.tables e below (T.setTop g) t := by
  obtain ⟨cl, A, -, S, N, -, -⟩ := F
  exact X.arraylength hx (by rw [eT]; exact A.1) (State.isArrayOf_alike hZ.alike A.2.1) hg hs hd t (by rw [len_of S N]; exact kt)
end OwnArrays
section OwnBounds
variable {x k k' : Int32}
theorem own_i1 (h : x < k') (q : k'.toInt ≤ k.toInt) : x < k := by rw [Int32.lt_iff_toInt_lt] at *; omega
theorem own_i2 (h : ¬ k' < x) (q : k'.toInt < k.toInt) : x < k := by rw [Int32.lt_iff_toInt_lt] at *; omega
theorem own_i3 (h : ¬ x < k') (q : k.toInt ≤ k'.toInt) : ¬ x < k := by rw [Int32.lt_iff_toInt_lt] at *; omega
theorem own_i4 (h : k' < x) (q : k.toInt ≤ k'.toInt + 1) : ¬ x < k := by rw [Int32.lt_iff_toInt_lt] at *; omega
theorem own_j1 (h : k' < x) (q : k.toInt ≤ k'.toInt) : k < x := by rw [Int32.lt_iff_toInt_lt] at *; omega
theorem own_j2 (h : ¬ x < k') (q : k.toInt < k'.toInt) : k < x := by rw [Int32.lt_iff_toInt_lt] at *; omega
theorem own_j3 (h : ¬ k' < x) (q : k'.toInt ≤ k.toInt) : ¬ k < x := by rw [Int32.lt_iff_toInt_lt] at *; omega
theorem own_j4 (h : x < k') (q : k'.toInt ≤ k.toInt + 1) : ¬ k < x := by rw [Int32.lt_iff_toInt_lt] at *; omega
theorem own_q1 (h : x < k') (q : k'.toInt ≤ k.toInt) : ¬ x = k := fun u => by rw [Int32.lt_iff_toInt_lt] at *; subst u; omega
theorem own_q2 (h : k' < x) (q : k.toInt ≤ k'.toInt) : ¬ x = k := fun u => by rw [Int32.lt_iff_toInt_lt] at *; subst u; omega
theorem own_q3 (h : ¬ x < k') (q : k.toInt < k'.toInt) : ¬ x = k := fun u => by rw [Int32.lt_iff_toInt_lt] at *; subst u; omega
theorem own_q4 (h : ¬ k' < x) (q : k'.toInt < k.toInt) : ¬ x = k := fun u => by rw [Int32.lt_iff_toInt_lt] at *; subst u; omega
end OwnBounds
theorem own_sta_keep {Z : State} {h h' : Heap} {C n d : String} {w : Value} (F : Sta Z h C n d w) (K : Keep h h' []) : Sta Z h' C n d w := by
  obtain ⟨cf, i, k, f, st, cell, h1, h2, h3, h4, h5, r⟩ := F
  exact ⟨cf, i, k, f, st, cell, h1, h2, h3, h4, K.2.1 _ _ h5 List.not_mem_nil, r⟩
theorem own_bytes {P : Int8 → Prop} (h : ∀ b : BitVec 8, P (Int8.ofBitVec b)) (y : Int8) : P y := h y.toBitVec
def own_lower (p0 : Int32) : Int32 := (if p0 < (65 : Int32) then (nar .byte p0) else (if (90 : Int32) < p0 then (nar .byte p0) else (nar .byte ((p0 + (32 : Int32)).toInt8.toInt32))))
theorem pn_0 : plainName "com/example/nousu/nousu/http/FieldNames" = true := by first | (simp [plainName, overriddenIn]; done) | decide +kernel
theorem d_prog_20_method_3_code_0 : decode prog_20_method_3_code 0 = .ok (.iload_n 0, 1) := by decide +kernel
theorem d_prog_20_method_3_code_1 : decode prog_20_method_3_code 1 = .ok (.bipush 65, 2) := by decide +kernel
theorem d_prog_20_method_3_code_3 : decode prog_20_method_3_code 3 = .ok (.if_icmp .lt 17, 3) := by decide +kernel
theorem d_prog_20_method_3_code_20 : decode prog_20_method_3_code 20 = .ok (.iload_n 0, 1) := by decide +kernel
theorem d_prog_20_method_3_code_21 : decode prog_20_method_3_code 21 = .ok (.ireturn, 1) := by decide +kernel
theorem d_prog_20_method_3_code_6 : decode prog_20_method_3_code 6 = .ok (.iload_n 0, 1) := by decide +kernel
theorem d_prog_20_method_3_code_7 : decode prog_20_method_3_code 7 = .ok (.bipush 90, 2) := by decide +kernel
theorem d_prog_20_method_3_code_9 : decode prog_20_method_3_code 9 = .ok (.if_icmp .gt 11, 3) := by decide +kernel
theorem d_prog_20_method_3_code_12 : decode prog_20_method_3_code 12 = .ok (.iload_n 0, 1) := by decide +kernel
theorem d_prog_20_method_3_code_13 : decode prog_20_method_3_code 13 = .ok (.bipush 32, 2) := by decide +kernel
theorem d_prog_20_method_3_code_15 : decode prog_20_method_3_code 15 = .ok (.iadd, 1) := by decide +kernel
theorem d_prog_20_method_3_code_16 : decode prog_20_method_3_code 16 = .ok (.i2b, 1) := by decide +kernel
theorem d_prog_20_method_3_code_17 : decode prog_20_method_3_code 17 = .ok (.goto 4, 3) := by decide +kernel
theorem ef_1 (m : MethodId) (p0 : Int32) : entryFrame m #[(.int p0)] 1 = mkF m 0 #[.val (.int p0)] [] := by first | (simp [entryFrame, mkF, argsToLocals, Value.category]; done) | rfl
def Q_rm_own_lower (Z : State) (p0 : Int32)  (h0 : Heap) (n0 : Nat) (v : Option Value) (h : Heap) (L : List Loc) : Prop := v = some (.int (own_lower p0)) ∧ Fr n0 L ∧ h = h0
set_option maxRecDepth 65536 in
set_option maxHeartbeats 40000000 in
theorem rm_own_lower (l : Launch) (Z : State) (a0 : Array Value) (hw : ∀ d ∈ tables_1, d.before a0 Z = true) (ws : List Jvm.Cond) (p0 : Int32)  (h0 : Heap) (n0 : Nat) (Z0 : n0 ≤ h0.size)  :
    MetFree l (⟨"com/example/nousu/nousu/http/FieldNames", "lowerCase", "(B)B"⟩ : MethodName) (head1 (Jvm.Cond.code (⟨"com/example/nousu/nousu/http/FieldNames", "lowerCase", "(B)B"⟩ : MethodName) prog_20_method_3_code 1 (some .byte) :: ws) ({ frames := 0, cells := 0, slots := 0, locals := 0 } : Room)) (fun av_ U => av_ = #[(.int p0)] ∧ Z.Warmed39 U.vm ∧ U.heap = h0) (fun _ _ _ _ _ => True) (fun _ U o U' => ∃ v L, o = .returned v ∧ Q_rm_own_lower Z p0 h0 n0 v U'.heap L ∧ FrameEnd U o U' L ({ frames := 0, cells := 0, slots := 0, locals := 0 } : Room).cells ({ frames := 0, cells := 0, slots := 0, locals := 0 } : Room).slots) := by
  refine MetFree.of_bodySF (plainFor_of_name pn_0) hisR ?_
  intro p e s m args below meth c s₁ Bd hml0 hP hK
  obtain ⟨rfl, hZ, hh⟩ := hP
  have hx := Bd.exec
  have hby := Bd.bytes
  have hml : c.maxLocals = 1 := hml0
  have hown : s.vm.findClass "com/example/nousu/nousu/http/FieldNames" = some m.cls := findClass_of_methodNamed Bd.named
  have hnm := (name_of_methodNamed Bd.named Bd.method).1
  have hlk : meth.locks = false := BodyLoose.notSynchronized Bd
  have X0 : Stand p l e ({ frames := 0, cells := 0, slots := 0, locals := 0 } : Room) s m #[(.int p0)] below meth c s₁ [] 0 0 := Stand.of_body Bd
  have e0 : s₁.heap = h0 := by rw [← hh, Bd.state]; rfl
  have N0 := Fr.nil n0
  refine own_by (fun _ kt => castTop (ef_1 m p0) kt) (R := own_R s (Q_rm_own_lower Z p0 h0 n0) 0 0) ?_
  show own_Go p.tables e below (s₁.setTop (mkF m 0 #[.val (.int p0)] [])) _
  refine own_by (fun _ kt => XS.iloadN X0.here hx rfl (hb hby d_prog_20_method_3_code_0) rfl kt) ?_
  show own_Go p.tables e below (s₁.setTop (mkF m 1 #[.val (.int p0)] [(.int p0)])) _
  refine own_by (fun _ kt => XS.bipush X0.here hx rfl (hb hby d_prog_20_method_3_code_1) kt) ?_
  show own_Go p.tables e below (s₁.setTop (mkF m 3 #[.val (.int p0)] [(.int (65 : Int32)), (.int p0)])) _
  by_cases hc3_1 : p0 < (65 : Int32)
  · refine own_by (fun _ kt => XS.icmpYes X0.here hx rfl (pc0 := 3) (pc' := 20) rfl (hb hby d_prog_20_method_3_code_3) rfl (tlt hc3_1).1 (by decide) (by decide) kt) ?_
    show own_Go p.tables e below (s₁.setTop (mkF m 20 #[.val (.int p0)] [])) _
    refine own_by (fun _ kt => XS.iloadN X0.here hx rfl (hb hby d_prog_20_method_3_code_20) rfl kt) ?_
    show own_Go p.tables e below (s₁.setTop (mkF m 21 #[.val (.int p0)] [(.int p0)])) _
    exact own_retN X0 hx (t := .byte) Bd.returns hlk (by simp) (hb hby d_prog_20_method_3_code_21) ⟨by rw [own_lower, if_pos hc3_1] <;> rfl, N0, e0⟩ (by decide) (by decide)
  · refine own_by (fun _ kt => XS.icmpNo X0.here hx rfl (hb hby d_prog_20_method_3_code_3) rfl (flt hc3_1).1 kt) ?_
    show own_Go p.tables e below (s₁.setTop (mkF m 6 #[.val (.int p0)] [])) _
    refine own_by (fun _ kt => XS.iloadN X0.here hx rfl (hb hby d_prog_20_method_3_code_6) rfl kt) ?_
    show own_Go p.tables e below (s₁.setTop (mkF m 7 #[.val (.int p0)] [(.int p0)])) _
    refine own_by (fun _ kt => XS.bipush X0.here hx rfl (hb hby d_prog_20_method_3_code_7) kt) ?_
    show own_Go p.tables e below (s₁.setTop (mkF m 9 #[.val (.int p0)] [(.int (90 : Int32)), (.int p0)])) _
    by_cases hc9_2 : (90 : Int32) < p0
    · refine own_by (fun _ kt => XS.icmpYes X0.here hx rfl (pc0 := 9) (pc' := 20) rfl (hb hby d_prog_20_method_3_code_9) rfl (tlt hc9_2).2.2.1 (by decide) (by decide) kt) ?_
      show own_Go p.tables e below (s₁.setTop (mkF m 20 #[.val (.int p0)] [])) _
      refine own_by (fun _ kt => XS.iloadN X0.here hx rfl (hb hby d_prog_20_method_3_code_20) rfl kt) ?_
      show own_Go p.tables e below (s₁.setTop (mkF m 21 #[.val (.int p0)] [(.int p0)])) _
      exact own_retN X0 hx (t := .byte) Bd.returns hlk (by simp) (hb hby d_prog_20_method_3_code_21) ⟨by rw [own_lower, if_neg hc3_1, if_pos hc9_2] <;> rfl, N0, e0⟩ (by decide) (by decide)
    · refine own_by (fun _ kt => XS.icmpNo X0.here hx rfl (hb hby d_prog_20_method_3_code_9) rfl (flt hc9_2).2.2.1 kt) ?_
      show own_Go p.tables e below (s₁.setTop (mkF m 12 #[.val (.int p0)] [])) _
      refine own_by (fun _ kt => XS.iloadN X0.here hx rfl (hb hby d_prog_20_method_3_code_12) rfl kt) ?_
      show own_Go p.tables e below (s₁.setTop (mkF m 13 #[.val (.int p0)] [(.int p0)])) _
      refine own_by (fun _ kt => XS.bipush X0.here hx rfl (hb hby d_prog_20_method_3_code_13) kt) ?_
      show own_Go p.tables e below (s₁.setTop (mkF m 15 #[.val (.int p0)] [(.int (32 : Int32)), (.int p0)])) _
      refine own_by (fun _ kt => XS.iadd X0.here hx rfl (hb hby d_prog_20_method_3_code_15) rfl kt) ?_
      show own_Go p.tables e below (s₁.setTop (mkF m 16 #[.val (.int p0)] [(.int (p0 + (32 : Int32)))])) _
      refine own_by (fun _ kt => XS.i2b X0.here hx rfl (hb hby d_prog_20_method_3_code_16) rfl kt) ?_
      show own_Go p.tables e below (s₁.setTop (mkF m 17 #[.val (.int p0)] [(.int ((p0 + (32 : Int32)).toInt8.toInt32))])) _
      refine own_by (fun _ kt => XS.goto X0.here hx rfl (pc0 := 17) (pc' := 21) rfl (hb hby d_prog_20_method_3_code_17) (by decide) (by decide) kt) ?_
      show own_Go p.tables e below (s₁.setTop (mkF m 21 #[.val (.int p0)] [(.int ((p0 + (32 : Int32)).toInt8.toInt32))])) _
      exact own_retN X0 hx (t := .byte) Bd.returns hlk (by simp) (hb hby d_prog_20_method_3_code_21) ⟨by rw [own_lower, if_neg hc3_1, if_neg hc9_2] <;> rfl, N0, e0⟩ (by decide) (by decide)
theorem own_k1 (y : Int8) : ((y.toInt32 &&& 255 < 65 ∨ 90 < y.toInt32 &&& 255) → own_lower y.toInt32 = y.toInt32) ∧ (¬ (y.toInt32 &&& 255 < 65) → ¬ (90 < y.toInt32 &&& 255) → own_lower y.toInt32 = (((y.toInt32 &&& 255) ||| 32).toInt8.toInt32)) ∧ (¬ own_lower y.toInt32 < 65 → 90 < own_lower y.toInt32) ∧ own_lower (own_lower y.toInt32) = own_lower y.toInt32 :=
  own_bytes (P := fun y => ((y.toInt32 &&& 255 < 65 ∨ 90 < y.toInt32 &&& 255) → own_lower y.toInt32 = y.toInt32) ∧ (¬ (y.toInt32 &&& 255 < 65) → ¬ (90 < y.toInt32 &&& 255) → own_lower y.toInt32 = (((y.toInt32 &&& 255) ||| 32).toInt8.toInt32)) ∧ (¬ own_lower y.toInt32 < 65 → 90 < own_lower y.toInt32) ∧ own_lower (own_lower y.toInt32) = own_lower y.toInt32) (by decide +kernel) y
theorem pn_1 : plainName "com/example/nousu/nousu/http/FieldNamesLowerCasePinLaw" = true := by first | (simp [plainName, overriddenIn]; done) | decide +kernel
theorem pd_0 : parseMethodDescriptor "(B)B" = some ⟨[.byte], some .byte⟩ := by decide +kernel
theorem ef_2 (m : MethodId) (p0 : Int32) : entryFrame m #[(.int p0)] maxLocals = mkF m 0 #[.val (.int p0), .unset, .unset, .unset, .unset, .unset, .unset, .unset, .unset] [] := by first | (simp [entryFrame, mkF, argsToLocals, Value.category, maxLocals]; done) | rfl
def Q_rm_law (Z : State) (p0 : Int32)  (h0 : Heap) (n0 : Nat) (v : Option Value) (h : Heap) (L : List Loc) : Prop := v = some (.int (1 : Int32)) ∧ Fr n0 L
set_option maxRecDepth 65536 in
set_option maxHeartbeats 40000000 in
theorem rm_law (l : Launch) (Z : State) (a0 : Array Value) (hw : ∀ d ∈ tables_1, d.before a0 Z = true) (ws : List Jvm.Cond) (p0 : Int32)  (h0 : Heap) (n0 : Nat) (Z0 : n0 ≤ h0.size)  :
    MetFree l x (head1 (Jvm.Cond.code x code maxLocals ret :: ws) room_1) (fun av_ U => av_ = #[(.int p0)] ∧ Z.Warmed39 U.vm ∧ U.heap = h0) (fun _ _ _ _ _ => True) (fun _ U o U' => ∃ v L, o = .returned v ∧ Q_rm_law Z p0 h0 n0 v U'.heap L ∧ FrameEnd U o U' L 0 0) := by
  refine MetFree.of_bodySF (plainFor_of_name pn_1) hisR ?_
  intro p e s m args below meth c s₁ Bd hml0 hP hK
  obtain ⟨rfl, hZ, hh⟩ := hP
  have hx := Bd.exec
  have hby := Bd.bytes
  have hml : c.maxLocals = 9 := hml0
  have hown : s.vm.findClass "com/example/nousu/nousu/http/FieldNamesLowerCasePinLaw" = some m.cls := findClass_of_methodNamed Bd.named
  have hnm := (name_of_methodNamed Bd.named Bd.method).1
  have hlk : meth.locks = false := BodyLoose.notSynchronized Bd
  have X0 : Stand p l e room_1 s m #[(.int p0)] below meth c s₁ [] 0 0 := Stand.of_body Bd
  have e0 : s₁.heap = h0 := by rw [← hh, Bd.state]; rfl
  have N0 := Fr.nil n0
  refine own_by (fun _ kt => castTop (ef_2 m p0) kt) (R := own_R s (Q_rm_law Z p0 h0 n0) 0 0) ?_
  show own_Go p.tables e below (s₁.setTop (mkF m 0 #[.val (.int p0), .unset, .unset, .unset, .unset, .unset, .unset, .unset, .unset] [])) _
  refine own_by (fun _ kt => XS.iloadN X0.here hx rfl (hb hby at_0) rfl kt) ?_
  show own_Go p.tables e below (s₁.setTop (mkF m 1 #[.val (.int p0), .unset, .unset, .unset, .unset, .unset, .unset, .unset, .unset] [(.int p0)])) _
  refine own_by (fun _ kt => XS.i2b X0.here hx rfl (hb hby at_1) rfl kt) ?_
  show own_Go p.tables e below (s₁.setTop (mkF m 2 #[.val (.int p0), .unset, .unset, .unset, .unset, .unset, .unset, .unset, .unset] [(.int (p0.toInt8.toInt32))])) _
  refine own_by (fun _ kt => XS.istoreN X0.here hx rfl (hb hby at_2) rfl (l' := #[.val (.int p0), .val (.int (p0.toInt8.toInt32)), .unset, .unset, .unset, .unset, .unset, .unset, .unset]) rfl kt) ?_
  show own_Go p.tables e below (s₁.setTop (mkF m 3 #[.val (.int p0), .val (.int (p0.toInt8.toInt32)), .unset, .unset, .unset, .unset, .unset, .unset, .unset] [])) _
  refine own_by (fun _ kt => XS.iloadN X0.here hx rfl (hb hby at_3) rfl kt) ?_
  show own_Go p.tables e below (s₁.setTop (mkF m 4 #[.val (.int p0), .val (.int (p0.toInt8.toInt32)), .unset, .unset, .unset, .unset, .unset, .unset, .unset] [(.int (p0.toInt8.toInt32))])) _
  obtain ⟨_, _, ⟨T1, L1, k1, n1⟩, -, X1, ⟨Lc1, hQ1, l1, y1, z1⟩, st1⟩ := Jvm.LawKit.callS X0 hx (y := (⟨"com/example/nousu/nousu/http/FieldNames", "lowerCase", "(B)B"⟩ : MethodName)) hown (mvT hZ (hw _ (List.mem_of_getElem? (i := 0) rfl))) (mvT hZ (hw _ (List.mem_of_getElem? (i := 1) rfl))) (mvT hZ (hw _ (List.mem_of_getElem? (i := 2) rfl))) (mvT hZ (hw _ (List.mem_of_getElem? (i := 3) rfl))) (by decide) (backOf (W := 0) (rm_own_lower l Z a0 hw [] (p0.toInt8.toInt32) h0 n0 Z0) hZ (hw _ (List.mem_of_getElem? (i := 3) rfl)) (hw _ (List.mem_of_getElem? (i := 2) rfl)) (by decide) (by decide)) (g := (mkF m 4 #[.val (.int p0), .val (.int (p0.toInt8.toInt32)), .unset, .unset, .unset, .unset, .unset, .unset, .unset] [(.int (p0.toInt8.toInt32))])) rfl (by rw [hml]; rfl) (argsL := [(.int (p0.toInt8.toInt32))]) (rest := []) (lenOf pd_0 rfl) rfl (by show 2 * 0 + _ ≤ _; exact Nat.le_of_eq rfl) (hb hby at_4) (fun _ _ => ⟨rfl, e0, (by decide : 0 + 0 ≤ _), (by decide : 0 + 0 ≤ _)⟩)
  dsimp only [Pt.U, Pt.locs, Pt.cells, Pt.slots] at X1 l1 y1 z1 st1 hQ1
  subst l1 y1 z1
  obtain ⟨rfl, Nq1, eh1⟩ := hQ1
  have N1 := Fr.app N0 Nq1
  refine own_by (st1) ?_
  show own_Go p.tables e below (T1.setTop (mkF m 7 #[.val (.int p0), .val (.int (p0.toInt8.toInt32)), .unset, .unset, .unset, .unset, .unset, .unset, .unset] [(.int (own_lower (p0.toInt8.toInt32)))])) _
  refine own_by (fun _ kt => XS.istoreN X1.here hx rfl (hb hby at_7) rfl (l' := #[.val (.int p0), .val (.int (p0.toInt8.toInt32)), .val (.int (own_lower (p0.toInt8.toInt32))), .unset, .unset, .unset, .unset, .unset, .unset]) rfl kt) ?_
  show own_Go p.tables e below (T1.setTop (mkF m 8 #[.val (.int p0), .val (.int (p0.toInt8.toInt32)), .val (.int (own_lower (p0.toInt8.toInt32))), .unset, .unset, .unset, .unset, .unset, .unset] [])) _
  refine own_by (fun _ kt => XS.iloadN X1.here hx rfl (hb hby at_8) rfl kt) ?_
  show own_Go p.tables e below (T1.setTop (mkF m 9 #[.val (.int p0), .val (.int (p0.toInt8.toInt32)), .val (.int (own_lower (p0.toInt8.toInt32))), .unset, .unset, .unset, .unset, .unset, .unset] [(.int (p0.toInt8.toInt32))])) _
  refine own_by (fun _ kt => XS.sipush X1.here hx rfl (hb hby at_9) kt) ?_
  show own_Go p.tables e below (T1.setTop (mkF m 12 #[.val (.int p0), .val (.int (p0.toInt8.toInt32)), .val (.int (own_lower (p0.toInt8.toInt32))), .unset, .unset, .unset, .unset, .unset, .unset] [(.int (255 : Int32)), (.int (p0.toInt8.toInt32))])) _
  refine own_by (fun _ kt => XS.iand X1.here hx rfl (hb hby at_12) rfl kt) ?_
  show own_Go p.tables e below (T1.setTop (mkF m 13 #[.val (.int p0), .val (.int (p0.toInt8.toInt32)), .val (.int (own_lower (p0.toInt8.toInt32))), .unset, .unset, .unset, .unset, .unset, .unset] [(.int ((p0.toInt8.toInt32) &&& (255 : Int32)))])) _
  refine own_by (fun _ kt => XS.istoreN X1.here hx rfl (hb hby at_13) rfl (l' := #[.val (.int p0), .val (.int (p0.toInt8.toInt32)), .val (.int (own_lower (p0.toInt8.toInt32))), .val (.int ((p0.toInt8.toInt32) &&& (255 : Int32))), .unset, .unset, .unset, .unset, .unset]) rfl kt) ?_
  show own_Go p.tables e below (T1.setTop (mkF m 14 #[.val (.int p0), .val (.int (p0.toInt8.toInt32)), .val (.int (own_lower (p0.toInt8.toInt32))), .val (.int ((p0.toInt8.toInt32) &&& (255 : Int32))), .unset, .unset, .unset, .unset, .unset] [])) _
  refine own_by (fun _ kt => XS.iloadN X1.here hx rfl (hb hby at_14) rfl kt) ?_
  show own_Go p.tables e below (T1.setTop (mkF m 15 #[.val (.int p0), .val (.int (p0.toInt8.toInt32)), .val (.int (own_lower (p0.toInt8.toInt32))), .val (.int ((p0.toInt8.toInt32) &&& (255 : Int32))), .unset, .unset, .unset, .unset, .unset] [(.int ((p0.toInt8.toInt32) &&& (255 : Int32)))])) _
  refine own_by (fun _ kt => XS.bipush X1.here hx rfl (hb hby at_15) kt) ?_
  show own_Go p.tables e below (T1.setTop (mkF m 17 #[.val (.int p0), .val (.int (p0.toInt8.toInt32)), .val (.int (own_lower (p0.toInt8.toInt32))), .val (.int ((p0.toInt8.toInt32) &&& (255 : Int32))), .unset, .unset, .unset, .unset, .unset] [(.int (65 : Int32)), (.int ((p0.toInt8.toInt32) &&& (255 : Int32)))])) _
  by_cases hc17_2 : ((p0.toInt8.toInt32) &&& (255 : Int32)) < (65 : Int32)
  · refine own_by (fun _ kt => XS.icmpYes X1.here hx rfl (pc0 := 17) (pc' := 30) rfl (hb hby at_17) rfl (tlt hc17_2).1 (by decide) (by decide) kt) ?_
    show own_Go p.tables e below (T1.setTop (mkF m 30 #[.val (.int p0), .val (.int (p0.toInt8.toInt32)), .val (.int (own_lower (p0.toInt8.toInt32))), .val (.int ((p0.toInt8.toInt32) &&& (255 : Int32))), .unset, .unset, .unset, .unset, .unset] [])) _
    refine own_by (fun _ kt => XS.iconst X1.here hx rfl (hb hby at_30) kt) ?_
    show own_Go p.tables e below (T1.setTop (mkF m 31 #[.val (.int p0), .val (.int (p0.toInt8.toInt32)), .val (.int (own_lower (p0.toInt8.toInt32))), .val (.int ((p0.toInt8.toInt32) &&& (255 : Int32))), .unset, .unset, .unset, .unset, .unset] [(.int (0 : Int32))])) _
    refine own_by (fun _ kt => XS.istore X1.here hx rfl (hb hby at_31) rfl (l' := #[.val (.int p0), .val (.int (p0.toInt8.toInt32)), .val (.int (own_lower (p0.toInt8.toInt32))), .val (.int ((p0.toInt8.toInt32) &&& (255 : Int32))), .val (.int (0 : Int32)), .unset, .unset, .unset, .unset]) rfl kt) ?_
    show own_Go p.tables e below (T1.setTop (mkF m 33 #[.val (.int p0), .val (.int (p0.toInt8.toInt32)), .val (.int (own_lower (p0.toInt8.toInt32))), .val (.int ((p0.toInt8.toInt32) &&& (255 : Int32))), .val (.int (0 : Int32)), .unset, .unset, .unset, .unset] [])) _
    refine own_by (fun _ kt => XS.iload X1.here hx rfl (hb hby at_33) rfl kt) ?_
    show own_Go p.tables e below (T1.setTop (mkF m 35 #[.val (.int p0), .val (.int (p0.toInt8.toInt32)), .val (.int (own_lower (p0.toInt8.toInt32))), .val (.int ((p0.toInt8.toInt32) &&& (255 : Int32))), .val (.int (0 : Int32)), .unset, .unset, .unset, .unset] [(.int (0 : Int32))])) _
    refine own_by (fun _ kt => XS.ifYes X1.here hx rfl (pc0 := 35) (pc' := 46) rfl (hb hby at_35) rfl ((if0 _ _).trans (teq (by decide : (0 : Int32) = (0 : Int32))).1) (by decide) (by decide) kt) ?_
    show own_Go p.tables e below (T1.setTop (mkF m 46 #[.val (.int p0), .val (.int (p0.toInt8.toInt32)), .val (.int (own_lower (p0.toInt8.toInt32))), .val (.int ((p0.toInt8.toInt32) &&& (255 : Int32))), .val (.int (0 : Int32)), .unset, .unset, .unset, .unset] [])) _
    refine own_by (fun _ kt => XS.iloadN X1.here hx rfl (hb hby at_46) rfl kt) ?_
    show own_Go p.tables e below (T1.setTop (mkF m 47 #[.val (.int p0), .val (.int (p0.toInt8.toInt32)), .val (.int (own_lower (p0.toInt8.toInt32))), .val (.int ((p0.toInt8.toInt32) &&& (255 : Int32))), .val (.int (0 : Int32)), .unset, .unset, .unset, .unset] [(.int (p0.toInt8.toInt32))])) _
    refine own_by (fun _ kt => XS.istore X1.here hx rfl (hb hby at_47) rfl (l' := #[.val (.int p0), .val (.int (p0.toInt8.toInt32)), .val (.int (own_lower (p0.toInt8.toInt32))), .val (.int ((p0.toInt8.toInt32) &&& (255 : Int32))), .val (.int (0 : Int32)), .val (.int (p0.toInt8.toInt32)), .unset, .unset, .unset]) rfl kt) ?_
    show own_Go p.tables e below (T1.setTop (mkF m 49 #[.val (.int p0), .val (.int (p0.toInt8.toInt32)), .val (.int (own_lower (p0.toInt8.toInt32))), .val (.int ((p0.toInt8.toInt32) &&& (255 : Int32))), .val (.int (0 : Int32)), .val (.int (p0.toInt8.toInt32)), .unset, .unset, .unset] [])) _
    refine own_by (fun _ kt => XS.iloadN X1.here hx rfl (hb hby at_49) rfl kt) ?_
    show own_Go p.tables e below (T1.setTop (mkF m 50 #[.val (.int p0), .val (.int (p0.toInt8.toInt32)), .val (.int (own_lower (p0.toInt8.toInt32))), .val (.int ((p0.toInt8.toInt32) &&& (255 : Int32))), .val (.int (0 : Int32)), .val (.int (p0.toInt8.toInt32)), .unset, .unset, .unset] [(.int (own_lower (p0.toInt8.toInt32)))])) _
    refine own_by (fun _ kt => XS.iload X1.here hx rfl (hb hby at_50) rfl kt) ?_
    show own_Go p.tables e below (T1.setTop (mkF m 52 #[.val (.int p0), .val (.int (p0.toInt8.toInt32)), .val (.int (own_lower (p0.toInt8.toInt32))), .val (.int ((p0.toInt8.toInt32) &&& (255 : Int32))), .val (.int (0 : Int32)), .val (.int (p0.toInt8.toInt32)), .unset, .unset, .unset] [(.int (p0.toInt8.toInt32)), (.int (own_lower (p0.toInt8.toInt32)))])) _
    refine own_by (fun _ kt => XS.icmpNo X1.here hx rfl (hb hby at_52) rfl (teq ((own_k1 _).1 (Or.inl hc17_2) : (own_lower (p0.toInt8.toInt32)) = (p0.toInt8.toInt32))).2 kt) ?_
    show own_Go p.tables e below (T1.setTop (mkF m 55 #[.val (.int p0), .val (.int (p0.toInt8.toInt32)), .val (.int (own_lower (p0.toInt8.toInt32))), .val (.int ((p0.toInt8.toInt32) &&& (255 : Int32))), .val (.int (0 : Int32)), .val (.int (p0.toInt8.toInt32)), .unset, .unset, .unset] [])) _
    refine own_by (fun _ kt => XS.iconst X1.here hx rfl (hb hby at_55) kt) ?_
    show own_Go p.tables e below (T1.setTop (mkF m 56 #[.val (.int p0), .val (.int (p0.toInt8.toInt32)), .val (.int (own_lower (p0.toInt8.toInt32))), .val (.int ((p0.toInt8.toInt32) &&& (255 : Int32))), .val (.int (0 : Int32)), .val (.int (p0.toInt8.toInt32)), .unset, .unset, .unset] [(.int (1 : Int32))])) _
    refine own_by (fun _ kt => XS.goto X1.here hx rfl (pc0 := 56) (pc' := 60) rfl (hb hby at_56) (by decide) (by decide) kt) ?_
    show own_Go p.tables e below (T1.setTop (mkF m 60 #[.val (.int p0), .val (.int (p0.toInt8.toInt32)), .val (.int (own_lower (p0.toInt8.toInt32))), .val (.int ((p0.toInt8.toInt32) &&& (255 : Int32))), .val (.int (0 : Int32)), .val (.int (p0.toInt8.toInt32)), .unset, .unset, .unset] [(.int (1 : Int32))])) _
    refine own_by (fun _ kt => XS.istore X1.here hx rfl (hb hby at_60) rfl (l' := #[.val (.int p0), .val (.int (p0.toInt8.toInt32)), .val (.int (own_lower (p0.toInt8.toInt32))), .val (.int ((p0.toInt8.toInt32) &&& (255 : Int32))), .val (.int (0 : Int32)), .val (.int (p0.toInt8.toInt32)), .val (.int (1 : Int32)), .unset, .unset]) rfl kt) ?_
    show own_Go p.tables e below (T1.setTop (mkF m 62 #[.val (.int p0), .val (.int (p0.toInt8.toInt32)), .val (.int (own_lower (p0.toInt8.toInt32))), .val (.int ((p0.toInt8.toInt32) &&& (255 : Int32))), .val (.int (0 : Int32)), .val (.int (p0.toInt8.toInt32)), .val (.int (1 : Int32)), .unset, .unset] [])) _
    refine own_by (fun _ kt => XS.iloadN X1.here hx rfl (hb hby at_62) rfl kt) ?_
    show own_Go p.tables e below (T1.setTop (mkF m 63 #[.val (.int p0), .val (.int (p0.toInt8.toInt32)), .val (.int (own_lower (p0.toInt8.toInt32))), .val (.int ((p0.toInt8.toInt32) &&& (255 : Int32))), .val (.int (0 : Int32)), .val (.int (p0.toInt8.toInt32)), .val (.int (1 : Int32)), .unset, .unset] [(.int (own_lower (p0.toInt8.toInt32)))])) _
    refine own_by (fun _ kt => XS.bipush X1.here hx rfl (hb hby at_63) kt) ?_
    show own_Go p.tables e below (T1.setTop (mkF m 65 #[.val (.int p0), .val (.int (p0.toInt8.toInt32)), .val (.int (own_lower (p0.toInt8.toInt32))), .val (.int ((p0.toInt8.toInt32) &&& (255 : Int32))), .val (.int (0 : Int32)), .val (.int (p0.toInt8.toInt32)), .val (.int (1 : Int32)), .unset, .unset] [(.int (65 : Int32)), (.int (own_lower (p0.toInt8.toInt32)))])) _
    by_cases hc65_3 : (own_lower (p0.toInt8.toInt32)) < (65 : Int32)
    · refine own_by (fun _ kt => XS.icmpYes X1.here hx rfl (pc0 := 65) (pc' := 74) rfl (hb hby at_65) rfl (tlt hc65_3).1 (by decide) (by decide) kt) ?_
      show own_Go p.tables e below (T1.setTop (mkF m 74 #[.val (.int p0), .val (.int (p0.toInt8.toInt32)), .val (.int (own_lower (p0.toInt8.toInt32))), .val (.int ((p0.toInt8.toInt32) &&& (255 : Int32))), .val (.int (0 : Int32)), .val (.int (p0.toInt8.toInt32)), .val (.int (1 : Int32)), .unset, .unset] [])) _
      refine own_by (fun _ kt => XS.iconst X1.here hx rfl (hb hby at_74) kt) ?_
      show own_Go p.tables e below (T1.setTop (mkF m 75 #[.val (.int p0), .val (.int (p0.toInt8.toInt32)), .val (.int (own_lower (p0.toInt8.toInt32))), .val (.int ((p0.toInt8.toInt32) &&& (255 : Int32))), .val (.int (0 : Int32)), .val (.int (p0.toInt8.toInt32)), .val (.int (1 : Int32)), .unset, .unset] [(.int (1 : Int32))])) _
      refine own_by (fun _ kt => XS.goto X1.here hx rfl (pc0 := 75) (pc' := 79) rfl (hb hby at_75) (by decide) (by decide) kt) ?_
      show own_Go p.tables e below (T1.setTop (mkF m 79 #[.val (.int p0), .val (.int (p0.toInt8.toInt32)), .val (.int (own_lower (p0.toInt8.toInt32))), .val (.int ((p0.toInt8.toInt32) &&& (255 : Int32))), .val (.int (0 : Int32)), .val (.int (p0.toInt8.toInt32)), .val (.int (1 : Int32)), .unset, .unset] [(.int (1 : Int32))])) _
      refine own_by (fun _ kt => XS.istore X1.here hx rfl (hb hby at_79) rfl (l' := #[.val (.int p0), .val (.int (p0.toInt8.toInt32)), .val (.int (own_lower (p0.toInt8.toInt32))), .val (.int ((p0.toInt8.toInt32) &&& (255 : Int32))), .val (.int (0 : Int32)), .val (.int (p0.toInt8.toInt32)), .val (.int (1 : Int32)), .val (.int (1 : Int32)), .unset]) rfl kt) ?_
      show own_Go p.tables e below (T1.setTop (mkF m 81 #[.val (.int p0), .val (.int (p0.toInt8.toInt32)), .val (.int (own_lower (p0.toInt8.toInt32))), .val (.int ((p0.toInt8.toInt32) &&& (255 : Int32))), .val (.int (0 : Int32)), .val (.int (p0.toInt8.toInt32)), .val (.int (1 : Int32)), .val (.int (1 : Int32)), .unset] [])) _
      refine own_by (fun _ kt => XS.iloadN X1.here hx rfl (hb hby at_81) rfl kt) ?_
      show own_Go p.tables e below (T1.setTop (mkF m 82 #[.val (.int p0), .val (.int (p0.toInt8.toInt32)), .val (.int (own_lower (p0.toInt8.toInt32))), .val (.int ((p0.toInt8.toInt32) &&& (255 : Int32))), .val (.int (0 : Int32)), .val (.int (p0.toInt8.toInt32)), .val (.int (1 : Int32)), .val (.int (1 : Int32)), .unset] [(.int (own_lower (p0.toInt8.toInt32)))])) _
      obtain ⟨_, _, ⟨T4, L4, k4, n4⟩, -, X4, ⟨Lc4, hQ4, l4, y4, z4⟩, st4⟩ := Jvm.LawKit.callS X1 hx (y := (⟨"com/example/nousu/nousu/http/FieldNames", "lowerCase", "(B)B"⟩ : MethodName)) hown (mvT hZ (hw _ (List.mem_of_getElem? (i := 0) rfl))) (mvT hZ (hw _ (List.mem_of_getElem? (i := 1) rfl))) (mvT hZ (hw _ (List.mem_of_getElem? (i := 2) rfl))) (mvT hZ (hw _ (List.mem_of_getElem? (i := 3) rfl))) (by decide) (backOf (W := 0) (rm_own_lower l Z a0 hw [] (own_lower (p0.toInt8.toInt32)) h0 n0 Z0) hZ (hw _ (List.mem_of_getElem? (i := 3) rfl)) (hw _ (List.mem_of_getElem? (i := 2) rfl)) (by decide) (by decide)) (g := (mkF m 82 #[.val (.int p0), .val (.int (p0.toInt8.toInt32)), .val (.int (own_lower (p0.toInt8.toInt32))), .val (.int ((p0.toInt8.toInt32) &&& (255 : Int32))), .val (.int (0 : Int32)), .val (.int (p0.toInt8.toInt32)), .val (.int (1 : Int32)), .val (.int (1 : Int32)), .unset] [(.int (own_lower (p0.toInt8.toInt32)))])) rfl (by rw [hml]; rfl) (argsL := [(.int (own_lower (p0.toInt8.toInt32)))]) (rest := []) (lenOf pd_0 rfl) rfl (by show 2 * 0 + _ ≤ _; exact Nat.le_of_eq rfl) (hb hby at_82) (fun _ _ => ⟨rfl, eh1, (by decide : 0 + 0 ≤ _), (by decide : 0 + 0 ≤ _)⟩)
      dsimp only [Pt.U, Pt.locs, Pt.cells, Pt.slots] at X4 l4 y4 z4 st4 hQ4
      subst l4 y4 z4
      obtain ⟨rfl, Nq4, eh4⟩ := hQ4
      have N4 := Fr.app N1 Nq4
      refine own_by (st4) ?_
      show own_Go p.tables e below (T4.setTop (mkF m 85 #[.val (.int p0), .val (.int (p0.toInt8.toInt32)), .val (.int (own_lower (p0.toInt8.toInt32))), .val (.int ((p0.toInt8.toInt32) &&& (255 : Int32))), .val (.int (0 : Int32)), .val (.int (p0.toInt8.toInt32)), .val (.int (1 : Int32)), .val (.int (1 : Int32)), .unset] [(.int (own_lower (own_lower (p0.toInt8.toInt32))))])) _
      refine own_by (fun _ kt => XS.iloadN X4.here hx rfl (hb hby at_85) rfl kt) ?_
      show own_Go p.tables e below (T4.setTop (mkF m 86 #[.val (.int p0), .val (.int (p0.toInt8.toInt32)), .val (.int (own_lower (p0.toInt8.toInt32))), .val (.int ((p0.toInt8.toInt32) &&& (255 : Int32))), .val (.int (0 : Int32)), .val (.int (p0.toInt8.toInt32)), .val (.int (1 : Int32)), .val (.int (1 : Int32)), .unset] [(.int (own_lower (p0.toInt8.toInt32))), (.int (own_lower (own_lower (p0.toInt8.toInt32))))])) _
      refine own_by (fun _ kt => XS.icmpNo X4.here hx rfl (hb hby at_86) rfl (teq ((own_k1 _).2.2.2 : (own_lower (own_lower (p0.toInt8.toInt32))) = (own_lower (p0.toInt8.toInt32)))).2 kt) ?_
      show own_Go p.tables e below (T4.setTop (mkF m 89 #[.val (.int p0), .val (.int (p0.toInt8.toInt32)), .val (.int (own_lower (p0.toInt8.toInt32))), .val (.int ((p0.toInt8.toInt32) &&& (255 : Int32))), .val (.int (0 : Int32)), .val (.int (p0.toInt8.toInt32)), .val (.int (1 : Int32)), .val (.int (1 : Int32)), .unset] [])) _
      refine own_by (fun _ kt => XS.iconst X4.here hx rfl (hb hby at_89) kt) ?_
      show own_Go p.tables e below (T4.setTop (mkF m 90 #[.val (.int p0), .val (.int (p0.toInt8.toInt32)), .val (.int (own_lower (p0.toInt8.toInt32))), .val (.int ((p0.toInt8.toInt32) &&& (255 : Int32))), .val (.int (0 : Int32)), .val (.int (p0.toInt8.toInt32)), .val (.int (1 : Int32)), .val (.int (1 : Int32)), .unset] [(.int (1 : Int32))])) _
      refine own_by (fun _ kt => XS.goto X4.here hx rfl (pc0 := 90) (pc' := 94) rfl (hb hby at_90) (by decide) (by decide) kt) ?_
      show own_Go p.tables e below (T4.setTop (mkF m 94 #[.val (.int p0), .val (.int (p0.toInt8.toInt32)), .val (.int (own_lower (p0.toInt8.toInt32))), .val (.int ((p0.toInt8.toInt32) &&& (255 : Int32))), .val (.int (0 : Int32)), .val (.int (p0.toInt8.toInt32)), .val (.int (1 : Int32)), .val (.int (1 : Int32)), .unset] [(.int (1 : Int32))])) _
      refine own_by (fun _ kt => XS.istore X4.here hx rfl (hb hby at_94) rfl (l' := #[.val (.int p0), .val (.int (p0.toInt8.toInt32)), .val (.int (own_lower (p0.toInt8.toInt32))), .val (.int ((p0.toInt8.toInt32) &&& (255 : Int32))), .val (.int (0 : Int32)), .val (.int (p0.toInt8.toInt32)), .val (.int (1 : Int32)), .val (.int (1 : Int32)), .val (.int (1 : Int32))]) rfl kt) ?_
      show own_Go p.tables e below (T4.setTop (mkF m 96 #[.val (.int p0), .val (.int (p0.toInt8.toInt32)), .val (.int (own_lower (p0.toInt8.toInt32))), .val (.int ((p0.toInt8.toInt32) &&& (255 : Int32))), .val (.int (0 : Int32)), .val (.int (p0.toInt8.toInt32)), .val (.int (1 : Int32)), .val (.int (1 : Int32)), .val (.int (1 : Int32))] [])) _
      refine own_by (fun _ kt => XS.iload X4.here hx rfl (hb hby at_96) rfl kt) ?_
      show own_Go p.tables e below (T4.setTop (mkF m 98 #[.val (.int p0), .val (.int (p0.toInt8.toInt32)), .val (.int (own_lower (p0.toInt8.toInt32))), .val (.int ((p0.toInt8.toInt32) &&& (255 : Int32))), .val (.int (0 : Int32)), .val (.int (p0.toInt8.toInt32)), .val (.int (1 : Int32)), .val (.int (1 : Int32)), .val (.int (1 : Int32))] [(.int (1 : Int32))])) _
      refine own_by (fun _ kt => XS.ifNo X4.here hx rfl (hb hby at_98) rfl ((if0 _ _).trans (feq (by decide : ¬ ((1 : Int32) = (0 : Int32)))).1) kt) ?_
      show own_Go p.tables e below (T4.setTop (mkF m 101 #[.val (.int p0), .val (.int (p0.toInt8.toInt32)), .val (.int (own_lower (p0.toInt8.toInt32))), .val (.int ((p0.toInt8.toInt32) &&& (255 : Int32))), .val (.int (0 : Int32)), .val (.int (p0.toInt8.toInt32)), .val (.int (1 : Int32)), .val (.int (1 : Int32)), .val (.int (1 : Int32))] [])) _
      refine own_by (fun _ kt => XS.iload X4.here hx rfl (hb hby at_101) rfl kt) ?_
      show own_Go p.tables e below (T4.setTop (mkF m 103 #[.val (.int p0), .val (.int (p0.toInt8.toInt32)), .val (.int (own_lower (p0.toInt8.toInt32))), .val (.int ((p0.toInt8.toInt32) &&& (255 : Int32))), .val (.int (0 : Int32)), .val (.int (p0.toInt8.toInt32)), .val (.int (1 : Int32)), .val (.int (1 : Int32)), .val (.int (1 : Int32))] [(.int (1 : Int32))])) _
      refine own_by (fun _ kt => XS.ifNo X4.here hx rfl (hb hby at_103) rfl ((if0 _ _).trans (feq (by decide : ¬ ((1 : Int32) = (0 : Int32)))).1) kt) ?_
      show own_Go p.tables e below (T4.setTop (mkF m 106 #[.val (.int p0), .val (.int (p0.toInt8.toInt32)), .val (.int (own_lower (p0.toInt8.toInt32))), .val (.int ((p0.toInt8.toInt32) &&& (255 : Int32))), .val (.int (0 : Int32)), .val (.int (p0.toInt8.toInt32)), .val (.int (1 : Int32)), .val (.int (1 : Int32)), .val (.int (1 : Int32))] [])) _
      refine own_by (fun _ kt => XS.iload X4.here hx rfl (hb hby at_106) rfl kt) ?_
      show own_Go p.tables e below (T4.setTop (mkF m 108 #[.val (.int p0), .val (.int (p0.toInt8.toInt32)), .val (.int (own_lower (p0.toInt8.toInt32))), .val (.int ((p0.toInt8.toInt32) &&& (255 : Int32))), .val (.int (0 : Int32)), .val (.int (p0.toInt8.toInt32)), .val (.int (1 : Int32)), .val (.int (1 : Int32)), .val (.int (1 : Int32))] [(.int (1 : Int32))])) _
      refine own_by (fun _ kt => XS.ifNo X4.here hx rfl (hb hby at_108) rfl ((if0 _ _).trans (feq (by decide : ¬ ((1 : Int32) = (0 : Int32)))).1) kt) ?_
      show own_Go p.tables e below (T4.setTop (mkF m 111 #[.val (.int p0), .val (.int (p0.toInt8.toInt32)), .val (.int (own_lower (p0.toInt8.toInt32))), .val (.int ((p0.toInt8.toInt32) &&& (255 : Int32))), .val (.int (0 : Int32)), .val (.int (p0.toInt8.toInt32)), .val (.int (1 : Int32)), .val (.int (1 : Int32)), .val (.int (1 : Int32))] [])) _
      refine own_by (fun _ kt => XS.iconst X4.here hx rfl (hb hby at_111) kt) ?_
      show own_Go p.tables e below (T4.setTop (mkF m 112 #[.val (.int p0), .val (.int (p0.toInt8.toInt32)), .val (.int (own_lower (p0.toInt8.toInt32))), .val (.int ((p0.toInt8.toInt32) &&& (255 : Int32))), .val (.int (0 : Int32)), .val (.int (p0.toInt8.toInt32)), .val (.int (1 : Int32)), .val (.int (1 : Int32)), .val (.int (1 : Int32))] [(.int (1 : Int32))])) _
      refine own_by (fun _ kt => XS.goto X4.here hx rfl (pc0 := 112) (pc' := 116) rfl (hb hby at_112) (by decide) (by decide) kt) ?_
      show own_Go p.tables e below (T4.setTop (mkF m 116 #[.val (.int p0), .val (.int (p0.toInt8.toInt32)), .val (.int (own_lower (p0.toInt8.toInt32))), .val (.int ((p0.toInt8.toInt32) &&& (255 : Int32))), .val (.int (0 : Int32)), .val (.int (p0.toInt8.toInt32)), .val (.int (1 : Int32)), .val (.int (1 : Int32)), .val (.int (1 : Int32))] [(.int (1 : Int32))])) _
      exact own_retN X4 hx (t := .boolean) Bd.returns hlk (by simp) (hb hby at_116) ⟨rfl, N4⟩ (by decide) (by decide)
    · refine own_by (fun _ kt => XS.icmpNo X1.here hx rfl (hb hby at_65) rfl (flt hc65_3).1 kt) ?_
      show own_Go p.tables e below (T1.setTop (mkF m 68 #[.val (.int p0), .val (.int (p0.toInt8.toInt32)), .val (.int (own_lower (p0.toInt8.toInt32))), .val (.int ((p0.toInt8.toInt32) &&& (255 : Int32))), .val (.int (0 : Int32)), .val (.int (p0.toInt8.toInt32)), .val (.int (1 : Int32)), .unset, .unset] [])) _
      refine own_by (fun _ kt => XS.iloadN X1.here hx rfl (hb hby at_68) rfl kt) ?_
      show own_Go p.tables e below (T1.setTop (mkF m 69 #[.val (.int p0), .val (.int (p0.toInt8.toInt32)), .val (.int (own_lower (p0.toInt8.toInt32))), .val (.int ((p0.toInt8.toInt32) &&& (255 : Int32))), .val (.int (0 : Int32)), .val (.int (p0.toInt8.toInt32)), .val (.int (1 : Int32)), .unset, .unset] [(.int (own_lower (p0.toInt8.toInt32)))])) _
      refine own_by (fun _ kt => XS.bipush X1.here hx rfl (hb hby at_69) kt) ?_
      show own_Go p.tables e below (T1.setTop (mkF m 71 #[.val (.int p0), .val (.int (p0.toInt8.toInt32)), .val (.int (own_lower (p0.toInt8.toInt32))), .val (.int ((p0.toInt8.toInt32) &&& (255 : Int32))), .val (.int (0 : Int32)), .val (.int (p0.toInt8.toInt32)), .val (.int (1 : Int32)), .unset, .unset] [(.int (90 : Int32)), (.int (own_lower (p0.toInt8.toInt32)))])) _
      refine own_by (fun _ kt => XS.icmpNo X1.here hx rfl (hb hby at_71) rfl (tlt ((own_k1 _).2.2.1 hc65_3 : (90 : Int32) < (own_lower (p0.toInt8.toInt32)))).2.2.2 kt) ?_
      show own_Go p.tables e below (T1.setTop (mkF m 74 #[.val (.int p0), .val (.int (p0.toInt8.toInt32)), .val (.int (own_lower (p0.toInt8.toInt32))), .val (.int ((p0.toInt8.toInt32) &&& (255 : Int32))), .val (.int (0 : Int32)), .val (.int (p0.toInt8.toInt32)), .val (.int (1 : Int32)), .unset, .unset] [])) _
      refine own_by (fun _ kt => XS.iconst X1.here hx rfl (hb hby at_74) kt) ?_
      show own_Go p.tables e below (T1.setTop (mkF m 75 #[.val (.int p0), .val (.int (p0.toInt8.toInt32)), .val (.int (own_lower (p0.toInt8.toInt32))), .val (.int ((p0.toInt8.toInt32) &&& (255 : Int32))), .val (.int (0 : Int32)), .val (.int (p0.toInt8.toInt32)), .val (.int (1 : Int32)), .unset, .unset] [(.int (1 : Int32))])) _
      refine own_by (fun _ kt => XS.goto X1.here hx rfl (pc0 := 75) (pc' := 79) rfl (hb hby at_75) (by decide) (by decide) kt) ?_
      show own_Go p.tables e below (T1.setTop (mkF m 79 #[.val (.int p0), .val (.int (p0.toInt8.toInt32)), .val (.int (own_lower (p0.toInt8.toInt32))), .val (.int ((p0.toInt8.toInt32) &&& (255 : Int32))), .val (.int (0 : Int32)), .val (.int (p0.toInt8.toInt32)), .val (.int (1 : Int32)), .unset, .unset] [(.int (1 : Int32))])) _
      refine own_by (fun _ kt => XS.istore X1.here hx rfl (hb hby at_79) rfl (l' := #[.val (.int p0), .val (.int (p0.toInt8.toInt32)), .val (.int (own_lower (p0.toInt8.toInt32))), .val (.int ((p0.toInt8.toInt32) &&& (255 : Int32))), .val (.int (0 : Int32)), .val (.int (p0.toInt8.toInt32)), .val (.int (1 : Int32)), .val (.int (1 : Int32)), .unset]) rfl kt) ?_
      show own_Go p.tables e below (T1.setTop (mkF m 81 #[.val (.int p0), .val (.int (p0.toInt8.toInt32)), .val (.int (own_lower (p0.toInt8.toInt32))), .val (.int ((p0.toInt8.toInt32) &&& (255 : Int32))), .val (.int (0 : Int32)), .val (.int (p0.toInt8.toInt32)), .val (.int (1 : Int32)), .val (.int (1 : Int32)), .unset] [])) _
      refine own_by (fun _ kt => XS.iloadN X1.here hx rfl (hb hby at_81) rfl kt) ?_
      show own_Go p.tables e below (T1.setTop (mkF m 82 #[.val (.int p0), .val (.int (p0.toInt8.toInt32)), .val (.int (own_lower (p0.toInt8.toInt32))), .val (.int ((p0.toInt8.toInt32) &&& (255 : Int32))), .val (.int (0 : Int32)), .val (.int (p0.toInt8.toInt32)), .val (.int (1 : Int32)), .val (.int (1 : Int32)), .unset] [(.int (own_lower (p0.toInt8.toInt32)))])) _
      obtain ⟨_, _, ⟨T5, L5, k5, n5⟩, -, X5, ⟨Lc5, hQ5, l5, y5, z5⟩, st5⟩ := Jvm.LawKit.callS X1 hx (y := (⟨"com/example/nousu/nousu/http/FieldNames", "lowerCase", "(B)B"⟩ : MethodName)) hown (mvT hZ (hw _ (List.mem_of_getElem? (i := 0) rfl))) (mvT hZ (hw _ (List.mem_of_getElem? (i := 1) rfl))) (mvT hZ (hw _ (List.mem_of_getElem? (i := 2) rfl))) (mvT hZ (hw _ (List.mem_of_getElem? (i := 3) rfl))) (by decide) (backOf (W := 0) (rm_own_lower l Z a0 hw [] (own_lower (p0.toInt8.toInt32)) h0 n0 Z0) hZ (hw _ (List.mem_of_getElem? (i := 3) rfl)) (hw _ (List.mem_of_getElem? (i := 2) rfl)) (by decide) (by decide)) (g := (mkF m 82 #[.val (.int p0), .val (.int (p0.toInt8.toInt32)), .val (.int (own_lower (p0.toInt8.toInt32))), .val (.int ((p0.toInt8.toInt32) &&& (255 : Int32))), .val (.int (0 : Int32)), .val (.int (p0.toInt8.toInt32)), .val (.int (1 : Int32)), .val (.int (1 : Int32)), .unset] [(.int (own_lower (p0.toInt8.toInt32)))])) rfl (by rw [hml]; rfl) (argsL := [(.int (own_lower (p0.toInt8.toInt32)))]) (rest := []) (lenOf pd_0 rfl) rfl (by show 2 * 0 + _ ≤ _; exact Nat.le_of_eq rfl) (hb hby at_82) (fun _ _ => ⟨rfl, eh1, (by decide : 0 + 0 ≤ _), (by decide : 0 + 0 ≤ _)⟩)
      dsimp only [Pt.U, Pt.locs, Pt.cells, Pt.slots] at X5 l5 y5 z5 st5 hQ5
      subst l5 y5 z5
      obtain ⟨rfl, Nq5, eh5⟩ := hQ5
      have N5 := Fr.app N1 Nq5
      refine own_by (st5) ?_
      show own_Go p.tables e below (T5.setTop (mkF m 85 #[.val (.int p0), .val (.int (p0.toInt8.toInt32)), .val (.int (own_lower (p0.toInt8.toInt32))), .val (.int ((p0.toInt8.toInt32) &&& (255 : Int32))), .val (.int (0 : Int32)), .val (.int (p0.toInt8.toInt32)), .val (.int (1 : Int32)), .val (.int (1 : Int32)), .unset] [(.int (own_lower (own_lower (p0.toInt8.toInt32))))])) _
      refine own_by (fun _ kt => XS.iloadN X5.here hx rfl (hb hby at_85) rfl kt) ?_
      show own_Go p.tables e below (T5.setTop (mkF m 86 #[.val (.int p0), .val (.int (p0.toInt8.toInt32)), .val (.int (own_lower (p0.toInt8.toInt32))), .val (.int ((p0.toInt8.toInt32) &&& (255 : Int32))), .val (.int (0 : Int32)), .val (.int (p0.toInt8.toInt32)), .val (.int (1 : Int32)), .val (.int (1 : Int32)), .unset] [(.int (own_lower (p0.toInt8.toInt32))), (.int (own_lower (own_lower (p0.toInt8.toInt32))))])) _
      refine own_by (fun _ kt => XS.icmpNo X5.here hx rfl (hb hby at_86) rfl (teq ((own_k1 _).2.2.2 : (own_lower (own_lower (p0.toInt8.toInt32))) = (own_lower (p0.toInt8.toInt32)))).2 kt) ?_
      show own_Go p.tables e below (T5.setTop (mkF m 89 #[.val (.int p0), .val (.int (p0.toInt8.toInt32)), .val (.int (own_lower (p0.toInt8.toInt32))), .val (.int ((p0.toInt8.toInt32) &&& (255 : Int32))), .val (.int (0 : Int32)), .val (.int (p0.toInt8.toInt32)), .val (.int (1 : Int32)), .val (.int (1 : Int32)), .unset] [])) _
      refine own_by (fun _ kt => XS.iconst X5.here hx rfl (hb hby at_89) kt) ?_
      show own_Go p.tables e below (T5.setTop (mkF m 90 #[.val (.int p0), .val (.int (p0.toInt8.toInt32)), .val (.int (own_lower (p0.toInt8.toInt32))), .val (.int ((p0.toInt8.toInt32) &&& (255 : Int32))), .val (.int (0 : Int32)), .val (.int (p0.toInt8.toInt32)), .val (.int (1 : Int32)), .val (.int (1 : Int32)), .unset] [(.int (1 : Int32))])) _
      refine own_by (fun _ kt => XS.goto X5.here hx rfl (pc0 := 90) (pc' := 94) rfl (hb hby at_90) (by decide) (by decide) kt) ?_
      show own_Go p.tables e below (T5.setTop (mkF m 94 #[.val (.int p0), .val (.int (p0.toInt8.toInt32)), .val (.int (own_lower (p0.toInt8.toInt32))), .val (.int ((p0.toInt8.toInt32) &&& (255 : Int32))), .val (.int (0 : Int32)), .val (.int (p0.toInt8.toInt32)), .val (.int (1 : Int32)), .val (.int (1 : Int32)), .unset] [(.int (1 : Int32))])) _
      refine own_by (fun _ kt => XS.istore X5.here hx rfl (hb hby at_94) rfl (l' := #[.val (.int p0), .val (.int (p0.toInt8.toInt32)), .val (.int (own_lower (p0.toInt8.toInt32))), .val (.int ((p0.toInt8.toInt32) &&& (255 : Int32))), .val (.int (0 : Int32)), .val (.int (p0.toInt8.toInt32)), .val (.int (1 : Int32)), .val (.int (1 : Int32)), .val (.int (1 : Int32))]) rfl kt) ?_
      show own_Go p.tables e below (T5.setTop (mkF m 96 #[.val (.int p0), .val (.int (p0.toInt8.toInt32)), .val (.int (own_lower (p0.toInt8.toInt32))), .val (.int ((p0.toInt8.toInt32) &&& (255 : Int32))), .val (.int (0 : Int32)), .val (.int (p0.toInt8.toInt32)), .val (.int (1 : Int32)), .val (.int (1 : Int32)), .val (.int (1 : Int32))] [])) _
      refine own_by (fun _ kt => XS.iload X5.here hx rfl (hb hby at_96) rfl kt) ?_
      show own_Go p.tables e below (T5.setTop (mkF m 98 #[.val (.int p0), .val (.int (p0.toInt8.toInt32)), .val (.int (own_lower (p0.toInt8.toInt32))), .val (.int ((p0.toInt8.toInt32) &&& (255 : Int32))), .val (.int (0 : Int32)), .val (.int (p0.toInt8.toInt32)), .val (.int (1 : Int32)), .val (.int (1 : Int32)), .val (.int (1 : Int32))] [(.int (1 : Int32))])) _
      refine own_by (fun _ kt => XS.ifNo X5.here hx rfl (hb hby at_98) rfl ((if0 _ _).trans (feq (by decide : ¬ ((1 : Int32) = (0 : Int32)))).1) kt) ?_
      show own_Go p.tables e below (T5.setTop (mkF m 101 #[.val (.int p0), .val (.int (p0.toInt8.toInt32)), .val (.int (own_lower (p0.toInt8.toInt32))), .val (.int ((p0.toInt8.toInt32) &&& (255 : Int32))), .val (.int (0 : Int32)), .val (.int (p0.toInt8.toInt32)), .val (.int (1 : Int32)), .val (.int (1 : Int32)), .val (.int (1 : Int32))] [])) _
      refine own_by (fun _ kt => XS.iload X5.here hx rfl (hb hby at_101) rfl kt) ?_
      show own_Go p.tables e below (T5.setTop (mkF m 103 #[.val (.int p0), .val (.int (p0.toInt8.toInt32)), .val (.int (own_lower (p0.toInt8.toInt32))), .val (.int ((p0.toInt8.toInt32) &&& (255 : Int32))), .val (.int (0 : Int32)), .val (.int (p0.toInt8.toInt32)), .val (.int (1 : Int32)), .val (.int (1 : Int32)), .val (.int (1 : Int32))] [(.int (1 : Int32))])) _
      refine own_by (fun _ kt => XS.ifNo X5.here hx rfl (hb hby at_103) rfl ((if0 _ _).trans (feq (by decide : ¬ ((1 : Int32) = (0 : Int32)))).1) kt) ?_
      show own_Go p.tables e below (T5.setTop (mkF m 106 #[.val (.int p0), .val (.int (p0.toInt8.toInt32)), .val (.int (own_lower (p0.toInt8.toInt32))), .val (.int ((p0.toInt8.toInt32) &&& (255 : Int32))), .val (.int (0 : Int32)), .val (.int (p0.toInt8.toInt32)), .val (.int (1 : Int32)), .val (.int (1 : Int32)), .val (.int (1 : Int32))] [])) _
      refine own_by (fun _ kt => XS.iload X5.here hx rfl (hb hby at_106) rfl kt) ?_
      show own_Go p.tables e below (T5.setTop (mkF m 108 #[.val (.int p0), .val (.int (p0.toInt8.toInt32)), .val (.int (own_lower (p0.toInt8.toInt32))), .val (.int ((p0.toInt8.toInt32) &&& (255 : Int32))), .val (.int (0 : Int32)), .val (.int (p0.toInt8.toInt32)), .val (.int (1 : Int32)), .val (.int (1 : Int32)), .val (.int (1 : Int32))] [(.int (1 : Int32))])) _
      refine own_by (fun _ kt => XS.ifNo X5.here hx rfl (hb hby at_108) rfl ((if0 _ _).trans (feq (by decide : ¬ ((1 : Int32) = (0 : Int32)))).1) kt) ?_
      show own_Go p.tables e below (T5.setTop (mkF m 111 #[.val (.int p0), .val (.int (p0.toInt8.toInt32)), .val (.int (own_lower (p0.toInt8.toInt32))), .val (.int ((p0.toInt8.toInt32) &&& (255 : Int32))), .val (.int (0 : Int32)), .val (.int (p0.toInt8.toInt32)), .val (.int (1 : Int32)), .val (.int (1 : Int32)), .val (.int (1 : Int32))] [])) _
      refine own_by (fun _ kt => XS.iconst X5.here hx rfl (hb hby at_111) kt) ?_
      show own_Go p.tables e below (T5.setTop (mkF m 112 #[.val (.int p0), .val (.int (p0.toInt8.toInt32)), .val (.int (own_lower (p0.toInt8.toInt32))), .val (.int ((p0.toInt8.toInt32) &&& (255 : Int32))), .val (.int (0 : Int32)), .val (.int (p0.toInt8.toInt32)), .val (.int (1 : Int32)), .val (.int (1 : Int32)), .val (.int (1 : Int32))] [(.int (1 : Int32))])) _
      refine own_by (fun _ kt => XS.goto X5.here hx rfl (pc0 := 112) (pc' := 116) rfl (hb hby at_112) (by decide) (by decide) kt) ?_
      show own_Go p.tables e below (T5.setTop (mkF m 116 #[.val (.int p0), .val (.int (p0.toInt8.toInt32)), .val (.int (own_lower (p0.toInt8.toInt32))), .val (.int ((p0.toInt8.toInt32) &&& (255 : Int32))), .val (.int (0 : Int32)), .val (.int (p0.toInt8.toInt32)), .val (.int (1 : Int32)), .val (.int (1 : Int32)), .val (.int (1 : Int32))] [(.int (1 : Int32))])) _
      exact own_retN X5 hx (t := .boolean) Bd.returns hlk (by simp) (hb hby at_116) ⟨rfl, N5⟩ (by decide) (by decide)
  · refine own_by (fun _ kt => XS.icmpNo X1.here hx rfl (hb hby at_17) rfl (flt hc17_2).1 kt) ?_
    show own_Go p.tables e below (T1.setTop (mkF m 20 #[.val (.int p0), .val (.int (p0.toInt8.toInt32)), .val (.int (own_lower (p0.toInt8.toInt32))), .val (.int ((p0.toInt8.toInt32) &&& (255 : Int32))), .unset, .unset, .unset, .unset, .unset] [])) _
    refine own_by (fun _ kt => XS.iloadN X1.here hx rfl (hb hby at_20) rfl kt) ?_
    show own_Go p.tables e below (T1.setTop (mkF m 21 #[.val (.int p0), .val (.int (p0.toInt8.toInt32)), .val (.int (own_lower (p0.toInt8.toInt32))), .val (.int ((p0.toInt8.toInt32) &&& (255 : Int32))), .unset, .unset, .unset, .unset, .unset] [(.int ((p0.toInt8.toInt32) &&& (255 : Int32)))])) _
    refine own_by (fun _ kt => XS.bipush X1.here hx rfl (hb hby at_21) kt) ?_
    show own_Go p.tables e below (T1.setTop (mkF m 23 #[.val (.int p0), .val (.int (p0.toInt8.toInt32)), .val (.int (own_lower (p0.toInt8.toInt32))), .val (.int ((p0.toInt8.toInt32) &&& (255 : Int32))), .unset, .unset, .unset, .unset, .unset] [(.int (90 : Int32)), (.int ((p0.toInt8.toInt32) &&& (255 : Int32)))])) _
    by_cases hc23_6 : (90 : Int32) < ((p0.toInt8.toInt32) &&& (255 : Int32))
    · refine own_by (fun _ kt => XS.icmpYes X1.here hx rfl (pc0 := 23) (pc' := 30) rfl (hb hby at_23) rfl (tlt hc23_6).2.2.1 (by decide) (by decide) kt) ?_
      show own_Go p.tables e below (T1.setTop (mkF m 30 #[.val (.int p0), .val (.int (p0.toInt8.toInt32)), .val (.int (own_lower (p0.toInt8.toInt32))), .val (.int ((p0.toInt8.toInt32) &&& (255 : Int32))), .unset, .unset, .unset, .unset, .unset] [])) _
      refine own_by (fun _ kt => XS.iconst X1.here hx rfl (hb hby at_30) kt) ?_
      show own_Go p.tables e below (T1.setTop (mkF m 31 #[.val (.int p0), .val (.int (p0.toInt8.toInt32)), .val (.int (own_lower (p0.toInt8.toInt32))), .val (.int ((p0.toInt8.toInt32) &&& (255 : Int32))), .unset, .unset, .unset, .unset, .unset] [(.int (0 : Int32))])) _
      refine own_by (fun _ kt => XS.istore X1.here hx rfl (hb hby at_31) rfl (l' := #[.val (.int p0), .val (.int (p0.toInt8.toInt32)), .val (.int (own_lower (p0.toInt8.toInt32))), .val (.int ((p0.toInt8.toInt32) &&& (255 : Int32))), .val (.int (0 : Int32)), .unset, .unset, .unset, .unset]) rfl kt) ?_
      show own_Go p.tables e below (T1.setTop (mkF m 33 #[.val (.int p0), .val (.int (p0.toInt8.toInt32)), .val (.int (own_lower (p0.toInt8.toInt32))), .val (.int ((p0.toInt8.toInt32) &&& (255 : Int32))), .val (.int (0 : Int32)), .unset, .unset, .unset, .unset] [])) _
      refine own_by (fun _ kt => XS.iload X1.here hx rfl (hb hby at_33) rfl kt) ?_
      show own_Go p.tables e below (T1.setTop (mkF m 35 #[.val (.int p0), .val (.int (p0.toInt8.toInt32)), .val (.int (own_lower (p0.toInt8.toInt32))), .val (.int ((p0.toInt8.toInt32) &&& (255 : Int32))), .val (.int (0 : Int32)), .unset, .unset, .unset, .unset] [(.int (0 : Int32))])) _
      refine own_by (fun _ kt => XS.ifYes X1.here hx rfl (pc0 := 35) (pc' := 46) rfl (hb hby at_35) rfl ((if0 _ _).trans (teq (by decide : (0 : Int32) = (0 : Int32))).1) (by decide) (by decide) kt) ?_
      show own_Go p.tables e below (T1.setTop (mkF m 46 #[.val (.int p0), .val (.int (p0.toInt8.toInt32)), .val (.int (own_lower (p0.toInt8.toInt32))), .val (.int ((p0.toInt8.toInt32) &&& (255 : Int32))), .val (.int (0 : Int32)), .unset, .unset, .unset, .unset] [])) _
      refine own_by (fun _ kt => XS.iloadN X1.here hx rfl (hb hby at_46) rfl kt) ?_
      show own_Go p.tables e below (T1.setTop (mkF m 47 #[.val (.int p0), .val (.int (p0.toInt8.toInt32)), .val (.int (own_lower (p0.toInt8.toInt32))), .val (.int ((p0.toInt8.toInt32) &&& (255 : Int32))), .val (.int (0 : Int32)), .unset, .unset, .unset, .unset] [(.int (p0.toInt8.toInt32))])) _
      refine own_by (fun _ kt => XS.istore X1.here hx rfl (hb hby at_47) rfl (l' := #[.val (.int p0), .val (.int (p0.toInt8.toInt32)), .val (.int (own_lower (p0.toInt8.toInt32))), .val (.int ((p0.toInt8.toInt32) &&& (255 : Int32))), .val (.int (0 : Int32)), .val (.int (p0.toInt8.toInt32)), .unset, .unset, .unset]) rfl kt) ?_
      show own_Go p.tables e below (T1.setTop (mkF m 49 #[.val (.int p0), .val (.int (p0.toInt8.toInt32)), .val (.int (own_lower (p0.toInt8.toInt32))), .val (.int ((p0.toInt8.toInt32) &&& (255 : Int32))), .val (.int (0 : Int32)), .val (.int (p0.toInt8.toInt32)), .unset, .unset, .unset] [])) _
      refine own_by (fun _ kt => XS.iloadN X1.here hx rfl (hb hby at_49) rfl kt) ?_
      show own_Go p.tables e below (T1.setTop (mkF m 50 #[.val (.int p0), .val (.int (p0.toInt8.toInt32)), .val (.int (own_lower (p0.toInt8.toInt32))), .val (.int ((p0.toInt8.toInt32) &&& (255 : Int32))), .val (.int (0 : Int32)), .val (.int (p0.toInt8.toInt32)), .unset, .unset, .unset] [(.int (own_lower (p0.toInt8.toInt32)))])) _
      refine own_by (fun _ kt => XS.iload X1.here hx rfl (hb hby at_50) rfl kt) ?_
      show own_Go p.tables e below (T1.setTop (mkF m 52 #[.val (.int p0), .val (.int (p0.toInt8.toInt32)), .val (.int (own_lower (p0.toInt8.toInt32))), .val (.int ((p0.toInt8.toInt32) &&& (255 : Int32))), .val (.int (0 : Int32)), .val (.int (p0.toInt8.toInt32)), .unset, .unset, .unset] [(.int (p0.toInt8.toInt32)), (.int (own_lower (p0.toInt8.toInt32)))])) _
      refine own_by (fun _ kt => XS.icmpNo X1.here hx rfl (hb hby at_52) rfl (teq ((own_k1 _).1 (Or.inr hc23_6) : (own_lower (p0.toInt8.toInt32)) = (p0.toInt8.toInt32))).2 kt) ?_
      show own_Go p.tables e below (T1.setTop (mkF m 55 #[.val (.int p0), .val (.int (p0.toInt8.toInt32)), .val (.int (own_lower (p0.toInt8.toInt32))), .val (.int ((p0.toInt8.toInt32) &&& (255 : Int32))), .val (.int (0 : Int32)), .val (.int (p0.toInt8.toInt32)), .unset, .unset, .unset] [])) _
      refine own_by (fun _ kt => XS.iconst X1.here hx rfl (hb hby at_55) kt) ?_
      show own_Go p.tables e below (T1.setTop (mkF m 56 #[.val (.int p0), .val (.int (p0.toInt8.toInt32)), .val (.int (own_lower (p0.toInt8.toInt32))), .val (.int ((p0.toInt8.toInt32) &&& (255 : Int32))), .val (.int (0 : Int32)), .val (.int (p0.toInt8.toInt32)), .unset, .unset, .unset] [(.int (1 : Int32))])) _
      refine own_by (fun _ kt => XS.goto X1.here hx rfl (pc0 := 56) (pc' := 60) rfl (hb hby at_56) (by decide) (by decide) kt) ?_
      show own_Go p.tables e below (T1.setTop (mkF m 60 #[.val (.int p0), .val (.int (p0.toInt8.toInt32)), .val (.int (own_lower (p0.toInt8.toInt32))), .val (.int ((p0.toInt8.toInt32) &&& (255 : Int32))), .val (.int (0 : Int32)), .val (.int (p0.toInt8.toInt32)), .unset, .unset, .unset] [(.int (1 : Int32))])) _
      refine own_by (fun _ kt => XS.istore X1.here hx rfl (hb hby at_60) rfl (l' := #[.val (.int p0), .val (.int (p0.toInt8.toInt32)), .val (.int (own_lower (p0.toInt8.toInt32))), .val (.int ((p0.toInt8.toInt32) &&& (255 : Int32))), .val (.int (0 : Int32)), .val (.int (p0.toInt8.toInt32)), .val (.int (1 : Int32)), .unset, .unset]) rfl kt) ?_
      show own_Go p.tables e below (T1.setTop (mkF m 62 #[.val (.int p0), .val (.int (p0.toInt8.toInt32)), .val (.int (own_lower (p0.toInt8.toInt32))), .val (.int ((p0.toInt8.toInt32) &&& (255 : Int32))), .val (.int (0 : Int32)), .val (.int (p0.toInt8.toInt32)), .val (.int (1 : Int32)), .unset, .unset] [])) _
      refine own_by (fun _ kt => XS.iloadN X1.here hx rfl (hb hby at_62) rfl kt) ?_
      show own_Go p.tables e below (T1.setTop (mkF m 63 #[.val (.int p0), .val (.int (p0.toInt8.toInt32)), .val (.int (own_lower (p0.toInt8.toInt32))), .val (.int ((p0.toInt8.toInt32) &&& (255 : Int32))), .val (.int (0 : Int32)), .val (.int (p0.toInt8.toInt32)), .val (.int (1 : Int32)), .unset, .unset] [(.int (own_lower (p0.toInt8.toInt32)))])) _
      refine own_by (fun _ kt => XS.bipush X1.here hx rfl (hb hby at_63) kt) ?_
      show own_Go p.tables e below (T1.setTop (mkF m 65 #[.val (.int p0), .val (.int (p0.toInt8.toInt32)), .val (.int (own_lower (p0.toInt8.toInt32))), .val (.int ((p0.toInt8.toInt32) &&& (255 : Int32))), .val (.int (0 : Int32)), .val (.int (p0.toInt8.toInt32)), .val (.int (1 : Int32)), .unset, .unset] [(.int (65 : Int32)), (.int (own_lower (p0.toInt8.toInt32)))])) _
      by_cases hc65_7 : (own_lower (p0.toInt8.toInt32)) < (65 : Int32)
      · refine own_by (fun _ kt => XS.icmpYes X1.here hx rfl (pc0 := 65) (pc' := 74) rfl (hb hby at_65) rfl (tlt hc65_7).1 (by decide) (by decide) kt) ?_
        show own_Go p.tables e below (T1.setTop (mkF m 74 #[.val (.int p0), .val (.int (p0.toInt8.toInt32)), .val (.int (own_lower (p0.toInt8.toInt32))), .val (.int ((p0.toInt8.toInt32) &&& (255 : Int32))), .val (.int (0 : Int32)), .val (.int (p0.toInt8.toInt32)), .val (.int (1 : Int32)), .unset, .unset] [])) _
        refine own_by (fun _ kt => XS.iconst X1.here hx rfl (hb hby at_74) kt) ?_
        show own_Go p.tables e below (T1.setTop (mkF m 75 #[.val (.int p0), .val (.int (p0.toInt8.toInt32)), .val (.int (own_lower (p0.toInt8.toInt32))), .val (.int ((p0.toInt8.toInt32) &&& (255 : Int32))), .val (.int (0 : Int32)), .val (.int (p0.toInt8.toInt32)), .val (.int (1 : Int32)), .unset, .unset] [(.int (1 : Int32))])) _
        refine own_by (fun _ kt => XS.goto X1.here hx rfl (pc0 := 75) (pc' := 79) rfl (hb hby at_75) (by decide) (by decide) kt) ?_
        show own_Go p.tables e below (T1.setTop (mkF m 79 #[.val (.int p0), .val (.int (p0.toInt8.toInt32)), .val (.int (own_lower (p0.toInt8.toInt32))), .val (.int ((p0.toInt8.toInt32) &&& (255 : Int32))), .val (.int (0 : Int32)), .val (.int (p0.toInt8.toInt32)), .val (.int (1 : Int32)), .unset, .unset] [(.int (1 : Int32))])) _
        refine own_by (fun _ kt => XS.istore X1.here hx rfl (hb hby at_79) rfl (l' := #[.val (.int p0), .val (.int (p0.toInt8.toInt32)), .val (.int (own_lower (p0.toInt8.toInt32))), .val (.int ((p0.toInt8.toInt32) &&& (255 : Int32))), .val (.int (0 : Int32)), .val (.int (p0.toInt8.toInt32)), .val (.int (1 : Int32)), .val (.int (1 : Int32)), .unset]) rfl kt) ?_
        show own_Go p.tables e below (T1.setTop (mkF m 81 #[.val (.int p0), .val (.int (p0.toInt8.toInt32)), .val (.int (own_lower (p0.toInt8.toInt32))), .val (.int ((p0.toInt8.toInt32) &&& (255 : Int32))), .val (.int (0 : Int32)), .val (.int (p0.toInt8.toInt32)), .val (.int (1 : Int32)), .val (.int (1 : Int32)), .unset] [])) _
        refine own_by (fun _ kt => XS.iloadN X1.here hx rfl (hb hby at_81) rfl kt) ?_
        show own_Go p.tables e below (T1.setTop (mkF m 82 #[.val (.int p0), .val (.int (p0.toInt8.toInt32)), .val (.int (own_lower (p0.toInt8.toInt32))), .val (.int ((p0.toInt8.toInt32) &&& (255 : Int32))), .val (.int (0 : Int32)), .val (.int (p0.toInt8.toInt32)), .val (.int (1 : Int32)), .val (.int (1 : Int32)), .unset] [(.int (own_lower (p0.toInt8.toInt32)))])) _
        obtain ⟨_, _, ⟨T8, L8, k8, n8⟩, -, X8, ⟨Lc8, hQ8, l8, y8, z8⟩, st8⟩ := Jvm.LawKit.callS X1 hx (y := (⟨"com/example/nousu/nousu/http/FieldNames", "lowerCase", "(B)B"⟩ : MethodName)) hown (mvT hZ (hw _ (List.mem_of_getElem? (i := 0) rfl))) (mvT hZ (hw _ (List.mem_of_getElem? (i := 1) rfl))) (mvT hZ (hw _ (List.mem_of_getElem? (i := 2) rfl))) (mvT hZ (hw _ (List.mem_of_getElem? (i := 3) rfl))) (by decide) (backOf (W := 0) (rm_own_lower l Z a0 hw [] (own_lower (p0.toInt8.toInt32)) h0 n0 Z0) hZ (hw _ (List.mem_of_getElem? (i := 3) rfl)) (hw _ (List.mem_of_getElem? (i := 2) rfl)) (by decide) (by decide)) (g := (mkF m 82 #[.val (.int p0), .val (.int (p0.toInt8.toInt32)), .val (.int (own_lower (p0.toInt8.toInt32))), .val (.int ((p0.toInt8.toInt32) &&& (255 : Int32))), .val (.int (0 : Int32)), .val (.int (p0.toInt8.toInt32)), .val (.int (1 : Int32)), .val (.int (1 : Int32)), .unset] [(.int (own_lower (p0.toInt8.toInt32)))])) rfl (by rw [hml]; rfl) (argsL := [(.int (own_lower (p0.toInt8.toInt32)))]) (rest := []) (lenOf pd_0 rfl) rfl (by show 2 * 0 + _ ≤ _; exact Nat.le_of_eq rfl) (hb hby at_82) (fun _ _ => ⟨rfl, eh1, (by decide : 0 + 0 ≤ _), (by decide : 0 + 0 ≤ _)⟩)
        dsimp only [Pt.U, Pt.locs, Pt.cells, Pt.slots] at X8 l8 y8 z8 st8 hQ8
        subst l8 y8 z8
        obtain ⟨rfl, Nq8, eh8⟩ := hQ8
        have N8 := Fr.app N1 Nq8
        refine own_by (st8) ?_
        show own_Go p.tables e below (T8.setTop (mkF m 85 #[.val (.int p0), .val (.int (p0.toInt8.toInt32)), .val (.int (own_lower (p0.toInt8.toInt32))), .val (.int ((p0.toInt8.toInt32) &&& (255 : Int32))), .val (.int (0 : Int32)), .val (.int (p0.toInt8.toInt32)), .val (.int (1 : Int32)), .val (.int (1 : Int32)), .unset] [(.int (own_lower (own_lower (p0.toInt8.toInt32))))])) _
        refine own_by (fun _ kt => XS.iloadN X8.here hx rfl (hb hby at_85) rfl kt) ?_
        show own_Go p.tables e below (T8.setTop (mkF m 86 #[.val (.int p0), .val (.int (p0.toInt8.toInt32)), .val (.int (own_lower (p0.toInt8.toInt32))), .val (.int ((p0.toInt8.toInt32) &&& (255 : Int32))), .val (.int (0 : Int32)), .val (.int (p0.toInt8.toInt32)), .val (.int (1 : Int32)), .val (.int (1 : Int32)), .unset] [(.int (own_lower (p0.toInt8.toInt32))), (.int (own_lower (own_lower (p0.toInt8.toInt32))))])) _
        refine own_by (fun _ kt => XS.icmpNo X8.here hx rfl (hb hby at_86) rfl (teq ((own_k1 _).2.2.2 : (own_lower (own_lower (p0.toInt8.toInt32))) = (own_lower (p0.toInt8.toInt32)))).2 kt) ?_
        show own_Go p.tables e below (T8.setTop (mkF m 89 #[.val (.int p0), .val (.int (p0.toInt8.toInt32)), .val (.int (own_lower (p0.toInt8.toInt32))), .val (.int ((p0.toInt8.toInt32) &&& (255 : Int32))), .val (.int (0 : Int32)), .val (.int (p0.toInt8.toInt32)), .val (.int (1 : Int32)), .val (.int (1 : Int32)), .unset] [])) _
        refine own_by (fun _ kt => XS.iconst X8.here hx rfl (hb hby at_89) kt) ?_
        show own_Go p.tables e below (T8.setTop (mkF m 90 #[.val (.int p0), .val (.int (p0.toInt8.toInt32)), .val (.int (own_lower (p0.toInt8.toInt32))), .val (.int ((p0.toInt8.toInt32) &&& (255 : Int32))), .val (.int (0 : Int32)), .val (.int (p0.toInt8.toInt32)), .val (.int (1 : Int32)), .val (.int (1 : Int32)), .unset] [(.int (1 : Int32))])) _
        refine own_by (fun _ kt => XS.goto X8.here hx rfl (pc0 := 90) (pc' := 94) rfl (hb hby at_90) (by decide) (by decide) kt) ?_
        show own_Go p.tables e below (T8.setTop (mkF m 94 #[.val (.int p0), .val (.int (p0.toInt8.toInt32)), .val (.int (own_lower (p0.toInt8.toInt32))), .val (.int ((p0.toInt8.toInt32) &&& (255 : Int32))), .val (.int (0 : Int32)), .val (.int (p0.toInt8.toInt32)), .val (.int (1 : Int32)), .val (.int (1 : Int32)), .unset] [(.int (1 : Int32))])) _
        refine own_by (fun _ kt => XS.istore X8.here hx rfl (hb hby at_94) rfl (l' := #[.val (.int p0), .val (.int (p0.toInt8.toInt32)), .val (.int (own_lower (p0.toInt8.toInt32))), .val (.int ((p0.toInt8.toInt32) &&& (255 : Int32))), .val (.int (0 : Int32)), .val (.int (p0.toInt8.toInt32)), .val (.int (1 : Int32)), .val (.int (1 : Int32)), .val (.int (1 : Int32))]) rfl kt) ?_
        show own_Go p.tables e below (T8.setTop (mkF m 96 #[.val (.int p0), .val (.int (p0.toInt8.toInt32)), .val (.int (own_lower (p0.toInt8.toInt32))), .val (.int ((p0.toInt8.toInt32) &&& (255 : Int32))), .val (.int (0 : Int32)), .val (.int (p0.toInt8.toInt32)), .val (.int (1 : Int32)), .val (.int (1 : Int32)), .val (.int (1 : Int32))] [])) _
        refine own_by (fun _ kt => XS.iload X8.here hx rfl (hb hby at_96) rfl kt) ?_
        show own_Go p.tables e below (T8.setTop (mkF m 98 #[.val (.int p0), .val (.int (p0.toInt8.toInt32)), .val (.int (own_lower (p0.toInt8.toInt32))), .val (.int ((p0.toInt8.toInt32) &&& (255 : Int32))), .val (.int (0 : Int32)), .val (.int (p0.toInt8.toInt32)), .val (.int (1 : Int32)), .val (.int (1 : Int32)), .val (.int (1 : Int32))] [(.int (1 : Int32))])) _
        refine own_by (fun _ kt => XS.ifNo X8.here hx rfl (hb hby at_98) rfl ((if0 _ _).trans (feq (by decide : ¬ ((1 : Int32) = (0 : Int32)))).1) kt) ?_
        show own_Go p.tables e below (T8.setTop (mkF m 101 #[.val (.int p0), .val (.int (p0.toInt8.toInt32)), .val (.int (own_lower (p0.toInt8.toInt32))), .val (.int ((p0.toInt8.toInt32) &&& (255 : Int32))), .val (.int (0 : Int32)), .val (.int (p0.toInt8.toInt32)), .val (.int (1 : Int32)), .val (.int (1 : Int32)), .val (.int (1 : Int32))] [])) _
        refine own_by (fun _ kt => XS.iload X8.here hx rfl (hb hby at_101) rfl kt) ?_
        show own_Go p.tables e below (T8.setTop (mkF m 103 #[.val (.int p0), .val (.int (p0.toInt8.toInt32)), .val (.int (own_lower (p0.toInt8.toInt32))), .val (.int ((p0.toInt8.toInt32) &&& (255 : Int32))), .val (.int (0 : Int32)), .val (.int (p0.toInt8.toInt32)), .val (.int (1 : Int32)), .val (.int (1 : Int32)), .val (.int (1 : Int32))] [(.int (1 : Int32))])) _
        refine own_by (fun _ kt => XS.ifNo X8.here hx rfl (hb hby at_103) rfl ((if0 _ _).trans (feq (by decide : ¬ ((1 : Int32) = (0 : Int32)))).1) kt) ?_
        show own_Go p.tables e below (T8.setTop (mkF m 106 #[.val (.int p0), .val (.int (p0.toInt8.toInt32)), .val (.int (own_lower (p0.toInt8.toInt32))), .val (.int ((p0.toInt8.toInt32) &&& (255 : Int32))), .val (.int (0 : Int32)), .val (.int (p0.toInt8.toInt32)), .val (.int (1 : Int32)), .val (.int (1 : Int32)), .val (.int (1 : Int32))] [])) _
        refine own_by (fun _ kt => XS.iload X8.here hx rfl (hb hby at_106) rfl kt) ?_
        show own_Go p.tables e below (T8.setTop (mkF m 108 #[.val (.int p0), .val (.int (p0.toInt8.toInt32)), .val (.int (own_lower (p0.toInt8.toInt32))), .val (.int ((p0.toInt8.toInt32) &&& (255 : Int32))), .val (.int (0 : Int32)), .val (.int (p0.toInt8.toInt32)), .val (.int (1 : Int32)), .val (.int (1 : Int32)), .val (.int (1 : Int32))] [(.int (1 : Int32))])) _
        refine own_by (fun _ kt => XS.ifNo X8.here hx rfl (hb hby at_108) rfl ((if0 _ _).trans (feq (by decide : ¬ ((1 : Int32) = (0 : Int32)))).1) kt) ?_
        show own_Go p.tables e below (T8.setTop (mkF m 111 #[.val (.int p0), .val (.int (p0.toInt8.toInt32)), .val (.int (own_lower (p0.toInt8.toInt32))), .val (.int ((p0.toInt8.toInt32) &&& (255 : Int32))), .val (.int (0 : Int32)), .val (.int (p0.toInt8.toInt32)), .val (.int (1 : Int32)), .val (.int (1 : Int32)), .val (.int (1 : Int32))] [])) _
        refine own_by (fun _ kt => XS.iconst X8.here hx rfl (hb hby at_111) kt) ?_
        show own_Go p.tables e below (T8.setTop (mkF m 112 #[.val (.int p0), .val (.int (p0.toInt8.toInt32)), .val (.int (own_lower (p0.toInt8.toInt32))), .val (.int ((p0.toInt8.toInt32) &&& (255 : Int32))), .val (.int (0 : Int32)), .val (.int (p0.toInt8.toInt32)), .val (.int (1 : Int32)), .val (.int (1 : Int32)), .val (.int (1 : Int32))] [(.int (1 : Int32))])) _
        refine own_by (fun _ kt => XS.goto X8.here hx rfl (pc0 := 112) (pc' := 116) rfl (hb hby at_112) (by decide) (by decide) kt) ?_
        show own_Go p.tables e below (T8.setTop (mkF m 116 #[.val (.int p0), .val (.int (p0.toInt8.toInt32)), .val (.int (own_lower (p0.toInt8.toInt32))), .val (.int ((p0.toInt8.toInt32) &&& (255 : Int32))), .val (.int (0 : Int32)), .val (.int (p0.toInt8.toInt32)), .val (.int (1 : Int32)), .val (.int (1 : Int32)), .val (.int (1 : Int32))] [(.int (1 : Int32))])) _
        exact own_retN X8 hx (t := .boolean) Bd.returns hlk (by simp) (hb hby at_116) ⟨rfl, N8⟩ (by decide) (by decide)
      · refine own_by (fun _ kt => XS.icmpNo X1.here hx rfl (hb hby at_65) rfl (flt hc65_7).1 kt) ?_
        show own_Go p.tables e below (T1.setTop (mkF m 68 #[.val (.int p0), .val (.int (p0.toInt8.toInt32)), .val (.int (own_lower (p0.toInt8.toInt32))), .val (.int ((p0.toInt8.toInt32) &&& (255 : Int32))), .val (.int (0 : Int32)), .val (.int (p0.toInt8.toInt32)), .val (.int (1 : Int32)), .unset, .unset] [])) _
        refine own_by (fun _ kt => XS.iloadN X1.here hx rfl (hb hby at_68) rfl kt) ?_
        show own_Go p.tables e below (T1.setTop (mkF m 69 #[.val (.int p0), .val (.int (p0.toInt8.toInt32)), .val (.int (own_lower (p0.toInt8.toInt32))), .val (.int ((p0.toInt8.toInt32) &&& (255 : Int32))), .val (.int (0 : Int32)), .val (.int (p0.toInt8.toInt32)), .val (.int (1 : Int32)), .unset, .unset] [(.int (own_lower (p0.toInt8.toInt32)))])) _
        refine own_by (fun _ kt => XS.bipush X1.here hx rfl (hb hby at_69) kt) ?_
        show own_Go p.tables e below (T1.setTop (mkF m 71 #[.val (.int p0), .val (.int (p0.toInt8.toInt32)), .val (.int (own_lower (p0.toInt8.toInt32))), .val (.int ((p0.toInt8.toInt32) &&& (255 : Int32))), .val (.int (0 : Int32)), .val (.int (p0.toInt8.toInt32)), .val (.int (1 : Int32)), .unset, .unset] [(.int (90 : Int32)), (.int (own_lower (p0.toInt8.toInt32)))])) _
        refine own_by (fun _ kt => XS.icmpNo X1.here hx rfl (hb hby at_71) rfl (tlt ((own_k1 _).2.2.1 hc65_7 : (90 : Int32) < (own_lower (p0.toInt8.toInt32)))).2.2.2 kt) ?_
        show own_Go p.tables e below (T1.setTop (mkF m 74 #[.val (.int p0), .val (.int (p0.toInt8.toInt32)), .val (.int (own_lower (p0.toInt8.toInt32))), .val (.int ((p0.toInt8.toInt32) &&& (255 : Int32))), .val (.int (0 : Int32)), .val (.int (p0.toInt8.toInt32)), .val (.int (1 : Int32)), .unset, .unset] [])) _
        refine own_by (fun _ kt => XS.iconst X1.here hx rfl (hb hby at_74) kt) ?_
        show own_Go p.tables e below (T1.setTop (mkF m 75 #[.val (.int p0), .val (.int (p0.toInt8.toInt32)), .val (.int (own_lower (p0.toInt8.toInt32))), .val (.int ((p0.toInt8.toInt32) &&& (255 : Int32))), .val (.int (0 : Int32)), .val (.int (p0.toInt8.toInt32)), .val (.int (1 : Int32)), .unset, .unset] [(.int (1 : Int32))])) _
        refine own_by (fun _ kt => XS.goto X1.here hx rfl (pc0 := 75) (pc' := 79) rfl (hb hby at_75) (by decide) (by decide) kt) ?_
        show own_Go p.tables e below (T1.setTop (mkF m 79 #[.val (.int p0), .val (.int (p0.toInt8.toInt32)), .val (.int (own_lower (p0.toInt8.toInt32))), .val (.int ((p0.toInt8.toInt32) &&& (255 : Int32))), .val (.int (0 : Int32)), .val (.int (p0.toInt8.toInt32)), .val (.int (1 : Int32)), .unset, .unset] [(.int (1 : Int32))])) _
        refine own_by (fun _ kt => XS.istore X1.here hx rfl (hb hby at_79) rfl (l' := #[.val (.int p0), .val (.int (p0.toInt8.toInt32)), .val (.int (own_lower (p0.toInt8.toInt32))), .val (.int ((p0.toInt8.toInt32) &&& (255 : Int32))), .val (.int (0 : Int32)), .val (.int (p0.toInt8.toInt32)), .val (.int (1 : Int32)), .val (.int (1 : Int32)), .unset]) rfl kt) ?_
        show own_Go p.tables e below (T1.setTop (mkF m 81 #[.val (.int p0), .val (.int (p0.toInt8.toInt32)), .val (.int (own_lower (p0.toInt8.toInt32))), .val (.int ((p0.toInt8.toInt32) &&& (255 : Int32))), .val (.int (0 : Int32)), .val (.int (p0.toInt8.toInt32)), .val (.int (1 : Int32)), .val (.int (1 : Int32)), .unset] [])) _
        refine own_by (fun _ kt => XS.iloadN X1.here hx rfl (hb hby at_81) rfl kt) ?_
        show own_Go p.tables e below (T1.setTop (mkF m 82 #[.val (.int p0), .val (.int (p0.toInt8.toInt32)), .val (.int (own_lower (p0.toInt8.toInt32))), .val (.int ((p0.toInt8.toInt32) &&& (255 : Int32))), .val (.int (0 : Int32)), .val (.int (p0.toInt8.toInt32)), .val (.int (1 : Int32)), .val (.int (1 : Int32)), .unset] [(.int (own_lower (p0.toInt8.toInt32)))])) _
        obtain ⟨_, _, ⟨T9, L9, k9, n9⟩, -, X9, ⟨Lc9, hQ9, l9, y9, z9⟩, st9⟩ := Jvm.LawKit.callS X1 hx (y := (⟨"com/example/nousu/nousu/http/FieldNames", "lowerCase", "(B)B"⟩ : MethodName)) hown (mvT hZ (hw _ (List.mem_of_getElem? (i := 0) rfl))) (mvT hZ (hw _ (List.mem_of_getElem? (i := 1) rfl))) (mvT hZ (hw _ (List.mem_of_getElem? (i := 2) rfl))) (mvT hZ (hw _ (List.mem_of_getElem? (i := 3) rfl))) (by decide) (backOf (W := 0) (rm_own_lower l Z a0 hw [] (own_lower (p0.toInt8.toInt32)) h0 n0 Z0) hZ (hw _ (List.mem_of_getElem? (i := 3) rfl)) (hw _ (List.mem_of_getElem? (i := 2) rfl)) (by decide) (by decide)) (g := (mkF m 82 #[.val (.int p0), .val (.int (p0.toInt8.toInt32)), .val (.int (own_lower (p0.toInt8.toInt32))), .val (.int ((p0.toInt8.toInt32) &&& (255 : Int32))), .val (.int (0 : Int32)), .val (.int (p0.toInt8.toInt32)), .val (.int (1 : Int32)), .val (.int (1 : Int32)), .unset] [(.int (own_lower (p0.toInt8.toInt32)))])) rfl (by rw [hml]; rfl) (argsL := [(.int (own_lower (p0.toInt8.toInt32)))]) (rest := []) (lenOf pd_0 rfl) rfl (by show 2 * 0 + _ ≤ _; exact Nat.le_of_eq rfl) (hb hby at_82) (fun _ _ => ⟨rfl, eh1, (by decide : 0 + 0 ≤ _), (by decide : 0 + 0 ≤ _)⟩)
        dsimp only [Pt.U, Pt.locs, Pt.cells, Pt.slots] at X9 l9 y9 z9 st9 hQ9
        subst l9 y9 z9
        obtain ⟨rfl, Nq9, eh9⟩ := hQ9
        have N9 := Fr.app N1 Nq9
        refine own_by (st9) ?_
        show own_Go p.tables e below (T9.setTop (mkF m 85 #[.val (.int p0), .val (.int (p0.toInt8.toInt32)), .val (.int (own_lower (p0.toInt8.toInt32))), .val (.int ((p0.toInt8.toInt32) &&& (255 : Int32))), .val (.int (0 : Int32)), .val (.int (p0.toInt8.toInt32)), .val (.int (1 : Int32)), .val (.int (1 : Int32)), .unset] [(.int (own_lower (own_lower (p0.toInt8.toInt32))))])) _
        refine own_by (fun _ kt => XS.iloadN X9.here hx rfl (hb hby at_85) rfl kt) ?_
        show own_Go p.tables e below (T9.setTop (mkF m 86 #[.val (.int p0), .val (.int (p0.toInt8.toInt32)), .val (.int (own_lower (p0.toInt8.toInt32))), .val (.int ((p0.toInt8.toInt32) &&& (255 : Int32))), .val (.int (0 : Int32)), .val (.int (p0.toInt8.toInt32)), .val (.int (1 : Int32)), .val (.int (1 : Int32)), .unset] [(.int (own_lower (p0.toInt8.toInt32))), (.int (own_lower (own_lower (p0.toInt8.toInt32))))])) _
        refine own_by (fun _ kt => XS.icmpNo X9.here hx rfl (hb hby at_86) rfl (teq ((own_k1 _).2.2.2 : (own_lower (own_lower (p0.toInt8.toInt32))) = (own_lower (p0.toInt8.toInt32)))).2 kt) ?_
        show own_Go p.tables e below (T9.setTop (mkF m 89 #[.val (.int p0), .val (.int (p0.toInt8.toInt32)), .val (.int (own_lower (p0.toInt8.toInt32))), .val (.int ((p0.toInt8.toInt32) &&& (255 : Int32))), .val (.int (0 : Int32)), .val (.int (p0.toInt8.toInt32)), .val (.int (1 : Int32)), .val (.int (1 : Int32)), .unset] [])) _
        refine own_by (fun _ kt => XS.iconst X9.here hx rfl (hb hby at_89) kt) ?_
        show own_Go p.tables e below (T9.setTop (mkF m 90 #[.val (.int p0), .val (.int (p0.toInt8.toInt32)), .val (.int (own_lower (p0.toInt8.toInt32))), .val (.int ((p0.toInt8.toInt32) &&& (255 : Int32))), .val (.int (0 : Int32)), .val (.int (p0.toInt8.toInt32)), .val (.int (1 : Int32)), .val (.int (1 : Int32)), .unset] [(.int (1 : Int32))])) _
        refine own_by (fun _ kt => XS.goto X9.here hx rfl (pc0 := 90) (pc' := 94) rfl (hb hby at_90) (by decide) (by decide) kt) ?_
        show own_Go p.tables e below (T9.setTop (mkF m 94 #[.val (.int p0), .val (.int (p0.toInt8.toInt32)), .val (.int (own_lower (p0.toInt8.toInt32))), .val (.int ((p0.toInt8.toInt32) &&& (255 : Int32))), .val (.int (0 : Int32)), .val (.int (p0.toInt8.toInt32)), .val (.int (1 : Int32)), .val (.int (1 : Int32)), .unset] [(.int (1 : Int32))])) _
        refine own_by (fun _ kt => XS.istore X9.here hx rfl (hb hby at_94) rfl (l' := #[.val (.int p0), .val (.int (p0.toInt8.toInt32)), .val (.int (own_lower (p0.toInt8.toInt32))), .val (.int ((p0.toInt8.toInt32) &&& (255 : Int32))), .val (.int (0 : Int32)), .val (.int (p0.toInt8.toInt32)), .val (.int (1 : Int32)), .val (.int (1 : Int32)), .val (.int (1 : Int32))]) rfl kt) ?_
        show own_Go p.tables e below (T9.setTop (mkF m 96 #[.val (.int p0), .val (.int (p0.toInt8.toInt32)), .val (.int (own_lower (p0.toInt8.toInt32))), .val (.int ((p0.toInt8.toInt32) &&& (255 : Int32))), .val (.int (0 : Int32)), .val (.int (p0.toInt8.toInt32)), .val (.int (1 : Int32)), .val (.int (1 : Int32)), .val (.int (1 : Int32))] [])) _
        refine own_by (fun _ kt => XS.iload X9.here hx rfl (hb hby at_96) rfl kt) ?_
        show own_Go p.tables e below (T9.setTop (mkF m 98 #[.val (.int p0), .val (.int (p0.toInt8.toInt32)), .val (.int (own_lower (p0.toInt8.toInt32))), .val (.int ((p0.toInt8.toInt32) &&& (255 : Int32))), .val (.int (0 : Int32)), .val (.int (p0.toInt8.toInt32)), .val (.int (1 : Int32)), .val (.int (1 : Int32)), .val (.int (1 : Int32))] [(.int (1 : Int32))])) _
        refine own_by (fun _ kt => XS.ifNo X9.here hx rfl (hb hby at_98) rfl ((if0 _ _).trans (feq (by decide : ¬ ((1 : Int32) = (0 : Int32)))).1) kt) ?_
        show own_Go p.tables e below (T9.setTop (mkF m 101 #[.val (.int p0), .val (.int (p0.toInt8.toInt32)), .val (.int (own_lower (p0.toInt8.toInt32))), .val (.int ((p0.toInt8.toInt32) &&& (255 : Int32))), .val (.int (0 : Int32)), .val (.int (p0.toInt8.toInt32)), .val (.int (1 : Int32)), .val (.int (1 : Int32)), .val (.int (1 : Int32))] [])) _
        refine own_by (fun _ kt => XS.iload X9.here hx rfl (hb hby at_101) rfl kt) ?_
        show own_Go p.tables e below (T9.setTop (mkF m 103 #[.val (.int p0), .val (.int (p0.toInt8.toInt32)), .val (.int (own_lower (p0.toInt8.toInt32))), .val (.int ((p0.toInt8.toInt32) &&& (255 : Int32))), .val (.int (0 : Int32)), .val (.int (p0.toInt8.toInt32)), .val (.int (1 : Int32)), .val (.int (1 : Int32)), .val (.int (1 : Int32))] [(.int (1 : Int32))])) _
        refine own_by (fun _ kt => XS.ifNo X9.here hx rfl (hb hby at_103) rfl ((if0 _ _).trans (feq (by decide : ¬ ((1 : Int32) = (0 : Int32)))).1) kt) ?_
        show own_Go p.tables e below (T9.setTop (mkF m 106 #[.val (.int p0), .val (.int (p0.toInt8.toInt32)), .val (.int (own_lower (p0.toInt8.toInt32))), .val (.int ((p0.toInt8.toInt32) &&& (255 : Int32))), .val (.int (0 : Int32)), .val (.int (p0.toInt8.toInt32)), .val (.int (1 : Int32)), .val (.int (1 : Int32)), .val (.int (1 : Int32))] [])) _
        refine own_by (fun _ kt => XS.iload X9.here hx rfl (hb hby at_106) rfl kt) ?_
        show own_Go p.tables e below (T9.setTop (mkF m 108 #[.val (.int p0), .val (.int (p0.toInt8.toInt32)), .val (.int (own_lower (p0.toInt8.toInt32))), .val (.int ((p0.toInt8.toInt32) &&& (255 : Int32))), .val (.int (0 : Int32)), .val (.int (p0.toInt8.toInt32)), .val (.int (1 : Int32)), .val (.int (1 : Int32)), .val (.int (1 : Int32))] [(.int (1 : Int32))])) _
        refine own_by (fun _ kt => XS.ifNo X9.here hx rfl (hb hby at_108) rfl ((if0 _ _).trans (feq (by decide : ¬ ((1 : Int32) = (0 : Int32)))).1) kt) ?_
        show own_Go p.tables e below (T9.setTop (mkF m 111 #[.val (.int p0), .val (.int (p0.toInt8.toInt32)), .val (.int (own_lower (p0.toInt8.toInt32))), .val (.int ((p0.toInt8.toInt32) &&& (255 : Int32))), .val (.int (0 : Int32)), .val (.int (p0.toInt8.toInt32)), .val (.int (1 : Int32)), .val (.int (1 : Int32)), .val (.int (1 : Int32))] [])) _
        refine own_by (fun _ kt => XS.iconst X9.here hx rfl (hb hby at_111) kt) ?_
        show own_Go p.tables e below (T9.setTop (mkF m 112 #[.val (.int p0), .val (.int (p0.toInt8.toInt32)), .val (.int (own_lower (p0.toInt8.toInt32))), .val (.int ((p0.toInt8.toInt32) &&& (255 : Int32))), .val (.int (0 : Int32)), .val (.int (p0.toInt8.toInt32)), .val (.int (1 : Int32)), .val (.int (1 : Int32)), .val (.int (1 : Int32))] [(.int (1 : Int32))])) _
        refine own_by (fun _ kt => XS.goto X9.here hx rfl (pc0 := 112) (pc' := 116) rfl (hb hby at_112) (by decide) (by decide) kt) ?_
        show own_Go p.tables e below (T9.setTop (mkF m 116 #[.val (.int p0), .val (.int (p0.toInt8.toInt32)), .val (.int (own_lower (p0.toInt8.toInt32))), .val (.int ((p0.toInt8.toInt32) &&& (255 : Int32))), .val (.int (0 : Int32)), .val (.int (p0.toInt8.toInt32)), .val (.int (1 : Int32)), .val (.int (1 : Int32)), .val (.int (1 : Int32))] [(.int (1 : Int32))])) _
        exact own_retN X9 hx (t := .boolean) Bd.returns hlk (by simp) (hb hby at_116) ⟨rfl, N9⟩ (by decide) (by decide)
    · refine own_by (fun _ kt => XS.icmpNo X1.here hx rfl (hb hby at_23) rfl (flt hc23_6).2.2.1 kt) ?_
      show own_Go p.tables e below (T1.setTop (mkF m 26 #[.val (.int p0), .val (.int (p0.toInt8.toInt32)), .val (.int (own_lower (p0.toInt8.toInt32))), .val (.int ((p0.toInt8.toInt32) &&& (255 : Int32))), .unset, .unset, .unset, .unset, .unset] [])) _
      refine own_by (fun _ kt => XS.iconst X1.here hx rfl (hb hby at_26) kt) ?_
      show own_Go p.tables e below (T1.setTop (mkF m 27 #[.val (.int p0), .val (.int (p0.toInt8.toInt32)), .val (.int (own_lower (p0.toInt8.toInt32))), .val (.int ((p0.toInt8.toInt32) &&& (255 : Int32))), .unset, .unset, .unset, .unset, .unset] [(.int (1 : Int32))])) _
      refine own_by (fun _ kt => XS.goto X1.here hx rfl (pc0 := 27) (pc' := 31) rfl (hb hby at_27) (by decide) (by decide) kt) ?_
      show own_Go p.tables e below (T1.setTop (mkF m 31 #[.val (.int p0), .val (.int (p0.toInt8.toInt32)), .val (.int (own_lower (p0.toInt8.toInt32))), .val (.int ((p0.toInt8.toInt32) &&& (255 : Int32))), .unset, .unset, .unset, .unset, .unset] [(.int (1 : Int32))])) _
      refine own_by (fun _ kt => XS.istore X1.here hx rfl (hb hby at_31) rfl (l' := #[.val (.int p0), .val (.int (p0.toInt8.toInt32)), .val (.int (own_lower (p0.toInt8.toInt32))), .val (.int ((p0.toInt8.toInt32) &&& (255 : Int32))), .val (.int (1 : Int32)), .unset, .unset, .unset, .unset]) rfl kt) ?_
      show own_Go p.tables e below (T1.setTop (mkF m 33 #[.val (.int p0), .val (.int (p0.toInt8.toInt32)), .val (.int (own_lower (p0.toInt8.toInt32))), .val (.int ((p0.toInt8.toInt32) &&& (255 : Int32))), .val (.int (1 : Int32)), .unset, .unset, .unset, .unset] [])) _
      refine own_by (fun _ kt => XS.iload X1.here hx rfl (hb hby at_33) rfl kt) ?_
      show own_Go p.tables e below (T1.setTop (mkF m 35 #[.val (.int p0), .val (.int (p0.toInt8.toInt32)), .val (.int (own_lower (p0.toInt8.toInt32))), .val (.int ((p0.toInt8.toInt32) &&& (255 : Int32))), .val (.int (1 : Int32)), .unset, .unset, .unset, .unset] [(.int (1 : Int32))])) _
      refine own_by (fun _ kt => XS.ifNo X1.here hx rfl (hb hby at_35) rfl ((if0 _ _).trans (feq (by decide : ¬ ((1 : Int32) = (0 : Int32)))).1) kt) ?_
      show own_Go p.tables e below (T1.setTop (mkF m 38 #[.val (.int p0), .val (.int (p0.toInt8.toInt32)), .val (.int (own_lower (p0.toInt8.toInt32))), .val (.int ((p0.toInt8.toInt32) &&& (255 : Int32))), .val (.int (1 : Int32)), .unset, .unset, .unset, .unset] [])) _
      refine own_by (fun _ kt => XS.iloadN X1.here hx rfl (hb hby at_38) rfl kt) ?_
      show own_Go p.tables e below (T1.setTop (mkF m 39 #[.val (.int p0), .val (.int (p0.toInt8.toInt32)), .val (.int (own_lower (p0.toInt8.toInt32))), .val (.int ((p0.toInt8.toInt32) &&& (255 : Int32))), .val (.int (1 : Int32)), .unset, .unset, .unset, .unset] [(.int ((p0.toInt8.toInt32) &&& (255 : Int32)))])) _
      refine own_by (fun _ kt => XS.bipush X1.here hx rfl (hb hby at_39) kt) ?_
      show own_Go p.tables e below (T1.setTop (mkF m 41 #[.val (.int p0), .val (.int (p0.toInt8.toInt32)), .val (.int (own_lower (p0.toInt8.toInt32))), .val (.int ((p0.toInt8.toInt32) &&& (255 : Int32))), .val (.int (1 : Int32)), .unset, .unset, .unset, .unset] [(.int (32 : Int32)), (.int ((p0.toInt8.toInt32) &&& (255 : Int32)))])) _
      refine own_by (fun _ kt => XS.ior X1.here hx rfl (hb hby at_41) rfl kt) ?_
      show own_Go p.tables e below (T1.setTop (mkF m 42 #[.val (.int p0), .val (.int (p0.toInt8.toInt32)), .val (.int (own_lower (p0.toInt8.toInt32))), .val (.int ((p0.toInt8.toInt32) &&& (255 : Int32))), .val (.int (1 : Int32)), .unset, .unset, .unset, .unset] [(.int (((p0.toInt8.toInt32) &&& (255 : Int32)) ||| (32 : Int32)))])) _
      refine own_by (fun _ kt => XS.i2b X1.here hx rfl (hb hby at_42) rfl kt) ?_
      show own_Go p.tables e below (T1.setTop (mkF m 43 #[.val (.int p0), .val (.int (p0.toInt8.toInt32)), .val (.int (own_lower (p0.toInt8.toInt32))), .val (.int ((p0.toInt8.toInt32) &&& (255 : Int32))), .val (.int (1 : Int32)), .unset, .unset, .unset, .unset] [(.int ((((p0.toInt8.toInt32) &&& (255 : Int32)) ||| (32 : Int32)).toInt8.toInt32))])) _
      refine own_by (fun _ kt => XS.goto X1.here hx rfl (pc0 := 43) (pc' := 47) rfl (hb hby at_43) (by decide) (by decide) kt) ?_
      show own_Go p.tables e below (T1.setTop (mkF m 47 #[.val (.int p0), .val (.int (p0.toInt8.toInt32)), .val (.int (own_lower (p0.toInt8.toInt32))), .val (.int ((p0.toInt8.toInt32) &&& (255 : Int32))), .val (.int (1 : Int32)), .unset, .unset, .unset, .unset] [(.int ((((p0.toInt8.toInt32) &&& (255 : Int32)) ||| (32 : Int32)).toInt8.toInt32))])) _
      refine own_by (fun _ kt => XS.istore X1.here hx rfl (hb hby at_47) rfl (l' := #[.val (.int p0), .val (.int (p0.toInt8.toInt32)), .val (.int (own_lower (p0.toInt8.toInt32))), .val (.int ((p0.toInt8.toInt32) &&& (255 : Int32))), .val (.int (1 : Int32)), .val (.int ((((p0.toInt8.toInt32) &&& (255 : Int32)) ||| (32 : Int32)).toInt8.toInt32)), .unset, .unset, .unset]) rfl kt) ?_
      show own_Go p.tables e below (T1.setTop (mkF m 49 #[.val (.int p0), .val (.int (p0.toInt8.toInt32)), .val (.int (own_lower (p0.toInt8.toInt32))), .val (.int ((p0.toInt8.toInt32) &&& (255 : Int32))), .val (.int (1 : Int32)), .val (.int ((((p0.toInt8.toInt32) &&& (255 : Int32)) ||| (32 : Int32)).toInt8.toInt32)), .unset, .unset, .unset] [])) _
      refine own_by (fun _ kt => XS.iloadN X1.here hx rfl (hb hby at_49) rfl kt) ?_
      show own_Go p.tables e below (T1.setTop (mkF m 50 #[.val (.int p0), .val (.int (p0.toInt8.toInt32)), .val (.int (own_lower (p0.toInt8.toInt32))), .val (.int ((p0.toInt8.toInt32) &&& (255 : Int32))), .val (.int (1 : Int32)), .val (.int ((((p0.toInt8.toInt32) &&& (255 : Int32)) ||| (32 : Int32)).toInt8.toInt32)), .unset, .unset, .unset] [(.int (own_lower (p0.toInt8.toInt32)))])) _
      refine own_by (fun _ kt => XS.iload X1.here hx rfl (hb hby at_50) rfl kt) ?_
      show own_Go p.tables e below (T1.setTop (mkF m 52 #[.val (.int p0), .val (.int (p0.toInt8.toInt32)), .val (.int (own_lower (p0.toInt8.toInt32))), .val (.int ((p0.toInt8.toInt32) &&& (255 : Int32))), .val (.int (1 : Int32)), .val (.int ((((p0.toInt8.toInt32) &&& (255 : Int32)) ||| (32 : Int32)).toInt8.toInt32)), .unset, .unset, .unset] [(.int ((((p0.toInt8.toInt32) &&& (255 : Int32)) ||| (32 : Int32)).toInt8.toInt32)), (.int (own_lower (p0.toInt8.toInt32)))])) _
      refine own_by (fun _ kt => XS.icmpNo X1.here hx rfl (hb hby at_52) rfl (teq ((own_k1 _).2.1 hc17_2 hc23_6 : (own_lower (p0.toInt8.toInt32)) = ((((p0.toInt8.toInt32) &&& (255 : Int32)) ||| (32 : Int32)).toInt8.toInt32))).2 kt) ?_
      show own_Go p.tables e below (T1.setTop (mkF m 55 #[.val (.int p0), .val (.int (p0.toInt8.toInt32)), .val (.int (own_lower (p0.toInt8.toInt32))), .val (.int ((p0.toInt8.toInt32) &&& (255 : Int32))), .val (.int (1 : Int32)), .val (.int ((((p0.toInt8.toInt32) &&& (255 : Int32)) ||| (32 : Int32)).toInt8.toInt32)), .unset, .unset, .unset] [])) _
      refine own_by (fun _ kt => XS.iconst X1.here hx rfl (hb hby at_55) kt) ?_
      show own_Go p.tables e below (T1.setTop (mkF m 56 #[.val (.int p0), .val (.int (p0.toInt8.toInt32)), .val (.int (own_lower (p0.toInt8.toInt32))), .val (.int ((p0.toInt8.toInt32) &&& (255 : Int32))), .val (.int (1 : Int32)), .val (.int ((((p0.toInt8.toInt32) &&& (255 : Int32)) ||| (32 : Int32)).toInt8.toInt32)), .unset, .unset, .unset] [(.int (1 : Int32))])) _
      refine own_by (fun _ kt => XS.goto X1.here hx rfl (pc0 := 56) (pc' := 60) rfl (hb hby at_56) (by decide) (by decide) kt) ?_
      show own_Go p.tables e below (T1.setTop (mkF m 60 #[.val (.int p0), .val (.int (p0.toInt8.toInt32)), .val (.int (own_lower (p0.toInt8.toInt32))), .val (.int ((p0.toInt8.toInt32) &&& (255 : Int32))), .val (.int (1 : Int32)), .val (.int ((((p0.toInt8.toInt32) &&& (255 : Int32)) ||| (32 : Int32)).toInt8.toInt32)), .unset, .unset, .unset] [(.int (1 : Int32))])) _
      refine own_by (fun _ kt => XS.istore X1.here hx rfl (hb hby at_60) rfl (l' := #[.val (.int p0), .val (.int (p0.toInt8.toInt32)), .val (.int (own_lower (p0.toInt8.toInt32))), .val (.int ((p0.toInt8.toInt32) &&& (255 : Int32))), .val (.int (1 : Int32)), .val (.int ((((p0.toInt8.toInt32) &&& (255 : Int32)) ||| (32 : Int32)).toInt8.toInt32)), .val (.int (1 : Int32)), .unset, .unset]) rfl kt) ?_
      show own_Go p.tables e below (T1.setTop (mkF m 62 #[.val (.int p0), .val (.int (p0.toInt8.toInt32)), .val (.int (own_lower (p0.toInt8.toInt32))), .val (.int ((p0.toInt8.toInt32) &&& (255 : Int32))), .val (.int (1 : Int32)), .val (.int ((((p0.toInt8.toInt32) &&& (255 : Int32)) ||| (32 : Int32)).toInt8.toInt32)), .val (.int (1 : Int32)), .unset, .unset] [])) _
      refine own_by (fun _ kt => XS.iloadN X1.here hx rfl (hb hby at_62) rfl kt) ?_
      show own_Go p.tables e below (T1.setTop (mkF m 63 #[.val (.int p0), .val (.int (p0.toInt8.toInt32)), .val (.int (own_lower (p0.toInt8.toInt32))), .val (.int ((p0.toInt8.toInt32) &&& (255 : Int32))), .val (.int (1 : Int32)), .val (.int ((((p0.toInt8.toInt32) &&& (255 : Int32)) ||| (32 : Int32)).toInt8.toInt32)), .val (.int (1 : Int32)), .unset, .unset] [(.int (own_lower (p0.toInt8.toInt32)))])) _
      refine own_by (fun _ kt => XS.bipush X1.here hx rfl (hb hby at_63) kt) ?_
      show own_Go p.tables e below (T1.setTop (mkF m 65 #[.val (.int p0), .val (.int (p0.toInt8.toInt32)), .val (.int (own_lower (p0.toInt8.toInt32))), .val (.int ((p0.toInt8.toInt32) &&& (255 : Int32))), .val (.int (1 : Int32)), .val (.int ((((p0.toInt8.toInt32) &&& (255 : Int32)) ||| (32 : Int32)).toInt8.toInt32)), .val (.int (1 : Int32)), .unset, .unset] [(.int (65 : Int32)), (.int (own_lower (p0.toInt8.toInt32)))])) _
      by_cases hc65_10 : (own_lower (p0.toInt8.toInt32)) < (65 : Int32)
      · refine own_by (fun _ kt => XS.icmpYes X1.here hx rfl (pc0 := 65) (pc' := 74) rfl (hb hby at_65) rfl (tlt hc65_10).1 (by decide) (by decide) kt) ?_
        show own_Go p.tables e below (T1.setTop (mkF m 74 #[.val (.int p0), .val (.int (p0.toInt8.toInt32)), .val (.int (own_lower (p0.toInt8.toInt32))), .val (.int ((p0.toInt8.toInt32) &&& (255 : Int32))), .val (.int (1 : Int32)), .val (.int ((((p0.toInt8.toInt32) &&& (255 : Int32)) ||| (32 : Int32)).toInt8.toInt32)), .val (.int (1 : Int32)), .unset, .unset] [])) _
        refine own_by (fun _ kt => XS.iconst X1.here hx rfl (hb hby at_74) kt) ?_
        show own_Go p.tables e below (T1.setTop (mkF m 75 #[.val (.int p0), .val (.int (p0.toInt8.toInt32)), .val (.int (own_lower (p0.toInt8.toInt32))), .val (.int ((p0.toInt8.toInt32) &&& (255 : Int32))), .val (.int (1 : Int32)), .val (.int ((((p0.toInt8.toInt32) &&& (255 : Int32)) ||| (32 : Int32)).toInt8.toInt32)), .val (.int (1 : Int32)), .unset, .unset] [(.int (1 : Int32))])) _
        refine own_by (fun _ kt => XS.goto X1.here hx rfl (pc0 := 75) (pc' := 79) rfl (hb hby at_75) (by decide) (by decide) kt) ?_
        show own_Go p.tables e below (T1.setTop (mkF m 79 #[.val (.int p0), .val (.int (p0.toInt8.toInt32)), .val (.int (own_lower (p0.toInt8.toInt32))), .val (.int ((p0.toInt8.toInt32) &&& (255 : Int32))), .val (.int (1 : Int32)), .val (.int ((((p0.toInt8.toInt32) &&& (255 : Int32)) ||| (32 : Int32)).toInt8.toInt32)), .val (.int (1 : Int32)), .unset, .unset] [(.int (1 : Int32))])) _
        refine own_by (fun _ kt => XS.istore X1.here hx rfl (hb hby at_79) rfl (l' := #[.val (.int p0), .val (.int (p0.toInt8.toInt32)), .val (.int (own_lower (p0.toInt8.toInt32))), .val (.int ((p0.toInt8.toInt32) &&& (255 : Int32))), .val (.int (1 : Int32)), .val (.int ((((p0.toInt8.toInt32) &&& (255 : Int32)) ||| (32 : Int32)).toInt8.toInt32)), .val (.int (1 : Int32)), .val (.int (1 : Int32)), .unset]) rfl kt) ?_
        show own_Go p.tables e below (T1.setTop (mkF m 81 #[.val (.int p0), .val (.int (p0.toInt8.toInt32)), .val (.int (own_lower (p0.toInt8.toInt32))), .val (.int ((p0.toInt8.toInt32) &&& (255 : Int32))), .val (.int (1 : Int32)), .val (.int ((((p0.toInt8.toInt32) &&& (255 : Int32)) ||| (32 : Int32)).toInt8.toInt32)), .val (.int (1 : Int32)), .val (.int (1 : Int32)), .unset] [])) _
        refine own_by (fun _ kt => XS.iloadN X1.here hx rfl (hb hby at_81) rfl kt) ?_
        show own_Go p.tables e below (T1.setTop (mkF m 82 #[.val (.int p0), .val (.int (p0.toInt8.toInt32)), .val (.int (own_lower (p0.toInt8.toInt32))), .val (.int ((p0.toInt8.toInt32) &&& (255 : Int32))), .val (.int (1 : Int32)), .val (.int ((((p0.toInt8.toInt32) &&& (255 : Int32)) ||| (32 : Int32)).toInt8.toInt32)), .val (.int (1 : Int32)), .val (.int (1 : Int32)), .unset] [(.int (own_lower (p0.toInt8.toInt32)))])) _
        obtain ⟨_, _, ⟨T11, L11, k11, n11⟩, -, X11, ⟨Lc11, hQ11, l11, y11, z11⟩, st11⟩ := Jvm.LawKit.callS X1 hx (y := (⟨"com/example/nousu/nousu/http/FieldNames", "lowerCase", "(B)B"⟩ : MethodName)) hown (mvT hZ (hw _ (List.mem_of_getElem? (i := 0) rfl))) (mvT hZ (hw _ (List.mem_of_getElem? (i := 1) rfl))) (mvT hZ (hw _ (List.mem_of_getElem? (i := 2) rfl))) (mvT hZ (hw _ (List.mem_of_getElem? (i := 3) rfl))) (by decide) (backOf (W := 0) (rm_own_lower l Z a0 hw [] (own_lower (p0.toInt8.toInt32)) h0 n0 Z0) hZ (hw _ (List.mem_of_getElem? (i := 3) rfl)) (hw _ (List.mem_of_getElem? (i := 2) rfl)) (by decide) (by decide)) (g := (mkF m 82 #[.val (.int p0), .val (.int (p0.toInt8.toInt32)), .val (.int (own_lower (p0.toInt8.toInt32))), .val (.int ((p0.toInt8.toInt32) &&& (255 : Int32))), .val (.int (1 : Int32)), .val (.int ((((p0.toInt8.toInt32) &&& (255 : Int32)) ||| (32 : Int32)).toInt8.toInt32)), .val (.int (1 : Int32)), .val (.int (1 : Int32)), .unset] [(.int (own_lower (p0.toInt8.toInt32)))])) rfl (by rw [hml]; rfl) (argsL := [(.int (own_lower (p0.toInt8.toInt32)))]) (rest := []) (lenOf pd_0 rfl) rfl (by show 2 * 0 + _ ≤ _; exact Nat.le_of_eq rfl) (hb hby at_82) (fun _ _ => ⟨rfl, eh1, (by decide : 0 + 0 ≤ _), (by decide : 0 + 0 ≤ _)⟩)
        dsimp only [Pt.U, Pt.locs, Pt.cells, Pt.slots] at X11 l11 y11 z11 st11 hQ11
        subst l11 y11 z11
        obtain ⟨rfl, Nq11, eh11⟩ := hQ11
        have N11 := Fr.app N1 Nq11
        refine own_by (st11) ?_
        show own_Go p.tables e below (T11.setTop (mkF m 85 #[.val (.int p0), .val (.int (p0.toInt8.toInt32)), .val (.int (own_lower (p0.toInt8.toInt32))), .val (.int ((p0.toInt8.toInt32) &&& (255 : Int32))), .val (.int (1 : Int32)), .val (.int ((((p0.toInt8.toInt32) &&& (255 : Int32)) ||| (32 : Int32)).toInt8.toInt32)), .val (.int (1 : Int32)), .val (.int (1 : Int32)), .unset] [(.int (own_lower (own_lower (p0.toInt8.toInt32))))])) _
        refine own_by (fun _ kt => XS.iloadN X11.here hx rfl (hb hby at_85) rfl kt) ?_
        show own_Go p.tables e below (T11.setTop (mkF m 86 #[.val (.int p0), .val (.int (p0.toInt8.toInt32)), .val (.int (own_lower (p0.toInt8.toInt32))), .val (.int ((p0.toInt8.toInt32) &&& (255 : Int32))), .val (.int (1 : Int32)), .val (.int ((((p0.toInt8.toInt32) &&& (255 : Int32)) ||| (32 : Int32)).toInt8.toInt32)), .val (.int (1 : Int32)), .val (.int (1 : Int32)), .unset] [(.int (own_lower (p0.toInt8.toInt32))), (.int (own_lower (own_lower (p0.toInt8.toInt32))))])) _
        refine own_by (fun _ kt => XS.icmpNo X11.here hx rfl (hb hby at_86) rfl (teq ((own_k1 _).2.2.2 : (own_lower (own_lower (p0.toInt8.toInt32))) = (own_lower (p0.toInt8.toInt32)))).2 kt) ?_
        show own_Go p.tables e below (T11.setTop (mkF m 89 #[.val (.int p0), .val (.int (p0.toInt8.toInt32)), .val (.int (own_lower (p0.toInt8.toInt32))), .val (.int ((p0.toInt8.toInt32) &&& (255 : Int32))), .val (.int (1 : Int32)), .val (.int ((((p0.toInt8.toInt32) &&& (255 : Int32)) ||| (32 : Int32)).toInt8.toInt32)), .val (.int (1 : Int32)), .val (.int (1 : Int32)), .unset] [])) _
        refine own_by (fun _ kt => XS.iconst X11.here hx rfl (hb hby at_89) kt) ?_
        show own_Go p.tables e below (T11.setTop (mkF m 90 #[.val (.int p0), .val (.int (p0.toInt8.toInt32)), .val (.int (own_lower (p0.toInt8.toInt32))), .val (.int ((p0.toInt8.toInt32) &&& (255 : Int32))), .val (.int (1 : Int32)), .val (.int ((((p0.toInt8.toInt32) &&& (255 : Int32)) ||| (32 : Int32)).toInt8.toInt32)), .val (.int (1 : Int32)), .val (.int (1 : Int32)), .unset] [(.int (1 : Int32))])) _
        refine own_by (fun _ kt => XS.goto X11.here hx rfl (pc0 := 90) (pc' := 94) rfl (hb hby at_90) (by decide) (by decide) kt) ?_
        show own_Go p.tables e below (T11.setTop (mkF m 94 #[.val (.int p0), .val (.int (p0.toInt8.toInt32)), .val (.int (own_lower (p0.toInt8.toInt32))), .val (.int ((p0.toInt8.toInt32) &&& (255 : Int32))), .val (.int (1 : Int32)), .val (.int ((((p0.toInt8.toInt32) &&& (255 : Int32)) ||| (32 : Int32)).toInt8.toInt32)), .val (.int (1 : Int32)), .val (.int (1 : Int32)), .unset] [(.int (1 : Int32))])) _
        refine own_by (fun _ kt => XS.istore X11.here hx rfl (hb hby at_94) rfl (l' := #[.val (.int p0), .val (.int (p0.toInt8.toInt32)), .val (.int (own_lower (p0.toInt8.toInt32))), .val (.int ((p0.toInt8.toInt32) &&& (255 : Int32))), .val (.int (1 : Int32)), .val (.int ((((p0.toInt8.toInt32) &&& (255 : Int32)) ||| (32 : Int32)).toInt8.toInt32)), .val (.int (1 : Int32)), .val (.int (1 : Int32)), .val (.int (1 : Int32))]) rfl kt) ?_
        show own_Go p.tables e below (T11.setTop (mkF m 96 #[.val (.int p0), .val (.int (p0.toInt8.toInt32)), .val (.int (own_lower (p0.toInt8.toInt32))), .val (.int ((p0.toInt8.toInt32) &&& (255 : Int32))), .val (.int (1 : Int32)), .val (.int ((((p0.toInt8.toInt32) &&& (255 : Int32)) ||| (32 : Int32)).toInt8.toInt32)), .val (.int (1 : Int32)), .val (.int (1 : Int32)), .val (.int (1 : Int32))] [])) _
        refine own_by (fun _ kt => XS.iload X11.here hx rfl (hb hby at_96) rfl kt) ?_
        show own_Go p.tables e below (T11.setTop (mkF m 98 #[.val (.int p0), .val (.int (p0.toInt8.toInt32)), .val (.int (own_lower (p0.toInt8.toInt32))), .val (.int ((p0.toInt8.toInt32) &&& (255 : Int32))), .val (.int (1 : Int32)), .val (.int ((((p0.toInt8.toInt32) &&& (255 : Int32)) ||| (32 : Int32)).toInt8.toInt32)), .val (.int (1 : Int32)), .val (.int (1 : Int32)), .val (.int (1 : Int32))] [(.int (1 : Int32))])) _
        refine own_by (fun _ kt => XS.ifNo X11.here hx rfl (hb hby at_98) rfl ((if0 _ _).trans (feq (by decide : ¬ ((1 : Int32) = (0 : Int32)))).1) kt) ?_
        show own_Go p.tables e below (T11.setTop (mkF m 101 #[.val (.int p0), .val (.int (p0.toInt8.toInt32)), .val (.int (own_lower (p0.toInt8.toInt32))), .val (.int ((p0.toInt8.toInt32) &&& (255 : Int32))), .val (.int (1 : Int32)), .val (.int ((((p0.toInt8.toInt32) &&& (255 : Int32)) ||| (32 : Int32)).toInt8.toInt32)), .val (.int (1 : Int32)), .val (.int (1 : Int32)), .val (.int (1 : Int32))] [])) _
        refine own_by (fun _ kt => XS.iload X11.here hx rfl (hb hby at_101) rfl kt) ?_
        show own_Go p.tables e below (T11.setTop (mkF m 103 #[.val (.int p0), .val (.int (p0.toInt8.toInt32)), .val (.int (own_lower (p0.toInt8.toInt32))), .val (.int ((p0.toInt8.toInt32) &&& (255 : Int32))), .val (.int (1 : Int32)), .val (.int ((((p0.toInt8.toInt32) &&& (255 : Int32)) ||| (32 : Int32)).toInt8.toInt32)), .val (.int (1 : Int32)), .val (.int (1 : Int32)), .val (.int (1 : Int32))] [(.int (1 : Int32))])) _
        refine own_by (fun _ kt => XS.ifNo X11.here hx rfl (hb hby at_103) rfl ((if0 _ _).trans (feq (by decide : ¬ ((1 : Int32) = (0 : Int32)))).1) kt) ?_
        show own_Go p.tables e below (T11.setTop (mkF m 106 #[.val (.int p0), .val (.int (p0.toInt8.toInt32)), .val (.int (own_lower (p0.toInt8.toInt32))), .val (.int ((p0.toInt8.toInt32) &&& (255 : Int32))), .val (.int (1 : Int32)), .val (.int ((((p0.toInt8.toInt32) &&& (255 : Int32)) ||| (32 : Int32)).toInt8.toInt32)), .val (.int (1 : Int32)), .val (.int (1 : Int32)), .val (.int (1 : Int32))] [])) _
        refine own_by (fun _ kt => XS.iload X11.here hx rfl (hb hby at_106) rfl kt) ?_
        show own_Go p.tables e below (T11.setTop (mkF m 108 #[.val (.int p0), .val (.int (p0.toInt8.toInt32)), .val (.int (own_lower (p0.toInt8.toInt32))), .val (.int ((p0.toInt8.toInt32) &&& (255 : Int32))), .val (.int (1 : Int32)), .val (.int ((((p0.toInt8.toInt32) &&& (255 : Int32)) ||| (32 : Int32)).toInt8.toInt32)), .val (.int (1 : Int32)), .val (.int (1 : Int32)), .val (.int (1 : Int32))] [(.int (1 : Int32))])) _
        refine own_by (fun _ kt => XS.ifNo X11.here hx rfl (hb hby at_108) rfl ((if0 _ _).trans (feq (by decide : ¬ ((1 : Int32) = (0 : Int32)))).1) kt) ?_
        show own_Go p.tables e below (T11.setTop (mkF m 111 #[.val (.int p0), .val (.int (p0.toInt8.toInt32)), .val (.int (own_lower (p0.toInt8.toInt32))), .val (.int ((p0.toInt8.toInt32) &&& (255 : Int32))), .val (.int (1 : Int32)), .val (.int ((((p0.toInt8.toInt32) &&& (255 : Int32)) ||| (32 : Int32)).toInt8.toInt32)), .val (.int (1 : Int32)), .val (.int (1 : Int32)), .val (.int (1 : Int32))] [])) _
        refine own_by (fun _ kt => XS.iconst X11.here hx rfl (hb hby at_111) kt) ?_
        show own_Go p.tables e below (T11.setTop (mkF m 112 #[.val (.int p0), .val (.int (p0.toInt8.toInt32)), .val (.int (own_lower (p0.toInt8.toInt32))), .val (.int ((p0.toInt8.toInt32) &&& (255 : Int32))), .val (.int (1 : Int32)), .val (.int ((((p0.toInt8.toInt32) &&& (255 : Int32)) ||| (32 : Int32)).toInt8.toInt32)), .val (.int (1 : Int32)), .val (.int (1 : Int32)), .val (.int (1 : Int32))] [(.int (1 : Int32))])) _
        refine own_by (fun _ kt => XS.goto X11.here hx rfl (pc0 := 112) (pc' := 116) rfl (hb hby at_112) (by decide) (by decide) kt) ?_
        show own_Go p.tables e below (T11.setTop (mkF m 116 #[.val (.int p0), .val (.int (p0.toInt8.toInt32)), .val (.int (own_lower (p0.toInt8.toInt32))), .val (.int ((p0.toInt8.toInt32) &&& (255 : Int32))), .val (.int (1 : Int32)), .val (.int ((((p0.toInt8.toInt32) &&& (255 : Int32)) ||| (32 : Int32)).toInt8.toInt32)), .val (.int (1 : Int32)), .val (.int (1 : Int32)), .val (.int (1 : Int32))] [(.int (1 : Int32))])) _
        exact own_retN X11 hx (t := .boolean) Bd.returns hlk (by simp) (hb hby at_116) ⟨rfl, N11⟩ (by decide) (by decide)
      · refine own_by (fun _ kt => XS.icmpNo X1.here hx rfl (hb hby at_65) rfl (flt hc65_10).1 kt) ?_
        show own_Go p.tables e below (T1.setTop (mkF m 68 #[.val (.int p0), .val (.int (p0.toInt8.toInt32)), .val (.int (own_lower (p0.toInt8.toInt32))), .val (.int ((p0.toInt8.toInt32) &&& (255 : Int32))), .val (.int (1 : Int32)), .val (.int ((((p0.toInt8.toInt32) &&& (255 : Int32)) ||| (32 : Int32)).toInt8.toInt32)), .val (.int (1 : Int32)), .unset, .unset] [])) _
        refine own_by (fun _ kt => XS.iloadN X1.here hx rfl (hb hby at_68) rfl kt) ?_
        show own_Go p.tables e below (T1.setTop (mkF m 69 #[.val (.int p0), .val (.int (p0.toInt8.toInt32)), .val (.int (own_lower (p0.toInt8.toInt32))), .val (.int ((p0.toInt8.toInt32) &&& (255 : Int32))), .val (.int (1 : Int32)), .val (.int ((((p0.toInt8.toInt32) &&& (255 : Int32)) ||| (32 : Int32)).toInt8.toInt32)), .val (.int (1 : Int32)), .unset, .unset] [(.int (own_lower (p0.toInt8.toInt32)))])) _
        refine own_by (fun _ kt => XS.bipush X1.here hx rfl (hb hby at_69) kt) ?_
        show own_Go p.tables e below (T1.setTop (mkF m 71 #[.val (.int p0), .val (.int (p0.toInt8.toInt32)), .val (.int (own_lower (p0.toInt8.toInt32))), .val (.int ((p0.toInt8.toInt32) &&& (255 : Int32))), .val (.int (1 : Int32)), .val (.int ((((p0.toInt8.toInt32) &&& (255 : Int32)) ||| (32 : Int32)).toInt8.toInt32)), .val (.int (1 : Int32)), .unset, .unset] [(.int (90 : Int32)), (.int (own_lower (p0.toInt8.toInt32)))])) _
        refine own_by (fun _ kt => XS.icmpNo X1.here hx rfl (hb hby at_71) rfl (tlt ((own_k1 _).2.2.1 hc65_10 : (90 : Int32) < (own_lower (p0.toInt8.toInt32)))).2.2.2 kt) ?_
        show own_Go p.tables e below (T1.setTop (mkF m 74 #[.val (.int p0), .val (.int (p0.toInt8.toInt32)), .val (.int (own_lower (p0.toInt8.toInt32))), .val (.int ((p0.toInt8.toInt32) &&& (255 : Int32))), .val (.int (1 : Int32)), .val (.int ((((p0.toInt8.toInt32) &&& (255 : Int32)) ||| (32 : Int32)).toInt8.toInt32)), .val (.int (1 : Int32)), .unset, .unset] [])) _
        refine own_by (fun _ kt => XS.iconst X1.here hx rfl (hb hby at_74) kt) ?_
        show own_Go p.tables e below (T1.setTop (mkF m 75 #[.val (.int p0), .val (.int (p0.toInt8.toInt32)), .val (.int (own_lower (p0.toInt8.toInt32))), .val (.int ((p0.toInt8.toInt32) &&& (255 : Int32))), .val (.int (1 : Int32)), .val (.int ((((p0.toInt8.toInt32) &&& (255 : Int32)) ||| (32 : Int32)).toInt8.toInt32)), .val (.int (1 : Int32)), .unset, .unset] [(.int (1 : Int32))])) _
        refine own_by (fun _ kt => XS.goto X1.here hx rfl (pc0 := 75) (pc' := 79) rfl (hb hby at_75) (by decide) (by decide) kt) ?_
        show own_Go p.tables e below (T1.setTop (mkF m 79 #[.val (.int p0), .val (.int (p0.toInt8.toInt32)), .val (.int (own_lower (p0.toInt8.toInt32))), .val (.int ((p0.toInt8.toInt32) &&& (255 : Int32))), .val (.int (1 : Int32)), .val (.int ((((p0.toInt8.toInt32) &&& (255 : Int32)) ||| (32 : Int32)).toInt8.toInt32)), .val (.int (1 : Int32)), .unset, .unset] [(.int (1 : Int32))])) _
        refine own_by (fun _ kt => XS.istore X1.here hx rfl (hb hby at_79) rfl (l' := #[.val (.int p0), .val (.int (p0.toInt8.toInt32)), .val (.int (own_lower (p0.toInt8.toInt32))), .val (.int ((p0.toInt8.toInt32) &&& (255 : Int32))), .val (.int (1 : Int32)), .val (.int ((((p0.toInt8.toInt32) &&& (255 : Int32)) ||| (32 : Int32)).toInt8.toInt32)), .val (.int (1 : Int32)), .val (.int (1 : Int32)), .unset]) rfl kt) ?_
        show own_Go p.tables e below (T1.setTop (mkF m 81 #[.val (.int p0), .val (.int (p0.toInt8.toInt32)), .val (.int (own_lower (p0.toInt8.toInt32))), .val (.int ((p0.toInt8.toInt32) &&& (255 : Int32))), .val (.int (1 : Int32)), .val (.int ((((p0.toInt8.toInt32) &&& (255 : Int32)) ||| (32 : Int32)).toInt8.toInt32)), .val (.int (1 : Int32)), .val (.int (1 : Int32)), .unset] [])) _
        refine own_by (fun _ kt => XS.iloadN X1.here hx rfl (hb hby at_81) rfl kt) ?_
        show own_Go p.tables e below (T1.setTop (mkF m 82 #[.val (.int p0), .val (.int (p0.toInt8.toInt32)), .val (.int (own_lower (p0.toInt8.toInt32))), .val (.int ((p0.toInt8.toInt32) &&& (255 : Int32))), .val (.int (1 : Int32)), .val (.int ((((p0.toInt8.toInt32) &&& (255 : Int32)) ||| (32 : Int32)).toInt8.toInt32)), .val (.int (1 : Int32)), .val (.int (1 : Int32)), .unset] [(.int (own_lower (p0.toInt8.toInt32)))])) _
        obtain ⟨_, _, ⟨T12, L12, k12, n12⟩, -, X12, ⟨Lc12, hQ12, l12, y12, z12⟩, st12⟩ := Jvm.LawKit.callS X1 hx (y := (⟨"com/example/nousu/nousu/http/FieldNames", "lowerCase", "(B)B"⟩ : MethodName)) hown (mvT hZ (hw _ (List.mem_of_getElem? (i := 0) rfl))) (mvT hZ (hw _ (List.mem_of_getElem? (i := 1) rfl))) (mvT hZ (hw _ (List.mem_of_getElem? (i := 2) rfl))) (mvT hZ (hw _ (List.mem_of_getElem? (i := 3) rfl))) (by decide) (backOf (W := 0) (rm_own_lower l Z a0 hw [] (own_lower (p0.toInt8.toInt32)) h0 n0 Z0) hZ (hw _ (List.mem_of_getElem? (i := 3) rfl)) (hw _ (List.mem_of_getElem? (i := 2) rfl)) (by decide) (by decide)) (g := (mkF m 82 #[.val (.int p0), .val (.int (p0.toInt8.toInt32)), .val (.int (own_lower (p0.toInt8.toInt32))), .val (.int ((p0.toInt8.toInt32) &&& (255 : Int32))), .val (.int (1 : Int32)), .val (.int ((((p0.toInt8.toInt32) &&& (255 : Int32)) ||| (32 : Int32)).toInt8.toInt32)), .val (.int (1 : Int32)), .val (.int (1 : Int32)), .unset] [(.int (own_lower (p0.toInt8.toInt32)))])) rfl (by rw [hml]; rfl) (argsL := [(.int (own_lower (p0.toInt8.toInt32)))]) (rest := []) (lenOf pd_0 rfl) rfl (by show 2 * 0 + _ ≤ _; exact Nat.le_of_eq rfl) (hb hby at_82) (fun _ _ => ⟨rfl, eh1, (by decide : 0 + 0 ≤ _), (by decide : 0 + 0 ≤ _)⟩)
        dsimp only [Pt.U, Pt.locs, Pt.cells, Pt.slots] at X12 l12 y12 z12 st12 hQ12
        subst l12 y12 z12
        obtain ⟨rfl, Nq12, eh12⟩ := hQ12
        have N12 := Fr.app N1 Nq12
        refine own_by (st12) ?_
        show own_Go p.tables e below (T12.setTop (mkF m 85 #[.val (.int p0), .val (.int (p0.toInt8.toInt32)), .val (.int (own_lower (p0.toInt8.toInt32))), .val (.int ((p0.toInt8.toInt32) &&& (255 : Int32))), .val (.int (1 : Int32)), .val (.int ((((p0.toInt8.toInt32) &&& (255 : Int32)) ||| (32 : Int32)).toInt8.toInt32)), .val (.int (1 : Int32)), .val (.int (1 : Int32)), .unset] [(.int (own_lower (own_lower (p0.toInt8.toInt32))))])) _
        refine own_by (fun _ kt => XS.iloadN X12.here hx rfl (hb hby at_85) rfl kt) ?_
        show own_Go p.tables e below (T12.setTop (mkF m 86 #[.val (.int p0), .val (.int (p0.toInt8.toInt32)), .val (.int (own_lower (p0.toInt8.toInt32))), .val (.int ((p0.toInt8.toInt32) &&& (255 : Int32))), .val (.int (1 : Int32)), .val (.int ((((p0.toInt8.toInt32) &&& (255 : Int32)) ||| (32 : Int32)).toInt8.toInt32)), .val (.int (1 : Int32)), .val (.int (1 : Int32)), .unset] [(.int (own_lower (p0.toInt8.toInt32))), (.int (own_lower (own_lower (p0.toInt8.toInt32))))])) _
        refine own_by (fun _ kt => XS.icmpNo X12.here hx rfl (hb hby at_86) rfl (teq ((own_k1 _).2.2.2 : (own_lower (own_lower (p0.toInt8.toInt32))) = (own_lower (p0.toInt8.toInt32)))).2 kt) ?_
        show own_Go p.tables e below (T12.setTop (mkF m 89 #[.val (.int p0), .val (.int (p0.toInt8.toInt32)), .val (.int (own_lower (p0.toInt8.toInt32))), .val (.int ((p0.toInt8.toInt32) &&& (255 : Int32))), .val (.int (1 : Int32)), .val (.int ((((p0.toInt8.toInt32) &&& (255 : Int32)) ||| (32 : Int32)).toInt8.toInt32)), .val (.int (1 : Int32)), .val (.int (1 : Int32)), .unset] [])) _
        refine own_by (fun _ kt => XS.iconst X12.here hx rfl (hb hby at_89) kt) ?_
        show own_Go p.tables e below (T12.setTop (mkF m 90 #[.val (.int p0), .val (.int (p0.toInt8.toInt32)), .val (.int (own_lower (p0.toInt8.toInt32))), .val (.int ((p0.toInt8.toInt32) &&& (255 : Int32))), .val (.int (1 : Int32)), .val (.int ((((p0.toInt8.toInt32) &&& (255 : Int32)) ||| (32 : Int32)).toInt8.toInt32)), .val (.int (1 : Int32)), .val (.int (1 : Int32)), .unset] [(.int (1 : Int32))])) _
        refine own_by (fun _ kt => XS.goto X12.here hx rfl (pc0 := 90) (pc' := 94) rfl (hb hby at_90) (by decide) (by decide) kt) ?_
        show own_Go p.tables e below (T12.setTop (mkF m 94 #[.val (.int p0), .val (.int (p0.toInt8.toInt32)), .val (.int (own_lower (p0.toInt8.toInt32))), .val (.int ((p0.toInt8.toInt32) &&& (255 : Int32))), .val (.int (1 : Int32)), .val (.int ((((p0.toInt8.toInt32) &&& (255 : Int32)) ||| (32 : Int32)).toInt8.toInt32)), .val (.int (1 : Int32)), .val (.int (1 : Int32)), .unset] [(.int (1 : Int32))])) _
        refine own_by (fun _ kt => XS.istore X12.here hx rfl (hb hby at_94) rfl (l' := #[.val (.int p0), .val (.int (p0.toInt8.toInt32)), .val (.int (own_lower (p0.toInt8.toInt32))), .val (.int ((p0.toInt8.toInt32) &&& (255 : Int32))), .val (.int (1 : Int32)), .val (.int ((((p0.toInt8.toInt32) &&& (255 : Int32)) ||| (32 : Int32)).toInt8.toInt32)), .val (.int (1 : Int32)), .val (.int (1 : Int32)), .val (.int (1 : Int32))]) rfl kt) ?_
        show own_Go p.tables e below (T12.setTop (mkF m 96 #[.val (.int p0), .val (.int (p0.toInt8.toInt32)), .val (.int (own_lower (p0.toInt8.toInt32))), .val (.int ((p0.toInt8.toInt32) &&& (255 : Int32))), .val (.int (1 : Int32)), .val (.int ((((p0.toInt8.toInt32) &&& (255 : Int32)) ||| (32 : Int32)).toInt8.toInt32)), .val (.int (1 : Int32)), .val (.int (1 : Int32)), .val (.int (1 : Int32))] [])) _
        refine own_by (fun _ kt => XS.iload X12.here hx rfl (hb hby at_96) rfl kt) ?_
        show own_Go p.tables e below (T12.setTop (mkF m 98 #[.val (.int p0), .val (.int (p0.toInt8.toInt32)), .val (.int (own_lower (p0.toInt8.toInt32))), .val (.int ((p0.toInt8.toInt32) &&& (255 : Int32))), .val (.int (1 : Int32)), .val (.int ((((p0.toInt8.toInt32) &&& (255 : Int32)) ||| (32 : Int32)).toInt8.toInt32)), .val (.int (1 : Int32)), .val (.int (1 : Int32)), .val (.int (1 : Int32))] [(.int (1 : Int32))])) _
        refine own_by (fun _ kt => XS.ifNo X12.here hx rfl (hb hby at_98) rfl ((if0 _ _).trans (feq (by decide : ¬ ((1 : Int32) = (0 : Int32)))).1) kt) ?_
        show own_Go p.tables e below (T12.setTop (mkF m 101 #[.val (.int p0), .val (.int (p0.toInt8.toInt32)), .val (.int (own_lower (p0.toInt8.toInt32))), .val (.int ((p0.toInt8.toInt32) &&& (255 : Int32))), .val (.int (1 : Int32)), .val (.int ((((p0.toInt8.toInt32) &&& (255 : Int32)) ||| (32 : Int32)).toInt8.toInt32)), .val (.int (1 : Int32)), .val (.int (1 : Int32)), .val (.int (1 : Int32))] [])) _
        refine own_by (fun _ kt => XS.iload X12.here hx rfl (hb hby at_101) rfl kt) ?_
        show own_Go p.tables e below (T12.setTop (mkF m 103 #[.val (.int p0), .val (.int (p0.toInt8.toInt32)), .val (.int (own_lower (p0.toInt8.toInt32))), .val (.int ((p0.toInt8.toInt32) &&& (255 : Int32))), .val (.int (1 : Int32)), .val (.int ((((p0.toInt8.toInt32) &&& (255 : Int32)) ||| (32 : Int32)).toInt8.toInt32)), .val (.int (1 : Int32)), .val (.int (1 : Int32)), .val (.int (1 : Int32))] [(.int (1 : Int32))])) _
        refine own_by (fun _ kt => XS.ifNo X12.here hx rfl (hb hby at_103) rfl ((if0 _ _).trans (feq (by decide : ¬ ((1 : Int32) = (0 : Int32)))).1) kt) ?_
        show own_Go p.tables e below (T12.setTop (mkF m 106 #[.val (.int p0), .val (.int (p0.toInt8.toInt32)), .val (.int (own_lower (p0.toInt8.toInt32))), .val (.int ((p0.toInt8.toInt32) &&& (255 : Int32))), .val (.int (1 : Int32)), .val (.int ((((p0.toInt8.toInt32) &&& (255 : Int32)) ||| (32 : Int32)).toInt8.toInt32)), .val (.int (1 : Int32)), .val (.int (1 : Int32)), .val (.int (1 : Int32))] [])) _
        refine own_by (fun _ kt => XS.iload X12.here hx rfl (hb hby at_106) rfl kt) ?_
        show own_Go p.tables e below (T12.setTop (mkF m 108 #[.val (.int p0), .val (.int (p0.toInt8.toInt32)), .val (.int (own_lower (p0.toInt8.toInt32))), .val (.int ((p0.toInt8.toInt32) &&& (255 : Int32))), .val (.int (1 : Int32)), .val (.int ((((p0.toInt8.toInt32) &&& (255 : Int32)) ||| (32 : Int32)).toInt8.toInt32)), .val (.int (1 : Int32)), .val (.int (1 : Int32)), .val (.int (1 : Int32))] [(.int (1 : Int32))])) _
        refine own_by (fun _ kt => XS.ifNo X12.here hx rfl (hb hby at_108) rfl ((if0 _ _).trans (feq (by decide : ¬ ((1 : Int32) = (0 : Int32)))).1) kt) ?_
        show own_Go p.tables e below (T12.setTop (mkF m 111 #[.val (.int p0), .val (.int (p0.toInt8.toInt32)), .val (.int (own_lower (p0.toInt8.toInt32))), .val (.int ((p0.toInt8.toInt32) &&& (255 : Int32))), .val (.int (1 : Int32)), .val (.int ((((p0.toInt8.toInt32) &&& (255 : Int32)) ||| (32 : Int32)).toInt8.toInt32)), .val (.int (1 : Int32)), .val (.int (1 : Int32)), .val (.int (1 : Int32))] [])) _
        refine own_by (fun _ kt => XS.iconst X12.here hx rfl (hb hby at_111) kt) ?_
        show own_Go p.tables e below (T12.setTop (mkF m 112 #[.val (.int p0), .val (.int (p0.toInt8.toInt32)), .val (.int (own_lower (p0.toInt8.toInt32))), .val (.int ((p0.toInt8.toInt32) &&& (255 : Int32))), .val (.int (1 : Int32)), .val (.int ((((p0.toInt8.toInt32) &&& (255 : Int32)) ||| (32 : Int32)).toInt8.toInt32)), .val (.int (1 : Int32)), .val (.int (1 : Int32)), .val (.int (1 : Int32))] [(.int (1 : Int32))])) _
        refine own_by (fun _ kt => XS.goto X12.here hx rfl (pc0 := 112) (pc' := 116) rfl (hb hby at_112) (by decide) (by decide) kt) ?_
        show own_Go p.tables e below (T12.setTop (mkF m 116 #[.val (.int p0), .val (.int (p0.toInt8.toInt32)), .val (.int (own_lower (p0.toInt8.toInt32))), .val (.int ((p0.toInt8.toInt32) &&& (255 : Int32))), .val (.int (1 : Int32)), .val (.int ((((p0.toInt8.toInt32) &&& (255 : Int32)) ||| (32 : Int32)).toInt8.toInt32)), .val (.int (1 : Int32)), .val (.int (1 : Int32)), .val (.int (1 : Int32))] [(.int (1 : Int32))])) _
        exact own_retN X12 hx (t := .boolean) Bd.returns hlk (by simp) (hb hby at_116) ⟨rfl, N12⟩ (by decide) (by decide)
set_option maxRecDepth 65536 in
set_option maxHeartbeats 40000000 in
theorem comes_1 {Post : Tables → Env → Array Value → State → Outcome → State → Prop} (hpost : ∀ tb e args s v u, (limb_1_1.after args s (.returned v) u = true ∧ limb_1_2.after args s (.returned v) u = true ∧ True) → FrameEnd s (.returned v) u (Jvm.fieldLocs frame_1_writes args s ++ Jvm.arrayLocs frame_1_arrays args s ++ Jvm.staticLocs frame_1_statics s) 0 0 → Post tb e args s (.returned v) u) :
    ArmFor flags0 classFile x code maxLocals ret World_1 tables_1 room_1 Calls_1 rest_1 Pre_1 Post := by
  intro l hfl _ _ p e ha hc hk s m args below hf hA hF happ hP
  obtain ⟨hcalls, hrest, hpre⟩ := hP
  obtain ⟨-, -, -, hnamed, -, -, -, hat⟩ := (Spec.applies_iff hf).mp happ
  obtain ⟨hg, hn⟩ := and_e (Cond.before_iff.mp (show (Jvm.Cond.and given_1 narrow_1).before args s = true from hpre))
  obtain ⟨hcnt, g0⟩ := and_e hg
  obtain ⟨w0, rfl⟩ : ∃ w0 : Value, args = #[w0] := by
    have hs : args.size = 1 := by simpa [Cond.value, given_1] using hcnt
    obtain ⟨L⟩ := args
    match L, hs with
    | [w0], _ => exact ⟨w0, rfl⟩
  have hw := fun d (hd : d ∈ tables_1) => atoms_spec (ws := Jvm.Cond.code x code maxLocals ret :: tables_1) hat d (List.mem_cons_of_mem _ hd)
  obtain ⟨v0, ev0⟩ := is_v g0
  obtain rfl : w0 = (.int v0) := Option.some.inj ev0
  obtain ⟨n, o, h1, h2, h3, _, L, rfl, ⟨rfl, N⟩, hq⟩ := rm_law l s _ hw tables_1 v0  s.heap s.heap.size (Nat.le_refl _)  p e ha hc hk s m _ below hf ((Spec.applies_iff_loose hf).mp happ).1 ⟨rfl, State.Warmed39.refl s, rfl⟩ trivial
  refine ⟨n, _, h1, h2, h3, hpost _ _ _ _ _ _ ⟨Cond.after_iff.mpr rfl, Cond.after_iff.mpr (eq_i res_at (Term.int_eval (1)) rfl), trivial⟩ ⟨hq.1, hq.2.1, (hq.2.2.sift fun y hy => Or.inr (N y hy)).mono (by decide) (by decide)⟩⟩
theorem main_1_1 : Claimed_1_1 := comes_1 fun _ _ _ _ _ _ h hF => ⟨h.1, hF⟩
theorem main_1_2 : Claimed_1_2 := comes_1 fun _ _ _ _ _ _ h hF => ⟨h.2.1, hF⟩
end Jvm.Pilot.@@N@@
namespace Jvm.Pilot.@@N@@
open Jvm Jvm.ClassFile Sem Op Lib Jvm.Free Jvm.Stand Jvm.Pilot.@@N@@.Jvm.D
/-! MADE BY PROGRAM (witnessworld.py) out of the Statement's table words and the real class files: 9 classes; the members and pool entries that the words name. The judged class is class 1, her method 1. -/
namespace start1
open Jvm.ClassFile
def u (s : String) : CpInfo := .utf8 (stringToUtf16 s)
/-- a pool by its gaps: so many unusable entries, then the entry; so many at the end -/
def gap : Nat → List CpInfo → List CpInfo
  | 0, r => r
  | n + 1, r => .unusable :: gap n r
def poolList (es : List (Nat × CpInfo)) (last : Nat) : List CpInfo := es.foldr (fun e r => gap e.1 (e.2 :: r)) (gap last [])
def pool (es : List (Nat × CpInfo)) (last : Nat) : Array CpInfo := ⟨poolList es last⟩
def fileOf (pool : Array CpInfo) (this : Nat) (attrs : Array Attribute := #[]) (ms : Array MethodInfo := #[]) (fl : Nat := 33) (sup : Nat := 0) (ifs : Array Nat := #[]) (fds : Array FieldInfo := #[]) : ClassFile where
  minorVersion := 0
  majorVersion := 65
  constantPool := pool
  accessFlags := fl
  thisClass := this
  superClass := sup
  interfaces := ifs
  fields := fds
  methods := ms
  attributes := attrs
def plain (name : String) (sup : Option ClassId) : Class where
  name := name
  kind := .ordinary
  loader := none
  accessFlags := 33
  super := sup
  interfaces := #[]
  cf := none
  fields := #[]
  methods := #[]
  instanceTypes := #[]
  staticTypes := #[]
  resolved := #[]
  callSites := []
  init := .initialized
  statics := none
  mirror := none

def pool0 : Array CpInfo := pool [(5, u "<init>"), (0, u "()V"), (1, .class_ 10), (1, u "java/lang/Object")] 113

def k0m0 : Method := { name := "<init>", desc := "()V", sig := { parameters := [], returnType := none }, accessFlags := 1, code := none }
/-- java/lang/Object -/
def k0 : Class := { plain "java/lang/Object" none with
  accessFlags := 33
  interfaces := #[]
  cf := some (fileOf pool0 8 #[] #[{ accessFlags := 1, nameIndex := 5, descriptorIndex := 6, attributes := #[] }] 33 0 #[] #[])
  fields := #[]
  methods := #[k0m0]
  instanceTypes := #[]
  staticTypes := #[]
  resolved := Array.replicate 124 none
  statics := none }

def pool1 : Array CpInfo := pool [(2, .class_ 4), (1, u "java/lang/Object"), (0, u "<init>"), (0, u "()V"), (0, .methodref 8 9), (0, .class_ 10), (0, .nameAndType 11 12), (0, u "com/example/nousu/nousu/http/FieldNames"), (0, u "lowerCase"), (0, u "(B)B"), (0, .class_ 14), (0, u "com/example/nousu/nousu/http/FieldNamesLowerCasePinLaw"), (2, u "law"), (0, u "(I)Z")] 3

def k1m0 : Method := { name := "<init>", desc := "()V", sig := { parameters := [], returnType := none }, accessFlags := 1, code := none }
def k1c1 : Code := { maxStack := 2, maxLocals := 9, code := code, exceptionTable := #[], attributes := #[] }
def k1m1 : Method := { name := "law", desc := "(I)Z", sig := { parameters := [.int], returnType := some .boolean }, accessFlags := 9, code := some k1c1 }
/-- com/example/nousu/nousu/http/FieldNamesLowerCasePinLaw -/
def k1 : Class := { plain "com/example/nousu/nousu/http/FieldNamesLowerCasePinLaw" (some 0) with
  accessFlags := 49
  interfaces := #[]
  cf := some (fileOf pool1 13 #[] #[{ accessFlags := 1, nameIndex := 5, descriptorIndex := 6, attributes := #[] }, { accessFlags := 9, nameIndex := 17, descriptorIndex := 18, attributes := #[] }] 49 2 #[] #[])
  fields := #[]
  methods := #[k1m0, k1m1]
  instanceTypes := #[]
  staticTypes := #[]
  resolved := Array.replicate 22 none
  statics := none }

def pool2 : Array CpInfo := pool [(2, .class_ 4), (1, u "java/lang/Object"), (28, .class_ 35), (1, u "com/example/nousu/nousu/http/FieldNames"), (0, u "lowerCase"), (0, u "(B)B"), (5, u "[[B"), (2, u "byLength"), (0, u "[[[B"), (6, u "NO_NAMES")] 18

def k2c0 : Code := { maxStack := 2, maxLocals := 1, code := prog_20_method_3_code, exceptionTable := #[], attributes := #[] }
def k2m0 : Method := { name := "lowerCase", desc := "(B)B", sig := { parameters := [.byte], returnType := some .byte }, accessFlags := 8, code := some k2c0 }
/-- com/example/nousu/nousu/http/FieldNames -/
def k2 : Class := { plain "com/example/nousu/nousu/http/FieldNames" (some 0) with
  accessFlags := 33
  interfaces := #[]
  cf := some (fileOf pool2 33 #[] #[{ accessFlags := 8, nameIndex := 36, descriptorIndex := 37, attributes := #[] }] 33 2 #[] #[{ accessFlags := 26, nameIndex := 54, descriptorIndex := 43, attributes := #[] }, { accessFlags := 18, nameIndex := 46, descriptorIndex := 47, attributes := #[] }])
  fields := #[{ name := "NO_NAMES", type := (.array (.array .byte)), accessFlags := 26, slot := 0, constantValue := 0 }, { name := "byLength", type := (.array (.array (.array .byte))), accessFlags := 18, slot := 0, constantValue := 0 }]
  methods := #[k2m0]
  instanceTypes := #[(.array (.array (.array .byte)))]
  staticTypes := #[(.array (.array .byte))]
  resolved := Array.replicate 73 none
  statics := none }

def pool3 : Array CpInfo := pool [(1, u "java/lang/Cloneable"), (0, .class_ 1), (0, u "java/lang/Object"), (0, .class_ 3)] 3

/-- java/lang/Cloneable -/
def k3 : Class := { plain "java/lang/Cloneable" (some 0) with
  accessFlags := 1537
  interfaces := #[]
  cf := some (fileOf pool3 2 #[] #[] 1537 4 #[] #[])
  fields := #[]
  methods := #[]
  instanceTypes := #[]
  staticTypes := #[]
  resolved := Array.replicate 8 none
  statics := none }

def pool4 : Array CpInfo := pool [(1, u "java/io/Serializable"), (0, .class_ 1), (0, u "java/lang/Object"), (0, .class_ 3)] 3

/-- java/io/Serializable -/
def k4 : Class := { plain "java/io/Serializable" (some 0) with
  accessFlags := 1537
  interfaces := #[]
  cf := some (fileOf pool4 2 #[] #[] 1537 4 #[] #[])
  fields := #[]
  methods := #[]
  instanceTypes := #[]
  staticTypes := #[]
  resolved := Array.replicate 8 none
  statics := none }

/-- the primitive byte -/
def k5 : Class := { plain "byte" none with kind := .primitive 'B', accessFlags := 0x411 }
/-- [B -/
def k6 : Class := { plain "[B" (some 0) with kind := .array 5 .byte, interfaces := #[3, 4], accessFlags := 1041 }

/-- the primitive int -/
def k7 : Class := { plain "int" none with kind := .primitive 'I', accessFlags := 0x411 }
/-- [I -/
def k8 : Class := { plain "[I" (some 0) with kind := .array 7 .int, interfaces := #[3, 4], accessFlags := 1041 }

def heap : Heap := #[]
def classes : Array Class := #[k0, k1, k2, k3, k4, k5, k6, k7, k8]
def interned : List (Array UInt16 × Addr) := []
def slotsUsed : Nat := 0
def theMethod : MethodId := ⟨1, 1⟩
def args0 : Array Value := #[.int 70]
def aboutOver (below : List Frame) : State where
  vm := { classes := classes, interned := interned.toArray }
  heap := heap
  slotsUsed := slotsUsed
  threads := #[{ frames := .invoking theMethod args0 :: below }]
def below0 : List Frame := [.native { method := ⟨0, 0⟩, args := #[] }]
def about1 : State := aboutOver below0
def p0 : Program := .bare "" "" ""
def e0 : Env := launch0.env 0 0 0
theorem w_frames : about1.frames = Frame.invoking theMethod args0 :: below0 := rfl
set_option maxRecDepth 65536 in
theorem w_args : argsFit about1.vm theMethod args0 = true := by decide +kernel
set_option maxRecDepth 65536 in
theorem w_heap : heapFits about1 = true := by decide +kernel
set_option maxRecDepth 65536 in
theorem w_runnable : about1.curStatus? = some .runnable := by decide +kernel
set_option maxRecDepth 65536 in
theorem w_alone : about1.alone = true := by decide +kernel
set_option maxRecDepth 65536 in
theorem w_named : about1.methodNamed? x = some theMethod := by decide +kernel
set_option maxRecDepth 65536 in
theorem w_hears : about1.hears theMethod below0 = true := by decide +kernel
set_option maxRecDepth 65536 in
theorem w_ripe : about1.ripe theMethod args0 below0 = true := by decide +kernel
theorem w_running : about1.status = .running := rfl
set_option maxRecDepth 65536 in
theorem w_room : about1.hasRoom e0.platform room_1 = true :=
  launch0.hasRoom_least _ room_1 (by decide +kernel) (by decide +kernel) (by decide +kernel) (by decide +kernel) (by decide +kernel) (by decide +kernel)
theorem allAtoms_all (ts : List Jvm.Cond) (a : Array Jvm.Value) (st : Jvm.State) : (allAtoms ts).before a st = ts.all (fun c => c.before a st) := by
  induction ts with
  | nil => rfl
  | cons c t ih =>
    show (Jvm.Cond.and c (allAtoms t)).before a st = _
    rw [Jvm.Cond.before_and, ih, List.all_cons]
def words1 : List Jvm.Cond := Jvm.Cond.code x code maxLocals ret :: tables_1
/-- a 'code' word, met by the world's own term for the bytes: nothing is compared byte by byte -/
theorem code_word {y : MethodName} {bytes : ByteArray} {mx : Nat} {rt : Option FieldType} {a : Array Value} {s : State} {m : MethodId} {meth : Method} {c : Code} (h1 : s.methodNamed? y = some m) (h2 : s.vm.method? m = some meth) (h3 : meth.code = some c) (h4 : c.code = bytes)
    (h5 : (c.maxLocals == mx && c.exceptionTable.isEmpty && decide (c.maxStack ≤ mostOperands) && decide (meth.sig.returnType = rt) && !meth.locks && decide (parseMethodDescriptor y.desc = some meth.sig)) = true) : (Jvm.Cond.code y bytes mx rt).before a s = true := by
  simp only [Bool.and_eq_true, beq_iff_eq, Bool.not_eq_true', decide_eq_true_eq] at h5
  obtain ⟨⟨⟨⟨⟨g1, g2⟩, g3⟩, g4⟩, g5⟩, g6⟩ := h5
  simp [Cond.before, Cond.holds, Cond.value, h1, h2, h3, h4, g1, g2, g3, g4, g5, g6]
def isCode : Jvm.Cond → Bool
  | .code _ _ _ _ => true
  | _ => false
theorem all_split {L : List Jvm.Cond} {P : Jvm.Cond → Bool} (h1 : L.all (fun c => isCode c || P c) = true) (h2 : ∀ c ∈ L.filter isCode, P c = true) : L.all P = true := by
  refine List.all_eq_true.mpr fun c hc => ?_
  have h := List.all_eq_true.mp h1 c hc
  rcases Bool.eq_false_or_eq_true (isCode c) with hi | hi
  · exact h2 c (List.mem_filter.mpr ⟨hc, hi⟩)
  · simpa [hi] using h
set_option maxRecDepth 65536 in
theorem w_c0 : (Jvm.Cond.code x code maxLocals ret).before args0 about1 = true := code_word (m := ⟨1, 1⟩) (meth := k1m1) (c := k1c1) (by decide +kernel) rfl rfl rfl (by decide +kernel)
set_option maxRecDepth 65536 in
theorem w_c1 : (Jvm.Cond.code ({ cls := "com/example/nousu/nousu/http/FieldNames", name := "lowerCase", desc := "(B)B" } : Jvm.MethodName) prog_20_method_3_code (1 : Nat) (Option.some Jvm.ClassFile.FieldType.byte)).before args0 about1 = true := code_word (m := ⟨2, 0⟩) (meth := k2m0) (c := k2c0) (by decide +kernel) rfl rfl rfl (by decide +kernel)
def codes1 : List Jvm.Cond := [Jvm.Cond.code x code maxLocals ret, Jvm.Cond.code ({ cls := "com/example/nousu/nousu/http/FieldNames", name := "lowerCase", desc := "(B)B" } : Jvm.MethodName) prog_20_method_3_code (1 : Nat) (Option.some Jvm.ClassFile.FieldType.byte)]
set_option maxRecDepth 65536 in
theorem codes_eq : words1.filter isCode = codes1 := rfl
theorem w_codes : ∀ c ∈ words1.filter isCode, c.before args0 about1 = true := by
  rw [codes_eq]
  intro c hc
  simp only [codes1, List.mem_cons, List.not_mem_nil, or_false] at hc
  rcases hc with rfl | rfl
  · exact w_c0
  · exact w_c1
set_option maxRecDepth 65536 in
theorem w_t1 : words1.all (fun c => isCode c || c.before args0 about1) = true := by decide +kernel
theorem w_tables : (allAtoms (Jvm.Cond.code x code maxLocals ret :: tables_1)).before args0 about1 = true := by
  rw [allAtoms_all]
  show words1.all (fun c => c.before args0 about1) = true
  refine all_split ?_ w_codes
  rw [w_t1]
set_option maxRecDepth 65536 in
theorem w_case : (Jvm.Cond.and given_1 narrow_1).before args0 about1 = true := by decide +kernel
theorem w_applies : (headSpec (Jvm.Cond.code x code maxLocals ret :: tables_1) room_1).applies x e0.platform about1 = true :=
  (Spec.applies_iff w_frames).mpr ⟨w_running, w_runnable, w_alone, w_named, w_hears, w_ripe, w_room, w_tables⟩
theorem atStart : AtStart classFile x code maxLocals ret World_1 tables_1 room_1 Calls_1 rest_1 Pre_1 launch0 p0 e0 about1 theMethod args0 below0 :=
  ⟨lists_1, trivial, launch0.admits_env _ _ _, launch0.least_env, fairChoices_fair.cas, fairChoices_fair.clock, w_frames, w_args, w_heap, w_applies, trivial, trivial, w_case⟩
end start1
theorem witness_1 : WitnessClaimed_1 := ⟨start1.p0, start1.e0, start1.about1, start1.theMethod, start1.args0, start1.below0, start1.atStart⟩
end Jvm.Pilot.@@N@@
