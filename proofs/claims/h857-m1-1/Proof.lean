import JvmDerived
import JvmDerived.Pilot.@@N@@Statement
import JvmDerived.Pilot.@@N@@Code
set_option linter.unusedVariables false
set_option linter.unusedSimpArgs false
namespace Jvm.Pilot.@@N@@
open Jvm Jvm.ClassFile Sem Op Lib Jvm.Free Jvm.Stand Jvm.LawKit Jvm.RoadKit Bundle Jvm.Pilot.@@N@@.Jvm.D
/-! own_Go: a walk still to be made from the state A; every step of the machine is one own_by. -/
def own_Go (tb : Tables) (e : Env) (below : List Frame) (A : State) (R : Outcome → State → Prop) : Prop := ∃ s₂ o, Steps tb e below A s₂ ∧ s₂.status = .running ∧ Ended s₂ below o ∧ R o s₂
theorem own_by {tb : Tables} {e : Env} {below : List Frame} {A B : State} {R : Outcome → State → Prop} (h : ∀ t, Steps tb e below A t → Steps tb e below B t) (g : own_Go tb e below A R) : own_Go tb e below B R := by
  obtain ⟨s₂, o, h1, h2⟩ := g
  exact ⟨s₂, o, h _ h1, h2⟩
def own_R (s : State) (Q : Option Value → Heap → List Loc → Prop) (cc nn : Nat) (o : Outcome) (U : State) : Prop := ∃ v L, o = .returned v ∧ Q v U.heap L ∧ FrameEnd s o U L cc nn
abbrev own_lrem (x y : Int64) : Int64 := x - (x / y) * y
section OwnEnds
variable {p : Program} {l : Launch} {e : Env} {R : Room} {s : State} {m : MethodId} {args : Array Value} {below : List Frame} {meth : Method} {c : Code} {T : State} {locs : List Loc} {cells slots : Nat} {Q : Option Value → Heap → List Loc → Prop} {cc nn : Nat}
theorem own_fin (X : Stand p l e R s m args below meth c T locs cells slots) {v : Option Value} (hv : meth.sig.returnType = none → v = none) (hlk : meth.locks = false) {B : State}
    (hs : ∀ fs, (∀ (f : JFrame) (acts : List Action), f.method = m → f.locked = none → f.entered = [] → (doReturn e (T.setTop f) acts v).1 = T.setFrames fs) → Steps p.tables e below B (T.setFrames fs))
    (hq : Q v T.heap locs) (hc : cells ≤ cc) (hn : slots ≤ nn) : own_Go p.tables e below B (own_R s Q cc nn) := by
  obtain ⟨fs, hr, hrun, hended, hW, hsame⟩ := X.leave hv hlk
  exact ⟨_, _, hs fs hr, hrun, hended, v, locs, rfl, hq, ⟨_, rfl⟩, hW, hsame.mono hc hn⟩
theorem own_retN (X : Stand p l e R s m args below meth c T locs cells slots) (hx : p.tables.exec = Jvm.exec) {pc : Nat} {Ls : Array Slot} {z : Int32} {t : FieldType} {rest : List Value} (hret : meth.sig.returnType = some t) (hlk : meth.locks = false) (ht : t = .boolean ∨ t = .byte ∨ t = .char ∨ t = .short)
    (hd : decode c.code pc = .ok (.ireturn, 1)) (hq : Q (some (.int (nar t z))) T.heap locs) (hc : cells ≤ cc) (hn : slots ≤ nn) : own_Go p.tables e below (T.setTop (mkF m pc Ls (.int z :: rest))) (own_R s Q cc nn) :=
  own_fin X (fun h => by rw [hret] at h; cases h) hlk (fun fs hr => retN X hx hret ht hd hr) hq hc hn
theorem own_retI (X : Stand p l e R s m args below meth c T locs cells slots) (hx : p.tables.exec = Jvm.exec) {pc : Nat} {Ls : Array Slot} {z : Int32} (hret : meth.sig.returnType = some .int) (hlk : meth.locks = false)
    (hd : decode c.code pc = .ok (.ireturn, 1)) (hq : Q (some (.int z)) T.heap locs) (hc : cells ≤ cc) (hn : slots ≤ nn) : own_Go p.tables e below (T.setTop (mkF m pc Ls [.int z])) (own_R s Q cc nn) :=
  own_fin X (fun h => by rw [hret] at h; cases h) hlk (fun fs hr => X.ireturnOut hx hret rfl (Or.inl rfl) hd hr) hq hc hn
theorem own_retL (X : Stand p l e R s m args below meth c T locs cells slots) (hx : p.tables.exec = Jvm.exec) {pc : Nat} {Ls : Array Slot} {z : Int64} (hret : meth.sig.returnType = some .long) (hlk : meth.locks = false)
    (hd : decode c.code pc = .ok (.lreturn, 1)) (hq : Q (some (.long z)) T.heap locs) (hc : cells ≤ cc) (hn : slots ≤ nn) : own_Go p.tables e below (T.setTop (mkF m pc Ls [.long z])) (own_R s Q cc nn) :=
  own_fin X (fun h => by rw [hret] at h; cases h) hlk (fun fs hr => X.lreturnOut hx hret hd hr) hq hc hn
theorem own_retA (X : Stand p l e R s m args below meth c T locs cells slots) (hx : p.tables.exec = Jvm.exec) {pc : Nat} {Ls : Array Slot} {w : Value} {t : FieldType} (hret : meth.sig.returnType = some t) (hlk : meth.locks = false) (hw : w.isRef = true) (ht : t.isReference = true)
    (hd : decode c.code pc = .ok (.areturn, 1)) (hq : Q (some w) T.heap locs) (hc : cells ≤ cc) (hn : slots ≤ nn) : own_Go p.tables e below (T.setTop (mkF m pc Ls [w])) (own_R s Q cc nn) :=
  own_fin X (fun h => by rw [hret] at h; cases h) hlk (fun fs hr => X.areturnOut hx hw hret ht hd hr) hq hc hn
theorem own_retV (X : Stand p l e R s m args below meth c T locs cells slots) (hx : p.tables.exec = Jvm.exec) {pc : Nat} {Ls : Array Slot} (hret : meth.sig.returnType = none) (hlk : meth.locks = false)
    (hd : decode c.code pc = .ok (.return_, 1)) (hq : Q none T.heap locs) (hc : cells ≤ cc) (hn : slots ≤ nn) : own_Go p.tables e below (T.setTop (mkF m pc Ls [])) (own_R s Q cc nn) :=
  own_fin X (fun _ => rfl) hlk (fun fs hr => X.returnOut hx hret hd hr) hq hc hn
end OwnEnds
theorem own_nin {a b : Addr} (h : a ≠ b) : a ∉ [b] := fun q => h (List.mem_singleton.mp q)
theorem own_nin2 {a b c : Addr} (h : a ≠ b) (h' : a ≠ c) : a ∉ [b, c] := fun q => by
  rcases List.mem_cons.mp q with q | q
  · exact h q
  · exact h' (List.mem_singleton.mp q)
section OwnArrays
variable {p : Program} {l : Launch} {e : Env} {R : Room} {s : State} {m : MethodId} {args : Array Value} {below : List Frame} {meth : Method} {c : Code} {T : State} {locs : List Loc} {cells slots : Nat} {Z : State} {h : Heap} {a : Addr} {k : ClassId} {z j : Int32} {vs : List Value} {dv v : Value} {g : JFrame} {rest : List Value}
theorem own_iaload (X : Stand p l e R s m args below meth c T locs cells slots) (hx : p.tables.exec = Jvm.exec) (hZ : Z.Warmed39 s.vm) (eT : T.heap = h) (F : Arv Z h a k .int z vs dv) (hj : ¬ j < 0 ∧ j < z) (hv : vs.getD j.toNatClampNeg dv = v)
    (hg : g.method = m) (hs : g.stack = .int j :: .ref a :: rest) (hd : decode c.code g.pc = .ok (.iaload, 1)) (t : State) (kt : Steps p.tables e below (T.setTop { g with pc := g.pc + 1, stack := v :: rest }) t) : Steps p.tables e below (T.setTop g) t := by
  obtain ⟨cl, A, -, S, -, H, -⟩ := F
  exact X.iaload hx (by rw [eT]; exact A.1) (State.isArrayOf_alike hZ.alike A.2.1) A.2.2 (inb_of S hj) (H.at (inb_of S hj) hv) hg hs hd t kt
theorem own_caload (X : Stand p l e R s m args below meth c T locs cells slots) (hx : p.tables.exec = Jvm.exec) (hZ : Z.Warmed39 s.vm) (eT : T.heap = h) (F : Arv Z h a k .char z vs dv) (hj : ¬ j < 0 ∧ j < z) (hv : vs.getD j.toNatClampNeg dv = v)
    (hg : g.method = m) (hs : g.stack = .int j :: .ref a :: rest) (hd : decode c.code g.pc = .ok (.caload, 1)) (t : State) (kt : Steps p.tables e below (T.setTop { g with pc := g.pc + 1, stack := v :: rest }) t) : Steps p.tables e below (T.setTop g) t := by
  obtain ⟨cl, A, -, S, -, H, -⟩ := F
  exact X.caload hx (by rw [eT]; exact A.1) (State.isArrayOf_alike hZ.alike A.2.1) A.2.2 (inb_of S hj) (H.at (inb_of S hj) hv) hg hs hd t kt
theorem own_baload (X : Stand p l e R s m args below meth c T locs cells slots) (hx : p.tables.exec = Jvm.exec) (hZ : Z.Warmed39 s.vm) (eT : T.heap = h) (F : Arv Z h a k .byte z vs dv) (hj : ¬ j < 0 ∧ j < z) (hv : vs.getD j.toNatClampNeg dv = v)
    (hg : g.method = m) (hs : g.stack = .int j :: .ref a :: rest) (hd : decode c.code g.pc = .ok (.baload, 1)) (t : State) (kt : Steps p.tables e below (T.setTop { g with pc := g.pc + 1, stack := v :: rest }) t) : Steps p.tables e below (T.setTop g) t := by
  obtain ⟨cl, A, -, S, -, H, -⟩ := F
  exact X.baloadBytes hx (by rw [eT]; exact A.1) (State.isArrayOf_alike hZ.alike A.2.1) A.2.2 (inb_of S hj) (H.at (inb_of S hj) hv) hg hs hd t kt
theorem own_alen {ty : FieldType} (X : Stand p l e R s m args below meth c T locs cells slots) (hx : p.tables.exec = Jvm.exec) (hZ : Z.Warmed39 s.vm) (eT : T.heap = h) (F : Arv Z h a k ty z vs dv)
    (hg : g.method = m) (hs : g.stack = .ref a :: rest) (hd : decode c.code g.pc = .ok (.arraylength, 1)) (t : State) (kt : Steps p.tables e below (T.setTop { g with pc := g.pc + 1, stack := .int z :: rest }) t) : Steps p.tables e below (T.setTop g) t := by
  obtain ⟨cl, A, -, S, N, -, -⟩ := F
  exact X.arraylength hx (by rw [eT]; exact A.1) (State.isArrayOf_alike hZ.alike A.2.1) hg hs hd t (by rw [len_of S N]; exact kt)
end OwnArrays
section OwnBounds
variable {x k k' : Int32}
theorem own_i1 (h : x < k') (q : k'.toInt ≤ k.toInt) : x < k := by rw [Int32.lt_iff_toInt_lt] at *; omega
theorem own_i2 (h : ¬ k' < x) (q : k'.toInt < k.toInt) : x < k := by rw [Int32.lt_iff_toInt_lt] at *; omega
theorem own_i3 (h : ¬ x < k') (q : k.toInt ≤ k'.toInt) : ¬ x < k := by rw [Int32.lt_iff_toInt_lt] at *; omega
theorem own_i4 (h : k' < x) (q : k.toInt ≤ k'.toInt + 1) : ¬ x < k := by rw [Int32.lt_iff_toInt_lt] at *; omega
theorem own_j1 (h : k' < x) (q : k.toInt ≤ k'.toInt) : k < x := by rw [Int32.lt_iff_toInt_lt] at *; omega
theorem own_j2 (h : ¬ x < k') (q : k.toInt < k'.toInt) : k < x := by rw [Int32.lt_iff_toInt_lt] at *; omega
theorem own_j3 (h : ¬ k' < x) (q : k'.toInt ≤ k.toInt) : ¬ k < x := by rw [Int32.lt_iff_toInt_lt] at *; omega
theorem own_j4 (h : x < k') (q : k'.toInt ≤ k.toInt + 1) : ¬ k < x := by rw [Int32.lt_iff_toInt_lt] at *; omega
theorem own_q1 (h : x < k') (q : k'.toInt ≤ k.toInt) : ¬ x = k := fun u => by rw [Int32.lt_iff_toInt_lt] at *; subst u; omega
theorem own_q2 (h : k' < x) (q : k.toInt ≤ k'.toInt) : ¬ x = k := fun u => by rw [Int32.lt_iff_toInt_lt] at *; subst u; omega
theorem own_q3 (h : ¬ x < k') (q : k.toInt < k'.toInt) : ¬ x = k := fun u => by rw [Int32.lt_iff_toInt_lt] at *; subst u; omega
theorem own_q4 (h : ¬ k' < x) (q : k'.toInt < k.toInt) : ¬ x = k := fun u => by rw [Int32.lt_iff_toInt_lt] at *; subst u; omega
end OwnBounds
theorem own_sta_keep {Z : State} {h h' : Heap} {C n d : String} {w : Value} (F : Sta Z h C n d w) (K : Keep h h' []) : Sta Z h' C n d w := by
  obtain ⟨cf, i, k, f, st, cell, h1, h2, h3, h4, h5, r⟩ := F
  exact ⟨cf, i, k, f, st, cell, h1, h2, h3, h4, K.2.1 _ _ h5 List.not_mem_nil, r⟩
def own_min (q0 : Int64) (q1 : Int64) : Int64 := (if (0 : Int32) < (lcmpW q0 q1) then q1 else q0)
theorem d_jdk_29_method_70_code_0 : decode jdk_29_method_70_code 0 = .ok (.lload_n 0, 1) := by decide +kernel
theorem d_jdk_29_method_70_code_1 : decode jdk_29_method_70_code 1 = .ok (.lload_n 2, 1) := by decide +kernel
theorem d_jdk_29_method_70_code_2 : decode jdk_29_method_70_code 2 = .ok (.lcmp, 1) := by decide +kernel
theorem d_jdk_29_method_70_code_3 : decode jdk_29_method_70_code 3 = .ok (.ifCond .gt 7, 3) := by decide +kernel
theorem d_jdk_29_method_70_code_10 : decode jdk_29_method_70_code 10 = .ok (.lload_n 2, 1) := by decide +kernel
theorem d_jdk_29_method_70_code_11 : decode jdk_29_method_70_code 11 = .ok (.lreturn, 1) := by decide +kernel
theorem d_jdk_29_method_70_code_6 : decode jdk_29_method_70_code 6 = .ok (.lload_n 0, 1) := by decide +kernel
theorem d_jdk_29_method_70_code_7 : decode jdk_29_method_70_code 7 = .ok (.goto 4, 3) := by decide +kernel
theorem ef_1 (m : MethodId) (q0 : Int64) (q1 : Int64) : entryFrame m #[(.long q0), (.long q1)] 4 = mkF m 0 #[.val (.long q0), .second, .val (.long q1), .second] [] := by first | (simp [entryFrame, mkF, argsToLocals, Value.category]; done) | rfl
def Q_rm_own_min (Z : State) (q0 : Int64) (q1 : Int64)  (h0 : Heap) (n0 : Nat) (v : Option Value) (h : Heap) (L : List Loc) : Prop := v = some (.long (own_min q0 q1)) ∧ Fr n0 L ∧ h = h0
set_option maxRecDepth 65536 in
set_option maxHeartbeats 40000000 in
theorem rm_own_min (l : Launch) (Z : State) (a0 : Array Value) (hw : ∀ d ∈ tables_1, d.before a0 Z = true) (ws : List Jvm.Cond) (q0 : Int64) (q1 : Int64)  (h0 : Heap) (n0 : Nat) (Z0 : n0 ≤ h0.size)  :
    MetFree l (⟨"java/lang/Math", "min", "(JJ)J"⟩ : MethodName) (head1 (Jvm.Cond.code (⟨"java/lang/Math", "min", "(JJ)J"⟩ : MethodName) jdk_29_method_70_code 4 (some .long) :: ws) ({ frames := 0, cells := 0, slots := 0, locals := 0 } : Room)) (fun av_ U => av_ = #[(.long q0), (.long q1)] ∧ Z.Warmed39 U.vm ∧ U.heap = h0) (fun _ _ _ _ _ => True) (fun _ U o U' => ∃ v L, o = .returned v ∧ Q_rm_own_min Z q0 q1 h0 n0 v U'.heap L ∧ FrameEnd U o U' L ({ frames := 0, cells := 0, slots := 0, locals := 0 } : Room).cells ({ frames := 0, cells := 0, slots := 0, locals := 0 } : Room).slots) := by
  refine MetFree.of_bodySF (Jvm.Free.JP.mathPlain rfl (by decide +kernel)) hisR ?_
  intro p e s m args below meth c s₁ Bd hml0 hP hK
  obtain ⟨rfl, hZ, hh⟩ := hP
  have hx := Bd.exec
  have hby := Bd.bytes
  have hml : c.maxLocals = 4 := hml0
  have hown : s.vm.findClass "java/lang/Math" = some m.cls := findClass_of_methodNamed Bd.named
  have hnm := (name_of_methodNamed Bd.named Bd.method).1
  have hlk : meth.locks = false := BodyLoose.notSynchronized Bd
  have X0 : Stand p l e ({ frames := 0, cells := 0, slots := 0, locals := 0 } : Room) s m #[(.long q0), (.long q1)] below meth c s₁ [] 0 0 := Stand.of_body Bd
  have e0 : s₁.heap = h0 := by rw [← hh, Bd.state]; rfl
  have N0 := Fr.nil n0
  refine own_by (fun _ kt => castTop (ef_1 m q0 q1) kt) (R := own_R s (Q_rm_own_min Z q0 q1 h0 n0) 0 0) ?_
  show own_Go p.tables e below (s₁.setTop (mkF m 0 #[.val (.long q0), .second, .val (.long q1), .second] [])) _
  refine own_by (fun _ kt => XS.lloadN X0.here hx rfl (hb hby d_jdk_29_method_70_code_0) rfl kt) ?_
  show own_Go p.tables e below (s₁.setTop (mkF m 1 #[.val (.long q0), .second, .val (.long q1), .second] [(.long q0)])) _
  refine own_by (fun _ kt => XS.lloadN X0.here hx rfl (hb hby d_jdk_29_method_70_code_1) rfl kt) ?_
  show own_Go p.tables e below (s₁.setTop (mkF m 2 #[.val (.long q0), .second, .val (.long q1), .second] [(.long q1), (.long q0)])) _
  refine own_by (fun _ kt => XS.lcmp X0.here hx rfl (hb hby d_jdk_29_method_70_code_2) rfl kt) ?_
  show own_Go p.tables e below (s₁.setTop (mkF m 3 #[.val (.long q0), .second, .val (.long q1), .second] [(.int (lcmpW q0 q1))])) _
  by_cases hc3_1 : (0 : Int32) < (lcmpW q0 q1)
  · refine own_by (fun _ kt => XS.ifYes X0.here hx rfl (pc0 := 3) (pc' := 10) rfl (hb hby d_jdk_29_method_70_code_3) rfl ((if0 _ _).trans (tlt hc3_1).2.2.1) (by decide) (by decide) kt) ?_
    show own_Go p.tables e below (s₁.setTop (mkF m 10 #[.val (.long q0), .second, .val (.long q1), .second] [])) _
    refine own_by (fun _ kt => XS.lloadN X0.here hx rfl (hb hby d_jdk_29_method_70_code_10) rfl kt) ?_
    show own_Go p.tables e below (s₁.setTop (mkF m 11 #[.val (.long q0), .second, .val (.long q1), .second] [(.long q1)])) _
    exact own_retL X0 hx Bd.returns hlk (hb hby d_jdk_29_method_70_code_11) ⟨by rw [own_min, if_pos hc3_1] <;> rfl, N0, e0⟩ (by decide) (by decide)
  · refine own_by (fun _ kt => XS.ifNo X0.here hx rfl (hb hby d_jdk_29_method_70_code_3) rfl ((if0 _ _).trans (flt hc3_1).2.2.1) kt) ?_
    show own_Go p.tables e below (s₁.setTop (mkF m 6 #[.val (.long q0), .second, .val (.long q1), .second] [])) _
    refine own_by (fun _ kt => XS.lloadN X0.here hx rfl (hb hby d_jdk_29_method_70_code_6) rfl kt) ?_
    show own_Go p.tables e below (s₁.setTop (mkF m 7 #[.val (.long q0), .second, .val (.long q1), .second] [(.long q0)])) _
    refine own_by (fun _ kt => XS.goto X0.here hx rfl (pc0 := 7) (pc' := 11) rfl (hb hby d_jdk_29_method_70_code_7) (by decide) (by decide) kt) ?_
    show own_Go p.tables e below (s₁.setTop (mkF m 11 #[.val (.long q0), .second, .val (.long q1), .second] [(.long q0)])) _
    exact own_retL X0 hx Bd.returns hlk (hb hby d_jdk_29_method_70_code_11) ⟨by rw [own_min, if_neg hc3_1] <;> rfl, N0, e0⟩ (by decide) (by decide)
def own_max (q0 : Int64) (q1 : Int64) : Int64 := (if (lcmpW q0 q1) < (0 : Int32) then q1 else q0)
theorem d_jdk_29_method_66_code_0 : decode jdk_29_method_66_code 0 = .ok (.lload_n 0, 1) := by decide +kernel
theorem d_jdk_29_method_66_code_1 : decode jdk_29_method_66_code 1 = .ok (.lload_n 2, 1) := by decide +kernel
theorem d_jdk_29_method_66_code_2 : decode jdk_29_method_66_code 2 = .ok (.lcmp, 1) := by decide +kernel
theorem d_jdk_29_method_66_code_3 : decode jdk_29_method_66_code 3 = .ok (.ifCond .lt 7, 3) := by decide +kernel
theorem d_jdk_29_method_66_code_10 : decode jdk_29_method_66_code 10 = .ok (.lload_n 2, 1) := by decide +kernel
theorem d_jdk_29_method_66_code_11 : decode jdk_29_method_66_code 11 = .ok (.lreturn, 1) := by decide +kernel
theorem d_jdk_29_method_66_code_6 : decode jdk_29_method_66_code 6 = .ok (.lload_n 0, 1) := by decide +kernel
theorem d_jdk_29_method_66_code_7 : decode jdk_29_method_66_code 7 = .ok (.goto 4, 3) := by decide +kernel
theorem ef_2 (m : MethodId) (q0 : Int64) (q1 : Int64) : entryFrame m #[(.long q0), (.long q1)] 4 = mkF m 0 #[.val (.long q0), .second, .val (.long q1), .second] [] := by first | (simp [entryFrame, mkF, argsToLocals, Value.category]; done) | rfl
def Q_rm_own_max (Z : State) (q0 : Int64) (q1 : Int64)  (h0 : Heap) (n0 : Nat) (v : Option Value) (h : Heap) (L : List Loc) : Prop := v = some (.long (own_max q0 q1)) ∧ Fr n0 L ∧ h = h0
set_option maxRecDepth 65536 in
set_option maxHeartbeats 40000000 in
theorem rm_own_max (l : Launch) (Z : State) (a0 : Array Value) (hw : ∀ d ∈ tables_1, d.before a0 Z = true) (ws : List Jvm.Cond) (q0 : Int64) (q1 : Int64)  (h0 : Heap) (n0 : Nat) (Z0 : n0 ≤ h0.size)  :
    MetFree l (⟨"java/lang/Math", "max", "(JJ)J"⟩ : MethodName) (head1 (Jvm.Cond.code (⟨"java/lang/Math", "max", "(JJ)J"⟩ : MethodName) jdk_29_method_66_code 4 (some .long) :: ws) ({ frames := 0, cells := 0, slots := 0, locals := 0 } : Room)) (fun av_ U => av_ = #[(.long q0), (.long q1)] ∧ Z.Warmed39 U.vm ∧ U.heap = h0) (fun _ _ _ _ _ => True) (fun _ U o U' => ∃ v L, o = .returned v ∧ Q_rm_own_max Z q0 q1 h0 n0 v U'.heap L ∧ FrameEnd U o U' L ({ frames := 0, cells := 0, slots := 0, locals := 0 } : Room).cells ({ frames := 0, cells := 0, slots := 0, locals := 0 } : Room).slots) := by
  refine MetFree.of_bodySF (Jvm.Free.JP.mathPlain rfl (by decide +kernel)) hisR ?_
  intro p e s m args below meth c s₁ Bd hml0 hP hK
  obtain ⟨rfl, hZ, hh⟩ := hP
  have hx := Bd.exec
  have hby := Bd.bytes
  have hml : c.maxLocals = 4 := hml0
  have hown : s.vm.findClass "java/lang/Math" = some m.cls := findClass_of_methodNamed Bd.named
  have hnm := (name_of_methodNamed Bd.named Bd.method).1
  have hlk : meth.locks = false := BodyLoose.notSynchronized Bd
  have X0 : Stand p l e ({ frames := 0, cells := 0, slots := 0, locals := 0 } : Room) s m #[(.long q0), (.long q1)] below meth c s₁ [] 0 0 := Stand.of_body Bd
  have e0 : s₁.heap = h0 := by rw [← hh, Bd.state]; rfl
  have N0 := Fr.nil n0
  refine own_by (fun _ kt => castTop (ef_2 m q0 q1) kt) (R := own_R s (Q_rm_own_max Z q0 q1 h0 n0) 0 0) ?_
  show own_Go p.tables e below (s₁.setTop (mkF m 0 #[.val (.long q0), .second, .val (.long q1), .second] [])) _
  refine own_by (fun _ kt => XS.lloadN X0.here hx rfl (hb hby d_jdk_29_method_66_code_0) rfl kt) ?_
  show own_Go p.tables e below (s₁.setTop (mkF m 1 #[.val (.long q0), .second, .val (.long q1), .second] [(.long q0)])) _
  refine own_by (fun _ kt => XS.lloadN X0.here hx rfl (hb hby d_jdk_29_method_66_code_1) rfl kt) ?_
  show own_Go p.tables e below (s₁.setTop (mkF m 2 #[.val (.long q0), .second, .val (.long q1), .second] [(.long q1), (.long q0)])) _
  refine own_by (fun _ kt => XS.lcmp X0.here hx rfl (hb hby d_jdk_29_method_66_code_2) rfl kt) ?_
  show own_Go p.tables e below (s₁.setTop (mkF m 3 #[.val (.long q0), .second, .val (.long q1), .second] [(.int (lcmpW q0 q1))])) _
  by_cases hc3_1 : (lcmpW q0 q1) < (0 : Int32)
  · refine own_by (fun _ kt => XS.ifYes X0.here hx rfl (pc0 := 3) (pc' := 10) rfl (hb hby d_jdk_29_method_66_code_3) rfl ((if0 _ _).trans (tlt hc3_1).1) (by decide) (by decide) kt) ?_
    show own_Go p.tables e below (s₁.setTop (mkF m 10 #[.val (.long q0), .second, .val (.long q1), .second] [])) _
    refine own_by (fun _ kt => XS.lloadN X0.here hx rfl (hb hby d_jdk_29_method_66_code_10) rfl kt) ?_
    show own_Go p.tables e below (s₁.setTop (mkF m 11 #[.val (.long q0), .second, .val (.long q1), .second] [(.long q1)])) _
    exact own_retL X0 hx Bd.returns hlk (hb hby d_jdk_29_method_66_code_11) ⟨by rw [own_max, if_pos hc3_1] <;> rfl, N0, e0⟩ (by decide) (by decide)
  · refine own_by (fun _ kt => XS.ifNo X0.here hx rfl (hb hby d_jdk_29_method_66_code_3) rfl ((if0 _ _).trans (flt hc3_1).1) kt) ?_
    show own_Go p.tables e below (s₁.setTop (mkF m 6 #[.val (.long q0), .second, .val (.long q1), .second] [])) _
    refine own_by (fun _ kt => XS.lloadN X0.here hx rfl (hb hby d_jdk_29_method_66_code_6) rfl kt) ?_
    show own_Go p.tables e below (s₁.setTop (mkF m 7 #[.val (.long q0), .second, .val (.long q1), .second] [(.long q0)])) _
    refine own_by (fun _ kt => XS.goto X0.here hx rfl (pc0 := 7) (pc' := 11) rfl (hb hby d_jdk_29_method_66_code_7) (by decide) (by decide) kt) ?_
    show own_Go p.tables e below (s₁.setTop (mkF m 11 #[.val (.long q0), .second, .val (.long q1), .second] [(.long q0)])) _
    exact own_retL X0 hx Bd.returns hlk (hb hby d_jdk_29_method_66_code_11) ⟨by rw [own_max, if_neg hc3_1] <;> rfl, N0, e0⟩ (by decide) (by decide)
def own_on (p0 : Int32) (p1 : Int32) : Int32 := (if p0 < (1 : Int32) then (0 : Int32) else (if p1 < p0 then (0 : Int32) else (if (80 : Int32) < p1 then (0 : Int32) else (1 : Int32))))
theorem pn_0 : plainName "com/example/cardstock/cardstock/Field" = true := by first | (simp [plainName, overriddenIn]; done) | decide +kernel
theorem d_prog_34_method_2_code_0 : decode prog_34_method_2_code 0 = .ok (.iload_n 0, 1) := by decide +kernel
theorem d_prog_34_method_2_code_1 : decode prog_34_method_2_code 1 = .ok (.iconst 1, 1) := by decide +kernel
theorem d_prog_34_method_2_code_2 : decode prog_34_method_2_code 2 = .ok (.if_icmp .lt 18, 3) := by decide +kernel
theorem d_prog_34_method_2_code_20 : decode prog_34_method_2_code 20 = .ok (.iconst 0, 1) := by decide +kernel
theorem d_prog_34_method_2_code_21 : decode prog_34_method_2_code 21 = .ok (.ireturn, 1) := by decide +kernel
theorem d_prog_34_method_2_code_5 : decode prog_34_method_2_code 5 = .ok (.iload_n 1, 1) := by decide +kernel
theorem d_prog_34_method_2_code_6 : decode prog_34_method_2_code 6 = .ok (.iload_n 0, 1) := by decide +kernel
theorem d_prog_34_method_2_code_7 : decode prog_34_method_2_code 7 = .ok (.if_icmp .lt 13, 3) := by decide +kernel
theorem d_prog_34_method_2_code_10 : decode prog_34_method_2_code 10 = .ok (.iload_n 1, 1) := by decide +kernel
theorem d_prog_34_method_2_code_11 : decode prog_34_method_2_code 11 = .ok (.bipush 80, 2) := by decide +kernel
theorem d_prog_34_method_2_code_13 : decode prog_34_method_2_code 13 = .ok (.if_icmp .gt 7, 3) := by decide +kernel
theorem d_prog_34_method_2_code_16 : decode prog_34_method_2_code 16 = .ok (.iconst 1, 1) := by decide +kernel
theorem d_prog_34_method_2_code_17 : decode prog_34_method_2_code 17 = .ok (.goto 4, 3) := by decide +kernel
theorem ef_3 (m : MethodId) (p0 : Int32) (p1 : Int32) : entryFrame m #[(.int p0), (.int p1)] 2 = mkF m 0 #[.val (.int p0), .val (.int p1)] [] := by first | (simp [entryFrame, mkF, argsToLocals, Value.category]; done) | rfl
def Q_rm_own_on (Z : State) (p0 : Int32) (p1 : Int32)  (h0 : Heap) (n0 : Nat) (v : Option Value) (h : Heap) (L : List Loc) : Prop := v = some (.int (own_on p0 p1)) ∧ Fr n0 L ∧ h = h0
set_option maxRecDepth 65536 in
set_option maxHeartbeats 40000000 in
theorem rm_own_on (l : Launch) (Z : State) (a0 : Array Value) (hw : ∀ d ∈ tables_1, d.before a0 Z = true) (ws : List Jvm.Cond) (p0 : Int32) (p1 : Int32)  (h0 : Heap) (n0 : Nat) (Z0 : n0 ≤ h0.size)  :
    MetFree l (⟨"com/example/cardstock/cardstock/Field", "onCard", "(II)Z"⟩ : MethodName) (head1 (Jvm.Cond.code (⟨"com/example/cardstock/cardstock/Field", "onCard", "(II)Z"⟩ : MethodName) prog_34_method_2_code 2 (some .boolean) :: ws) ({ frames := 0, cells := 0, slots := 0, locals := 0 } : Room)) (fun av_ U => av_ = #[(.int p0), (.int p1)] ∧ Z.Warmed39 U.vm ∧ U.heap = h0) (fun _ _ _ _ _ => True) (fun _ U o U' => ∃ v L, o = .returned v ∧ Q_rm_own_on Z p0 p1 h0 n0 v U'.heap L ∧ FrameEnd U o U' L ({ frames := 0, cells := 0, slots := 0, locals := 0 } : Room).cells ({ frames := 0, cells := 0, slots := 0, locals := 0 } : Room).slots) := by
  refine MetFree.of_bodySF (plainFor_of_name pn_0) hisR ?_
  intro p e s m args below meth c s₁ Bd hml0 hP hK
  obtain ⟨rfl, hZ, hh⟩ := hP
  have hx := Bd.exec
  have hby := Bd.bytes
  have hml : c.maxLocals = 2 := hml0
  have hown : s.vm.findClass "com/example/cardstock/cardstock/Field" = some m.cls := findClass_of_methodNamed Bd.named
  have hnm := (name_of_methodNamed Bd.named Bd.method).1
  have hlk : meth.locks = false := BodyLoose.notSynchronized Bd
  have X0 : Stand p l e ({ frames := 0, cells := 0, slots := 0, locals := 0 } : Room) s m #[(.int p0), (.int p1)] below meth c s₁ [] 0 0 := Stand.of_body Bd
  have e0 : s₁.heap = h0 := by rw [← hh, Bd.state]; rfl
  have N0 := Fr.nil n0
  refine own_by (fun _ kt => castTop (ef_3 m p0 p1) kt) (R := own_R s (Q_rm_own_on Z p0 p1 h0 n0) 0 0) ?_
  show own_Go p.tables e below (s₁.setTop (mkF m 0 #[.val (.int p0), .val (.int p1)] [])) _
  refine own_by (fun _ kt => XS.iloadN X0.here hx rfl (hb hby d_prog_34_method_2_code_0) rfl kt) ?_
  show own_Go p.tables e below (s₁.setTop (mkF m 1 #[.val (.int p0), .val (.int p1)] [(.int p0)])) _
  refine own_by (fun _ kt => XS.iconst X0.here hx rfl (hb hby d_prog_34_method_2_code_1) kt) ?_
  show own_Go p.tables e below (s₁.setTop (mkF m 2 #[.val (.int p0), .val (.int p1)] [(.int (1 : Int32)), (.int p0)])) _
  by_cases hc2_1 : p0 < (1 : Int32)
  · refine own_by (fun _ kt => XS.icmpYes X0.here hx rfl (pc0 := 2) (pc' := 20) rfl (hb hby d_prog_34_method_2_code_2) rfl (tlt hc2_1).1 (by decide) (by decide) kt) ?_
    show own_Go p.tables e below (s₁.setTop (mkF m 20 #[.val (.int p0), .val (.int p1)] [])) _
    refine own_by (fun _ kt => XS.iconst X0.here hx rfl (hb hby d_prog_34_method_2_code_20) kt) ?_
    show own_Go p.tables e below (s₁.setTop (mkF m 21 #[.val (.int p0), .val (.int p1)] [(.int (0 : Int32))])) _
    exact own_retN X0 hx (t := .boolean) Bd.returns hlk (by simp) (hb hby d_prog_34_method_2_code_21) ⟨by rw [own_on, if_pos hc2_1] <;> rfl, N0, e0⟩ (by decide) (by decide)
  · refine own_by (fun _ kt => XS.icmpNo X0.here hx rfl (hb hby d_prog_34_method_2_code_2) rfl (flt hc2_1).1 kt) ?_
    show own_Go p.tables e below (s₁.setTop (mkF m 5 #[.val (.int p0), .val (.int p1)] [])) _
    refine own_by (fun _ kt => XS.iloadN X0.here hx rfl (hb hby d_prog_34_method_2_code_5) rfl kt) ?_
    show own_Go p.tables e below (s₁.setTop (mkF m 6 #[.val (.int p0), .val (.int p1)] [(.int p1)])) _
    refine own_by (fun _ kt => XS.iloadN X0.here hx rfl (hb hby d_prog_34_method_2_code_6) rfl kt) ?_
    show own_Go p.tables e below (s₁.setTop (mkF m 7 #[.val (.int p0), .val (.int p1)] [(.int p0), (.int p1)])) _
    by_cases hc7_2 : p1 < p0
    · refine own_by (fun _ kt => XS.icmpYes X0.here hx rfl (pc0 := 7) (pc' := 20) rfl (hb hby d_prog_34_method_2_code_7) rfl (tlt hc7_2).1 (by decide) (by decide) kt) ?_
      show own_Go p.tables e below (s₁.setTop (mkF m 20 #[.val (.int p0), .val (.int p1)] [])) _
      refine own_by (fun _ kt => XS.iconst X0.here hx rfl (hb hby d_prog_34_method_2_code_20) kt) ?_
      show own_Go p.tables e below (s₁.setTop (mkF m 21 #[.val (.int p0), .val (.int p1)] [(.int (0 : Int32))])) _
      exact own_retN X0 hx (t := .boolean) Bd.returns hlk (by simp) (hb hby d_prog_34_method_2_code_21) ⟨by rw [own_on, if_neg hc2_1, if_pos hc7_2] <;> rfl, N0, e0⟩ (by decide) (by decide)
    · refine own_by (fun _ kt => XS.icmpNo X0.here hx rfl (hb hby d_prog_34_method_2_code_7) rfl (flt hc7_2).1 kt) ?_
      show own_Go p.tables e below (s₁.setTop (mkF m 10 #[.val (.int p0), .val (.int p1)] [])) _
      refine own_by (fun _ kt => XS.iloadN X0.here hx rfl (hb hby d_prog_34_method_2_code_10) rfl kt) ?_
      show own_Go p.tables e below (s₁.setTop (mkF m 11 #[.val (.int p0), .val (.int p1)] [(.int p1)])) _
      refine own_by (fun _ kt => XS.bipush X0.here hx rfl (hb hby d_prog_34_method_2_code_11) kt) ?_
      show own_Go p.tables e below (s₁.setTop (mkF m 13 #[.val (.int p0), .val (.int p1)] [(.int (80 : Int32)), (.int p1)])) _
      by_cases hc13_3 : (80 : Int32) < p1
      · refine own_by (fun _ kt => XS.icmpYes X0.here hx rfl (pc0 := 13) (pc' := 20) rfl (hb hby d_prog_34_method_2_code_13) rfl (tlt hc13_3).2.2.1 (by decide) (by decide) kt) ?_
        show own_Go p.tables e below (s₁.setTop (mkF m 20 #[.val (.int p0), .val (.int p1)] [])) _
        refine own_by (fun _ kt => XS.iconst X0.here hx rfl (hb hby d_prog_34_method_2_code_20) kt) ?_
        show own_Go p.tables e below (s₁.setTop (mkF m 21 #[.val (.int p0), .val (.int p1)] [(.int (0 : Int32))])) _
        exact own_retN X0 hx (t := .boolean) Bd.returns hlk (by simp) (hb hby d_prog_34_method_2_code_21) ⟨by rw [own_on, if_neg hc2_1, if_neg hc7_2, if_pos hc13_3] <;> rfl, N0, e0⟩ (by decide) (by decide)
      · refine own_by (fun _ kt => XS.icmpNo X0.here hx rfl (hb hby d_prog_34_method_2_code_13) rfl (flt hc13_3).2.2.1 kt) ?_
        show own_Go p.tables e below (s₁.setTop (mkF m 16 #[.val (.int p0), .val (.int p1)] [])) _
        refine own_by (fun _ kt => XS.iconst X0.here hx rfl (hb hby d_prog_34_method_2_code_16) kt) ?_
        show own_Go p.tables e below (s₁.setTop (mkF m 17 #[.val (.int p0), .val (.int p1)] [(.int (1 : Int32))])) _
        refine own_by (fun _ kt => XS.goto X0.here hx rfl (pc0 := 17) (pc' := 21) rfl (hb hby d_prog_34_method_2_code_17) (by decide) (by decide) kt) ?_
        show own_Go p.tables e below (s₁.setTop (mkF m 21 #[.val (.int p0), .val (.int p1)] [(.int (1 : Int32))])) _
        exact own_retN X0 hx (t := .boolean) Bd.returns hlk (by simp) (hb hby d_prog_34_method_2_code_21) ⟨by rw [own_on, if_neg hc2_1, if_neg hc7_2, if_neg hc13_3] <;> rfl, N0, e0⟩ (by decide) (by decide)
theorem own_k0 (f t : Int32) (h : f < 1 ∨ 80 < f ∨ t < 1 ∨ 80 < t ∨ t < f) : own_on f t = 0 := by
  unfold own_on
  simp only [Int32.lt_iff_toInt_lt, show (1 : Int32).toInt = 1 from by decide, show (80 : Int32).toInt = 80 from by decide] at *
  split
  · rfl
  · split
    · rfl
    · split
      · rfl
      · omega
theorem own_k1 (f t : Int32) (h1 : ¬ f < 1) (h2 : ¬ t < f) (h3 : ¬ 80 < t) : own_on f t = 1 := by
  rw [own_on, if_neg h1, if_neg h2, if_neg h3]
theorem pn_1 : plainName "com/example/cardstock/cardstock/FieldOnCardPinLaw" = true := by first | (simp [plainName, overriddenIn]; done) | decide +kernel
theorem pd_0 : parseMethodDescriptor "(II)Z" = some ⟨[.int, .int], some .boolean⟩ := by decide +kernel
theorem pd_1 : parseMethodDescriptor "(JJ)J" = some ⟨[.long, .long], some .long⟩ := by decide +kernel
theorem ef_4 (m : MethodId) (p0 : Int32) (p1 : Int32) (p2 : Int32) : entryFrame m #[(.int p0), (.int p1), (.int p2)] maxLocals = mkF m 0 #[.val (.int p0), .val (.int p1), .val (.int p2), .unset, .unset, .unset, .unset, .unset] [] := by first | (simp [entryFrame, mkF, argsToLocals, Value.category, maxLocals]; done) | rfl
def Q_rm_law (Z : State) (p0 : Int32) (p1 : Int32) (p2 : Int32)  (h0 : Heap) (n0 : Nat) (v : Option Value) (h : Heap) (L : List Loc) : Prop := v = some (.int (1 : Int32)) ∧ Fr n0 L
set_option maxRecDepth 65536 in
set_option maxHeartbeats 40000000 in
theorem rm_law (l : Launch) (Z : State) (a0 : Array Value) (hw : ∀ d ∈ tables_1, d.before a0 Z = true) (ws : List Jvm.Cond) (p0 : Int32) (p1 : Int32) (p2 : Int32)  (h0 : Heap) (n0 : Nat) (Z0 : n0 ≤ h0.size)  :
    MetFree l x (head1 (Jvm.Cond.code x code maxLocals ret :: ws) room_1) (fun av_ U => av_ = #[(.int p0), (.int p1), (.int p2)] ∧ Z.Warmed39 U.vm ∧ U.heap = h0) (fun _ _ _ _ _ => True) (fun _ U o U' => ∃ v L, o = .returned v ∧ Q_rm_law Z p0 p1 p2 h0 n0 v U'.heap L ∧ FrameEnd U o U' L 0 0) := by
  refine MetFree.of_bodySF (plainFor_of_name pn_1) hisR ?_
  intro p e s m args below meth c s₁ Bd hml0 hP hK
  obtain ⟨rfl, hZ, hh⟩ := hP
  have hx := Bd.exec
  have hby := Bd.bytes
  have hml : c.maxLocals = 8 := hml0
  have hown : s.vm.findClass "com/example/cardstock/cardstock/FieldOnCardPinLaw" = some m.cls := findClass_of_methodNamed Bd.named
  have hnm := (name_of_methodNamed Bd.named Bd.method).1
  have hlk : meth.locks = false := BodyLoose.notSynchronized Bd
  have X0 : Stand p l e room_1 s m #[(.int p0), (.int p1), (.int p2)] below meth c s₁ [] 0 0 := Stand.of_body Bd
  have e0 : s₁.heap = h0 := by rw [← hh, Bd.state]; rfl
  have N0 := Fr.nil n0
  refine own_by (fun _ kt => castTop (ef_4 m p0 p1 p2) kt) (R := own_R s (Q_rm_law Z p0 p1 p2 h0 n0) 0 0) ?_
  show own_Go p.tables e below (s₁.setTop (mkF m 0 #[.val (.int p0), .val (.int p1), .val (.int p2), .unset, .unset, .unset, .unset, .unset] [])) _
  refine own_by (fun _ kt => XS.iloadN X0.here hx rfl (hb hby at_0) rfl kt) ?_
  show own_Go p.tables e below (s₁.setTop (mkF m 1 #[.val (.int p0), .val (.int p1), .val (.int p2), .unset, .unset, .unset, .unset, .unset] [(.int p2)])) _
  refine own_by (fun _ kt => XS.iconst X0.here hx rfl (hb hby at_1) kt) ?_
  show own_Go p.tables e below (s₁.setTop (mkF m 2 #[.val (.int p0), .val (.int p1), .val (.int p2), .unset, .unset, .unset, .unset, .unset] [(.int (1 : Int32)), (.int p2)])) _
  refine own_by (fun _ kt => XS.iand X0.here hx rfl (hb hby at_2) rfl kt) ?_
  show own_Go p.tables e below (s₁.setTop (mkF m 3 #[.val (.int p0), .val (.int p1), .val (.int p2), .unset, .unset, .unset, .unset, .unset] [(.int (p2 &&& (1 : Int32)))])) _
  have J1 : ∀ (f : Int32) , own_Go p.tables e below (s₁.setTop (mkF m 14 #[.val (.int p0), .val (.int p1), .val (.int p2), .unset, .unset, .unset, .unset, .unset] [(.int f)])) (own_R s (Q_rm_law Z p0 p1 p2 h0 n0) 0 0) := by
    intro f
    refine own_by (fun _ kt => XS.istoreN X0.here hx rfl (hb hby at_14) rfl (l' := #[.val (.int p0), .val (.int p1), .val (.int p2), .val (.int f), .unset, .unset, .unset, .unset]) rfl kt) ?_
    show own_Go p.tables e below (s₁.setTop (mkF m 15 #[.val (.int p0), .val (.int p1), .val (.int p2), .val (.int f), .unset, .unset, .unset, .unset] [])) _
    refine own_by (fun _ kt => XS.iloadN X0.here hx rfl (hb hby at_15) rfl kt) ?_
    show own_Go p.tables e below (s₁.setTop (mkF m 16 #[.val (.int p0), .val (.int p1), .val (.int p2), .val (.int f), .unset, .unset, .unset, .unset] [(.int p2)])) _
    refine own_by (fun _ kt => XS.iconst X0.here hx rfl (hb hby at_16) kt) ?_
    show own_Go p.tables e below (s₁.setTop (mkF m 17 #[.val (.int p0), .val (.int p1), .val (.int p2), .val (.int f), .unset, .unset, .unset, .unset] [(.int (1 : Int32)), (.int p2)])) _
    refine own_by (fun _ kt => XS.iushr X0.here hx rfl (hb hby at_17) rfl kt) ?_
    show own_Go p.tables e below (s₁.setTop (mkF m 18 #[.val (.int p0), .val (.int p1), .val (.int p2), .val (.int f), .unset, .unset, .unset, .unset] [(.int ((p2.toUInt32 >>> ((1 : Int32) &&& 31).toUInt32).toInt32))])) _
    refine own_by (fun _ kt => XS.iconst X0.here hx rfl (hb hby at_18) kt) ?_
    show own_Go p.tables e below (s₁.setTop (mkF m 19 #[.val (.int p0), .val (.int p1), .val (.int p2), .val (.int f), .unset, .unset, .unset, .unset] [(.int (3 : Int32)), (.int ((p2.toUInt32 >>> ((1 : Int32) &&& 31).toUInt32).toInt32))])) _
    refine own_by (fun _ kt => XS.iand X0.here hx rfl (hb hby at_19) rfl kt) ?_
    show own_Go p.tables e below (s₁.setTop (mkF m 20 #[.val (.int p0), .val (.int p1), .val (.int p2), .val (.int f), .unset, .unset, .unset, .unset] [(.int (((p2.toUInt32 >>> ((1 : Int32) &&& 31).toUInt32).toInt32) &&& (3 : Int32)))])) _
    refine own_by (fun _ kt => XS.istore X0.here hx rfl (hb hby at_20) rfl (l' := #[.val (.int p0), .val (.int p1), .val (.int p2), .val (.int f), .val (.int (((p2.toUInt32 >>> ((1 : Int32) &&& 31).toUInt32).toInt32) &&& (3 : Int32))), .unset, .unset, .unset]) rfl kt) ?_
    show own_Go p.tables e below (s₁.setTop (mkF m 22 #[.val (.int p0), .val (.int p1), .val (.int p2), .val (.int f), .val (.int (((p2.toUInt32 >>> ((1 : Int32) &&& 31).toUInt32).toInt32) &&& (3 : Int32))), .unset, .unset, .unset] [])) _
    refine own_by (fun _ kt => XS.iload X0.here hx rfl (hb hby at_22) rfl kt) ?_
    show own_Go p.tables e below (s₁.setTop (mkF m 24 #[.val (.int p0), .val (.int p1), .val (.int p2), .val (.int f), .val (.int (((p2.toUInt32 >>> ((1 : Int32) &&& 31).toUInt32).toInt32) &&& (3 : Int32))), .unset, .unset, .unset] [(.int (((p2.toUInt32 >>> ((1 : Int32) &&& 31).toUInt32).toInt32) &&& (3 : Int32)))])) _
    by_cases hc24_2 : (((p2.toUInt32 >>> ((1 : Int32) &&& 31).toUInt32).toInt32) &&& (3 : Int32)) = (0 : Int32)
    · refine own_by (fun _ kt => XS.ifNo X0.here hx rfl (hb hby at_24) rfl ((if0 _ _).trans (teq hc24_2).2) kt) ?_
      show own_Go p.tables e below (s₁.setTop (mkF m 27 #[.val (.int p0), .val (.int p1), .val (.int p2), .val (.int f), .val (.int (((p2.toUInt32 >>> ((1 : Int32) &&& 31).toUInt32).toInt32) &&& (3 : Int32))), .unset, .unset, .unset] [])) _
      refine own_by (fun _ kt => XS.iloadN X0.here hx rfl (hb hby at_27) rfl kt) ?_
      show own_Go p.tables e below (s₁.setTop (mkF m 28 #[.val (.int p0), .val (.int p1), .val (.int p2), .val (.int f), .val (.int (((p2.toUInt32 >>> ((1 : Int32) &&& 31).toUInt32).toInt32) &&& (3 : Int32))), .unset, .unset, .unset] [(.int p1)])) _
      refine own_by (fun _ kt => XS.istore X0.here hx rfl (hb hby at_28) rfl (l' := #[.val (.int p0), .val (.int p1), .val (.int p2), .val (.int f), .val (.int (((p2.toUInt32 >>> ((1 : Int32) &&& 31).toUInt32).toInt32) &&& (3 : Int32))), .val (.int p1), .unset, .unset]) rfl kt) ?_
      show own_Go p.tables e below (s₁.setTop (mkF m 30 #[.val (.int p0), .val (.int p1), .val (.int p2), .val (.int f), .val (.int (((p2.toUInt32 >>> ((1 : Int32) &&& 31).toUInt32).toInt32) &&& (3 : Int32))), .val (.int p1), .unset, .unset] [])) _
      refine own_by (fun _ kt => XS.goto X0.here hx rfl (pc0 := 30) (pc' := 78) rfl (hb hby at_30) (by decide) (by decide) kt) ?_
      show own_Go p.tables e below (s₁.setTop (mkF m 78 #[.val (.int p0), .val (.int p1), .val (.int p2), .val (.int f), .val (.int (((p2.toUInt32 >>> ((1 : Int32) &&& 31).toUInt32).toInt32) &&& (3 : Int32))), .val (.int p1), .unset, .unset] [])) _
      refine own_by (fun _ kt => XS.iloadN X0.here hx rfl (hb hby at_78) rfl kt) ?_
      show own_Go p.tables e below (s₁.setTop (mkF m 79 #[.val (.int p0), .val (.int p1), .val (.int p2), .val (.int f), .val (.int (((p2.toUInt32 >>> ((1 : Int32) &&& 31).toUInt32).toInt32) &&& (3 : Int32))), .val (.int p1), .unset, .unset] [(.int f)])) _
      refine own_by (fun _ kt => XS.iconst X0.here hx rfl (hb hby at_79) kt) ?_
      show own_Go p.tables e below (s₁.setTop (mkF m 80 #[.val (.int p0), .val (.int p1), .val (.int p2), .val (.int f), .val (.int (((p2.toUInt32 >>> ((1 : Int32) &&& 31).toUInt32).toInt32) &&& (3 : Int32))), .val (.int p1), .unset, .unset] [(.int (1 : Int32)), (.int f)])) _
      by_cases hc80_3 : f < (1 : Int32)
      · refine own_by (fun _ kt => XS.icmpYes X0.here hx rfl (pc0 := 80) (pc' := 112) rfl (hb hby at_80) rfl (tlt hc80_3).1 (by decide) (by decide) kt) ?_
        show own_Go p.tables e below (s₁.setTop (mkF m 112 #[.val (.int p0), .val (.int p1), .val (.int p2), .val (.int f), .val (.int (((p2.toUInt32 >>> ((1 : Int32) &&& 31).toUInt32).toInt32) &&& (3 : Int32))), .val (.int p1), .unset, .unset] [])) _
        refine own_by (fun _ kt => XS.iconst X0.here hx rfl (hb hby at_112) kt) ?_
        show own_Go p.tables e below (s₁.setTop (mkF m 113 #[.val (.int p0), .val (.int p1), .val (.int p2), .val (.int f), .val (.int (((p2.toUInt32 >>> ((1 : Int32) &&& 31).toUInt32).toInt32) &&& (3 : Int32))), .val (.int p1), .unset, .unset] [(.int (0 : Int32))])) _
        refine own_by (fun _ kt => XS.istore X0.here hx rfl (hb hby at_113) rfl (l' := #[.val (.int p0), .val (.int p1), .val (.int p2), .val (.int f), .val (.int (((p2.toUInt32 >>> ((1 : Int32) &&& 31).toUInt32).toInt32) &&& (3 : Int32))), .val (.int p1), .val (.int (0 : Int32)), .unset]) rfl kt) ?_
        show own_Go p.tables e below (s₁.setTop (mkF m 115 #[.val (.int p0), .val (.int p1), .val (.int p2), .val (.int f), .val (.int (((p2.toUInt32 >>> ((1 : Int32) &&& 31).toUInt32).toInt32) &&& (3 : Int32))), .val (.int p1), .val (.int (0 : Int32)), .unset] [])) _
        refine own_by (fun _ kt => XS.iloadN X0.here hx rfl (hb hby at_115) rfl kt) ?_
        show own_Go p.tables e below (s₁.setTop (mkF m 116 #[.val (.int p0), .val (.int p1), .val (.int p2), .val (.int f), .val (.int (((p2.toUInt32 >>> ((1 : Int32) &&& 31).toUInt32).toInt32) &&& (3 : Int32))), .val (.int p1), .val (.int (0 : Int32)), .unset] [(.int f)])) _
        refine own_by (fun _ kt => XS.iload X0.here hx rfl (hb hby at_116) rfl kt) ?_
        show own_Go p.tables e below (s₁.setTop (mkF m 118 #[.val (.int p0), .val (.int p1), .val (.int p2), .val (.int f), .val (.int (((p2.toUInt32 >>> ((1 : Int32) &&& 31).toUInt32).toInt32) &&& (3 : Int32))), .val (.int p1), .val (.int (0 : Int32)), .unset] [(.int p1), (.int f)])) _
        obtain ⟨_, _, ⟨T4, L4, k4, n4⟩, -, X4, ⟨Lc4, hQ4, l4, y4, z4⟩, st4⟩ := Jvm.LawKit.callS X0 hx (y := (⟨"com/example/cardstock/cardstock/Field", "onCard", "(II)Z"⟩ : MethodName)) hown (mvT hZ (hw _ (List.mem_of_getElem? (i := 0) rfl))) (mvT hZ (hw _ (List.mem_of_getElem? (i := 1) rfl))) (mvT hZ (hw _ (List.mem_of_getElem? (i := 2) rfl))) (mvT hZ (hw _ (List.mem_of_getElem? (i := 3) rfl))) (by decide) (backOf (W := 0) (rm_own_on l Z a0 hw [] f p1 h0 n0 Z0) hZ (hw _ (List.mem_of_getElem? (i := 3) rfl)) (hw _ (List.mem_of_getElem? (i := 2) rfl)) (by decide) (by decide)) (g := (mkF m 118 #[.val (.int p0), .val (.int p1), .val (.int p2), .val (.int f), .val (.int (((p2.toUInt32 >>> ((1 : Int32) &&& 31).toUInt32).toInt32) &&& (3 : Int32))), .val (.int p1), .val (.int (0 : Int32)), .unset] [(.int p1), (.int f)])) rfl (by rw [hml]; rfl) (argsL := [(.int f), (.int p1)]) (rest := []) (lenOf pd_0 rfl) rfl (by show 2 * 0 + _ ≤ _; exact Nat.le_of_eq rfl) (hb hby at_118) (fun _ _ => ⟨rfl, e0, (by decide : 0 + 0 ≤ _), (by decide : 0 + 0 ≤ _)⟩)
        dsimp only [Pt.U, Pt.locs, Pt.cells, Pt.slots] at X4 l4 y4 z4 st4 hQ4
        subst l4 y4 z4
        obtain ⟨rfl, Nq4, eh4⟩ := hQ4
        have N4 := Fr.app N0 Nq4
        refine own_by (st4) ?_
        show own_Go p.tables e below (T4.setTop (mkF m 121 #[.val (.int p0), .val (.int p1), .val (.int p2), .val (.int f), .val (.int (((p2.toUInt32 >>> ((1 : Int32) &&& 31).toUInt32).toInt32) &&& (3 : Int32))), .val (.int p1), .val (.int (0 : Int32)), .unset] [(.int (own_on f p1))])) _
        refine own_by (fun _ kt => XS.iload X4.here hx rfl (hb hby at_121) rfl kt) ?_
        show own_Go p.tables e below (T4.setTop (mkF m 123 #[.val (.int p0), .val (.int p1), .val (.int p2), .val (.int f), .val (.int (((p2.toUInt32 >>> ((1 : Int32) &&& 31).toUInt32).toInt32) &&& (3 : Int32))), .val (.int p1), .val (.int (0 : Int32)), .unset] [(.int (0 : Int32)), (.int (own_on f p1))])) _
        refine own_by (fun _ kt => XS.icmpNo X4.here hx rfl (hb hby at_123) rfl (teq (own_k0 _ _ (Or.inl hc80_3) : (own_on f p1) = (0 : Int32))).2 kt) ?_
        show own_Go p.tables e below (T4.setTop (mkF m 126 #[.val (.int p0), .val (.int p1), .val (.int p2), .val (.int f), .val (.int (((p2.toUInt32 >>> ((1 : Int32) &&& 31).toUInt32).toInt32) &&& (3 : Int32))), .val (.int p1), .val (.int (0 : Int32)), .unset] [])) _
        refine own_by (fun _ kt => XS.iconst X4.here hx rfl (hb hby at_126) kt) ?_
        show own_Go p.tables e below (T4.setTop (mkF m 127 #[.val (.int p0), .val (.int p1), .val (.int p2), .val (.int f), .val (.int (((p2.toUInt32 >>> ((1 : Int32) &&& 31).toUInt32).toInt32) &&& (3 : Int32))), .val (.int p1), .val (.int (0 : Int32)), .unset] [(.int (1 : Int32))])) _
        refine own_by (fun _ kt => XS.goto X4.here hx rfl (pc0 := 127) (pc' := 131) rfl (hb hby at_127) (by decide) (by decide) kt) ?_
        show own_Go p.tables e below (T4.setTop (mkF m 131 #[.val (.int p0), .val (.int p1), .val (.int p2), .val (.int f), .val (.int (((p2.toUInt32 >>> ((1 : Int32) &&& 31).toUInt32).toInt32) &&& (3 : Int32))), .val (.int p1), .val (.int (0 : Int32)), .unset] [(.int (1 : Int32))])) _
        exact own_retN X4 hx (t := .boolean) Bd.returns hlk (by simp) (hb hby at_131) ⟨rfl, N4⟩ (by decide) (by decide)
      · refine own_by (fun _ kt => XS.icmpNo X0.here hx rfl (hb hby at_80) rfl (flt hc80_3).1 kt) ?_
        show own_Go p.tables e below (s₁.setTop (mkF m 83 #[.val (.int p0), .val (.int p1), .val (.int p2), .val (.int f), .val (.int (((p2.toUInt32 >>> ((1 : Int32) &&& 31).toUInt32).toInt32) &&& (3 : Int32))), .val (.int p1), .unset, .unset] [])) _
        refine own_by (fun _ kt => XS.iloadN X0.here hx rfl (hb hby at_83) rfl kt) ?_
        show own_Go p.tables e below (s₁.setTop (mkF m 84 #[.val (.int p0), .val (.int p1), .val (.int p2), .val (.int f), .val (.int (((p2.toUInt32 >>> ((1 : Int32) &&& 31).toUInt32).toInt32) &&& (3 : Int32))), .val (.int p1), .unset, .unset] [(.int f)])) _
        refine own_by (fun _ kt => XS.bipush X0.here hx rfl (hb hby at_84) kt) ?_
        show own_Go p.tables e below (s₁.setTop (mkF m 86 #[.val (.int p0), .val (.int p1), .val (.int p2), .val (.int f), .val (.int (((p2.toUInt32 >>> ((1 : Int32) &&& 31).toUInt32).toInt32) &&& (3 : Int32))), .val (.int p1), .unset, .unset] [(.int (80 : Int32)), (.int f)])) _
        by_cases hc86_5 : (80 : Int32) < f
        · refine own_by (fun _ kt => XS.icmpYes X0.here hx rfl (pc0 := 86) (pc' := 112) rfl (hb hby at_86) rfl (tlt hc86_5).2.2.1 (by decide) (by decide) kt) ?_
          show own_Go p.tables e below (s₁.setTop (mkF m 112 #[.val (.int p0), .val (.int p1), .val (.int p2), .val (.int f), .val (.int (((p2.toUInt32 >>> ((1 : Int32) &&& 31).toUInt32).toInt32) &&& (3 : Int32))), .val (.int p1), .unset, .unset] [])) _
          refine own_by (fun _ kt => XS.iconst X0.here hx rfl (hb hby at_112) kt) ?_
          show own_Go p.tables e below (s₁.setTop (mkF m 113 #[.val (.int p0), .val (.int p1), .val (.int p2), .val (.int f), .val (.int (((p2.toUInt32 >>> ((1 : Int32) &&& 31).toUInt32).toInt32) &&& (3 : Int32))), .val (.int p1), .unset, .unset] [(.int (0 : Int32))])) _
          refine own_by (fun _ kt => XS.istore X0.here hx rfl (hb hby at_113) rfl (l' := #[.val (.int p0), .val (.int p1), .val (.int p2), .val (.int f), .val (.int (((p2.toUInt32 >>> ((1 : Int32) &&& 31).toUInt32).toInt32) &&& (3 : Int32))), .val (.int p1), .val (.int (0 : Int32)), .unset]) rfl kt) ?_
          show own_Go p.tables e below (s₁.setTop (mkF m 115 #[.val (.int p0), .val (.int p1), .val (.int p2), .val (.int f), .val (.int (((p2.toUInt32 >>> ((1 : Int32) &&& 31).toUInt32).toInt32) &&& (3 : Int32))), .val (.int p1), .val (.int (0 : Int32)), .unset] [])) _
          refine own_by (fun _ kt => XS.iloadN X0.here hx rfl (hb hby at_115) rfl kt) ?_
          show own_Go p.tables e below (s₁.setTop (mkF m 116 #[.val (.int p0), .val (.int p1), .val (.int p2), .val (.int f), .val (.int (((p2.toUInt32 >>> ((1 : Int32) &&& 31).toUInt32).toInt32) &&& (3 : Int32))), .val (.int p1), .val (.int (0 : Int32)), .unset] [(.int f)])) _
          refine own_by (fun _ kt => XS.iload X0.here hx rfl (hb hby at_116) rfl kt) ?_
          show own_Go p.tables e below (s₁.setTop (mkF m 118 #[.val (.int p0), .val (.int p1), .val (.int p2), .val (.int f), .val (.int (((p2.toUInt32 >>> ((1 : Int32) &&& 31).toUInt32).toInt32) &&& (3 : Int32))), .val (.int p1), .val (.int (0 : Int32)), .unset] [(.int p1), (.int f)])) _
          obtain ⟨_, _, ⟨T6, L6, k6, n6⟩, -, X6, ⟨Lc6, hQ6, l6, y6, z6⟩, st6⟩ := Jvm.LawKit.callS X0 hx (y := (⟨"com/example/cardstock/cardstock/Field", "onCard", "(II)Z"⟩ : MethodName)) hown (mvT hZ (hw _ (List.mem_of_getElem? (i := 0) rfl))) (mvT hZ (hw _ (List.mem_of_getElem? (i := 1) rfl))) (mvT hZ (hw _ (List.mem_of_getElem? (i := 2) rfl))) (mvT hZ (hw _ (List.mem_of_getElem? (i := 3) rfl))) (by decide) (backOf (W := 0) (rm_own_on l Z a0 hw [] f p1 h0 n0 Z0) hZ (hw _ (List.mem_of_getElem? (i := 3) rfl)) (hw _ (List.mem_of_getElem? (i := 2) rfl)) (by decide) (by decide)) (g := (mkF m 118 #[.val (.int p0), .val (.int p1), .val (.int p2), .val (.int f), .val (.int (((p2.toUInt32 >>> ((1 : Int32) &&& 31).toUInt32).toInt32) &&& (3 : Int32))), .val (.int p1), .val (.int (0 : Int32)), .unset] [(.int p1), (.int f)])) rfl (by rw [hml]; rfl) (argsL := [(.int f), (.int p1)]) (rest := []) (lenOf pd_0 rfl) rfl (by show 2 * 0 + _ ≤ _; exact Nat.le_of_eq rfl) (hb hby at_118) (fun _ _ => ⟨rfl, e0, (by decide : 0 + 0 ≤ _), (by decide : 0 + 0 ≤ _)⟩)
          dsimp only [Pt.U, Pt.locs, Pt.cells, Pt.slots] at X6 l6 y6 z6 st6 hQ6
          subst l6 y6 z6
          obtain ⟨rfl, Nq6, eh6⟩ := hQ6
          have N6 := Fr.app N0 Nq6
          refine own_by (st6) ?_
          show own_Go p.tables e below (T6.setTop (mkF m 121 #[.val (.int p0), .val (.int p1), .val (.int p2), .val (.int f), .val (.int (((p2.toUInt32 >>> ((1 : Int32) &&& 31).toUInt32).toInt32) &&& (3 : Int32))), .val (.int p1), .val (.int (0 : Int32)), .unset] [(.int (own_on f p1))])) _
          refine own_by (fun _ kt => XS.iload X6.here hx rfl (hb hby at_121) rfl kt) ?_
          show own_Go p.tables e below (T6.setTop (mkF m 123 #[.val (.int p0), .val (.int p1), .val (.int p2), .val (.int f), .val (.int (((p2.toUInt32 >>> ((1 : Int32) &&& 31).toUInt32).toInt32) &&& (3 : Int32))), .val (.int p1), .val (.int (0 : Int32)), .unset] [(.int (0 : Int32)), (.int (own_on f p1))])) _
          refine own_by (fun _ kt => XS.icmpNo X6.here hx rfl (hb hby at_123) rfl (teq (own_k0 _ _ (Or.inr (Or.inl hc86_5)) : (own_on f p1) = (0 : Int32))).2 kt) ?_
          show own_Go p.tables e below (T6.setTop (mkF m 126 #[.val (.int p0), .val (.int p1), .val (.int p2), .val (.int f), .val (.int (((p2.toUInt32 >>> ((1 : Int32) &&& 31).toUInt32).toInt32) &&& (3 : Int32))), .val (.int p1), .val (.int (0 : Int32)), .unset] [])) _
          refine own_by (fun _ kt => XS.iconst X6.here hx rfl (hb hby at_126) kt) ?_
          show own_Go p.tables e below (T6.setTop (mkF m 127 #[.val (.int p0), .val (.int p1), .val (.int p2), .val (.int f), .val (.int (((p2.toUInt32 >>> ((1 : Int32) &&& 31).toUInt32).toInt32) &&& (3 : Int32))), .val (.int p1), .val (.int (0 : Int32)), .unset] [(.int (1 : Int32))])) _
          refine own_by (fun _ kt => XS.goto X6.here hx rfl (pc0 := 127) (pc' := 131) rfl (hb hby at_127) (by decide) (by decide) kt) ?_
          show own_Go p.tables e below (T6.setTop (mkF m 131 #[.val (.int p0), .val (.int p1), .val (.int p2), .val (.int f), .val (.int (((p2.toUInt32 >>> ((1 : Int32) &&& 31).toUInt32).toInt32) &&& (3 : Int32))), .val (.int p1), .val (.int (0 : Int32)), .unset] [(.int (1 : Int32))])) _
          exact own_retN X6 hx (t := .boolean) Bd.returns hlk (by simp) (hb hby at_131) ⟨rfl, N6⟩ (by decide) (by decide)
        · refine own_by (fun _ kt => XS.icmpNo X0.here hx rfl (hb hby at_86) rfl (flt hc86_5).2.2.1 kt) ?_
          show own_Go p.tables e below (s₁.setTop (mkF m 89 #[.val (.int p0), .val (.int p1), .val (.int p2), .val (.int f), .val (.int (((p2.toUInt32 >>> ((1 : Int32) &&& 31).toUInt32).toInt32) &&& (3 : Int32))), .val (.int p1), .unset, .unset] [])) _
          refine own_by (fun _ kt => XS.iload X0.here hx rfl (hb hby at_89) rfl kt) ?_
          show own_Go p.tables e below (s₁.setTop (mkF m 91 #[.val (.int p0), .val (.int p1), .val (.int p2), .val (.int f), .val (.int (((p2.toUInt32 >>> ((1 : Int32) &&& 31).toUInt32).toInt32) &&& (3 : Int32))), .val (.int p1), .unset, .unset] [(.int p1)])) _
          refine own_by (fun _ kt => XS.iconst X0.here hx rfl (hb hby at_91) kt) ?_
          show own_Go p.tables e below (s₁.setTop (mkF m 92 #[.val (.int p0), .val (.int p1), .val (.int p2), .val (.int f), .val (.int (((p2.toUInt32 >>> ((1 : Int32) &&& 31).toUInt32).toInt32) &&& (3 : Int32))), .val (.int p1), .unset, .unset] [(.int (1 : Int32)), (.int p1)])) _
          by_cases hc92_7 : p1 < (1 : Int32)
          · refine own_by (fun _ kt => XS.icmpYes X0.here hx rfl (pc0 := 92) (pc' := 112) rfl (hb hby at_92) rfl (tlt hc92_7).1 (by decide) (by decide) kt) ?_
            show own_Go p.tables e below (s₁.setTop (mkF m 112 #[.val (.int p0), .val (.int p1), .val (.int p2), .val (.int f), .val (.int (((p2.toUInt32 >>> ((1 : Int32) &&& 31).toUInt32).toInt32) &&& (3 : Int32))), .val (.int p1), .unset, .unset] [])) _
            refine own_by (fun _ kt => XS.iconst X0.here hx rfl (hb hby at_112) kt) ?_
            show own_Go p.tables e below (s₁.setTop (mkF m 113 #[.val (.int p0), .val (.int p1), .val (.int p2), .val (.int f), .val (.int (((p2.toUInt32 >>> ((1 : Int32) &&& 31).toUInt32).toInt32) &&& (3 : Int32))), .val (.int p1), .unset, .unset] [(.int (0 : Int32))])) _
            refine own_by (fun _ kt => XS.istore X0.here hx rfl (hb hby at_113) rfl (l' := #[.val (.int p0), .val (.int p1), .val (.int p2), .val (.int f), .val (.int (((p2.toUInt32 >>> ((1 : Int32) &&& 31).toUInt32).toInt32) &&& (3 : Int32))), .val (.int p1), .val (.int (0 : Int32)), .unset]) rfl kt) ?_
            show own_Go p.tables e below (s₁.setTop (mkF m 115 #[.val (.int p0), .val (.int p1), .val (.int p2), .val (.int f), .val (.int (((p2.toUInt32 >>> ((1 : Int32) &&& 31).toUInt32).toInt32) &&& (3 : Int32))), .val (.int p1), .val (.int (0 : Int32)), .unset] [])) _
            refine own_by (fun _ kt => XS.iloadN X0.here hx rfl (hb hby at_115) rfl kt) ?_
            show own_Go p.tables e below (s₁.setTop (mkF m 116 #[.val (.int p0), .val (.int p1), .val (.int p2), .val (.int f), .val (.int (((p2.toUInt32 >>> ((1 : Int32) &&& 31).toUInt32).toInt32) &&& (3 : Int32))), .val (.int p1), .val (.int (0 : Int32)), .unset] [(.int f)])) _
            refine own_by (fun _ kt => XS.iload X0.here hx rfl (hb hby at_116) rfl kt) ?_
            show own_Go p.tables e below (s₁.setTop (mkF m 118 #[.val (.int p0), .val (.int p1), .val (.int p2), .val (.int f), .val (.int (((p2.toUInt32 >>> ((1 : Int32) &&& 31).toUInt32).toInt32) &&& (3 : Int32))), .val (.int p1), .val (.int (0 : Int32)), .unset] [(.int p1), (.int f)])) _
            obtain ⟨_, _, ⟨T8, L8, k8, n8⟩, -, X8, ⟨Lc8, hQ8, l8, y8, z8⟩, st8⟩ := Jvm.LawKit.callS X0 hx (y := (⟨"com/example/cardstock/cardstock/Field", "onCard", "(II)Z"⟩ : MethodName)) hown (mvT hZ (hw _ (List.mem_of_getElem? (i := 0) rfl))) (mvT hZ (hw _ (List.mem_of_getElem? (i := 1) rfl))) (mvT hZ (hw _ (List.mem_of_getElem? (i := 2) rfl))) (mvT hZ (hw _ (List.mem_of_getElem? (i := 3) rfl))) (by decide) (backOf (W := 0) (rm_own_on l Z a0 hw [] f p1 h0 n0 Z0) hZ (hw _ (List.mem_of_getElem? (i := 3) rfl)) (hw _ (List.mem_of_getElem? (i := 2) rfl)) (by decide) (by decide)) (g := (mkF m 118 #[.val (.int p0), .val (.int p1), .val (.int p2), .val (.int f), .val (.int (((p2.toUInt32 >>> ((1 : Int32) &&& 31).toUInt32).toInt32) &&& (3 : Int32))), .val (.int p1), .val (.int (0 : Int32)), .unset] [(.int p1), (.int f)])) rfl (by rw [hml]; rfl) (argsL := [(.int f), (.int p1)]) (rest := []) (lenOf pd_0 rfl) rfl (by show 2 * 0 + _ ≤ _; exact Nat.le_of_eq rfl) (hb hby at_118) (fun _ _ => ⟨rfl, e0, (by decide : 0 + 0 ≤ _), (by decide : 0 + 0 ≤ _)⟩)
            dsimp only [Pt.U, Pt.locs, Pt.cells, Pt.slots] at X8 l8 y8 z8 st8 hQ8
            subst l8 y8 z8
            obtain ⟨rfl, Nq8, eh8⟩ := hQ8
            have N8 := Fr.app N0 Nq8
            refine own_by (st8) ?_
            show own_Go p.tables e below (T8.setTop (mkF m 121 #[.val (.int p0), .val (.int p1), .val (.int p2), .val (.int f), .val (.int (((p2.toUInt32 >>> ((1 : Int32) &&& 31).toUInt32).toInt32) &&& (3 : Int32))), .val (.int p1), .val (.int (0 : Int32)), .unset] [(.int (own_on f p1))])) _
            refine own_by (fun _ kt => XS.iload X8.here hx rfl (hb hby at_121) rfl kt) ?_
            show own_Go p.tables e below (T8.setTop (mkF m 123 #[.val (.int p0), .val (.int p1), .val (.int p2), .val (.int f), .val (.int (((p2.toUInt32 >>> ((1 : Int32) &&& 31).toUInt32).toInt32) &&& (3 : Int32))), .val (.int p1), .val (.int (0 : Int32)), .unset] [(.int (0 : Int32)), (.int (own_on f p1))])) _
            refine own_by (fun _ kt => XS.icmpNo X8.here hx rfl (hb hby at_123) rfl (teq (own_k0 _ _ (Or.inr (Or.inr (Or.inl hc92_7))) : (own_on f p1) = (0 : Int32))).2 kt) ?_
            show own_Go p.tables e below (T8.setTop (mkF m 126 #[.val (.int p0), .val (.int p1), .val (.int p2), .val (.int f), .val (.int (((p2.toUInt32 >>> ((1 : Int32) &&& 31).toUInt32).toInt32) &&& (3 : Int32))), .val (.int p1), .val (.int (0 : Int32)), .unset] [])) _
            refine own_by (fun _ kt => XS.iconst X8.here hx rfl (hb hby at_126) kt) ?_
            show own_Go p.tables e below (T8.setTop (mkF m 127 #[.val (.int p0), .val (.int p1), .val (.int p2), .val (.int f), .val (.int (((p2.toUInt32 >>> ((1 : Int32) &&& 31).toUInt32).toInt32) &&& (3 : Int32))), .val (.int p1), .val (.int (0 : Int32)), .unset] [(.int (1 : Int32))])) _
            refine own_by (fun _ kt => XS.goto X8.here hx rfl (pc0 := 127) (pc' := 131) rfl (hb hby at_127) (by decide) (by decide) kt) ?_
            show own_Go p.tables e below (T8.setTop (mkF m 131 #[.val (.int p0), .val (.int p1), .val (.int p2), .val (.int f), .val (.int (((p2.toUInt32 >>> ((1 : Int32) &&& 31).toUInt32).toInt32) &&& (3 : Int32))), .val (.int p1), .val (.int (0 : Int32)), .unset] [(.int (1 : Int32))])) _
            exact own_retN X8 hx (t := .boolean) Bd.returns hlk (by simp) (hb hby at_131) ⟨rfl, N8⟩ (by decide) (by decide)
          · refine own_by (fun _ kt => XS.icmpNo X0.here hx rfl (hb hby at_92) rfl (flt hc92_7).1 kt) ?_
            show own_Go p.tables e below (s₁.setTop (mkF m 95 #[.val (.int p0), .val (.int p1), .val (.int p2), .val (.int f), .val (.int (((p2.toUInt32 >>> ((1 : Int32) &&& 31).toUInt32).toInt32) &&& (3 : Int32))), .val (.int p1), .unset, .unset] [])) _
            refine own_by (fun _ kt => XS.iload X0.here hx rfl (hb hby at_95) rfl kt) ?_
            show own_Go p.tables e below (s₁.setTop (mkF m 97 #[.val (.int p0), .val (.int p1), .val (.int p2), .val (.int f), .val (.int (((p2.toUInt32 >>> ((1 : Int32) &&& 31).toUInt32).toInt32) &&& (3 : Int32))), .val (.int p1), .unset, .unset] [(.int p1)])) _
            refine own_by (fun _ kt => XS.bipush X0.here hx rfl (hb hby at_97) kt) ?_
            show own_Go p.tables e below (s₁.setTop (mkF m 99 #[.val (.int p0), .val (.int p1), .val (.int p2), .val (.int f), .val (.int (((p2.toUInt32 >>> ((1 : Int32) &&& 31).toUInt32).toInt32) &&& (3 : Int32))), .val (.int p1), .unset, .unset] [(.int (80 : Int32)), (.int p1)])) _
            by_cases hc99_9 : (80 : Int32) < p1
            · refine own_by (fun _ kt => XS.icmpYes X0.here hx rfl (pc0 := 99) (pc' := 112) rfl (hb hby at_99) rfl (tlt hc99_9).2.2.1 (by decide) (by decide) kt) ?_
              show own_Go p.tables e below (s₁.setTop (mkF m 112 #[.val (.int p0), .val (.int p1), .val (.int p2), .val (.int f), .val (.int (((p2.toUInt32 >>> ((1 : Int32) &&& 31).toUInt32).toInt32) &&& (3 : Int32))), .val (.int p1), .unset, .unset] [])) _
              refine own_by (fun _ kt => XS.iconst X0.here hx rfl (hb hby at_112) kt) ?_
              show own_Go p.tables e below (s₁.setTop (mkF m 113 #[.val (.int p0), .val (.int p1), .val (.int p2), .val (.int f), .val (.int (((p2.toUInt32 >>> ((1 : Int32) &&& 31).toUInt32).toInt32) &&& (3 : Int32))), .val (.int p1), .unset, .unset] [(.int (0 : Int32))])) _
              refine own_by (fun _ kt => XS.istore X0.here hx rfl (hb hby at_113) rfl (l' := #[.val (.int p0), .val (.int p1), .val (.int p2), .val (.int f), .val (.int (((p2.toUInt32 >>> ((1 : Int32) &&& 31).toUInt32).toInt32) &&& (3 : Int32))), .val (.int p1), .val (.int (0 : Int32)), .unset]) rfl kt) ?_
              show own_Go p.tables e below (s₁.setTop (mkF m 115 #[.val (.int p0), .val (.int p1), .val (.int p2), .val (.int f), .val (.int (((p2.toUInt32 >>> ((1 : Int32) &&& 31).toUInt32).toInt32) &&& (3 : Int32))), .val (.int p1), .val (.int (0 : Int32)), .unset] [])) _
              refine own_by (fun _ kt => XS.iloadN X0.here hx rfl (hb hby at_115) rfl kt) ?_
              show own_Go p.tables e below (s₁.setTop (mkF m 116 #[.val (.int p0), .val (.int p1), .val (.int p2), .val (.int f), .val (.int (((p2.toUInt32 >>> ((1 : Int32) &&& 31).toUInt32).toInt32) &&& (3 : Int32))), .val (.int p1), .val (.int (0 : Int32)), .unset] [(.int f)])) _
              refine own_by (fun _ kt => XS.iload X0.here hx rfl (hb hby at_116) rfl kt) ?_
              show own_Go p.tables e below (s₁.setTop (mkF m 118 #[.val (.int p0), .val (.int p1), .val (.int p2), .val (.int f), .val (.int (((p2.toUInt32 >>> ((1 : Int32) &&& 31).toUInt32).toInt32) &&& (3 : Int32))), .val (.int p1), .val (.int (0 : Int32)), .unset] [(.int p1), (.int f)])) _
              obtain ⟨_, _, ⟨T10, L10, k10, n10⟩, -, X10, ⟨Lc10, hQ10, l10, y10, z10⟩, st10⟩ := Jvm.LawKit.callS X0 hx (y := (⟨"com/example/cardstock/cardstock/Field", "onCard", "(II)Z"⟩ : MethodName)) hown (mvT hZ (hw _ (List.mem_of_getElem? (i := 0) rfl))) (mvT hZ (hw _ (List.mem_of_getElem? (i := 1) rfl))) (mvT hZ (hw _ (List.mem_of_getElem? (i := 2) rfl))) (mvT hZ (hw _ (List.mem_of_getElem? (i := 3) rfl))) (by decide) (backOf (W := 0) (rm_own_on l Z a0 hw [] f p1 h0 n0 Z0) hZ (hw _ (List.mem_of_getElem? (i := 3) rfl)) (hw _ (List.mem_of_getElem? (i := 2) rfl)) (by decide) (by decide)) (g := (mkF m 118 #[.val (.int p0), .val (.int p1), .val (.int p2), .val (.int f), .val (.int (((p2.toUInt32 >>> ((1 : Int32) &&& 31).toUInt32).toInt32) &&& (3 : Int32))), .val (.int p1), .val (.int (0 : Int32)), .unset] [(.int p1), (.int f)])) rfl (by rw [hml]; rfl) (argsL := [(.int f), (.int p1)]) (rest := []) (lenOf pd_0 rfl) rfl (by show 2 * 0 + _ ≤ _; exact Nat.le_of_eq rfl) (hb hby at_118) (fun _ _ => ⟨rfl, e0, (by decide : 0 + 0 ≤ _), (by decide : 0 + 0 ≤ _)⟩)
              dsimp only [Pt.U, Pt.locs, Pt.cells, Pt.slots] at X10 l10 y10 z10 st10 hQ10
              subst l10 y10 z10
              obtain ⟨rfl, Nq10, eh10⟩ := hQ10
              have N10 := Fr.app N0 Nq10
              refine own_by (st10) ?_
              show own_Go p.tables e below (T10.setTop (mkF m 121 #[.val (.int p0), .val (.int p1), .val (.int p2), .val (.int f), .val (.int (((p2.toUInt32 >>> ((1 : Int32) &&& 31).toUInt32).toInt32) &&& (3 : Int32))), .val (.int p1), .val (.int (0 : Int32)), .unset] [(.int (own_on f p1))])) _
              refine own_by (fun _ kt => XS.iload X10.here hx rfl (hb hby at_121) rfl kt) ?_
              show own_Go p.tables e below (T10.setTop (mkF m 123 #[.val (.int p0), .val (.int p1), .val (.int p2), .val (.int f), .val (.int (((p2.toUInt32 >>> ((1 : Int32) &&& 31).toUInt32).toInt32) &&& (3 : Int32))), .val (.int p1), .val (.int (0 : Int32)), .unset] [(.int (0 : Int32)), (.int (own_on f p1))])) _
              refine own_by (fun _ kt => XS.icmpNo X10.here hx rfl (hb hby at_123) rfl (teq (own_k0 _ _ (Or.inr (Or.inr (Or.inr (Or.inl hc99_9)))) : (own_on f p1) = (0 : Int32))).2 kt) ?_
              show own_Go p.tables e below (T10.setTop (mkF m 126 #[.val (.int p0), .val (.int p1), .val (.int p2), .val (.int f), .val (.int (((p2.toUInt32 >>> ((1 : Int32) &&& 31).toUInt32).toInt32) &&& (3 : Int32))), .val (.int p1), .val (.int (0 : Int32)), .unset] [])) _
              refine own_by (fun _ kt => XS.iconst X10.here hx rfl (hb hby at_126) kt) ?_
              show own_Go p.tables e below (T10.setTop (mkF m 127 #[.val (.int p0), .val (.int p1), .val (.int p2), .val (.int f), .val (.int (((p2.toUInt32 >>> ((1 : Int32) &&& 31).toUInt32).toInt32) &&& (3 : Int32))), .val (.int p1), .val (.int (0 : Int32)), .unset] [(.int (1 : Int32))])) _
              refine own_by (fun _ kt => XS.goto X10.here hx rfl (pc0 := 127) (pc' := 131) rfl (hb hby at_127) (by decide) (by decide) kt) ?_
              show own_Go p.tables e below (T10.setTop (mkF m 131 #[.val (.int p0), .val (.int p1), .val (.int p2), .val (.int f), .val (.int (((p2.toUInt32 >>> ((1 : Int32) &&& 31).toUInt32).toInt32) &&& (3 : Int32))), .val (.int p1), .val (.int (0 : Int32)), .unset] [(.int (1 : Int32))])) _
              exact own_retN X10 hx (t := .boolean) Bd.returns hlk (by simp) (hb hby at_131) ⟨rfl, N10⟩ (by decide) (by decide)
            · refine own_by (fun _ kt => XS.icmpNo X0.here hx rfl (hb hby at_99) rfl (flt hc99_9).2.2.1 kt) ?_
              show own_Go p.tables e below (s₁.setTop (mkF m 102 #[.val (.int p0), .val (.int p1), .val (.int p2), .val (.int f), .val (.int (((p2.toUInt32 >>> ((1 : Int32) &&& 31).toUInt32).toInt32) &&& (3 : Int32))), .val (.int p1), .unset, .unset] [])) _
              refine own_by (fun _ kt => XS.iloadN X0.here hx rfl (hb hby at_102) rfl kt) ?_
              show own_Go p.tables e below (s₁.setTop (mkF m 103 #[.val (.int p0), .val (.int p1), .val (.int p2), .val (.int f), .val (.int (((p2.toUInt32 >>> ((1 : Int32) &&& 31).toUInt32).toInt32) &&& (3 : Int32))), .val (.int p1), .unset, .unset] [(.int f)])) _
              refine own_by (fun _ kt => XS.iload X0.here hx rfl (hb hby at_103) rfl kt) ?_
              show own_Go p.tables e below (s₁.setTop (mkF m 105 #[.val (.int p0), .val (.int p1), .val (.int p2), .val (.int f), .val (.int (((p2.toUInt32 >>> ((1 : Int32) &&& 31).toUInt32).toInt32) &&& (3 : Int32))), .val (.int p1), .unset, .unset] [(.int p1), (.int f)])) _
              by_cases hc105_11 : p1 < f
              · refine own_by (fun _ kt => XS.icmpYes X0.here hx rfl (pc0 := 105) (pc' := 112) rfl (hb hby at_105) rfl (tlt hc105_11).2.2.1 (by decide) (by decide) kt) ?_
                show own_Go p.tables e below (s₁.setTop (mkF m 112 #[.val (.int p0), .val (.int p1), .val (.int p2), .val (.int f), .val (.int (((p2.toUInt32 >>> ((1 : Int32) &&& 31).toUInt32).toInt32) &&& (3 : Int32))), .val (.int p1), .unset, .unset] [])) _
                refine own_by (fun _ kt => XS.iconst X0.here hx rfl (hb hby at_112) kt) ?_
                show own_Go p.tables e below (s₁.setTop (mkF m 113 #[.val (.int p0), .val (.int p1), .val (.int p2), .val (.int f), .val (.int (((p2.toUInt32 >>> ((1 : Int32) &&& 31).toUInt32).toInt32) &&& (3 : Int32))), .val (.int p1), .unset, .unset] [(.int (0 : Int32))])) _
                refine own_by (fun _ kt => XS.istore X0.here hx rfl (hb hby at_113) rfl (l' := #[.val (.int p0), .val (.int p1), .val (.int p2), .val (.int f), .val (.int (((p2.toUInt32 >>> ((1 : Int32) &&& 31).toUInt32).toInt32) &&& (3 : Int32))), .val (.int p1), .val (.int (0 : Int32)), .unset]) rfl kt) ?_
                show own_Go p.tables e below (s₁.setTop (mkF m 115 #[.val (.int p0), .val (.int p1), .val (.int p2), .val (.int f), .val (.int (((p2.toUInt32 >>> ((1 : Int32) &&& 31).toUInt32).toInt32) &&& (3 : Int32))), .val (.int p1), .val (.int (0 : Int32)), .unset] [])) _
                refine own_by (fun _ kt => XS.iloadN X0.here hx rfl (hb hby at_115) rfl kt) ?_
                show own_Go p.tables e below (s₁.setTop (mkF m 116 #[.val (.int p0), .val (.int p1), .val (.int p2), .val (.int f), .val (.int (((p2.toUInt32 >>> ((1 : Int32) &&& 31).toUInt32).toInt32) &&& (3 : Int32))), .val (.int p1), .val (.int (0 : Int32)), .unset] [(.int f)])) _
                refine own_by (fun _ kt => XS.iload X0.here hx rfl (hb hby at_116) rfl kt) ?_
                show own_Go p.tables e below (s₁.setTop (mkF m 118 #[.val (.int p0), .val (.int p1), .val (.int p2), .val (.int f), .val (.int (((p2.toUInt32 >>> ((1 : Int32) &&& 31).toUInt32).toInt32) &&& (3 : Int32))), .val (.int p1), .val (.int (0 : Int32)), .unset] [(.int p1), (.int f)])) _
                obtain ⟨_, _, ⟨T12, L12, k12, n12⟩, -, X12, ⟨Lc12, hQ12, l12, y12, z12⟩, st12⟩ := Jvm.LawKit.callS X0 hx (y := (⟨"com/example/cardstock/cardstock/Field", "onCard", "(II)Z"⟩ : MethodName)) hown (mvT hZ (hw _ (List.mem_of_getElem? (i := 0) rfl))) (mvT hZ (hw _ (List.mem_of_getElem? (i := 1) rfl))) (mvT hZ (hw _ (List.mem_of_getElem? (i := 2) rfl))) (mvT hZ (hw _ (List.mem_of_getElem? (i := 3) rfl))) (by decide) (backOf (W := 0) (rm_own_on l Z a0 hw [] f p1 h0 n0 Z0) hZ (hw _ (List.mem_of_getElem? (i := 3) rfl)) (hw _ (List.mem_of_getElem? (i := 2) rfl)) (by decide) (by decide)) (g := (mkF m 118 #[.val (.int p0), .val (.int p1), .val (.int p2), .val (.int f), .val (.int (((p2.toUInt32 >>> ((1 : Int32) &&& 31).toUInt32).toInt32) &&& (3 : Int32))), .val (.int p1), .val (.int (0 : Int32)), .unset] [(.int p1), (.int f)])) rfl (by rw [hml]; rfl) (argsL := [(.int f), (.int p1)]) (rest := []) (lenOf pd_0 rfl) rfl (by show 2 * 0 + _ ≤ _; exact Nat.le_of_eq rfl) (hb hby at_118) (fun _ _ => ⟨rfl, e0, (by decide : 0 + 0 ≤ _), (by decide : 0 + 0 ≤ _)⟩)
                dsimp only [Pt.U, Pt.locs, Pt.cells, Pt.slots] at X12 l12 y12 z12 st12 hQ12
                subst l12 y12 z12
                obtain ⟨rfl, Nq12, eh12⟩ := hQ12
                have N12 := Fr.app N0 Nq12
                refine own_by (st12) ?_
                show own_Go p.tables e below (T12.setTop (mkF m 121 #[.val (.int p0), .val (.int p1), .val (.int p2), .val (.int f), .val (.int (((p2.toUInt32 >>> ((1 : Int32) &&& 31).toUInt32).toInt32) &&& (3 : Int32))), .val (.int p1), .val (.int (0 : Int32)), .unset] [(.int (own_on f p1))])) _
                refine own_by (fun _ kt => XS.iload X12.here hx rfl (hb hby at_121) rfl kt) ?_
                show own_Go p.tables e below (T12.setTop (mkF m 123 #[.val (.int p0), .val (.int p1), .val (.int p2), .val (.int f), .val (.int (((p2.toUInt32 >>> ((1 : Int32) &&& 31).toUInt32).toInt32) &&& (3 : Int32))), .val (.int p1), .val (.int (0 : Int32)), .unset] [(.int (0 : Int32)), (.int (own_on f p1))])) _
                refine own_by (fun _ kt => XS.icmpNo X12.here hx rfl (hb hby at_123) rfl (teq (own_k0 _ _ (Or.inr (Or.inr (Or.inr (Or.inr (hc105_11))))) : (own_on f p1) = (0 : Int32))).2 kt) ?_
                show own_Go p.tables e below (T12.setTop (mkF m 126 #[.val (.int p0), .val (.int p1), .val (.int p2), .val (.int f), .val (.int (((p2.toUInt32 >>> ((1 : Int32) &&& 31).toUInt32).toInt32) &&& (3 : Int32))), .val (.int p1), .val (.int (0 : Int32)), .unset] [])) _
                refine own_by (fun _ kt => XS.iconst X12.here hx rfl (hb hby at_126) kt) ?_
                show own_Go p.tables e below (T12.setTop (mkF m 127 #[.val (.int p0), .val (.int p1), .val (.int p2), .val (.int f), .val (.int (((p2.toUInt32 >>> ((1 : Int32) &&& 31).toUInt32).toInt32) &&& (3 : Int32))), .val (.int p1), .val (.int (0 : Int32)), .unset] [(.int (1 : Int32))])) _
                refine own_by (fun _ kt => XS.goto X12.here hx rfl (pc0 := 127) (pc' := 131) rfl (hb hby at_127) (by decide) (by decide) kt) ?_
                show own_Go p.tables e below (T12.setTop (mkF m 131 #[.val (.int p0), .val (.int p1), .val (.int p2), .val (.int f), .val (.int (((p2.toUInt32 >>> ((1 : Int32) &&& 31).toUInt32).toInt32) &&& (3 : Int32))), .val (.int p1), .val (.int (0 : Int32)), .unset] [(.int (1 : Int32))])) _
                exact own_retN X12 hx (t := .boolean) Bd.returns hlk (by simp) (hb hby at_131) ⟨rfl, N12⟩ (by decide) (by decide)
              · refine own_by (fun _ kt => XS.icmpNo X0.here hx rfl (hb hby at_105) rfl (flt hc105_11).2.2.1 kt) ?_
                show own_Go p.tables e below (s₁.setTop (mkF m 108 #[.val (.int p0), .val (.int p1), .val (.int p2), .val (.int f), .val (.int (((p2.toUInt32 >>> ((1 : Int32) &&& 31).toUInt32).toInt32) &&& (3 : Int32))), .val (.int p1), .unset, .unset] [])) _
                refine own_by (fun _ kt => XS.iconst X0.here hx rfl (hb hby at_108) kt) ?_
                show own_Go p.tables e below (s₁.setTop (mkF m 109 #[.val (.int p0), .val (.int p1), .val (.int p2), .val (.int f), .val (.int (((p2.toUInt32 >>> ((1 : Int32) &&& 31).toUInt32).toInt32) &&& (3 : Int32))), .val (.int p1), .unset, .unset] [(.int (1 : Int32))])) _
                refine own_by (fun _ kt => XS.goto X0.here hx rfl (pc0 := 109) (pc' := 113) rfl (hb hby at_109) (by decide) (by decide) kt) ?_
                show own_Go p.tables e below (s₁.setTop (mkF m 113 #[.val (.int p0), .val (.int p1), .val (.int p2), .val (.int f), .val (.int (((p2.toUInt32 >>> ((1 : Int32) &&& 31).toUInt32).toInt32) &&& (3 : Int32))), .val (.int p1), .unset, .unset] [(.int (1 : Int32))])) _
                refine own_by (fun _ kt => XS.istore X0.here hx rfl (hb hby at_113) rfl (l' := #[.val (.int p0), .val (.int p1), .val (.int p2), .val (.int f), .val (.int (((p2.toUInt32 >>> ((1 : Int32) &&& 31).toUInt32).toInt32) &&& (3 : Int32))), .val (.int p1), .val (.int (1 : Int32)), .unset]) rfl kt) ?_
                show own_Go p.tables e below (s₁.setTop (mkF m 115 #[.val (.int p0), .val (.int p1), .val (.int p2), .val (.int f), .val (.int (((p2.toUInt32 >>> ((1 : Int32) &&& 31).toUInt32).toInt32) &&& (3 : Int32))), .val (.int p1), .val (.int (1 : Int32)), .unset] [])) _
                refine own_by (fun _ kt => XS.iloadN X0.here hx rfl (hb hby at_115) rfl kt) ?_
                show own_Go p.tables e below (s₁.setTop (mkF m 116 #[.val (.int p0), .val (.int p1), .val (.int p2), .val (.int f), .val (.int (((p2.toUInt32 >>> ((1 : Int32) &&& 31).toUInt32).toInt32) &&& (3 : Int32))), .val (.int p1), .val (.int (1 : Int32)), .unset] [(.int f)])) _
                refine own_by (fun _ kt => XS.iload X0.here hx rfl (hb hby at_116) rfl kt) ?_
                show own_Go p.tables e below (s₁.setTop (mkF m 118 #[.val (.int p0), .val (.int p1), .val (.int p2), .val (.int f), .val (.int (((p2.toUInt32 >>> ((1 : Int32) &&& 31).toUInt32).toInt32) &&& (3 : Int32))), .val (.int p1), .val (.int (1 : Int32)), .unset] [(.int p1), (.int f)])) _
                obtain ⟨_, _, ⟨T13, L13, k13, n13⟩, -, X13, ⟨Lc13, hQ13, l13, y13, z13⟩, st13⟩ := Jvm.LawKit.callS X0 hx (y := (⟨"com/example/cardstock/cardstock/Field", "onCard", "(II)Z"⟩ : MethodName)) hown (mvT hZ (hw _ (List.mem_of_getElem? (i := 0) rfl))) (mvT hZ (hw _ (List.mem_of_getElem? (i := 1) rfl))) (mvT hZ (hw _ (List.mem_of_getElem? (i := 2) rfl))) (mvT hZ (hw _ (List.mem_of_getElem? (i := 3) rfl))) (by decide) (backOf (W := 0) (rm_own_on l Z a0 hw [] f p1 h0 n0 Z0) hZ (hw _ (List.mem_of_getElem? (i := 3) rfl)) (hw _ (List.mem_of_getElem? (i := 2) rfl)) (by decide) (by decide)) (g := (mkF m 118 #[.val (.int p0), .val (.int p1), .val (.int p2), .val (.int f), .val (.int (((p2.toUInt32 >>> ((1 : Int32) &&& 31).toUInt32).toInt32) &&& (3 : Int32))), .val (.int p1), .val (.int (1 : Int32)), .unset] [(.int p1), (.int f)])) rfl (by rw [hml]; rfl) (argsL := [(.int f), (.int p1)]) (rest := []) (lenOf pd_0 rfl) rfl (by show 2 * 0 + _ ≤ _; exact Nat.le_of_eq rfl) (hb hby at_118) (fun _ _ => ⟨rfl, e0, (by decide : 0 + 0 ≤ _), (by decide : 0 + 0 ≤ _)⟩)
                dsimp only [Pt.U, Pt.locs, Pt.cells, Pt.slots] at X13 l13 y13 z13 st13 hQ13
                subst l13 y13 z13
                obtain ⟨rfl, Nq13, eh13⟩ := hQ13
                have N13 := Fr.app N0 Nq13
                refine own_by (st13) ?_
                show own_Go p.tables e below (T13.setTop (mkF m 121 #[.val (.int p0), .val (.int p1), .val (.int p2), .val (.int f), .val (.int (((p2.toUInt32 >>> ((1 : Int32) &&& 31).toUInt32).toInt32) &&& (3 : Int32))), .val (.int p1), .val (.int (1 : Int32)), .unset] [(.int (own_on f p1))])) _
                refine own_by (fun _ kt => XS.iload X13.here hx rfl (hb hby at_121) rfl kt) ?_
                show own_Go p.tables e below (T13.setTop (mkF m 123 #[.val (.int p0), .val (.int p1), .val (.int p2), .val (.int f), .val (.int (((p2.toUInt32 >>> ((1 : Int32) &&& 31).toUInt32).toInt32) &&& (3 : Int32))), .val (.int p1), .val (.int (1 : Int32)), .unset] [(.int (1 : Int32)), (.int (own_on f p1))])) _
                refine own_by (fun _ kt => XS.icmpNo X13.here hx rfl (hb hby at_123) rfl (teq (own_k1 _ _ hc80_3 hc105_11 hc99_9 : (own_on f p1) = (1 : Int32))).2 kt) ?_
                show own_Go p.tables e below (T13.setTop (mkF m 126 #[.val (.int p0), .val (.int p1), .val (.int p2), .val (.int f), .val (.int (((p2.toUInt32 >>> ((1 : Int32) &&& 31).toUInt32).toInt32) &&& (3 : Int32))), .val (.int p1), .val (.int (1 : Int32)), .unset] [])) _
                refine own_by (fun _ kt => XS.iconst X13.here hx rfl (hb hby at_126) kt) ?_
                show own_Go p.tables e below (T13.setTop (mkF m 127 #[.val (.int p0), .val (.int p1), .val (.int p2), .val (.int f), .val (.int (((p2.toUInt32 >>> ((1 : Int32) &&& 31).toUInt32).toInt32) &&& (3 : Int32))), .val (.int p1), .val (.int (1 : Int32)), .unset] [(.int (1 : Int32))])) _
                refine own_by (fun _ kt => XS.goto X13.here hx rfl (pc0 := 127) (pc' := 131) rfl (hb hby at_127) (by decide) (by decide) kt) ?_
                show own_Go p.tables e below (T13.setTop (mkF m 131 #[.val (.int p0), .val (.int p1), .val (.int p2), .val (.int f), .val (.int (((p2.toUInt32 >>> ((1 : Int32) &&& 31).toUInt32).toInt32) &&& (3 : Int32))), .val (.int p1), .val (.int (1 : Int32)), .unset] [(.int (1 : Int32))])) _
                exact own_retN X13 hx (t := .boolean) Bd.returns hlk (by simp) (hb hby at_131) ⟨rfl, N13⟩ (by decide) (by decide)
    · refine own_by (fun _ kt => XS.ifYes X0.here hx rfl (pc0 := 24) (pc' := 33) rfl (hb hby at_24) rfl ((if0 _ _).trans (feq hc24_2).2) (by decide) (by decide) kt) ?_
      show own_Go p.tables e below (s₁.setTop (mkF m 33 #[.val (.int p0), .val (.int p1), .val (.int p2), .val (.int f), .val (.int (((p2.toUInt32 >>> ((1 : Int32) &&& 31).toUInt32).toInt32) &&& (3 : Int32))), .unset, .unset, .unset] [])) _
      refine own_by (fun _ kt => XS.iload X0.here hx rfl (hb hby at_33) rfl kt) ?_
      show own_Go p.tables e below (s₁.setTop (mkF m 35 #[.val (.int p0), .val (.int p1), .val (.int p2), .val (.int f), .val (.int (((p2.toUInt32 >>> ((1 : Int32) &&& 31).toUInt32).toInt32) &&& (3 : Int32))), .unset, .unset, .unset] [(.int (((p2.toUInt32 >>> ((1 : Int32) &&& 31).toUInt32).toInt32) &&& (3 : Int32)))])) _
      refine own_by (fun _ kt => XS.iconst X0.here hx rfl (hb hby at_35) kt) ?_
      show own_Go p.tables e below (s₁.setTop (mkF m 36 #[.val (.int p0), .val (.int p1), .val (.int p2), .val (.int f), .val (.int (((p2.toUInt32 >>> ((1 : Int32) &&& 31).toUInt32).toInt32) &&& (3 : Int32))), .unset, .unset, .unset] [(.int (1 : Int32)), (.int (((p2.toUInt32 >>> ((1 : Int32) &&& 31).toUInt32).toInt32) &&& (3 : Int32)))])) _
      by_cases hc36_14 : (((p2.toUInt32 >>> ((1 : Int32) &&& 31).toUInt32).toInt32) &&& (3 : Int32)) = (1 : Int32)
      · refine own_by (fun _ kt => XS.icmpNo X0.here hx rfl (hb hby at_36) rfl (teq hc36_14).2 kt) ?_
        show own_Go p.tables e below (s₁.setTop (mkF m 39 #[.val (.int p0), .val (.int p1), .val (.int p2), .val (.int f), .val (.int (((p2.toUInt32 >>> ((1 : Int32) &&& 31).toUInt32).toInt32) &&& (3 : Int32))), .unset, .unset, .unset] [])) _
        refine own_by (fun _ kt => XS.iloadN X0.here hx rfl (hb hby at_39) rfl kt) ?_
        show own_Go p.tables e below (s₁.setTop (mkF m 40 #[.val (.int p0), .val (.int p1), .val (.int p2), .val (.int f), .val (.int (((p2.toUInt32 >>> ((1 : Int32) &&& 31).toUInt32).toInt32) &&& (3 : Int32))), .unset, .unset, .unset] [(.int p1)])) _
        refine own_by (fun _ kt => XS.bipush X0.here hx rfl (hb hby at_40) kt) ?_
        show own_Go p.tables e below (s₁.setTop (mkF m 42 #[.val (.int p0), .val (.int p1), .val (.int p2), .val (.int f), .val (.int (((p2.toUInt32 >>> ((1 : Int32) &&& 31).toUInt32).toInt32) &&& (3 : Int32))), .unset, .unset, .unset] [(.int (84 : Int32)), (.int p1)])) _
        refine own_by (fun _ kt => iremM X0 hx rfl (hb hby at_42) rfl (by decide) kt) ?_
        show own_Go p.tables e below (s₁.setTop (mkF m 43 #[.val (.int p0), .val (.int p1), .val (.int p2), .val (.int f), .val (.int (((p2.toUInt32 >>> ((1 : Int32) &&& 31).toUInt32).toInt32) &&& (3 : Int32))), .unset, .unset, .unset] [(.int (p1 % (84 : Int32)))])) _
        refine own_by (fun _ kt => XS.istore X0.here hx rfl (hb hby at_43) rfl (l' := #[.val (.int p0), .val (.int p1), .val (.int p2), .val (.int f), .val (.int (((p2.toUInt32 >>> ((1 : Int32) &&& 31).toUInt32).toInt32) &&& (3 : Int32))), .val (.int (p1 % (84 : Int32))), .unset, .unset]) rfl kt) ?_
        show own_Go p.tables e below (s₁.setTop (mkF m 45 #[.val (.int p0), .val (.int p1), .val (.int p2), .val (.int f), .val (.int (((p2.toUInt32 >>> ((1 : Int32) &&& 31).toUInt32).toInt32) &&& (3 : Int32))), .val (.int (p1 % (84 : Int32))), .unset, .unset] [])) _
        refine own_by (fun _ kt => XS.goto X0.here hx rfl (pc0 := 45) (pc' := 78) rfl (hb hby at_45) (by decide) (by decide) kt) ?_
        show own_Go p.tables e below (s₁.setTop (mkF m 78 #[.val (.int p0), .val (.int p1), .val (.int p2), .val (.int f), .val (.int (((p2.toUInt32 >>> ((1 : Int32) &&& 31).toUInt32).toInt32) &&& (3 : Int32))), .val (.int (p1 % (84 : Int32))), .unset, .unset] [])) _
        refine own_by (fun _ kt => XS.iloadN X0.here hx rfl (hb hby at_78) rfl kt) ?_
        show own_Go p.tables e below (s₁.setTop (mkF m 79 #[.val (.int p0), .val (.int p1), .val (.int p2), .val (.int f), .val (.int (((p2.toUInt32 >>> ((1 : Int32) &&& 31).toUInt32).toInt32) &&& (3 : Int32))), .val (.int (p1 % (84 : Int32))), .unset, .unset] [(.int f)])) _
        refine own_by (fun _ kt => XS.iconst X0.here hx rfl (hb hby at_79) kt) ?_
        show own_Go p.tables e below (s₁.setTop (mkF m 80 #[.val (.int p0), .val (.int p1), .val (.int p2), .val (.int f), .val (.int (((p2.toUInt32 >>> ((1 : Int32) &&& 31).toUInt32).toInt32) &&& (3 : Int32))), .val (.int (p1 % (84 : Int32))), .unset, .unset] [(.int (1 : Int32)), (.int f)])) _
        by_cases hc80_15 : f < (1 : Int32)
        · refine own_by (fun _ kt => XS.icmpYes X0.here hx rfl (pc0 := 80) (pc' := 112) rfl (hb hby at_80) rfl (tlt hc80_15).1 (by decide) (by decide) kt) ?_
          show own_Go p.tables e below (s₁.setTop (mkF m 112 #[.val (.int p0), .val (.int p1), .val (.int p2), .val (.int f), .val (.int (((p2.toUInt32 >>> ((1 : Int32) &&& 31).toUInt32).toInt32) &&& (3 : Int32))), .val (.int (p1 % (84 : Int32))), .unset, .unset] [])) _
          refine own_by (fun _ kt => XS.iconst X0.here hx rfl (hb hby at_112) kt) ?_
          show own_Go p.tables e below (s₁.setTop (mkF m 113 #[.val (.int p0), .val (.int p1), .val (.int p2), .val (.int f), .val (.int (((p2.toUInt32 >>> ((1 : Int32) &&& 31).toUInt32).toInt32) &&& (3 : Int32))), .val (.int (p1 % (84 : Int32))), .unset, .unset] [(.int (0 : Int32))])) _
          refine own_by (fun _ kt => XS.istore X0.here hx rfl (hb hby at_113) rfl (l' := #[.val (.int p0), .val (.int p1), .val (.int p2), .val (.int f), .val (.int (((p2.toUInt32 >>> ((1 : Int32) &&& 31).toUInt32).toInt32) &&& (3 : Int32))), .val (.int (p1 % (84 : Int32))), .val (.int (0 : Int32)), .unset]) rfl kt) ?_
          show own_Go p.tables e below (s₁.setTop (mkF m 115 #[.val (.int p0), .val (.int p1), .val (.int p2), .val (.int f), .val (.int (((p2.toUInt32 >>> ((1 : Int32) &&& 31).toUInt32).toInt32) &&& (3 : Int32))), .val (.int (p1 % (84 : Int32))), .val (.int (0 : Int32)), .unset] [])) _
          refine own_by (fun _ kt => XS.iloadN X0.here hx rfl (hb hby at_115) rfl kt) ?_
          show own_Go p.tables e below (s₁.setTop (mkF m 116 #[.val (.int p0), .val (.int p1), .val (.int p2), .val (.int f), .val (.int (((p2.toUInt32 >>> ((1 : Int32) &&& 31).toUInt32).toInt32) &&& (3 : Int32))), .val (.int (p1 % (84 : Int32))), .val (.int (0 : Int32)), .unset] [(.int f)])) _
          refine own_by (fun _ kt => XS.iload X0.here hx rfl (hb hby at_116) rfl kt) ?_
          show own_Go p.tables e below (s₁.setTop (mkF m 118 #[.val (.int p0), .val (.int p1), .val (.int p2), .val (.int f), .val (.int (((p2.toUInt32 >>> ((1 : Int32) &&& 31).toUInt32).toInt32) &&& (3 : Int32))), .val (.int (p1 % (84 : Int32))), .val (.int (0 : Int32)), .unset] [(.int (p1 % (84 : Int32))), (.int f)])) _
          obtain ⟨_, _, ⟨T16, L16, k16, n16⟩, -, X16, ⟨Lc16, hQ16, l16, y16, z16⟩, st16⟩ := Jvm.LawKit.callS X0 hx (y := (⟨"com/example/cardstock/cardstock/Field", "onCard", "(II)Z"⟩ : MethodName)) hown (mvT hZ (hw _ (List.mem_of_getElem? (i := 0) rfl))) (mvT hZ (hw _ (List.mem_of_getElem? (i := 1) rfl))) (mvT hZ (hw _ (List.mem_of_getElem? (i := 2) rfl))) (mvT hZ (hw _ (List.mem_of_getElem? (i := 3) rfl))) (by decide) (backOf (W := 0) (rm_own_on l Z a0 hw [] f (p1 % (84 : Int32)) h0 n0 Z0) hZ (hw _ (List.mem_of_getElem? (i := 3) rfl)) (hw _ (List.mem_of_getElem? (i := 2) rfl)) (by decide) (by decide)) (g := (mkF m 118 #[.val (.int p0), .val (.int p1), .val (.int p2), .val (.int f), .val (.int (((p2.toUInt32 >>> ((1 : Int32) &&& 31).toUInt32).toInt32) &&& (3 : Int32))), .val (.int (p1 % (84 : Int32))), .val (.int (0 : Int32)), .unset] [(.int (p1 % (84 : Int32))), (.int f)])) rfl (by rw [hml]; rfl) (argsL := [(.int f), (.int (p1 % (84 : Int32)))]) (rest := []) (lenOf pd_0 rfl) rfl (by show 2 * 0 + _ ≤ _; exact Nat.le_of_eq rfl) (hb hby at_118) (fun _ _ => ⟨rfl, e0, (by decide : 0 + 0 ≤ _), (by decide : 0 + 0 ≤ _)⟩)
          dsimp only [Pt.U, Pt.locs, Pt.cells, Pt.slots] at X16 l16 y16 z16 st16 hQ16
          subst l16 y16 z16
          obtain ⟨rfl, Nq16, eh16⟩ := hQ16
          have N16 := Fr.app N0 Nq16
          refine own_by (st16) ?_
          show own_Go p.tables e below (T16.setTop (mkF m 121 #[.val (.int p0), .val (.int p1), .val (.int p2), .val (.int f), .val (.int (((p2.toUInt32 >>> ((1 : Int32) &&& 31).toUInt32).toInt32) &&& (3 : Int32))), .val (.int (p1 % (84 : Int32))), .val (.int (0 : Int32)), .unset] [(.int (own_on f (p1 % (84 : Int32))))])) _
          refine own_by (fun _ kt => XS.iload X16.here hx rfl (hb hby at_121) rfl kt) ?_
          show own_Go p.tables e below (T16.setTop (mkF m 123 #[.val (.int p0), .val (.int p1), .val (.int p2), .val (.int f), .val (.int (((p2.toUInt32 >>> ((1 : Int32) &&& 31).toUInt32).toInt32) &&& (3 : Int32))), .val (.int (p1 % (84 : Int32))), .val (.int (0 : Int32)), .unset] [(.int (0 : Int32)), (.int (own_on f (p1 % (84 : Int32))))])) _
          refine own_by (fun _ kt => XS.icmpNo X16.here hx rfl (hb hby at_123) rfl (teq (own_k0 _ _ (Or.inl hc80_15) : (own_on f (p1 % (84 : Int32))) = (0 : Int32))).2 kt) ?_
          show own_Go p.tables e below (T16.setTop (mkF m 126 #[.val (.int p0), .val (.int p1), .val (.int p2), .val (.int f), .val (.int (((p2.toUInt32 >>> ((1 : Int32) &&& 31).toUInt32).toInt32) &&& (3 : Int32))), .val (.int (p1 % (84 : Int32))), .val (.int (0 : Int32)), .unset] [])) _
          refine own_by (fun _ kt => XS.iconst X16.here hx rfl (hb hby at_126) kt) ?_
          show own_Go p.tables e below (T16.setTop (mkF m 127 #[.val (.int p0), .val (.int p1), .val (.int p2), .val (.int f), .val (.int (((p2.toUInt32 >>> ((1 : Int32) &&& 31).toUInt32).toInt32) &&& (3 : Int32))), .val (.int (p1 % (84 : Int32))), .val (.int (0 : Int32)), .unset] [(.int (1 : Int32))])) _
          refine own_by (fun _ kt => XS.goto X16.here hx rfl (pc0 := 127) (pc' := 131) rfl (hb hby at_127) (by decide) (by decide) kt) ?_
          show own_Go p.tables e below (T16.setTop (mkF m 131 #[.val (.int p0), .val (.int p1), .val (.int p2), .val (.int f), .val (.int (((p2.toUInt32 >>> ((1 : Int32) &&& 31).toUInt32).toInt32) &&& (3 : Int32))), .val (.int (p1 % (84 : Int32))), .val (.int (0 : Int32)), .unset] [(.int (1 : Int32))])) _
          exact own_retN X16 hx (t := .boolean) Bd.returns hlk (by simp) (hb hby at_131) ⟨rfl, N16⟩ (by decide) (by decide)
        · refine own_by (fun _ kt => XS.icmpNo X0.here hx rfl (hb hby at_80) rfl (flt hc80_15).1 kt) ?_
          show own_Go p.tables e below (s₁.setTop (mkF m 83 #[.val (.int p0), .val (.int p1), .val (.int p2), .val (.int f), .val (.int (((p2.toUInt32 >>> ((1 : Int32) &&& 31).toUInt32).toInt32) &&& (3 : Int32))), .val (.int (p1 % (84 : Int32))), .unset, .unset] [])) _
          refine own_by (fun _ kt => XS.iloadN X0.here hx rfl (hb hby at_83) rfl kt) ?_
          show own_Go p.tables e below (s₁.setTop (mkF m 84 #[.val (.int p0), .val (.int p1), .val (.int p2), .val (.int f), .val (.int (((p2.toUInt32 >>> ((1 : Int32) &&& 31).toUInt32).toInt32) &&& (3 : Int32))), .val (.int (p1 % (84 : Int32))), .unset, .unset] [(.int f)])) _
          refine own_by (fun _ kt => XS.bipush X0.here hx rfl (hb hby at_84) kt) ?_
          show own_Go p.tables e below (s₁.setTop (mkF m 86 #[.val (.int p0), .val (.int p1), .val (.int p2), .val (.int f), .val (.int (((p2.toUInt32 >>> ((1 : Int32) &&& 31).toUInt32).toInt32) &&& (3 : Int32))), .val (.int (p1 % (84 : Int32))), .unset, .unset] [(.int (80 : Int32)), (.int f)])) _
          by_cases hc86_17 : (80 : Int32) < f
          · refine own_by (fun _ kt => XS.icmpYes X0.here hx rfl (pc0 := 86) (pc' := 112) rfl (hb hby at_86) rfl (tlt hc86_17).2.2.1 (by decide) (by decide) kt) ?_
            show own_Go p.tables e below (s₁.setTop (mkF m 112 #[.val (.int p0), .val (.int p1), .val (.int p2), .val (.int f), .val (.int (((p2.toUInt32 >>> ((1 : Int32) &&& 31).toUInt32).toInt32) &&& (3 : Int32))), .val (.int (p1 % (84 : Int32))), .unset, .unset] [])) _
            refine own_by (fun _ kt => XS.iconst X0.here hx rfl (hb hby at_112) kt) ?_
            show own_Go p.tables e below (s₁.setTop (mkF m 113 #[.val (.int p0), .val (.int p1), .val (.int p2), .val (.int f), .val (.int (((p2.toUInt32 >>> ((1 : Int32) &&& 31).toUInt32).toInt32) &&& (3 : Int32))), .val (.int (p1 % (84 : Int32))), .unset, .unset] [(.int (0 : Int32))])) _
            refine own_by (fun _ kt => XS.istore X0.here hx rfl (hb hby at_113) rfl (l' := #[.val (.int p0), .val (.int p1), .val (.int p2), .val (.int f), .val (.int (((p2.toUInt32 >>> ((1 : Int32) &&& 31).toUInt32).toInt32) &&& (3 : Int32))), .val (.int (p1 % (84 : Int32))), .val (.int (0 : Int32)), .unset]) rfl kt) ?_
            show own_Go p.tables e below (s₁.setTop (mkF m 115 #[.val (.int p0), .val (.int p1), .val (.int p2), .val (.int f), .val (.int (((p2.toUInt32 >>> ((1 : Int32) &&& 31).toUInt32).toInt32) &&& (3 : Int32))), .val (.int (p1 % (84 : Int32))), .val (.int (0 : Int32)), .unset] [])) _
            refine own_by (fun _ kt => XS.iloadN X0.here hx rfl (hb hby at_115) rfl kt) ?_
            show own_Go p.tables e below (s₁.setTop (mkF m 116 #[.val (.int p0), .val (.int p1), .val (.int p2), .val (.int f), .val (.int (((p2.toUInt32 >>> ((1 : Int32) &&& 31).toUInt32).toInt32) &&& (3 : Int32))), .val (.int (p1 % (84 : Int32))), .val (.int (0 : Int32)), .unset] [(.int f)])) _
            refine own_by (fun _ kt => XS.iload X0.here hx rfl (hb hby at_116) rfl kt) ?_
            show own_Go p.tables e below (s₁.setTop (mkF m 118 #[.val (.int p0), .val (.int p1), .val (.int p2), .val (.int f), .val (.int (((p2.toUInt32 >>> ((1 : Int32) &&& 31).toUInt32).toInt32) &&& (3 : Int32))), .val (.int (p1 % (84 : Int32))), .val (.int (0 : Int32)), .unset] [(.int (p1 % (84 : Int32))), (.int f)])) _
            obtain ⟨_, _, ⟨T18, L18, k18, n18⟩, -, X18, ⟨Lc18, hQ18, l18, y18, z18⟩, st18⟩ := Jvm.LawKit.callS X0 hx (y := (⟨"com/example/cardstock/cardstock/Field", "onCard", "(II)Z"⟩ : MethodName)) hown (mvT hZ (hw _ (List.mem_of_getElem? (i := 0) rfl))) (mvT hZ (hw _ (List.mem_of_getElem? (i := 1) rfl))) (mvT hZ (hw _ (List.mem_of_getElem? (i := 2) rfl))) (mvT hZ (hw _ (List.mem_of_getElem? (i := 3) rfl))) (by decide) (backOf (W := 0) (rm_own_on l Z a0 hw [] f (p1 % (84 : Int32)) h0 n0 Z0) hZ (hw _ (List.mem_of_getElem? (i := 3) rfl)) (hw _ (List.mem_of_getElem? (i := 2) rfl)) (by decide) (by decide)) (g := (mkF m 118 #[.val (.int p0), .val (.int p1), .val (.int p2), .val (.int f), .val (.int (((p2.toUInt32 >>> ((1 : Int32) &&& 31).toUInt32).toInt32) &&& (3 : Int32))), .val (.int (p1 % (84 : Int32))), .val (.int (0 : Int32)), .unset] [(.int (p1 % (84 : Int32))), (.int f)])) rfl (by rw [hml]; rfl) (argsL := [(.int f), (.int (p1 % (84 : Int32)))]) (rest := []) (lenOf pd_0 rfl) rfl (by show 2 * 0 + _ ≤ _; exact Nat.le_of_eq rfl) (hb hby at_118) (fun _ _ => ⟨rfl, e0, (by decide : 0 + 0 ≤ _), (by decide : 0 + 0 ≤ _)⟩)
            dsimp only [Pt.U, Pt.locs, Pt.cells, Pt.slots] at X18 l18 y18 z18 st18 hQ18
            subst l18 y18 z18
            obtain ⟨rfl, Nq18, eh18⟩ := hQ18
            have N18 := Fr.app N0 Nq18
            refine own_by (st18) ?_
            show own_Go p.tables e below (T18.setTop (mkF m 121 #[.val (.int p0), .val (.int p1), .val (.int p2), .val (.int f), .val (.int (((p2.toUInt32 >>> ((1 : Int32) &&& 31).toUInt32).toInt32) &&& (3 : Int32))), .val (.int (p1 % (84 : Int32))), .val (.int (0 : Int32)), .unset] [(.int (own_on f (p1 % (84 : Int32))))])) _
            refine own_by (fun _ kt => XS.iload X18.here hx rfl (hb hby at_121) rfl kt) ?_
            show own_Go p.tables e below (T18.setTop (mkF m 123 #[.val (.int p0), .val (.int p1), .val (.int p2), .val (.int f), .val (.int (((p2.toUInt32 >>> ((1 : Int32) &&& 31).toUInt32).toInt32) &&& (3 : Int32))), .val (.int (p1 % (84 : Int32))), .val (.int (0 : Int32)), .unset] [(.int (0 : Int32)), (.int (own_on f (p1 % (84 : Int32))))])) _
            refine own_by (fun _ kt => XS.icmpNo X18.here hx rfl (hb hby at_123) rfl (teq (own_k0 _ _ (Or.inr (Or.inl hc86_17)) : (own_on f (p1 % (84 : Int32))) = (0 : Int32))).2 kt) ?_
            show own_Go p.tables e below (T18.setTop (mkF m 126 #[.val (.int p0), .val (.int p1), .val (.int p2), .val (.int f), .val (.int (((p2.toUInt32 >>> ((1 : Int32) &&& 31).toUInt32).toInt32) &&& (3 : Int32))), .val (.int (p1 % (84 : Int32))), .val (.int (0 : Int32)), .unset] [])) _
            refine own_by (fun _ kt => XS.iconst X18.here hx rfl (hb hby at_126) kt) ?_
            show own_Go p.tables e below (T18.setTop (mkF m 127 #[.val (.int p0), .val (.int p1), .val (.int p2), .val (.int f), .val (.int (((p2.toUInt32 >>> ((1 : Int32) &&& 31).toUInt32).toInt32) &&& (3 : Int32))), .val (.int (p1 % (84 : Int32))), .val (.int (0 : Int32)), .unset] [(.int (1 : Int32))])) _
            refine own_by (fun _ kt => XS.goto X18.here hx rfl (pc0 := 127) (pc' := 131) rfl (hb hby at_127) (by decide) (by decide) kt) ?_
            show own_Go p.tables e below (T18.setTop (mkF m 131 #[.val (.int p0), .val (.int p1), .val (.int p2), .val (.int f), .val (.int (((p2.toUInt32 >>> ((1 : Int32) &&& 31).toUInt32).toInt32) &&& (3 : Int32))), .val (.int (p1 % (84 : Int32))), .val (.int (0 : Int32)), .unset] [(.int (1 : Int32))])) _
            exact own_retN X18 hx (t := .boolean) Bd.returns hlk (by simp) (hb hby at_131) ⟨rfl, N18⟩ (by decide) (by decide)
          · refine own_by (fun _ kt => XS.icmpNo X0.here hx rfl (hb hby at_86) rfl (flt hc86_17).2.2.1 kt) ?_
            show own_Go p.tables e below (s₁.setTop (mkF m 89 #[.val (.int p0), .val (.int p1), .val (.int p2), .val (.int f), .val (.int (((p2.toUInt32 >>> ((1 : Int32) &&& 31).toUInt32).toInt32) &&& (3 : Int32))), .val (.int (p1 % (84 : Int32))), .unset, .unset] [])) _
            refine own_by (fun _ kt => XS.iload X0.here hx rfl (hb hby at_89) rfl kt) ?_
            show own_Go p.tables e below (s₁.setTop (mkF m 91 #[.val (.int p0), .val (.int p1), .val (.int p2), .val (.int f), .val (.int (((p2.toUInt32 >>> ((1 : Int32) &&& 31).toUInt32).toInt32) &&& (3 : Int32))), .val (.int (p1 % (84 : Int32))), .unset, .unset] [(.int (p1 % (84 : Int32)))])) _
            refine own_by (fun _ kt => XS.iconst X0.here hx rfl (hb hby at_91) kt) ?_
            show own_Go p.tables e below (s₁.setTop (mkF m 92 #[.val (.int p0), .val (.int p1), .val (.int p2), .val (.int f), .val (.int (((p2.toUInt32 >>> ((1 : Int32) &&& 31).toUInt32).toInt32) &&& (3 : Int32))), .val (.int (p1 % (84 : Int32))), .unset, .unset] [(.int (1 : Int32)), (.int (p1 % (84 : Int32)))])) _
            by_cases hc92_19 : (p1 % (84 : Int32)) < (1 : Int32)
            · refine own_by (fun _ kt => XS.icmpYes X0.here hx rfl (pc0 := 92) (pc' := 112) rfl (hb hby at_92) rfl (tlt hc92_19).1 (by decide) (by decide) kt) ?_
              show own_Go p.tables e below (s₁.setTop (mkF m 112 #[.val (.int p0), .val (.int p1), .val (.int p2), .val (.int f), .val (.int (((p2.toUInt32 >>> ((1 : Int32) &&& 31).toUInt32).toInt32) &&& (3 : Int32))), .val (.int (p1 % (84 : Int32))), .unset, .unset] [])) _
              refine own_by (fun _ kt => XS.iconst X0.here hx rfl (hb hby at_112) kt) ?_
              show own_Go p.tables e below (s₁.setTop (mkF m 113 #[.val (.int p0), .val (.int p1), .val (.int p2), .val (.int f), .val (.int (((p2.toUInt32 >>> ((1 : Int32) &&& 31).toUInt32).toInt32) &&& (3 : Int32))), .val (.int (p1 % (84 : Int32))), .unset, .unset] [(.int (0 : Int32))])) _
              refine own_by (fun _ kt => XS.istore X0.here hx rfl (hb hby at_113) rfl (l' := #[.val (.int p0), .val (.int p1), .val (.int p2), .val (.int f), .val (.int (((p2.toUInt32 >>> ((1 : Int32) &&& 31).toUInt32).toInt32) &&& (3 : Int32))), .val (.int (p1 % (84 : Int32))), .val (.int (0 : Int32)), .unset]) rfl kt) ?_
              show own_Go p.tables e below (s₁.setTop (mkF m 115 #[.val (.int p0), .val (.int p1), .val (.int p2), .val (.int f), .val (.int (((p2.toUInt32 >>> ((1 : Int32) &&& 31).toUInt32).toInt32) &&& (3 : Int32))), .val (.int (p1 % (84 : Int32))), .val (.int (0 : Int32)), .unset] [])) _
              refine own_by (fun _ kt => XS.iloadN X0.here hx rfl (hb hby at_115) rfl kt) ?_
              show own_Go p.tables e below (s₁.setTop (mkF m 116 #[.val (.int p0), .val (.int p1), .val (.int p2), .val (.int f), .val (.int (((p2.toUInt32 >>> ((1 : Int32) &&& 31).toUInt32).toInt32) &&& (3 : Int32))), .val (.int (p1 % (84 : Int32))), .val (.int (0 : Int32)), .unset] [(.int f)])) _
              refine own_by (fun _ kt => XS.iload X0.here hx rfl (hb hby at_116) rfl kt) ?_
              show own_Go p.tables e below (s₁.setTop (mkF m 118 #[.val (.int p0), .val (.int p1), .val (.int p2), .val (.int f), .val (.int (((p2.toUInt32 >>> ((1 : Int32) &&& 31).toUInt32).toInt32) &&& (3 : Int32))), .val (.int (p1 % (84 : Int32))), .val (.int (0 : Int32)), .unset] [(.int (p1 % (84 : Int32))), (.int f)])) _
              obtain ⟨_, _, ⟨T20, L20, k20, n20⟩, -, X20, ⟨Lc20, hQ20, l20, y20, z20⟩, st20⟩ := Jvm.LawKit.callS X0 hx (y := (⟨"com/example/cardstock/cardstock/Field", "onCard", "(II)Z"⟩ : MethodName)) hown (mvT hZ (hw _ (List.mem_of_getElem? (i := 0) rfl))) (mvT hZ (hw _ (List.mem_of_getElem? (i := 1) rfl))) (mvT hZ (hw _ (List.mem_of_getElem? (i := 2) rfl))) (mvT hZ (hw _ (List.mem_of_getElem? (i := 3) rfl))) (by decide) (backOf (W := 0) (rm_own_on l Z a0 hw [] f (p1 % (84 : Int32)) h0 n0 Z0) hZ (hw _ (List.mem_of_getElem? (i := 3) rfl)) (hw _ (List.mem_of_getElem? (i := 2) rfl)) (by decide) (by decide)) (g := (mkF m 118 #[.val (.int p0), .val (.int p1), .val (.int p2), .val (.int f), .val (.int (((p2.toUInt32 >>> ((1 : Int32) &&& 31).toUInt32).toInt32) &&& (3 : Int32))), .val (.int (p1 % (84 : Int32))), .val (.int (0 : Int32)), .unset] [(.int (p1 % (84 : Int32))), (.int f)])) rfl (by rw [hml]; rfl) (argsL := [(.int f), (.int (p1 % (84 : Int32)))]) (rest := []) (lenOf pd_0 rfl) rfl (by show 2 * 0 + _ ≤ _; exact Nat.le_of_eq rfl) (hb hby at_118) (fun _ _ => ⟨rfl, e0, (by decide : 0 + 0 ≤ _), (by decide : 0 + 0 ≤ _)⟩)
              dsimp only [Pt.U, Pt.locs, Pt.cells, Pt.slots] at X20 l20 y20 z20 st20 hQ20
              subst l20 y20 z20
              obtain ⟨rfl, Nq20, eh20⟩ := hQ20
              have N20 := Fr.app N0 Nq20
              refine own_by (st20) ?_
              show own_Go p.tables e below (T20.setTop (mkF m 121 #[.val (.int p0), .val (.int p1), .val (.int p2), .val (.int f), .val (.int (((p2.toUInt32 >>> ((1 : Int32) &&& 31).toUInt32).toInt32) &&& (3 : Int32))), .val (.int (p1 % (84 : Int32))), .val (.int (0 : Int32)), .unset] [(.int (own_on f (p1 % (84 : Int32))))])) _
              refine own_by (fun _ kt => XS.iload X20.here hx rfl (hb hby at_121) rfl kt) ?_
              show own_Go p.tables e below (T20.setTop (mkF m 123 #[.val (.int p0), .val (.int p1), .val (.int p2), .val (.int f), .val (.int (((p2.toUInt32 >>> ((1 : Int32) &&& 31).toUInt32).toInt32) &&& (3 : Int32))), .val (.int (p1 % (84 : Int32))), .val (.int (0 : Int32)), .unset] [(.int (0 : Int32)), (.int (own_on f (p1 % (84 : Int32))))])) _
              refine own_by (fun _ kt => XS.icmpNo X20.here hx rfl (hb hby at_123) rfl (teq (own_k0 _ _ (Or.inr (Or.inr (Or.inl hc92_19))) : (own_on f (p1 % (84 : Int32))) = (0 : Int32))).2 kt) ?_
              show own_Go p.tables e below (T20.setTop (mkF m 126 #[.val (.int p0), .val (.int p1), .val (.int p2), .val (.int f), .val (.int (((p2.toUInt32 >>> ((1 : Int32) &&& 31).toUInt32).toInt32) &&& (3 : Int32))), .val (.int (p1 % (84 : Int32))), .val (.int (0 : Int32)), .unset] [])) _
              refine own_by (fun _ kt => XS.iconst X20.here hx rfl (hb hby at_126) kt) ?_
              show own_Go p.tables e below (T20.setTop (mkF m 127 #[.val (.int p0), .val (.int p1), .val (.int p2), .val (.int f), .val (.int (((p2.toUInt32 >>> ((1 : Int32) &&& 31).toUInt32).toInt32) &&& (3 : Int32))), .val (.int (p1 % (84 : Int32))), .val (.int (0 : Int32)), .unset] [(.int (1 : Int32))])) _
              refine own_by (fun _ kt => XS.goto X20.here hx rfl (pc0 := 127) (pc' := 131) rfl (hb hby at_127) (by decide) (by decide) kt) ?_
              show own_Go p.tables e below (T20.setTop (mkF m 131 #[.val (.int p0), .val (.int p1), .val (.int p2), .val (.int f), .val (.int (((p2.toUInt32 >>> ((1 : Int32) &&& 31).toUInt32).toInt32) &&& (3 : Int32))), .val (.int (p1 % (84 : Int32))), .val (.int (0 : Int32)), .unset] [(.int (1 : Int32))])) _
              exact own_retN X20 hx (t := .boolean) Bd.returns hlk (by simp) (hb hby at_131) ⟨rfl, N20⟩ (by decide) (by decide)
            · refine own_by (fun _ kt => XS.icmpNo X0.here hx rfl (hb hby at_92) rfl (flt hc92_19).1 kt) ?_
              show own_Go p.tables e below (s₁.setTop (mkF m 95 #[.val (.int p0), .val (.int p1), .val (.int p2), .val (.int f), .val (.int (((p2.toUInt32 >>> ((1 : Int32) &&& 31).toUInt32).toInt32) &&& (3 : Int32))), .val (.int (p1 % (84 : Int32))), .unset, .unset] [])) _
              refine own_by (fun _ kt => XS.iload X0.here hx rfl (hb hby at_95) rfl kt) ?_
              show own_Go p.tables e below (s₁.setTop (mkF m 97 #[.val (.int p0), .val (.int p1), .val (.int p2), .val (.int f), .val (.int (((p2.toUInt32 >>> ((1 : Int32) &&& 31).toUInt32).toInt32) &&& (3 : Int32))), .val (.int (p1 % (84 : Int32))), .unset, .unset] [(.int (p1 % (84 : Int32)))])) _
              refine own_by (fun _ kt => XS.bipush X0.here hx rfl (hb hby at_97) kt) ?_
              show own_Go p.tables e below (s₁.setTop (mkF m 99 #[.val (.int p0), .val (.int p1), .val (.int p2), .val (.int f), .val (.int (((p2.toUInt32 >>> ((1 : Int32) &&& 31).toUInt32).toInt32) &&& (3 : Int32))), .val (.int (p1 % (84 : Int32))), .unset, .unset] [(.int (80 : Int32)), (.int (p1 % (84 : Int32)))])) _
              by_cases hc99_21 : (80 : Int32) < (p1 % (84 : Int32))
              · refine own_by (fun _ kt => XS.icmpYes X0.here hx rfl (pc0 := 99) (pc' := 112) rfl (hb hby at_99) rfl (tlt hc99_21).2.2.1 (by decide) (by decide) kt) ?_
                show own_Go p.tables e below (s₁.setTop (mkF m 112 #[.val (.int p0), .val (.int p1), .val (.int p2), .val (.int f), .val (.int (((p2.toUInt32 >>> ((1 : Int32) &&& 31).toUInt32).toInt32) &&& (3 : Int32))), .val (.int (p1 % (84 : Int32))), .unset, .unset] [])) _
                refine own_by (fun _ kt => XS.iconst X0.here hx rfl (hb hby at_112) kt) ?_
                show own_Go p.tables e below (s₁.setTop (mkF m 113 #[.val (.int p0), .val (.int p1), .val (.int p2), .val (.int f), .val (.int (((p2.toUInt32 >>> ((1 : Int32) &&& 31).toUInt32).toInt32) &&& (3 : Int32))), .val (.int (p1 % (84 : Int32))), .unset, .unset] [(.int (0 : Int32))])) _
                refine own_by (fun _ kt => XS.istore X0.here hx rfl (hb hby at_113) rfl (l' := #[.val (.int p0), .val (.int p1), .val (.int p2), .val (.int f), .val (.int (((p2.toUInt32 >>> ((1 : Int32) &&& 31).toUInt32).toInt32) &&& (3 : Int32))), .val (.int (p1 % (84 : Int32))), .val (.int (0 : Int32)), .unset]) rfl kt) ?_
                show own_Go p.tables e below (s₁.setTop (mkF m 115 #[.val (.int p0), .val (.int p1), .val (.int p2), .val (.int f), .val (.int (((p2.toUInt32 >>> ((1 : Int32) &&& 31).toUInt32).toInt32) &&& (3 : Int32))), .val (.int (p1 % (84 : Int32))), .val (.int (0 : Int32)), .unset] [])) _
                refine own_by (fun _ kt => XS.iloadN X0.here hx rfl (hb hby at_115) rfl kt) ?_
                show own_Go p.tables e below (s₁.setTop (mkF m 116 #[.val (.int p0), .val (.int p1), .val (.int p2), .val (.int f), .val (.int (((p2.toUInt32 >>> ((1 : Int32) &&& 31).toUInt32).toInt32) &&& (3 : Int32))), .val (.int (p1 % (84 : Int32))), .val (.int (0 : Int32)), .unset] [(.int f)])) _
                refine own_by (fun _ kt => XS.iload X0.here hx rfl (hb hby at_116) rfl kt) ?_
                show own_Go p.tables e below (s₁.setTop (mkF m 118 #[.val (.int p0), .val (.int p1), .val (.int p2), .val (.int f), .val (.int (((p2.toUInt32 >>> ((1 : Int32) &&& 31).toUInt32).toInt32) &&& (3 : Int32))), .val (.int (p1 % (84 : Int32))), .val (.int (0 : Int32)), .unset] [(.int (p1 % (84 : Int32))), (.int f)])) _
                obtain ⟨_, _, ⟨T22, L22, k22, n22⟩, -, X22, ⟨Lc22, hQ22, l22, y22, z22⟩, st22⟩ := Jvm.LawKit.callS X0 hx (y := (⟨"com/example/cardstock/cardstock/Field", "onCard", "(II)Z"⟩ : MethodName)) hown (mvT hZ (hw _ (List.mem_of_getElem? (i := 0) rfl))) (mvT hZ (hw _ (List.mem_of_getElem? (i := 1) rfl))) (mvT hZ (hw _ (List.mem_of_getElem? (i := 2) rfl))) (mvT hZ (hw _ (List.mem_of_getElem? (i := 3) rfl))) (by decide) (backOf (W := 0) (rm_own_on l Z a0 hw [] f (p1 % (84 : Int32)) h0 n0 Z0) hZ (hw _ (List.mem_of_getElem? (i := 3) rfl)) (hw _ (List.mem_of_getElem? (i := 2) rfl)) (by decide) (by decide)) (g := (mkF m 118 #[.val (.int p0), .val (.int p1), .val (.int p2), .val (.int f), .val (.int (((p2.toUInt32 >>> ((1 : Int32) &&& 31).toUInt32).toInt32) &&& (3 : Int32))), .val (.int (p1 % (84 : Int32))), .val (.int (0 : Int32)), .unset] [(.int (p1 % (84 : Int32))), (.int f)])) rfl (by rw [hml]; rfl) (argsL := [(.int f), (.int (p1 % (84 : Int32)))]) (rest := []) (lenOf pd_0 rfl) rfl (by show 2 * 0 + _ ≤ _; exact Nat.le_of_eq rfl) (hb hby at_118) (fun _ _ => ⟨rfl, e0, (by decide : 0 + 0 ≤ _), (by decide : 0 + 0 ≤ _)⟩)
                dsimp only [Pt.U, Pt.locs, Pt.cells, Pt.slots] at X22 l22 y22 z22 st22 hQ22
                subst l22 y22 z22
                obtain ⟨rfl, Nq22, eh22⟩ := hQ22
                have N22 := Fr.app N0 Nq22
                refine own_by (st22) ?_
                show own_Go p.tables e below (T22.setTop (mkF m 121 #[.val (.int p0), .val (.int p1), .val (.int p2), .val (.int f), .val (.int (((p2.toUInt32 >>> ((1 : Int32) &&& 31).toUInt32).toInt32) &&& (3 : Int32))), .val (.int (p1 % (84 : Int32))), .val (.int (0 : Int32)), .unset] [(.int (own_on f (p1 % (84 : Int32))))])) _
                refine own_by (fun _ kt => XS.iload X22.here hx rfl (hb hby at_121) rfl kt) ?_
                show own_Go p.tables e below (T22.setTop (mkF m 123 #[.val (.int p0), .val (.int p1), .val (.int p2), .val (.int f), .val (.int (((p2.toUInt32 >>> ((1 : Int32) &&& 31).toUInt32).toInt32) &&& (3 : Int32))), .val (.int (p1 % (84 : Int32))), .val (.int (0 : Int32)), .unset] [(.int (0 : Int32)), (.int (own_on f (p1 % (84 : Int32))))])) _
                refine own_by (fun _ kt => XS.icmpNo X22.here hx rfl (hb hby at_123) rfl (teq (own_k0 _ _ (Or.inr (Or.inr (Or.inr (Or.inl hc99_21)))) : (own_on f (p1 % (84 : Int32))) = (0 : Int32))).2 kt) ?_
                show own_Go p.tables e below (T22.setTop (mkF m 126 #[.val (.int p0), .val (.int p1), .val (.int p2), .val (.int f), .val (.int (((p2.toUInt32 >>> ((1 : Int32) &&& 31).toUInt32).toInt32) &&& (3 : Int32))), .val (.int (p1 % (84 : Int32))), .val (.int (0 : Int32)), .unset] [])) _
                refine own_by (fun _ kt => XS.iconst X22.here hx rfl (hb hby at_126) kt) ?_
                show own_Go p.tables e below (T22.setTop (mkF m 127 #[.val (.int p0), .val (.int p1), .val (.int p2), .val (.int f), .val (.int (((p2.toUInt32 >>> ((1 : Int32) &&& 31).toUInt32).toInt32) &&& (3 : Int32))), .val (.int (p1 % (84 : Int32))), .val (.int (0 : Int32)), .unset] [(.int (1 : Int32))])) _
                refine own_by (fun _ kt => XS.goto X22.here hx rfl (pc0 := 127) (pc' := 131) rfl (hb hby at_127) (by decide) (by decide) kt) ?_
                show own_Go p.tables e below (T22.setTop (mkF m 131 #[.val (.int p0), .val (.int p1), .val (.int p2), .val (.int f), .val (.int (((p2.toUInt32 >>> ((1 : Int32) &&& 31).toUInt32).toInt32) &&& (3 : Int32))), .val (.int (p1 % (84 : Int32))), .val (.int (0 : Int32)), .unset] [(.int (1 : Int32))])) _
                exact own_retN X22 hx (t := .boolean) Bd.returns hlk (by simp) (hb hby at_131) ⟨rfl, N22⟩ (by decide) (by decide)
              · refine own_by (fun _ kt => XS.icmpNo X0.here hx rfl (hb hby at_99) rfl (flt hc99_21).2.2.1 kt) ?_
                show own_Go p.tables e below (s₁.setTop (mkF m 102 #[.val (.int p0), .val (.int p1), .val (.int p2), .val (.int f), .val (.int (((p2.toUInt32 >>> ((1 : Int32) &&& 31).toUInt32).toInt32) &&& (3 : Int32))), .val (.int (p1 % (84 : Int32))), .unset, .unset] [])) _
                refine own_by (fun _ kt => XS.iloadN X0.here hx rfl (hb hby at_102) rfl kt) ?_
                show own_Go p.tables e below (s₁.setTop (mkF m 103 #[.val (.int p0), .val (.int p1), .val (.int p2), .val (.int f), .val (.int (((p2.toUInt32 >>> ((1 : Int32) &&& 31).toUInt32).toInt32) &&& (3 : Int32))), .val (.int (p1 % (84 : Int32))), .unset, .unset] [(.int f)])) _
                refine own_by (fun _ kt => XS.iload X0.here hx rfl (hb hby at_103) rfl kt) ?_
                show own_Go p.tables e below (s₁.setTop (mkF m 105 #[.val (.int p0), .val (.int p1), .val (.int p2), .val (.int f), .val (.int (((p2.toUInt32 >>> ((1 : Int32) &&& 31).toUInt32).toInt32) &&& (3 : Int32))), .val (.int (p1 % (84 : Int32))), .unset, .unset] [(.int (p1 % (84 : Int32))), (.int f)])) _
                by_cases hc105_23 : (p1 % (84 : Int32)) < f
                · refine own_by (fun _ kt => XS.icmpYes X0.here hx rfl (pc0 := 105) (pc' := 112) rfl (hb hby at_105) rfl (tlt hc105_23).2.2.1 (by decide) (by decide) kt) ?_
                  show own_Go p.tables e below (s₁.setTop (mkF m 112 #[.val (.int p0), .val (.int p1), .val (.int p2), .val (.int f), .val (.int (((p2.toUInt32 >>> ((1 : Int32) &&& 31).toUInt32).toInt32) &&& (3 : Int32))), .val (.int (p1 % (84 : Int32))), .unset, .unset] [])) _
                  refine own_by (fun _ kt => XS.iconst X0.here hx rfl (hb hby at_112) kt) ?_
                  show own_Go p.tables e below (s₁.setTop (mkF m 113 #[.val (.int p0), .val (.int p1), .val (.int p2), .val (.int f), .val (.int (((p2.toUInt32 >>> ((1 : Int32) &&& 31).toUInt32).toInt32) &&& (3 : Int32))), .val (.int (p1 % (84 : Int32))), .unset, .unset] [(.int (0 : Int32))])) _
                  refine own_by (fun _ kt => XS.istore X0.here hx rfl (hb hby at_113) rfl (l' := #[.val (.int p0), .val (.int p1), .val (.int p2), .val (.int f), .val (.int (((p2.toUInt32 >>> ((1 : Int32) &&& 31).toUInt32).toInt32) &&& (3 : Int32))), .val (.int (p1 % (84 : Int32))), .val (.int (0 : Int32)), .unset]) rfl kt) ?_
                  show own_Go p.tables e below (s₁.setTop (mkF m 115 #[.val (.int p0), .val (.int p1), .val (.int p2), .val (.int f), .val (.int (((p2.toUInt32 >>> ((1 : Int32) &&& 31).toUInt32).toInt32) &&& (3 : Int32))), .val (.int (p1 % (84 : Int32))), .val (.int (0 : Int32)), .unset] [])) _
                  refine own_by (fun _ kt => XS.iloadN X0.here hx rfl (hb hby at_115) rfl kt) ?_
                  show own_Go p.tables e below (s₁.setTop (mkF m 116 #[.val (.int p0), .val (.int p1), .val (.int p2), .val (.int f), .val (.int (((p2.toUInt32 >>> ((1 : Int32) &&& 31).toUInt32).toInt32) &&& (3 : Int32))), .val (.int (p1 % (84 : Int32))), .val (.int (0 : Int32)), .unset] [(.int f)])) _
                  refine own_by (fun _ kt => XS.iload X0.here hx rfl (hb hby at_116) rfl kt) ?_
                  show own_Go p.tables e below (s₁.setTop (mkF m 118 #[.val (.int p0), .val (.int p1), .val (.int p2), .val (.int f), .val (.int (((p2.toUInt32 >>> ((1 : Int32) &&& 31).toUInt32).toInt32) &&& (3 : Int32))), .val (.int (p1 % (84 : Int32))), .val (.int (0 : Int32)), .unset] [(.int (p1 % (84 : Int32))), (.int f)])) _
                  obtain ⟨_, _, ⟨T24, L24, k24, n24⟩, -, X24, ⟨Lc24, hQ24, l24, y24, z24⟩, st24⟩ := Jvm.LawKit.callS X0 hx (y := (⟨"com/example/cardstock/cardstock/Field", "onCard", "(II)Z"⟩ : MethodName)) hown (mvT hZ (hw _ (List.mem_of_getElem? (i := 0) rfl))) (mvT hZ (hw _ (List.mem_of_getElem? (i := 1) rfl))) (mvT hZ (hw _ (List.mem_of_getElem? (i := 2) rfl))) (mvT hZ (hw _ (List.mem_of_getElem? (i := 3) rfl))) (by decide) (backOf (W := 0) (rm_own_on l Z a0 hw [] f (p1 % (84 : Int32)) h0 n0 Z0) hZ (hw _ (List.mem_of_getElem? (i := 3) rfl)) (hw _ (List.mem_of_getElem? (i := 2) rfl)) (by decide) (by decide)) (g := (mkF m 118 #[.val (.int p0), .val (.int p1), .val (.int p2), .val (.int f), .val (.int (((p2.toUInt32 >>> ((1 : Int32) &&& 31).toUInt32).toInt32) &&& (3 : Int32))), .val (.int (p1 % (84 : Int32))), .val (.int (0 : Int32)), .unset] [(.int (p1 % (84 : Int32))), (.int f)])) rfl (by rw [hml]; rfl) (argsL := [(.int f), (.int (p1 % (84 : Int32)))]) (rest := []) (lenOf pd_0 rfl) rfl (by show 2 * 0 + _ ≤ _; exact Nat.le_of_eq rfl) (hb hby at_118) (fun _ _ => ⟨rfl, e0, (by decide : 0 + 0 ≤ _), (by decide : 0 + 0 ≤ _)⟩)
                  dsimp only [Pt.U, Pt.locs, Pt.cells, Pt.slots] at X24 l24 y24 z24 st24 hQ24
                  subst l24 y24 z24
                  obtain ⟨rfl, Nq24, eh24⟩ := hQ24
                  have N24 := Fr.app N0 Nq24
                  refine own_by (st24) ?_
                  show own_Go p.tables e below (T24.setTop (mkF m 121 #[.val (.int p0), .val (.int p1), .val (.int p2), .val (.int f), .val (.int (((p2.toUInt32 >>> ((1 : Int32) &&& 31).toUInt32).toInt32) &&& (3 : Int32))), .val (.int (p1 % (84 : Int32))), .val (.int (0 : Int32)), .unset] [(.int (own_on f (p1 % (84 : Int32))))])) _
                  refine own_by (fun _ kt => XS.iload X24.here hx rfl (hb hby at_121) rfl kt) ?_
                  show own_Go p.tables e below (T24.setTop (mkF m 123 #[.val (.int p0), .val (.int p1), .val (.int p2), .val (.int f), .val (.int (((p2.toUInt32 >>> ((1 : Int32) &&& 31).toUInt32).toInt32) &&& (3 : Int32))), .val (.int (p1 % (84 : Int32))), .val (.int (0 : Int32)), .unset] [(.int (0 : Int32)), (.int (own_on f (p1 % (84 : Int32))))])) _
                  refine own_by (fun _ kt => XS.icmpNo X24.here hx rfl (hb hby at_123) rfl (teq (own_k0 _ _ (Or.inr (Or.inr (Or.inr (Or.inr (hc105_23))))) : (own_on f (p1 % (84 : Int32))) = (0 : Int32))).2 kt) ?_
                  show own_Go p.tables e below (T24.setTop (mkF m 126 #[.val (.int p0), .val (.int p1), .val (.int p2), .val (.int f), .val (.int (((p2.toUInt32 >>> ((1 : Int32) &&& 31).toUInt32).toInt32) &&& (3 : Int32))), .val (.int (p1 % (84 : Int32))), .val (.int (0 : Int32)), .unset] [])) _
                  refine own_by (fun _ kt => XS.iconst X24.here hx rfl (hb hby at_126) kt) ?_
                  show own_Go p.tables e below (T24.setTop (mkF m 127 #[.val (.int p0), .val (.int p1), .val (.int p2), .val (.int f), .val (.int (((p2.toUInt32 >>> ((1 : Int32) &&& 31).toUInt32).toInt32) &&& (3 : Int32))), .val (.int (p1 % (84 : Int32))), .val (.int (0 : Int32)), .unset] [(.int (1 : Int32))])) _
                  refine own_by (fun _ kt => XS.goto X24.here hx rfl (pc0 := 127) (pc' := 131) rfl (hb hby at_127) (by decide) (by decide) kt) ?_
                  show own_Go p.tables e below (T24.setTop (mkF m 131 #[.val (.int p0), .val (.int p1), .val (.int p2), .val (.int f), .val (.int (((p2.toUInt32 >>> ((1 : Int32) &&& 31).toUInt32).toInt32) &&& (3 : Int32))), .val (.int (p1 % (84 : Int32))), .val (.int (0 : Int32)), .unset] [(.int (1 : Int32))])) _
                  exact own_retN X24 hx (t := .boolean) Bd.returns hlk (by simp) (hb hby at_131) ⟨rfl, N24⟩ (by decide) (by decide)
                · refine own_by (fun _ kt => XS.icmpNo X0.here hx rfl (hb hby at_105) rfl (flt hc105_23).2.2.1 kt) ?_
                  show own_Go p.tables e below (s₁.setTop (mkF m 108 #[.val (.int p0), .val (.int p1), .val (.int p2), .val (.int f), .val (.int (((p2.toUInt32 >>> ((1 : Int32) &&& 31).toUInt32).toInt32) &&& (3 : Int32))), .val (.int (p1 % (84 : Int32))), .unset, .unset] [])) _
                  refine own_by (fun _ kt => XS.iconst X0.here hx rfl (hb hby at_108) kt) ?_
                  show own_Go p.tables e below (s₁.setTop (mkF m 109 #[.val (.int p0), .val (.int p1), .val (.int p2), .val (.int f), .val (.int (((p2.toUInt32 >>> ((1 : Int32) &&& 31).toUInt32).toInt32) &&& (3 : Int32))), .val (.int (p1 % (84 : Int32))), .unset, .unset] [(.int (1 : Int32))])) _
                  refine own_by (fun _ kt => XS.goto X0.here hx rfl (pc0 := 109) (pc' := 113) rfl (hb hby at_109) (by decide) (by decide) kt) ?_
                  show own_Go p.tables e below (s₁.setTop (mkF m 113 #[.val (.int p0), .val (.int p1), .val (.int p2), .val (.int f), .val (.int (((p2.toUInt32 >>> ((1 : Int32) &&& 31).toUInt32).toInt32) &&& (3 : Int32))), .val (.int (p1 % (84 : Int32))), .unset, .unset] [(.int (1 : Int32))])) _
                  refine own_by (fun _ kt => XS.istore X0.here hx rfl (hb hby at_113) rfl (l' := #[.val (.int p0), .val (.int p1), .val (.int p2), .val (.int f), .val (.int (((p2.toUInt32 >>> ((1 : Int32) &&& 31).toUInt32).toInt32) &&& (3 : Int32))), .val (.int (p1 % (84 : Int32))), .val (.int (1 : Int32)), .unset]) rfl kt) ?_
                  show own_Go p.tables e below (s₁.setTop (mkF m 115 #[.val (.int p0), .val (.int p1), .val (.int p2), .val (.int f), .val (.int (((p2.toUInt32 >>> ((1 : Int32) &&& 31).toUInt32).toInt32) &&& (3 : Int32))), .val (.int (p1 % (84 : Int32))), .val (.int (1 : Int32)), .unset] [])) _
                  refine own_by (fun _ kt => XS.iloadN X0.here hx rfl (hb hby at_115) rfl kt) ?_
                  show own_Go p.tables e below (s₁.setTop (mkF m 116 #[.val (.int p0), .val (.int p1), .val (.int p2), .val (.int f), .val (.int (((p2.toUInt32 >>> ((1 : Int32) &&& 31).toUInt32).toInt32) &&& (3 : Int32))), .val (.int (p1 % (84 : Int32))), .val (.int (1 : Int32)), .unset] [(.int f)])) _
                  refine own_by (fun _ kt => XS.iload X0.here hx rfl (hb hby at_116) rfl kt) ?_
                  show own_Go p.tables e below (s₁.setTop (mkF m 118 #[.val (.int p0), .val (.int p1), .val (.int p2), .val (.int f), .val (.int (((p2.toUInt32 >>> ((1 : Int32) &&& 31).toUInt32).toInt32) &&& (3 : Int32))), .val (.int (p1 % (84 : Int32))), .val (.int (1 : Int32)), .unset] [(.int (p1 % (84 : Int32))), (.int f)])) _
                  obtain ⟨_, _, ⟨T25, L25, k25, n25⟩, -, X25, ⟨Lc25, hQ25, l25, y25, z25⟩, st25⟩ := Jvm.LawKit.callS X0 hx (y := (⟨"com/example/cardstock/cardstock/Field", "onCard", "(II)Z"⟩ : MethodName)) hown (mvT hZ (hw _ (List.mem_of_getElem? (i := 0) rfl))) (mvT hZ (hw _ (List.mem_of_getElem? (i := 1) rfl))) (mvT hZ (hw _ (List.mem_of_getElem? (i := 2) rfl))) (mvT hZ (hw _ (List.mem_of_getElem? (i := 3) rfl))) (by decide) (backOf (W := 0) (rm_own_on l Z a0 hw [] f (p1 % (84 : Int32)) h0 n0 Z0) hZ (hw _ (List.mem_of_getElem? (i := 3) rfl)) (hw _ (List.mem_of_getElem? (i := 2) rfl)) (by decide) (by decide)) (g := (mkF m 118 #[.val (.int p0), .val (.int p1), .val (.int p2), .val (.int f), .val (.int (((p2.toUInt32 >>> ((1 : Int32) &&& 31).toUInt32).toInt32) &&& (3 : Int32))), .val (.int (p1 % (84 : Int32))), .val (.int (1 : Int32)), .unset] [(.int (p1 % (84 : Int32))), (.int f)])) rfl (by rw [hml]; rfl) (argsL := [(.int f), (.int (p1 % (84 : Int32)))]) (rest := []) (lenOf pd_0 rfl) rfl (by show 2 * 0 + _ ≤ _; exact Nat.le_of_eq rfl) (hb hby at_118) (fun _ _ => ⟨rfl, e0, (by decide : 0 + 0 ≤ _), (by decide : 0 + 0 ≤ _)⟩)
                  dsimp only [Pt.U, Pt.locs, Pt.cells, Pt.slots] at X25 l25 y25 z25 st25 hQ25
                  subst l25 y25 z25
                  obtain ⟨rfl, Nq25, eh25⟩ := hQ25
                  have N25 := Fr.app N0 Nq25
                  refine own_by (st25) ?_
                  show own_Go p.tables e below (T25.setTop (mkF m 121 #[.val (.int p0), .val (.int p1), .val (.int p2), .val (.int f), .val (.int (((p2.toUInt32 >>> ((1 : Int32) &&& 31).toUInt32).toInt32) &&& (3 : Int32))), .val (.int (p1 % (84 : Int32))), .val (.int (1 : Int32)), .unset] [(.int (own_on f (p1 % (84 : Int32))))])) _
                  refine own_by (fun _ kt => XS.iload X25.here hx rfl (hb hby at_121) rfl kt) ?_
                  show own_Go p.tables e below (T25.setTop (mkF m 123 #[.val (.int p0), .val (.int p1), .val (.int p2), .val (.int f), .val (.int (((p2.toUInt32 >>> ((1 : Int32) &&& 31).toUInt32).toInt32) &&& (3 : Int32))), .val (.int (p1 % (84 : Int32))), .val (.int (1 : Int32)), .unset] [(.int (1 : Int32)), (.int (own_on f (p1 % (84 : Int32))))])) _
                  refine own_by (fun _ kt => XS.icmpNo X25.here hx rfl (hb hby at_123) rfl (teq (own_k1 _ _ hc80_15 hc105_23 hc99_21 : (own_on f (p1 % (84 : Int32))) = (1 : Int32))).2 kt) ?_
                  show own_Go p.tables e below (T25.setTop (mkF m 126 #[.val (.int p0), .val (.int p1), .val (.int p2), .val (.int f), .val (.int (((p2.toUInt32 >>> ((1 : Int32) &&& 31).toUInt32).toInt32) &&& (3 : Int32))), .val (.int (p1 % (84 : Int32))), .val (.int (1 : Int32)), .unset] [])) _
                  refine own_by (fun _ kt => XS.iconst X25.here hx rfl (hb hby at_126) kt) ?_
                  show own_Go p.tables e below (T25.setTop (mkF m 127 #[.val (.int p0), .val (.int p1), .val (.int p2), .val (.int f), .val (.int (((p2.toUInt32 >>> ((1 : Int32) &&& 31).toUInt32).toInt32) &&& (3 : Int32))), .val (.int (p1 % (84 : Int32))), .val (.int (1 : Int32)), .unset] [(.int (1 : Int32))])) _
                  refine own_by (fun _ kt => XS.goto X25.here hx rfl (pc0 := 127) (pc' := 131) rfl (hb hby at_127) (by decide) (by decide) kt) ?_
                  show own_Go p.tables e below (T25.setTop (mkF m 131 #[.val (.int p0), .val (.int p1), .val (.int p2), .val (.int f), .val (.int (((p2.toUInt32 >>> ((1 : Int32) &&& 31).toUInt32).toInt32) &&& (3 : Int32))), .val (.int (p1 % (84 : Int32))), .val (.int (1 : Int32)), .unset] [(.int (1 : Int32))])) _
                  exact own_retN X25 hx (t := .boolean) Bd.returns hlk (by simp) (hb hby at_131) ⟨rfl, N25⟩ (by decide) (by decide)
      · refine own_by (fun _ kt => XS.icmpYes X0.here hx rfl (pc0 := 36) (pc' := 48) rfl (hb hby at_36) rfl (feq hc36_14).2 (by decide) (by decide) kt) ?_
        show own_Go p.tables e below (s₁.setTop (mkF m 48 #[.val (.int p0), .val (.int p1), .val (.int p2), .val (.int f), .val (.int (((p2.toUInt32 >>> ((1 : Int32) &&& 31).toUInt32).toInt32) &&& (3 : Int32))), .unset, .unset, .unset] [])) _
        refine own_by (fun _ kt => XS.iloadN X0.here hx rfl (hb hby at_48) rfl kt) ?_
        show own_Go p.tables e below (s₁.setTop (mkF m 49 #[.val (.int p0), .val (.int p1), .val (.int p2), .val (.int f), .val (.int (((p2.toUInt32 >>> ((1 : Int32) &&& 31).toUInt32).toInt32) &&& (3 : Int32))), .unset, .unset, .unset] [(.int f)])) _
        refine own_by (fun _ kt => XS.i2l X0.here hx rfl (hb hby at_49) rfl kt) ?_
        show own_Go p.tables e below (s₁.setTop (mkF m 50 #[.val (.int p0), .val (.int p1), .val (.int p2), .val (.int f), .val (.int (((p2.toUInt32 >>> ((1 : Int32) &&& 31).toUInt32).toInt32) &&& (3 : Int32))), .unset, .unset, .unset] [(.long (f.toInt64))])) _
        refine own_by (fun _ kt => XS.iloadN X0.here hx rfl (hb hby at_50) rfl kt) ?_
        show own_Go p.tables e below (s₁.setTop (mkF m 51 #[.val (.int p0), .val (.int p1), .val (.int p2), .val (.int f), .val (.int (((p2.toUInt32 >>> ((1 : Int32) &&& 31).toUInt32).toInt32) &&& (3 : Int32))), .unset, .unset, .unset] [(.int p1), (.long (f.toInt64))])) _
        refine own_by (fun _ kt => XS.iconst X0.here hx rfl (hb hby at_51) kt) ?_
        show own_Go p.tables e below (s₁.setTop (mkF m 52 #[.val (.int p0), .val (.int p1), .val (.int p2), .val (.int f), .val (.int (((p2.toUInt32 >>> ((1 : Int32) &&& 31).toUInt32).toInt32) &&& (3 : Int32))), .unset, .unset, .unset] [(.int (3 : Int32)), (.int p1), (.long (f.toInt64))])) _
        refine own_by (fun _ kt => iremM X0 hx rfl (hb hby at_52) rfl (by decide) kt) ?_
        show own_Go p.tables e below (s₁.setTop (mkF m 53 #[.val (.int p0), .val (.int p1), .val (.int p2), .val (.int f), .val (.int (((p2.toUInt32 >>> ((1 : Int32) &&& 31).toUInt32).toInt32) &&& (3 : Int32))), .unset, .unset, .unset] [(.int (p1 % (3 : Int32))), (.long (f.toInt64))])) _
        refine own_by (fun _ kt => XS.i2l X0.here hx rfl (hb hby at_53) rfl kt) ?_
        show own_Go p.tables e below (s₁.setTop (mkF m 54 #[.val (.int p0), .val (.int p1), .val (.int p2), .val (.int f), .val (.int (((p2.toUInt32 >>> ((1 : Int32) &&& 31).toUInt32).toInt32) &&& (3 : Int32))), .unset, .unset, .unset] [(.long ((p1 % (3 : Int32)).toInt64)), (.long (f.toInt64))])) _
        refine own_by (fun _ kt => XS.ladd X0.here hx rfl (hb hby at_54) rfl kt) ?_
        show own_Go p.tables e below (s₁.setTop (mkF m 55 #[.val (.int p0), .val (.int p1), .val (.int p2), .val (.int f), .val (.int (((p2.toUInt32 >>> ((1 : Int32) &&& 31).toUInt32).toInt32) &&& (3 : Int32))), .unset, .unset, .unset] [(.long ((f.toInt64) + ((p1 % (3 : Int32)).toInt64)))])) _
        refine own_by (fun _ kt => XS.lstore X0.here hx rfl (hb hby at_55) rfl (l' := #[.val (.int p0), .val (.int p1), .val (.int p2), .val (.int f), .val (.int (((p2.toUInt32 >>> ((1 : Int32) &&& 31).toUInt32).toInt32) &&& (3 : Int32))), .unset, .val (.long ((f.toInt64) + ((p1 % (3 : Int32)).toInt64))), .second]) rfl kt) ?_
        show own_Go p.tables e below (s₁.setTop (mkF m 57 #[.val (.int p0), .val (.int p1), .val (.int p2), .val (.int f), .val (.int (((p2.toUInt32 >>> ((1 : Int32) &&& 31).toUInt32).toInt32) &&& (3 : Int32))), .unset, .val (.long ((f.toInt64) + ((p1 % (3 : Int32)).toInt64))), .second] [])) _
        refine own_by (X0.ldc2Long hx hown (mvT hZ (hw _ (List.mem_of_getElem? (i := 4) rfl))) (g := (mkF m 57 #[.val (.int p0), .val (.int p1), .val (.int p2), .val (.int f), .val (.int (((p2.toUInt32 >>> ((1 : Int32) &&& 31).toUInt32).toInt32) &&& (3 : Int32))), .unset, .val (.long ((f.toInt64) + ((p1 % (3 : Int32)).toInt64))), .second] [])) rfl (hb hby at_57)) ?_
        show own_Go p.tables e below (s₁.setTop (mkF m 60 #[.val (.int p0), .val (.int p1), .val (.int p2), .val (.int f), .val (.int (((p2.toUInt32 >>> ((1 : Int32) &&& 31).toUInt32).toInt32) &&& (3 : Int32))), .unset, .val (.long ((f.toInt64) + ((p1 % (3 : Int32)).toInt64))), .second] [(.long (-2147483648 : Int64))])) _
        refine own_by (X0.ldc2Long hx hown (mvT hZ (hw _ (List.mem_of_getElem? (i := 5) rfl))) (g := (mkF m 60 #[.val (.int p0), .val (.int p1), .val (.int p2), .val (.int f), .val (.int (((p2.toUInt32 >>> ((1 : Int32) &&& 31).toUInt32).toInt32) &&& (3 : Int32))), .unset, .val (.long ((f.toInt64) + ((p1 % (3 : Int32)).toInt64))), .second] [(.long (-2147483648 : Int64))])) rfl (hb hby at_60)) ?_
        show own_Go p.tables e below (s₁.setTop (mkF m 63 #[.val (.int p0), .val (.int p1), .val (.int p2), .val (.int f), .val (.int (((p2.toUInt32 >>> ((1 : Int32) &&& 31).toUInt32).toInt32) &&& (3 : Int32))), .unset, .val (.long ((f.toInt64) + ((p1 % (3 : Int32)).toInt64))), .second] [(.long (2147483647 : Int64)), (.long (-2147483648 : Int64))])) _
        refine own_by (fun _ kt => XS.lload X0.here hx rfl (hb hby at_63) rfl kt) ?_
        show own_Go p.tables e below (s₁.setTop (mkF m 65 #[.val (.int p0), .val (.int p1), .val (.int p2), .val (.int f), .val (.int (((p2.toUInt32 >>> ((1 : Int32) &&& 31).toUInt32).toInt32) &&& (3 : Int32))), .unset, .val (.long ((f.toInt64) + ((p1 % (3 : Int32)).toInt64))), .second] [(.long ((f.toInt64) + ((p1 % (3 : Int32)).toInt64))), (.long (2147483647 : Int64)), (.long (-2147483648 : Int64))])) _
        obtain ⟨_, _, ⟨T26, L26, k26, n26⟩, -, X26, ⟨Lc26, hQ26, l26, y26, z26⟩, st26⟩ := Jvm.LawKit.callS X0 hx (y := (⟨"java/lang/Math", "min", "(JJ)J"⟩ : MethodName)) hown (mvT hZ (hw _ (List.mem_of_getElem? (i := 6) rfl))) (mvT hZ (hw _ (List.mem_of_getElem? (i := 7) rfl))) (mvT hZ (hw _ (List.mem_of_getElem? (i := 8) rfl))) (mvT hZ (hw _ (List.mem_of_getElem? (i := 9) rfl))) (by decide) (backOf (W := 2) (rm_own_min l Z a0 hw [] (2147483647 : Int64) ((f.toInt64) + ((p1 % (3 : Int32)).toInt64)) h0 n0 Z0) hZ (hw _ (List.mem_of_getElem? (i := 9) rfl)) (hw _ (List.mem_of_getElem? (i := 8) rfl)) (by decide) (by decide)) (g := (mkF m 65 #[.val (.int p0), .val (.int p1), .val (.int p2), .val (.int f), .val (.int (((p2.toUInt32 >>> ((1 : Int32) &&& 31).toUInt32).toInt32) &&& (3 : Int32))), .unset, .val (.long ((f.toInt64) + ((p1 % (3 : Int32)).toInt64))), .second] [(.long ((f.toInt64) + ((p1 % (3 : Int32)).toInt64))), (.long (2147483647 : Int64)), (.long (-2147483648 : Int64))])) rfl (by rw [hml]; rfl) (argsL := [(.long (2147483647 : Int64)), (.long ((f.toInt64) + ((p1 % (3 : Int32)).toInt64)))]) (rest := [(.long (-2147483648 : Int64))]) (lenOf pd_1 rfl) rfl (by show 2 * 0 + _ ≤ _; exact Nat.le_of_eq rfl) (hb hby at_65) (fun _ _ => ⟨rfl, e0, (by decide : 0 + 0 ≤ _), (by decide : 0 + 0 ≤ _)⟩)
        dsimp only [Pt.U, Pt.locs, Pt.cells, Pt.slots] at X26 l26 y26 z26 st26 hQ26
        subst l26 y26 z26
        obtain ⟨rfl, Nq26, eh26⟩ := hQ26
        have N26 := Fr.app N0 Nq26
        refine own_by (st26) ?_
        show own_Go p.tables e below (T26.setTop (mkF m 68 #[.val (.int p0), .val (.int p1), .val (.int p2), .val (.int f), .val (.int (((p2.toUInt32 >>> ((1 : Int32) &&& 31).toUInt32).toInt32) &&& (3 : Int32))), .unset, .val (.long ((f.toInt64) + ((p1 % (3 : Int32)).toInt64))), .second] [(.long (own_min (2147483647 : Int64) ((f.toInt64) + ((p1 % (3 : Int32)).toInt64)))), (.long (-2147483648 : Int64))])) _
        obtain ⟨_, _, ⟨T27, L27, k27, n27⟩, -, X27, ⟨Lc27, hQ27, l27, y27, z27⟩, st27⟩ := Jvm.LawKit.callS X26 hx (y := (⟨"java/lang/Math", "max", "(JJ)J"⟩ : MethodName)) hown (mvT hZ (hw _ (List.mem_of_getElem? (i := 10) rfl))) (mvT hZ (hw _ (List.mem_of_getElem? (i := 11) rfl))) (mvT hZ (hw _ (List.mem_of_getElem? (i := 8) rfl))) (mvT hZ (hw _ (List.mem_of_getElem? (i := 12) rfl))) (by decide) (backOf (W := 0) (rm_own_max l Z a0 hw [] (-2147483648 : Int64) (own_min (2147483647 : Int64) ((f.toInt64) + ((p1 % (3 : Int32)).toInt64))) h0 n0 Z0) hZ (hw _ (List.mem_of_getElem? (i := 12) rfl)) (hw _ (List.mem_of_getElem? (i := 8) rfl)) (by decide) (by decide)) (g := (mkF m 68 #[.val (.int p0), .val (.int p1), .val (.int p2), .val (.int f), .val (.int (((p2.toUInt32 >>> ((1 : Int32) &&& 31).toUInt32).toInt32) &&& (3 : Int32))), .unset, .val (.long ((f.toInt64) + ((p1 % (3 : Int32)).toInt64))), .second] [(.long (own_min (2147483647 : Int64) ((f.toInt64) + ((p1 % (3 : Int32)).toInt64)))), (.long (-2147483648 : Int64))])) rfl (by rw [hml]; rfl) (argsL := [(.long (-2147483648 : Int64)), (.long (own_min (2147483647 : Int64) ((f.toInt64) + ((p1 % (3 : Int32)).toInt64))))]) (rest := []) (lenOf pd_1 rfl) rfl (by show 2 * 0 + _ ≤ _; exact Nat.le_of_eq rfl) (hb hby at_68) (fun _ _ => ⟨rfl, eh26, (by decide : 0 + 0 ≤ _), (by decide : 0 + 0 ≤ _)⟩)
        dsimp only [Pt.U, Pt.locs, Pt.cells, Pt.slots] at X27 l27 y27 z27 st27 hQ27
        subst l27 y27 z27
        obtain ⟨rfl, Nq27, eh27⟩ := hQ27
        have N27 := Fr.app N26 Nq27
        refine own_by (st27) ?_
        show own_Go p.tables e below (T27.setTop (mkF m 71 #[.val (.int p0), .val (.int p1), .val (.int p2), .val (.int f), .val (.int (((p2.toUInt32 >>> ((1 : Int32) &&& 31).toUInt32).toInt32) &&& (3 : Int32))), .unset, .val (.long ((f.toInt64) + ((p1 % (3 : Int32)).toInt64))), .second] [(.long (own_max (-2147483648 : Int64) (own_min (2147483647 : Int64) ((f.toInt64) + ((p1 % (3 : Int32)).toInt64)))))])) _
        refine own_by (fun _ kt => XS.lstore X27.here hx rfl (hb hby at_71) rfl (l' := #[.val (.int p0), .val (.int p1), .val (.int p2), .val (.int f), .val (.int (((p2.toUInt32 >>> ((1 : Int32) &&& 31).toUInt32).toInt32) &&& (3 : Int32))), .unset, .val (.long (own_max (-2147483648 : Int64) (own_min (2147483647 : Int64) ((f.toInt64) + ((p1 % (3 : Int32)).toInt64))))), .second]) rfl kt) ?_
        show own_Go p.tables e below (T27.setTop (mkF m 73 #[.val (.int p0), .val (.int p1), .val (.int p2), .val (.int f), .val (.int (((p2.toUInt32 >>> ((1 : Int32) &&& 31).toUInt32).toInt32) &&& (3 : Int32))), .unset, .val (.long (own_max (-2147483648 : Int64) (own_min (2147483647 : Int64) ((f.toInt64) + ((p1 % (3 : Int32)).toInt64))))), .second] [])) _
        refine own_by (fun _ kt => XS.lload X27.here hx rfl (hb hby at_73) rfl kt) ?_
        show own_Go p.tables e below (T27.setTop (mkF m 75 #[.val (.int p0), .val (.int p1), .val (.int p2), .val (.int f), .val (.int (((p2.toUInt32 >>> ((1 : Int32) &&& 31).toUInt32).toInt32) &&& (3 : Int32))), .unset, .val (.long (own_max (-2147483648 : Int64) (own_min (2147483647 : Int64) ((f.toInt64) + ((p1 % (3 : Int32)).toInt64))))), .second] [(.long (own_max (-2147483648 : Int64) (own_min (2147483647 : Int64) ((f.toInt64) + ((p1 % (3 : Int32)).toInt64)))))])) _
        refine own_by (fun _ kt => XS.l2i X27.here hx rfl (hb hby at_75) rfl kt) ?_
        show own_Go p.tables e below (T27.setTop (mkF m 76 #[.val (.int p0), .val (.int p1), .val (.int p2), .val (.int f), .val (.int (((p2.toUInt32 >>> ((1 : Int32) &&& 31).toUInt32).toInt32) &&& (3 : Int32))), .unset, .val (.long (own_max (-2147483648 : Int64) (own_min (2147483647 : Int64) ((f.toInt64) + ((p1 % (3 : Int32)).toInt64))))), .second] [(.int ((own_max (-2147483648 : Int64) (own_min (2147483647 : Int64) ((f.toInt64) + ((p1 % (3 : Int32)).toInt64)))).toInt32))])) _
        refine own_by (fun _ kt => XS.istore X27.here hx rfl (hb hby at_76) rfl (l' := #[.val (.int p0), .val (.int p1), .val (.int p2), .val (.int f), .val (.int (((p2.toUInt32 >>> ((1 : Int32) &&& 31).toUInt32).toInt32) &&& (3 : Int32))), .val (.int ((own_max (-2147483648 : Int64) (own_min (2147483647 : Int64) ((f.toInt64) + ((p1 % (3 : Int32)).toInt64)))).toInt32)), .val (.long (own_max (-2147483648 : Int64) (own_min (2147483647 : Int64) ((f.toInt64) + ((p1 % (3 : Int32)).toInt64))))), .second]) rfl kt) ?_
        show own_Go p.tables e below (T27.setTop (mkF m 78 #[.val (.int p0), .val (.int p1), .val (.int p2), .val (.int f), .val (.int (((p2.toUInt32 >>> ((1 : Int32) &&& 31).toUInt32).toInt32) &&& (3 : Int32))), .val (.int ((own_max (-2147483648 : Int64) (own_min (2147483647 : Int64) ((f.toInt64) + ((p1 % (3 : Int32)).toInt64)))).toInt32)), .val (.long (own_max (-2147483648 : Int64) (own_min (2147483647 : Int64) ((f.toInt64) + ((p1 % (3 : Int32)).toInt64))))), .second] [])) _
        refine own_by (fun _ kt => XS.iloadN X27.here hx rfl (hb hby at_78) rfl kt) ?_
        show own_Go p.tables e below (T27.setTop (mkF m 79 #[.val (.int p0), .val (.int p1), .val (.int p2), .val (.int f), .val (.int (((p2.toUInt32 >>> ((1 : Int32) &&& 31).toUInt32).toInt32) &&& (3 : Int32))), .val (.int ((own_max (-2147483648 : Int64) (own_min (2147483647 : Int64) ((f.toInt64) + ((p1 % (3 : Int32)).toInt64)))).toInt32)), .val (.long (own_max (-2147483648 : Int64) (own_min (2147483647 : Int64) ((f.toInt64) + ((p1 % (3 : Int32)).toInt64))))), .second] [(.int f)])) _
        refine own_by (fun _ kt => XS.iconst X27.here hx rfl (hb hby at_79) kt) ?_
        show own_Go p.tables e below (T27.setTop (mkF m 80 #[.val (.int p0), .val (.int p1), .val (.int p2), .val (.int f), .val (.int (((p2.toUInt32 >>> ((1 : Int32) &&& 31).toUInt32).toInt32) &&& (3 : Int32))), .val (.int ((own_max (-2147483648 : Int64) (own_min (2147483647 : Int64) ((f.toInt64) + ((p1 % (3 : Int32)).toInt64)))).toInt32)), .val (.long (own_max (-2147483648 : Int64) (own_min (2147483647 : Int64) ((f.toInt64) + ((p1 % (3 : Int32)).toInt64))))), .second] [(.int (1 : Int32)), (.int f)])) _
        by_cases hc80_28 : f < (1 : Int32)
        · refine own_by (fun _ kt => XS.icmpYes X27.here hx rfl (pc0 := 80) (pc' := 112) rfl (hb hby at_80) rfl (tlt hc80_28).1 (by decide) (by decide) kt) ?_
          show own_Go p.tables e below (T27.setTop (mkF m 112 #[.val (.int p0), .val (.int p1), .val (.int p2), .val (.int f), .val (.int (((p2.toUInt32 >>> ((1 : Int32) &&& 31).toUInt32).toInt32) &&& (3 : Int32))), .val (.int ((own_max (-2147483648 : Int64) (own_min (2147483647 : Int64) ((f.toInt64) + ((p1 % (3 : Int32)).toInt64)))).toInt32)), .val (.long (own_max (-2147483648 : Int64) (own_min (2147483647 : Int64) ((f.toInt64) + ((p1 % (3 : Int32)).toInt64))))), .second] [])) _
          refine own_by (fun _ kt => XS.iconst X27.here hx rfl (hb hby at_112) kt) ?_
          show own_Go p.tables e below (T27.setTop (mkF m 113 #[.val (.int p0), .val (.int p1), .val (.int p2), .val (.int f), .val (.int (((p2.toUInt32 >>> ((1 : Int32) &&& 31).toUInt32).toInt32) &&& (3 : Int32))), .val (.int ((own_max (-2147483648 : Int64) (own_min (2147483647 : Int64) ((f.toInt64) + ((p1 % (3 : Int32)).toInt64)))).toInt32)), .val (.long (own_max (-2147483648 : Int64) (own_min (2147483647 : Int64) ((f.toInt64) + ((p1 % (3 : Int32)).toInt64))))), .second] [(.int (0 : Int32))])) _
          refine own_by (fun _ kt => XS.istore X27.here hx rfl (hb hby at_113) rfl (l' := #[.val (.int p0), .val (.int p1), .val (.int p2), .val (.int f), .val (.int (((p2.toUInt32 >>> ((1 : Int32) &&& 31).toUInt32).toInt32) &&& (3 : Int32))), .val (.int ((own_max (-2147483648 : Int64) (own_min (2147483647 : Int64) ((f.toInt64) + ((p1 % (3 : Int32)).toInt64)))).toInt32)), .val (.int (0 : Int32)), .unset]) rfl kt) ?_
          show own_Go p.tables e below (T27.setTop (mkF m 115 #[.val (.int p0), .val (.int p1), .val (.int p2), .val (.int f), .val (.int (((p2.toUInt32 >>> ((1 : Int32) &&& 31).toUInt32).toInt32) &&& (3 : Int32))), .val (.int ((own_max (-2147483648 : Int64) (own_min (2147483647 : Int64) ((f.toInt64) + ((p1 % (3 : Int32)).toInt64)))).toInt32)), .val (.int (0 : Int32)), .unset] [])) _
          refine own_by (fun _ kt => XS.iloadN X27.here hx rfl (hb hby at_115) rfl kt) ?_
          show own_Go p.tables e below (T27.setTop (mkF m 116 #[.val (.int p0), .val (.int p1), .val (.int p2), .val (.int f), .val (.int (((p2.toUInt32 >>> ((1 : Int32) &&& 31).toUInt32).toInt32) &&& (3 : Int32))), .val (.int ((own_max (-2147483648 : Int64) (own_min (2147483647 : Int64) ((f.toInt64) + ((p1 % (3 : Int32)).toInt64)))).toInt32)), .val (.int (0 : Int32)), .unset] [(.int f)])) _
          refine own_by (fun _ kt => XS.iload X27.here hx rfl (hb hby at_116) rfl kt) ?_
          show own_Go p.tables e below (T27.setTop (mkF m 118 #[.val (.int p0), .val (.int p1), .val (.int p2), .val (.int f), .val (.int (((p2.toUInt32 >>> ((1 : Int32) &&& 31).toUInt32).toInt32) &&& (3 : Int32))), .val (.int ((own_max (-2147483648 : Int64) (own_min (2147483647 : Int64) ((f.toInt64) + ((p1 % (3 : Int32)).toInt64)))).toInt32)), .val (.int (0 : Int32)), .unset] [(.int ((own_max (-2147483648 : Int64) (own_min (2147483647 : Int64) ((f.toInt64) + ((p1 % (3 : Int32)).toInt64)))).toInt32)), (.int f)])) _
          obtain ⟨_, _, ⟨T29, L29, k29, n29⟩, -, X29, ⟨Lc29, hQ29, l29, y29, z29⟩, st29⟩ := Jvm.LawKit.callS X27 hx (y := (⟨"com/example/cardstock/cardstock/Field", "onCard", "(II)Z"⟩ : MethodName)) hown (mvT hZ (hw _ (List.mem_of_getElem? (i := 0) rfl))) (mvT hZ (hw _ (List.mem_of_getElem? (i := 1) rfl))) (mvT hZ (hw _ (List.mem_of_getElem? (i := 2) rfl))) (mvT hZ (hw _ (List.mem_of_getElem? (i := 3) rfl))) (by decide) (backOf (W := 0) (rm_own_on l Z a0 hw [] f ((own_max (-2147483648 : Int64) (own_min (2147483647 : Int64) ((f.toInt64) + ((p1 % (3 : Int32)).toInt64)))).toInt32) h0 n0 Z0) hZ (hw _ (List.mem_of_getElem? (i := 3) rfl)) (hw _ (List.mem_of_getElem? (i := 2) rfl)) (by decide) (by decide)) (g := (mkF m 118 #[.val (.int p0), .val (.int p1), .val (.int p2), .val (.int f), .val (.int (((p2.toUInt32 >>> ((1 : Int32) &&& 31).toUInt32).toInt32) &&& (3 : Int32))), .val (.int ((own_max (-2147483648 : Int64) (own_min (2147483647 : Int64) ((f.toInt64) + ((p1 % (3 : Int32)).toInt64)))).toInt32)), .val (.int (0 : Int32)), .unset] [(.int ((own_max (-2147483648 : Int64) (own_min (2147483647 : Int64) ((f.toInt64) + ((p1 % (3 : Int32)).toInt64)))).toInt32)), (.int f)])) rfl (by rw [hml]; rfl) (argsL := [(.int f), (.int ((own_max (-2147483648 : Int64) (own_min (2147483647 : Int64) ((f.toInt64) + ((p1 % (3 : Int32)).toInt64)))).toInt32))]) (rest := []) (lenOf pd_0 rfl) rfl (by show 2 * 0 + _ ≤ _; exact Nat.le_of_eq rfl) (hb hby at_118) (fun _ _ => ⟨rfl, eh27, (by decide : 0 + 0 ≤ _), (by decide : 0 + 0 ≤ _)⟩)
          dsimp only [Pt.U, Pt.locs, Pt.cells, Pt.slots] at X29 l29 y29 z29 st29 hQ29
          subst l29 y29 z29
          obtain ⟨rfl, Nq29, eh29⟩ := hQ29
          have N29 := Fr.app N27 Nq29
          refine own_by (st29) ?_
          show own_Go p.tables e below (T29.setTop (mkF m 121 #[.val (.int p0), .val (.int p1), .val (.int p2), .val (.int f), .val (.int (((p2.toUInt32 >>> ((1 : Int32) &&& 31).toUInt32).toInt32) &&& (3 : Int32))), .val (.int ((own_max (-2147483648 : Int64) (own_min (2147483647 : Int64) ((f.toInt64) + ((p1 % (3 : Int32)).toInt64)))).toInt32)), .val (.int (0 : Int32)), .unset] [(.int (own_on f ((own_max (-2147483648 : Int64) (own_min (2147483647 : Int64) ((f.toInt64) + ((p1 % (3 : Int32)).toInt64)))).toInt32)))])) _
          refine own_by (fun _ kt => XS.iload X29.here hx rfl (hb hby at_121) rfl kt) ?_
          show own_Go p.tables e below (T29.setTop (mkF m 123 #[.val (.int p0), .val (.int p1), .val (.int p2), .val (.int f), .val (.int (((p2.toUInt32 >>> ((1 : Int32) &&& 31).toUInt32).toInt32) &&& (3 : Int32))), .val (.int ((own_max (-2147483648 : Int64) (own_min (2147483647 : Int64) ((f.toInt64) + ((p1 % (3 : Int32)).toInt64)))).toInt32)), .val (.int (0 : Int32)), .unset] [(.int (0 : Int32)), (.int (own_on f ((own_max (-2147483648 : Int64) (own_min (2147483647 : Int64) ((f.toInt64) + ((p1 % (3 : Int32)).toInt64)))).toInt32)))])) _
          refine own_by (fun _ kt => XS.icmpNo X29.here hx rfl (hb hby at_123) rfl (teq (own_k0 _ _ (Or.inl hc80_28) : (own_on f ((own_max (-2147483648 : Int64) (own_min (2147483647 : Int64) ((f.toInt64) + ((p1 % (3 : Int32)).toInt64)))).toInt32)) = (0 : Int32))).2 kt) ?_
          show own_Go p.tables e below (T29.setTop (mkF m 126 #[.val (.int p0), .val (.int p1), .val (.int p2), .val (.int f), .val (.int (((p2.toUInt32 >>> ((1 : Int32) &&& 31).toUInt32).toInt32) &&& (3 : Int32))), .val (.int ((own_max (-2147483648 : Int64) (own_min (2147483647 : Int64) ((f.toInt64) + ((p1 % (3 : Int32)).toInt64)))).toInt32)), .val (.int (0 : Int32)), .unset] [])) _
          refine own_by (fun _ kt => XS.iconst X29.here hx rfl (hb hby at_126) kt) ?_
          show own_Go p.tables e below (T29.setTop (mkF m 127 #[.val (.int p0), .val (.int p1), .val (.int p2), .val (.int f), .val (.int (((p2.toUInt32 >>> ((1 : Int32) &&& 31).toUInt32).toInt32) &&& (3 : Int32))), .val (.int ((own_max (-2147483648 : Int64) (own_min (2147483647 : Int64) ((f.toInt64) + ((p1 % (3 : Int32)).toInt64)))).toInt32)), .val (.int (0 : Int32)), .unset] [(.int (1 : Int32))])) _
          refine own_by (fun _ kt => XS.goto X29.here hx rfl (pc0 := 127) (pc' := 131) rfl (hb hby at_127) (by decide) (by decide) kt) ?_
          show own_Go p.tables e below (T29.setTop (mkF m 131 #[.val (.int p0), .val (.int p1), .val (.int p2), .val (.int f), .val (.int (((p2.toUInt32 >>> ((1 : Int32) &&& 31).toUInt32).toInt32) &&& (3 : Int32))), .val (.int ((own_max (-2147483648 : Int64) (own_min (2147483647 : Int64) ((f.toInt64) + ((p1 % (3 : Int32)).toInt64)))).toInt32)), .val (.int (0 : Int32)), .unset] [(.int (1 : Int32))])) _
          exact own_retN X29 hx (t := .boolean) Bd.returns hlk (by simp) (hb hby at_131) ⟨rfl, N29⟩ (by decide) (by decide)
        · refine own_by (fun _ kt => XS.icmpNo X27.here hx rfl (hb hby at_80) rfl (flt hc80_28).1 kt) ?_
          show own_Go p.tables e below (T27.setTop (mkF m 83 #[.val (.int p0), .val (.int p1), .val (.int p2), .val (.int f), .val (.int (((p2.toUInt32 >>> ((1 : Int32) &&& 31).toUInt32).toInt32) &&& (3 : Int32))), .val (.int ((own_max (-2147483648 : Int64) (own_min (2147483647 : Int64) ((f.toInt64) + ((p1 % (3 : Int32)).toInt64)))).toInt32)), .val (.long (own_max (-2147483648 : Int64) (own_min (2147483647 : Int64) ((f.toInt64) + ((p1 % (3 : Int32)).toInt64))))), .second] [])) _
          refine own_by (fun _ kt => XS.iloadN X27.here hx rfl (hb hby at_83) rfl kt) ?_
          show own_Go p.tables e below (T27.setTop (mkF m 84 #[.val (.int p0), .val (.int p1), .val (.int p2), .val (.int f), .val (.int (((p2.toUInt32 >>> ((1 : Int32) &&& 31).toUInt32).toInt32) &&& (3 : Int32))), .val (.int ((own_max (-2147483648 : Int64) (own_min (2147483647 : Int64) ((f.toInt64) + ((p1 % (3 : Int32)).toInt64)))).toInt32)), .val (.long (own_max (-2147483648 : Int64) (own_min (2147483647 : Int64) ((f.toInt64) + ((p1 % (3 : Int32)).toInt64))))), .second] [(.int f)])) _
          refine own_by (fun _ kt => XS.bipush X27.here hx rfl (hb hby at_84) kt) ?_
          show own_Go p.tables e below (T27.setTop (mkF m 86 #[.val (.int p0), .val (.int p1), .val (.int p2), .val (.int f), .val (.int (((p2.toUInt32 >>> ((1 : Int32) &&& 31).toUInt32).toInt32) &&& (3 : Int32))), .val (.int ((own_max (-2147483648 : Int64) (own_min (2147483647 : Int64) ((f.toInt64) + ((p1 % (3 : Int32)).toInt64)))).toInt32)), .val (.long (own_max (-2147483648 : Int64) (own_min (2147483647 : Int64) ((f.toInt64) + ((p1 % (3 : Int32)).toInt64))))), .second] [(.int (80 : Int32)), (.int f)])) _
          by_cases hc86_30 : (80 : Int32) < f
          · refine own_by (fun _ kt => XS.icmpYes X27.here hx rfl (pc0 := 86) (pc' := 112) rfl (hb hby at_86) rfl (tlt hc86_30).2.2.1 (by decide) (by decide) kt) ?_
            show own_Go p.tables e below (T27.setTop (mkF m 112 #[.val (.int p0), .val (.int p1), .val (.int p2), .val (.int f), .val (.int (((p2.toUInt32 >>> ((1 : Int32) &&& 31).toUInt32).toInt32) &&& (3 : Int32))), .val (.int ((own_max (-2147483648 : Int64) (own_min (2147483647 : Int64) ((f.toInt64) + ((p1 % (3 : Int32)).toInt64)))).toInt32)), .val (.long (own_max (-2147483648 : Int64) (own_min (2147483647 : Int64) ((f.toInt64) + ((p1 % (3 : Int32)).toInt64))))), .second] [])) _
            refine own_by (fun _ kt => XS.iconst X27.here hx rfl (hb hby at_112) kt) ?_
            show own_Go p.tables e below (T27.setTop (mkF m 113 #[.val (.int p0), .val (.int p1), .val (.int p2), .val (.int f), .val (.int (((p2.toUInt32 >>> ((1 : Int32) &&& 31).toUInt32).toInt32) &&& (3 : Int32))), .val (.int ((own_max (-2147483648 : Int64) (own_min (2147483647 : Int64) ((f.toInt64) + ((p1 % (3 : Int32)).toInt64)))).toInt32)), .val (.long (own_max (-2147483648 : Int64) (own_min (2147483647 : Int64) ((f.toInt64) + ((p1 % (3 : Int32)).toInt64))))), .second] [(.int (0 : Int32))])) _
            refine own_by (fun _ kt => XS.istore X27.here hx rfl (hb hby at_113) rfl (l' := #[.val (.int p0), .val (.int p1), .val (.int p2), .val (.int f), .val (.int (((p2.toUInt32 >>> ((1 : Int32) &&& 31).toUInt32).toInt32) &&& (3 : Int32))), .val (.int ((own_max (-2147483648 : Int64) (own_min (2147483647 : Int64) ((f.toInt64) + ((p1 % (3 : Int32)).toInt64)))).toInt32)), .val (.int (0 : Int32)), .unset]) rfl kt) ?_
            show own_Go p.tables e below (T27.setTop (mkF m 115 #[.val (.int p0), .val (.int p1), .val (.int p2), .val (.int f), .val (.int (((p2.toUInt32 >>> ((1 : Int32) &&& 31).toUInt32).toInt32) &&& (3 : Int32))), .val (.int ((own_max (-2147483648 : Int64) (own_min (2147483647 : Int64) ((f.toInt64) + ((p1 % (3 : Int32)).toInt64)))).toInt32)), .val (.int (0 : Int32)), .unset] [])) _
            refine own_by (fun _ kt => XS.iloadN X27.here hx rfl (hb hby at_115) rfl kt) ?_
            show own_Go p.tables e below (T27.setTop (mkF m 116 #[.val (.int p0), .val (.int p1), .val (.int p2), .val (.int f), .val (.int (((p2.toUInt32 >>> ((1 : Int32) &&& 31).toUInt32).toInt32) &&& (3 : Int32))), .val (.int ((own_max (-2147483648 : Int64) (own_min (2147483647 : Int64) ((f.toInt64) + ((p1 % (3 : Int32)).toInt64)))).toInt32)), .val (.int (0 : Int32)), .unset] [(.int f)])) _
            refine own_by (fun _ kt => XS.iload X27.here hx rfl (hb hby at_116) rfl kt) ?_
            show own_Go p.tables e below (T27.setTop (mkF m 118 #[.val (.int p0), .val (.int p1), .val (.int p2), .val (.int f), .val (.int (((p2.toUInt32 >>> ((1 : Int32) &&& 31).toUInt32).toInt32) &&& (3 : Int32))), .val (.int ((own_max (-2147483648 : Int64) (own_min (2147483647 : Int64) ((f.toInt64) + ((p1 % (3 : Int32)).toInt64)))).toInt32)), .val (.int (0 : Int32)), .unset] [(.int ((own_max (-2147483648 : Int64) (own_min (2147483647 : Int64) ((f.toInt64) + ((p1 % (3 : Int32)).toInt64)))).toInt32)), (.int f)])) _
            obtain ⟨_, _, ⟨T31, L31, k31, n31⟩, -, X31, ⟨Lc31, hQ31, l31, y31, z31⟩, st31⟩ := Jvm.LawKit.callS X27 hx (y := (⟨"com/example/cardstock/cardstock/Field", "onCard", "(II)Z"⟩ : MethodName)) hown (mvT hZ (hw _ (List.mem_of_getElem? (i := 0) rfl))) (mvT hZ (hw _ (List.mem_of_getElem? (i := 1) rfl))) (mvT hZ (hw _ (List.mem_of_getElem? (i := 2) rfl))) (mvT hZ (hw _ (List.mem_of_getElem? (i := 3) rfl))) (by decide) (backOf (W := 0) (rm_own_on l Z a0 hw [] f ((own_max (-2147483648 : Int64) (own_min (2147483647 : Int64) ((f.toInt64) + ((p1 % (3 : Int32)).toInt64)))).toInt32) h0 n0 Z0) hZ (hw _ (List.mem_of_getElem? (i := 3) rfl)) (hw _ (List.mem_of_getElem? (i := 2) rfl)) (by decide) (by decide)) (g := (mkF m 118 #[.val (.int p0), .val (.int p1), .val (.int p2), .val (.int f), .val (.int (((p2.toUInt32 >>> ((1 : Int32) &&& 31).toUInt32).toInt32) &&& (3 : Int32))), .val (.int ((own_max (-2147483648 : Int64) (own_min (2147483647 : Int64) ((f.toInt64) + ((p1 % (3 : Int32)).toInt64)))).toInt32)), .val (.int (0 : Int32)), .unset] [(.int ((own_max (-2147483648 : Int64) (own_min (2147483647 : Int64) ((f.toInt64) + ((p1 % (3 : Int32)).toInt64)))).toInt32)), (.int f)])) rfl (by rw [hml]; rfl) (argsL := [(.int f), (.int ((own_max (-2147483648 : Int64) (own_min (2147483647 : Int64) ((f.toInt64) + ((p1 % (3 : Int32)).toInt64)))).toInt32))]) (rest := []) (lenOf pd_0 rfl) rfl (by show 2 * 0 + _ ≤ _; exact Nat.le_of_eq rfl) (hb hby at_118) (fun _ _ => ⟨rfl, eh27, (by decide : 0 + 0 ≤ _), (by decide : 0 + 0 ≤ _)⟩)
            dsimp only [Pt.U, Pt.locs, Pt.cells, Pt.slots] at X31 l31 y31 z31 st31 hQ31
            subst l31 y31 z31
            obtain ⟨rfl, Nq31, eh31⟩ := hQ31
            have N31 := Fr.app N27 Nq31
            refine own_by (st31) ?_
            show own_Go p.tables e below (T31.setTop (mkF m 121 #[.val (.int p0), .val (.int p1), .val (.int p2), .val (.int f), .val (.int (((p2.toUInt32 >>> ((1 : Int32) &&& 31).toUInt32).toInt32) &&& (3 : Int32))), .val (.int ((own_max (-2147483648 : Int64) (own_min (2147483647 : Int64) ((f.toInt64) + ((p1 % (3 : Int32)).toInt64)))).toInt32)), .val (.int (0 : Int32)), .unset] [(.int (own_on f ((own_max (-2147483648 : Int64) (own_min (2147483647 : Int64) ((f.toInt64) + ((p1 % (3 : Int32)).toInt64)))).toInt32)))])) _
            refine own_by (fun _ kt => XS.iload X31.here hx rfl (hb hby at_121) rfl kt) ?_
            show own_Go p.tables e below (T31.setTop (mkF m 123 #[.val (.int p0), .val (.int p1), .val (.int p2), .val (.int f), .val (.int (((p2.toUInt32 >>> ((1 : Int32) &&& 31).toUInt32).toInt32) &&& (3 : Int32))), .val (.int ((own_max (-2147483648 : Int64) (own_min (2147483647 : Int64) ((f.toInt64) + ((p1 % (3 : Int32)).toInt64)))).toInt32)), .val (.int (0 : Int32)), .unset] [(.int (0 : Int32)), (.int (own_on f ((own_max (-2147483648 : Int64) (own_min (2147483647 : Int64) ((f.toInt64) + ((p1 % (3 : Int32)).toInt64)))).toInt32)))])) _
            refine own_by (fun _ kt => XS.icmpNo X31.here hx rfl (hb hby at_123) rfl (teq (own_k0 _ _ (Or.inr (Or.inl hc86_30)) : (own_on f ((own_max (-2147483648 : Int64) (own_min (2147483647 : Int64) ((f.toInt64) + ((p1 % (3 : Int32)).toInt64)))).toInt32)) = (0 : Int32))).2 kt) ?_
            show own_Go p.tables e below (T31.setTop (mkF m 126 #[.val (.int p0), .val (.int p1), .val (.int p2), .val (.int f), .val (.int (((p2.toUInt32 >>> ((1 : Int32) &&& 31).toUInt32).toInt32) &&& (3 : Int32))), .val (.int ((own_max (-2147483648 : Int64) (own_min (2147483647 : Int64) ((f.toInt64) + ((p1 % (3 : Int32)).toInt64)))).toInt32)), .val (.int (0 : Int32)), .unset] [])) _
            refine own_by (fun _ kt => XS.iconst X31.here hx rfl (hb hby at_126) kt) ?_
            show own_Go p.tables e below (T31.setTop (mkF m 127 #[.val (.int p0), .val (.int p1), .val (.int p2), .val (.int f), .val (.int (((p2.toUInt32 >>> ((1 : Int32) &&& 31).toUInt32).toInt32) &&& (3 : Int32))), .val (.int ((own_max (-2147483648 : Int64) (own_min (2147483647 : Int64) ((f.toInt64) + ((p1 % (3 : Int32)).toInt64)))).toInt32)), .val (.int (0 : Int32)), .unset] [(.int (1 : Int32))])) _
            refine own_by (fun _ kt => XS.goto X31.here hx rfl (pc0 := 127) (pc' := 131) rfl (hb hby at_127) (by decide) (by decide) kt) ?_
            show own_Go p.tables e below (T31.setTop (mkF m 131 #[.val (.int p0), .val (.int p1), .val (.int p2), .val (.int f), .val (.int (((p2.toUInt32 >>> ((1 : Int32) &&& 31).toUInt32).toInt32) &&& (3 : Int32))), .val (.int ((own_max (-2147483648 : Int64) (own_min (2147483647 : Int64) ((f.toInt64) + ((p1 % (3 : Int32)).toInt64)))).toInt32)), .val (.int (0 : Int32)), .unset] [(.int (1 : Int32))])) _
            exact own_retN X31 hx (t := .boolean) Bd.returns hlk (by simp) (hb hby at_131) ⟨rfl, N31⟩ (by decide) (by decide)
          · refine own_by (fun _ kt => XS.icmpNo X27.here hx rfl (hb hby at_86) rfl (flt hc86_30).2.2.1 kt) ?_
            show own_Go p.tables e below (T27.setTop (mkF m 89 #[.val (.int p0), .val (.int p1), .val (.int p2), .val (.int f), .val (.int (((p2.toUInt32 >>> ((1 : Int32) &&& 31).toUInt32).toInt32) &&& (3 : Int32))), .val (.int ((own_max (-2147483648 : Int64) (own_min (2147483647 : Int64) ((f.toInt64) + ((p1 % (3 : Int32)).toInt64)))).toInt32)), .val (.long (own_max (-2147483648 : Int64) (own_min (2147483647 : Int64) ((f.toInt64) + ((p1 % (3 : Int32)).toInt64))))), .second] [])) _
            refine own_by (fun _ kt => XS.iload X27.here hx rfl (hb hby at_89) rfl kt) ?_
            show own_Go p.tables e below (T27.setTop (mkF m 91 #[.val (.int p0), .val (.int p1), .val (.int p2), .val (.int f), .val (.int (((p2.toUInt32 >>> ((1 : Int32) &&& 31).toUInt32).toInt32) &&& (3 : Int32))), .val (.int ((own_max (-2147483648 : Int64) (own_min (2147483647 : Int64) ((f.toInt64) + ((p1 % (3 : Int32)).toInt64)))).toInt32)), .val (.long (own_max (-2147483648 : Int64) (own_min (2147483647 : Int64) ((f.toInt64) + ((p1 % (3 : Int32)).toInt64))))), .second] [(.int ((own_max (-2147483648 : Int64) (own_min (2147483647 : Int64) ((f.toInt64) + ((p1 % (3 : Int32)).toInt64)))).toInt32))])) _
            refine own_by (fun _ kt => XS.iconst X27.here hx rfl (hb hby at_91) kt) ?_
            show own_Go p.tables e below (T27.setTop (mkF m 92 #[.val (.int p0), .val (.int p1), .val (.int p2), .val (.int f), .val (.int (((p2.toUInt32 >>> ((1 : Int32) &&& 31).toUInt32).toInt32) &&& (3 : Int32))), .val (.int ((own_max (-2147483648 : Int64) (own_min (2147483647 : Int64) ((f.toInt64) + ((p1 % (3 : Int32)).toInt64)))).toInt32)), .val (.long (own_max (-2147483648 : Int64) (own_min (2147483647 : Int64) ((f.toInt64) + ((p1 % (3 : Int32)).toInt64))))), .second] [(.int (1 : Int32)), (.int ((own_max (-2147483648 : Int64) (own_min (2147483647 : Int64) ((f.toInt64) + ((p1 % (3 : Int32)).toInt64)))).toInt32))])) _
            by_cases hc92_32 : ((own_max (-2147483648 : Int64) (own_min (2147483647 : Int64) ((f.toInt64) + ((p1 % (3 : Int32)).toInt64)))).toInt32) < (1 : Int32)
            · refine own_by (fun _ kt => XS.icmpYes X27.here hx rfl (pc0 := 92) (pc' := 112) rfl (hb hby at_92) rfl (tlt hc92_32).1 (by decide) (by decide) kt) ?_
              show own_Go p.tables e below (T27.setTop (mkF m 112 #[.val (.int p0), .val (.int p1), .val (.int p2), .val (.int f), .val (.int (((p2.toUInt32 >>> ((1 : Int32) &&& 31).toUInt32).toInt32) &&& (3 : Int32))), .val (.int ((own_max (-2147483648 : Int64) (own_min (2147483647 : Int64) ((f.toInt64) + ((p1 % (3 : Int32)).toInt64)))).toInt32)), .val (.long (own_max (-2147483648 : Int64) (own_min (2147483647 : Int64) ((f.toInt64) + ((p1 % (3 : Int32)).toInt64))))), .second] [])) _
              refine own_by (fun _ kt => XS.iconst X27.here hx rfl (hb hby at_112) kt) ?_
              show own_Go p.tables e below (T27.setTop (mkF m 113 #[.val (.int p0), .val (.int p1), .val (.int p2), .val (.int f), .val (.int (((p2.toUInt32 >>> ((1 : Int32) &&& 31).toUInt32).toInt32) &&& (3 : Int32))), .val (.int ((own_max (-2147483648 : Int64) (own_min (2147483647 : Int64) ((f.toInt64) + ((p1 % (3 : Int32)).toInt64)))).toInt32)), .val (.long (own_max (-2147483648 : Int64) (own_min (2147483647 : Int64) ((f.toInt64) + ((p1 % (3 : Int32)).toInt64))))), .second] [(.int (0 : Int32))])) _
              refine own_by (fun _ kt => XS.istore X27.here hx rfl (hb hby at_113) rfl (l' := #[.val (.int p0), .val (.int p1), .val (.int p2), .val (.int f), .val (.int (((p2.toUInt32 >>> ((1 : Int32) &&& 31).toUInt32).toInt32) &&& (3 : Int32))), .val (.int ((own_max (-2147483648 : Int64) (own_min (2147483647 : Int64) ((f.toInt64) + ((p1 % (3 : Int32)).toInt64)))).toInt32)), .val (.int (0 : Int32)), .unset]) rfl kt) ?_
              show own_Go p.tables e below (T27.setTop (mkF m 115 #[.val (.int p0), .val (.int p1), .val (.int p2), .val (.int f), .val (.int (((p2.toUInt32 >>> ((1 : Int32) &&& 31).toUInt32).toInt32) &&& (3 : Int32))), .val (.int ((own_max (-2147483648 : Int64) (own_min (2147483647 : Int64) ((f.toInt64) + ((p1 % (3 : Int32)).toInt64)))).toInt32)), .val (.int (0 : Int32)), .unset] [])) _
              refine own_by (fun _ kt => XS.iloadN X27.here hx rfl (hb hby at_115) rfl kt) ?_
              show own_Go p.tables e below (T27.setTop (mkF m 116 #[.val (.int p0), .val (.int p1), .val (.int p2), .val (.int f), .val (.int (((p2.toUInt32 >>> ((1 : Int32) &&& 31).toUInt32).toInt32) &&& (3 : Int32))), .val (.int ((own_max (-2147483648 : Int64) (own_min (2147483647 : Int64) ((f.toInt64) + ((p1 % (3 : Int32)).toInt64)))).toInt32)), .val (.int (0 : Int32)), .unset] [(.int f)])) _
              refine own_by (fun _ kt => XS.iload X27.here hx rfl (hb hby at_116) rfl kt) ?_
              show own_Go p.tables e below (T27.setTop (mkF m 118 #[.val (.int p0), .val (.int p1), .val (.int p2), .val (.int f), .val (.int (((p2.toUInt32 >>> ((1 : Int32) &&& 31).toUInt32).toInt32) &&& (3 : Int32))), .val (.int ((own_max (-2147483648 : Int64) (own_min (2147483647 : Int64) ((f.toInt64) + ((p1 % (3 : Int32)).toInt64)))).toInt32)), .val (.int (0 : Int32)), .unset] [(.int ((own_max (-2147483648 : Int64) (own_min (2147483647 : Int64) ((f.toInt64) + ((p1 % (3 : Int32)).toInt64)))).toInt32)), (.int f)])) _
              obtain ⟨_, _, ⟨T33, L33, k33, n33⟩, -, X33, ⟨Lc33, hQ33, l33, y33, z33⟩, st33⟩ := Jvm.LawKit.callS X27 hx (y := (⟨"com/example/cardstock/cardstock/Field", "onCard", "(II)Z"⟩ : MethodName)) hown (mvT hZ (hw _ (List.mem_of_getElem? (i := 0) rfl))) (mvT hZ (hw _ (List.mem_of_getElem? (i := 1) rfl))) (mvT hZ (hw _ (List.mem_of_getElem? (i := 2) rfl))) (mvT hZ (hw _ (List.mem_of_getElem? (i := 3) rfl))) (by decide) (backOf (W := 0) (rm_own_on l Z a0 hw [] f ((own_max (-2147483648 : Int64) (own_min (2147483647 : Int64) ((f.toInt64) + ((p1 % (3 : Int32)).toInt64)))).toInt32) h0 n0 Z0) hZ (hw _ (List.mem_of_getElem? (i := 3) rfl)) (hw _ (List.mem_of_getElem? (i := 2) rfl)) (by decide) (by decide)) (g := (mkF m 118 #[.val (.int p0), .val (.int p1), .val (.int p2), .val (.int f), .val (.int (((p2.toUInt32 >>> ((1 : Int32) &&& 31).toUInt32).toInt32) &&& (3 : Int32))), .val (.int ((own_max (-2147483648 : Int64) (own_min (2147483647 : Int64) ((f.toInt64) + ((p1 % (3 : Int32)).toInt64)))).toInt32)), .val (.int (0 : Int32)), .unset] [(.int ((own_max (-2147483648 : Int64) (own_min (2147483647 : Int64) ((f.toInt64) + ((p1 % (3 : Int32)).toInt64)))).toInt32)), (.int f)])) rfl (by rw [hml]; rfl) (argsL := [(.int f), (.int ((own_max (-2147483648 : Int64) (own_min (2147483647 : Int64) ((f.toInt64) + ((p1 % (3 : Int32)).toInt64)))).toInt32))]) (rest := []) (lenOf pd_0 rfl) rfl (by show 2 * 0 + _ ≤ _; exact Nat.le_of_eq rfl) (hb hby at_118) (fun _ _ => ⟨rfl, eh27, (by decide : 0 + 0 ≤ _), (by decide : 0 + 0 ≤ _)⟩)
              dsimp only [Pt.U, Pt.locs, Pt.cells, Pt.slots] at X33 l33 y33 z33 st33 hQ33
              subst l33 y33 z33
              obtain ⟨rfl, Nq33, eh33⟩ := hQ33
              have N33 := Fr.app N27 Nq33
              refine own_by (st33) ?_
              show own_Go p.tables e below (T33.setTop (mkF m 121 #[.val (.int p0), .val (.int p1), .val (.int p2), .val (.int f), .val (.int (((p2.toUInt32 >>> ((1 : Int32) &&& 31).toUInt32).toInt32) &&& (3 : Int32))), .val (.int ((own_max (-2147483648 : Int64) (own_min (2147483647 : Int64) ((f.toInt64) + ((p1 % (3 : Int32)).toInt64)))).toInt32)), .val (.int (0 : Int32)), .unset] [(.int (own_on f ((own_max (-2147483648 : Int64) (own_min (2147483647 : Int64) ((f.toInt64) + ((p1 % (3 : Int32)).toInt64)))).toInt32)))])) _
              refine own_by (fun _ kt => XS.iload X33.here hx rfl (hb hby at_121) rfl kt) ?_
              show own_Go p.tables e below (T33.setTop (mkF m 123 #[.val (.int p0), .val (.int p1), .val (.int p2), .val (.int f), .val (.int (((p2.toUInt32 >>> ((1 : Int32) &&& 31).toUInt32).toInt32) &&& (3 : Int32))), .val (.int ((own_max (-2147483648 : Int64) (own_min (2147483647 : Int64) ((f.toInt64) + ((p1 % (3 : Int32)).toInt64)))).toInt32)), .val (.int (0 : Int32)), .unset] [(.int (0 : Int32)), (.int (own_on f ((own_max (-2147483648 : Int64) (own_min (2147483647 : Int64) ((f.toInt64) + ((p1 % (3 : Int32)).toInt64)))).toInt32)))])) _
              refine own_by (fun _ kt => XS.icmpNo X33.here hx rfl (hb hby at_123) rfl (teq (own_k0 _ _ (Or.inr (Or.inr (Or.inl hc92_32))) : (own_on f ((own_max (-2147483648 : Int64) (own_min (2147483647 : Int64) ((f.toInt64) + ((p1 % (3 : Int32)).toInt64)))).toInt32)) = (0 : Int32))).2 kt) ?_
              show own_Go p.tables e below (T33.setTop (mkF m 126 #[.val (.int p0), .val (.int p1), .val (.int p2), .val (.int f), .val (.int (((p2.toUInt32 >>> ((1 : Int32) &&& 31).toUInt32).toInt32) &&& (3 : Int32))), .val (.int ((own_max (-2147483648 : Int64) (own_min (2147483647 : Int64) ((f.toInt64) + ((p1 % (3 : Int32)).toInt64)))).toInt32)), .val (.int (0 : Int32)), .unset] [])) _
              refine own_by (fun _ kt => XS.iconst X33.here hx rfl (hb hby at_126) kt) ?_
              show own_Go p.tables e below (T33.setTop (mkF m 127 #[.val (.int p0), .val (.int p1), .val (.int p2), .val (.int f), .val (.int (((p2.toUInt32 >>> ((1 : Int32) &&& 31).toUInt32).toInt32) &&& (3 : Int32))), .val (.int ((own_max (-2147483648 : Int64) (own_min (2147483647 : Int64) ((f.toInt64) + ((p1 % (3 : Int32)).toInt64)))).toInt32)), .val (.int (0 : Int32)), .unset] [(.int (1 : Int32))])) _
              refine own_by (fun _ kt => XS.goto X33.here hx rfl (pc0 := 127) (pc' := 131) rfl (hb hby at_127) (by decide) (by decide) kt) ?_
              show own_Go p.tables e below (T33.setTop (mkF m 131 #[.val (.int p0), .val (.int p1), .val (.int p2), .val (.int f), .val (.int (((p2.toUInt32 >>> ((1 : Int32) &&& 31).toUInt32).toInt32) &&& (3 : Int32))), .val (.int ((own_max (-2147483648 : Int64) (own_min (2147483647 : Int64) ((f.toInt64) + ((p1 % (3 : Int32)).toInt64)))).toInt32)), .val (.int (0 : Int32)), .unset] [(.int (1 : Int32))])) _
              exact own_retN X33 hx (t := .boolean) Bd.returns hlk (by simp) (hb hby at_131) ⟨rfl, N33⟩ (by decide) (by decide)
            · refine own_by (fun _ kt => XS.icmpNo X27.here hx rfl (hb hby at_92) rfl (flt hc92_32).1 kt) ?_
              show own_Go p.tables e below (T27.setTop (mkF m 95 #[.val (.int p0), .val (.int p1), .val (.int p2), .val (.int f), .val (.int (((p2.toUInt32 >>> ((1 : Int32) &&& 31).toUInt32).toInt32) &&& (3 : Int32))), .val (.int ((own_max (-2147483648 : Int64) (own_min (2147483647 : Int64) ((f.toInt64) + ((p1 % (3 : Int32)).toInt64)))).toInt32)), .val (.long (own_max (-2147483648 : Int64) (own_min (2147483647 : Int64) ((f.toInt64) + ((p1 % (3 : Int32)).toInt64))))), .second] [])) _
              refine own_by (fun _ kt => XS.iload X27.here hx rfl (hb hby at_95) rfl kt) ?_
              show own_Go p.tables e below (T27.setTop (mkF m 97 #[.val (.int p0), .val (.int p1), .val (.int p2), .val (.int f), .val (.int (((p2.toUInt32 >>> ((1 : Int32) &&& 31).toUInt32).toInt32) &&& (3 : Int32))), .val (.int ((own_max (-2147483648 : Int64) (own_min (2147483647 : Int64) ((f.toInt64) + ((p1 % (3 : Int32)).toInt64)))).toInt32)), .val (.long (own_max (-2147483648 : Int64) (own_min (2147483647 : Int64) ((f.toInt64) + ((p1 % (3 : Int32)).toInt64))))), .second] [(.int ((own_max (-2147483648 : Int64) (own_min (2147483647 : Int64) ((f.toInt64) + ((p1 % (3 : Int32)).toInt64)))).toInt32))])) _
              refine own_by (fun _ kt => XS.bipush X27.here hx rfl (hb hby at_97) kt) ?_
              show own_Go p.tables e below (T27.setTop (mkF m 99 #[.val (.int p0), .val (.int p1), .val (.int p2), .val (.int f), .val (.int (((p2.toUInt32 >>> ((1 : Int32) &&& 31).toUInt32).toInt32) &&& (3 : Int32))), .val (.int ((own_max (-2147483648 : Int64) (own_min (2147483647 : Int64) ((f.toInt64) + ((p1 % (3 : Int32)).toInt64)))).toInt32)), .val (.long (own_max (-2147483648 : Int64) (own_min (2147483647 : Int64) ((f.toInt64) + ((p1 % (3 : Int32)).toInt64))))), .second] [(.int (80 : Int32)), (.int ((own_max (-2147483648 : Int64) (own_min (2147483647 : Int64) ((f.toInt64) + ((p1 % (3 : Int32)).toInt64)))).toInt32))])) _
              by_cases hc99_34 : (80 : Int32) < ((own_max (-2147483648 : Int64) (own_min (2147483647 : Int64) ((f.toInt64) + ((p1 % (3 : Int32)).toInt64)))).toInt32)
              · refine own_by (fun _ kt => XS.icmpYes X27.here hx rfl (pc0 := 99) (pc' := 112) rfl (hb hby at_99) rfl (tlt hc99_34).2.2.1 (by decide) (by decide) kt) ?_
                show own_Go p.tables e below (T27.setTop (mkF m 112 #[.val (.int p0), .val (.int p1), .val (.int p2), .val (.int f), .val (.int (((p2.toUInt32 >>> ((1 : Int32) &&& 31).toUInt32).toInt32) &&& (3 : Int32))), .val (.int ((own_max (-2147483648 : Int64) (own_min (2147483647 : Int64) ((f.toInt64) + ((p1 % (3 : Int32)).toInt64)))).toInt32)), .val (.long (own_max (-2147483648 : Int64) (own_min (2147483647 : Int64) ((f.toInt64) + ((p1 % (3 : Int32)).toInt64))))), .second] [])) _
                refine own_by (fun _ kt => XS.iconst X27.here hx rfl (hb hby at_112) kt) ?_
                show own_Go p.tables e below (T27.setTop (mkF m 113 #[.val (.int p0), .val (.int p1), .val (.int p2), .val (.int f), .val (.int (((p2.toUInt32 >>> ((1 : Int32) &&& 31).toUInt32).toInt32) &&& (3 : Int32))), .val (.int ((own_max (-2147483648 : Int64) (own_min (2147483647 : Int64) ((f.toInt64) + ((p1 % (3 : Int32)).toInt64)))).toInt32)), .val (.long (own_max (-2147483648 : Int64) (own_min (2147483647 : Int64) ((f.toInt64) + ((p1 % (3 : Int32)).toInt64))))), .second] [(.int (0 : Int32))])) _
                refine own_by (fun _ kt => XS.istore X27.here hx rfl (hb hby at_113) rfl (l' := #[.val (.int p0), .val (.int p1), .val (.int p2), .val (.int f), .val (.int (((p2.toUInt32 >>> ((1 : Int32) &&& 31).toUInt32).toInt32) &&& (3 : Int32))), .val (.int ((own_max (-2147483648 : Int64) (own_min (2147483647 : Int64) ((f.toInt64) + ((p1 % (3 : Int32)).toInt64)))).toInt32)), .val (.int (0 : Int32)), .unset]) rfl kt) ?_
                show own_Go p.tables e below (T27.setTop (mkF m 115 #[.val (.int p0), .val (.int p1), .val (.int p2), .val (.int f), .val (.int (((p2.toUInt32 >>> ((1 : Int32) &&& 31).toUInt32).toInt32) &&& (3 : Int32))), .val (.int ((own_max (-2147483648 : Int64) (own_min (2147483647 : Int64) ((f.toInt64) + ((p1 % (3 : Int32)).toInt64)))).toInt32)), .val (.int (0 : Int32)), .unset] [])) _
                refine own_by (fun _ kt => XS.iloadN X27.here hx rfl (hb hby at_115) rfl kt) ?_
                show own_Go p.tables e below (T27.setTop (mkF m 116 #[.val (.int p0), .val (.int p1), .val (.int p2), .val (.int f), .val (.int (((p2.toUInt32 >>> ((1 : Int32) &&& 31).toUInt32).toInt32) &&& (3 : Int32))), .val (.int ((own_max (-2147483648 : Int64) (own_min (2147483647 : Int64) ((f.toInt64) + ((p1 % (3 : Int32)).toInt64)))).toInt32)), .val (.int (0 : Int32)), .unset] [(.int f)])) _
                refine own_by (fun _ kt => XS.iload X27.here hx rfl (hb hby at_116) rfl kt) ?_
                show own_Go p.tables e below (T27.setTop (mkF m 118 #[.val (.int p0), .val (.int p1), .val (.int p2), .val (.int f), .val (.int (((p2.toUInt32 >>> ((1 : Int32) &&& 31).toUInt32).toInt32) &&& (3 : Int32))), .val (.int ((own_max (-2147483648 : Int64) (own_min (2147483647 : Int64) ((f.toInt64) + ((p1 % (3 : Int32)).toInt64)))).toInt32)), .val (.int (0 : Int32)), .unset] [(.int ((own_max (-2147483648 : Int64) (own_min (2147483647 : Int64) ((f.toInt64) + ((p1 % (3 : Int32)).toInt64)))).toInt32)), (.int f)])) _
                obtain ⟨_, _, ⟨T35, L35, k35, n35⟩, -, X35, ⟨Lc35, hQ35, l35, y35, z35⟩, st35⟩ := Jvm.LawKit.callS X27 hx (y := (⟨"com/example/cardstock/cardstock/Field", "onCard", "(II)Z"⟩ : MethodName)) hown (mvT hZ (hw _ (List.mem_of_getElem? (i := 0) rfl))) (mvT hZ (hw _ (List.mem_of_getElem? (i := 1) rfl))) (mvT hZ (hw _ (List.mem_of_getElem? (i := 2) rfl))) (mvT hZ (hw _ (List.mem_of_getElem? (i := 3) rfl))) (by decide) (backOf (W := 0) (rm_own_on l Z a0 hw [] f ((own_max (-2147483648 : Int64) (own_min (2147483647 : Int64) ((f.toInt64) + ((p1 % (3 : Int32)).toInt64)))).toInt32) h0 n0 Z0) hZ (hw _ (List.mem_of_getElem? (i := 3) rfl)) (hw _ (List.mem_of_getElem? (i := 2) rfl)) (by decide) (by decide)) (g := (mkF m 118 #[.val (.int p0), .val (.int p1), .val (.int p2), .val (.int f), .val (.int (((p2.toUInt32 >>> ((1 : Int32) &&& 31).toUInt32).toInt32) &&& (3 : Int32))), .val (.int ((own_max (-2147483648 : Int64) (own_min (2147483647 : Int64) ((f.toInt64) + ((p1 % (3 : Int32)).toInt64)))).toInt32)), .val (.int (0 : Int32)), .unset] [(.int ((own_max (-2147483648 : Int64) (own_min (2147483647 : Int64) ((f.toInt64) + ((p1 % (3 : Int32)).toInt64)))).toInt32)), (.int f)])) rfl (by rw [hml]; rfl) (argsL := [(.int f), (.int ((own_max (-2147483648 : Int64) (own_min (2147483647 : Int64) ((f.toInt64) + ((p1 % (3 : Int32)).toInt64)))).toInt32))]) (rest := []) (lenOf pd_0 rfl) rfl (by show 2 * 0 + _ ≤ _; exact Nat.le_of_eq rfl) (hb hby at_118) (fun _ _ => ⟨rfl, eh27, (by decide : 0 + 0 ≤ _), (by decide : 0 + 0 ≤ _)⟩)
                dsimp only [Pt.U, Pt.locs, Pt.cells, Pt.slots] at X35 l35 y35 z35 st35 hQ35
                subst l35 y35 z35
                obtain ⟨rfl, Nq35, eh35⟩ := hQ35
                have N35 := Fr.app N27 Nq35
                refine own_by (st35) ?_
                show own_Go p.tables e below (T35.setTop (mkF m 121 #[.val (.int p0), .val (.int p1), .val (.int p2), .val (.int f), .val (.int (((p2.toUInt32 >>> ((1 : Int32) &&& 31).toUInt32).toInt32) &&& (3 : Int32))), .val (.int ((own_max (-2147483648 : Int64) (own_min (2147483647 : Int64) ((f.toInt64) + ((p1 % (3 : Int32)).toInt64)))).toInt32)), .val (.int (0 : Int32)), .unset] [(.int (own_on f ((own_max (-2147483648 : Int64) (own_min (2147483647 : Int64) ((f.toInt64) + ((p1 % (3 : Int32)).toInt64)))).toInt32)))])) _
                refine own_by (fun _ kt => XS.iload X35.here hx rfl (hb hby at_121) rfl kt) ?_
                show own_Go p.tables e below (T35.setTop (mkF m 123 #[.val (.int p0), .val (.int p1), .val (.int p2), .val (.int f), .val (.int (((p2.toUInt32 >>> ((1 : Int32) &&& 31).toUInt32).toInt32) &&& (3 : Int32))), .val (.int ((own_max (-2147483648 : Int64) (own_min (2147483647 : Int64) ((f.toInt64) + ((p1 % (3 : Int32)).toInt64)))).toInt32)), .val (.int (0 : Int32)), .unset] [(.int (0 : Int32)), (.int (own_on f ((own_max (-2147483648 : Int64) (own_min (2147483647 : Int64) ((f.toInt64) + ((p1 % (3 : Int32)).toInt64)))).toInt32)))])) _
                refine own_by (fun _ kt => XS.icmpNo X35.here hx rfl (hb hby at_123) rfl (teq (own_k0 _ _ (Or.inr (Or.inr (Or.inr (Or.inl hc99_34)))) : (own_on f ((own_max (-2147483648 : Int64) (own_min (2147483647 : Int64) ((f.toInt64) + ((p1 % (3 : Int32)).toInt64)))).toInt32)) = (0 : Int32))).2 kt) ?_
                show own_Go p.tables e below (T35.setTop (mkF m 126 #[.val (.int p0), .val (.int p1), .val (.int p2), .val (.int f), .val (.int (((p2.toUInt32 >>> ((1 : Int32) &&& 31).toUInt32).toInt32) &&& (3 : Int32))), .val (.int ((own_max (-2147483648 : Int64) (own_min (2147483647 : Int64) ((f.toInt64) + ((p1 % (3 : Int32)).toInt64)))).toInt32)), .val (.int (0 : Int32)), .unset] [])) _
                refine own_by (fun _ kt => XS.iconst X35.here hx rfl (hb hby at_126) kt) ?_
                show own_Go p.tables e below (T35.setTop (mkF m 127 #[.val (.int p0), .val (.int p1), .val (.int p2), .val (.int f), .val (.int (((p2.toUInt32 >>> ((1 : Int32) &&& 31).toUInt32).toInt32) &&& (3 : Int32))), .val (.int ((own_max (-2147483648 : Int64) (own_min (2147483647 : Int64) ((f.toInt64) + ((p1 % (3 : Int32)).toInt64)))).toInt32)), .val (.int (0 : Int32)), .unset] [(.int (1 : Int32))])) _
                refine own_by (fun _ kt => XS.goto X35.here hx rfl (pc0 := 127) (pc' := 131) rfl (hb hby at_127) (by decide) (by decide) kt) ?_
                show own_Go p.tables e below (T35.setTop (mkF m 131 #[.val (.int p0), .val (.int p1), .val (.int p2), .val (.int f), .val (.int (((p2.toUInt32 >>> ((1 : Int32) &&& 31).toUInt32).toInt32) &&& (3 : Int32))), .val (.int ((own_max (-2147483648 : Int64) (own_min (2147483647 : Int64) ((f.toInt64) + ((p1 % (3 : Int32)).toInt64)))).toInt32)), .val (.int (0 : Int32)), .unset] [(.int (1 : Int32))])) _
                exact own_retN X35 hx (t := .boolean) Bd.returns hlk (by simp) (hb hby at_131) ⟨rfl, N35⟩ (by decide) (by decide)
              · refine own_by (fun _ kt => XS.icmpNo X27.here hx rfl (hb hby at_99) rfl (flt hc99_34).2.2.1 kt) ?_
                show own_Go p.tables e below (T27.setTop (mkF m 102 #[.val (.int p0), .val (.int p1), .val (.int p2), .val (.int f), .val (.int (((p2.toUInt32 >>> ((1 : Int32) &&& 31).toUInt32).toInt32) &&& (3 : Int32))), .val (.int ((own_max (-2147483648 : Int64) (own_min (2147483647 : Int64) ((f.toInt64) + ((p1 % (3 : Int32)).toInt64)))).toInt32)), .val (.long (own_max (-2147483648 : Int64) (own_min (2147483647 : Int64) ((f.toInt64) + ((p1 % (3 : Int32)).toInt64))))), .second] [])) _
                refine own_by (fun _ kt => XS.iloadN X27.here hx rfl (hb hby at_102) rfl kt) ?_
                show own_Go p.tables e below (T27.setTop (mkF m 103 #[.val (.int p0), .val (.int p1), .val (.int p2), .val (.int f), .val (.int (((p2.toUInt32 >>> ((1 : Int32) &&& 31).toUInt32).toInt32) &&& (3 : Int32))), .val (.int ((own_max (-2147483648 : Int64) (own_min (2147483647 : Int64) ((f.toInt64) + ((p1 % (3 : Int32)).toInt64)))).toInt32)), .val (.long (own_max (-2147483648 : Int64) (own_min (2147483647 : Int64) ((f.toInt64) + ((p1 % (3 : Int32)).toInt64))))), .second] [(.int f)])) _
                refine own_by (fun _ kt => XS.iload X27.here hx rfl (hb hby at_103) rfl kt) ?_
                show own_Go p.tables e below (T27.setTop (mkF m 105 #[.val (.int p0), .val (.int p1), .val (.int p2), .val (.int f), .val (.int (((p2.toUInt32 >>> ((1 : Int32) &&& 31).toUInt32).toInt32) &&& (3 : Int32))), .val (.int ((own_max (-2147483648 : Int64) (own_min (2147483647 : Int64) ((f.toInt64) + ((p1 % (3 : Int32)).toInt64)))).toInt32)), .val (.long (own_max (-2147483648 : Int64) (own_min (2147483647 : Int64) ((f.toInt64) + ((p1 % (3 : Int32)).toInt64))))), .second] [(.int ((own_max (-2147483648 : Int64) (own_min (2147483647 : Int64) ((f.toInt64) + ((p1 % (3 : Int32)).toInt64)))).toInt32)), (.int f)])) _
                by_cases hc105_36 : ((own_max (-2147483648 : Int64) (own_min (2147483647 : Int64) ((f.toInt64) + ((p1 % (3 : Int32)).toInt64)))).toInt32) < f
                · refine own_by (fun _ kt => XS.icmpYes X27.here hx rfl (pc0 := 105) (pc' := 112) rfl (hb hby at_105) rfl (tlt hc105_36).2.2.1 (by decide) (by decide) kt) ?_
                  show own_Go p.tables e below (T27.setTop (mkF m 112 #[.val (.int p0), .val (.int p1), .val (.int p2), .val (.int f), .val (.int (((p2.toUInt32 >>> ((1 : Int32) &&& 31).toUInt32).toInt32) &&& (3 : Int32))), .val (.int ((own_max (-2147483648 : Int64) (own_min (2147483647 : Int64) ((f.toInt64) + ((p1 % (3 : Int32)).toInt64)))).toInt32)), .val (.long (own_max (-2147483648 : Int64) (own_min (2147483647 : Int64) ((f.toInt64) + ((p1 % (3 : Int32)).toInt64))))), .second] [])) _
                  refine own_by (fun _ kt => XS.iconst X27.here hx rfl (hb hby at_112) kt) ?_
                  show own_Go p.tables e below (T27.setTop (mkF m 113 #[.val (.int p0), .val (.int p1), .val (.int p2), .val (.int f), .val (.int (((p2.toUInt32 >>> ((1 : Int32) &&& 31).toUInt32).toInt32) &&& (3 : Int32))), .val (.int ((own_max (-2147483648 : Int64) (own_min (2147483647 : Int64) ((f.toInt64) + ((p1 % (3 : Int32)).toInt64)))).toInt32)), .val (.long (own_max (-2147483648 : Int64) (own_min (2147483647 : Int64) ((f.toInt64) + ((p1 % (3 : Int32)).toInt64))))), .second] [(.int (0 : Int32))])) _
                  refine own_by (fun _ kt => XS.istore X27.here hx rfl (hb hby at_113) rfl (l' := #[.val (.int p0), .val (.int p1), .val (.int p2), .val (.int f), .val (.int (((p2.toUInt32 >>> ((1 : Int32) &&& 31).toUInt32).toInt32) &&& (3 : Int32))), .val (.int ((own_max (-2147483648 : Int64) (own_min (2147483647 : Int64) ((f.toInt64) + ((p1 % (3 : Int32)).toInt64)))).toInt32)), .val (.int (0 : Int32)), .unset]) rfl kt) ?_
                  show own_Go p.tables e below (T27.setTop (mkF m 115 #[.val (.int p0), .val (.int p1), .val (.int p2), .val (.int f), .val (.int (((p2.toUInt32 >>> ((1 : Int32) &&& 31).toUInt32).toInt32) &&& (3 : Int32))), .val (.int ((own_max (-2147483648 : Int64) (own_min (2147483647 : Int64) ((f.toInt64) + ((p1 % (3 : Int32)).toInt64)))).toInt32)), .val (.int (0 : Int32)), .unset] [])) _
                  refine own_by (fun _ kt => XS.iloadN X27.here hx rfl (hb hby at_115) rfl kt) ?_
                  show own_Go p.tables e below (T27.setTop (mkF m 116 #[.val (.int p0), .val (.int p1), .val (.int p2), .val (.int f), .val (.int (((p2.toUInt32 >>> ((1 : Int32) &&& 31).toUInt32).toInt32) &&& (3 : Int32))), .val (.int ((own_max (-2147483648 : Int64) (own_min (2147483647 : Int64) ((f.toInt64) + ((p1 % (3 : Int32)).toInt64)))).toInt32)), .val (.int (0 : Int32)), .unset] [(.int f)])) _
                  refine own_by (fun _ kt => XS.iload X27.here hx rfl (hb hby at_116) rfl kt) ?_
                  show own_Go p.tables e below (T27.setTop (mkF m 118 #[.val (.int p0), .val (.int p1), .val (.int p2), .val (.int f), .val (.int (((p2.toUInt32 >>> ((1 : Int32) &&& 31).toUInt32).toInt32) &&& (3 : Int32))), .val (.int ((own_max (-2147483648 : Int64) (own_min (2147483647 : Int64) ((f.toInt64) + ((p1 % (3 : Int32)).toInt64)))).toInt32)), .val (.int (0 : Int32)), .unset] [(.int ((own_max (-2147483648 : Int64) (own_min (2147483647 : Int64) ((f.toInt64) + ((p1 % (3 : Int32)).toInt64)))).toInt32)), (.int f)])) _
                  obtain ⟨_, _, ⟨T37, L37, k37, n37⟩, -, X37, ⟨Lc37, hQ37, l37, y37, z37⟩, st37⟩ := Jvm.LawKit.callS X27 hx (y := (⟨"com/example/cardstock/cardstock/Field", "onCard", "(II)Z"⟩ : MethodName)) hown (mvT hZ (hw _ (List.mem_of_getElem? (i := 0) rfl))) (mvT hZ (hw _ (List.mem_of_getElem? (i := 1) rfl))) (mvT hZ (hw _ (List.mem_of_getElem? (i := 2) rfl))) (mvT hZ (hw _ (List.mem_of_getElem? (i := 3) rfl))) (by decide) (backOf (W := 0) (rm_own_on l Z a0 hw [] f ((own_max (-2147483648 : Int64) (own_min (2147483647 : Int64) ((f.toInt64) + ((p1 % (3 : Int32)).toInt64)))).toInt32) h0 n0 Z0) hZ (hw _ (List.mem_of_getElem? (i := 3) rfl)) (hw _ (List.mem_of_getElem? (i := 2) rfl)) (by decide) (by decide)) (g := (mkF m 118 #[.val (.int p0), .val (.int p1), .val (.int p2), .val (.int f), .val (.int (((p2.toUInt32 >>> ((1 : Int32) &&& 31).toUInt32).toInt32) &&& (3 : Int32))), .val (.int ((own_max (-2147483648 : Int64) (own_min (2147483647 : Int64) ((f.toInt64) + ((p1 % (3 : Int32)).toInt64)))).toInt32)), .val (.int (0 : Int32)), .unset] [(.int ((own_max (-2147483648 : Int64) (own_min (2147483647 : Int64) ((f.toInt64) + ((p1 % (3 : Int32)).toInt64)))).toInt32)), (.int f)])) rfl (by rw [hml]; rfl) (argsL := [(.int f), (.int ((own_max (-2147483648 : Int64) (own_min (2147483647 : Int64) ((f.toInt64) + ((p1 % (3 : Int32)).toInt64)))).toInt32))]) (rest := []) (lenOf pd_0 rfl) rfl (by show 2 * 0 + _ ≤ _; exact Nat.le_of_eq rfl) (hb hby at_118) (fun _ _ => ⟨rfl, eh27, (by decide : 0 + 0 ≤ _), (by decide : 0 + 0 ≤ _)⟩)
                  dsimp only [Pt.U, Pt.locs, Pt.cells, Pt.slots] at X37 l37 y37 z37 st37 hQ37
                  subst l37 y37 z37
                  obtain ⟨rfl, Nq37, eh37⟩ := hQ37
                  have N37 := Fr.app N27 Nq37
                  refine own_by (st37) ?_
                  show own_Go p.tables e below (T37.setTop (mkF m 121 #[.val (.int p0), .val (.int p1), .val (.int p2), .val (.int f), .val (.int (((p2.toUInt32 >>> ((1 : Int32) &&& 31).toUInt32).toInt32) &&& (3 : Int32))), .val (.int ((own_max (-2147483648 : Int64) (own_min (2147483647 : Int64) ((f.toInt64) + ((p1 % (3 : Int32)).toInt64)))).toInt32)), .val (.int (0 : Int32)), .unset] [(.int (own_on f ((own_max (-2147483648 : Int64) (own_min (2147483647 : Int64) ((f.toInt64) + ((p1 % (3 : Int32)).toInt64)))).toInt32)))])) _
                  refine own_by (fun _ kt => XS.iload X37.here hx rfl (hb hby at_121) rfl kt) ?_
                  show own_Go p.tables e below (T37.setTop (mkF m 123 #[.val (.int p0), .val (.int p1), .val (.int p2), .val (.int f), .val (.int (((p2.toUInt32 >>> ((1 : Int32) &&& 31).toUInt32).toInt32) &&& (3 : Int32))), .val (.int ((own_max (-2147483648 : Int64) (own_min (2147483647 : Int64) ((f.toInt64) + ((p1 % (3 : Int32)).toInt64)))).toInt32)), .val (.int (0 : Int32)), .unset] [(.int (0 : Int32)), (.int (own_on f ((own_max (-2147483648 : Int64) (own_min (2147483647 : Int64) ((f.toInt64) + ((p1 % (3 : Int32)).toInt64)))).toInt32)))])) _
                  refine own_by (fun _ kt => XS.icmpNo X37.here hx rfl (hb hby at_123) rfl (teq (own_k0 _ _ (Or.inr (Or.inr (Or.inr (Or.inr (hc105_36))))) : (own_on f ((own_max (-2147483648 : Int64) (own_min (2147483647 : Int64) ((f.toInt64) + ((p1 % (3 : Int32)).toInt64)))).toInt32)) = (0 : Int32))).2 kt) ?_
                  show own_Go p.tables e below (T37.setTop (mkF m 126 #[.val (.int p0), .val (.int p1), .val (.int p2), .val (.int f), .val (.int (((p2.toUInt32 >>> ((1 : Int32) &&& 31).toUInt32).toInt32) &&& (3 : Int32))), .val (.int ((own_max (-2147483648 : Int64) (own_min (2147483647 : Int64) ((f.toInt64) + ((p1 % (3 : Int32)).toInt64)))).toInt32)), .val (.int (0 : Int32)), .unset] [])) _
                  refine own_by (fun _ kt => XS.iconst X37.here hx rfl (hb hby at_126) kt) ?_
                  show own_Go p.tables e below (T37.setTop (mkF m 127 #[.val (.int p0), .val (.int p1), .val (.int p2), .val (.int f), .val (.int (((p2.toUInt32 >>> ((1 : Int32) &&& 31).toUInt32).toInt32) &&& (3 : Int32))), .val (.int ((own_max (-2147483648 : Int64) (own_min (2147483647 : Int64) ((f.toInt64) + ((p1 % (3 : Int32)).toInt64)))).toInt32)), .val (.int (0 : Int32)), .unset] [(.int (1 : Int32))])) _
                  refine own_by (fun _ kt => XS.goto X37.here hx rfl (pc0 := 127) (pc' := 131) rfl (hb hby at_127) (by decide) (by decide) kt) ?_
                  show own_Go p.tables e below (T37.setTop (mkF m 131 #[.val (.int p0), .val (.int p1), .val (.int p2), .val (.int f), .val (.int (((p2.toUInt32 >>> ((1 : Int32) &&& 31).toUInt32).toInt32) &&& (3 : Int32))), .val (.int ((own_max (-2147483648 : Int64) (own_min (2147483647 : Int64) ((f.toInt64) + ((p1 % (3 : Int32)).toInt64)))).toInt32)), .val (.int (0 : Int32)), .unset] [(.int (1 : Int32))])) _
                  exact own_retN X37 hx (t := .boolean) Bd.returns hlk (by simp) (hb hby at_131) ⟨rfl, N37⟩ (by decide) (by decide)
                · refine own_by (fun _ kt => XS.icmpNo X27.here hx rfl (hb hby at_105) rfl (flt hc105_36).2.2.1 kt) ?_
                  show own_Go p.tables e below (T27.setTop (mkF m 108 #[.val (.int p0), .val (.int p1), .val (.int p2), .val (.int f), .val (.int (((p2.toUInt32 >>> ((1 : Int32) &&& 31).toUInt32).toInt32) &&& (3 : Int32))), .val (.int ((own_max (-2147483648 : Int64) (own_min (2147483647 : Int64) ((f.toInt64) + ((p1 % (3 : Int32)).toInt64)))).toInt32)), .val (.long (own_max (-2147483648 : Int64) (own_min (2147483647 : Int64) ((f.toInt64) + ((p1 % (3 : Int32)).toInt64))))), .second] [])) _
                  refine own_by (fun _ kt => XS.iconst X27.here hx rfl (hb hby at_108) kt) ?_
                  show own_Go p.tables e below (T27.setTop (mkF m 109 #[.val (.int p0), .val (.int p1), .val (.int p2), .val (.int f), .val (.int (((p2.toUInt32 >>> ((1 : Int32) &&& 31).toUInt32).toInt32) &&& (3 : Int32))), .val (.int ((own_max (-2147483648 : Int64) (own_min (2147483647 : Int64) ((f.toInt64) + ((p1 % (3 : Int32)).toInt64)))).toInt32)), .val (.long (own_max (-2147483648 : Int64) (own_min (2147483647 : Int64) ((f.toInt64) + ((p1 % (3 : Int32)).toInt64))))), .second] [(.int (1 : Int32))])) _
                  refine own_by (fun _ kt => XS.goto X27.here hx rfl (pc0 := 109) (pc' := 113) rfl (hb hby at_109) (by decide) (by decide) kt) ?_
                  show own_Go p.tables e below (T27.setTop (mkF m 113 #[.val (.int p0), .val (.int p1), .val (.int p2), .val (.int f), .val (.int (((p2.toUInt32 >>> ((1 : Int32) &&& 31).toUInt32).toInt32) &&& (3 : Int32))), .val (.int ((own_max (-2147483648 : Int64) (own_min (2147483647 : Int64) ((f.toInt64) + ((p1 % (3 : Int32)).toInt64)))).toInt32)), .val (.long (own_max (-2147483648 : Int64) (own_min (2147483647 : Int64) ((f.toInt64) + ((p1 % (3 : Int32)).toInt64))))), .second] [(.int (1 : Int32))])) _
                  refine own_by (fun _ kt => XS.istore X27.here hx rfl (hb hby at_113) rfl (l' := #[.val (.int p0), .val (.int p1), .val (.int p2), .val (.int f), .val (.int (((p2.toUInt32 >>> ((1 : Int32) &&& 31).toUInt32).toInt32) &&& (3 : Int32))), .val (.int ((own_max (-2147483648 : Int64) (own_min (2147483647 : Int64) ((f.toInt64) + ((p1 % (3 : Int32)).toInt64)))).toInt32)), .val (.int (1 : Int32)), .unset]) rfl kt) ?_
                  show own_Go p.tables e below (T27.setTop (mkF m 115 #[.val (.int p0), .val (.int p1), .val (.int p2), .val (.int f), .val (.int (((p2.toUInt32 >>> ((1 : Int32) &&& 31).toUInt32).toInt32) &&& (3 : Int32))), .val (.int ((own_max (-2147483648 : Int64) (own_min (2147483647 : Int64) ((f.toInt64) + ((p1 % (3 : Int32)).toInt64)))).toInt32)), .val (.int (1 : Int32)), .unset] [])) _
                  refine own_by (fun _ kt => XS.iloadN X27.here hx rfl (hb hby at_115) rfl kt) ?_
                  show own_Go p.tables e below (T27.setTop (mkF m 116 #[.val (.int p0), .val (.int p1), .val (.int p2), .val (.int f), .val (.int (((p2.toUInt32 >>> ((1 : Int32) &&& 31).toUInt32).toInt32) &&& (3 : Int32))), .val (.int ((own_max (-2147483648 : Int64) (own_min (2147483647 : Int64) ((f.toInt64) + ((p1 % (3 : Int32)).toInt64)))).toInt32)), .val (.int (1 : Int32)), .unset] [(.int f)])) _
                  refine own_by (fun _ kt => XS.iload X27.here hx rfl (hb hby at_116) rfl kt) ?_
                  show own_Go p.tables e below (T27.setTop (mkF m 118 #[.val (.int p0), .val (.int p1), .val (.int p2), .val (.int f), .val (.int (((p2.toUInt32 >>> ((1 : Int32) &&& 31).toUInt32).toInt32) &&& (3 : Int32))), .val (.int ((own_max (-2147483648 : Int64) (own_min (2147483647 : Int64) ((f.toInt64) + ((p1 % (3 : Int32)).toInt64)))).toInt32)), .val (.int (1 : Int32)), .unset] [(.int ((own_max (-2147483648 : Int64) (own_min (2147483647 : Int64) ((f.toInt64) + ((p1 % (3 : Int32)).toInt64)))).toInt32)), (.int f)])) _
                  obtain ⟨_, _, ⟨T38, L38, k38, n38⟩, -, X38, ⟨Lc38, hQ38, l38, y38, z38⟩, st38⟩ := Jvm.LawKit.callS X27 hx (y := (⟨"com/example/cardstock/cardstock/Field", "onCard", "(II)Z"⟩ : MethodName)) hown (mvT hZ (hw _ (List.mem_of_getElem? (i := 0) rfl))) (mvT hZ (hw _ (List.mem_of_getElem? (i := 1) rfl))) (mvT hZ (hw _ (List.mem_of_getElem? (i := 2) rfl))) (mvT hZ (hw _ (List.mem_of_getElem? (i := 3) rfl))) (by decide) (backOf (W := 0) (rm_own_on l Z a0 hw [] f ((own_max (-2147483648 : Int64) (own_min (2147483647 : Int64) ((f.toInt64) + ((p1 % (3 : Int32)).toInt64)))).toInt32) h0 n0 Z0) hZ (hw _ (List.mem_of_getElem? (i := 3) rfl)) (hw _ (List.mem_of_getElem? (i := 2) rfl)) (by decide) (by decide)) (g := (mkF m 118 #[.val (.int p0), .val (.int p1), .val (.int p2), .val (.int f), .val (.int (((p2.toUInt32 >>> ((1 : Int32) &&& 31).toUInt32).toInt32) &&& (3 : Int32))), .val (.int ((own_max (-2147483648 : Int64) (own_min (2147483647 : Int64) ((f.toInt64) + ((p1 % (3 : Int32)).toInt64)))).toInt32)), .val (.int (1 : Int32)), .unset] [(.int ((own_max (-2147483648 : Int64) (own_min (2147483647 : Int64) ((f.toInt64) + ((p1 % (3 : Int32)).toInt64)))).toInt32)), (.int f)])) rfl (by rw [hml]; rfl) (argsL := [(.int f), (.int ((own_max (-2147483648 : Int64) (own_min (2147483647 : Int64) ((f.toInt64) + ((p1 % (3 : Int32)).toInt64)))).toInt32))]) (rest := []) (lenOf pd_0 rfl) rfl (by show 2 * 0 + _ ≤ _; exact Nat.le_of_eq rfl) (hb hby at_118) (fun _ _ => ⟨rfl, eh27, (by decide : 0 + 0 ≤ _), (by decide : 0 + 0 ≤ _)⟩)
                  dsimp only [Pt.U, Pt.locs, Pt.cells, Pt.slots] at X38 l38 y38 z38 st38 hQ38
                  subst l38 y38 z38
                  obtain ⟨rfl, Nq38, eh38⟩ := hQ38
                  have N38 := Fr.app N27 Nq38
                  refine own_by (st38) ?_
                  show own_Go p.tables e below (T38.setTop (mkF m 121 #[.val (.int p0), .val (.int p1), .val (.int p2), .val (.int f), .val (.int (((p2.toUInt32 >>> ((1 : Int32) &&& 31).toUInt32).toInt32) &&& (3 : Int32))), .val (.int ((own_max (-2147483648 : Int64) (own_min (2147483647 : Int64) ((f.toInt64) + ((p1 % (3 : Int32)).toInt64)))).toInt32)), .val (.int (1 : Int32)), .unset] [(.int (own_on f ((own_max (-2147483648 : Int64) (own_min (2147483647 : Int64) ((f.toInt64) + ((p1 % (3 : Int32)).toInt64)))).toInt32)))])) _
                  refine own_by (fun _ kt => XS.iload X38.here hx rfl (hb hby at_121) rfl kt) ?_
                  show own_Go p.tables e below (T38.setTop (mkF m 123 #[.val (.int p0), .val (.int p1), .val (.int p2), .val (.int f), .val (.int (((p2.toUInt32 >>> ((1 : Int32) &&& 31).toUInt32).toInt32) &&& (3 : Int32))), .val (.int ((own_max (-2147483648 : Int64) (own_min (2147483647 : Int64) ((f.toInt64) + ((p1 % (3 : Int32)).toInt64)))).toInt32)), .val (.int (1 : Int32)), .unset] [(.int (1 : Int32)), (.int (own_on f ((own_max (-2147483648 : Int64) (own_min (2147483647 : Int64) ((f.toInt64) + ((p1 % (3 : Int32)).toInt64)))).toInt32)))])) _
                  refine own_by (fun _ kt => XS.icmpNo X38.here hx rfl (hb hby at_123) rfl (teq (own_k1 _ _ hc80_28 hc105_36 hc99_34 : (own_on f ((own_max (-2147483648 : Int64) (own_min (2147483647 : Int64) ((f.toInt64) + ((p1 % (3 : Int32)).toInt64)))).toInt32)) = (1 : Int32))).2 kt) ?_
                  show own_Go p.tables e below (T38.setTop (mkF m 126 #[.val (.int p0), .val (.int p1), .val (.int p2), .val (.int f), .val (.int (((p2.toUInt32 >>> ((1 : Int32) &&& 31).toUInt32).toInt32) &&& (3 : Int32))), .val (.int ((own_max (-2147483648 : Int64) (own_min (2147483647 : Int64) ((f.toInt64) + ((p1 % (3 : Int32)).toInt64)))).toInt32)), .val (.int (1 : Int32)), .unset] [])) _
                  refine own_by (fun _ kt => XS.iconst X38.here hx rfl (hb hby at_126) kt) ?_
                  show own_Go p.tables e below (T38.setTop (mkF m 127 #[.val (.int p0), .val (.int p1), .val (.int p2), .val (.int f), .val (.int (((p2.toUInt32 >>> ((1 : Int32) &&& 31).toUInt32).toInt32) &&& (3 : Int32))), .val (.int ((own_max (-2147483648 : Int64) (own_min (2147483647 : Int64) ((f.toInt64) + ((p1 % (3 : Int32)).toInt64)))).toInt32)), .val (.int (1 : Int32)), .unset] [(.int (1 : Int32))])) _
                  refine own_by (fun _ kt => XS.goto X38.here hx rfl (pc0 := 127) (pc' := 131) rfl (hb hby at_127) (by decide) (by decide) kt) ?_
                  show own_Go p.tables e below (T38.setTop (mkF m 131 #[.val (.int p0), .val (.int p1), .val (.int p2), .val (.int f), .val (.int (((p2.toUInt32 >>> ((1 : Int32) &&& 31).toUInt32).toInt32) &&& (3 : Int32))), .val (.int ((own_max (-2147483648 : Int64) (own_min (2147483647 : Int64) ((f.toInt64) + ((p1 % (3 : Int32)).toInt64)))).toInt32)), .val (.int (1 : Int32)), .unset] [(.int (1 : Int32))])) _
                  exact own_retN X38 hx (t := .boolean) Bd.returns hlk (by simp) (hb hby at_131) ⟨rfl, N38⟩ (by decide) (by decide)
  by_cases hc3_39 : (p2 &&& (1 : Int32)) = (0 : Int32)
  · refine own_by (fun _ kt => XS.ifYes X0.here hx rfl (pc0 := 3) (pc' := 10) rfl (hb hby at_3) rfl ((if0 _ _).trans (teq hc3_39).1) (by decide) (by decide) kt) ?_
    show own_Go p.tables e below (s₁.setTop (mkF m 10 #[.val (.int p0), .val (.int p1), .val (.int p2), .unset, .unset, .unset, .unset, .unset] [])) _
    refine own_by (fun _ kt => XS.iloadN X0.here hx rfl (hb hby at_10) rfl kt) ?_
    show own_Go p.tables e below (s₁.setTop (mkF m 11 #[.val (.int p0), .val (.int p1), .val (.int p2), .unset, .unset, .unset, .unset, .unset] [(.int p0)])) _
    refine own_by (fun _ kt => XS.bipush X0.here hx rfl (hb hby at_11) kt) ?_
    show own_Go p.tables e below (s₁.setTop (mkF m 13 #[.val (.int p0), .val (.int p1), .val (.int p2), .unset, .unset, .unset, .unset, .unset] [(.int (84 : Int32)), (.int p0)])) _
    refine own_by (fun _ kt => iremM X0 hx rfl (hb hby at_13) rfl (by decide) kt) ?_
    show own_Go p.tables e below (s₁.setTop (mkF m 14 #[.val (.int p0), .val (.int p1), .val (.int p2), .unset, .unset, .unset, .unset, .unset] [(.int (p0 % (84 : Int32)))])) _
    exact J1 ((p0 % (84 : Int32)))
  · refine own_by (fun _ kt => XS.ifNo X0.here hx rfl (hb hby at_3) rfl ((if0 _ _).trans (feq hc3_39).1) kt) ?_
    show own_Go p.tables e below (s₁.setTop (mkF m 6 #[.val (.int p0), .val (.int p1), .val (.int p2), .unset, .unset, .unset, .unset, .unset] [])) _
    refine own_by (fun _ kt => XS.iloadN X0.here hx rfl (hb hby at_6) rfl kt) ?_
    show own_Go p.tables e below (s₁.setTop (mkF m 7 #[.val (.int p0), .val (.int p1), .val (.int p2), .unset, .unset, .unset, .unset, .unset] [(.int p0)])) _
    refine own_by (fun _ kt => XS.goto X0.here hx rfl (pc0 := 7) (pc' := 14) rfl (hb hby at_7) (by decide) (by decide) kt) ?_
    show own_Go p.tables e below (s₁.setTop (mkF m 14 #[.val (.int p0), .val (.int p1), .val (.int p2), .unset, .unset, .unset, .unset, .unset] [(.int p0)])) _
    exact J1 (p0)
set_option maxRecDepth 65536 in
set_option maxHeartbeats 40000000 in
theorem comes_1 {Post : Tables → Env → Array Value → State → Outcome → State → Prop} (hpost : ∀ tb e args s v u, (limb_1_1.after args s (.returned v) u = true ∧ limb_1_2.after args s (.returned v) u = true ∧ True) → FrameEnd s (.returned v) u (Jvm.fieldLocs frame_1_writes args s ++ Jvm.arrayLocs frame_1_arrays args s ++ Jvm.staticLocs frame_1_statics s) 0 0 → Post tb e args s (.returned v) u) :
    ArmFor flags0 classFile x code maxLocals ret World_1 tables_1 room_1 Calls_1 rest_1 Pre_1 Post := by
  intro l hfl _ _ p e ha hc hk s m args below hf hA hF happ hP
  obtain ⟨hcalls, hrest, hpre⟩ := hP
  obtain ⟨-, -, -, hnamed, -, -, -, hat⟩ := (Spec.applies_iff hf).mp happ
  obtain ⟨hg, hn⟩ := and_e (Cond.before_iff.mp (show (Jvm.Cond.and given_1 narrow_1).before args s = true from hpre))
  obtain ⟨hcnt, g0⟩ := and_e hg
  obtain ⟨i0, g1⟩ := and_e g0
  obtain ⟨i1, g2⟩ := and_e g1
  obtain ⟨w0, w1, w2, rfl⟩ : ∃ w0 w1 w2 : Value, args = #[w0, w1, w2] := by
    have hs : args.size = 3 := by simpa [Cond.value, given_1] using hcnt
    obtain ⟨L⟩ := args
    match L, hs with
    | [w0, w1, w2], _ => exact ⟨w0, w1, w2, rfl⟩
  have hw := fun d (hd : d ∈ tables_1) => atoms_spec (ws := Jvm.Cond.code x code maxLocals ret :: tables_1) hat d (List.mem_cons_of_mem _ hd)
  obtain ⟨v0, ev0⟩ := is_v i0
  obtain rfl : w0 = (.int v0) := Option.some.inj ev0
  obtain ⟨v1, ev1⟩ := is_v i1
  obtain rfl : w1 = (.int v1) := Option.some.inj ev1
  obtain ⟨v2, ev2⟩ := is_v g2
  obtain rfl : w2 = (.int v2) := Option.some.inj ev2
  obtain ⟨n, o, h1, h2, h3, _, L, rfl, ⟨rfl, N⟩, hq⟩ := rm_law l s _ hw tables_1 v0 v1 v2  s.heap s.heap.size (Nat.le_refl _)  p e ha hc hk s m _ below hf ((Spec.applies_iff_loose hf).mp happ).1 ⟨rfl, State.Warmed39.refl s, rfl⟩ trivial
  refine ⟨n, _, h1, h2, h3, hpost _ _ _ _ _ _ ⟨Cond.after_iff.mpr rfl, Cond.after_iff.mpr (eq_i res_at (Term.int_eval (1)) rfl), trivial⟩ ⟨hq.1, hq.2.1, (hq.2.2.sift fun y hy => Or.inr (N y hy)).mono (by decide) (by decide)⟩⟩
theorem main_1_1 : Claimed_1_1 := comes_1 fun _ _ _ _ _ _ h hF => ⟨h.1, hF⟩
theorem main_1_2 : Claimed_1_2 := comes_1 fun _ _ _ _ _ _ h hF => ⟨h.2.1, hF⟩
end Jvm.Pilot.@@N@@
namespace Jvm.Pilot.@@N@@
open Jvm Jvm.ClassFile Sem Op Lib Jvm.Free Jvm.Stand Jvm.Pilot.@@N@@.Jvm.D
/-! MADE BY PROGRAM (witnessworld.py) out of the Statement's table words and the real class files: 11 classes; the members and pool entries that the words name. The judged class is class 1, her method 1. -/
namespace start1
open Jvm.ClassFile
def u (s : String) : CpInfo := .utf8 (stringToUtf16 s)
/-- a pool by its gaps: so many unusable entries, then the entry; so many at the end -/
def gap : Nat → List CpInfo → List CpInfo
  | 0, r => r
  | n + 1, r => .unusable :: gap n r
def poolList (es : List (Nat × CpInfo)) (last : Nat) : List CpInfo := es.foldr (fun e r => gap e.1 (e.2 :: r)) (gap last [])
def pool (es : List (Nat × CpInfo)) (last : Nat) : Array CpInfo := ⟨poolList es last⟩
def fileOf (pool : Array CpInfo) (this : Nat) (attrs : Array Attribute := #[]) (ms : Array MethodInfo := #[]) (fl : Nat := 33) (sup : Nat := 0) (ifs : Array Nat := #[]) (fds : Array FieldInfo := #[]) : ClassFile where
  minorVersion := 0
  majorVersion := 65
  constantPool := pool
  accessFlags := fl
  thisClass := this
  superClass := sup
  interfaces := ifs
  fields := fds
  methods := ms
  attributes := attrs
def plain (name : String) (sup : Option ClassId) : Class where
  name := name
  kind := .ordinary
  loader := none
  accessFlags := 33
  super := sup
  interfaces := #[]
  cf := none
  fields := #[]
  methods := #[]
  instanceTypes := #[]
  staticTypes := #[]
  resolved := #[]
  callSites := []
  init := .initialized
  statics := none
  mirror := none

def pool0 : Array CpInfo := pool [(5, u "<init>"), (0, u "()V"), (1, .class_ 10), (1, u "java/lang/Object")] 113

def k0m0 : Method := { name := "<init>", desc := "()V", sig := { parameters := [], returnType := none }, accessFlags := 1, code := none }
/-- java/lang/Object -/
def k0 : Class := { plain "java/lang/Object" none with
  accessFlags := 33
  interfaces := #[]
  cf := some (fileOf pool0 8 #[] #[{ accessFlags := 1, nameIndex := 5, descriptorIndex := 6, attributes := #[] }] 33 0 #[] #[])
  fields := #[]
  methods := #[k0m0]
  instanceTypes := #[]
  staticTypes := #[]
  resolved := Array.replicate 124 none
  statics := none }

def pool1 : Array CpInfo := pool [(2, .class_ 4), (1, u "java/lang/Object"), (0, u "<init>"), (0, u "()V"), (2, .long 18446744071562067968), (1, .long 2147483647), (1, .methodref 14 15), (0, .class_ 16), (0, .nameAndType 17 18), (0, u "java/lang/Math"), (0, u "min"), (0, u "(JJ)J"), (0, .methodref 14 20), (0, .nameAndType 21 18), (0, u "max"), (0, .methodref 23 24), (0, .class_ 25), (0, .nameAndType 26 27), (0, u "com/example/cardstock/cardstock/Field"), (0, u "onCard"), (0, u "(II)Z"), (0, .class_ 29), (0, u "com/example/cardstock/cardstock/FieldOnCardPinLaw"), (2, u "law"), (0, u "(III)Z")] 3

def k1m0 : Method := { name := "<init>", desc := "()V", sig := { parameters := [], returnType := none }, accessFlags := 2, code := none }
def k1c1 : Code := { maxStack := 6, maxLocals := 8, code := code, exceptionTable := #[], attributes := #[] }
def k1m1 : Method := { name := "law", desc := "(III)Z", sig := { parameters := [.int, .int, .int], returnType := some .boolean }, accessFlags := 9, code := some k1c1 }
/-- com/example/cardstock/cardstock/FieldOnCardPinLaw -/
def k1 : Class := { plain "com/example/cardstock/cardstock/FieldOnCardPinLaw" (some 0) with
  accessFlags := 49
  interfaces := #[]
  cf := some (fileOf pool1 28 #[] #[{ accessFlags := 2, nameIndex := 5, descriptorIndex := 6, attributes := #[] }, { accessFlags := 9, nameIndex := 32, descriptorIndex := 33, attributes := #[] }] 49 2 #[] #[])
  fields := #[]
  methods := #[k1m0, k1m1]
  instanceTypes := #[]
  staticTypes := #[]
  resolved := Array.replicate 37 none
  statics := none }

def pool2 : Array CpInfo := pool [(2, .class_ 4), (1, u "java/lang/Object"), (0, u "<init>"), (0, u "()V"), (0, .class_ 8), (0, u "java/lang/Record")] 13

def k2m0 : Method := { name := "<init>", desc := "()V", sig := { parameters := [], returnType := none }, accessFlags := 4, code := none }
/-- java/lang/Record -/
def k2 : Class := { plain "java/lang/Record" (some 0) with
  accessFlags := 1057
  interfaces := #[]
  cf := some (fileOf pool2 7 #[] #[{ accessFlags := 4, nameIndex := 5, descriptorIndex := 6, attributes := #[] }] 1057 2 #[] #[])
  fields := #[]
  methods := #[k2m0]
  instanceTypes := #[]
  staticTypes := #[]
  resolved := Array.replicate 22 none
  statics := none }

def pool3 : Array CpInfo := pool [(1, .class_ 2), (0, u "java/io/Serializable"), (0, .class_ 4), (0, u "java/lang/Object")] 2

/-- java/io/Serializable -/
def k3 : Class := { plain "java/io/Serializable" (some 0) with
  accessFlags := 1537
  interfaces := #[]
  cf := some (fileOf pool3 1 #[] #[] 1537 3 #[] #[])
  fields := #[]
  methods := #[]
  instanceTypes := #[]
  staticTypes := #[]
  resolved := Array.replicate 7 none
  statics := none }

def pool4 : Array CpInfo := pool [(2, .class_ 4), (1, u "java/lang/Record"), (3, .class_ 10), (1, u "com/example/cardstock/cardstock/Field"), (0, u "onCard"), (0, u "(II)Z"), (11, u "key"), (0, u "Ljava/lang/String;"), (2, u "from"), (0, u "I"), (2, u "to"), (52, .class_ 86), (0, u "java/io/Serializable")] 42

def k4c0 : Code := { maxStack := 2, maxLocals := 2, code := prog_34_method_2_code, exceptionTable := #[], attributes := #[] }
def k4m0 : Method := { name := "onCard", desc := "(II)Z", sig := { parameters := [.int, .int], returnType := some .boolean }, accessFlags := 8, code := some k4c0 }
/-- com/example/cardstock/cardstock/Field -/
def k4 : Class := { plain "com/example/cardstock/cardstock/Field" (some 2) with
  accessFlags := 49
  interfaces := #[3]
  cf := some (fileOf pool4 8 #[] #[{ accessFlags := 8, nameIndex := 11, descriptorIndex := 12, attributes := #[] }] 49 2 #[85] #[{ accessFlags := 18, nameIndex := 24, descriptorIndex := 25, attributes := #[] }, { accessFlags := 18, nameIndex := 28, descriptorIndex := 29, attributes := #[] }, { accessFlags := 18, nameIndex := 32, descriptorIndex := 29, attributes := #[] }])
  fields := #[{ name := "key", type := (.object "java/lang/String"), accessFlags := 18, slot := 0, constantValue := 0 }, { name := "from", type := .int, accessFlags := 18, slot := 1, constantValue := 0 }, { name := "to", type := .int, accessFlags := 18, slot := 2, constantValue := 0 }]
  methods := #[k4m0]
  instanceTypes := #[(.object "java/lang/String"), .int, .int]
  staticTypes := #[]
  resolved := Array.replicate 129 none
  statics := none }

def pool5 : Array CpInfo := pool [(1, .class_ 2), (0, u "java/lang/Math"), (1, .class_ 6), (1, u "java/lang/Object"), (0, u "<init>"), (0, u "()V"), (89, .class_ 100), (1, u "java/lang/Math$RandomNumberGeneratorHolder"), (20, u "(JJ)J"), (50, u "negativeZeroFloatBits"), (0, u "J"), (2, u "negativeZeroDoubleBits"), (21, u "max"), (2, u "min"), (43, u "$assertionsDisabled"), (0, u "Z"), (91, u "twoToTheDoubleScaleDown"), (0, u "D"), (4, u "twoToTheDoubleScaleUp"), (9, u "E"), (3, u "PI"), (2, u "TAU"), (2, u "DEGREES_TO_RADIANS"), (0, u "RADIANS_TO_DEGREES")] 94

def k5m0 : Method := { name := "<init>", desc := "()V", sig := { parameters := [], returnType := none }, accessFlags := 2, code := none }
def k5c1 : Code := { maxStack := 4, maxLocals := 4, code := jdk_29_method_66_code, exceptionTable := #[], attributes := #[] }
def k5m1 : Method := { name := "max", desc := "(JJ)J", sig := { parameters := [.long, .long], returnType := some .long }, accessFlags := 9, code := some k5c1 }
def k5c2 : Code := { maxStack := 4, maxLocals := 4, code := jdk_29_method_70_code, exceptionTable := #[], attributes := #[] }
def k5m2 : Method := { name := "min", desc := "(JJ)J", sig := { parameters := [.long, .long], returnType := some .long }, accessFlags := 9, code := some k5c2 }
/-- java/lang/Math -/
def k5 : Class := { plain "java/lang/Math" (some 0) with
  accessFlags := 49
  interfaces := #[]
  cf := some (fileOf pool5 1 #[.nestMembers #[98]] #[{ accessFlags := 2, nameIndex := 7, descriptorIndex := 8, attributes := #[] }, { accessFlags := 9, nameIndex := 198, descriptorIndex := 121, attributes := #[] }, { accessFlags := 9, nameIndex := 201, descriptorIndex := 121, attributes := #[] }] 49 4 #[] #[{ accessFlags := 25, nameIndex := 354, descriptorIndex := 339, attributes := #[] }, { accessFlags := 25, nameIndex := 358, descriptorIndex := 339, attributes := #[] }, { accessFlags := 25, nameIndex := 361, descriptorIndex := 339, attributes := #[] }, { accessFlags := 26, nameIndex := 364, descriptorIndex := 339, attributes := #[] }, { accessFlags := 26, nameIndex := 365, descriptorIndex := 339, attributes := #[] }, { accessFlags := 26, nameIndex := 172, descriptorIndex := 173, attributes := #[] }, { accessFlags := 26, nameIndex := 176, descriptorIndex := 173, attributes := #[] }, { accessFlags := 8, nameIndex := 344, descriptorIndex := 339, attributes := #[] }, { accessFlags := 8, nameIndex := 338, descriptorIndex := 339, attributes := #[] }, { accessFlags := 4120, nameIndex := 245, descriptorIndex := 246, attributes := #[] }])
  fields := #[{ name := "E", type := .double, accessFlags := 25, slot := 0, constantValue := 0 }, { name := "PI", type := .double, accessFlags := 25, slot := 1, constantValue := 0 }, { name := "TAU", type := .double, accessFlags := 25, slot := 2, constantValue := 0 }, { name := "DEGREES_TO_RADIANS", type := .double, accessFlags := 26, slot := 3, constantValue := 0 }, { name := "RADIANS_TO_DEGREES", type := .double, accessFlags := 26, slot := 4, constantValue := 0 }, { name := "negativeZeroFloatBits", type := .long, accessFlags := 26, slot := 5, constantValue := 0 }, { name := "negativeZeroDoubleBits", type := .long, accessFlags := 26, slot := 6, constantValue := 0 }, { name := "twoToTheDoubleScaleUp", type := .double, accessFlags := 8, slot := 7, constantValue := 0 }, { name := "twoToTheDoubleScaleDown", type := .double, accessFlags := 8, slot := 8, constantValue := 0 }, { name := "$assertionsDisabled", type := .boolean, accessFlags := 4120, slot := 9, constantValue := 0 }]
  methods := #[k5m0, k5m1, k5m2]
  instanceTypes := #[]
  staticTypes := #[.double, .double, .double, .double, .double, .long, .long, .double, .double, .boolean]
  resolved := Array.replicate 460 none
  statics := none }

def pool6 : Array CpInfo := pool [(1, u "java/lang/Cloneable"), (0, .class_ 1), (0, u "java/lang/Object"), (0, .class_ 3)] 3

/-- java/lang/Cloneable -/
def k6 : Class := { plain "java/lang/Cloneable" (some 0) with
  accessFlags := 1537
  interfaces := #[]
  cf := some (fileOf pool6 2 #[] #[] 1537 4 #[] #[])
  fields := #[]
  methods := #[]
  instanceTypes := #[]
  staticTypes := #[]
  resolved := Array.replicate 8 none
  statics := none }

/-- the primitive byte -/
def k7 : Class := { plain "byte" none with kind := .primitive 'B', accessFlags := 0x411 }
/-- [B -/
def k8 : Class := { plain "[B" (some 0) with kind := .array 7 .byte, interfaces := #[6, 3], accessFlags := 1041 }

/-- the primitive int -/
def k9 : Class := { plain "int" none with kind := .primitive 'I', accessFlags := 0x411 }
/-- [I -/
def k10 : Class := { plain "[I" (some 0) with kind := .array 9 .int, interfaces := #[6, 3], accessFlags := 1041 }

def heap : Heap := #[]
def classes : Array Class := #[k0, k1, k2, k3, k4, k5, k6, k7, k8, k9, k10]
def interned : List (Array UInt16 × Addr) := []
def slotsUsed : Nat := 0
def theMethod : MethodId := ⟨1, 1⟩
def args0 : Array Value := #[.int 3, .int 4, .int 5]
def aboutOver (below : List Frame) : State where
  vm := { classes := classes, interned := interned.toArray }
  heap := heap
  slotsUsed := slotsUsed
  threads := #[{ frames := .invoking theMethod args0 :: below }]
def below0 : List Frame := [.native { method := ⟨0, 0⟩, args := #[] }]
def about1 : State := aboutOver below0
def p0 : Program := .bare "" "" ""
def e0 : Env := launch0.env 0 0 0
theorem w_frames : about1.frames = Frame.invoking theMethod args0 :: below0 := rfl
set_option maxRecDepth 65536 in
theorem w_args : argsFit about1.vm theMethod args0 = true := by decide +kernel
set_option maxRecDepth 65536 in
theorem w_heap : heapFits about1 = true := by decide +kernel
set_option maxRecDepth 65536 in
theorem w_runnable : about1.curStatus? = some .runnable := by decide +kernel
set_option maxRecDepth 65536 in
theorem w_alone : about1.alone = true := by decide +kernel
set_option maxRecDepth 65536 in
theorem w_named : about1.methodNamed? x = some theMethod := by decide +kernel
set_option maxRecDepth 65536 in
theorem w_hears : about1.hears theMethod below0 = true := by decide +kernel
set_option maxRecDepth 65536 in
theorem w_ripe : about1.ripe theMethod args0 below0 = true := by decide +kernel
theorem w_running : about1.status = .running := rfl
set_option maxRecDepth 65536 in
theorem w_room : about1.hasRoom e0.platform room_1 = true :=
  launch0.hasRoom_least _ room_1 (by decide +kernel) (by decide +kernel) (by decide +kernel) (by decide +kernel) (by decide +kernel) (by decide +kernel)
theorem allAtoms_all (ts : List Jvm.Cond) (a : Array Jvm.Value) (st : Jvm.State) : (allAtoms ts).before a st = ts.all (fun c => c.before a st) := by
  induction ts with
  | nil => rfl
  | cons c t ih =>
    show (Jvm.Cond.and c (allAtoms t)).before a st = _
    rw [Jvm.Cond.before_and, ih, List.all_cons]
def words1 : List Jvm.Cond := Jvm.Cond.code x code maxLocals ret :: tables_1
/-- a 'code' word, met by the world's own term for the bytes: nothing is compared byte by byte -/
theorem code_word {y : MethodName} {bytes : ByteArray} {mx : Nat} {rt : Option FieldType} {a : Array Value} {s : State} {m : MethodId} {meth : Method} {c : Code} (h1 : s.methodNamed? y = some m) (h2 : s.vm.method? m = some meth) (h3 : meth.code = some c) (h4 : c.code = bytes)
    (h5 : (c.maxLocals == mx && c.exceptionTable.isEmpty && decide (c.maxStack ≤ mostOperands) && decide (meth.sig.returnType = rt) && !meth.locks && decide (parseMethodDescriptor y.desc = some meth.sig)) = true) : (Jvm.Cond.code y bytes mx rt).before a s = true := by
  simp only [Bool.and_eq_true, beq_iff_eq, Bool.not_eq_true', decide_eq_true_eq] at h5
  obtain ⟨⟨⟨⟨⟨g1, g2⟩, g3⟩, g4⟩, g5⟩, g6⟩ := h5
  simp [Cond.before, Cond.holds, Cond.value, h1, h2, h3, h4, g1, g2, g3, g4, g5, g6]
def isCode : Jvm.Cond → Bool
  | .code _ _ _ _ => true
  | _ => false
theorem all_split {L : List Jvm.Cond} {P : Jvm.Cond → Bool} (h1 : L.all (fun c => isCode c || P c) = true) (h2 : ∀ c ∈ L.filter isCode, P c = true) : L.all P = true := by
  refine List.all_eq_true.mpr fun c hc => ?_
  have h := List.all_eq_true.mp h1 c hc
  rcases Bool.eq_false_or_eq_true (isCode c) with hi | hi
  · exact h2 c (List.mem_filter.mpr ⟨hc, hi⟩)
  · simpa [hi] using h
set_option maxRecDepth 65536 in
theorem w_c0 : (Jvm.Cond.code x code maxLocals ret).before args0 about1 = true := code_word (m := ⟨1, 1⟩) (meth := k1m1) (c := k1c1) (by decide +kernel) rfl rfl rfl (by decide +kernel)
set_option maxRecDepth 65536 in
theorem w_c1 : (Jvm.Cond.code ({ cls := "com/example/cardstock/cardstock/Field", name := "onCard", desc := "(II)Z" } : Jvm.MethodName) prog_34_method_2_code (2 : Nat) (Option.some Jvm.ClassFile.FieldType.boolean)).before args0 about1 = true := code_word (m := ⟨4, 0⟩) (meth := k4m0) (c := k4c0) (by decide +kernel) rfl rfl rfl (by decide +kernel)
set_option maxRecDepth 65536 in
theorem w_c2 : (Jvm.Cond.code ({ cls := "java/lang/Math", name := "min", desc := "(JJ)J" } : Jvm.MethodName) jdk_29_method_70_code (4 : Nat) (Option.some Jvm.ClassFile.FieldType.long)).before args0 about1 = true := code_word (m := ⟨5, 2⟩) (meth := k5m2) (c := k5c2) (by decide +kernel) rfl rfl rfl (by decide +kernel)
set_option maxRecDepth 65536 in
theorem w_c3 : (Jvm.Cond.code ({ cls := "java/lang/Math", name := "max", desc := "(JJ)J" } : Jvm.MethodName) jdk_29_method_66_code (4 : Nat) (Option.some Jvm.ClassFile.FieldType.long)).before args0 about1 = true := code_word (m := ⟨5, 1⟩) (meth := k5m1) (c := k5c1) (by decide +kernel) rfl rfl rfl (by decide +kernel)
def codes1 : List Jvm.Cond := [Jvm.Cond.code x code maxLocals ret, Jvm.Cond.code ({ cls := "com/example/cardstock/cardstock/Field", name := "onCard", desc := "(II)Z" } : Jvm.MethodName) prog_34_method_2_code (2 : Nat) (Option.some Jvm.ClassFile.FieldType.boolean), Jvm.Cond.code ({ cls := "java/lang/Math", name := "min", desc := "(JJ)J" } : Jvm.MethodName) jdk_29_method_70_code (4 : Nat) (Option.some Jvm.ClassFile.FieldType.long), Jvm.Cond.code ({ cls := "java/lang/Math", name := "max", desc := "(JJ)J" } : Jvm.MethodName) jdk_29_method_66_code (4 : Nat) (Option.some Jvm.ClassFile.FieldType.long)]
set_option maxRecDepth 65536 in
theorem codes_eq : words1.filter isCode = codes1 := rfl
theorem w_codes : ∀ c ∈ words1.filter isCode, c.before args0 about1 = true := by
  rw [codes_eq]
  intro c hc
  simp only [codes1, List.mem_cons, List.not_mem_nil, or_false] at hc
  rcases hc with rfl | rfl | rfl | rfl
  · exact w_c0
  · exact w_c1
  · exact w_c2
  · exact w_c3
set_option maxRecDepth 65536 in
theorem w_t1 : words1.all (fun c => isCode c || c.before args0 about1) = true := by decide +kernel
theorem w_tables : (allAtoms (Jvm.Cond.code x code maxLocals ret :: tables_1)).before args0 about1 = true := by
  rw [allAtoms_all]
  show words1.all (fun c => c.before args0 about1) = true
  refine all_split ?_ w_codes
  rw [w_t1]
set_option maxRecDepth 65536 in
theorem w_case : (Jvm.Cond.and given_1 narrow_1).before args0 about1 = true := by decide +kernel
theorem w_applies : (headSpec (Jvm.Cond.code x code maxLocals ret :: tables_1) room_1).applies x e0.platform about1 = true :=
  (Spec.applies_iff w_frames).mpr ⟨w_running, w_runnable, w_alone, w_named, w_hears, w_ripe, w_room, w_tables⟩
theorem atStart : AtStart classFile x code maxLocals ret World_1 tables_1 room_1 Calls_1 rest_1 Pre_1 launch0 p0 e0 about1 theMethod args0 below0 :=
  ⟨lists_1, trivial, launch0.admits_env _ _ _, launch0.least_env, fairChoices_fair.cas, fairChoices_fair.clock, w_frames, w_args, w_heap, w_applies, trivial, trivial, w_case⟩
end start1
theorem witness_1 : WitnessClaimed_1 := ⟨start1.p0, start1.e0, start1.about1, start1.theMethod, start1.args0, start1.below0, start1.atStart⟩
end Jvm.Pilot.@@N@@
