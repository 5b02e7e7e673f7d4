import JvmDerived
import JvmDerived.Pilot.@@N@@Statement
import JvmDerived.Pilot.@@N@@Code
set_option linter.unusedVariables false
set_option linter.unusedSimpArgs false
namespace Jvm.Pilot.@@N@@
open Jvm Jvm.ClassFile Sem Op Lib Jvm.Free Jvm.Stand Jvm.LawKit Jvm.RoadKit Bundle Jvm.Pilot.@@N@@.Jvm.D
/-! own_Go: a walk still to be made from the state A; every step of the machine is one own_by. -/
def own_Go (tb : Tables) (e : Env) (below : List Frame) (A : State) (R : Outcome → State → Prop) : Prop := ∃ s₂ o, Steps tb e below A s₂ ∧ s₂.status = .running ∧ Ended s₂ below o ∧ R o s₂
theorem own_by {tb : Tables} {e : Env} {below : List Frame} {A B : State} {R : Outcome → State → Prop} (h : ∀ t, Steps tb e below A t → Steps tb e below B t) (g : own_Go tb e below A R) : own_Go tb e below B R := by
  obtain ⟨s₂, o, h1, h2⟩ := g
  exact ⟨s₂, o, h _ h1, h2⟩
def own_R (s : State) (Q : Option Value → Heap → List Loc → Prop) (cc nn : Nat) (o : Outcome) (U : State) : Prop := ∃ v L, o = .returned v ∧ Q v U.heap L ∧ FrameEnd s o U L cc nn
abbrev own_lrem (x y : Int64) : Int64 := x - (x / y) * y
section OwnEnds
variable {p : Program} {l : Launch} {e : Env} {R : Room} {s : State} {m : MethodId} {args : Array Value} {below : List Frame} {meth : Method} {c : Code} {T : State} {locs : List Loc} {cells slots : Nat} {Q : Option Value → Heap → List Loc → Prop} {cc nn : Nat}
theorem own_fin (X : Stand p l e R s m args below meth c T locs cells slots) {v : Option Value} (hv : meth.sig.returnType = none → v = none) (hlk : meth.locks = false) {B : State}
    (hs : ∀ fs, (∀ (f : JFrame) (acts : List Action), f.method = m → f.locked = none → f.entered = [] → (doReturn e (T.setTop f) acts v).1 = T.setFrames fs) → Steps p.tables e below B (T.setFrames fs))
    (hq : Q v T.heap locs) (hc : cells ≤ cc) (hn : slots ≤ nn) : own_Go p.tables e below B (own_R s Q cc nn) := by
  obtain ⟨fs, hr, hrun, hended, hW, hsame⟩ := X.leave hv hlk
  exact ⟨_, _, hs fs hr, hrun, hended, v, locs, rfl, hq, ⟨_, rfl⟩, hW, hsame.mono hc hn⟩
theorem own_retN (X : Stand p l e R s m args below meth c T locs cells slots) (hx : p.tables.exec = Jvm.exec) {pc : Nat} {Ls : Array Slot} {z : Int32} {t : FieldType} {rest : List Value} (hret : meth.sig.returnType = some t) (hlk : meth.locks = false) (ht : t = .boolean ∨ t = .byte ∨ t = .char ∨ t = .short)
    (hd : decode c.code pc = .ok (.ireturn, 1)) (hq : Q (some (.int (nar t z))) T.heap locs) (hc : cells ≤ cc) (hn : slots ≤ nn) : own_Go p.tables e below (T.setTop (mkF m pc Ls (.int z :: rest))) (own_R s Q cc nn) :=
  own_fin X (fun h => by rw [hret] at h; cases h) hlk (fun fs hr => retN X hx hret ht hd hr) hq hc hn
theorem own_retI (X : Stand p l e R s m args below meth c T locs cells slots) (hx : p.tables.exec = Jvm.exec) {pc : Nat} {Ls : Array Slot} {z : Int32} (hret : meth.sig.returnType = some .int) (hlk : meth.locks = false)
    (hd : decode c.code pc = .ok (.ireturn, 1)) (hq : Q (some (.int z)) T.heap locs) (hc : cells ≤ cc) (hn : slots ≤ nn) : own_Go p.tables e below (T.setTop (mkF m pc Ls [.int z])) (own_R s Q cc nn) :=
  own_fin X (fun h => by rw [hret] at h; cases h) hlk (fun fs hr => X.ireturnOut hx hret rfl (Or.inl rfl) hd hr) hq hc hn
theorem own_retL (X : Stand p l e R s m args below meth c T locs cells slots) (hx : p.tables.exec = Jvm.exec) {pc : Nat} {Ls : Array Slot} {z : Int64} (hret : meth.sig.returnType = some .long) (hlk : meth.locks = false)
    (hd : decode c.code pc = .ok (.lreturn, 1)) (hq : Q (some (.long z)) T.heap locs) (hc : cells ≤ cc) (hn : slots ≤ nn) : own_Go p.tables e below (T.setTop (mkF m pc Ls [.long z])) (own_R s Q cc nn) :=
  own_fin X (fun h => by rw [hret] at h; cases h) hlk (fun fs hr => X.lreturnOut hx hret hd hr) hq hc hn
theorem own_retA (X : Stand p l e R s m args below meth c T locs cells slots) (hx : p.tables.exec = Jvm.exec) {pc : Nat} {Ls : Array Slot} {w : Value} {t : FieldType} (hret : meth.sig.returnType = some t) (hlk : meth.locks = false) (hw : w.isRef = true) (ht : t.isReference = true)
    (hd : decode c.code pc = .ok (.areturn, 1)) (hq : Q (some w) T.heap locs) (hc : cells ≤ cc) (hn : slots ≤ nn) : own_Go p.tables e below (T.setTop (mkF m pc Ls [w])) (own_R s Q cc nn) :=
  own_fin X (fun h => by rw [hret] at h; cases h) hlk (fun fs hr => X.areturnOut hx hw hret ht hd hr) hq hc hn
theorem own_retV (X : Stand p l e R s m args below meth c T locs cells slots) (hx : p.tables.exec = Jvm.exec) {pc : Nat} {Ls : Array Slot} (hret : meth.sig.returnType = none) (hlk : meth.locks = false)
    (hd : decode c.code pc = .ok (.return_, 1)) (hq : Q none T.heap locs) (hc : cells ≤ cc) (hn : slots ≤ nn) : own_Go p.tables e below (T.setTop (mkF m pc Ls [])) (own_R s Q cc nn) :=
  own_fin X (fun _ => rfl) hlk (fun fs hr => X.returnOut hx hret hd hr) hq hc hn
end OwnEnds
theorem own_nin {a b : Addr} (h : a ≠ b) : a ∉ [b] := fun q => h (List.mem_singleton.mp q)
theorem own_nin2 {a b c : Addr} (h : a ≠ b) (h' : a ≠ c) : a ∉ [b, c] := fun q => by
  rcases List.mem_cons.mp q with q | q
  · exact h q
  · exact h' (List.mem_singleton.mp q)
section OwnArrays
variable {p : Program} {l : Launch} {e : Env} {R : Room} {s : State} {m : MethodId} {args : Array Value} {below : List Frame} {meth : Method} {c : Code} {T : State} {locs : List Loc} {cells slots : Nat} {Z : State} {h : Heap} {a : Addr} {k : ClassId} {z j : Int32} {vs : List Value} {dv v : Value} {g : JFrame} {rest : List Value}
theorem own_iaload (X : Stand p l e R s m args below meth c T locs cells slots) (hx : p.tables.exec = Jvm.exec) (hZ : Z.Warmed39 s.vm) (eT : T.heap = h) (F : Arv Z h a k .int z vs dv) (hj : ¬ j < 0 ∧ j < z) (hv : vs.getD j.toNatClampNeg dv = v)
    (hg : g.method = m) (hs : g.stack = .int j :: .ref a :: rest) (hd : decode c.code g.pc = .ok (.iaload, 1)) (t : State) (kt : Steps p.tables e below (T.setTop { g with pc := g.pc + 1, stack := v :: rest }) t) : Steps p.tables e below (T.setTop g) t := by
  obtain ⟨cl, A, -, S, -, H, -⟩ := F
  exact X.iaload hx (by rw [eT]; exact A.1) (State.isArrayOf_alike hZ.alike A.2.1) A.2.2 (inb_of S hj) (H.at (inb_of S hj) hv) hg hs hd t kt
theorem own_caload (X : Stand p l e R s m args below meth c T locs cells slots) (hx : p.tables.exec = Jvm.exec) (hZ : Z.Warmed39 s.vm) (eT : T.heap = h) (F : Arv Z h a k .char z vs dv) (hj : ¬ j < 0 ∧ j < z) (hv : vs.getD j.toNatClampNeg dv = v)
    (hg : g.method = m) (hs : g.stack = .int j :: .ref a :: rest) (hd : decode c.code g.pc = .ok (.caload, 1)) (t : State) (kt : Steps p.tables e below (T.setTop { g with pc := g.pc + 1, stack := v :: rest }) t) : Steps p.tables e below (T.setTop g) t := by
  obtain ⟨cl, A, -, S, -, H, -⟩ := F
  exact X.caload hx (by rw [eT]; exact A.1) (State.isArrayOf_alike hZ.alike A.2.1) A.2.2 (inb_of S hj) (H.at (inb_of S hj) hv) hg hs hd t kt
theorem own_baload (X : Stand p l e R s m args below meth c T locs cells slots) (hx : p.tables.exec = Jvm.exec) (hZ : Z.Warmed39 s.vm) (eT : T.heap = h) (F : Arv Z h a k .byte z vs dv) (hj : ¬ j < 0 ∧ j < z) (hv : vs.getD j.toNatClampNeg dv = v)
    (hg : g.method = m) (hs : g.stack = .int j :: .ref a :: rest) (hd : decode c.code g.pc = .ok (.baload, 1)) (t : State) (kt : Steps p.tables e below (T.setTop { g with pc := g.pc + 1, stack := v :: rest }) t) : Steps p.tables e below (T.setTop g) t := by
  obtain ⟨cl, A, -, S, -, H, -⟩ := F
  exact X.baloadBytes hx (by rw [eT]; exact A.1) (State.isArrayOf_alike hZ.alike A.2.1) A.2.2 (inb_of S hj) (H.at (inb_of S hj) hv) hg hs hd t kt
theorem own_alen {ty : FieldType} (X : Stand p l e R s m args below meth c T locs cells slots) (hx : p.tables.exec = Jvm.exec) (hZ : Z.Warmed39 s.vm) (eT : T.heap = h) (F : Arv Z h a k ty z vs dv)
    (hg : g.method = m) (hs : g.stack = .ref a :: rest) (hd : decode c.code g.pc = .ok (.arraylength, 1)) (t : State) (kt : Steps p.tables e below (T.setTop { g with pc := g.pc + 1, stack := .int z :: rest }) t) : Steps p.tables e below (T.setTop g) t := by
  obtain ⟨cl, A, -, S, N, -, -⟩ := F
  exact X.arraylength hx (by rw [eT]; exact A.1) (State.isArrayOf_alike hZ.alike A.2.1) hg hs hd t (by rw [len_of S N]; exact kt)
end OwnArrays
section OwnBounds
variable {x k k' : Int32}
theorem own_i1 (h : x < k') (q : k'.toInt ≤ k.toInt) : x < k := by rw [Int32.lt_iff_toInt_lt] at *; omega
theorem own_i2 (h : ¬ k' < x) (q : k'.toInt < k.toInt) : x < k := by rw [Int32.lt_iff_toInt_lt] at *; omega
theorem own_i3 (h : ¬ x < k') (q : k.toInt ≤ k'.toInt) : ¬ x < k := by rw [Int32.lt_iff_toInt_lt] at *; omega
theorem own_i4 (h : k' < x) (q : k.toInt ≤ k'.toInt + 1) : ¬ x < k := by rw [Int32.lt_iff_toInt_lt] at *; omega
theorem own_j1 (h : k' < x) (q : k.toInt ≤ k'.toInt) : k < x := by rw [Int32.lt_iff_toInt_lt] at *; omega
theorem own_j2 (h : ¬ x < k') (q : k.toInt < k'.toInt) : k < x := by rw [Int32.lt_iff_toInt_lt] at *; omega
theorem own_j3 (h : ¬ k' < x) (q : k'.toInt ≤ k.toInt) : ¬ k < x := by rw [Int32.lt_iff_toInt_lt] at *; omega
theorem own_j4 (h : x < k') (q : k'.toInt ≤ k.toInt + 1) : ¬ k < x := by rw [Int32.lt_iff_toInt_lt] at *; omega
theorem own_q1 (h : x < k') (q : k'.toInt ≤ k.toInt) : ¬ x = k := fun u => by rw [Int32.lt_iff_toInt_lt] at *; subst u; omega
theorem own_q2 (h : k' < x) (q : k.toInt ≤ k'.toInt) : ¬ x = k := fun u => by rw [Int32.lt_iff_toInt_lt] at *; subst u; omega
theorem own_q3 (h : ¬ x < k') (q : k.toInt < k'.toInt) : ¬ x = k := fun u => by rw [Int32.lt_iff_toInt_lt] at *; subst u; omega
theorem own_q4 (h : ¬ k' < x) (q : k'.toInt < k.toInt) : ¬ x = k := fun u => by rw [Int32.lt_iff_toInt_lt] at *; subst u; omega
end OwnBounds
theorem own_sta_keep {Z : State} {h h' : Heap} {C n d : String} {w : Value} (F : Sta Z h C n d w) (K : Keep h h' []) : Sta Z h' C n d w := by
  obtain ⟨cf, i, k, f, st, cell, h1, h2, h3, h4, h5, r⟩ := F
  exact ⟨cf, i, k, f, st, cell, h1, h2, h3, h4, K.2.1 _ _ h5 List.not_mem_nil, r⟩
theorem own_lc_eq (x y : Int64) : lcmpW x y = 0 ↔ x = y := by rw [lcW]; exact lc_eq x y
theorem own_lc_lt (x y : Int64) : lcmpW x y < 0 ↔ x < y := by rw [lcW]; exact lc_lt x y
theorem own_lc_gt (x y : Int64) : 0 < lcmpW x y ↔ y < x := by rw [lcW]; exact lc_gt x y
def own_pick (p0 : Int32) (q1 : Int64) : Int64 := (if (p0 &&& (3 : Int32)) = (0 : Int32) then (0 : Int64) else (if (p0 &&& (3 : Int32)) = (1 : Int32) then (1 : Int64) else (if (p0 &&& (3 : Int32)) = (2 : Int32) then (9223372036854775807 : Int64) else (q1 &&& (9223372036854775807 : Int64)))))
theorem pn_0 : plainName "com/example/nousu/nousu/http/FixedLengthBodyIsCompletePinLaw" = true := by first | (simp [plainName, overriddenIn]; done) | decide +kernel
theorem d_method_2_code_0 : decode method_2_code 0 = .ok (.iload_n 0, 1) := by decide +kernel
theorem d_method_2_code_1 : decode method_2_code 1 = .ok (.iconst 3, 1) := by decide +kernel
theorem d_method_2_code_2 : decode method_2_code 2 = .ok (.iand, 1) := by decide +kernel
theorem d_method_2_code_3 : decode method_2_code 3 = .ok (.istore_n 3, 1) := by decide +kernel
theorem d_method_2_code_4 : decode method_2_code 4 = .ok (.iload_n 3, 1) := by decide +kernel
theorem d_method_2_code_5 : decode method_2_code 5 = .ok (.ifCond .ne 5, 3) := by decide +kernel
theorem d_method_2_code_8 : decode method_2_code 8 = .ok (.lconst 0, 1) := by decide +kernel
theorem d_method_2_code_9 : decode method_2_code 9 = .ok (.lreturn, 1) := by decide +kernel
theorem d_method_2_code_10 : decode method_2_code 10 = .ok (.iload_n 3, 1) := by decide +kernel
theorem d_method_2_code_11 : decode method_2_code 11 = .ok (.iconst 1, 1) := by decide +kernel
theorem d_method_2_code_12 : decode method_2_code 12 = .ok (.if_icmp .ne 5, 3) := by decide +kernel
theorem d_method_2_code_15 : decode method_2_code 15 = .ok (.lconst 1, 1) := by decide +kernel
theorem d_method_2_code_16 : decode method_2_code 16 = .ok (.lreturn, 1) := by decide +kernel
theorem d_method_2_code_17 : decode method_2_code 17 = .ok (.iload_n 3, 1) := by decide +kernel
theorem d_method_2_code_18 : decode method_2_code 18 = .ok (.iconst 2, 1) := by decide +kernel
theorem d_method_2_code_19 : decode method_2_code 19 = .ok (.if_icmp .ne 7, 3) := by decide +kernel
theorem d_method_2_code_22 : decode method_2_code 22 = .ok (.ldc2_w 9, 3) := by decide +kernel
theorem d_method_2_code_25 : decode method_2_code 25 = .ok (.lreturn, 1) := by decide +kernel
theorem d_method_2_code_26 : decode method_2_code 26 = .ok (.lload_n 1, 1) := by decide +kernel
theorem d_method_2_code_27 : decode method_2_code 27 = .ok (.ldc2_w 9, 3) := by decide +kernel
theorem d_method_2_code_30 : decode method_2_code 30 = .ok (.land, 1) := by decide +kernel
theorem d_method_2_code_31 : decode method_2_code 31 = .ok (.lreturn, 1) := by decide +kernel
theorem ef_1 (m : MethodId) (p0 : Int32) (q1 : Int64) : entryFrame m #[(.int p0), (.long q1)] 4 = mkF m 0 #[.val (.int p0), .val (.long q1), .second, .unset] [] := by first | (simp [entryFrame, mkF, argsToLocals, Value.category]; done) | rfl
def Q_rm_own_pick (Z : State) (p0 : Int32) (q1 : Int64)  (h0 : Heap) (n0 : Nat) (v : Option Value) (h : Heap) (L : List Loc) : Prop := v = some (.long (own_pick p0 q1)) ∧ Fr n0 L ∧ h = h0
set_option maxRecDepth 65536 in
set_option maxHeartbeats 40000000 in
theorem rm_own_pick (l : Launch) (Z : State) (a0 : Array Value) (hw : ∀ d ∈ tables_1, d.before a0 Z = true) (ws : List Jvm.Cond) (p0 : Int32) (q1 : Int64)  (h0 : Heap) (n0 : Nat) (Z0 : n0 ≤ h0.size)  :
    MetFree l (⟨"com/example/nousu/nousu/http/FixedLengthBodyIsCompletePinLaw", "pickLength", "(IJ)J"⟩ : MethodName) (head1 (Jvm.Cond.code (⟨"com/example/nousu/nousu/http/FixedLengthBodyIsCompletePinLaw", "pickLength", "(IJ)J"⟩ : MethodName) method_2_code 4 (some .long) :: ws) ({ frames := 0, cells := 0, slots := 0, locals := 0 } : Room)) (fun av_ U => av_ = #[(.int p0), (.long q1)] ∧ Z.Warmed39 U.vm ∧ U.heap = h0) (fun _ _ _ _ _ => True) (fun _ U o U' => ∃ v L, o = .returned v ∧ Q_rm_own_pick Z p0 q1 h0 n0 v U'.heap L ∧ FrameEnd U o U' L ({ frames := 0, cells := 0, slots := 0, locals := 0 } : Room).cells ({ frames := 0, cells := 0, slots := 0, locals := 0 } : Room).slots) := by
  refine MetFree.of_bodySF (plainFor_of_name pn_0) hisR ?_
  intro p e s m args below meth c s₁ Bd hml0 hP hK
  obtain ⟨rfl, hZ, hh⟩ := hP
  have hx := Bd.exec
  have hby := Bd.bytes
  have hml : c.maxLocals = 4 := hml0
  have hown : s.vm.findClass "com/example/nousu/nousu/http/FixedLengthBodyIsCompletePinLaw" = some m.cls := findClass_of_methodNamed Bd.named
  have hnm := (name_of_methodNamed Bd.named Bd.method).1
  have hlk : meth.locks = false := BodyLoose.notSynchronized Bd
  have X0 : Stand p l e ({ frames := 0, cells := 0, slots := 0, locals := 0 } : Room) s m #[(.int p0), (.long q1)] below meth c s₁ [] 0 0 := Stand.of_body Bd
  have e0 : s₁.heap = h0 := by rw [← hh, Bd.state]; rfl
  have N0 := Fr.nil n0
  refine own_by (fun _ kt => castTop (ef_1 m p0 q1) kt) (R := own_R s (Q_rm_own_pick Z p0 q1 h0 n0) 0 0) ?_
  show own_Go p.tables e below (s₁.setTop (mkF m 0 #[.val (.int p0), .val (.long q1), .second, .unset] [])) _
  refine own_by (fun _ kt => XS.iloadN X0.here hx rfl (hb hby d_method_2_code_0) rfl kt) ?_
  show own_Go p.tables e below (s₁.setTop (mkF m 1 #[.val (.int p0), .val (.long q1), .second, .unset] [(.int p0)])) _
  refine own_by (fun _ kt => XS.iconst X0.here hx rfl (hb hby d_method_2_code_1) kt) ?_
  show own_Go p.tables e below (s₁.setTop (mkF m 2 #[.val (.int p0), .val (.long q1), .second, .unset] [(.int (3 : Int32)), (.int p0)])) _
  refine own_by (fun _ kt => XS.iand X0.here hx rfl (hb hby d_method_2_code_2) rfl kt) ?_
  show own_Go p.tables e below (s₁.setTop (mkF m 3 #[.val (.int p0), .val (.long q1), .second, .unset] [(.int (p0 &&& (3 : Int32)))])) _
  refine own_by (fun _ kt => XS.istoreN X0.here hx rfl (hb hby d_method_2_code_3) rfl (l' := #[.val (.int p0), .val (.long q1), .second, .val (.int (p0 &&& (3 : Int32)))]) rfl kt) ?_
  show own_Go p.tables e below (s₁.setTop (mkF m 4 #[.val (.int p0), .val (.long q1), .second, .val (.int (p0 &&& (3 : Int32)))] [])) _
  refine own_by (fun _ kt => XS.iloadN X0.here hx rfl (hb hby d_method_2_code_4) rfl kt) ?_
  show own_Go p.tables e below (s₁.setTop (mkF m 5 #[.val (.int p0), .val (.long q1), .second, .val (.int (p0 &&& (3 : Int32)))] [(.int (p0 &&& (3 : Int32)))])) _
  by_cases hc5_1 : (p0 &&& (3 : Int32)) = (0 : Int32)
  · refine own_by (fun _ kt => XS.ifNo X0.here hx rfl (hb hby d_method_2_code_5) rfl ((if0 _ _).trans (teq hc5_1).2) kt) ?_
    show own_Go p.tables e below (s₁.setTop (mkF m 8 #[.val (.int p0), .val (.long q1), .second, .val (.int (p0 &&& (3 : Int32)))] [])) _
    refine own_by (fun _ kt => XS.lconst X0.here hx rfl (hb hby d_method_2_code_8) kt) ?_
    show own_Go p.tables e below (s₁.setTop (mkF m 9 #[.val (.int p0), .val (.long q1), .second, .val (.int (p0 &&& (3 : Int32)))] [(.long (0 : Int64))])) _
    exact own_retL X0 hx Bd.returns hlk (hb hby d_method_2_code_9) ⟨by rw [own_pick, if_pos hc5_1] <;> rfl, N0, e0⟩ (by decide) (by decide)
  · refine own_by (fun _ kt => XS.ifYes X0.here hx rfl (pc0 := 5) (pc' := 10) rfl (hb hby d_method_2_code_5) rfl ((if0 _ _).trans (feq hc5_1).2) (by decide) (by decide) kt) ?_
    show own_Go p.tables e below (s₁.setTop (mkF m 10 #[.val (.int p0), .val (.long q1), .second, .val (.int (p0 &&& (3 : Int32)))] [])) _
    refine own_by (fun _ kt => XS.iloadN X0.here hx rfl (hb hby d_method_2_code_10) rfl kt) ?_
    show own_Go p.tables e below (s₁.setTop (mkF m 11 #[.val (.int p0), .val (.long q1), .second, .val (.int (p0 &&& (3 : Int32)))] [(.int (p0 &&& (3 : Int32)))])) _
    refine own_by (fun _ kt => XS.iconst X0.here hx rfl (hb hby d_method_2_code_11) kt) ?_
    show own_Go p.tables e below (s₁.setTop (mkF m 12 #[.val (.int p0), .val (.long q1), .second, .val (.int (p0 &&& (3 : Int32)))] [(.int (1 : Int32)), (.int (p0 &&& (3 : Int32)))])) _
    by_cases hc12_2 : (p0 &&& (3 : Int32)) = (1 : Int32)
    · refine own_by (fun _ kt => XS.icmpNo X0.here hx rfl (hb hby d_method_2_code_12) rfl (teq hc12_2).2 kt) ?_
      show own_Go p.tables e below (s₁.setTop (mkF m 15 #[.val (.int p0), .val (.long q1), .second, .val (.int (p0 &&& (3 : Int32)))] [])) _
      refine own_by (fun _ kt => XS.lconst X0.here hx rfl (hb hby d_method_2_code_15) kt) ?_
      show own_Go p.tables e below (s₁.setTop (mkF m 16 #[.val (.int p0), .val (.long q1), .second, .val (.int (p0 &&& (3 : Int32)))] [(.long (1 : Int64))])) _
      exact own_retL X0 hx Bd.returns hlk (hb hby d_method_2_code_16) ⟨by rw [own_pick, if_neg hc5_1, if_pos hc12_2] <;> rfl, N0, e0⟩ (by decide) (by decide)
    · refine own_by (fun _ kt => XS.icmpYes X0.here hx rfl (pc0 := 12) (pc' := 17) rfl (hb hby d_method_2_code_12) rfl (feq hc12_2).2 (by decide) (by decide) kt) ?_
      show own_Go p.tables e below (s₁.setTop (mkF m 17 #[.val (.int p0), .val (.long q1), .second, .val (.int (p0 &&& (3 : Int32)))] [])) _
      refine own_by (fun _ kt => XS.iloadN X0.here hx rfl (hb hby d_method_2_code_17) rfl kt) ?_
      show own_Go p.tables e below (s₁.setTop (mkF m 18 #[.val (.int p0), .val (.long q1), .second, .val (.int (p0 &&& (3 : Int32)))] [(.int (p0 &&& (3 : Int32)))])) _
      refine own_by (fun _ kt => XS.iconst X0.here hx rfl (hb hby d_method_2_code_18) kt) ?_
      show own_Go p.tables e below (s₁.setTop (mkF m 19 #[.val (.int p0), .val (.long q1), .second, .val (.int (p0 &&& (3 : Int32)))] [(.int (2 : Int32)), (.int (p0 &&& (3 : Int32)))])) _
      by_cases hc19_3 : (p0 &&& (3 : Int32)) = (2 : Int32)
      · refine own_by (fun _ kt => XS.icmpNo X0.here hx rfl (hb hby d_method_2_code_19) rfl (teq hc19_3).2 kt) ?_
        show own_Go p.tables e below (s₁.setTop (mkF m 22 #[.val (.int p0), .val (.long q1), .second, .val (.int (p0 &&& (3 : Int32)))] [])) _
        refine own_by (X0.ldc2Long hx hown (mvT hZ (hw _ (List.mem_of_getElem? (i := 20) rfl))) (g := (mkF m 22 #[.val (.int p0), .val (.long q1), .second, .val (.int (p0 &&& (3 : Int32)))] [])) rfl (hb hby d_method_2_code_22)) ?_
        show own_Go p.tables e below (s₁.setTop (mkF m 25 #[.val (.int p0), .val (.long q1), .second, .val (.int (p0 &&& (3 : Int32)))] [(.long (9223372036854775807 : Int64))])) _
        exact own_retL X0 hx Bd.returns hlk (hb hby d_method_2_code_25) ⟨by rw [own_pick, if_neg hc5_1, if_neg hc12_2, if_pos hc19_3] <;> rfl, N0, e0⟩ (by decide) (by decide)
      · refine own_by (fun _ kt => XS.icmpYes X0.here hx rfl (pc0 := 19) (pc' := 26) rfl (hb hby d_method_2_code_19) rfl (feq hc19_3).2 (by decide) (by decide) kt) ?_
        show own_Go p.tables e below (s₁.setTop (mkF m 26 #[.val (.int p0), .val (.long q1), .second, .val (.int (p0 &&& (3 : Int32)))] [])) _
        refine own_by (fun _ kt => XS.lloadN X0.here hx rfl (hb hby d_method_2_code_26) rfl kt) ?_
        show own_Go p.tables e below (s₁.setTop (mkF m 27 #[.val (.int p0), .val (.long q1), .second, .val (.int (p0 &&& (3 : Int32)))] [(.long q1)])) _
        refine own_by (X0.ldc2Long hx hown (mvT hZ (hw _ (List.mem_of_getElem? (i := 20) rfl))) (g := (mkF m 27 #[.val (.int p0), .val (.long q1), .second, .val (.int (p0 &&& (3 : Int32)))] [(.long q1)])) rfl (hb hby d_method_2_code_27)) ?_
        show own_Go p.tables e below (s₁.setTop (mkF m 30 #[.val (.int p0), .val (.long q1), .second, .val (.int (p0 &&& (3 : Int32)))] [(.long (9223372036854775807 : Int64)), (.long q1)])) _
        refine own_by (fun _ kt => XS.land X0.here hx rfl (hb hby d_method_2_code_30) rfl kt) ?_
        show own_Go p.tables e below (s₁.setTop (mkF m 31 #[.val (.int p0), .val (.long q1), .second, .val (.int (p0 &&& (3 : Int32)))] [(.long (q1 &&& (9223372036854775807 : Int64)))])) _
        exact own_retL X0 hx Bd.returns hlk (hb hby d_method_2_code_31) ⟨by rw [own_pick, if_neg hc5_1, if_neg hc12_2, if_neg hc19_3] <;> rfl, N0, e0⟩ (by decide) (by decide)
theorem pn_1 : plainName "com/example/nousu/nousu/http/FixedLengthBody" = true := by first | (simp [plainName, overriddenIn]; done) | decide +kernel
theorem d_prog_21_method_1_code_0 : decode prog_21_method_1_code 0 = .ok (.aload_n 0, 1) := by decide +kernel
theorem d_prog_21_method_1_code_1 : decode prog_21_method_1_code 1 = .ok (.invokespecial 1, 3) := by decide +kernel
theorem pd_0 : parseMethodDescriptor "()V" = some ⟨[], none⟩ := by decide +kernel
theorem d_prog_21_method_1_code_4 : decode prog_21_method_1_code 4 = .ok (.aload_n 0, 1) := by decide +kernel
theorem d_prog_21_method_1_code_5 : decode prog_21_method_1_code 5 = .ok (.lload_n 1, 1) := by decide +kernel
theorem d_prog_21_method_1_code_6 : decode prog_21_method_1_code 6 = .ok (.putfield 7, 3) := by decide +kernel
theorem d_prog_21_method_1_code_9 : decode prog_21_method_1_code 9 = .ok (.return_, 1) := by decide +kernel
theorem ef_2 (m : MethodId) (a : Addr) (q : Int64) : entryFrame m #[(.ref a), (.long q)] 3 = mkF m 0 #[.val (.ref a), .val (.long q), .second] [] := by first | (simp [entryFrame, mkF, argsToLocals, Value.category]; done) | rfl
def Q_rm_init (Z : State) (a : Addr) (q : Int64)  (h0 : Heap) (n0 : Nat) (v : Option Value) (h : Heap) (L : List Loc) : Prop := v = none ∧ Fr n0 L ∧ Keep h0 h [a] ∧ Exa Z h a "com/example/nousu/nousu/http/FixedLengthBody" ∧ Fld Z h a "com/example/nousu/nousu/http/FixedLengthBody" "remaining" "J" (.long q)
set_option maxRecDepth 65536 in
set_option maxHeartbeats 40000000 in
theorem rm_init (l : Launch) (Z : State) (a0 : Array Value) (hw : ∀ d ∈ tables_1, d.before a0 Z = true) (ws : List Jvm.Cond) (a : Addr) (q : Int64)  (h0 : Heap) (n0 : Nat) (Z0 : n0 ≤ h0.size) (F_remaining_a : Fld Z h0 a "com/example/nousu/nousu/http/FixedLengthBody" "remaining" "J" (.long (0 : Int64))) (E_a : Exa Z h0 a "com/example/nousu/nousu/http/FixedLengthBody") (gn_a : n0 ≤ a) :
    MetFree l (⟨"com/example/nousu/nousu/http/FixedLengthBody", "<init>", "(J)V"⟩ : MethodName) (head1 (Jvm.Cond.code (⟨"com/example/nousu/nousu/http/FixedLengthBody", "<init>", "(J)V"⟩ : MethodName) prog_21_method_1_code 3 none :: ws) ({ frames := 1, cells := 0, slots := 0, locals := 12 } : Room)) (fun av_ U => av_ = #[(.ref a), (.long q)] ∧ Z.Warmed39 U.vm ∧ U.heap = h0) (fun _ _ _ _ _ => True) (fun _ U o U' => ∃ v L, o = .returned v ∧ Q_rm_init Z a q h0 n0 v U'.heap L ∧ FrameEnd U o U' L ({ frames := 1, cells := 0, slots := 0, locals := 12 } : Room).cells ({ frames := 1, cells := 0, slots := 0, locals := 12 } : Room).slots) := by
  refine MetFree.of_bodySF (plainFor_of_name pn_1) hisR ?_
  intro p e s m args below meth c s₁ Bd hml0 hP hK
  obtain ⟨rfl, hZ, hh⟩ := hP
  have hx := Bd.exec
  have hby := Bd.bytes
  have hml : c.maxLocals = 3 := hml0
  have hown : s.vm.findClass "com/example/nousu/nousu/http/FixedLengthBody" = some m.cls := findClass_of_methodNamed Bd.named
  have hnm := (name_of_methodNamed Bd.named Bd.method).1
  have hlk : meth.locks = false := BodyLoose.notSynchronized Bd
  have X0 : Stand p l e ({ frames := 1, cells := 0, slots := 0, locals := 12 } : Room) s m #[(.ref a), (.long q)] below meth c s₁ [] 0 0 := Stand.of_body Bd
  have e0 : s₁.heap = h0 := by rw [← hh, Bd.state]; rfl
  have N0 := Fr.nil n0
  refine own_by (fun _ kt => castTop (ef_2 m a q) kt) (R := own_R s (Q_rm_init Z a q h0 n0) 0 0) ?_
  show own_Go p.tables e below (s₁.setTop (mkF m 0 #[.val (.ref a), .val (.long q), .second] [])) _
  refine own_by (fun _ kt => XS.aloadN X0.here hx rfl (hb hby d_prog_21_method_1_code_0) rfl rfl kt) ?_
  show own_Go p.tables e below (s₁.setTop (mkF m 1 #[.val (.ref a), .val (.long q), .second] [(.ref a)])) _
  obtain ⟨T1, X1, e1, st1⟩ := initO X0 hx hZ hown (hw _ (List.mem_of_getElem? (i := 10) rfl)) (hw _ (List.mem_of_getElem? (i := 11) rfl)) (hw _ (List.mem_of_getElem? (i := 12) rfl)) e0 (g := (mkF m 1 #[.val (.ref a), .val (.long q), .second] [(.ref a)])) rfl (by rw [hml]; rfl) rfl (hb hby d_prog_21_method_1_code_1) (by decide) (W := 0) (by show 2 * 0 + _ ≤ _; exact Nat.le_of_eq rfl) (by decide)
  refine own_by st1 ?_
  show own_Go p.tables e below (T1.setTop (mkF m 4 #[.val (.ref a), .val (.long q), .second] [])) _
  refine own_by (fun _ kt => XS.aloadN X1.here hx rfl (hb hby d_prog_21_method_1_code_4) rfl rfl kt) ?_
  show own_Go p.tables e below (T1.setTop (mkF m 5 #[.val (.ref a), .val (.long q), .second] [(.ref a)])) _
  refine own_by (fun _ kt => XS.lloadN X1.here hx rfl (hb hby d_prog_21_method_1_code_5) rfl kt) ?_
  show own_Go p.tables e below (T1.setTop (mkF m 6 #[.val (.ref a), .val (.long q), .second] [(.long q), (.ref a)])) _
  obtain ⟨T2, h2, X2, e2, W2, st2⟩ := putF X1 hx hZ hown (host := "") (Or.inl (hw _ (List.mem_of_getElem? (i := 13) rfl))) Via.refl e1 F_remaining_a E_a (Or.inl (hw _ (List.mem_of_getElem? (i := 14) rfl))) (hw _ (List.mem_of_getElem? (i := 5) rfl)) (ty := .long) (by decide) rfl rfl (g := (mkF m 6 #[.val (.ref a), .val (.long q), .second] [(.long q), (.ref a)])) rfl rfl (hb hby d_prog_21_method_1_code_6)
  have Fw2 := F_remaining_a.same W2
  have f3 := E_a.wr W2
  have Zs2 : n0 ≤ h2.size := by rw [W2.size]; exact Z0
  have K2 : Keep h0 h2 [a] := (Keep.refl h0 [a]).wr W2 (Or.inl (List.mem_of_getElem? (i := 0) rfl))
  have N2 := Fr.snoc X2 N0 gn_a
  refine own_by st2 ?_
  show own_Go p.tables e below (T2.setTop (mkF m 9 #[.val (.ref a), .val (.long q), .second] [])) _
  exact own_retV X2 hx Bd.returns hlk (hb hby d_prog_21_method_1_code_9) (by rw [e2]; exact ⟨rfl, N2, K2, f3, Fw2⟩) (by decide) (by decide)
def own_done (w : Int64) : Int32 := if lcmpW w 0 = 0 then 1 else 0
theorem d_prog_21_method_6_code_0 : decode prog_21_method_6_code 0 = .ok (.aload_n 0, 1) := by decide +kernel
theorem d_prog_21_method_6_code_1 : decode prog_21_method_6_code 1 = .ok (.getfield 7, 3) := by decide +kernel
theorem d_prog_21_method_6_code_4 : decode prog_21_method_6_code 4 = .ok (.lconst 0, 1) := by decide +kernel
theorem d_prog_21_method_6_code_5 : decode prog_21_method_6_code 5 = .ok (.lcmp, 1) := by decide +kernel
theorem d_prog_21_method_6_code_6 : decode prog_21_method_6_code 6 = .ok (.ifCond .ne 7, 3) := by decide +kernel
theorem d_prog_21_method_6_code_9 : decode prog_21_method_6_code 9 = .ok (.iconst 1, 1) := by decide +kernel
theorem d_prog_21_method_6_code_10 : decode prog_21_method_6_code 10 = .ok (.goto 4, 3) := by decide +kernel
theorem d_prog_21_method_6_code_14 : decode prog_21_method_6_code 14 = .ok (.ireturn, 1) := by decide +kernel
theorem d_prog_21_method_6_code_13 : decode prog_21_method_6_code 13 = .ok (.iconst 0, 1) := by decide +kernel
theorem ef_3 (m : MethodId) (a : Addr) : entryFrame m #[(.ref a)] 1 = mkF m 0 #[.val (.ref a)] [] := by first | (simp [entryFrame, mkF, argsToLocals, Value.category]; done) | rfl
def Q_rm_done (Z : State) (a : Addr) (w : Int64) (h0 : Heap) (n0 : Nat) (v : Option Value) (h : Heap) (L : List Loc) : Prop := v = some (.int (own_done w)) ∧ Fr n0 L ∧ h = h0
set_option maxRecDepth 65536 in
set_option maxHeartbeats 40000000 in
theorem rm_done (l : Launch) (Z : State) (a0 : Array Value) (hw : ∀ d ∈ tables_1, d.before a0 Z = true) (ws : List Jvm.Cond) (a : Addr) (w : Int64) (h0 : Heap) (n0 : Nat) (Z0 : n0 ≤ h0.size) (F_remaining_a : Fld Z h0 a "com/example/nousu/nousu/http/FixedLengthBody" "remaining" "J" (.long w)) :
    MetFree l (⟨"com/example/nousu/nousu/http/FixedLengthBody", "isComplete", "()Z"⟩ : MethodName) (head1 (Jvm.Cond.code (⟨"com/example/nousu/nousu/http/FixedLengthBody", "isComplete", "()Z"⟩ : MethodName) prog_21_method_6_code 1 (some .boolean) :: ws) ({ frames := 0, cells := 0, slots := 0, locals := 0 } : Room)) (fun av_ U => av_ = #[(.ref a)] ∧ Z.Warmed39 U.vm ∧ U.heap = h0) (fun _ _ _ _ _ => True) (fun _ U o U' => ∃ v L, o = .returned v ∧ Q_rm_done Z a w h0 n0 v U'.heap L ∧ FrameEnd U o U' L ({ frames := 0, cells := 0, slots := 0, locals := 0 } : Room).cells ({ frames := 0, cells := 0, slots := 0, locals := 0 } : Room).slots) := by
  refine MetFree.of_bodySF (plainFor_of_name pn_1) hisR ?_
  intro p e s m args below meth c s₁ Bd hml0 hP hK
  obtain ⟨rfl, hZ, hh⟩ := hP
  have hx := Bd.exec
  have hby := Bd.bytes
  have hml : c.maxLocals = 1 := hml0
  have hown : s.vm.findClass "com/example/nousu/nousu/http/FixedLengthBody" = some m.cls := findClass_of_methodNamed Bd.named
  have hnm := (name_of_methodNamed Bd.named Bd.method).1
  have hlk : meth.locks = false := BodyLoose.notSynchronized Bd
  have X0 : Stand p l e ({ frames := 0, cells := 0, slots := 0, locals := 0 } : Room) s m #[(.ref a)] below meth c s₁ [] 0 0 := Stand.of_body Bd
  have e0 : s₁.heap = h0 := by rw [← hh, Bd.state]; rfl
  have N0 := Fr.nil n0
  refine own_by (fun _ kt => castTop (ef_3 m a) kt) (R := own_R s (Q_rm_done Z a w h0 n0) 0 0) ?_
  show own_Go p.tables e below (s₁.setTop (mkF m 0 #[.val (.ref a)] [])) _
  refine own_by (fun _ kt => XS.aloadN X0.here hx rfl (hb hby d_prog_21_method_6_code_0) rfl rfl kt) ?_
  show own_Go p.tables e below (s₁.setTop (mkF m 1 #[.val (.ref a)] [(.ref a)])) _
  obtain ⟨T1, X1, e1, st1⟩ := getF X0 hx hZ hown (host := "") (Or.inl (hw _ (List.mem_of_getElem? (i := 13) rfl))) Via.refl e0 F_remaining_a (g := (mkF m 1 #[.val (.ref a)] [(.ref a)])) rfl rfl (hb hby d_prog_21_method_6_code_1)
  refine own_by st1 ?_
  show own_Go p.tables e below (T1.setTop (mkF m 4 #[.val (.ref a)] [(.long w)])) _
  refine own_by (fun _ kt => XS.lconst X1.here hx rfl (hb hby d_prog_21_method_6_code_4) kt) ?_
  show own_Go p.tables e below (T1.setTop (mkF m 5 #[.val (.ref a)] [(.long (0 : Int64)), (.long w)])) _
  refine own_by (fun _ kt => XS.lcmp X1.here hx rfl (hb hby d_prog_21_method_6_code_5) rfl kt) ?_
  show own_Go p.tables e below (T1.setTop (mkF m 6 #[.val (.ref a)] [(.int (lcmpW w (0 : Int64)))])) _
  by_cases hc6_2 : (lcmpW w (0 : Int64)) = (0 : Int32)
  · refine own_by (fun _ kt => XS.ifNo X1.here hx rfl (hb hby d_prog_21_method_6_code_6) rfl ((if0 _ _).trans (teq hc6_2).2) kt) ?_
    show own_Go p.tables e below (T1.setTop (mkF m 9 #[.val (.ref a)] [])) _
    refine own_by (fun _ kt => XS.iconst X1.here hx rfl (hb hby d_prog_21_method_6_code_9) kt) ?_
    show own_Go p.tables e below (T1.setTop (mkF m 10 #[.val (.ref a)] [(.int (1 : Int32))])) _
    refine own_by (fun _ kt => XS.goto X1.here hx rfl (pc0 := 10) (pc' := 14) rfl (hb hby d_prog_21_method_6_code_10) (by decide) (by decide) kt) ?_
    show own_Go p.tables e below (T1.setTop (mkF m 14 #[.val (.ref a)] [(.int (1 : Int32))])) _
    exact own_retN X1 hx (t := .boolean) Bd.returns hlk (by simp) (hb hby d_prog_21_method_6_code_14) ⟨by rw [own_done, if_pos hc6_2] <;> rfl, N0, e1⟩ (by decide) (by decide)
  · refine own_by (fun _ kt => XS.ifYes X1.here hx rfl (pc0 := 6) (pc' := 13) rfl (hb hby d_prog_21_method_6_code_6) rfl ((if0 _ _).trans (feq hc6_2).2) (by decide) (by decide) kt) ?_
    show own_Go p.tables e below (T1.setTop (mkF m 13 #[.val (.ref a)] [])) _
    refine own_by (fun _ kt => XS.iconst X1.here hx rfl (hb hby d_prog_21_method_6_code_13) kt) ?_
    show own_Go p.tables e below (T1.setTop (mkF m 14 #[.val (.ref a)] [(.int (0 : Int32))])) _
    exact own_retN X1 hx (t := .boolean) Bd.returns hlk (by simp) (hb hby d_prog_21_method_6_code_14) ⟨by rw [own_done, if_neg hc6_2] <;> rfl, N0, e1⟩ (by decide) (by decide)
theorem pd_1 : parseMethodDescriptor "(IJ)J" = some ⟨[.int, .long], some .long⟩ := by decide +kernel
theorem pd_2 : parseMethodDescriptor "(J)V" = some ⟨[.long], none⟩ := by decide +kernel
theorem pd_3 : parseMethodDescriptor "()Z" = some ⟨[], some .boolean⟩ := by decide +kernel
theorem ef_4 (m : MethodId) (p0 : Int32) (q1 : Int64) : entryFrame m #[(.int p0), (.long q1)] maxLocals = mkF m 0 #[.val (.int p0), .val (.long q1), .second, .unset, .unset, .unset, .unset] [] := by first | (simp [entryFrame, mkF, argsToLocals, Value.category, maxLocals]; done) | rfl
def Q_rm_law (Z : State) (p0 : Int32) (q1 : Int64)  (h0 : Heap) (n0 : Nat) (v : Option Value) (h : Heap) (L : List Loc) : Prop := v = some (.int (1 : Int32)) ∧ Fr n0 L
set_option maxRecDepth 65536 in
set_option maxHeartbeats 40000000 in
theorem rm_law (l : Launch) (Z : State) (a0 : Array Value) (hw : ∀ d ∈ tables_1, d.before a0 Z = true) (ws : List Jvm.Cond) (p0 : Int32) (q1 : Int64)  (h0 : Heap) (n0 : Nat) (Z0 : n0 ≤ h0.size)  :
    MetFree l x (head1 (Jvm.Cond.code x code maxLocals ret :: ws) room_1) (fun av_ U => av_ = #[(.int p0), (.long q1)] ∧ Z.Warmed39 U.vm ∧ U.heap = h0) (fun _ _ _ _ _ => True) (fun _ U o U' => ∃ v L, o = .returned v ∧ Q_rm_law Z p0 q1 h0 n0 v U'.heap L ∧ FrameEnd U o U' L 16 128) := by
  refine MetFree.of_bodySF (plainFor_of_name pn_0) hisR ?_
  intro p e s m args below meth c s₁ Bd hml0 hP hK
  obtain ⟨rfl, hZ, hh⟩ := hP
  have hx := Bd.exec
  have hby := Bd.bytes
  have hml : c.maxLocals = 7 := hml0
  have hown : s.vm.findClass "com/example/nousu/nousu/http/FixedLengthBodyIsCompletePinLaw" = some m.cls := findClass_of_methodNamed Bd.named
  have hnm := (name_of_methodNamed Bd.named Bd.method).1
  have hlk : meth.locks = false := BodyLoose.notSynchronized Bd
  have X0 : Stand p l e room_1 s m #[(.int p0), (.long q1)] below meth c s₁ [] 0 0 := Stand.of_body Bd
  have e0 : s₁.heap = h0 := by rw [← hh, Bd.state]; rfl
  have N0 := Fr.nil n0
  refine own_by (fun _ kt => castTop (ef_4 m p0 q1) kt) (R := own_R s (Q_rm_law Z p0 q1 h0 n0) 16 128) ?_
  show own_Go p.tables e below (s₁.setTop (mkF m 0 #[.val (.int p0), .val (.long q1), .second, .unset, .unset, .unset, .unset] [])) _
  refine own_by (fun _ kt => XS.iloadN X0.here hx rfl (hb hby at_0) rfl kt) ?_
  show own_Go p.tables e below (s₁.setTop (mkF m 1 #[.val (.int p0), .val (.long q1), .second, .unset, .unset, .unset, .unset] [(.int p0)])) _
  refine own_by (fun _ kt => XS.lloadN X0.here hx rfl (hb hby at_1) rfl kt) ?_
  show own_Go p.tables e below (s₁.setTop (mkF m 2 #[.val (.int p0), .val (.long q1), .second, .unset, .unset, .unset, .unset] [(.long q1), (.int p0)])) _
  obtain ⟨_, _, ⟨T1, L1, k1, n1⟩, -, X1, ⟨Lc1, hQ1, l1, y1, z1⟩, st1⟩ := Jvm.LawKit.callS X0 hx (y := (⟨"com/example/nousu/nousu/http/FixedLengthBodyIsCompletePinLaw", "pickLength", "(IJ)J"⟩ : MethodName)) hown (mvT hZ (hw _ (List.mem_of_getElem? (i := 0) rfl))) (mvT hZ (hw _ (List.mem_of_getElem? (i := 1) rfl))) (mvT hZ (hw _ (List.mem_of_getElem? (i := 2) rfl))) (mvT hZ (hw _ (List.mem_of_getElem? (i := 3) rfl))) (by decide) (backOf (W := 0) (rm_own_pick l Z a0 hw [] p0 q1 h0 n0 Z0) hZ (hw _ (List.mem_of_getElem? (i := 3) rfl)) (hw _ (List.mem_of_getElem? (i := 2) rfl)) (by decide) (by decide)) (g := (mkF m 2 #[.val (.int p0), .val (.long q1), .second, .unset, .unset, .unset, .unset] [(.long q1), (.int p0)])) rfl (by rw [hml]; rfl) (argsL := [(.int p0), (.long q1)]) (rest := []) (lenOf pd_1 rfl) rfl (by show 2 * 0 + _ ≤ _; exact Nat.le_of_eq rfl) (hb hby at_2) (fun _ _ => ⟨rfl, e0, (by decide : 0 + 0 ≤ _), (by decide : 0 + 0 ≤ _)⟩)
  dsimp only [Pt.U, Pt.locs, Pt.cells, Pt.slots] at X1 l1 y1 z1 st1 hQ1
  subst l1 y1 z1
  obtain ⟨rfl, Nq1, eh1⟩ := hQ1
  have N1 := Fr.app N0 Nq1
  refine own_by (st1) ?_
  show own_Go p.tables e below (T1.setTop (mkF m 5 #[.val (.int p0), .val (.long q1), .second, .unset, .unset, .unset, .unset] [(.long (own_pick p0 q1))])) _
  refine own_by (fun _ kt => XS.lstoreN X1.here hx rfl (hb hby at_5) rfl (l' := #[.val (.int p0), .val (.long q1), .second, .val (.long (own_pick p0 q1)), .second, .unset, .unset]) rfl kt) ?_
  show own_Go p.tables e below (T1.setTop (mkF m 6 #[.val (.int p0), .val (.long q1), .second, .val (.long (own_pick p0 q1)), .second, .unset, .unset] [])) _
  obtain ⟨T2, h2, X2, e2, E2, A2, D2, -, st2⟩ := newO X1 hx hZ hown (hw _ (List.mem_of_getElem? (i := 4) rfl)) (hw _ (List.mem_of_getElem? (i := 5) rfl)) (hw _ (List.mem_of_getElem? (i := 6) rfl)) eh1 (g := (mkF m 6 #[.val (.int p0), .val (.long q1), .second, .val (.long (own_pick p0 q1)), .second, .unset, .unset] [])) rfl (hb hby at_6) (by decide) (by decide)
  obtain ⟨b2, g2⟩ : ∃ z, z = h0.size := ⟨_, rfl⟩
  rw [← g2] at A2 D2 st2
  have gn_b2 : n0 ≤ b2 := Nat.le_trans Z0 (Nat.le_of_eq g2.symm)
  have Zs2 : n0 ≤ h2.size := Nat.le_trans Z0 E2.1
  have f3 : Fld Z h2 b2 "com/example/nousu/nousu/http/FixedLengthBody" "remaining" "J" (.long (0 : Int64)) := D2 (Or.inl (hw _ (List.mem_of_getElem? (i := 14) rfl))) (ty := .long) (by decide)
  refine own_by st2 ?_
  show own_Go p.tables e below (T2.setTop (mkF m 9 #[.val (.int p0), .val (.long q1), .second, .val (.long (own_pick p0 q1)), .second, .unset, .unset] [(.ref b2)])) _
  refine own_by (fun _ kt => XS.dup X2.here hx rfl (hb hby at_9) rfl rfl kt) ?_
  show own_Go p.tables e below (T2.setTop (mkF m 10 #[.val (.int p0), .val (.long q1), .second, .val (.long (own_pick p0 q1)), .second, .unset, .unset] [(.ref b2), (.ref b2)])) _
  refine own_by (fun _ kt => XS.lloadN X2.here hx rfl (hb hby at_10) rfl kt) ?_
  show own_Go p.tables e below (T2.setTop (mkF m 11 #[.val (.int p0), .val (.long q1), .second, .val (.long (own_pick p0 q1)), .second, .unset, .unset] [(.long (own_pick p0 q1)), (.ref b2), (.ref b2)])) _
  obtain ⟨_, _, ⟨T4, L4, k4, n4⟩, -, X4, ⟨Lc4, hQ4, l4, y4, z4⟩, st4⟩ := X2.specialBack hx (y := (⟨"com/example/nousu/nousu/http/FixedLengthBody", "<init>", "(J)V"⟩ : MethodName)) rfl hown (mvT hZ (hw _ (List.mem_of_getElem? (i := 7) rfl))) (mvT hZ (hw _ (List.mem_of_getElem? (i := 8) rfl))) (mvT hZ (hw _ (List.mem_of_getElem? (i := 9) rfl))) (by decide) (backOf (W := 1) (rm_init l Z a0 hw [] b2 (own_pick p0 q1)  h2 n0 Zs2 f3 A2 gn_b2) hZ (hw _ (List.mem_of_getElem? (i := 9) rfl)) (hw _ (List.mem_of_getElem? (i := 6) rfl)) (by decide) (by decide)) (g := (mkF m 11 #[.val (.int p0), .val (.long q1), .second, .val (.long (own_pick p0 q1)), .second, .unset, .unset] [(.long (own_pick p0 q1)), (.ref b2), (.ref b2)])) rfl (by rw [hml]; rfl) (Steps.refl _) (a := b2) (argsL := [(.long (own_pick p0 q1))]) (rest := [(.ref b2)]) (lenOf pd_2 rfl) rfl (by show 2 * 0 + _ ≤ _; exact Nat.le_of_eq rfl) (hb hby at_11) (fun _ _ => ⟨rfl, e2, (by decide : 1 + 0 ≤ _), (by decide : 1 + 0 ≤ _)⟩)
  dsimp only [Pt.U, Pt.locs, Pt.cells, Pt.slots] at X4 l4 y4 z4 st4 hQ4
  subst l4 y4 z4
  obtain ⟨rfl, Nq4, K4, f4_0, f4_1⟩ := hQ4
  have f5 := A2.keep K4
  have Zs4 : n0 ≤ T4.heap.size := Nat.le_trans Zs2 K4.1
  have N4 := Fr.app N1 Nq4
  refine own_by (fun _ kt => st4.trans kt) ?_
  show own_Go p.tables e below (T4.setTop (mkF m 14 #[.val (.int p0), .val (.long q1), .second, .val (.long (own_pick p0 q1)), .second, .unset, .unset] [(.ref b2)])) _
  refine own_by (fun _ kt => XS.astore X4.here hx rfl (hb hby at_14) rfl rfl (l' := #[.val (.int p0), .val (.long q1), .second, .val (.long (own_pick p0 q1)), .second, .val (.ref b2), .unset]) rfl kt) ?_
  show own_Go p.tables e below (T4.setTop (mkF m 16 #[.val (.int p0), .val (.long q1), .second, .val (.long (own_pick p0 q1)), .second, .val (.ref b2), .unset] [])) _
  refine own_by (fun _ kt => XS.lloadN X4.here hx rfl (hb hby at_16) rfl kt) ?_
  show own_Go p.tables e below (T4.setTop (mkF m 17 #[.val (.int p0), .val (.long q1), .second, .val (.long (own_pick p0 q1)), .second, .val (.ref b2), .unset] [(.long (own_pick p0 q1))])) _
  refine own_by (fun _ kt => XS.lconst X4.here hx rfl (hb hby at_17) kt) ?_
  show own_Go p.tables e below (T4.setTop (mkF m 18 #[.val (.int p0), .val (.long q1), .second, .val (.long (own_pick p0 q1)), .second, .val (.ref b2), .unset] [(.long (0 : Int64)), (.long (own_pick p0 q1))])) _
  refine own_by (fun _ kt => XS.lcmp X4.here hx rfl (hb hby at_18) rfl kt) ?_
  show own_Go p.tables e below (T4.setTop (mkF m 19 #[.val (.int p0), .val (.long q1), .second, .val (.long (own_pick p0 q1)), .second, .val (.ref b2), .unset] [(.int (lcmpW (own_pick p0 q1) (0 : Int64)))])) _
  by_cases hc19_6 : (lcmpW (own_pick p0 q1) (0 : Int64)) = (0 : Int32)
  · refine own_by (fun _ kt => XS.ifNo X4.here hx rfl (hb hby at_19) rfl ((if0 _ _).trans (teq hc19_6).2) kt) ?_
    show own_Go p.tables e below (T4.setTop (mkF m 22 #[.val (.int p0), .val (.long q1), .second, .val (.long (own_pick p0 q1)), .second, .val (.ref b2), .unset] [])) _
    refine own_by (fun _ kt => XS.iconst X4.here hx rfl (hb hby at_22) kt) ?_
    show own_Go p.tables e below (T4.setTop (mkF m 23 #[.val (.int p0), .val (.long q1), .second, .val (.long (own_pick p0 q1)), .second, .val (.ref b2), .unset] [(.int (1 : Int32))])) _
    refine own_by (fun _ kt => XS.goto X4.here hx rfl (pc0 := 23) (pc' := 27) rfl (hb hby at_23) (by decide) (by decide) kt) ?_
    show own_Go p.tables e below (T4.setTop (mkF m 27 #[.val (.int p0), .val (.long q1), .second, .val (.long (own_pick p0 q1)), .second, .val (.ref b2), .unset] [(.int (1 : Int32))])) _
    refine own_by (fun _ kt => XS.istore X4.here hx rfl (hb hby at_27) rfl (l' := #[.val (.int p0), .val (.long q1), .second, .val (.long (own_pick p0 q1)), .second, .val (.ref b2), .val (.int (1 : Int32))]) rfl kt) ?_
    show own_Go p.tables e below (T4.setTop (mkF m 29 #[.val (.int p0), .val (.long q1), .second, .val (.long (own_pick p0 q1)), .second, .val (.ref b2), .val (.int (1 : Int32))] [])) _
    refine own_by (fun _ kt => XS.aload X4.here hx rfl (hb hby at_29) rfl rfl kt) ?_
    show own_Go p.tables e below (T4.setTop (mkF m 31 #[.val (.int p0), .val (.long q1), .second, .val (.long (own_pick p0 q1)), .second, .val (.ref b2), .val (.int (1 : Int32))] [(.ref b2)])) _
    obtain ⟨cq7, kq7, q7a, q7b, q7c⟩ := isOf hZ rfl f4_0
    obtain ⟨_, _, ⟨T7, L7, k7, n7⟩, -, X7, ⟨Lc7, hQ7, l7, y7, z7⟩, st7⟩ := X4.virtualBack hx (y := (⟨"com/example/nousu/nousu/http/FixedLengthBody", "isComplete", "()Z"⟩ : MethodName)) (z := (⟨"com/example/nousu/nousu/http/FixedLengthBody", "isComplete", "()Z"⟩ : MethodName)) hown (mvT hZ (hw _ (List.mem_of_getElem? (i := 15) rfl))) (mvT hZ (hw _ (List.mem_of_getElem? (i := 16) rfl))) (notFace_of_selects (args := #[]) (mvT hZ (hw _ (List.mem_of_getElem? (i := 18) rfl)))) (mvT hZ (hw _ (List.mem_of_getElem? (i := 18) rfl))) (mvT hZ (hw _ (List.mem_of_getElem? (i := 17) rfl))) (by decide) (backOf (W := 0) (rm_done l Z a0 hw [] b2 ((own_pick p0 q1)) T4.heap n0 Zs4 f4_1) hZ (hw _ (List.mem_of_getElem? (i := 19) rfl)) (hw _ (List.mem_of_getElem? (i := 6) rfl)) (by decide) (by decide)) q7a q7c (g := (mkF m 31 #[.val (.int p0), .val (.long q1), .second, .val (.long (own_pick p0 q1)), .second, .val (.ref b2), .val (.int (1 : Int32))] [(.ref b2)])) rfl (by rw [hml]; rfl) (Steps.refl _) (argsL := []) (rest := []) (lenOf pd_3 rfl) rfl (by show 2 * 0 + _ ≤ _; exact Nat.le_of_eq rfl) (hb hby at_31) (fun _ _ => ⟨rfl, rfl, (by decide : 1 + 0 ≤ _), (by decide : 1 + 0 ≤ _)⟩)
    dsimp only [Pt.U, Pt.locs, Pt.cells, Pt.slots] at X7 l7 y7 z7 st7 hQ7
    subst l7 y7 z7
    obtain ⟨rfl, Nq7, eh7⟩ := hQ7
    have N7 := Fr.app N4 Nq7
    refine own_by (fun _ kt => st7.trans kt) ?_
    show own_Go p.tables e below (T7.setTop (mkF m 34 #[.val (.int p0), .val (.long q1), .second, .val (.long (own_pick p0 q1)), .second, .val (.ref b2), .val (.int (1 : Int32))] [(.int (own_done (own_pick p0 q1)))])) _
    refine own_by (fun _ kt => XS.iload X7.here hx rfl (hb hby at_34) rfl kt) ?_
    show own_Go p.tables e below (T7.setTop (mkF m 36 #[.val (.int p0), .val (.long q1), .second, .val (.long (own_pick p0 q1)), .second, .val (.ref b2), .val (.int (1 : Int32))] [(.int (1 : Int32)), (.int (own_done (own_pick p0 q1)))])) _
    refine own_by (fun _ kt => XS.icmpNo X7.here hx rfl (hb hby at_36) rfl (teq ((if_pos hc19_6 : own_done _ = 1) : (own_done (own_pick p0 q1)) = (1 : Int32))).2 kt) ?_
    show own_Go p.tables e below (T7.setTop (mkF m 39 #[.val (.int p0), .val (.long q1), .second, .val (.long (own_pick p0 q1)), .second, .val (.ref b2), .val (.int (1 : Int32))] [])) _
    refine own_by (fun _ kt => XS.iconst X7.here hx rfl (hb hby at_39) kt) ?_
    show own_Go p.tables e below (T7.setTop (mkF m 40 #[.val (.int p0), .val (.long q1), .second, .val (.long (own_pick p0 q1)), .second, .val (.ref b2), .val (.int (1 : Int32))] [(.int (1 : Int32))])) _
    refine own_by (fun _ kt => XS.goto X7.here hx rfl (pc0 := 40) (pc' := 44) rfl (hb hby at_40) (by decide) (by decide) kt) ?_
    show own_Go p.tables e below (T7.setTop (mkF m 44 #[.val (.int p0), .val (.long q1), .second, .val (.long (own_pick p0 q1)), .second, .val (.ref b2), .val (.int (1 : Int32))] [(.int (1 : Int32))])) _
    exact own_retN X7 hx (t := .boolean) Bd.returns hlk (by simp) (hb hby at_44) ⟨rfl, N7⟩ (by decide) (by decide)
  · refine own_by (fun _ kt => XS.ifYes X4.here hx rfl (pc0 := 19) (pc' := 26) rfl (hb hby at_19) rfl ((if0 _ _).trans (feq hc19_6).2) (by decide) (by decide) kt) ?_
    show own_Go p.tables e below (T4.setTop (mkF m 26 #[.val (.int p0), .val (.long q1), .second, .val (.long (own_pick p0 q1)), .second, .val (.ref b2), .unset] [])) _
    refine own_by (fun _ kt => XS.iconst X4.here hx rfl (hb hby at_26) kt) ?_
    show own_Go p.tables e below (T4.setTop (mkF m 27 #[.val (.int p0), .val (.long q1), .second, .val (.long (own_pick p0 q1)), .second, .val (.ref b2), .unset] [(.int (0 : Int32))])) _
    refine own_by (fun _ kt => XS.istore X4.here hx rfl (hb hby at_27) rfl (l' := #[.val (.int p0), .val (.long q1), .second, .val (.long (own_pick p0 q1)), .second, .val (.ref b2), .val (.int (0 : Int32))]) rfl kt) ?_
    show own_Go p.tables e below (T4.setTop (mkF m 29 #[.val (.int p0), .val (.long q1), .second, .val (.long (own_pick p0 q1)), .second, .val (.ref b2), .val (.int (0 : Int32))] [])) _
    refine own_by (fun _ kt => XS.aload X4.here hx rfl (hb hby at_29) rfl rfl kt) ?_
    show own_Go p.tables e below (T4.setTop (mkF m 31 #[.val (.int p0), .val (.long q1), .second, .val (.long (own_pick p0 q1)), .second, .val (.ref b2), .val (.int (0 : Int32))] [(.ref b2)])) _
    obtain ⟨cq8, kq8, q8a, q8b, q8c⟩ := isOf hZ rfl f4_0
    obtain ⟨_, _, ⟨T8, L8, k8, n8⟩, -, X8, ⟨Lc8, hQ8, l8, y8, z8⟩, st8⟩ := X4.virtualBack hx (y := (⟨"com/example/nousu/nousu/http/FixedLengthBody", "isComplete", "()Z"⟩ : MethodName)) (z := (⟨"com/example/nousu/nousu/http/FixedLengthBody", "isComplete", "()Z"⟩ : MethodName)) hown (mvT hZ (hw _ (List.mem_of_getElem? (i := 15) rfl))) (mvT hZ (hw _ (List.mem_of_getElem? (i := 16) rfl))) (notFace_of_selects (args := #[]) (mvT hZ (hw _ (List.mem_of_getElem? (i := 18) rfl)))) (mvT hZ (hw _ (List.mem_of_getElem? (i := 18) rfl))) (mvT hZ (hw _ (List.mem_of_getElem? (i := 17) rfl))) (by decide) (backOf (W := 0) (rm_done l Z a0 hw [] b2 ((own_pick p0 q1)) T4.heap n0 Zs4 f4_1) hZ (hw _ (List.mem_of_getElem? (i := 19) rfl)) (hw _ (List.mem_of_getElem? (i := 6) rfl)) (by decide) (by decide)) q8a q8c (g := (mkF m 31 #[.val (.int p0), .val (.long q1), .second, .val (.long (own_pick p0 q1)), .second, .val (.ref b2), .val (.int (0 : Int32))] [(.ref b2)])) rfl (by rw [hml]; rfl) (Steps.refl _) (argsL := []) (rest := []) (lenOf pd_3 rfl) rfl (by show 2 * 0 + _ ≤ _; exact Nat.le_of_eq rfl) (hb hby at_31) (fun _ _ => ⟨rfl, rfl, (by decide : 1 + 0 ≤ _), (by decide : 1 + 0 ≤ _)⟩)
    dsimp only [Pt.U, Pt.locs, Pt.cells, Pt.slots] at X8 l8 y8 z8 st8 hQ8
    subst l8 y8 z8
    obtain ⟨rfl, Nq8, eh8⟩ := hQ8
    have N8 := Fr.app N4 Nq8
    refine own_by (fun _ kt => st8.trans kt) ?_
    show own_Go p.tables e below (T8.setTop (mkF m 34 #[.val (.int p0), .val (.long q1), .second, .val (.long (own_pick p0 q1)), .second, .val (.ref b2), .val (.int (0 : Int32))] [(.int (own_done (own_pick p0 q1)))])) _
    refine own_by (fun _ kt => XS.iload X8.here hx rfl (hb hby at_34) rfl kt) ?_
    show own_Go p.tables e below (T8.setTop (mkF m 36 #[.val (.int p0), .val (.long q1), .second, .val (.long (own_pick p0 q1)), .second, .val (.ref b2), .val (.int (0 : Int32))] [(.int (0 : Int32)), (.int (own_done (own_pick p0 q1)))])) _
    refine own_by (fun _ kt => XS.icmpNo X8.here hx rfl (hb hby at_36) rfl (teq ((if_neg hc19_6 : own_done _ = 0) : (own_done (own_pick p0 q1)) = (0 : Int32))).2 kt) ?_
    show own_Go p.tables e below (T8.setTop (mkF m 39 #[.val (.int p0), .val (.long q1), .second, .val (.long (own_pick p0 q1)), .second, .val (.ref b2), .val (.int (0 : Int32))] [])) _
    refine own_by (fun _ kt => XS.iconst X8.here hx rfl (hb hby at_39) kt) ?_
    show own_Go p.tables e below (T8.setTop (mkF m 40 #[.val (.int p0), .val (.long q1), .second, .val (.long (own_pick p0 q1)), .second, .val (.ref b2), .val (.int (0 : Int32))] [(.int (1 : Int32))])) _
    refine own_by (fun _ kt => XS.goto X8.here hx rfl (pc0 := 40) (pc' := 44) rfl (hb hby at_40) (by decide) (by decide) kt) ?_
    show own_Go p.tables e below (T8.setTop (mkF m 44 #[.val (.int p0), .val (.long q1), .second, .val (.long (own_pick p0 q1)), .second, .val (.ref b2), .val (.int (0 : Int32))] [(.int (1 : Int32))])) _
    exact own_retN X8 hx (t := .boolean) Bd.returns hlk (by simp) (hb hby at_44) ⟨rfl, N8⟩ (by decide) (by decide)
set_option maxRecDepth 65536 in
set_option maxHeartbeats 40000000 in
theorem comes_1 {Post : Tables → Env → Array Value → State → Outcome → State → Prop} (hpost : ∀ tb e args s v u, (limb_1_1.after args s (.returned v) u = true ∧ limb_1_2.after args s (.returned v) u = true ∧ True) → FrameEnd s (.returned v) u (Jvm.fieldLocs frame_1_writes args s ++ Jvm.arrayLocs frame_1_arrays args s ++ Jvm.staticLocs frame_1_statics s) 16 128 → Post tb e args s (.returned v) u) :
    ArmFor flags0 classFile x code maxLocals ret World_1 tables_1 room_1 Calls_1 rest_1 Pre_1 Post := by
  intro l hfl _ _ p e ha hc hk s m args below hf hA hF happ hP
  obtain ⟨hcalls, hrest, hpre⟩ := hP
  obtain ⟨-, -, -, hnamed, -, -, -, hat⟩ := (Spec.applies_iff hf).mp happ
  obtain ⟨hg, hn⟩ := and_e (Cond.before_iff.mp (show (Jvm.Cond.and given_1 narrow_1).before args s = true from hpre))
  obtain ⟨hcnt, g0⟩ := and_e hg
  obtain ⟨i0, g1⟩ := and_e g0
  obtain ⟨w0, w1, rfl⟩ : ∃ w0 w1 : Value, args = #[w0, w1] := by
    have hs : args.size = 2 := by simpa [Cond.value, given_1] using hcnt
    obtain ⟨L⟩ := args
    match L, hs with
    | [w0, w1], _ => exact ⟨w0, w1, rfl⟩
  have hw := fun d (hd : d ∈ tables_1) => atoms_spec (ws := Jvm.Cond.code x code maxLocals ret :: tables_1) hat d (List.mem_cons_of_mem _ hd)
  obtain ⟨v0, ev0⟩ := is_v i0
  obtain rfl : w0 = (.int v0) := Option.some.inj ev0
  obtain ⟨v1, ev1⟩ := isL_v g1
  obtain rfl : w1 = (.long v1) := Option.some.inj ev1
  obtain ⟨n, o, h1, h2, h3, _, L, rfl, ⟨rfl, N⟩, hq⟩ := rm_law l s _ hw tables_1 v0 v1  s.heap s.heap.size (Nat.le_refl _)  p e ha hc hk s m _ below hf ((Spec.applies_iff_loose hf).mp happ).1 ⟨rfl, State.Warmed39.refl s, rfl⟩ trivial
  refine ⟨n, _, h1, h2, h3, hpost _ _ _ _ _ _ ⟨Cond.after_iff.mpr rfl, Cond.after_iff.mpr (eq_i res_at (Term.int_eval (1)) rfl), trivial⟩ ⟨hq.1, hq.2.1, (hq.2.2.sift fun y hy => Or.inr (N y hy)).mono (by decide) (by decide)⟩⟩
theorem main_1_1 : Claimed_1_1 := comes_1 fun _ _ _ _ _ _ h hF => ⟨h.1, hF⟩
theorem main_1_2 : Claimed_1_2 := comes_1 fun _ _ _ _ _ _ h hF => ⟨h.2.1, hF⟩
end Jvm.Pilot.@@N@@
namespace Jvm.Pilot.@@N@@
open Jvm Jvm.ClassFile Sem Op Lib Jvm.Free Jvm.Stand Jvm.Pilot.@@N@@.Jvm.D
/-! MADE BY PROGRAM (witnessworld.py) out of the Statement's table words and the real class files: 10 classes; the members and pool entries that the words name. The judged class is class 1, her method 2. -/
namespace start1
open Jvm.ClassFile
def u (s : String) : CpInfo := .utf8 (stringToUtf16 s)
/-- a pool by its gaps: so many unusable entries, then the entry; so many at the end -/
def gap : Nat → List CpInfo → List CpInfo
  | 0, r => r
  | n + 1, r => .unusable :: gap n r
def poolList (es : List (Nat × CpInfo)) (last : Nat) : List CpInfo := es.foldr (fun e r => gap e.1 (e.2 :: r)) (gap last [])
def pool (es : List (Nat × CpInfo)) (last : Nat) : Array CpInfo := ⟨poolList es last⟩
def fileOf (pool : Array CpInfo) (this : Nat) (attrs : Array Attribute := #[]) (ms : Array MethodInfo := #[]) (fl : Nat := 33) (sup : Nat := 0) (ifs : Array Nat := #[]) (fds : Array FieldInfo := #[]) : ClassFile where
  minorVersion := 0
  majorVersion := 65
  constantPool := pool
  accessFlags := fl
  thisClass := this
  superClass := sup
  interfaces := ifs
  fields := fds
  methods := ms
  attributes := attrs
def plain (name : String) (sup : Option ClassId) : Class where
  name := name
  kind := .ordinary
  loader := none
  accessFlags := 33
  super := sup
  interfaces := #[]
  cf := none
  fields := #[]
  methods := #[]
  instanceTypes := #[]
  staticTypes := #[]
  resolved := #[]
  callSites := []
  init := .initialized
  statics := none
  mirror := none

def pool0 : Array CpInfo := pool [(5, u "<init>"), (0, u "()V"), (1, .class_ 10), (1, u "java/lang/Object")] 113

def k0c0 : Code := { maxStack := 0, maxLocals := 1, code := object_method_1_code, exceptionTable := #[], attributes := #[] }
def k0m0 : Method := { name := "<init>", desc := "()V", sig := { parameters := [], returnType := none }, accessFlags := 1, code := some k0c0 }
/-- java/lang/Object -/
def k0 : Class := { plain "java/lang/Object" none with
  accessFlags := 33
  interfaces := #[]
  cf := some (fileOf pool0 8 #[] #[{ accessFlags := 1, nameIndex := 5, descriptorIndex := 6, attributes := #[] }] 33 0 #[] #[])
  fields := #[]
  methods := #[k0m0]
  instanceTypes := #[]
  staticTypes := #[]
  resolved := Array.replicate 124 none
  statics := none }

def pool1 : Array CpInfo := pool [(2, .class_ 4), (1, u "java/lang/Object"), (0, u "<init>"), (0, u "()V"), (2, .long 9223372036854775807), (1, .methodref 12 13), (0, .class_ 14), (0, .nameAndType 15 16), (0, u "com/example/nousu/nousu/http/FixedLengthBodyIsCompletePinLaw"), (0, u "pickLength"), (0, u "(IJ)J"), (0, .class_ 18), (0, u "com/example/nousu/nousu/http/FixedLengthBody"), (0, .methodref 17 20), (0, .nameAndType 5 21), (0, u "(J)V"), (0, .methodref 17 23), (0, .nameAndType 24 25), (0, u "isComplete"), (0, u "()Z"), (3, u "law"), (0, u "(IJ)Z")] 2

def k1m0 : Method := { name := "<init>", desc := "()V", sig := { parameters := [], returnType := none }, accessFlags := 2, code := none }
def k1c1 : Code := { maxStack := 4, maxLocals := 4, code := method_2_code, exceptionTable := #[], attributes := #[] }
def k1m1 : Method := { name := "pickLength", desc := "(IJ)J", sig := { parameters := [.int, .long], returnType := some .long }, accessFlags := 10, code := some k1c1 }
def k1c2 : Code := { maxStack := 4, maxLocals := 7, code := code, exceptionTable := #[], attributes := #[] }
def k1m2 : Method := { name := "law", desc := "(IJ)Z", sig := { parameters := [.int, .long], returnType := some .boolean }, accessFlags := 9, code := some k1c2 }
/-- com/example/nousu/nousu/http/FixedLengthBodyIsCompletePinLaw -/
def k1 : Class := { plain "com/example/nousu/nousu/http/FixedLengthBodyIsCompletePinLaw" (some 0) with
  accessFlags := 49
  interfaces := #[]
  cf := some (fileOf pool1 12 #[] #[{ accessFlags := 2, nameIndex := 5, descriptorIndex := 6, attributes := #[] }, { accessFlags := 10, nameIndex := 15, descriptorIndex := 16, attributes := #[] }, { accessFlags := 9, nameIndex := 29, descriptorIndex := 30, attributes := #[] }] 49 2 #[] #[])
  fields := #[]
  methods := #[k1m0, k1m1, k1m2]
  instanceTypes := #[]
  staticTypes := #[]
  resolved := Array.replicate 33 none
  statics := none }

def pool2 : Array CpInfo := pool [(1, .class_ 2), (0, u "com/example/nousu/nousu/http/BodyTransfer"), (0, .class_ 4), (0, u "java/lang/Object")] 13

/-- com/example/nousu/nousu/http/BodyTransfer -/
def k2 : Class := { plain "com/example/nousu/nousu/http/BodyTransfer" (some 0) with
  accessFlags := 1537
  interfaces := #[]
  cf := some (fileOf pool2 1 #[] #[] 1537 3 #[] #[])
  fields := #[]
  methods := #[]
  instanceTypes := #[]
  staticTypes := #[]
  resolved := Array.replicate 18 none
  statics := none }

def pool3 : Array CpInfo := pool [(1, .methodref 2 3), (0, .class_ 4), (0, .nameAndType 5 6), (0, u "java/lang/Object"), (0, u "<init>"), (0, u "()V"), (0, .fieldref 8 9), (0, .class_ 10), (0, .nameAndType 11 12), (0, u "com/example/nousu/nousu/http/FixedLengthBody"), (0, u "remaining"), (0, u "J"), (10, .class_ 24), (0, u "com/example/nousu/nousu/http/BodyTransfer"), (0, u "(J)V"), (5, u "()Z"), (4, u "isComplete")] 2

def k3c0 : Code := { maxStack := 3, maxLocals := 3, code := prog_21_method_1_code, exceptionTable := #[], attributes := #[] }
def k3m0 : Method := { name := "<init>", desc := "(J)V", sig := { parameters := [.long], returnType := none }, accessFlags := 1, code := some k3c0 }
def k3c1 : Code := { maxStack := 4, maxLocals := 1, code := prog_21_method_6_code, exceptionTable := #[], attributes := #[] }
def k3m1 : Method := { name := "isComplete", desc := "()Z", sig := { parameters := [], returnType := some .boolean }, accessFlags := 1, code := some k3c1 }
/-- com/example/nousu/nousu/http/FixedLengthBody -/
def k3 : Class := { plain "com/example/nousu/nousu/http/FixedLengthBody" (some 0) with
  accessFlags := 33
  interfaces := #[2]
  cf := some (fileOf pool3 8 #[] #[{ accessFlags := 1, nameIndex := 5, descriptorIndex := 25, attributes := #[] }, { accessFlags := 1, nameIndex := 36, descriptorIndex := 31, attributes := #[] }] 33 2 #[23] #[{ accessFlags := 2, nameIndex := 11, descriptorIndex := 12, attributes := #[] }])
  fields := #[{ name := "remaining", type := .long, accessFlags := 2, slot := 0, constantValue := 0 }]
  methods := #[k3m0, k3m1]
  instanceTypes := #[.long]
  staticTypes := #[]
  resolved := Array.replicate 39 none
  statics := none }

def pool4 : Array CpInfo := pool [(1, u "java/lang/Cloneable"), (0, .class_ 1), (0, u "java/lang/Object"), (0, .class_ 3)] 3

/-- java/lang/Cloneable -/
def k4 : Class := { plain "java/lang/Cloneable" (some 0) with
  accessFlags := 1537
  interfaces := #[]
  cf := some (fileOf pool4 2 #[] #[] 1537 4 #[] #[])
  fields := #[]
  methods := #[]
  instanceTypes := #[]
  staticTypes := #[]
  resolved := Array.replicate 8 none
  statics := none }

def pool5 : Array CpInfo := pool [(1, u "java/io/Serializable"), (0, .class_ 1), (0, u "java/lang/Object"), (0, .class_ 3)] 3

/-- java/io/Serializable -/
def k5 : Class := { plain "java/io/Serializable" (some 0) with
  accessFlags := 1537
  interfaces := #[]
  cf := some (fileOf pool5 2 #[] #[] 1537 4 #[] #[])
  fields := #[]
  methods := #[]
  instanceTypes := #[]
  staticTypes := #[]
  resolved := Array.replicate 8 none
  statics := none }

/-- the primitive byte -/
def k6 : Class := { plain "byte" none with kind := .primitive 'B', accessFlags := 0x411 }
/-- [B -/
def k7 : Class := { plain "[B" (some 0) with kind := .array 6 .byte, interfaces := #[4, 5], accessFlags := 1041 }

/-- the primitive int -/
def k8 : Class := { plain "int" none with kind := .primitive 'I', accessFlags := 0x411 }
/-- [I -/
def k9 : Class := { plain "[I" (some 0) with kind := .array 8 .int, interfaces := #[4, 5], accessFlags := 1041 }

def heap : Heap := #[]
def classes : Array Class := #[k0, k1, k2, k3, k4, k5, k6, k7, k8, k9]
def interned : List (Array UInt16 × Addr) := []
def slotsUsed : Nat := 0
def theMethod : MethodId := ⟨1, 2⟩
def args0 : Array Value := #[.int 3, .long 70]
def aboutOver (below : List Frame) : State where
  vm := { classes := classes, interned := interned.toArray }
  heap := heap
  slotsUsed := slotsUsed
  threads := #[{ frames := .invoking theMethod args0 :: below }]
def below0 : List Frame := [.native { method := ⟨0, 0⟩, args := #[] }]
def about1 : State := aboutOver below0
def p0 : Program := .bare "" "" ""
def e0 : Env := launch0.env 0 0 0
theorem w_frames : about1.frames = Frame.invoking theMethod args0 :: below0 := rfl
set_option maxRecDepth 65536 in
theorem w_args : argsFit about1.vm theMethod args0 = true := by decide +kernel
set_option maxRecDepth 65536 in
theorem w_heap : heapFits about1 = true := by decide +kernel
set_option maxRecDepth 65536 in
theorem w_runnable : about1.curStatus? = some .runnable := by decide +kernel
set_option maxRecDepth 65536 in
theorem w_alone : about1.alone = true := by decide +kernel
set_option maxRecDepth 65536 in
theorem w_named : about1.methodNamed? x = some theMethod := by decide +kernel
set_option maxRecDepth 65536 in
theorem w_hears : about1.hears theMethod below0 = true := by decide +kernel
set_option maxRecDepth 65536 in
theorem w_ripe : about1.ripe theMethod args0 below0 = true := by decide +kernel
theorem w_running : about1.status = .running := rfl
set_option maxRecDepth 65536 in
theorem w_room : about1.hasRoom e0.platform room_1 = true :=
  launch0.hasRoom_least _ room_1 (by decide +kernel) (by decide +kernel) (by decide +kernel) (by decide +kernel) (by decide +kernel) (by decide +kernel)
theorem allAtoms_all (ts : List Jvm.Cond) (a : Array Jvm.Value) (st : Jvm.State) : (allAtoms ts).before a st = ts.all (fun c => c.before a st) := by
  induction ts with
  | nil => rfl
  | cons c t ih =>
    show (Jvm.Cond.and c (allAtoms t)).before a st = _
    rw [Jvm.Cond.before_and, ih, List.all_cons]
def words1 : List Jvm.Cond := Jvm.Cond.code x code maxLocals ret :: tables_1
/-- a 'code' word, met by the world's own term for the bytes: nothing is compared byte by byte -/
theorem code_word {y : MethodName} {bytes : ByteArray} {mx : Nat} {rt : Option FieldType} {a : Array Value} {s : State} {m : MethodId} {meth : Method} {c : Code} (h1 : s.methodNamed? y = some m) (h2 : s.vm.method? m = some meth) (h3 : meth.code = some c) (h4 : c.code = bytes)
    (h5 : (c.maxLocals == mx && c.exceptionTable.isEmpty && decide (c.maxStack ≤ mostOperands) && decide (meth.sig.returnType = rt) && !meth.locks && decide (parseMethodDescriptor y.desc = some meth.sig)) = true) : (Jvm.Cond.code y bytes mx rt).before a s = true := by
  simp only [Bool.and_eq_true, beq_iff_eq, Bool.not_eq_true', decide_eq_true_eq] at h5
  obtain ⟨⟨⟨⟨⟨g1, g2⟩, g3⟩, g4⟩, g5⟩, g6⟩ := h5
  simp [Cond.before, Cond.holds, Cond.value, h1, h2, h3, h4, g1, g2, g3, g4, g5, g6]
def isCode : Jvm.Cond → Bool
  | .code _ _ _ _ => true
  | _ => false
theorem all_split {L : List Jvm.Cond} {P : Jvm.Cond → Bool} (h1 : L.all (fun c => isCode c || P c) = true) (h2 : ∀ c ∈ L.filter isCode, P c = true) : L.all P = true := by
  refine List.all_eq_true.mpr fun c hc => ?_
  have h := List.all_eq_true.mp h1 c hc
  rcases Bool.eq_false_or_eq_true (isCode c) with hi | hi
  · exact h2 c (List.mem_filter.mpr ⟨hc, hi⟩)
  · simpa [hi] using h
set_option maxRecDepth 65536 in
theorem w_c0 : (Jvm.Cond.code x code maxLocals ret).before args0 about1 = true := code_word (m := ⟨1, 2⟩) (meth := k1m2) (c := k1c2) (by decide +kernel) rfl rfl rfl (by decide +kernel)
set_option maxRecDepth 65536 in
theorem w_c1 : (Jvm.Cond.code ({ cls := "com/example/nousu/nousu/http/FixedLengthBodyIsCompletePinLaw", name := "pickLength", desc := "(IJ)J" } : Jvm.MethodName) method_2_code (4 : Nat) (Option.some Jvm.ClassFile.FieldType.long)).before args0 about1 = true := code_word (m := ⟨1, 1⟩) (meth := k1m1) (c := k1c1) (by decide +kernel) rfl rfl rfl (by decide +kernel)
set_option maxRecDepth 65536 in
theorem w_c2 : (Jvm.Cond.code ({ cls := "com/example/nousu/nousu/http/FixedLengthBody", name := "<init>", desc := "(J)V" } : Jvm.MethodName) prog_21_method_1_code (3 : Nat) (Option.none : Option Jvm.ClassFile.FieldType)).before args0 about1 = true := code_word (m := ⟨3, 0⟩) (meth := k3m0) (c := k3c0) (by decide +kernel) rfl rfl rfl (by decide +kernel)
set_option maxRecDepth 65536 in
theorem w_c3 : (Jvm.Cond.code ({ cls := "java/lang/Object", name := "<init>", desc := "()V" } : Jvm.MethodName) object_method_1_code (1 : Nat) (Option.none : Option Jvm.ClassFile.FieldType)).before args0 about1 = true := code_word (m := ⟨0, 0⟩) (meth := k0m0) (c := k0c0) (by decide +kernel) rfl rfl rfl (by decide +kernel)
set_option maxRecDepth 65536 in
theorem w_c4 : (Jvm.Cond.code ({ cls := "com/example/nousu/nousu/http/FixedLengthBody", name := "isComplete", desc := "()Z" } : Jvm.MethodName) prog_21_method_6_code (1 : Nat) (Option.some Jvm.ClassFile.FieldType.boolean)).before args0 about1 = true := code_word (m := ⟨3, 1⟩) (meth := k3m1) (c := k3c1) (by decide +kernel) rfl rfl rfl (by decide +kernel)
def codes1 : List Jvm.Cond := [Jvm.Cond.code x code maxLocals ret, Jvm.Cond.code ({ cls := "com/example/nousu/nousu/http/FixedLengthBodyIsCompletePinLaw", name := "pickLength", desc := "(IJ)J" } : Jvm.MethodName) method_2_code (4 : Nat) (Option.some Jvm.ClassFile.FieldType.long), Jvm.Cond.code ({ cls := "com/example/nousu/nousu/http/FixedLengthBody", name := "<init>", desc := "(J)V" } : Jvm.MethodName) prog_21_method_1_code (3 : Nat) (Option.none : Option Jvm.ClassFile.FieldType), Jvm.Cond.code ({ cls := "java/lang/Object", name := "<init>", desc := "()V" } : Jvm.MethodName) object_method_1_code (1 : Nat) (Option.none : Option Jvm.ClassFile.FieldType), Jvm.Cond.code ({ cls := "com/example/nousu/nousu/http/FixedLengthBody", name := "isComplete", desc := "()Z" } : Jvm.MethodName) prog_21_method_6_code (1 : Nat) (Option.some Jvm.ClassFile.FieldType.boolean)]
set_option maxRecDepth 65536 in
theorem codes_eq : words1.filter isCode = codes1 := rfl
theorem w_codes : ∀ c ∈ words1.filter isCode, c.before args0 about1 = true := by
  rw [codes_eq]
  intro c hc
  simp only [codes1, List.mem_cons, List.not_mem_nil, or_false] at hc
  rcases hc with rfl | rfl | rfl | rfl | rfl
  · exact w_c0
  · exact w_c1
  · exact w_c2
  · exact w_c3
  · exact w_c4
set_option maxRecDepth 65536 in
theorem w_t1 : words1.all (fun c => isCode c || c.before args0 about1) = true := by decide +kernel
theorem w_tables : (allAtoms (Jvm.Cond.code x code maxLocals ret :: tables_1)).before args0 about1 = true := by
  rw [allAtoms_all]
  show words1.all (fun c => c.before args0 about1) = true
  refine all_split ?_ w_codes
  rw [w_t1]
set_option maxRecDepth 65536 in
theorem w_case : (Jvm.Cond.and given_1 narrow_1).before args0 about1 = true := by decide +kernel
theorem w_applies : (headSpec (Jvm.Cond.code x code maxLocals ret :: tables_1) room_1).applies x e0.platform about1 = true :=
  (Spec.applies_iff w_frames).mpr ⟨w_running, w_runnable, w_alone, w_named, w_hears, w_ripe, w_room, w_tables⟩
theorem atStart : AtStart classFile x code maxLocals ret World_1 tables_1 room_1 Calls_1 rest_1 Pre_1 launch0 p0 e0 about1 theMethod args0 below0 :=
  ⟨lists_1, trivial, launch0.admits_env _ _ _, launch0.least_env, fairChoices_fair.cas, fairChoices_fair.clock, w_frames, w_args, w_heap, w_applies, trivial, trivial, w_case⟩
end start1
theorem witness_1 : WitnessClaimed_1 := ⟨start1.p0, start1.e0, start1.about1, start1.theMethod, start1.args0, start1.below0, start1.atStart⟩
end Jvm.Pilot.@@N@@
