import JvmDerived
import JvmDerived.Pilot.@@N@@Statement
import JvmDerived.Pilot.@@N@@Code
set_option linter.unusedVariables false
set_option linter.unusedSimpArgs false
namespace Jvm.Pilot.@@N@@
open Jvm Jvm.ClassFile Sem Op Lib Jvm.Free Jvm.Stand Jvm.LawKit Jvm.RoadKit Bundle Jvm.Pilot.@@N@@.Jvm.D
/-! own_Go: a walk still to be made from the state A; every step of the machine is one own_by. -/
def own_Go (tb : Tables) (e : Env) (below : List Frame) (A : State) (R : Outcome → State → Prop) : Prop := ∃ s₂ o, Steps tb e below A s₂ ∧ s₂.status = .running ∧ Ended s₂ below o ∧ R o s₂
theorem own_by {tb : Tables} {e : Env} {below : List Frame} {A B : State} {R : Outcome → State → Prop} (h : ∀ t, Steps tb e below A t → Steps tb e below B t) (g : own_Go tb e below A R) : own_Go tb e below B R := by
  obtain ⟨s₂, o, h1, h2⟩ := g
  exact ⟨s₂, o, h _ h1, h2⟩
def own_R (s : State) (Q : Option Value → Heap → List Loc → Prop) (cc nn : Nat) (o : Outcome) (U : State) : Prop := ∃ v L, o = .returned v ∧ Q v U.heap L ∧ FrameEnd s o U L cc nn
abbrev own_lrem (x y : Int64) : Int64 := x - (x / y) * y
section OwnEnds
variable {p : Program} {l : Launch} {e : Env} {R : Room} {s : State} {m : MethodId} {args : Array Value} {below : List Frame} {meth : Method} {c : Code} {T : State} {locs : List Loc} {cells slots : Nat} {Q : Option Value → Heap → List Loc → Prop} {cc nn : Nat}
theorem own_fin (X : Stand p l e R s m args below meth c T locs cells slots) {v : Option Value} (hv : meth.sig.returnType = none → v = none) (hlk : meth.locks = false) {B : State}
    (hs : ∀ fs, (∀ (f : JFrame) (acts : List Action), f.method = m → f.locked = none → f.entered = [] → (doReturn e (T.setTop f) acts v).1 = T.setFrames fs) → Steps p.tables e below B (T.setFrames fs))
    (hq : Q v T.heap locs) (hc : cells ≤ cc) (hn : slots ≤ nn) : own_Go p.tables e below B (own_R s Q cc nn) := by
  obtain ⟨fs, hr, hrun, hended, hW, hsame⟩ := X.leave hv hlk
  exact ⟨_, _, hs fs hr, hrun, hended, v, locs, rfl, hq, ⟨_, rfl⟩, hW, hsame.mono hc hn⟩
theorem own_retN (X : Stand p l e R s m args below meth c T locs cells slots) (hx : p.tables.exec = Jvm.exec) {pc : Nat} {Ls : Array Slot} {z : Int32} {t : FieldType} {rest : List Value} (hret : meth.sig.returnType = some t) (hlk : meth.locks = false) (ht : t = .boolean ∨ t = .byte ∨ t = .char ∨ t = .short)
    (hd : decode c.code pc = .ok (.ireturn, 1)) (hq : Q (some (.int (nar t z))) T.heap locs) (hc : cells ≤ cc) (hn : slots ≤ nn) : own_Go p.tables e below (T.setTop (mkF m pc Ls (.int z :: rest))) (own_R s Q cc nn) :=
  own_fin X (fun h => by rw [hret] at h; cases h) hlk (fun fs hr => retN X hx hret ht hd hr) hq hc hn
theorem own_retI (X : Stand p l e R s m args below meth c T locs cells slots) (hx : p.tables.exec = Jvm.exec) {pc : Nat} {Ls : Array Slot} {z : Int32} (hret : meth.sig.returnType = some .int) (hlk : meth.locks = false)
    (hd : decode c.code pc = .ok (.ireturn, 1)) (hq : Q (some (.int z)) T.heap locs) (hc : cells ≤ cc) (hn : slots ≤ nn) : own_Go p.tables e below (T.setTop (mkF m pc Ls [.int z])) (own_R s Q cc nn) :=
  own_fin X (fun h => by rw [hret] at h; cases h) hlk (fun fs hr => X.ireturnOut hx hret rfl (Or.inl rfl) hd hr) hq hc hn
theorem own_retL (X : Stand p l e R s m args below meth c T locs cells slots) (hx : p.tables.exec = Jvm.exec) {pc : Nat} {Ls : Array Slot} {z : Int64} (hret : meth.sig.returnType = some .long) (hlk : meth.locks = false)
    (hd : decode c.code pc = .ok (.lreturn, 1)) (hq : Q (some (.long z)) T.heap locs) (hc : cells ≤ cc) (hn : slots ≤ nn) : own_Go p.tables e below (T.setTop (mkF m pc Ls [.long z])) (own_R s Q cc nn) :=
  own_fin X (fun h => by rw [hret] at h; cases h) hlk (fun fs hr => X.lreturnOut hx hret hd hr) hq hc hn
theorem own_retA (X : Stand p l e R s m args below meth c T locs cells slots) (hx : p.tables.exec = Jvm.exec) {pc : Nat} {Ls : Array Slot} {w : Value} {t : FieldType} (hret : meth.sig.returnType = some t) (hlk : meth.locks = false) (hw : w.isRef = true) (ht : t.isReference = true)
    (hd : decode c.code pc = .ok (.areturn, 1)) (hq : Q (some w) T.heap locs) (hc : cells ≤ cc) (hn : slots ≤ nn) : own_Go p.tables e below (T.setTop (mkF m pc Ls [w])) (own_R s Q cc nn) :=
  own_fin X (fun h => by rw [hret] at h; cases h) hlk (fun fs hr => X.areturnOut hx hw hret ht hd hr) hq hc hn
theorem own_retV (X : Stand p l e R s m args below meth c T locs cells slots) (hx : p.tables.exec = Jvm.exec) {pc : Nat} {Ls : Array Slot} (hret : meth.sig.returnType = none) (hlk : meth.locks = false)
    (hd : decode c.code pc = .ok (.return_, 1)) (hq : Q none T.heap locs) (hc : cells ≤ cc) (hn : slots ≤ nn) : own_Go p.tables e below (T.setTop (mkF m pc Ls [])) (own_R s Q cc nn) :=
  own_fin X (fun _ => rfl) hlk (fun fs hr => X.returnOut hx hret hd hr) hq hc hn
end OwnEnds
theorem own_nin {a b : Addr} (h : a ≠ b) : a ∉ [b] := fun q => h (List.mem_singleton.mp q)
theorem own_nin2 {a b c : Addr} (h : a ≠ b) (h' : a ≠ c) : a ∉ [b, c] := fun q => by
  rcases List.mem_cons.mp q with q | q
  · exact h q
  · exact h' (List.mem_singleton.mp q)
section OwnArrays
variable {p : Program} {l : Launch} {e : Env} {R : Room} {s : State} {m : MethodId} {args : Array Value} {below : List Frame} {meth : Method} {c : Code} {T : State} {locs : List Loc} {cells slots : Nat} {Z : State} {h : Heap} {a : Addr} {k : ClassId} {z j : Int32} {vs : List Value} {dv v : Value} {g : JFrame} {rest : List Value}
theorem own_iaload (X : Stand p l e R s m args below meth c T locs cells slots) (hx : p.tables.exec = Jvm.exec) (hZ : Z.Warmed39 s.vm) (eT : T.heap = h) (F : Arv Z h a k .int z vs dv) (hj : ¬ j < 0 ∧ j < z) (hv : vs.getD j.toNatClampNeg dv = v)
    (hg : g.method = m) (hs : g.stack = .int j :: .ref a :: rest) (hd : decode c.code g.pc = .ok (.iaload, 1)) (t : State) (kt : Steps p.tables e below (T.setTop { g with pc := g.pc + 1, stack := v :: rest }) t) : Steps p.tables e below (T.setTop g) t := by
  obtain ⟨cl, A, -, S, -, H, -⟩ := F
  exact X.iaload hx (by rw [eT]; exact A.1) (State.isArrayOf_alike hZ.alike A.2.1) A.2.2 (inb_of S hj) (H.at (inb_of S hj) hv) hg hs hd t kt
theorem own_caload (X : Stand p l e R s m args below meth c T locs cells slots) (hx : p.tables.exec = Jvm.exec) (hZ : Z.Warmed39 s.vm) (eT : T.heap = h) (F : Arv Z h a k .char z vs dv) (hj : ¬ j < 0 ∧ j < z) (hv : vs.getD j.toNatClampNeg dv = v)
    (hg : g.method = m) (hs : g.stack = .int j :: .ref a :: rest) (hd : decode c.code g.pc = .ok (.caload, 1)) (t : State) (kt : Steps p.tables e below (T.setTop { g with pc := g.pc + 1, stack := v :: rest }) t) : Steps p.tables e below (T.setTop g) t := by
  obtain ⟨cl, A, -, S, -, H, -⟩ := F
  exact X.caload hx (by rw [eT]; exact A.1) (State.isArrayOf_alike hZ.alike A.2.1) A.2.2 (inb_of S hj) (H.at (inb_of S hj) hv) hg hs hd t kt
theorem own_baload (X : Stand p l e R s m args below meth c T locs cells slots) (hx : p.tables.exec = Jvm.exec) (hZ : Z.Warmed39 s.vm) (eT : T.heap = h) (F : Arv Z h a k .byte z vs dv) (hj : ¬ j < 0 ∧ j < z) (hv : vs.getD j.toNatClampNeg dv = v)
    (hg : g.method = m) (hs : g.stack = .int j :: .ref a :: rest) (hd : decode c.code g.pc = .ok (.baload, 1)) (t : State) (kt : Steps p.tables e below (T.setTop { g with pc := g.pc + 1, stack := v :: rest }) t) : Steps p.tables e below (T.setTop g) t := by
  obtain ⟨cl, A, -, S, -, H, -⟩ := F
  exact X.baloadBytes hx (by rw [eT]; exact A.1) (State.isArrayOf_alike hZ.alike A.2.1) A.2.2 (inb_of S hj) (H.at (inb_of S hj) hv) hg hs hd t kt
theorem own_alen {ty : FieldType} (X : Stand p l e R s m args below meth c T locs cells slots) (hx : p.tables.exec = Jvm.exec) (hZ : Z.Warmed39 s.vm) (eT : T.heap = h) (F : Arv Z h a k ty z vs dv)
    (hg : g.method = m) (hs : g.stack = .ref a :: rest) (hd : decode c.code g.pc = .ok (.arraylength, 1)) (t : State) (kt : Steps p.tables e below (T.setTop { g with pc := g.pc + 1, stack := .int z :: rest }) t) : Steps p.tables e below (T.setTop g) t := by
  obtain ⟨cl, A, -, S, N, -, -⟩ := F
  exact X.arraylength hx (by rw [eT]; exact A.1) (State.isArrayOf_alike hZ.alike A.2.1) hg hs hd t (by rw [len_of S N]; exact kt)
end OwnArrays
section OwnBounds
variable {x k k' : Int32}
theorem own_i1 (h : x < k') (q : k'.toInt ≤ k.toInt) : x < k := by rw [Int32.lt_iff_toInt_lt] at *; omega
theorem own_i2 (h : ¬ k' < x) (q : k'.toInt < k.toInt) : x < k := by rw [Int32.lt_iff_toInt_lt] at *; omega
theorem own_i3 (h : ¬ x < k') (q : k.toInt ≤ k'.toInt) : ¬ x < k := by rw [Int32.lt_iff_toInt_lt] at *; omega
theorem own_i4 (h : k' < x) (q : k.toInt ≤ k'.toInt + 1) : ¬ x < k := by rw [Int32.lt_iff_toInt_lt] at *; omega
theorem own_j1 (h : k' < x) (q : k.toInt ≤ k'.toInt) : k < x := by rw [Int32.lt_iff_toInt_lt] at *; omega
theorem own_j2 (h : ¬ x < k') (q : k.toInt < k'.toInt) : k < x := by rw [Int32.lt_iff_toInt_lt] at *; omega
theorem own_j3 (h : ¬ k' < x) (q : k'.toInt ≤ k.toInt) : ¬ k < x := by rw [Int32.lt_iff_toInt_lt] at *; omega
theorem own_j4 (h : x < k') (q : k'.toInt ≤ k.toInt + 1) : ¬ k < x := by rw [Int32.lt_iff_toInt_lt] at *; omega
theorem own_q1 (h : x < k') (q : k'.toInt ≤ k.toInt) : ¬ x = k := fun u => by rw [Int32.lt_iff_toInt_lt] at *; subst u; omega
theorem own_q2 (h : k' < x) (q : k.toInt ≤ k'.toInt) : ¬ x = k := fun u => by rw [Int32.lt_iff_toInt_lt] at *; subst u; omega
theorem own_q3 (h : ¬ x < k') (q : k.toInt < k'.toInt) : ¬ x = k := fun u => by rw [Int32.lt_iff_toInt_lt] at *; subst u; omega
theorem own_q4 (h : ¬ k' < x) (q : k'.toInt < k.toInt) : ¬ x = k := fun u => by rw [Int32.lt_iff_toInt_lt] at *; subst u; omega
end OwnBounds
theorem own_sta_keep {Z : State} {h h' : Heap} {C n d : String} {w : Value} (F : Sta Z h C n d w) (K : Keep h h' []) : Sta Z h' C n d w := by
  obtain ⟨cf, i, k, f, st, cell, h1, h2, h3, h4, h5, r⟩ := F
  exact ⟨cf, i, k, f, st, cell, h1, h2, h3, h4, K.2.1 _ _ h5 List.not_mem_nil, r⟩
theorem own_lc_eq (x y : Int64) : lcmpW x y = 0 ↔ x = y := by rw [lcW]; exact lc_eq x y
theorem own_lc_lt (x y : Int64) : lcmpW x y < 0 ↔ x < y := by rw [lcW]; exact lc_lt x y
theorem own_lc_gt (x y : Int64) : 0 < lcmpW x y ↔ y < x := by rw [lcW]; exact lc_gt x y
theorem pn_0 : plainName "java/lang/Record" = true := by first | (simp [plainName, overriddenIn]; done) | decide +kernel
theorem d_jdk_30_method_1_code_0 : decode jdk_30_method_1_code 0 = .ok (.aload_n 0, 1) := by decide +kernel
theorem d_jdk_30_method_1_code_1 : decode jdk_30_method_1_code 1 = .ok (.invokespecial 1, 3) := by decide +kernel
theorem pd_0 : parseMethodDescriptor "()V" = some ⟨[], none⟩ := by decide +kernel
theorem d_jdk_30_method_1_code_4 : decode jdk_30_method_1_code 4 = .ok (.return_, 1) := by decide +kernel
theorem ef_1 (m : MethodId) (a : Addr) : entryFrame m #[(.ref a)] 1 = mkF m 0 #[.val (.ref a)] [] := by first | (simp [entryFrame, mkF, argsToLocals, Value.category]; done) | rfl
def Q_rm_record (Z : State) (a : Addr)  (h0 : Heap) (n0 : Nat) (v : Option Value) (h : Heap) (L : List Loc) : Prop := v = none ∧ Fr n0 L ∧ h = h0
set_option maxRecDepth 65536 in
set_option maxHeartbeats 40000000 in
theorem rm_record (l : Launch) (Z : State) (a0 : Array Value) (hw : ∀ d ∈ tables_1, d.before a0 Z = true) (ws : List Jvm.Cond) (a : Addr)  (h0 : Heap) (n0 : Nat) (Z0 : n0 ≤ h0.size)  :
    MetFree l (⟨"java/lang/Record", "<init>", "()V"⟩ : MethodName) (head1 (Jvm.Cond.code (⟨"java/lang/Record", "<init>", "()V"⟩ : MethodName) jdk_30_method_1_code 1 none :: ws) ({ frames := 1, cells := 0, slots := 0, locals := 12 } : Room)) (fun av_ U => av_ = #[(.ref a)] ∧ Z.Warmed39 U.vm ∧ U.heap = h0) (fun _ _ _ _ _ => True) (fun _ U o U' => ∃ v L, o = .returned v ∧ Q_rm_record Z a h0 n0 v U'.heap L ∧ FrameEnd U o U' L ({ frames := 1, cells := 0, slots := 0, locals := 12 } : Room).cells ({ frames := 1, cells := 0, slots := 0, locals := 12 } : Room).slots) := by
  refine MetFree.of_bodySF (plainFor_of_name pn_0) hisR ?_
  intro p e s m args below meth c s₁ Bd hml0 hP hK
  obtain ⟨rfl, hZ, hh⟩ := hP
  have hx := Bd.exec
  have hby := Bd.bytes
  have hml : c.maxLocals = 1 := hml0
  have hown : s.vm.findClass "java/lang/Record" = some m.cls := findClass_of_methodNamed Bd.named
  have hnm := (name_of_methodNamed Bd.named Bd.method).1
  have hlk : meth.locks = false := BodyLoose.notSynchronized Bd
  have X0 : Stand p l e ({ frames := 1, cells := 0, slots := 0, locals := 12 } : Room) s m #[(.ref a)] below meth c s₁ [] 0 0 := Stand.of_body Bd
  have e0 : s₁.heap = h0 := by rw [← hh, Bd.state]; rfl
  have N0 := Fr.nil n0
  refine own_by (fun _ kt => castTop (ef_1 m a) kt) (R := own_R s (Q_rm_record Z a h0 n0) 0 0) ?_
  show own_Go p.tables e below (s₁.setTop (mkF m 0 #[.val (.ref a)] [])) _
  refine own_by (fun _ kt => XS.aloadN X0.here hx rfl (hb hby d_jdk_30_method_1_code_0) rfl rfl kt) ?_
  show own_Go p.tables e below (s₁.setTop (mkF m 1 #[.val (.ref a)] [(.ref a)])) _
  obtain ⟨T1, X1, e1, st1⟩ := initO X0 hx hZ hown (hw _ (List.mem_of_getElem? (i := 11) rfl)) (hw _ (List.mem_of_getElem? (i := 12) rfl)) (hw _ (List.mem_of_getElem? (i := 13) rfl)) e0 (g := (mkF m 1 #[.val (.ref a)] [(.ref a)])) rfl (by rw [hml]; rfl) rfl (hb hby d_jdk_30_method_1_code_1) (by decide) (W := 0) (by show 2 * 0 + _ ≤ _; exact Nat.le_of_eq rfl) (by decide)
  refine own_by st1 ?_
  show own_Go p.tables e below (T1.setTop (mkF m 4 #[.val (.ref a)] [])) _
  exact own_retV X1 hx Bd.returns hlk (hb hby d_jdk_30_method_1_code_4) ⟨rfl, N0, e1⟩ (by decide) (by decide)
theorem pn_1 : plainName "com/example/attache/attache/bench/Footprint$Result" = true := by first | (simp [plainName, overriddenIn]; done) | decide +kernel
theorem d_prog_3_method_1_code_0 : decode prog_3_method_1_code 0 = .ok (.aload_n 0, 1) := by decide +kernel
theorem d_prog_3_method_1_code_1 : decode prog_3_method_1_code 1 = .ok (.invokespecial 3, 3) := by decide +kernel
theorem d_prog_3_method_1_code_4 : decode prog_3_method_1_code 4 = .ok (.aload_n 0, 1) := by decide +kernel
theorem d_prog_3_method_1_code_5 : decode prog_3_method_1_code 5 = .ok (.iload_n 1, 1) := by decide +kernel
theorem d_prog_3_method_1_code_6 : decode prog_3_method_1_code 6 = .ok (.putfield 9, 3) := by decide +kernel
theorem d_prog_3_method_1_code_9 : decode prog_3_method_1_code 9 = .ok (.aload_n 0, 1) := by decide +kernel
theorem d_prog_3_method_1_code_10 : decode prog_3_method_1_code 10 = .ok (.lload_n 2, 1) := by decide +kernel
theorem d_prog_3_method_1_code_11 : decode prog_3_method_1_code 11 = .ok (.putfield 15, 3) := by decide +kernel
theorem d_prog_3_method_1_code_14 : decode prog_3_method_1_code 14 = .ok (.return_, 1) := by decide +kernel
theorem ef_2 (m : MethodId) (a : Addr) (u1 : Int32) (u2 : Int64) : entryFrame m #[(.ref a), (.int u1), (.long u2)] 4 = mkF m 0 #[.val (.ref a), .val (.int u1), .val (.long u2), .second] [] := by first | (simp [entryFrame, mkF, argsToLocals, Value.category]; done) | rfl
def Q_rm_init (Z : State) (a : Addr) (u1 : Int32) (u2 : Int64)  (h0 : Heap) (n0 : Nat) (v : Option Value) (h : Heap) (L : List Loc) : Prop := v = none ∧ Fr n0 L ∧ Keep h0 h [a] ∧ Exa Z h a "com/example/attache/attache/bench/Footprint$Result" ∧ Fld Z h a "com/example/attache/attache/bench/Footprint$Result" "jars" "I" (.int u1) ∧ Fld Z h a "com/example/attache/attache/bench/Footprint$Result" "bytes" "J" (.long u2)
set_option maxRecDepth 65536 in
set_option maxHeartbeats 40000000 in
theorem rm_init (l : Launch) (Z : State) (a0 : Array Value) (hw : ∀ d ∈ tables_1, d.before a0 Z = true) (ws : List Jvm.Cond) (a : Addr) (u1 : Int32) (u2 : Int64)  (h0 : Heap) (n0 : Nat) (Z0 : n0 ≤ h0.size) (F_jars_a : Fld Z h0 a "com/example/attache/attache/bench/Footprint$Result" "jars" "I" (.int (0 : Int32))) (F_bytes_a : Fld Z h0 a "com/example/attache/attache/bench/Footprint$Result" "bytes" "J" (.long (0 : Int64))) (E_a : Exa Z h0 a "com/example/attache/attache/bench/Footprint$Result") (gn_a : n0 ≤ a) :
    MetFree l (⟨"com/example/attache/attache/bench/Footprint$Result", "<init>", "(IJ)V"⟩ : MethodName) (head1 (Jvm.Cond.code (⟨"com/example/attache/attache/bench/Footprint$Result", "<init>", "(IJ)V"⟩ : MethodName) prog_3_method_1_code 4 none :: ws) ({ frames := 2, cells := 0, slots := 0, locals := 24 } : Room)) (fun av_ U => av_ = #[(.ref a), (.int u1), (.long u2)] ∧ Z.Warmed39 U.vm ∧ U.heap = h0) (fun _ _ _ _ _ => True) (fun _ U o U' => ∃ v L, o = .returned v ∧ Q_rm_init Z a u1 u2 h0 n0 v U'.heap L ∧ FrameEnd U o U' L ({ frames := 2, cells := 0, slots := 0, locals := 24 } : Room).cells ({ frames := 2, cells := 0, slots := 0, locals := 24 } : Room).slots) := by
  refine MetFree.of_bodySF (plainFor_of_name pn_1) hisR ?_
  intro p e s m args below meth c s₁ Bd hml0 hP hK
  obtain ⟨rfl, hZ, hh⟩ := hP
  have hx := Bd.exec
  have hby := Bd.bytes
  have hml : c.maxLocals = 4 := hml0
  have hown : s.vm.findClass "com/example/attache/attache/bench/Footprint$Result" = some m.cls := findClass_of_methodNamed Bd.named
  have hnm := (name_of_methodNamed Bd.named Bd.method).1
  have hlk : meth.locks = false := BodyLoose.notSynchronized Bd
  have X0 : Stand p l e ({ frames := 2, cells := 0, slots := 0, locals := 24 } : Room) s m #[(.ref a), (.int u1), (.long u2)] below meth c s₁ [] 0 0 := Stand.of_body Bd
  have e0 : s₁.heap = h0 := by rw [← hh, Bd.state]; rfl
  have N0 := Fr.nil n0
  refine own_by (fun _ kt => castTop (ef_2 m a u1 u2) kt) (R := own_R s (Q_rm_init Z a u1 u2 h0 n0) 0 0) ?_
  show own_Go p.tables e below (s₁.setTop (mkF m 0 #[.val (.ref a), .val (.int u1), .val (.long u2), .second] [])) _
  refine own_by (fun _ kt => XS.aloadN X0.here hx rfl (hb hby d_prog_3_method_1_code_0) rfl rfl kt) ?_
  show own_Go p.tables e below (s₁.setTop (mkF m 1 #[.val (.ref a), .val (.int u1), .val (.long u2), .second] [(.ref a)])) _
  obtain ⟨_, _, ⟨T1, L1, k1, n1⟩, -, X1, ⟨Lc1, hQ1, l1, y1, z1⟩, st1⟩ := X0.specialBack hx (y := (⟨"java/lang/Record", "<init>", "()V"⟩ : MethodName)) rfl hown (mvT hZ (hw _ (List.mem_of_getElem? (i := 6) rfl))) (mvT hZ (hw _ (List.mem_of_getElem? (i := 7) rfl))) (mvT hZ (hw _ (List.mem_of_getElem? (i := 10) rfl))) (by decide) (backOf (W := 0) (rm_record l Z a0 hw [] a  h0 n0 Z0 ) hZ (hw _ (List.mem_of_getElem? (i := 10) rfl)) (hw _ (List.mem_of_getElem? (i := 9) rfl)) (by decide) (by decide)) (g := (mkF m 1 #[.val (.ref a), .val (.int u1), .val (.long u2), .second] [(.ref a)])) rfl (by rw [hml]; rfl) (Steps.refl _) (a := a) (argsL := []) (rest := []) (lenOf pd_0 rfl) rfl (by show 2 * 0 + _ ≤ _; exact Nat.le_of_eq rfl) (hb hby d_prog_3_method_1_code_1) (fun _ _ => ⟨rfl, e0, (by decide : 0 + 0 ≤ _), (by decide : 0 + 0 ≤ _)⟩)
  dsimp only [Pt.U, Pt.locs, Pt.cells, Pt.slots] at X1 l1 y1 z1 st1 hQ1
  subst l1 y1 z1
  obtain ⟨rfl, Nq1, eh1⟩ := hQ1
  have N1 := Fr.app N0 Nq1
  refine own_by (fun _ kt => st1.trans kt) ?_
  show own_Go p.tables e below (T1.setTop (mkF m 4 #[.val (.ref a), .val (.int u1), .val (.long u2), .second] [])) _
  refine own_by (fun _ kt => XS.aloadN X1.here hx rfl (hb hby d_prog_3_method_1_code_4) rfl rfl kt) ?_
  show own_Go p.tables e below (T1.setTop (mkF m 5 #[.val (.ref a), .val (.int u1), .val (.long u2), .second] [(.ref a)])) _
  refine own_by (fun _ kt => XS.iloadN X1.here hx rfl (hb hby d_prog_3_method_1_code_5) rfl kt) ?_
  show own_Go p.tables e below (T1.setTop (mkF m 6 #[.val (.ref a), .val (.int u1), .val (.long u2), .second] [(.int u1), (.ref a)])) _
  obtain ⟨T2, h2, X2, e2, W2, st2⟩ := putF X1 hx hZ hown (host := "") (Or.inl (hw _ (List.mem_of_getElem? (i := 14) rfl))) Via.refl eh1 F_jars_a E_a (Or.inr ⟨(hw _ (List.mem_of_getElem? (i := 15) rfl)), rfl, hnm⟩) (hw _ (List.mem_of_getElem? (i := 1) rfl)) (ty := .int) (by decide) rfl rfl (g := (mkF m 6 #[.val (.ref a), .val (.int u1), .val (.long u2), .second] [(.int u1), (.ref a)])) rfl rfl (hb hby d_prog_3_method_1_code_6)
  have Fw2 := F_jars_a.same W2
  have f3 := F_bytes_a.other W2 (Or.inr (slot_ne (Or.inr (hw _ (List.mem_of_getElem? (i := 17) rfl))) (Or.inr (hw _ (List.mem_of_getElem? (i := 15) rfl))) (by decide) (t := .long) (t' := .int) (by decide) (by decide)))
  have f4 := E_a.wr W2
  have Zs2 : n0 ≤ h2.size := by rw [W2.size]; exact Z0
  have K2 : Keep h0 h2 [a] := (Keep.refl h0 [a]).wr W2 (Or.inl (List.mem_of_getElem? (i := 0) rfl))
  have N2 := Fr.snoc X2 N1 gn_a
  refine own_by st2 ?_
  show own_Go p.tables e below (T2.setTop (mkF m 9 #[.val (.ref a), .val (.int u1), .val (.long u2), .second] [])) _
  refine own_by (fun _ kt => XS.aloadN X2.here hx rfl (hb hby d_prog_3_method_1_code_9) rfl rfl kt) ?_
  show own_Go p.tables e below (T2.setTop (mkF m 10 #[.val (.ref a), .val (.int u1), .val (.long u2), .second] [(.ref a)])) _
  refine own_by (fun _ kt => XS.lloadN X2.here hx rfl (hb hby d_prog_3_method_1_code_10) rfl kt) ?_
  show own_Go p.tables e below (T2.setTop (mkF m 11 #[.val (.ref a), .val (.int u1), .val (.long u2), .second] [(.long u2), (.ref a)])) _
  obtain ⟨T5, h5, X5, e5, W5, st5⟩ := putF X2 hx hZ hown (host := "") (Or.inl (hw _ (List.mem_of_getElem? (i := 16) rfl))) Via.refl e2 f3 f4 (Or.inr ⟨(hw _ (List.mem_of_getElem? (i := 17) rfl)), rfl, hnm⟩) (hw _ (List.mem_of_getElem? (i := 1) rfl)) (ty := .long) (by decide) rfl rfl (g := (mkF m 11 #[.val (.ref a), .val (.int u1), .val (.long u2), .second] [(.long u2), (.ref a)])) rfl rfl (hb hby d_prog_3_method_1_code_11)
  have Fw5 := f3.same W5
  have f6 := Fw2.other W5 (Or.inr (slot_ne (Or.inr (hw _ (List.mem_of_getElem? (i := 15) rfl))) (Or.inr (hw _ (List.mem_of_getElem? (i := 17) rfl))) (by decide) (t := .int) (t' := .long) (by decide) (by decide)))
  have f7 := f4.wr W5
  have Zs5 : n0 ≤ h5.size := by rw [W5.size]; exact Zs2
  have K5 : Keep h0 h5 [a] := K2.wr W5 (Or.inl (List.mem_of_getElem? (i := 0) rfl))
  have N5 := Fr.snoc X5 N2 gn_a
  refine own_by st5 ?_
  show own_Go p.tables e below (T5.setTop (mkF m 14 #[.val (.ref a), .val (.int u1), .val (.long u2), .second] [])) _
  exact own_retV X5 hx Bd.returns hlk (hb hby d_prog_3_method_1_code_14) (by rw [e5]; exact ⟨rfl, N5, K5, f7, f6, Fw5⟩) (by decide) (by decide)
def own_meets (u : Int32) (w : Int64) : Int32 := if u < 7 then (if lcmpW w 8871907 < 0 then 1 else 0) else 0
theorem d_prog_3_method_3_code_0 : decode prog_3_method_3_code 0 = .ok (.aload_n 0, 1) := by decide +kernel
theorem d_prog_3_method_3_code_1 : decode prog_3_method_3_code 1 = .ok (.getfield 9, 3) := by decide +kernel
theorem d_prog_3_method_3_code_4 : decode prog_3_method_3_code 4 = .ok (.bipush 7, 2) := by decide +kernel
theorem d_prog_3_method_3_code_6 : decode prog_3_method_3_code 6 = .ok (.if_icmp .ge 18, 3) := by decide +kernel
theorem d_prog_3_method_3_code_9 : decode prog_3_method_3_code 9 = .ok (.aload_n 0, 1) := by decide +kernel
theorem d_prog_3_method_3_code_10 : decode prog_3_method_3_code 10 = .ok (.getfield 15, 3) := by decide +kernel
theorem d_prog_3_method_3_code_13 : decode prog_3_method_3_code 13 = .ok (.ldc2_w 70, 3) := by decide +kernel
theorem d_prog_3_method_3_code_16 : decode prog_3_method_3_code 16 = .ok (.lcmp, 1) := by decide +kernel
theorem d_prog_3_method_3_code_17 : decode prog_3_method_3_code 17 = .ok (.ifCond .ge 7, 3) := by decide +kernel
theorem d_prog_3_method_3_code_20 : decode prog_3_method_3_code 20 = .ok (.iconst 1, 1) := by decide +kernel
theorem d_prog_3_method_3_code_21 : decode prog_3_method_3_code 21 = .ok (.goto 4, 3) := by decide +kernel
theorem d_prog_3_method_3_code_25 : decode prog_3_method_3_code 25 = .ok (.ireturn, 1) := by decide +kernel
theorem d_prog_3_method_3_code_24 : decode prog_3_method_3_code 24 = .ok (.iconst 0, 1) := by decide +kernel
theorem ef_3 (m : MethodId) (a : Addr) : entryFrame m #[(.ref a)] 1 = mkF m 0 #[.val (.ref a)] [] := by first | (simp [entryFrame, mkF, argsToLocals, Value.category]; done) | rfl
def Q_rm_meets (Z : State) (a : Addr) (u : Int32) (w : Int64) (h0 : Heap) (n0 : Nat) (v : Option Value) (h : Heap) (L : List Loc) : Prop := v = some (.int (own_meets u w)) ∧ Fr n0 L ∧ h = h0
set_option maxRecDepth 65536 in
set_option maxHeartbeats 40000000 in
theorem rm_meets (l : Launch) (Z : State) (a0 : Array Value) (hw : ∀ d ∈ tables_1, d.before a0 Z = true) (ws : List Jvm.Cond) (a : Addr) (u : Int32) (w : Int64) (h0 : Heap) (n0 : Nat) (Z0 : n0 ≤ h0.size) (F_jars_a : Fld Z h0 a "com/example/attache/attache/bench/Footprint$Result" "jars" "I" (.int u)) (F_bytes_a : Fld Z h0 a "com/example/attache/attache/bench/Footprint$Result" "bytes" "J" (.long w)) :
    MetFree l (⟨"com/example/attache/attache/bench/Footprint$Result", "meetsTarget", "()Z"⟩ : MethodName) (head1 (Jvm.Cond.code (⟨"com/example/attache/attache/bench/Footprint$Result", "meetsTarget", "()Z"⟩ : MethodName) prog_3_method_3_code 1 (some .boolean) :: ws) ({ frames := 0, cells := 0, slots := 0, locals := 0 } : Room)) (fun av_ U => av_ = #[(.ref a)] ∧ Z.Warmed39 U.vm ∧ U.heap = h0) (fun _ _ _ _ _ => True) (fun _ U o U' => ∃ v L, o = .returned v ∧ Q_rm_meets Z a u w h0 n0 v U'.heap L ∧ FrameEnd U o U' L ({ frames := 0, cells := 0, slots := 0, locals := 0 } : Room).cells ({ frames := 0, cells := 0, slots := 0, locals := 0 } : Room).slots) := by
  refine MetFree.of_bodySF (plainFor_of_name pn_1) hisR ?_
  intro p e s m args below meth c s₁ Bd hml0 hP hK
  obtain ⟨rfl, hZ, hh⟩ := hP
  have hx := Bd.exec
  have hby := Bd.bytes
  have hml : c.maxLocals = 1 := hml0
  have hown : s.vm.findClass "com/example/attache/attache/bench/Footprint$Result" = some m.cls := findClass_of_methodNamed Bd.named
  have hnm := (name_of_methodNamed Bd.named Bd.method).1
  have hlk : meth.locks = false := BodyLoose.notSynchronized Bd
  have X0 : Stand p l e ({ frames := 0, cells := 0, slots := 0, locals := 0 } : Room) s m #[(.ref a)] below meth c s₁ [] 0 0 := Stand.of_body Bd
  have e0 : s₁.heap = h0 := by rw [← hh, Bd.state]; rfl
  have N0 := Fr.nil n0
  refine own_by (fun _ kt => castTop (ef_3 m a) kt) (R := own_R s (Q_rm_meets Z a u w h0 n0) 0 0) ?_
  show own_Go p.tables e below (s₁.setTop (mkF m 0 #[.val (.ref a)] [])) _
  refine own_by (fun _ kt => XS.aloadN X0.here hx rfl (hb hby d_prog_3_method_3_code_0) rfl rfl kt) ?_
  show own_Go p.tables e below (s₁.setTop (mkF m 1 #[.val (.ref a)] [(.ref a)])) _
  obtain ⟨T1, X1, e1, st1⟩ := getF X0 hx hZ hown (host := "") (Or.inl (hw _ (List.mem_of_getElem? (i := 14) rfl))) Via.refl e0 F_jars_a (g := (mkF m 1 #[.val (.ref a)] [(.ref a)])) rfl rfl (hb hby d_prog_3_method_3_code_1)
  refine own_by st1 ?_
  show own_Go p.tables e below (T1.setTop (mkF m 4 #[.val (.ref a)] [(.int u)])) _
  refine own_by (fun _ kt => XS.bipush X1.here hx rfl (hb hby d_prog_3_method_3_code_4) kt) ?_
  show own_Go p.tables e below (T1.setTop (mkF m 6 #[.val (.ref a)] [(.int (7 : Int32)), (.int u)])) _
  by_cases hc6_2 : u < (7 : Int32)
  · refine own_by (fun _ kt => XS.icmpNo X1.here hx rfl (hb hby d_prog_3_method_3_code_6) rfl (tlt hc6_2).2.1 kt) ?_
    show own_Go p.tables e below (T1.setTop (mkF m 9 #[.val (.ref a)] [])) _
    refine own_by (fun _ kt => XS.aloadN X1.here hx rfl (hb hby d_prog_3_method_3_code_9) rfl rfl kt) ?_
    show own_Go p.tables e below (T1.setTop (mkF m 10 #[.val (.ref a)] [(.ref a)])) _
    obtain ⟨T3, X3, e3, st3⟩ := getF X1 hx hZ hown (host := "") (Or.inl (hw _ (List.mem_of_getElem? (i := 16) rfl))) Via.refl e1 F_bytes_a (g := (mkF m 10 #[.val (.ref a)] [(.ref a)])) rfl rfl (hb hby d_prog_3_method_3_code_10)
    refine own_by st3 ?_
    show own_Go p.tables e below (T3.setTop (mkF m 13 #[.val (.ref a)] [(.long w)])) _
    refine own_by (X3.ldc2Long hx hown (mvT hZ (hw _ (List.mem_of_getElem? (i := 26) rfl))) (g := (mkF m 13 #[.val (.ref a)] [(.long w)])) rfl (hb hby d_prog_3_method_3_code_13)) ?_
    show own_Go p.tables e below (T3.setTop (mkF m 16 #[.val (.ref a)] [(.long (8871907 : Int64)), (.long w)])) _
    refine own_by (fun _ kt => XS.lcmp X3.here hx rfl (hb hby d_prog_3_method_3_code_16) rfl kt) ?_
    show own_Go p.tables e below (T3.setTop (mkF m 17 #[.val (.ref a)] [(.int (lcmpW w (8871907 : Int64)))])) _
    by_cases hc17_4 : (lcmpW w (8871907 : Int64)) < (0 : Int32)
    · refine own_by (fun _ kt => XS.ifNo X3.here hx rfl (hb hby d_prog_3_method_3_code_17) rfl ((if0 _ _).trans (tlt hc17_4).2.1) kt) ?_
      show own_Go p.tables e below (T3.setTop (mkF m 20 #[.val (.ref a)] [])) _
      refine own_by (fun _ kt => XS.iconst X3.here hx rfl (hb hby d_prog_3_method_3_code_20) kt) ?_
      show own_Go p.tables e below (T3.setTop (mkF m 21 #[.val (.ref a)] [(.int (1 : Int32))])) _
      refine own_by (fun _ kt => XS.goto X3.here hx rfl (pc0 := 21) (pc' := 25) rfl (hb hby d_prog_3_method_3_code_21) (by decide) (by decide) kt) ?_
      show own_Go p.tables e below (T3.setTop (mkF m 25 #[.val (.ref a)] [(.int (1 : Int32))])) _
      exact own_retN X3 hx (t := .boolean) Bd.returns hlk (by simp) (hb hby d_prog_3_method_3_code_25) ⟨by rw [own_meets, if_pos hc6_2, if_pos hc17_4] <;> rfl, N0, e3⟩ (by decide) (by decide)
    · refine own_by (fun _ kt => XS.ifYes X3.here hx rfl (pc0 := 17) (pc' := 24) rfl (hb hby d_prog_3_method_3_code_17) rfl ((if0 _ _).trans (flt hc17_4).2.1) (by decide) (by decide) kt) ?_
      show own_Go p.tables e below (T3.setTop (mkF m 24 #[.val (.ref a)] [])) _
      refine own_by (fun _ kt => XS.iconst X3.here hx rfl (hb hby d_prog_3_method_3_code_24) kt) ?_
      show own_Go p.tables e below (T3.setTop (mkF m 25 #[.val (.ref a)] [(.int (0 : Int32))])) _
      exact own_retN X3 hx (t := .boolean) Bd.returns hlk (by simp) (hb hby d_prog_3_method_3_code_25) ⟨by rw [own_meets, if_pos hc6_2, if_neg hc17_4] <;> rfl, N0, e3⟩ (by decide) (by decide)
  · refine own_by (fun _ kt => XS.icmpYes X1.here hx rfl (pc0 := 6) (pc' := 24) rfl (hb hby d_prog_3_method_3_code_6) rfl (flt hc6_2).2.1 (by decide) (by decide) kt) ?_
    show own_Go p.tables e below (T1.setTop (mkF m 24 #[.val (.ref a)] [])) _
    refine own_by (fun _ kt => XS.iconst X1.here hx rfl (hb hby d_prog_3_method_3_code_24) kt) ?_
    show own_Go p.tables e below (T1.setTop (mkF m 25 #[.val (.ref a)] [(.int (0 : Int32))])) _
    exact own_retN X1 hx (t := .boolean) Bd.returns hlk (by simp) (hb hby d_prog_3_method_3_code_25) ⟨by rw [own_meets, if_neg hc6_2] <;> rfl, N0, e1⟩ (by decide) (by decide)
theorem own_k0 (u : Int32) (w : Int64) (h : 6 < u) : own_meets u w = 0 := by
  unfold own_meets
  rw [if_neg]
  simp only [Int32.lt_iff_toInt_lt, show (6 : Int32).toInt = 6 from by decide, show (7 : Int32).toInt = 7 from by decide] at *
  omega
theorem own_k1 (u : Int32) (w : Int64) (h : 0 < lcmpW w 8871906) : own_meets u w = 0 := by
  rw [own_lc_gt] at h
  unfold own_meets
  split
  · rw [if_neg]
    rw [own_lc_lt]
    simp only [Int64.lt_iff_toInt_lt, show (8871906 : Int64).toInt = 8871906 from by decide, show (8871907 : Int64).toInt = 8871907 from by decide] at *
    omega
  · rfl
theorem own_k2 (u : Int32) (w : Int64) (h : ¬ 6 < u) (h2 : ¬ 0 < lcmpW w 8871906) : own_meets u w = 1 := by
  rw [own_lc_gt] at h2
  unfold own_meets
  rw [if_pos, if_pos]
  · rw [own_lc_lt]
    simp only [Int64.lt_iff_toInt_lt, show (8871906 : Int64).toInt = 8871906 from by decide, show (8871907 : Int64).toInt = 8871907 from by decide] at *
    omega
  · simp only [Int32.lt_iff_toInt_lt, show (6 : Int32).toInt = 6 from by decide, show (7 : Int32).toInt = 7 from by decide] at *
    omega
theorem pn_2 : plainName "com/example/attache/attache/bench/ResultMeetsTargetPinLaw" = true := by first | (simp [plainName, overriddenIn]; done) | decide +kernel
theorem pd_1 : parseMethodDescriptor "(IJ)V" = some ⟨[.int, .long], none⟩ := by decide +kernel
theorem pd_2 : parseMethodDescriptor "()Z" = some ⟨[], some .boolean⟩ := by decide +kernel
theorem ef_4 (m : MethodId) (p0 : Int32) (q1 : Int64) (p2 : Int32) : entryFrame m #[(.int p0), (.long q1), (.int p2)] maxLocals = mkF m 0 #[.val (.int p0), .val (.long q1), .second, .val (.int p2), .unset, .unset, .unset, .unset, .unset] [] := by first | (simp [entryFrame, mkF, argsToLocals, Value.category, maxLocals]; done) | rfl
def Q_rm_law (Z : State) (p0 : Int32) (q1 : Int64) (p2 : Int32)  (h0 : Heap) (n0 : Nat) (v : Option Value) (h : Heap) (L : List Loc) : Prop := v = some (.int (1 : Int32)) ∧ Fr n0 L
set_option maxRecDepth 65536 in
set_option maxHeartbeats 40000000 in
theorem rm_law (l : Launch) (Z : State) (a0 : Array Value) (hw : ∀ d ∈ tables_1, d.before a0 Z = true) (ws : List Jvm.Cond) (p0 : Int32) (q1 : Int64) (p2 : Int32)  (h0 : Heap) (n0 : Nat) (Z0 : n0 ≤ h0.size)  :
    MetFree l x (head1 (Jvm.Cond.code x code maxLocals ret :: ws) room_1) (fun av_ U => av_ = #[(.int p0), (.long q1), (.int p2)] ∧ Z.Warmed39 U.vm ∧ U.heap = h0) (fun _ _ _ _ _ => True) (fun _ U o U' => ∃ v L, o = .returned v ∧ Q_rm_law Z p0 q1 p2 h0 n0 v U'.heap L ∧ FrameEnd U o U' L 16 128) := by
  refine MetFree.of_bodySF (plainFor_of_name pn_2) hisR ?_
  intro p e s m args below meth c s₁ Bd hml0 hP hK
  obtain ⟨rfl, hZ, hh⟩ := hP
  have hx := Bd.exec
  have hby := Bd.bytes
  have hml : c.maxLocals = 9 := hml0
  have hown : s.vm.findClass "com/example/attache/attache/bench/ResultMeetsTargetPinLaw" = some m.cls := findClass_of_methodNamed Bd.named
  have hnm := (name_of_methodNamed Bd.named Bd.method).1
  have hlk : meth.locks = false := BodyLoose.notSynchronized Bd
  have X0 : Stand p l e room_1 s m #[(.int p0), (.long q1), (.int p2)] below meth c s₁ [] 0 0 := Stand.of_body Bd
  have e0 : s₁.heap = h0 := by rw [← hh, Bd.state]; rfl
  have N0 := Fr.nil n0
  refine own_by (fun _ kt => castTop (ef_4 m p0 q1 p2) kt) (R := own_R s (Q_rm_law Z p0 q1 p2 h0 n0) 16 128) ?_
  show own_Go p.tables e below (s₁.setTop (mkF m 0 #[.val (.int p0), .val (.long q1), .second, .val (.int p2), .unset, .unset, .unset, .unset, .unset] [])) _
  refine own_by (fun _ kt => XS.iloadN X0.here hx rfl (hb hby at_0) rfl kt) ?_
  show own_Go p.tables e below (s₁.setTop (mkF m 1 #[.val (.int p0), .val (.long q1), .second, .val (.int p2), .unset, .unset, .unset, .unset, .unset] [(.int p2)])) _
  refine own_by (fun _ kt => XS.iconst X0.here hx rfl (hb hby at_1) kt) ?_
  show own_Go p.tables e below (s₁.setTop (mkF m 2 #[.val (.int p0), .val (.long q1), .second, .val (.int p2), .unset, .unset, .unset, .unset, .unset] [(.int (1 : Int32)), (.int p2)])) _
  refine own_by (fun _ kt => XS.iand X0.here hx rfl (hb hby at_2) rfl kt) ?_
  show own_Go p.tables e below (s₁.setTop (mkF m 3 #[.val (.int p0), .val (.long q1), .second, .val (.int p2), .unset, .unset, .unset, .unset, .unset] [(.int (p2 &&& (1 : Int32)))])) _
  have J1 : ∀ (j : Int32) , own_Go p.tables e below (s₁.setTop (mkF m 16 #[.val (.int p0), .val (.long q1), .second, .val (.int p2), .unset, .unset, .unset, .unset, .unset] [(.int j)])) (own_R s (Q_rm_law Z p0 q1 p2 h0 n0) 16 128) := by
    intro j
    refine own_by (fun _ kt => XS.istore X0.here hx rfl (hb hby at_16) rfl (l' := #[.val (.int p0), .val (.long q1), .second, .val (.int p2), .val (.int j), .unset, .unset, .unset, .unset]) rfl kt) ?_
    show own_Go p.tables e below (s₁.setTop (mkF m 18 #[.val (.int p0), .val (.long q1), .second, .val (.int p2), .val (.int j), .unset, .unset, .unset, .unset] [])) _
    refine own_by (fun _ kt => XS.iloadN X0.here hx rfl (hb hby at_18) rfl kt) ?_
    show own_Go p.tables e below (s₁.setTop (mkF m 19 #[.val (.int p0), .val (.long q1), .second, .val (.int p2), .val (.int j), .unset, .unset, .unset, .unset] [(.int p2)])) _
    refine own_by (fun _ kt => XS.iconst X0.here hx rfl (hb hby at_19) kt) ?_
    show own_Go p.tables e below (s₁.setTop (mkF m 20 #[.val (.int p0), .val (.long q1), .second, .val (.int p2), .val (.int j), .unset, .unset, .unset, .unset] [(.int (2 : Int32)), (.int p2)])) _
    refine own_by (fun _ kt => XS.iand X0.here hx rfl (hb hby at_20) rfl kt) ?_
    show own_Go p.tables e below (s₁.setTop (mkF m 21 #[.val (.int p0), .val (.long q1), .second, .val (.int p2), .val (.int j), .unset, .unset, .unset, .unset] [(.int (p2 &&& (2 : Int32)))])) _
    have J2 : ∀ (b : Int64) , own_Go p.tables e below (s₁.setTop (mkF m 37 #[.val (.int p0), .val (.long q1), .second, .val (.int p2), .val (.int j), .unset, .unset, .unset, .unset] [(.long b)])) (own_R s (Q_rm_law Z p0 q1 p2 h0 n0) 16 128) := by
      intro b
      refine own_by (fun _ kt => XS.lstore X0.here hx rfl (hb hby at_37) rfl (l' := #[.val (.int p0), .val (.long q1), .second, .val (.int p2), .val (.int j), .val (.long b), .second, .unset, .unset]) rfl kt) ?_
      show own_Go p.tables e below (s₁.setTop (mkF m 39 #[.val (.int p0), .val (.long q1), .second, .val (.int p2), .val (.int j), .val (.long b), .second, .unset, .unset] [])) _
      refine own_by (fun _ kt => XS.iload X0.here hx rfl (hb hby at_39) rfl kt) ?_
      show own_Go p.tables e below (s₁.setTop (mkF m 41 #[.val (.int p0), .val (.long q1), .second, .val (.int p2), .val (.int j), .val (.long b), .second, .unset, .unset] [(.int j)])) _
      refine own_by (fun _ kt => XS.bipush X0.here hx rfl (hb hby at_41) kt) ?_
      show own_Go p.tables e below (s₁.setTop (mkF m 43 #[.val (.int p0), .val (.long q1), .second, .val (.int p2), .val (.int j), .val (.long b), .second, .unset, .unset] [(.int (6 : Int32)), (.int j)])) _
      by_cases hc43_3 : (6 : Int32) < j
      · refine own_by (fun _ kt => XS.icmpYes X0.here hx rfl (pc0 := 43) (pc' := 59) rfl (hb hby at_43) rfl (tlt hc43_3).2.2.1 (by decide) (by decide) kt) ?_
        show own_Go p.tables e below (s₁.setTop (mkF m 59 #[.val (.int p0), .val (.long q1), .second, .val (.int p2), .val (.int j), .val (.long b), .second, .unset, .unset] [])) _
        refine own_by (fun _ kt => XS.iconst X0.here hx rfl (hb hby at_59) kt) ?_
        show own_Go p.tables e below (s₁.setTop (mkF m 60 #[.val (.int p0), .val (.long q1), .second, .val (.int p2), .val (.int j), .val (.long b), .second, .unset, .unset] [(.int (0 : Int32))])) _
        refine own_by (fun _ kt => XS.istore X0.here hx rfl (hb hby at_60) rfl (l' := #[.val (.int p0), .val (.long q1), .second, .val (.int p2), .val (.int j), .val (.long b), .second, .val (.int (0 : Int32)), .unset]) rfl kt) ?_
        show own_Go p.tables e below (s₁.setTop (mkF m 62 #[.val (.int p0), .val (.long q1), .second, .val (.int p2), .val (.int j), .val (.long b), .second, .val (.int (0 : Int32)), .unset] [])) _
        obtain ⟨T4, h4, X4, e4, E4, A4, D4, -, st4⟩ := newO X0 hx hZ hown (hw _ (List.mem_of_getElem? (i := 0) rfl)) (hw _ (List.mem_of_getElem? (i := 1) rfl)) (hw _ (List.mem_of_getElem? (i := 2) rfl)) e0 (g := (mkF m 62 #[.val (.int p0), .val (.long q1), .second, .val (.int p2), .val (.int j), .val (.long b), .second, .val (.int (0 : Int32)), .unset] [])) rfl (hb hby at_62) (by decide) (by decide)
        obtain ⟨b4, g4⟩ : ∃ z, z = h0.size := ⟨_, rfl⟩
        rw [← g4] at A4 D4 st4
        have gn_b4 : n0 ≤ b4 := Nat.le_trans Z0 (Nat.le_of_eq g4.symm)
        have Zs4 : n0 ≤ h4.size := Nat.le_trans Z0 E4.1
        have f5 : Fld Z h4 b4 "com/example/attache/attache/bench/Footprint$Result" "jars" "I" (.int (0 : Int32)) := D4 (Or.inr (hw _ (List.mem_of_getElem? (i := 15) rfl))) (ty := .int) (by decide)
        have f6 : Fld Z h4 b4 "com/example/attache/attache/bench/Footprint$Result" "bytes" "J" (.long (0 : Int64)) := D4 (Or.inr (hw _ (List.mem_of_getElem? (i := 17) rfl))) (ty := .long) (by decide)
        refine own_by st4 ?_
        show own_Go p.tables e below (T4.setTop (mkF m 65 #[.val (.int p0), .val (.long q1), .second, .val (.int p2), .val (.int j), .val (.long b), .second, .val (.int (0 : Int32)), .unset] [(.ref b4)])) _
        refine own_by (fun _ kt => XS.dup X4.here hx rfl (hb hby at_65) rfl rfl kt) ?_
        show own_Go p.tables e below (T4.setTop (mkF m 66 #[.val (.int p0), .val (.long q1), .second, .val (.int p2), .val (.int j), .val (.long b), .second, .val (.int (0 : Int32)), .unset] [(.ref b4), (.ref b4)])) _
        refine own_by (fun _ kt => XS.iload X4.here hx rfl (hb hby at_66) rfl kt) ?_
        show own_Go p.tables e below (T4.setTop (mkF m 68 #[.val (.int p0), .val (.long q1), .second, .val (.int p2), .val (.int j), .val (.long b), .second, .val (.int (0 : Int32)), .unset] [(.int j), (.ref b4), (.ref b4)])) _
        refine own_by (fun _ kt => XS.lload X4.here hx rfl (hb hby at_68) rfl kt) ?_
        show own_Go p.tables e below (T4.setTop (mkF m 70 #[.val (.int p0), .val (.long q1), .second, .val (.int p2), .val (.int j), .val (.long b), .second, .val (.int (0 : Int32)), .unset] [(.long b), (.int j), (.ref b4), (.ref b4)])) _
        obtain ⟨_, _, ⟨T7, L7, k7, n7⟩, -, X7, ⟨Lc7, hQ7, l7, y7, z7⟩, st7⟩ := X4.specialBack hx (y := (⟨"com/example/attache/attache/bench/Footprint$Result", "<init>", "(IJ)V"⟩ : MethodName)) rfl hown (mvT hZ (hw _ (List.mem_of_getElem? (i := 3) rfl))) (mvT hZ (hw _ (List.mem_of_getElem? (i := 4) rfl))) (mvT hZ (hw _ (List.mem_of_getElem? (i := 5) rfl))) (by decide) (backOf (W := 1) (rm_init l Z a0 hw [] b4 j b  h4 n0 Zs4 f5 f6 A4 gn_b4) hZ (hw _ (List.mem_of_getElem? (i := 5) rfl)) (hw _ (List.mem_of_getElem? (i := 2) rfl)) (by decide) (by decide)) (g := (mkF m 70 #[.val (.int p0), .val (.long q1), .second, .val (.int p2), .val (.int j), .val (.long b), .second, .val (.int (0 : Int32)), .unset] [(.long b), (.int j), (.ref b4), (.ref b4)])) rfl (by rw [hml]; rfl) (Steps.refl _) (a := b4) (argsL := [(.int j), (.long b)]) (rest := [(.ref b4)]) (lenOf pd_1 rfl) rfl (by show 2 * 0 + _ ≤ _; exact Nat.le_of_eq rfl) (hb hby at_70) (fun _ _ => ⟨rfl, e4, (by decide : 1 + 0 ≤ _), (by decide : 2 + 0 ≤ _)⟩)
        dsimp only [Pt.U, Pt.locs, Pt.cells, Pt.slots] at X7 l7 y7 z7 st7 hQ7
        subst l7 y7 z7
        obtain ⟨rfl, Nq7, K7, f7_0, f7_1, f7_2⟩ := hQ7
        have f8 := A4.keep K7
        have Zs7 : n0 ≤ T7.heap.size := Nat.le_trans Zs4 K7.1
        have N7 := Fr.app N0 Nq7
        refine own_by (fun _ kt => st7.trans kt) ?_
        show own_Go p.tables e below (T7.setTop (mkF m 73 #[.val (.int p0), .val (.long q1), .second, .val (.int p2), .val (.int j), .val (.long b), .second, .val (.int (0 : Int32)), .unset] [(.ref b4)])) _
        refine own_by (fun _ kt => XS.astore X7.here hx rfl (hb hby at_73) rfl rfl (l' := #[.val (.int p0), .val (.long q1), .second, .val (.int p2), .val (.int j), .val (.long b), .second, .val (.int (0 : Int32)), .val (.ref b4)]) rfl kt) ?_
        show own_Go p.tables e below (T7.setTop (mkF m 75 #[.val (.int p0), .val (.long q1), .second, .val (.int p2), .val (.int j), .val (.long b), .second, .val (.int (0 : Int32)), .val (.ref b4)] [])) _
        refine own_by (fun _ kt => XS.aload X7.here hx rfl (hb hby at_75) rfl rfl kt) ?_
        show own_Go p.tables e below (T7.setTop (mkF m 77 #[.val (.int p0), .val (.long q1), .second, .val (.int p2), .val (.int j), .val (.long b), .second, .val (.int (0 : Int32)), .val (.ref b4)] [(.ref b4)])) _
        obtain ⟨cq9, kq9, q9a, q9b, q9c⟩ := isOf hZ rfl f7_0
        obtain ⟨_, _, ⟨T9, L9, k9, n9⟩, -, X9, ⟨Lc9, hQ9, l9, y9, z9⟩, st9⟩ := X7.virtualBack hx (y := (⟨"com/example/attache/attache/bench/Footprint$Result", "meetsTarget", "()Z"⟩ : MethodName)) (z := (⟨"com/example/attache/attache/bench/Footprint$Result", "meetsTarget", "()Z"⟩ : MethodName)) hown (mvT hZ (hw _ (List.mem_of_getElem? (i := 18) rfl))) (mvT hZ (hw _ (List.mem_of_getElem? (i := 19) rfl))) (notFace_of_selects (args := #[]) (mvT hZ (hw _ (List.mem_of_getElem? (i := 21) rfl)))) (mvT hZ (hw _ (List.mem_of_getElem? (i := 21) rfl))) (mvT hZ (hw _ (List.mem_of_getElem? (i := 20) rfl))) (by decide) (backOf (W := 0) (rm_meets l Z a0 hw [] b4 (j) (b) T7.heap n0 Zs7 f7_1 f7_2) hZ (hw _ (List.mem_of_getElem? (i := 22) rfl)) (hw _ (List.mem_of_getElem? (i := 2) rfl)) (by decide) (by decide)) q9a q9c (g := (mkF m 77 #[.val (.int p0), .val (.long q1), .second, .val (.int p2), .val (.int j), .val (.long b), .second, .val (.int (0 : Int32)), .val (.ref b4)] [(.ref b4)])) rfl (by rw [hml]; rfl) (Steps.refl _) (argsL := []) (rest := []) (lenOf pd_2 rfl) rfl (by show 2 * 0 + _ ≤ _; exact Nat.le_of_eq rfl) (hb hby at_77) (fun _ _ => ⟨rfl, rfl, (by decide : 1 + 0 ≤ _), (by decide : 2 + 0 ≤ _)⟩)
        dsimp only [Pt.U, Pt.locs, Pt.cells, Pt.slots] at X9 l9 y9 z9 st9 hQ9
        subst l9 y9 z9
        obtain ⟨rfl, Nq9, eh9⟩ := hQ9
        have N9 := Fr.app N7 Nq9
        refine own_by (fun _ kt => st9.trans kt) ?_
        show own_Go p.tables e below (T9.setTop (mkF m 80 #[.val (.int p0), .val (.long q1), .second, .val (.int p2), .val (.int j), .val (.long b), .second, .val (.int (0 : Int32)), .val (.ref b4)] [(.int (own_meets j b))])) _
        refine own_by (fun _ kt => XS.iload X9.here hx rfl (hb hby at_80) rfl kt) ?_
        show own_Go p.tables e below (T9.setTop (mkF m 82 #[.val (.int p0), .val (.long q1), .second, .val (.int p2), .val (.int j), .val (.long b), .second, .val (.int (0 : Int32)), .val (.ref b4)] [(.int (0 : Int32)), (.int (own_meets j b))])) _
        refine own_by (fun _ kt => XS.icmpNo X9.here hx rfl (hb hby at_82) rfl (teq (own_k0 _ _ hc43_3 : (own_meets j b) = (0 : Int32))).2 kt) ?_
        show own_Go p.tables e below (T9.setTop (mkF m 85 #[.val (.int p0), .val (.long q1), .second, .val (.int p2), .val (.int j), .val (.long b), .second, .val (.int (0 : Int32)), .val (.ref b4)] [])) _
        refine own_by (fun _ kt => XS.iconst X9.here hx rfl (hb hby at_85) kt) ?_
        show own_Go p.tables e below (T9.setTop (mkF m 86 #[.val (.int p0), .val (.long q1), .second, .val (.int p2), .val (.int j), .val (.long b), .second, .val (.int (0 : Int32)), .val (.ref b4)] [(.int (1 : Int32))])) _
        refine own_by (fun _ kt => XS.goto X9.here hx rfl (pc0 := 86) (pc' := 90) rfl (hb hby at_86) (by decide) (by decide) kt) ?_
        show own_Go p.tables e below (T9.setTop (mkF m 90 #[.val (.int p0), .val (.long q1), .second, .val (.int p2), .val (.int j), .val (.long b), .second, .val (.int (0 : Int32)), .val (.ref b4)] [(.int (1 : Int32))])) _
        exact own_retN X9 hx (t := .boolean) Bd.returns hlk (by simp) (hb hby at_90) ⟨rfl, N9⟩ (by decide) (by decide)
      · refine own_by (fun _ kt => XS.icmpNo X0.here hx rfl (hb hby at_43) rfl (flt hc43_3).2.2.1 kt) ?_
        show own_Go p.tables e below (s₁.setTop (mkF m 46 #[.val (.int p0), .val (.long q1), .second, .val (.int p2), .val (.int j), .val (.long b), .second, .unset, .unset] [])) _
        refine own_by (fun _ kt => XS.lload X0.here hx rfl (hb hby at_46) rfl kt) ?_
        show own_Go p.tables e below (s₁.setTop (mkF m 48 #[.val (.int p0), .val (.long q1), .second, .val (.int p2), .val (.int j), .val (.long b), .second, .unset, .unset] [(.long b)])) _
        refine own_by (X0.ldc2Long hx hown (mvT hZ (hw _ (List.mem_of_getElem? (i := 25) rfl))) (g := (mkF m 48 #[.val (.int p0), .val (.long q1), .second, .val (.int p2), .val (.int j), .val (.long b), .second, .unset, .unset] [(.long b)])) rfl (hb hby at_48)) ?_
        show own_Go p.tables e below (s₁.setTop (mkF m 51 #[.val (.int p0), .val (.long q1), .second, .val (.int p2), .val (.int j), .val (.long b), .second, .unset, .unset] [(.long (8871906 : Int64)), (.long b)])) _
        refine own_by (fun _ kt => XS.lcmp X0.here hx rfl (hb hby at_51) rfl kt) ?_
        show own_Go p.tables e below (s₁.setTop (mkF m 52 #[.val (.int p0), .val (.long q1), .second, .val (.int p2), .val (.int j), .val (.long b), .second, .unset, .unset] [(.int (lcmpW b (8871906 : Int64)))])) _
        by_cases hc52_10 : (0 : Int32) < (lcmpW b (8871906 : Int64))
        · refine own_by (fun _ kt => XS.ifYes X0.here hx rfl (pc0 := 52) (pc' := 59) rfl (hb hby at_52) rfl ((if0 _ _).trans (tlt hc52_10).2.2.1) (by decide) (by decide) kt) ?_
          show own_Go p.tables e below (s₁.setTop (mkF m 59 #[.val (.int p0), .val (.long q1), .second, .val (.int p2), .val (.int j), .val (.long b), .second, .unset, .unset] [])) _
          refine own_by (fun _ kt => XS.iconst X0.here hx rfl (hb hby at_59) kt) ?_
          show own_Go p.tables e below (s₁.setTop (mkF m 60 #[.val (.int p0), .val (.long q1), .second, .val (.int p2), .val (.int j), .val (.long b), .second, .unset, .unset] [(.int (0 : Int32))])) _
          refine own_by (fun _ kt => XS.istore X0.here hx rfl (hb hby at_60) rfl (l' := #[.val (.int p0), .val (.long q1), .second, .val (.int p2), .val (.int j), .val (.long b), .second, .val (.int (0 : Int32)), .unset]) rfl kt) ?_
          show own_Go p.tables e below (s₁.setTop (mkF m 62 #[.val (.int p0), .val (.long q1), .second, .val (.int p2), .val (.int j), .val (.long b), .second, .val (.int (0 : Int32)), .unset] [])) _
          obtain ⟨T11, h11, X11, e11, E11, A11, D11, -, st11⟩ := newO X0 hx hZ hown (hw _ (List.mem_of_getElem? (i := 0) rfl)) (hw _ (List.mem_of_getElem? (i := 1) rfl)) (hw _ (List.mem_of_getElem? (i := 2) rfl)) e0 (g := (mkF m 62 #[.val (.int p0), .val (.long q1), .second, .val (.int p2), .val (.int j), .val (.long b), .second, .val (.int (0 : Int32)), .unset] [])) rfl (hb hby at_62) (by decide) (by decide)
          obtain ⟨b11, g11⟩ : ∃ z, z = h0.size := ⟨_, rfl⟩
          rw [← g11] at A11 D11 st11
          have gn_b11 : n0 ≤ b11 := Nat.le_trans Z0 (Nat.le_of_eq g11.symm)
          have Zs11 : n0 ≤ h11.size := Nat.le_trans Z0 E11.1
          have f12 : Fld Z h11 b11 "com/example/attache/attache/bench/Footprint$Result" "jars" "I" (.int (0 : Int32)) := D11 (Or.inr (hw _ (List.mem_of_getElem? (i := 15) rfl))) (ty := .int) (by decide)
          have f13 : Fld Z h11 b11 "com/example/attache/attache/bench/Footprint$Result" "bytes" "J" (.long (0 : Int64)) := D11 (Or.inr (hw _ (List.mem_of_getElem? (i := 17) rfl))) (ty := .long) (by decide)
          refine own_by st11 ?_
          show own_Go p.tables e below (T11.setTop (mkF m 65 #[.val (.int p0), .val (.long q1), .second, .val (.int p2), .val (.int j), .val (.long b), .second, .val (.int (0 : Int32)), .unset] [(.ref b11)])) _
          refine own_by (fun _ kt => XS.dup X11.here hx rfl (hb hby at_65) rfl rfl kt) ?_
          show own_Go p.tables e below (T11.setTop (mkF m 66 #[.val (.int p0), .val (.long q1), .second, .val (.int p2), .val (.int j), .val (.long b), .second, .val (.int (0 : Int32)), .unset] [(.ref b11), (.ref b11)])) _
          refine own_by (fun _ kt => XS.iload X11.here hx rfl (hb hby at_66) rfl kt) ?_
          show own_Go p.tables e below (T11.setTop (mkF m 68 #[.val (.int p0), .val (.long q1), .second, .val (.int p2), .val (.int j), .val (.long b), .second, .val (.int (0 : Int32)), .unset] [(.int j), (.ref b11), (.ref b11)])) _
          refine own_by (fun _ kt => XS.lload X11.here hx rfl (hb hby at_68) rfl kt) ?_
          show own_Go p.tables e below (T11.setTop (mkF m 70 #[.val (.int p0), .val (.long q1), .second, .val (.int p2), .val (.int j), .val (.long b), .second, .val (.int (0 : Int32)), .unset] [(.long b), (.int j), (.ref b11), (.ref b11)])) _
          obtain ⟨_, _, ⟨T14, L14, k14, n14⟩, -, X14, ⟨Lc14, hQ14, l14, y14, z14⟩, st14⟩ := X11.specialBack hx (y := (⟨"com/example/attache/attache/bench/Footprint$Result", "<init>", "(IJ)V"⟩ : MethodName)) rfl hown (mvT hZ (hw _ (List.mem_of_getElem? (i := 3) rfl))) (mvT hZ (hw _ (List.mem_of_getElem? (i := 4) rfl))) (mvT hZ (hw _ (List.mem_of_getElem? (i := 5) rfl))) (by decide) (backOf (W := 1) (rm_init l Z a0 hw [] b11 j b  h11 n0 Zs11 f12 f13 A11 gn_b11) hZ (hw _ (List.mem_of_getElem? (i := 5) rfl)) (hw _ (List.mem_of_getElem? (i := 2) rfl)) (by decide) (by decide)) (g := (mkF m 70 #[.val (.int p0), .val (.long q1), .second, .val (.int p2), .val (.int j), .val (.long b), .second, .val (.int (0 : Int32)), .unset] [(.long b), (.int j), (.ref b11), (.ref b11)])) rfl (by rw [hml]; rfl) (Steps.refl _) (a := b11) (argsL := [(.int j), (.long b)]) (rest := [(.ref b11)]) (lenOf pd_1 rfl) rfl (by show 2 * 0 + _ ≤ _; exact Nat.le_of_eq rfl) (hb hby at_70) (fun _ _ => ⟨rfl, e11, (by decide : 1 + 0 ≤ _), (by decide : 2 + 0 ≤ _)⟩)
          dsimp only [Pt.U, Pt.locs, Pt.cells, Pt.slots] at X14 l14 y14 z14 st14 hQ14
          subst l14 y14 z14
          obtain ⟨rfl, Nq14, K14, f14_0, f14_1, f14_2⟩ := hQ14
          have f15 := A11.keep K14
          have Zs14 : n0 ≤ T14.heap.size := Nat.le_trans Zs11 K14.1
          have N14 := Fr.app N0 Nq14
          refine own_by (fun _ kt => st14.trans kt) ?_
          show own_Go p.tables e below (T14.setTop (mkF m 73 #[.val (.int p0), .val (.long q1), .second, .val (.int p2), .val (.int j), .val (.long b), .second, .val (.int (0 : Int32)), .unset] [(.ref b11)])) _
          refine own_by (fun _ kt => XS.astore X14.here hx rfl (hb hby at_73) rfl rfl (l' := #[.val (.int p0), .val (.long q1), .second, .val (.int p2), .val (.int j), .val (.long b), .second, .val (.int (0 : Int32)), .val (.ref b11)]) rfl kt) ?_
          show own_Go p.tables e below (T14.setTop (mkF m 75 #[.val (.int p0), .val (.long q1), .second, .val (.int p2), .val (.int j), .val (.long b), .second, .val (.int (0 : Int32)), .val (.ref b11)] [])) _
          refine own_by (fun _ kt => XS.aload X14.here hx rfl (hb hby at_75) rfl rfl kt) ?_
          show own_Go p.tables e below (T14.setTop (mkF m 77 #[.val (.int p0), .val (.long q1), .second, .val (.int p2), .val (.int j), .val (.long b), .second, .val (.int (0 : Int32)), .val (.ref b11)] [(.ref b11)])) _
          obtain ⟨cq16, kq16, q16a, q16b, q16c⟩ := isOf hZ rfl f14_0
          obtain ⟨_, _, ⟨T16, L16, k16, n16⟩, -, X16, ⟨Lc16, hQ16, l16, y16, z16⟩, st16⟩ := X14.virtualBack hx (y := (⟨"com/example/attache/attache/bench/Footprint$Result", "meetsTarget", "()Z"⟩ : MethodName)) (z := (⟨"com/example/attache/attache/bench/Footprint$Result", "meetsTarget", "()Z"⟩ : MethodName)) hown (mvT hZ (hw _ (List.mem_of_getElem? (i := 18) rfl))) (mvT hZ (hw _ (List.mem_of_getElem? (i := 19) rfl))) (notFace_of_selects (args := #[]) (mvT hZ (hw _ (List.mem_of_getElem? (i := 21) rfl)))) (mvT hZ (hw _ (List.mem_of_getElem? (i := 21) rfl))) (mvT hZ (hw _ (List.mem_of_getElem? (i := 20) rfl))) (by decide) (backOf (W := 0) (rm_meets l Z a0 hw [] b11 (j) (b) T14.heap n0 Zs14 f14_1 f14_2) hZ (hw _ (List.mem_of_getElem? (i := 22) rfl)) (hw _ (List.mem_of_getElem? (i := 2) rfl)) (by decide) (by decide)) q16a q16c (g := (mkF m 77 #[.val (.int p0), .val (.long q1), .second, .val (.int p2), .val (.int j), .val (.long b), .second, .val (.int (0 : Int32)), .val (.ref b11)] [(.ref b11)])) rfl (by rw [hml]; rfl) (Steps.refl _) (argsL := []) (rest := []) (lenOf pd_2 rfl) rfl (by show 2 * 0 + _ ≤ _; exact Nat.le_of_eq rfl) (hb hby at_77) (fun _ _ => ⟨rfl, rfl, (by decide : 1 + 0 ≤ _), (by decide : 2 + 0 ≤ _)⟩)
          dsimp only [Pt.U, Pt.locs, Pt.cells, Pt.slots] at X16 l16 y16 z16 st16 hQ16
          subst l16 y16 z16
          obtain ⟨rfl, Nq16, eh16⟩ := hQ16
          have N16 := Fr.app N14 Nq16
          refine own_by (fun _ kt => st16.trans kt) ?_
          show own_Go p.tables e below (T16.setTop (mkF m 80 #[.val (.int p0), .val (.long q1), .second, .val (.int p2), .val (.int j), .val (.long b), .second, .val (.int (0 : Int32)), .val (.ref b11)] [(.int (own_meets j b))])) _
          refine own_by (fun _ kt => XS.iload X16.here hx rfl (hb hby at_80) rfl kt) ?_
          show own_Go p.tables e below (T16.setTop (mkF m 82 #[.val (.int p0), .val (.long q1), .second, .val (.int p2), .val (.int j), .val (.long b), .second, .val (.int (0 : Int32)), .val (.ref b11)] [(.int (0 : Int32)), (.int (own_meets j b))])) _
          refine own_by (fun _ kt => XS.icmpNo X16.here hx rfl (hb hby at_82) rfl (teq (own_k1 _ _ hc52_10 : (own_meets j b) = (0 : Int32))).2 kt) ?_
          show own_Go p.tables e below (T16.setTop (mkF m 85 #[.val (.int p0), .val (.long q1), .second, .val (.int p2), .val (.int j), .val (.long b), .second, .val (.int (0 : Int32)), .val (.ref b11)] [])) _
          refine own_by (fun _ kt => XS.iconst X16.here hx rfl (hb hby at_85) kt) ?_
          show own_Go p.tables e below (T16.setTop (mkF m 86 #[.val (.int p0), .val (.long q1), .second, .val (.int p2), .val (.int j), .val (.long b), .second, .val (.int (0 : Int32)), .val (.ref b11)] [(.int (1 : Int32))])) _
          refine own_by (fun _ kt => XS.goto X16.here hx rfl (pc0 := 86) (pc' := 90) rfl (hb hby at_86) (by decide) (by decide) kt) ?_
          show own_Go p.tables e below (T16.setTop (mkF m 90 #[.val (.int p0), .val (.long q1), .second, .val (.int p2), .val (.int j), .val (.long b), .second, .val (.int (0 : Int32)), .val (.ref b11)] [(.int (1 : Int32))])) _
          exact own_retN X16 hx (t := .boolean) Bd.returns hlk (by simp) (hb hby at_90) ⟨rfl, N16⟩ (by decide) (by decide)
        · refine own_by (fun _ kt => XS.ifNo X0.here hx rfl (hb hby at_52) rfl ((if0 _ _).trans (flt hc52_10).2.2.1) kt) ?_
          show own_Go p.tables e below (s₁.setTop (mkF m 55 #[.val (.int p0), .val (.long q1), .second, .val (.int p2), .val (.int j), .val (.long b), .second, .unset, .unset] [])) _
          refine own_by (fun _ kt => XS.iconst X0.here hx rfl (hb hby at_55) kt) ?_
          show own_Go p.tables e below (s₁.setTop (mkF m 56 #[.val (.int p0), .val (.long q1), .second, .val (.int p2), .val (.int j), .val (.long b), .second, .unset, .unset] [(.int (1 : Int32))])) _
          refine own_by (fun _ kt => XS.goto X0.here hx rfl (pc0 := 56) (pc' := 60) rfl (hb hby at_56) (by decide) (by decide) kt) ?_
          show own_Go p.tables e below (s₁.setTop (mkF m 60 #[.val (.int p0), .val (.long q1), .second, .val (.int p2), .val (.int j), .val (.long b), .second, .unset, .unset] [(.int (1 : Int32))])) _
          refine own_by (fun _ kt => XS.istore X0.here hx rfl (hb hby at_60) rfl (l' := #[.val (.int p0), .val (.long q1), .second, .val (.int p2), .val (.int j), .val (.long b), .second, .val (.int (1 : Int32)), .unset]) rfl kt) ?_
          show own_Go p.tables e below (s₁.setTop (mkF m 62 #[.val (.int p0), .val (.long q1), .second, .val (.int p2), .val (.int j), .val (.long b), .second, .val (.int (1 : Int32)), .unset] [])) _
          obtain ⟨T17, h17, X17, e17, E17, A17, D17, -, st17⟩ := newO X0 hx hZ hown (hw _ (List.mem_of_getElem? (i := 0) rfl)) (hw _ (List.mem_of_getElem? (i := 1) rfl)) (hw _ (List.mem_of_getElem? (i := 2) rfl)) e0 (g := (mkF m 62 #[.val (.int p0), .val (.long q1), .second, .val (.int p2), .val (.int j), .val (.long b), .second, .val (.int (1 : Int32)), .unset] [])) rfl (hb hby at_62) (by decide) (by decide)
          obtain ⟨b17, g17⟩ : ∃ z, z = h0.size := ⟨_, rfl⟩
          rw [← g17] at A17 D17 st17
          have gn_b17 : n0 ≤ b17 := Nat.le_trans Z0 (Nat.le_of_eq g17.symm)
          have Zs17 : n0 ≤ h17.size := Nat.le_trans Z0 E17.1
          have f18 : Fld Z h17 b17 "com/example/attache/attache/bench/Footprint$Result" "jars" "I" (.int (0 : Int32)) := D17 (Or.inr (hw _ (List.mem_of_getElem? (i := 15) rfl))) (ty := .int) (by decide)
          have f19 : Fld Z h17 b17 "com/example/attache/attache/bench/Footprint$Result" "bytes" "J" (.long (0 : Int64)) := D17 (Or.inr (hw _ (List.mem_of_getElem? (i := 17) rfl))) (ty := .long) (by decide)
          refine own_by st17 ?_
          show own_Go p.tables e below (T17.setTop (mkF m 65 #[.val (.int p0), .val (.long q1), .second, .val (.int p2), .val (.int j), .val (.long b), .second, .val (.int (1 : Int32)), .unset] [(.ref b17)])) _
          refine own_by (fun _ kt => XS.dup X17.here hx rfl (hb hby at_65) rfl rfl kt) ?_
          show own_Go p.tables e below (T17.setTop (mkF m 66 #[.val (.int p0), .val (.long q1), .second, .val (.int p2), .val (.int j), .val (.long b), .second, .val (.int (1 : Int32)), .unset] [(.ref b17), (.ref b17)])) _
          refine own_by (fun _ kt => XS.iload X17.here hx rfl (hb hby at_66) rfl kt) ?_
          show own_Go p.tables e below (T17.setTop (mkF m 68 #[.val (.int p0), .val (.long q1), .second, .val (.int p2), .val (.int j), .val (.long b), .second, .val (.int (1 : Int32)), .unset] [(.int j), (.ref b17), (.ref b17)])) _
          refine own_by (fun _ kt => XS.lload X17.here hx rfl (hb hby at_68) rfl kt) ?_
          show own_Go p.tables e below (T17.setTop (mkF m 70 #[.val (.int p0), .val (.long q1), .second, .val (.int p2), .val (.int j), .val (.long b), .second, .val (.int (1 : Int32)), .unset] [(.long b), (.int j), (.ref b17), (.ref b17)])) _
          obtain ⟨_, _, ⟨T20, L20, k20, n20⟩, -, X20, ⟨Lc20, hQ20, l20, y20, z20⟩, st20⟩ := X17.specialBack hx (y := (⟨"com/example/attache/attache/bench/Footprint$Result", "<init>", "(IJ)V"⟩ : MethodName)) rfl hown (mvT hZ (hw _ (List.mem_of_getElem? (i := 3) rfl))) (mvT hZ (hw _ (List.mem_of_getElem? (i := 4) rfl))) (mvT hZ (hw _ (List.mem_of_getElem? (i := 5) rfl))) (by decide) (backOf (W := 1) (rm_init l Z a0 hw [] b17 j b  h17 n0 Zs17 f18 f19 A17 gn_b17) hZ (hw _ (List.mem_of_getElem? (i := 5) rfl)) (hw _ (List.mem_of_getElem? (i := 2) rfl)) (by decide) (by decide)) (g := (mkF m 70 #[.val (.int p0), .val (.long q1), .second, .val (.int p2), .val (.int j), .val (.long b), .second, .val (.int (1 : Int32)), .unset] [(.long b), (.int j), (.ref b17), (.ref b17)])) rfl (by rw [hml]; rfl) (Steps.refl _) (a := b17) (argsL := [(.int j), (.long b)]) (rest := [(.ref b17)]) (lenOf pd_1 rfl) rfl (by show 2 * 0 + _ ≤ _; exact Nat.le_of_eq rfl) (hb hby at_70) (fun _ _ => ⟨rfl, e17, (by decide : 1 + 0 ≤ _), (by decide : 2 + 0 ≤ _)⟩)
          dsimp only [Pt.U, Pt.locs, Pt.cells, Pt.slots] at X20 l20 y20 z20 st20 hQ20
          subst l20 y20 z20
          obtain ⟨rfl, Nq20, K20, f20_0, f20_1, f20_2⟩ := hQ20
          have f21 := A17.keep K20
          have Zs20 : n0 ≤ T20.heap.size := Nat.le_trans Zs17 K20.1
          have N20 := Fr.app N0 Nq20
          refine own_by (fun _ kt => st20.trans kt) ?_
          show own_Go p.tables e below (T20.setTop (mkF m 73 #[.val (.int p0), .val (.long q1), .second, .val (.int p2), .val (.int j), .val (.long b), .second, .val (.int (1 : Int32)), .unset] [(.ref b17)])) _
          refine own_by (fun _ kt => XS.astore X20.here hx rfl (hb hby at_73) rfl rfl (l' := #[.val (.int p0), .val (.long q1), .second, .val (.int p2), .val (.int j), .val (.long b), .second, .val (.int (1 : Int32)), .val (.ref b17)]) rfl kt) ?_
          show own_Go p.tables e below (T20.setTop (mkF m 75 #[.val (.int p0), .val (.long q1), .second, .val (.int p2), .val (.int j), .val (.long b), .second, .val (.int (1 : Int32)), .val (.ref b17)] [])) _
          refine own_by (fun _ kt => XS.aload X20.here hx rfl (hb hby at_75) rfl rfl kt) ?_
          show own_Go p.tables e below (T20.setTop (mkF m 77 #[.val (.int p0), .val (.long q1), .second, .val (.int p2), .val (.int j), .val (.long b), .second, .val (.int (1 : Int32)), .val (.ref b17)] [(.ref b17)])) _
          obtain ⟨cq22, kq22, q22a, q22b, q22c⟩ := isOf hZ rfl f20_0
          obtain ⟨_, _, ⟨T22, L22, k22, n22⟩, -, X22, ⟨Lc22, hQ22, l22, y22, z22⟩, st22⟩ := X20.virtualBack hx (y := (⟨"com/example/attache/attache/bench/Footprint$Result", "meetsTarget", "()Z"⟩ : MethodName)) (z := (⟨"com/example/attache/attache/bench/Footprint$Result", "meetsTarget", "()Z"⟩ : MethodName)) hown (mvT hZ (hw _ (List.mem_of_getElem? (i := 18) rfl))) (mvT hZ (hw _ (List.mem_of_getElem? (i := 19) rfl))) (notFace_of_selects (args := #[]) (mvT hZ (hw _ (List.mem_of_getElem? (i := 21) rfl)))) (mvT hZ (hw _ (List.mem_of_getElem? (i := 21) rfl))) (mvT hZ (hw _ (List.mem_of_getElem? (i := 20) rfl))) (by decide) (backOf (W := 0) (rm_meets l Z a0 hw [] b17 (j) (b) T20.heap n0 Zs20 f20_1 f20_2) hZ (hw _ (List.mem_of_getElem? (i := 22) rfl)) (hw _ (List.mem_of_getElem? (i := 2) rfl)) (by decide) (by decide)) q22a q22c (g := (mkF m 77 #[.val (.int p0), .val (.long q1), .second, .val (.int p2), .val (.int j), .val (.long b), .second, .val (.int (1 : Int32)), .val (.ref b17)] [(.ref b17)])) rfl (by rw [hml]; rfl) (Steps.refl _) (argsL := []) (rest := []) (lenOf pd_2 rfl) rfl (by show 2 * 0 + _ ≤ _; exact Nat.le_of_eq rfl) (hb hby at_77) (fun _ _ => ⟨rfl, rfl, (by decide : 1 + 0 ≤ _), (by decide : 2 + 0 ≤ _)⟩)
          dsimp only [Pt.U, Pt.locs, Pt.cells, Pt.slots] at X22 l22 y22 z22 st22 hQ22
          subst l22 y22 z22
          obtain ⟨rfl, Nq22, eh22⟩ := hQ22
          have N22 := Fr.app N20 Nq22
          refine own_by (fun _ kt => st22.trans kt) ?_
          show own_Go p.tables e below (T22.setTop (mkF m 80 #[.val (.int p0), .val (.long q1), .second, .val (.int p2), .val (.int j), .val (.long b), .second, .val (.int (1 : Int32)), .val (.ref b17)] [(.int (own_meets j b))])) _
          refine own_by (fun _ kt => XS.iload X22.here hx rfl (hb hby at_80) rfl kt) ?_
          show own_Go p.tables e below (T22.setTop (mkF m 82 #[.val (.int p0), .val (.long q1), .second, .val (.int p2), .val (.int j), .val (.long b), .second, .val (.int (1 : Int32)), .val (.ref b17)] [(.int (1 : Int32)), (.int (own_meets j b))])) _
          refine own_by (fun _ kt => XS.icmpNo X22.here hx rfl (hb hby at_82) rfl (teq (own_k2 _ _ hc43_3 hc52_10 : (own_meets j b) = (1 : Int32))).2 kt) ?_
          show own_Go p.tables e below (T22.setTop (mkF m 85 #[.val (.int p0), .val (.long q1), .second, .val (.int p2), .val (.int j), .val (.long b), .second, .val (.int (1 : Int32)), .val (.ref b17)] [])) _
          refine own_by (fun _ kt => XS.iconst X22.here hx rfl (hb hby at_85) kt) ?_
          show own_Go p.tables e below (T22.setTop (mkF m 86 #[.val (.int p0), .val (.long q1), .second, .val (.int p2), .val (.int j), .val (.long b), .second, .val (.int (1 : Int32)), .val (.ref b17)] [(.int (1 : Int32))])) _
          refine own_by (fun _ kt => XS.goto X22.here hx rfl (pc0 := 86) (pc' := 90) rfl (hb hby at_86) (by decide) (by decide) kt) ?_
          show own_Go p.tables e below (T22.setTop (mkF m 90 #[.val (.int p0), .val (.long q1), .second, .val (.int p2), .val (.int j), .val (.long b), .second, .val (.int (1 : Int32)), .val (.ref b17)] [(.int (1 : Int32))])) _
          exact own_retN X22 hx (t := .boolean) Bd.returns hlk (by simp) (hb hby at_90) ⟨rfl, N22⟩ (by decide) (by decide)
    by_cases hc21_23 : (p2 &&& (2 : Int32)) = (0 : Int32)
    · refine own_by (fun _ kt => XS.ifYes X0.here hx rfl (pc0 := 21) (pc' := 36) rfl (hb hby at_21) rfl ((if0 _ _).trans (teq hc21_23).1) (by decide) (by decide) kt) ?_
      show own_Go p.tables e below (s₁.setTop (mkF m 36 #[.val (.int p0), .val (.long q1), .second, .val (.int p2), .val (.int j), .unset, .unset, .unset, .unset] [])) _
      refine own_by (fun _ kt => XS.lloadN X0.here hx rfl (hb hby at_36) rfl kt) ?_
      show own_Go p.tables e below (s₁.setTop (mkF m 37 #[.val (.int p0), .val (.long q1), .second, .val (.int p2), .val (.int j), .unset, .unset, .unset, .unset] [(.long q1)])) _
      exact J2 (q1)
    · refine own_by (fun _ kt => XS.ifNo X0.here hx rfl (hb hby at_21) rfl ((if0 _ _).trans (feq hc21_23).1) kt) ?_
      show own_Go p.tables e below (s₁.setTop (mkF m 24 #[.val (.int p0), .val (.long q1), .second, .val (.int p2), .val (.int j), .unset, .unset, .unset, .unset] [])) _
      refine own_by (X0.ldc2Long hx hown (mvT hZ (hw _ (List.mem_of_getElem? (i := 23) rfl))) (g := (mkF m 24 #[.val (.int p0), .val (.long q1), .second, .val (.int p2), .val (.int j), .unset, .unset, .unset, .unset] [])) rfl (hb hby at_24)) ?_
      show own_Go p.tables e below (s₁.setTop (mkF m 27 #[.val (.int p0), .val (.long q1), .second, .val (.int p2), .val (.int j), .unset, .unset, .unset, .unset] [(.long (8871907 : Int64))])) _
      refine own_by (fun _ kt => XS.lloadN X0.here hx rfl (hb hby at_27) rfl kt) ?_
      show own_Go p.tables e below (s₁.setTop (mkF m 28 #[.val (.int p0), .val (.long q1), .second, .val (.int p2), .val (.int j), .unset, .unset, .unset, .unset] [(.long q1), (.long (8871907 : Int64))])) _
      refine own_by (X0.ldc2Long hx hown (mvT hZ (hw _ (List.mem_of_getElem? (i := 24) rfl))) (g := (mkF m 28 #[.val (.int p0), .val (.long q1), .second, .val (.int p2), .val (.int j), .unset, .unset, .unset, .unset] [(.long q1), (.long (8871907 : Int64))])) rfl (hb hby at_28)) ?_
      show own_Go p.tables e below (s₁.setTop (mkF m 31 #[.val (.int p0), .val (.long q1), .second, .val (.int p2), .val (.int j), .unset, .unset, .unset, .unset] [(.long (3 : Int64)), (.long q1), (.long (8871907 : Int64))])) _
      refine own_by (fun _ kt => XS.lrem X0.here hx rfl (hb hby at_31) rfl (by decide) kt) ?_
      show own_Go p.tables e below (s₁.setTop (mkF m 32 #[.val (.int p0), .val (.long q1), .second, .val (.int p2), .val (.int j), .unset, .unset, .unset, .unset] [(.long (own_lrem q1 (3 : Int64))), (.long (8871907 : Int64))])) _
      refine own_by (fun _ kt => XS.ladd X0.here hx rfl (hb hby at_32) rfl kt) ?_
      show own_Go p.tables e below (s₁.setTop (mkF m 33 #[.val (.int p0), .val (.long q1), .second, .val (.int p2), .val (.int j), .unset, .unset, .unset, .unset] [(.long ((8871907 : Int64) + (own_lrem q1 (3 : Int64))))])) _
      refine own_by (fun _ kt => XS.goto X0.here hx rfl (pc0 := 33) (pc' := 37) rfl (hb hby at_33) (by decide) (by decide) kt) ?_
      show own_Go p.tables e below (s₁.setTop (mkF m 37 #[.val (.int p0), .val (.long q1), .second, .val (.int p2), .val (.int j), .unset, .unset, .unset, .unset] [(.long ((8871907 : Int64) + (own_lrem q1 (3 : Int64))))])) _
      exact J2 (((8871907 : Int64) + (own_lrem q1 (3 : Int64))))
  by_cases hc3_24 : (p2 &&& (1 : Int32)) = (0 : Int32)
  · refine own_by (fun _ kt => XS.ifYes X0.here hx rfl (pc0 := 3) (pc' := 15) rfl (hb hby at_3) rfl ((if0 _ _).trans (teq hc3_24).1) (by decide) (by decide) kt) ?_
    show own_Go p.tables e below (s₁.setTop (mkF m 15 #[.val (.int p0), .val (.long q1), .second, .val (.int p2), .unset, .unset, .unset, .unset, .unset] [])) _
    refine own_by (fun _ kt => XS.iloadN X0.here hx rfl (hb hby at_15) rfl kt) ?_
    show own_Go p.tables e below (s₁.setTop (mkF m 16 #[.val (.int p0), .val (.long q1), .second, .val (.int p2), .unset, .unset, .unset, .unset, .unset] [(.int p0)])) _
    exact J1 (p0)
  · refine own_by (fun _ kt => XS.ifNo X0.here hx rfl (hb hby at_3) rfl ((if0 _ _).trans (feq hc3_24).1) kt) ?_
    show own_Go p.tables e below (s₁.setTop (mkF m 6 #[.val (.int p0), .val (.long q1), .second, .val (.int p2), .unset, .unset, .unset, .unset, .unset] [])) _
    refine own_by (fun _ kt => XS.bipush X0.here hx rfl (hb hby at_6) kt) ?_
    show own_Go p.tables e below (s₁.setTop (mkF m 8 #[.val (.int p0), .val (.long q1), .second, .val (.int p2), .unset, .unset, .unset, .unset, .unset] [(.int (7 : Int32))])) _
    refine own_by (fun _ kt => XS.iloadN X0.here hx rfl (hb hby at_8) rfl kt) ?_
    show own_Go p.tables e below (s₁.setTop (mkF m 9 #[.val (.int p0), .val (.long q1), .second, .val (.int p2), .unset, .unset, .unset, .unset, .unset] [(.int p0), (.int (7 : Int32))])) _
    refine own_by (fun _ kt => XS.iconst X0.here hx rfl (hb hby at_9) kt) ?_
    show own_Go p.tables e below (s₁.setTop (mkF m 10 #[.val (.int p0), .val (.long q1), .second, .val (.int p2), .unset, .unset, .unset, .unset, .unset] [(.int (3 : Int32)), (.int p0), (.int (7 : Int32))])) _
    refine own_by (fun _ kt => iremM X0 hx rfl (hb hby at_10) rfl (by decide) kt) ?_
    show own_Go p.tables e below (s₁.setTop (mkF m 11 #[.val (.int p0), .val (.long q1), .second, .val (.int p2), .unset, .unset, .unset, .unset, .unset] [(.int (p0 % (3 : Int32))), (.int (7 : Int32))])) _
    refine own_by (fun _ kt => XS.iadd X0.here hx rfl (hb hby at_11) rfl kt) ?_
    show own_Go p.tables e below (s₁.setTop (mkF m 12 #[.val (.int p0), .val (.long q1), .second, .val (.int p2), .unset, .unset, .unset, .unset, .unset] [(.int ((7 : Int32) + (p0 % (3 : Int32))))])) _
    refine own_by (fun _ kt => XS.goto X0.here hx rfl (pc0 := 12) (pc' := 16) rfl (hb hby at_12) (by decide) (by decide) kt) ?_
    show own_Go p.tables e below (s₁.setTop (mkF m 16 #[.val (.int p0), .val (.long q1), .second, .val (.int p2), .unset, .unset, .unset, .unset, .unset] [(.int ((7 : Int32) + (p0 % (3 : Int32))))])) _
    exact J1 (((7 : Int32) + (p0 % (3 : Int32))))
set_option maxRecDepth 65536 in
set_option maxHeartbeats 40000000 in
theorem comes_1 {Post : Tables → Env → Array Value → State → Outcome → State → Prop} (hpost : ∀ tb e args s v u, (limb_1_1.after args s (.returned v) u = true ∧ limb_1_2.after args s (.returned v) u = true ∧ True) → FrameEnd s (.returned v) u (Jvm.fieldLocs frame_1_writes args s ++ Jvm.arrayLocs frame_1_arrays args s ++ Jvm.staticLocs frame_1_statics s) 16 128 → Post tb e args s (.returned v) u) :
    ArmFor flags0 classFile x code maxLocals ret World_1 tables_1 room_1 Calls_1 rest_1 Pre_1 Post := by
  intro l hfl _ _ p e ha hc hk s m args below hf hA hF happ hP
  obtain ⟨hcalls, hrest, hpre⟩ := hP
  obtain ⟨-, -, -, hnamed, -, -, -, hat⟩ := (Spec.applies_iff hf).mp happ
  obtain ⟨hg, hn⟩ := and_e (Cond.before_iff.mp (show (Jvm.Cond.and given_1 narrow_1).before args s = true from hpre))
  obtain ⟨hcnt, g0⟩ := and_e hg
  obtain ⟨i0, g1⟩ := and_e g0
  obtain ⟨i1, g2⟩ := and_e g1
  obtain ⟨w0, w1, w2, rfl⟩ : ∃ w0 w1 w2 : Value, args = #[w0, w1, w2] := by
    have hs : args.size = 3 := by simpa [Cond.value, given_1] using hcnt
    obtain ⟨L⟩ := args
    match L, hs with
    | [w0, w1, w2], _ => exact ⟨w0, w1, w2, rfl⟩
  have hw := fun d (hd : d ∈ tables_1) => atoms_spec (ws := Jvm.Cond.code x code maxLocals ret :: tables_1) hat d (List.mem_cons_of_mem _ hd)
  obtain ⟨v0, ev0⟩ := is_v i0
  obtain rfl : w0 = (.int v0) := Option.some.inj ev0
  obtain ⟨v1, ev1⟩ := isL_v i1
  obtain rfl : w1 = (.long v1) := Option.some.inj ev1
  obtain ⟨v2, ev2⟩ := is_v g2
  obtain rfl : w2 = (.int v2) := Option.some.inj ev2
  obtain ⟨n, o, h1, h2, h3, _, L, rfl, ⟨rfl, N⟩, hq⟩ := rm_law l s _ hw tables_1 v0 v1 v2  s.heap s.heap.size (Nat.le_refl _)  p e ha hc hk s m _ below hf ((Spec.applies_iff_loose hf).mp happ).1 ⟨rfl, State.Warmed39.refl s, rfl⟩ trivial
  refine ⟨n, _, h1, h2, h3, hpost _ _ _ _ _ _ ⟨Cond.after_iff.mpr rfl, Cond.after_iff.mpr (eq_i res_at (Term.int_eval (1)) rfl), trivial⟩ ⟨hq.1, hq.2.1, (hq.2.2.sift fun y hy => Or.inr (N y hy)).mono (by decide) (by decide)⟩⟩
theorem main_1_1 : Claimed_1_1 := comes_1 fun _ _ _ _ _ _ h hF => ⟨h.1, hF⟩
theorem main_1_2 : Claimed_1_2 := comes_1 fun _ _ _ _ _ _ h hF => ⟨h.2.1, hF⟩
end Jvm.Pilot.@@N@@
namespace Jvm.Pilot.@@N@@
open Jvm Jvm.ClassFile Sem Op Lib Jvm.Free Jvm.Stand Jvm.Pilot.@@N@@.Jvm.D
/-! MADE BY PROGRAM (witnessworld.py) out of the Statement's table words and the real class files: 10 classes; the members and pool entries that the words name. The judged class is class 1, her method 1. -/
namespace start1
open Jvm.ClassFile
def u (s : String) : CpInfo := .utf8 (stringToUtf16 s)
/-- a pool by its gaps: so many unusable entries, then the entry; so many at the end -/
def gap : Nat → List CpInfo → List CpInfo
  | 0, r => r
  | n + 1, r => .unusable :: gap n r
def poolList (es : List (Nat × CpInfo)) (last : Nat) : List CpInfo := es.foldr (fun e r => gap e.1 (e.2 :: r)) (gap last [])
def pool (es : List (Nat × CpInfo)) (last : Nat) : Array CpInfo := ⟨poolList es last⟩
def fileOf (pool : Array CpInfo) (this : Nat) (attrs : Array Attribute := #[]) (ms : Array MethodInfo := #[]) (fl : Nat := 33) (sup : Nat := 0) (ifs : Array Nat := #[]) (fds : Array FieldInfo := #[]) : ClassFile where
  minorVersion := 0
  majorVersion := 65
  constantPool := pool
  accessFlags := fl
  thisClass := this
  superClass := sup
  interfaces := ifs
  fields := fds
  methods := ms
  attributes := attrs
def plain (name : String) (sup : Option ClassId) : Class where
  name := name
  kind := .ordinary
  loader := none
  accessFlags := 33
  super := sup
  interfaces := #[]
  cf := none
  fields := #[]
  methods := #[]
  instanceTypes := #[]
  staticTypes := #[]
  resolved := #[]
  callSites := []
  init := .initialized
  statics := none
  mirror := none

def pool0 : Array CpInfo := pool [(5, u "<init>"), (0, u "()V"), (1, .class_ 10), (1, u "java/lang/Object")] 113

def k0c0 : Code := { maxStack := 0, maxLocals := 1, code := object_method_1_code, exceptionTable := #[], attributes := #[] }
def k0m0 : Method := { name := "<init>", desc := "()V", sig := { parameters := [], returnType := none }, accessFlags := 1, code := some k0c0 }
/-- java/lang/Object -/
def k0 : Class := { plain "java/lang/Object" none with
  accessFlags := 33
  interfaces := #[]
  cf := some (fileOf pool0 8 #[] #[{ accessFlags := 1, nameIndex := 5, descriptorIndex := 6, attributes := #[] }] 33 0 #[] #[])
  fields := #[]
  methods := #[k0m0]
  instanceTypes := #[]
  staticTypes := #[]
  resolved := Array.replicate 124 none
  statics := none }

def pool1 : Array CpInfo := pool [(2, .class_ 4), (1, u "java/lang/Object"), (0, u "<init>"), (0, u "()V"), (0, .long 8871907), (1, .long 3), (1, .long 8871906), (1, .class_ 14), (0, u "com/example/attache/attache/bench/Footprint$Result"), (0, .methodref 13 16), (0, .nameAndType 5 17), (0, u "(IJ)V"), (0, .methodref 13 19), (0, .nameAndType 20 21), (0, u "meetsTarget"), (0, u "()Z"), (0, .class_ 23), (0, u "com/example/attache/attache/bench/ResultMeetsTargetPinLaw"), (2, u "law"), (0, u "(IJI)Z")] 7

def k1m0 : Method := { name := "<init>", desc := "()V", sig := { parameters := [], returnType := none }, accessFlags := 1, code := none }
def k1c1 : Code := { maxStack := 6, maxLocals := 9, code := code, exceptionTable := #[], attributes := #[] }
def k1m1 : Method := { name := "law", desc := "(IJI)Z", sig := { parameters := [.int, .long, .int], returnType := some .boolean }, accessFlags := 9, code := some k1c1 }
/-- com/example/attache/attache/bench/ResultMeetsTargetPinLaw -/
def k1 : Class := { plain "com/example/attache/attache/bench/ResultMeetsTargetPinLaw" (some 0) with
  accessFlags := 49
  interfaces := #[]
  cf := some (fileOf pool1 22 #[] #[{ accessFlags := 1, nameIndex := 5, descriptorIndex := 6, attributes := #[] }, { accessFlags := 9, nameIndex := 26, descriptorIndex := 27, attributes := #[] }] 49 2 #[] #[])
  fields := #[]
  methods := #[k1m0, k1m1]
  instanceTypes := #[]
  staticTypes := #[]
  resolved := Array.replicate 35 none
  statics := none }

def pool2 : Array CpInfo := pool [(1, .methodref 2 3), (0, .class_ 4), (0, .nameAndType 5 6), (0, u "java/lang/Object"), (0, u "<init>"), (0, u "()V"), (0, .class_ 8), (0, u "java/lang/Record")] 13

def k2c0 : Code := { maxStack := 1, maxLocals := 1, code := jdk_30_method_1_code, exceptionTable := #[], attributes := #[] }
def k2m0 : Method := { name := "<init>", desc := "()V", sig := { parameters := [], returnType := none }, accessFlags := 4, code := some k2c0 }
/-- java/lang/Record -/
def k2 : Class := { plain "java/lang/Record" (some 0) with
  accessFlags := 1057
  interfaces := #[]
  cf := some (fileOf pool2 7 #[] #[{ accessFlags := 4, nameIndex := 5, descriptorIndex := 6, attributes := #[] }] 1057 2 #[] #[])
  fields := #[]
  methods := #[k2m0]
  instanceTypes := #[]
  staticTypes := #[]
  resolved := Array.replicate 22 none
  statics := none }

def pool3 : Array CpInfo := pool [(1, .class_ 2), (0, u "com/example/attache/attache/bench/Footprint"), (0, .methodref 4 5), (0, .class_ 6), (0, .nameAndType 7 8), (0, u "java/lang/Record"), (0, u "<init>"), (0, u "()V"), (0, .fieldref 10 11), (0, .class_ 12), (0, .nameAndType 13 14), (0, u "com/example/attache/attache/bench/Footprint$Result"), (0, u "jars"), (0, u "I"), (0, .fieldref 10 16), (0, .nameAndType 17 18), (0, u "bytes"), (0, u "J"), (11, u "()Z"), (38, u "(IJ)V"), (0, .long 8871907), (48, u "meetsTarget")] 35

def k3c0 : Code := { maxStack := 3, maxLocals := 4, code := prog_3_method_1_code, exceptionTable := #[], attributes := #[] }
def k3m0 : Method := { name := "<init>", desc := "(IJ)V", sig := { parameters := [.int, .long], returnType := none }, accessFlags := 0, code := some k3c0 }
def k3c1 : Code := { maxStack := 4, maxLocals := 1, code := prog_3_method_3_code, exceptionTable := #[], attributes := #[] }
def k3m1 : Method := { name := "meetsTarget", desc := "()Z", sig := { parameters := [], returnType := some .boolean }, accessFlags := 0, code := some k3c1 }
/-- com/example/attache/attache/bench/Footprint$Result -/
def k3 : Class := { plain "com/example/attache/attache/bench/Footprint$Result" (some 2) with
  accessFlags := 48
  interfaces := #[]
  cf := some (fileOf pool3 10 #[.nestHost 1] #[{ accessFlags := 0, nameIndex := 7, descriptorIndex := 69, attributes := #[] }, { accessFlags := 0, nameIndex := 119, descriptorIndex := 30, attributes := #[] }] 48 4 #[] #[{ accessFlags := 18, nameIndex := 13, descriptorIndex := 14, attributes := #[] }, { accessFlags := 18, nameIndex := 17, descriptorIndex := 18, attributes := #[] }])
  fields := #[{ name := "jars", type := .int, accessFlags := 18, slot := 0, constantValue := 0 }, { name := "bytes", type := .long, accessFlags := 18, slot := 1, constantValue := 0 }]
  methods := #[k3m0, k3m1]
  instanceTypes := #[.int, .long]
  staticTypes := #[]
  resolved := Array.replicate 155 none
  statics := none }

def pool4 : Array CpInfo := pool [(1, u "java/lang/Cloneable"), (0, .class_ 1), (0, u "java/lang/Object"), (0, .class_ 3)] 3

/-- java/lang/Cloneable -/
def k4 : Class := { plain "java/lang/Cloneable" (some 0) with
  accessFlags := 1537
  interfaces := #[]
  cf := some (fileOf pool4 2 #[] #[] 1537 4 #[] #[])
  fields := #[]
  methods := #[]
  instanceTypes := #[]
  staticTypes := #[]
  resolved := Array.replicate 8 none
  statics := none }

def pool5 : Array CpInfo := pool [(1, u "java/io/Serializable"), (0, .class_ 1), (0, u "java/lang/Object"), (0, .class_ 3)] 3

/-- java/io/Serializable -/
def k5 : Class := { plain "java/io/Serializable" (some 0) with
  accessFlags := 1537
  interfaces := #[]
  cf := some (fileOf pool5 2 #[] #[] 1537 4 #[] #[])
  fields := #[]
  methods := #[]
  instanceTypes := #[]
  staticTypes := #[]
  resolved := Array.replicate 8 none
  statics := none }

/-- the primitive byte -/
def k6 : Class := { plain "byte" none with kind := .primitive 'B', accessFlags := 0x411 }
/-- [B -/
def k7 : Class := { plain "[B" (some 0) with kind := .array 6 .byte, interfaces := #[4, 5], accessFlags := 1041 }

/-- the primitive int -/
def k8 : Class := { plain "int" none with kind := .primitive 'I', accessFlags := 0x411 }
/-- [I -/
def k9 : Class := { plain "[I" (some 0) with kind := .array 8 .int, interfaces := #[4, 5], accessFlags := 1041 }

def heap : Heap := #[]
def classes : Array Class := #[k0, k1, k2, k3, k4, k5, k6, k7, k8, k9]
def interned : List (Array UInt16 × Addr) := []
def slotsUsed : Nat := 0
def theMethod : MethodId := ⟨1, 1⟩
def args0 : Array Value := #[.int 3, .long 4, .int 5]
def aboutOver (below : List Frame) : State where
  vm := { classes := classes, interned := interned.toArray }
  heap := heap
  slotsUsed := slotsUsed
  threads := #[{ frames := .invoking theMethod args0 :: below }]
def below0 : List Frame := [.native { method := ⟨0, 0⟩, args := #[] }]
def about1 : State := aboutOver below0
def p0 : Program := .bare "" "" ""
def e0 : Env := launch0.env 0 0 0
theorem w_frames : about1.frames = Frame.invoking theMethod args0 :: below0 := rfl
set_option maxRecDepth 65536 in
theorem w_args : argsFit about1.vm theMethod args0 = true := by decide +kernel
set_option maxRecDepth 65536 in
theorem w_heap : heapFits about1 = true := by decide +kernel
set_option maxRecDepth 65536 in
theorem w_runnable : about1.curStatus? = some .runnable := by decide +kernel
set_option maxRecDepth 65536 in
theorem w_alone : about1.alone = true := by decide +kernel
set_option maxRecDepth 65536 in
theorem w_named : about1.methodNamed? x = some theMethod := by decide +kernel
set_option maxRecDepth 65536 in
theorem w_hears : about1.hears theMethod below0 = true := by decide +kernel
set_option maxRecDepth 65536 in
theorem w_ripe : about1.ripe theMethod args0 below0 = true := by decide +kernel
theorem w_running : about1.status = .running := rfl
set_option maxRecDepth 65536 in
theorem w_room : about1.hasRoom e0.platform room_1 = true :=
  launch0.hasRoom_least _ room_1 (by decide +kernel) (by decide +kernel) (by decide +kernel) (by decide +kernel) (by decide +kernel) (by decide +kernel)
theorem allAtoms_all (ts : List Jvm.Cond) (a : Array Jvm.Value) (st : Jvm.State) : (allAtoms ts).before a st = ts.all (fun c => c.before a st) := by
  induction ts with
  | nil => rfl
  | cons c t ih =>
    show (Jvm.Cond.and c (allAtoms t)).before a st = _
    rw [Jvm.Cond.before_and, ih, List.all_cons]
def words1 : List Jvm.Cond := Jvm.Cond.code x code maxLocals ret :: tables_1
/-- a 'code' word, met by the world's own term for the bytes: nothing is compared byte by byte -/
theorem code_word {y : MethodName} {bytes : ByteArray} {mx : Nat} {rt : Option FieldType} {a : Array Value} {s : State} {m : MethodId} {meth : Method} {c : Code} (h1 : s.methodNamed? y = some m) (h2 : s.vm.method? m = some meth) (h3 : meth.code = some c) (h4 : c.code = bytes)
    (h5 : (c.maxLocals == mx && c.exceptionTable.isEmpty && decide (c.maxStack ≤ mostOperands) && decide (meth.sig.returnType = rt) && !meth.locks && decide (parseMethodDescriptor y.desc = some meth.sig)) = true) : (Jvm.Cond.code y bytes mx rt).before a s = true := by
  simp only [Bool.and_eq_true, beq_iff_eq, Bool.not_eq_true', decide_eq_true_eq] at h5
  obtain ⟨⟨⟨⟨⟨g1, g2⟩, g3⟩, g4⟩, g5⟩, g6⟩ := h5
  simp [Cond.before, Cond.holds, Cond.value, h1, h2, h3, h4, g1, g2, g3, g4, g5, g6]
def isCode : Jvm.Cond → Bool
  | .code _ _ _ _ => true
  | _ => false
theorem all_split {L : List Jvm.Cond} {P : Jvm.Cond → Bool} (h1 : L.all (fun c => isCode c || P c) = true) (h2 : ∀ c ∈ L.filter isCode, P c = true) : L.all P = true := by
  refine List.all_eq_true.mpr fun c hc => ?_
  have h := List.all_eq_true.mp h1 c hc
  rcases Bool.eq_false_or_eq_true (isCode c) with hi | hi
  · exact h2 c (List.mem_filter.mpr ⟨hc, hi⟩)
  · simpa [hi] using h
set_option maxRecDepth 65536 in
theorem w_c0 : (Jvm.Cond.code x code maxLocals ret).before args0 about1 = true := code_word (m := ⟨1, 1⟩) (meth := k1m1) (c := k1c1) (by decide +kernel) rfl rfl rfl (by decide +kernel)
set_option maxRecDepth 65536 in
theorem w_c1 : (Jvm.Cond.code ({ cls := "com/example/attache/attache/bench/Footprint$Result", name := "<init>", desc := "(IJ)V" } : Jvm.MethodName) prog_3_method_1_code (4 : Nat) (Option.none : Option Jvm.ClassFile.FieldType)).before args0 about1 = true := code_word (m := ⟨3, 0⟩) (meth := k3m0) (c := k3c0) (by decide +kernel) rfl rfl rfl (by decide +kernel)
set_option maxRecDepth 65536 in
theorem w_c2 : (Jvm.Cond.code ({ cls := "java/lang/Record", name := "<init>", desc := "()V" } : Jvm.MethodName) jdk_30_method_1_code (1 : Nat) (Option.none : Option Jvm.ClassFile.FieldType)).before args0 about1 = true := code_word (m := ⟨2, 0⟩) (meth := k2m0) (c := k2c0) (by decide +kernel) rfl rfl rfl (by decide +kernel)
set_option maxRecDepth 65536 in
theorem w_c3 : (Jvm.Cond.code ({ cls := "java/lang/Object", name := "<init>", desc := "()V" } : Jvm.MethodName) object_method_1_code (1 : Nat) (Option.none : Option Jvm.ClassFile.FieldType)).before args0 about1 = true := code_word (m := ⟨0, 0⟩) (meth := k0m0) (c := k0c0) (by decide +kernel) rfl rfl rfl (by decide +kernel)
set_option maxRecDepth 65536 in
theorem w_c4 : (Jvm.Cond.code ({ cls := "com/example/attache/attache/bench/Footprint$Result", name := "meetsTarget", desc := "()Z" } : Jvm.MethodName) prog_3_method_3_code (1 : Nat) (Option.some Jvm.ClassFile.FieldType.boolean)).before args0 about1 = true := code_word (m := ⟨3, 1⟩) (meth := k3m1) (c := k3c1) (by decide +kernel) rfl rfl rfl (by decide +kernel)
def codes1 : List Jvm.Cond := [Jvm.Cond.code x code maxLocals ret, Jvm.Cond.code ({ cls := "com/example/attache/attache/bench/Footprint$Result", name := "<init>", desc := "(IJ)V" } : Jvm.MethodName) prog_3_method_1_code (4 : Nat) (Option.none : Option Jvm.ClassFile.FieldType), Jvm.Cond.code ({ cls := "java/lang/Record", name := "<init>", desc := "()V" } : Jvm.MethodName) jdk_30_method_1_code (1 : Nat) (Option.none : Option Jvm.ClassFile.FieldType), Jvm.Cond.code ({ cls := "java/lang/Object", name := "<init>", desc := "()V" } : Jvm.MethodName) object_method_1_code (1 : Nat) (Option.none : Option Jvm.ClassFile.FieldType), Jvm.Cond.code ({ cls := "com/example/attache/attache/bench/Footprint$Result", name := "meetsTarget", desc := "()Z" } : Jvm.MethodName) prog_3_method_3_code (1 : Nat) (Option.some Jvm.ClassFile.FieldType.boolean)]
set_option maxRecDepth 65536 in
theorem codes_eq : words1.filter isCode = codes1 := rfl
theorem w_codes : ∀ c ∈ words1.filter isCode, c.before args0 about1 = true := by
  rw [codes_eq]
  intro c hc
  simp only [codes1, List.mem_cons, List.not_mem_nil, or_false] at hc
  rcases hc with rfl | rfl | rfl | rfl | rfl
  · exact w_c0
  · exact w_c1
  · exact w_c2
  · exact w_c3
  · exact w_c4
set_option maxRecDepth 65536 in
theorem w_t1 : (words1.take 24).all (fun c => isCode c || c.before args0 about1) = true := by decide +kernel
set_option maxRecDepth 65536 in
theorem w_t2 : (words1.drop 24).all (fun c => isCode c || c.before args0 about1) = true := by decide +kernel
theorem w_tables : (allAtoms (Jvm.Cond.code x code maxLocals ret :: tables_1)).before args0 about1 = true := by
  rw [allAtoms_all]
  show words1.all (fun c => c.before args0 about1) = true
  refine all_split ?_ w_codes
  rw [← List.take_append_drop 24 words1, List.all_append, w_t1, w_t2]
  rfl
set_option maxRecDepth 65536 in
theorem w_case : (Jvm.Cond.and given_1 narrow_1).before args0 about1 = true := by decide +kernel
theorem w_applies : (headSpec (Jvm.Cond.code x code maxLocals ret :: tables_1) room_1).applies x e0.platform about1 = true :=
  (Spec.applies_iff w_frames).mpr ⟨w_running, w_runnable, w_alone, w_named, w_hears, w_ripe, w_room, w_tables⟩
theorem atStart : AtStart classFile x code maxLocals ret World_1 tables_1 room_1 Calls_1 rest_1 Pre_1 launch0 p0 e0 about1 theMethod args0 below0 :=
  ⟨lists_1, trivial, launch0.admits_env _ _ _, launch0.least_env, fairChoices_fair.cas, fairChoices_fair.clock, w_frames, w_args, w_heap, w_applies, trivial, trivial, w_case⟩
end start1
theorem witness_1 : WitnessClaimed_1 := ⟨start1.p0, start1.e0, start1.about1, start1.theMethod, start1.args0, start1.below0, start1.atStart⟩
end Jvm.Pilot.@@N@@
