import JvmDerived
import JvmDerived.Pilot.@@N@@Statement
import JvmDerived.Pilot.@@N@@Code
set_option linter.unusedVariables false
set_option linter.unusedSimpArgs false
namespace Jvm.Pilot.@@N@@
open Jvm Jvm.ClassFile Sem Op Lib Jvm.Free Jvm.Stand Jvm.LawKit Jvm.RoadKit Bundle Jvm.Pilot.@@N@@.Jvm.D
/-! own_Go: a walk still to be made from the state A; every step of the machine is one own_by. -/
def own_Go (tb : Tables) (e : Env) (below : List Frame) (A : State) (R : Outcome → State → Prop) : Prop := ∃ s₂ o, Steps tb e below A s₂ ∧ s₂.status = .running ∧ Ended s₂ below o ∧ R o s₂
theorem own_by {tb : Tables} {e : Env} {below : List Frame} {A B : State} {R : Outcome → State → Prop} (h : ∀ t, Steps tb e below A t → Steps tb e below B t) (g : own_Go tb e below A R) : own_Go tb e below B R := by
  obtain ⟨s₂, o, h1, h2⟩ := g
  exact ⟨s₂, o, h _ h1, h2⟩
def own_R (s : State) (Q : Option Value → Heap → List Loc → Prop) (cc nn : Nat) (o : Outcome) (U : State) : Prop := ∃ v L, o = .returned v ∧ Q v U.heap L ∧ FrameEnd s o U L cc nn
abbrev own_lrem (x y : Int64) : Int64 := x - (x / y) * y
section OwnEnds
variable {p : Program} {l : Launch} {e : Env} {R : Room} {s : State} {m : MethodId} {args : Array Value} {below : List Frame} {meth : Method} {c : Code} {T : State} {locs : List Loc} {cells slots : Nat} {Q : Option Value → Heap → List Loc → Prop} {cc nn : Nat}
theorem own_fin (X : Stand p l e R s m args below meth c T locs cells slots) {v : Option Value} (hv : meth.sig.returnType = none → v = none) (hlk : meth.locks = false) {B : State}
    (hs : ∀ fs, (∀ (f : JFrame) (acts : List Action), f.method = m → f.locked = none → f.entered = [] → (doReturn e (T.setTop f) acts v).1 = T.setFrames fs) → Steps p.tables e below B (T.setFrames fs))
    (hq : Q v T.heap locs) (hc : cells ≤ cc) (hn : slots ≤ nn) : own_Go p.tables e below B (own_R s Q cc nn) := by
  obtain ⟨fs, hr, hrun, hended, hW, hsame⟩ := X.leave hv hlk
  exact ⟨_, _, hs fs hr, hrun, hended, v, locs, rfl, hq, ⟨_, rfl⟩, hW, hsame.mono hc hn⟩
theorem own_retN (X : Stand p l e R s m args below meth c T locs cells slots) (hx : p.tables.exec = Jvm.exec) {pc : Nat} {Ls : Array Slot} {z : Int32} {t : FieldType} {rest : List Value} (hret : meth.sig.returnType = some t) (hlk : meth.locks = false) (ht : t = .boolean ∨ t = .byte ∨ t = .char ∨ t = .short)
    (hd : decode c.code pc = .ok (.ireturn, 1)) (hq : Q (some (.int (nar t z))) T.heap locs) (hc : cells ≤ cc) (hn : slots ≤ nn) : own_Go p.tables e below (T.setTop (mkF m pc Ls (.int z :: rest))) (own_R s Q cc nn) :=
  own_fin X (fun h => by rw [hret] at h; cases h) hlk (fun fs hr => retN X hx hret ht hd hr) hq hc hn
theorem own_retI (X : Stand p l e R s m args below meth c T locs cells slots) (hx : p.tables.exec = Jvm.exec) {pc : Nat} {Ls : Array Slot} {z : Int32} (hret : meth.sig.returnType = some .int) (hlk : meth.locks = false)
    (hd : decode c.code pc = .ok (.ireturn, 1)) (hq : Q (some (.int z)) T.heap locs) (hc : cells ≤ cc) (hn : slots ≤ nn) : own_Go p.tables e below (T.setTop (mkF m pc Ls [.int z])) (own_R s Q cc nn) :=
  own_fin X (fun h => by rw [hret] at h; cases h) hlk (fun fs hr => X.ireturnOut hx hret rfl (Or.inl rfl) hd hr) hq hc hn
theorem own_retL (X : Stand p l e R s m args below meth c T locs cells slots) (hx : p.tables.exec = Jvm.exec) {pc : Nat} {Ls : Array Slot} {z : Int64} (hret : meth.sig.returnType = some .long) (hlk : meth.locks = false)
    (hd : decode c.code pc = .ok (.lreturn, 1)) (hq : Q (some (.long z)) T.heap locs) (hc : cells ≤ cc) (hn : slots ≤ nn) : own_Go p.tables e below (T.setTop (mkF m pc Ls [.long z])) (own_R s Q cc nn) :=
  own_fin X (fun h => by rw [hret] at h; cases h) hlk (fun fs hr => X.lreturnOut hx hret hd hr) hq hc hn
theorem own_retA (X : Stand p l e R s m args below meth c T locs cells slots) (hx : p.tables.exec = Jvm.exec) {pc : Nat} {Ls : Array Slot} {w : Value} {t : FieldType} (hret : meth.sig.returnType = some t) (hlk : meth.locks = false) (hw : w.isRef = true) (ht : t.isReference = true)
    (hd : decode c.code pc = .ok (.areturn, 1)) (hq : Q (some w) T.heap locs) (hc : cells ≤ cc) (hn : slots ≤ nn) : own_Go p.tables e below (T.setTop (mkF m pc Ls [w])) (own_R s Q cc nn) :=
  own_fin X (fun h => by rw [hret] at h; cases h) hlk (fun fs hr => X.areturnOut hx hw hret ht hd hr) hq hc hn
theorem own_retV (X : Stand p l e R s m args below meth c T locs cells slots) (hx : p.tables.exec = Jvm.exec) {pc : Nat} {Ls : Array Slot} (hret : meth.sig.returnType = none) (hlk : meth.locks = false)
    (hd : decode c.code pc = .ok (.return_, 1)) (hq : Q none T.heap locs) (hc : cells ≤ cc) (hn : slots ≤ nn) : own_Go p.tables e below (T.setTop (mkF m pc Ls [])) (own_R s Q cc nn) :=
  own_fin X (fun _ => rfl) hlk (fun fs hr => X.returnOut hx hret hd hr) hq hc hn
end OwnEnds
theorem own_nin {a b : Addr} (h : a ≠ b) : a ∉ [b] := fun q => h (List.mem_singleton.mp q)
theorem own_nin2 {a b c : Addr} (h : a ≠ b) (h' : a ≠ c) : a ∉ [b, c] := fun q => by
  rcases List.mem_cons.mp q with q | q
  · exact h q
  · exact h' (List.mem_singleton.mp q)
section OwnArrays
variable {p : Program} {l : Launch} {e : Env} {R : Room} {s : State} {m : MethodId} {args : Array Value} {below : List Frame} {meth : Method} {c : Code} {T : State} {locs : List Loc} {cells slots : Nat} {Z : State} {h : Heap} {a : Addr} {k : ClassId} {z j : Int32} {vs : List Value} {dv v : Value} {g : JFrame} {rest : List Value}
theorem own_iaload (X : Stand p l e R s m args below meth c T locs cells slots) (hx : p.tables.exec = Jvm.exec) (hZ : Z.Warmed39 s.vm) (eT : T.heap = h) (F : Arv Z h a k .int z vs dv) (hj : ¬ j < 0 ∧ j < z) (hv : vs.getD j.toNatClampNeg dv = v)
    (hg : g.method = m) (hs : g.stack = .int j :: .ref a :: rest) (hd : decode c.code g.pc = .ok (.iaload, 1)) (t : State) (kt : Steps p.tables e below (T.setTop { g with pc := g.pc + 1, stack := v :: rest }) t) : Steps p.tables e below (T.setTop g) t := by
  obtain ⟨cl, A, -, S, -, H, -⟩ := F
  exact X.iaload hx (by rw [eT]; exact A.1) (State.isArrayOf_alike hZ.alike A.2.1) A.2.2 (inb_of S hj) (H.at (inb_of S hj) hv) hg hs hd t kt
theorem own_caload (X : Stand p l e R s m args below meth c T locs cells slots) (hx : p.tables.exec = Jvm.exec) (hZ : Z.Warmed39 s.vm) (eT : T.heap = h) (F : Arv Z h a k .char z vs dv) (hj : ¬ j < 0 ∧ j < z) (hv : vs.getD j.toNatClampNeg dv = v)
    (hg : g.method = m) (hs : g.stack = .int j :: .ref a :: rest) (hd : decode c.code g.pc = .ok (.caload, 1)) (t : State) (kt : Steps p.tables e below (T.setTop { g with pc := g.pc + 1, stack := v :: rest }) t) : Steps p.tables e below (T.setTop g) t := by
  obtain ⟨cl, A, -, S, -, H, -⟩ := F
  exact X.caload hx (by rw [eT]; exact A.1) (State.isArrayOf_alike hZ.alike A.2.1) A.2.2 (inb_of S hj) (H.at (inb_of S hj) hv) hg hs hd t kt
theorem own_baload (X : Stand p l e R s m args below meth c T locs cells slots) (hx : p.tables.exec = Jvm.exec) (hZ : Z.Warmed39 s.vm) (eT : T.heap = h) (F : Arv Z h a k .byte z vs dv) (hj : ¬ j < 0 ∧ j < z) (hv : vs.getD j.toNatClampNeg dv = v)
    (hg : g.method = m) (hs : g.stack = .int j :: .ref a :: rest) (hd : decode c.code g.pc = .ok (.baload, 1)) (t : State) (kt : Steps p.tables e below (T.setTop { g with pc := g.pc + 1, stack := v :: rest }) t) : Steps p.tables e below (T.setTop g) t := by
  obtain ⟨cl, A, -, S, -, H, -⟩ := F
  exact X.baloadBytes hx (by rw [eT]; exact A.1) (State.isArrayOf_alike hZ.alike A.2.1) A.2.2 (inb_of S hj) (H.at (inb_of S hj) hv) hg hs hd t kt
theorem own_alen {ty : FieldType} (X : Stand p l e R s m args below meth c T locs cells slots) (hx : p.tables.exec = Jvm.exec) (hZ : Z.Warmed39 s.vm) (eT : T.heap = h) (F : Arv Z h a k ty z vs dv)
    (hg : g.method = m) (hs : g.stack = .ref a :: rest) (hd : decode c.code g.pc = .ok (.arraylength, 1)) (t : State) (kt : Steps p.tables e below (T.setTop { g with pc := g.pc + 1, stack := .int z :: rest }) t) : Steps p.tables e below (T.setTop g) t := by
  obtain ⟨cl, A, -, S, N, -, -⟩ := F
  exact X.arraylength hx (by rw [eT]; exact A.1) (State.isArrayOf_alike hZ.alike A.2.1) hg hs hd t (by rw [len_of S N]; exact kt)
end OwnArrays
section OwnBounds
variable {x k k' : Int32}
theorem own_i1 (h : x < k') (q : k'.toInt ≤ k.toInt) : x < k := by rw [Int32.lt_iff_toInt_lt] at *; omega
theorem own_i2 (h : ¬ k' < x) (q : k'.toInt < k.toInt) : x < k := by rw [Int32.lt_iff_toInt_lt] at *; omega
theorem own_i3 (h : ¬ x < k') (q : k.toInt ≤ k'.toInt) : ¬ x < k := by rw [Int32.lt_iff_toInt_lt] at *; omega
theorem own_i4 (h : k' < x) (q : k.toInt ≤ k'.toInt + 1) : ¬ x < k := by rw [Int32.lt_iff_toInt_lt] at *; omega
theorem own_j1 (h : k' < x) (q : k.toInt ≤ k'.toInt) : k < x := by rw [Int32.lt_iff_toInt_lt] at *; omega
theorem own_j2 (h : ¬ x < k') (q : k.toInt < k'.toInt) : k < x := by rw [Int32.lt_iff_toInt_lt] at *; omega
theorem own_j3 (h : ¬ k' < x) (q : k'.toInt ≤ k.toInt) : ¬ k < x := by rw [Int32.lt_iff_toInt_lt] at *; omega
theorem own_j4 (h : x < k') (q : k'.toInt ≤ k.toInt + 1) : ¬ k < x := by rw [Int32.lt_iff_toInt_lt] at *; omega
theorem own_q1 (h : x < k') (q : k'.toInt ≤ k.toInt) : ¬ x = k := fun u => by rw [Int32.lt_iff_toInt_lt] at *; subst u; omega
theorem own_q2 (h : k' < x) (q : k.toInt ≤ k'.toInt) : ¬ x = k := fun u => by rw [Int32.lt_iff_toInt_lt] at *; subst u; omega
theorem own_q3 (h : ¬ x < k') (q : k.toInt < k'.toInt) : ¬ x = k := fun u => by rw [Int32.lt_iff_toInt_lt] at *; subst u; omega
theorem own_q4 (h : ¬ k' < x) (q : k'.toInt < k.toInt) : ¬ x = k := fun u => by rw [Int32.lt_iff_toInt_lt] at *; subst u; omega
end OwnBounds
theorem own_sta_keep {Z : State} {h h' : Heap} {C n d : String} {w : Value} (F : Sta Z h C n d w) (K : Keep h h' []) : Sta Z h' C n d w := by
  obtain ⟨cf, i, k, f, st, cell, h1, h2, h3, h4, h5, r⟩ := F
  exact ⟨cf, i, k, f, st, cell, h1, h2, h3, h4, K.2.1 _ _ h5 List.not_mem_nil, r⟩
theorem own_bm {z : Int} (h1 : -9223372036854775808 ≤ z) (h2 : z < 9223372036854775808) : z.bmod (2 ^ 64) = z := by
  apply Int.bmod_eq_of_le <;> omega
theorem own_add64 {a b : Int64} (h1 : -9223372036854775808 ≤ a.toInt + b.toInt) (h2 : a.toInt + b.toInt < 9223372036854775808) : (a + b).toInt = a.toInt + b.toInt := by
  rw [Int64.toInt_add]; exact own_bm h1 h2
theorem own_sub64 {a b : Int64} (h1 : -9223372036854775808 ≤ a.toInt - b.toInt) (h2 : a.toInt - b.toInt < 9223372036854775808) : (a - b).toInt = a.toInt - b.toInt := by
  rw [Int64.toInt_sub]; exact own_bm h1 h2
theorem own_mul64 {a b : Int64} (h1 : -9223372036854775808 ≤ a.toInt * b.toInt) (h2 : a.toInt * b.toInt < 9223372036854775808) : (a * b).toInt = a.toInt * b.toInt := by
  rw [Int64.toInt_mul]; exact own_bm h1 h2
theorem own_div64 {a b : Int64} (h1 : 0 ≤ a.toInt) (h2 : 0 < b.toInt) : (a / b).toInt = a.toInt / b.toInt := by
  have hb := a.toInt_lt
  rw [Int64.toInt_div, Int.tdiv_eq_ediv_of_nonneg h1]
  have q1 : a.toInt / b.toInt ≤ a.toInt := Int.ediv_le_self _ h1
  have q2 : 0 ≤ a.toInt / b.toInt := Int.ediv_nonneg h1 (Int.le_of_lt h2)
  exact own_bm (by omega) (by omega)
theorem own_mask64 (a : Int64) (k : Nat) (m : Int64) (hk : k < 63) (hm : m.toInt = 2 ^ k - 1) : 0 ≤ (a &&& m).toInt ∧ (a &&& m).toInt < 2 ^ k := by
  have h0 : m.toBitVec.toNat = 2 ^ k - 1 := by
    have h1 : m.toBitVec.toInt = 2 ^ k - 1 := hm
    have h4 : ((2 ^ k : Nat) : Int) = (2 : Int) ^ k := by simp
    have h2 := Nat.one_le_two_pow (n := k)
    have h3 := m.toBitVec.isLt
    rw [BitVec.toInt_eq_toNat_cond] at h1
    split at h1 <;> omega
  have hn : (a &&& m).toBitVec.toNat < 2 ^ k := by
    show (a.toBitVec &&& m.toBitVec).toNat < 2 ^ k
    rw [BitVec.toNat_and, h0]
    exact Nat.lt_of_le_of_lt Nat.and_le_right (by have := Nat.one_le_two_pow (n := k); omega)
  have hp : (2 : Nat) ^ k < 2 ^ 63 := Nat.pow_lt_pow_right (by decide) hk
  have e : (a &&& m).toInt = ((a &&& m).toBitVec.toNat : Int) := by
    show (a &&& m).toBitVec.toInt = _
    rw [BitVec.toInt_eq_toNat_cond, if_pos (by omega)]
  have h4 : ((2 ^ k : Nat) : Int) = (2 : Int) ^ k := by simp
  rw [e]; omega
theorem own_l2i {a : Int64} (h1 : -2147483648 ≤ a.toInt) (h2 : a.toInt < 2147483648) : a.toInt32.toInt = a.toInt := by
  rw [Int64.toInt_toInt32]; apply Int.bmod_eq_of_le <;> omega
theorem own_lc_eq (x y : Int64) : lcmpW x y = 0 ↔ x = y := by rw [lcW]; exact lc_eq x y
theorem own_lc_lt (x y : Int64) : lcmpW x y < 0 ↔ x < y := by rw [lcW]; exact lc_lt x y
theorem own_lc_gt (x y : Int64) : 0 < lcmpW x y ↔ y < x := by rw [lcW]; exact lc_gt x y
def own_item (q0 : Int64) (p1 : Int32) : Int64 := ((((q0 - (1 : Int64)) * (5 : Int64)) + (p1.toInt64)) + (1 : Int64))
theorem pn_0 : plainName "com/example/attache/attache/bench/OrderEntry" = true := by first | (simp [plainName, overriddenIn]; done) | decide +kernel
theorem d_prog_13_method_9_code_0 : decode prog_13_method_9_code 0 = .ok (.lload_n 0, 1) := by decide +kernel
theorem d_prog_13_method_9_code_1 : decode prog_13_method_9_code 1 = .ok (.lconst 1, 1) := by decide +kernel
theorem d_prog_13_method_9_code_2 : decode prog_13_method_9_code 2 = .ok (.lsub, 1) := by decide +kernel
theorem d_prog_13_method_9_code_3 : decode prog_13_method_9_code 3 = .ok (.ldc2_w 37, 3) := by decide +kernel
theorem d_prog_13_method_9_code_6 : decode prog_13_method_9_code 6 = .ok (.lmul, 1) := by decide +kernel
theorem d_prog_13_method_9_code_7 : decode prog_13_method_9_code 7 = .ok (.iload_n 2, 1) := by decide +kernel
theorem d_prog_13_method_9_code_8 : decode prog_13_method_9_code 8 = .ok (.i2l, 1) := by decide +kernel
theorem d_prog_13_method_9_code_9 : decode prog_13_method_9_code 9 = .ok (.ladd, 1) := by decide +kernel
theorem d_prog_13_method_9_code_10 : decode prog_13_method_9_code 10 = .ok (.lconst 1, 1) := by decide +kernel
theorem d_prog_13_method_9_code_11 : decode prog_13_method_9_code 11 = .ok (.ladd, 1) := by decide +kernel
theorem d_prog_13_method_9_code_12 : decode prog_13_method_9_code 12 = .ok (.lreturn, 1) := by decide +kernel
theorem ef_1 (m : MethodId) (q0 : Int64) (p1 : Int32) : entryFrame m #[(.long q0), (.int p1)] 3 = mkF m 0 #[.val (.long q0), .second, .val (.int p1)] [] := by first | (simp [entryFrame, mkF, argsToLocals, Value.category]; done) | rfl
def Q_rm_own_item (Z : State) (q0 : Int64) (p1 : Int32)  (h0 : Heap) (n0 : Nat) (v : Option Value) (h : Heap) (L : List Loc) : Prop := v = some (.long (own_item q0 p1)) ∧ Fr n0 L ∧ h = h0
set_option maxRecDepth 65536 in
set_option maxHeartbeats 40000000 in
theorem rm_own_item (l : Launch) (Z : State) (a0 : Array Value) (hw : ∀ d ∈ tables_1, d.before a0 Z = true) (ws : List Jvm.Cond) (q0 : Int64) (p1 : Int32)  (h0 : Heap) (n0 : Nat) (Z0 : n0 ≤ h0.size)  :
    MetFree l (⟨"com/example/attache/attache/bench/OrderEntry", "itemId", "(JI)J"⟩ : MethodName) (head1 (Jvm.Cond.code (⟨"com/example/attache/attache/bench/OrderEntry", "itemId", "(JI)J"⟩ : MethodName) prog_13_method_9_code 3 (some .long) :: ws) ({ frames := 0, cells := 0, slots := 0, locals := 0 } : Room)) (fun av_ U => av_ = #[(.long q0), (.int p1)] ∧ Z.Warmed39 U.vm ∧ U.heap = h0) (fun _ _ _ _ _ => True) (fun _ U o U' => ∃ v L, o = .returned v ∧ Q_rm_own_item Z q0 p1 h0 n0 v U'.heap L ∧ FrameEnd U o U' L ({ frames := 0, cells := 0, slots := 0, locals := 0 } : Room).cells ({ frames := 0, cells := 0, slots := 0, locals := 0 } : Room).slots) := by
  refine MetFree.of_bodySF (plainFor_of_name pn_0) hisR ?_
  intro p e s m args below meth c s₁ Bd hml0 hP hK
  obtain ⟨rfl, hZ, hh⟩ := hP
  have hx := Bd.exec
  have hby := Bd.bytes
  have hml : c.maxLocals = 3 := hml0
  have hown : s.vm.findClass "com/example/attache/attache/bench/OrderEntry" = some m.cls := findClass_of_methodNamed Bd.named
  have hnm := (name_of_methodNamed Bd.named Bd.method).1
  have hlk : meth.locks = false := BodyLoose.notSynchronized Bd
  have X0 : Stand p l e ({ frames := 0, cells := 0, slots := 0, locals := 0 } : Room) s m #[(.long q0), (.int p1)] below meth c s₁ [] 0 0 := Stand.of_body Bd
  have e0 : s₁.heap = h0 := by rw [← hh, Bd.state]; rfl
  have N0 := Fr.nil n0
  refine own_by (fun _ kt => castTop (ef_1 m q0 p1) kt) (R := own_R s (Q_rm_own_item Z q0 p1 h0 n0) 0 0) ?_
  show own_Go p.tables e below (s₁.setTop (mkF m 0 #[.val (.long q0), .second, .val (.int p1)] [])) _
  refine own_by (fun _ kt => XS.lloadN X0.here hx rfl (hb hby d_prog_13_method_9_code_0) rfl kt) ?_
  show own_Go p.tables e below (s₁.setTop (mkF m 1 #[.val (.long q0), .second, .val (.int p1)] [(.long q0)])) _
  refine own_by (fun _ kt => XS.lconst X0.here hx rfl (hb hby d_prog_13_method_9_code_1) kt) ?_
  show own_Go p.tables e below (s₁.setTop (mkF m 2 #[.val (.long q0), .second, .val (.int p1)] [(.long (1 : Int64)), (.long q0)])) _
  refine own_by (fun _ kt => XS.lsub X0.here hx rfl (hb hby d_prog_13_method_9_code_2) rfl kt) ?_
  show own_Go p.tables e below (s₁.setTop (mkF m 3 #[.val (.long q0), .second, .val (.int p1)] [(.long (q0 - (1 : Int64)))])) _
  refine own_by (X0.ldc2Long hx hown (mvT hZ (hw _ (List.mem_of_getElem? (i := 6) rfl))) (g := (mkF m 3 #[.val (.long q0), .second, .val (.int p1)] [(.long (q0 - (1 : Int64)))])) rfl (hb hby d_prog_13_method_9_code_3)) ?_
  show own_Go p.tables e below (s₁.setTop (mkF m 6 #[.val (.long q0), .second, .val (.int p1)] [(.long (5 : Int64)), (.long (q0 - (1 : Int64)))])) _
  refine own_by (fun _ kt => XS.lmul X0.here hx rfl (hb hby d_prog_13_method_9_code_6) rfl kt) ?_
  show own_Go p.tables e below (s₁.setTop (mkF m 7 #[.val (.long q0), .second, .val (.int p1)] [(.long ((q0 - (1 : Int64)) * (5 : Int64)))])) _
  refine own_by (fun _ kt => XS.iloadN X0.here hx rfl (hb hby d_prog_13_method_9_code_7) rfl kt) ?_
  show own_Go p.tables e below (s₁.setTop (mkF m 8 #[.val (.long q0), .second, .val (.int p1)] [(.int p1), (.long ((q0 - (1 : Int64)) * (5 : Int64)))])) _
  refine own_by (fun _ kt => XS.i2l X0.here hx rfl (hb hby d_prog_13_method_9_code_8) rfl kt) ?_
  show own_Go p.tables e below (s₁.setTop (mkF m 9 #[.val (.long q0), .second, .val (.int p1)] [(.long (p1.toInt64)), (.long ((q0 - (1 : Int64)) * (5 : Int64)))])) _
  refine own_by (fun _ kt => XS.ladd X0.here hx rfl (hb hby d_prog_13_method_9_code_9) rfl kt) ?_
  show own_Go p.tables e below (s₁.setTop (mkF m 10 #[.val (.long q0), .second, .val (.int p1)] [(.long (((q0 - (1 : Int64)) * (5 : Int64)) + (p1.toInt64)))])) _
  refine own_by (fun _ kt => XS.lconst X0.here hx rfl (hb hby d_prog_13_method_9_code_10) kt) ?_
  show own_Go p.tables e below (s₁.setTop (mkF m 11 #[.val (.long q0), .second, .val (.int p1)] [(.long (1 : Int64)), (.long (((q0 - (1 : Int64)) * (5 : Int64)) + (p1.toInt64)))])) _
  refine own_by (fun _ kt => XS.ladd X0.here hx rfl (hb hby d_prog_13_method_9_code_11) rfl kt) ?_
  show own_Go p.tables e below (s₁.setTop (mkF m 12 #[.val (.long q0), .second, .val (.int p1)] [(.long ((((q0 - (1 : Int64)) * (5 : Int64)) + (p1.toInt64)) + (1 : Int64)))])) _
  exact own_retL X0 hx Bd.returns hlk (hb hby d_prog_13_method_9_code_12) ⟨by rw [own_item] <;> rfl, N0, e0⟩ (by decide) (by decide)
theorem own_k1 (q0 : Int64) : own_item ((((((1 : Int64) + (q0 &&& 1152921504606846975)) - (1 : Int64)) / (5 : Int64)) + (1 : Int64))) ((own_lrem (((1 : Int64) + (q0 &&& 1152921504606846975)) - (1 : Int64)) (5 : Int64)).toInt32) = (1 : Int64) + (q0 &&& 1152921504606846975) := by
  obtain ⟨b1, b2⟩ := own_mask64 q0 60 1152921504606846975 (by decide) (by decide)
  generalize hu : q0 &&& 1152921504606846975 = u at *
  have e1 : (1 : Int64).toInt = 1 := by decide
  have e5 : (5 : Int64).toInt = 5 := by decide
  have a1 : ((1 : Int64) + u).toInt = 1 + u.toInt := by rw [own_add64] <;> rw [e1] <;> omega
  have a2 : ((1 : Int64) + u - 1).toInt = u.toInt := by rw [own_sub64] <;> rw [a1, e1] <;> omega
  generalize (1 : Int64) + u - 1 = v at *
  have a3 : (v / 5).toInt = u.toInt / 5 := by rw [own_div64 (by omega) (by rw [e5]; decide), a2, e5]
  have a4 : (v / 5 * 5).toInt = u.toInt / 5 * 5 := by rw [own_mul64] <;> rw [a3, e5] <;> omega
  have a5 : (own_lrem v 5).toInt = u.toInt - u.toInt / 5 * 5 := by
    show (v - v / 5 * 5).toInt = _
    rw [own_sub64] <;> rw [a2, a4] <;> omega
  have a6 : (own_lrem v 5).toInt32.toInt = u.toInt - u.toInt / 5 * 5 := by rw [own_l2i] <;> rw [a5] <;> omega
  have a7 : (own_lrem v 5).toInt32.toInt64.toInt = u.toInt - u.toInt / 5 * 5 := by rw [Int32.toInt_toInt64, a6]
  have a8 : (v / 5 + 1).toInt = u.toInt / 5 + 1 := by rw [own_add64] <;> rw [a3, e1] <;> omega
  have a9 : (v / 5 + 1 - 1).toInt = u.toInt / 5 := by rw [own_sub64] <;> rw [a8, e1] <;> omega
  have a10 : ((v / 5 + 1 - 1) * 5).toInt = u.toInt / 5 * 5 := by rw [own_mul64] <;> rw [a9, e5] <;> omega
  have a11 : ((v / 5 + 1 - 1) * 5 + (own_lrem v 5).toInt32.toInt64).toInt = u.toInt := by rw [own_add64] <;> rw [a10, a7] <;> omega
  rw [← Int64.toInt_inj, a1]
  show ((v / 5 + 1 - 1) * 5 + (own_lrem v 5).toInt32.toInt64 + 1).toInt = _
  rw [own_add64] <;> rw [a11, e1] <;> omega
theorem pn_1 : plainName "com/example/attache/attache/bench/OrderEntryItemIdPinLaw" = true := by first | (simp [plainName, overriddenIn]; done) | decide +kernel
theorem pd_0 : parseMethodDescriptor "(JI)J" = some ⟨[.long, .int], some .long⟩ := by decide +kernel
theorem ef_2 (m : MethodId) (q0 : Int64) : entryFrame m #[(.long q0)] maxLocals = mkF m 0 #[.val (.long q0), .second, .unset, .unset, .unset, .unset, .unset, .unset, .unset] [] := by first | (simp [entryFrame, mkF, argsToLocals, Value.category, maxLocals]; done) | rfl
def Q_rm_law (Z : State) (q0 : Int64)  (h0 : Heap) (n0 : Nat) (v : Option Value) (h : Heap) (L : List Loc) : Prop := v = some (.int (1 : Int32)) ∧ Fr n0 L
set_option maxRecDepth 65536 in
set_option maxHeartbeats 40000000 in
theorem rm_law (l : Launch) (Z : State) (a0 : Array Value) (hw : ∀ d ∈ tables_1, d.before a0 Z = true) (ws : List Jvm.Cond) (q0 : Int64)  (h0 : Heap) (n0 : Nat) (Z0 : n0 ≤ h0.size)  :
    MetFree l x (head1 (Jvm.Cond.code x code maxLocals ret :: ws) room_1) (fun av_ U => av_ = #[(.long q0)] ∧ Z.Warmed39 U.vm ∧ U.heap = h0) (fun _ _ _ _ _ => True) (fun _ U o U' => ∃ v L, o = .returned v ∧ Q_rm_law Z q0 h0 n0 v U'.heap L ∧ FrameEnd U o U' L 0 0) := by
  refine MetFree.of_bodySF (plainFor_of_name pn_1) hisR ?_
  intro p e s m args below meth c s₁ Bd hml0 hP hK
  obtain ⟨rfl, hZ, hh⟩ := hP
  have hx := Bd.exec
  have hby := Bd.bytes
  have hml : c.maxLocals = 9 := hml0
  have hown : s.vm.findClass "com/example/attache/attache/bench/OrderEntryItemIdPinLaw" = some m.cls := findClass_of_methodNamed Bd.named
  have hnm := (name_of_methodNamed Bd.named Bd.method).1
  have hlk : meth.locks = false := BodyLoose.notSynchronized Bd
  have X0 : Stand p l e room_1 s m #[(.long q0)] below meth c s₁ [] 0 0 := Stand.of_body Bd
  have e0 : s₁.heap = h0 := by rw [← hh, Bd.state]; rfl
  have N0 := Fr.nil n0
  refine own_by (fun _ kt => castTop (ef_2 m q0) kt) (R := own_R s (Q_rm_law Z q0 h0 n0) 0 0) ?_
  show own_Go p.tables e below (s₁.setTop (mkF m 0 #[.val (.long q0), .second, .unset, .unset, .unset, .unset, .unset, .unset, .unset] [])) _
  refine own_by (fun _ kt => XS.lconst X0.here hx rfl (hb hby at_0) kt) ?_
  show own_Go p.tables e below (s₁.setTop (mkF m 1 #[.val (.long q0), .second, .unset, .unset, .unset, .unset, .unset, .unset, .unset] [(.long (1 : Int64))])) _
  refine own_by (fun _ kt => XS.lloadN X0.here hx rfl (hb hby at_1) rfl kt) ?_
  show own_Go p.tables e below (s₁.setTop (mkF m 2 #[.val (.long q0), .second, .unset, .unset, .unset, .unset, .unset, .unset, .unset] [(.long q0), (.long (1 : Int64))])) _
  refine own_by (X0.ldc2Long hx hown (mvT hZ (hw _ (List.mem_of_getElem? (i := 0) rfl))) (g := (mkF m 2 #[.val (.long q0), .second, .unset, .unset, .unset, .unset, .unset, .unset, .unset] [(.long q0), (.long (1 : Int64))])) rfl (hb hby at_2)) ?_
  show own_Go p.tables e below (s₁.setTop (mkF m 5 #[.val (.long q0), .second, .unset, .unset, .unset, .unset, .unset, .unset, .unset] [(.long (1152921504606846975 : Int64)), (.long q0), (.long (1 : Int64))])) _
  refine own_by (fun _ kt => XS.land X0.here hx rfl (hb hby at_5) rfl kt) ?_
  show own_Go p.tables e below (s₁.setTop (mkF m 6 #[.val (.long q0), .second, .unset, .unset, .unset, .unset, .unset, .unset, .unset] [(.long (q0 &&& (1152921504606846975 : Int64))), (.long (1 : Int64))])) _
  refine own_by (fun _ kt => XS.ladd X0.here hx rfl (hb hby at_6) rfl kt) ?_
  show own_Go p.tables e below (s₁.setTop (mkF m 7 #[.val (.long q0), .second, .unset, .unset, .unset, .unset, .unset, .unset, .unset] [(.long ((1 : Int64) + (q0 &&& (1152921504606846975 : Int64))))])) _
  refine own_by (fun _ kt => XS.lstoreN X0.here hx rfl (hb hby at_7) rfl (l' := #[.val (.long q0), .second, .val (.long ((1 : Int64) + (q0 &&& (1152921504606846975 : Int64)))), .second, .unset, .unset, .unset, .unset, .unset]) rfl kt) ?_
  show own_Go p.tables e below (s₁.setTop (mkF m 8 #[.val (.long q0), .second, .val (.long ((1 : Int64) + (q0 &&& (1152921504606846975 : Int64)))), .second, .unset, .unset, .unset, .unset, .unset] [])) _
  refine own_by (fun _ kt => XS.lloadN X0.here hx rfl (hb hby at_8) rfl kt) ?_
  show own_Go p.tables e below (s₁.setTop (mkF m 9 #[.val (.long q0), .second, .val (.long ((1 : Int64) + (q0 &&& (1152921504606846975 : Int64)))), .second, .unset, .unset, .unset, .unset, .unset] [(.long ((1 : Int64) + (q0 &&& (1152921504606846975 : Int64))))])) _
  refine own_by (fun _ kt => XS.lconst X0.here hx rfl (hb hby at_9) kt) ?_
  show own_Go p.tables e below (s₁.setTop (mkF m 10 #[.val (.long q0), .second, .val (.long ((1 : Int64) + (q0 &&& (1152921504606846975 : Int64)))), .second, .unset, .unset, .unset, .unset, .unset] [(.long (1 : Int64)), (.long ((1 : Int64) + (q0 &&& (1152921504606846975 : Int64))))])) _
  refine own_by (fun _ kt => XS.lsub X0.here hx rfl (hb hby at_10) rfl kt) ?_
  show own_Go p.tables e below (s₁.setTop (mkF m 11 #[.val (.long q0), .second, .val (.long ((1 : Int64) + (q0 &&& (1152921504606846975 : Int64)))), .second, .unset, .unset, .unset, .unset, .unset] [(.long (((1 : Int64) + (q0 &&& (1152921504606846975 : Int64))) - (1 : Int64)))])) _
  refine own_by (X0.ldc2Long hx hown (mvT hZ (hw _ (List.mem_of_getElem? (i := 1) rfl))) (g := (mkF m 11 #[.val (.long q0), .second, .val (.long ((1 : Int64) + (q0 &&& (1152921504606846975 : Int64)))), .second, .unset, .unset, .unset, .unset, .unset] [(.long (((1 : Int64) + (q0 &&& (1152921504606846975 : Int64))) - (1 : Int64)))])) rfl (hb hby at_11)) ?_
  show own_Go p.tables e below (s₁.setTop (mkF m 14 #[.val (.long q0), .second, .val (.long ((1 : Int64) + (q0 &&& (1152921504606846975 : Int64)))), .second, .unset, .unset, .unset, .unset, .unset] [(.long (5 : Int64)), (.long (((1 : Int64) + (q0 &&& (1152921504606846975 : Int64))) - (1 : Int64)))])) _
  refine own_by (fun _ kt => XS.ldiv X0.here hx rfl (hb hby at_14) rfl (by decide) kt) ?_
  show own_Go p.tables e below (s₁.setTop (mkF m 15 #[.val (.long q0), .second, .val (.long ((1 : Int64) + (q0 &&& (1152921504606846975 : Int64)))), .second, .unset, .unset, .unset, .unset, .unset] [(.long ((((1 : Int64) + (q0 &&& (1152921504606846975 : Int64))) - (1 : Int64)) / (5 : Int64)))])) _
  refine own_by (fun _ kt => XS.lconst X0.here hx rfl (hb hby at_15) kt) ?_
  show own_Go p.tables e below (s₁.setTop (mkF m 16 #[.val (.long q0), .second, .val (.long ((1 : Int64) + (q0 &&& (1152921504606846975 : Int64)))), .second, .unset, .unset, .unset, .unset, .unset] [(.long (1 : Int64)), (.long ((((1 : Int64) + (q0 &&& (1152921504606846975 : Int64))) - (1 : Int64)) / (5 : Int64)))])) _
  refine own_by (fun _ kt => XS.ladd X0.here hx rfl (hb hby at_16) rfl kt) ?_
  show own_Go p.tables e below (s₁.setTop (mkF m 17 #[.val (.long q0), .second, .val (.long ((1 : Int64) + (q0 &&& (1152921504606846975 : Int64)))), .second, .unset, .unset, .unset, .unset, .unset] [(.long (((((1 : Int64) + (q0 &&& (1152921504606846975 : Int64))) - (1 : Int64)) / (5 : Int64)) + (1 : Int64)))])) _
  refine own_by (fun _ kt => XS.lstore X0.here hx rfl (hb hby at_17) rfl (l' := #[.val (.long q0), .second, .val (.long ((1 : Int64) + (q0 &&& (1152921504606846975 : Int64)))), .second, .val (.long (((((1 : Int64) + (q0 &&& (1152921504606846975 : Int64))) - (1 : Int64)) / (5 : Int64)) + (1 : Int64))), .second, .unset, .unset, .unset]) rfl kt) ?_
  show own_Go p.tables e below (s₁.setTop (mkF m 19 #[.val (.long q0), .second, .val (.long ((1 : Int64) + (q0 &&& (1152921504606846975 : Int64)))), .second, .val (.long (((((1 : Int64) + (q0 &&& (1152921504606846975 : Int64))) - (1 : Int64)) / (5 : Int64)) + (1 : Int64))), .second, .unset, .unset, .unset] [])) _
  refine own_by (fun _ kt => XS.lloadN X0.here hx rfl (hb hby at_19) rfl kt) ?_
  show own_Go p.tables e below (s₁.setTop (mkF m 20 #[.val (.long q0), .second, .val (.long ((1 : Int64) + (q0 &&& (1152921504606846975 : Int64)))), .second, .val (.long (((((1 : Int64) + (q0 &&& (1152921504606846975 : Int64))) - (1 : Int64)) / (5 : Int64)) + (1 : Int64))), .second, .unset, .unset, .unset] [(.long ((1 : Int64) + (q0 &&& (1152921504606846975 : Int64))))])) _
  refine own_by (fun _ kt => XS.lconst X0.here hx rfl (hb hby at_20) kt) ?_
  show own_Go p.tables e below (s₁.setTop (mkF m 21 #[.val (.long q0), .second, .val (.long ((1 : Int64) + (q0 &&& (1152921504606846975 : Int64)))), .second, .val (.long (((((1 : Int64) + (q0 &&& (1152921504606846975 : Int64))) - (1 : Int64)) / (5 : Int64)) + (1 : Int64))), .second, .unset, .unset, .unset] [(.long (1 : Int64)), (.long ((1 : Int64) + (q0 &&& (1152921504606846975 : Int64))))])) _
  refine own_by (fun _ kt => XS.lsub X0.here hx rfl (hb hby at_21) rfl kt) ?_
  show own_Go p.tables e below (s₁.setTop (mkF m 22 #[.val (.long q0), .second, .val (.long ((1 : Int64) + (q0 &&& (1152921504606846975 : Int64)))), .second, .val (.long (((((1 : Int64) + (q0 &&& (1152921504606846975 : Int64))) - (1 : Int64)) / (5 : Int64)) + (1 : Int64))), .second, .unset, .unset, .unset] [(.long (((1 : Int64) + (q0 &&& (1152921504606846975 : Int64))) - (1 : Int64)))])) _
  refine own_by (X0.ldc2Long hx hown (mvT hZ (hw _ (List.mem_of_getElem? (i := 1) rfl))) (g := (mkF m 22 #[.val (.long q0), .second, .val (.long ((1 : Int64) + (q0 &&& (1152921504606846975 : Int64)))), .second, .val (.long (((((1 : Int64) + (q0 &&& (1152921504606846975 : Int64))) - (1 : Int64)) / (5 : Int64)) + (1 : Int64))), .second, .unset, .unset, .unset] [(.long (((1 : Int64) + (q0 &&& (1152921504606846975 : Int64))) - (1 : Int64)))])) rfl (hb hby at_22)) ?_
  show own_Go p.tables e below (s₁.setTop (mkF m 25 #[.val (.long q0), .second, .val (.long ((1 : Int64) + (q0 &&& (1152921504606846975 : Int64)))), .second, .val (.long (((((1 : Int64) + (q0 &&& (1152921504606846975 : Int64))) - (1 : Int64)) / (5 : Int64)) + (1 : Int64))), .second, .unset, .unset, .unset] [(.long (5 : Int64)), (.long (((1 : Int64) + (q0 &&& (1152921504606846975 : Int64))) - (1 : Int64)))])) _
  refine own_by (fun _ kt => XS.lrem X0.here hx rfl (hb hby at_25) rfl (by decide) kt) ?_
  show own_Go p.tables e below (s₁.setTop (mkF m 26 #[.val (.long q0), .second, .val (.long ((1 : Int64) + (q0 &&& (1152921504606846975 : Int64)))), .second, .val (.long (((((1 : Int64) + (q0 &&& (1152921504606846975 : Int64))) - (1 : Int64)) / (5 : Int64)) + (1 : Int64))), .second, .unset, .unset, .unset] [(.long (own_lrem (((1 : Int64) + (q0 &&& (1152921504606846975 : Int64))) - (1 : Int64)) (5 : Int64)))])) _
  refine own_by (fun _ kt => XS.l2i X0.here hx rfl (hb hby at_26) rfl kt) ?_
  show own_Go p.tables e below (s₁.setTop (mkF m 27 #[.val (.long q0), .second, .val (.long ((1 : Int64) + (q0 &&& (1152921504606846975 : Int64)))), .second, .val (.long (((((1 : Int64) + (q0 &&& (1152921504606846975 : Int64))) - (1 : Int64)) / (5 : Int64)) + (1 : Int64))), .second, .unset, .unset, .unset] [(.int ((own_lrem (((1 : Int64) + (q0 &&& (1152921504606846975 : Int64))) - (1 : Int64)) (5 : Int64)).toInt32))])) _
  refine own_by (fun _ kt => XS.istore X0.here hx rfl (hb hby at_27) rfl (l' := #[.val (.long q0), .second, .val (.long ((1 : Int64) + (q0 &&& (1152921504606846975 : Int64)))), .second, .val (.long (((((1 : Int64) + (q0 &&& (1152921504606846975 : Int64))) - (1 : Int64)) / (5 : Int64)) + (1 : Int64))), .second, .val (.int ((own_lrem (((1 : Int64) + (q0 &&& (1152921504606846975 : Int64))) - (1 : Int64)) (5 : Int64)).toInt32)), .unset, .unset]) rfl kt) ?_
  show own_Go p.tables e below (s₁.setTop (mkF m 29 #[.val (.long q0), .second, .val (.long ((1 : Int64) + (q0 &&& (1152921504606846975 : Int64)))), .second, .val (.long (((((1 : Int64) + (q0 &&& (1152921504606846975 : Int64))) - (1 : Int64)) / (5 : Int64)) + (1 : Int64))), .second, .val (.int ((own_lrem (((1 : Int64) + (q0 &&& (1152921504606846975 : Int64))) - (1 : Int64)) (5 : Int64)).toInt32)), .unset, .unset] [])) _
  refine own_by (fun _ kt => XS.lload X0.here hx rfl (hb hby at_29) rfl kt) ?_
  show own_Go p.tables e below (s₁.setTop (mkF m 31 #[.val (.long q0), .second, .val (.long ((1 : Int64) + (q0 &&& (1152921504606846975 : Int64)))), .second, .val (.long (((((1 : Int64) + (q0 &&& (1152921504606846975 : Int64))) - (1 : Int64)) / (5 : Int64)) + (1 : Int64))), .second, .val (.int ((own_lrem (((1 : Int64) + (q0 &&& (1152921504606846975 : Int64))) - (1 : Int64)) (5 : Int64)).toInt32)), .unset, .unset] [(.long (((((1 : Int64) + (q0 &&& (1152921504606846975 : Int64))) - (1 : Int64)) / (5 : Int64)) + (1 : Int64)))])) _
  refine own_by (fun _ kt => XS.iload X0.here hx rfl (hb hby at_31) rfl kt) ?_
  show own_Go p.tables e below (s₁.setTop (mkF m 33 #[.val (.long q0), .second, .val (.long ((1 : Int64) + (q0 &&& (1152921504606846975 : Int64)))), .second, .val (.long (((((1 : Int64) + (q0 &&& (1152921504606846975 : Int64))) - (1 : Int64)) / (5 : Int64)) + (1 : Int64))), .second, .val (.int ((own_lrem (((1 : Int64) + (q0 &&& (1152921504606846975 : Int64))) - (1 : Int64)) (5 : Int64)).toInt32)), .unset, .unset] [(.int ((own_lrem (((1 : Int64) + (q0 &&& (1152921504606846975 : Int64))) - (1 : Int64)) (5 : Int64)).toInt32)), (.long (((((1 : Int64) + (q0 &&& (1152921504606846975 : Int64))) - (1 : Int64)) / (5 : Int64)) + (1 : Int64)))])) _
  obtain ⟨_, _, ⟨T1, L1, k1, n1⟩, -, X1, ⟨Lc1, hQ1, l1, y1, z1⟩, st1⟩ := Jvm.LawKit.callS X0 hx (y := (⟨"com/example/attache/attache/bench/OrderEntry", "itemId", "(JI)J"⟩ : MethodName)) hown (mvT hZ (hw _ (List.mem_of_getElem? (i := 2) rfl))) (mvT hZ (hw _ (List.mem_of_getElem? (i := 3) rfl))) (mvT hZ (hw _ (List.mem_of_getElem? (i := 4) rfl))) (mvT hZ (hw _ (List.mem_of_getElem? (i := 5) rfl))) (by decide) (backOf (W := 0) (rm_own_item l Z a0 hw [] (((((1 : Int64) + (q0 &&& (1152921504606846975 : Int64))) - (1 : Int64)) / (5 : Int64)) + (1 : Int64)) ((own_lrem (((1 : Int64) + (q0 &&& (1152921504606846975 : Int64))) - (1 : Int64)) (5 : Int64)).toInt32) h0 n0 Z0) hZ (hw _ (List.mem_of_getElem? (i := 5) rfl)) (hw _ (List.mem_of_getElem? (i := 4) rfl)) (by decide) (by decide)) (g := (mkF m 33 #[.val (.long q0), .second, .val (.long ((1 : Int64) + (q0 &&& (1152921504606846975 : Int64)))), .second, .val (.long (((((1 : Int64) + (q0 &&& (1152921504606846975 : Int64))) - (1 : Int64)) / (5 : Int64)) + (1 : Int64))), .second, .val (.int ((own_lrem (((1 : Int64) + (q0 &&& (1152921504606846975 : Int64))) - (1 : Int64)) (5 : Int64)).toInt32)), .unset, .unset] [(.int ((own_lrem (((1 : Int64) + (q0 &&& (1152921504606846975 : Int64))) - (1 : Int64)) (5 : Int64)).toInt32)), (.long (((((1 : Int64) + (q0 &&& (1152921504606846975 : Int64))) - (1 : Int64)) / (5 : Int64)) + (1 : Int64)))])) rfl (by rw [hml]; rfl) (argsL := [(.long (((((1 : Int64) + (q0 &&& (1152921504606846975 : Int64))) - (1 : Int64)) / (5 : Int64)) + (1 : Int64))), (.int ((own_lrem (((1 : Int64) + (q0 &&& (1152921504606846975 : Int64))) - (1 : Int64)) (5 : Int64)).toInt32))]) (rest := []) (lenOf pd_0 rfl) rfl (by show 2 * 0 + _ ≤ _; exact Nat.le_of_eq rfl) (hb hby at_33) (fun _ _ => ⟨rfl, e0, (by decide : 0 + 0 ≤ _), (by decide : 0 + 0 ≤ _)⟩)
  dsimp only [Pt.U, Pt.locs, Pt.cells, Pt.slots] at X1 l1 y1 z1 st1 hQ1
  subst l1 y1 z1
  obtain ⟨rfl, Nq1, eh1⟩ := hQ1
  have N1 := Fr.app N0 Nq1
  refine own_by (st1) ?_
  show own_Go p.tables e below (T1.setTop (mkF m 36 #[.val (.long q0), .second, .val (.long ((1 : Int64) + (q0 &&& (1152921504606846975 : Int64)))), .second, .val (.long (((((1 : Int64) + (q0 &&& (1152921504606846975 : Int64))) - (1 : Int64)) / (5 : Int64)) + (1 : Int64))), .second, .val (.int ((own_lrem (((1 : Int64) + (q0 &&& (1152921504606846975 : Int64))) - (1 : Int64)) (5 : Int64)).toInt32)), .unset, .unset] [(.long (own_item (((((1 : Int64) + (q0 &&& (1152921504606846975 : Int64))) - (1 : Int64)) / (5 : Int64)) + (1 : Int64)) ((own_lrem (((1 : Int64) + (q0 &&& (1152921504606846975 : Int64))) - (1 : Int64)) (5 : Int64)).toInt32)))])) _
  refine own_by (fun _ kt => XS.lstore X1.here hx rfl (hb hby at_36) rfl (l' := #[.val (.long q0), .second, .val (.long ((1 : Int64) + (q0 &&& (1152921504606846975 : Int64)))), .second, .val (.long (((((1 : Int64) + (q0 &&& (1152921504606846975 : Int64))) - (1 : Int64)) / (5 : Int64)) + (1 : Int64))), .second, .val (.int ((own_lrem (((1 : Int64) + (q0 &&& (1152921504606846975 : Int64))) - (1 : Int64)) (5 : Int64)).toInt32)), .val (.long (own_item (((((1 : Int64) + (q0 &&& (1152921504606846975 : Int64))) - (1 : Int64)) / (5 : Int64)) + (1 : Int64)) ((own_lrem (((1 : Int64) + (q0 &&& (1152921504606846975 : Int64))) - (1 : Int64)) (5 : Int64)).toInt32))), .second]) rfl kt) ?_
  show own_Go p.tables e below (T1.setTop (mkF m 38 #[.val (.long q0), .second, .val (.long ((1 : Int64) + (q0 &&& (1152921504606846975 : Int64)))), .second, .val (.long (((((1 : Int64) + (q0 &&& (1152921504606846975 : Int64))) - (1 : Int64)) / (5 : Int64)) + (1 : Int64))), .second, .val (.int ((own_lrem (((1 : Int64) + (q0 &&& (1152921504606846975 : Int64))) - (1 : Int64)) (5 : Int64)).toInt32)), .val (.long (own_item (((((1 : Int64) + (q0 &&& (1152921504606846975 : Int64))) - (1 : Int64)) / (5 : Int64)) + (1 : Int64)) ((own_lrem (((1 : Int64) + (q0 &&& (1152921504606846975 : Int64))) - (1 : Int64)) (5 : Int64)).toInt32))), .second] [])) _
  refine own_by (fun _ kt => XS.lload X1.here hx rfl (hb hby at_38) rfl kt) ?_
  show own_Go p.tables e below (T1.setTop (mkF m 40 #[.val (.long q0), .second, .val (.long ((1 : Int64) + (q0 &&& (1152921504606846975 : Int64)))), .second, .val (.long (((((1 : Int64) + (q0 &&& (1152921504606846975 : Int64))) - (1 : Int64)) / (5 : Int64)) + (1 : Int64))), .second, .val (.int ((own_lrem (((1 : Int64) + (q0 &&& (1152921504606846975 : Int64))) - (1 : Int64)) (5 : Int64)).toInt32)), .val (.long (own_item (((((1 : Int64) + (q0 &&& (1152921504606846975 : Int64))) - (1 : Int64)) / (5 : Int64)) + (1 : Int64)) ((own_lrem (((1 : Int64) + (q0 &&& (1152921504606846975 : Int64))) - (1 : Int64)) (5 : Int64)).toInt32))), .second] [(.long (own_item (((((1 : Int64) + (q0 &&& (1152921504606846975 : Int64))) - (1 : Int64)) / (5 : Int64)) + (1 : Int64)) ((own_lrem (((1 : Int64) + (q0 &&& (1152921504606846975 : Int64))) - (1 : Int64)) (5 : Int64)).toInt32)))])) _
  refine own_by (fun _ kt => XS.lloadN X1.here hx rfl (hb hby at_40) rfl kt) ?_
  show own_Go p.tables e below (T1.setTop (mkF m 41 #[.val (.long q0), .second, .val (.long ((1 : Int64) + (q0 &&& (1152921504606846975 : Int64)))), .second, .val (.long (((((1 : Int64) + (q0 &&& (1152921504606846975 : Int64))) - (1 : Int64)) / (5 : Int64)) + (1 : Int64))), .second, .val (.int ((own_lrem (((1 : Int64) + (q0 &&& (1152921504606846975 : Int64))) - (1 : Int64)) (5 : Int64)).toInt32)), .val (.long (own_item (((((1 : Int64) + (q0 &&& (1152921504606846975 : Int64))) - (1 : Int64)) / (5 : Int64)) + (1 : Int64)) ((own_lrem (((1 : Int64) + (q0 &&& (1152921504606846975 : Int64))) - (1 : Int64)) (5 : Int64)).toInt32))), .second] [(.long ((1 : Int64) + (q0 &&& (1152921504606846975 : Int64)))), (.long (own_item (((((1 : Int64) + (q0 &&& (1152921504606846975 : Int64))) - (1 : Int64)) / (5 : Int64)) + (1 : Int64)) ((own_lrem (((1 : Int64) + (q0 &&& (1152921504606846975 : Int64))) - (1 : Int64)) (5 : Int64)).toInt32)))])) _
  refine own_by (fun _ kt => XS.lcmp X1.here hx rfl (hb hby at_41) rfl kt) ?_
  show own_Go p.tables e below (T1.setTop (mkF m 42 #[.val (.long q0), .second, .val (.long ((1 : Int64) + (q0 &&& (1152921504606846975 : Int64)))), .second, .val (.long (((((1 : Int64) + (q0 &&& (1152921504606846975 : Int64))) - (1 : Int64)) / (5 : Int64)) + (1 : Int64))), .second, .val (.int ((own_lrem (((1 : Int64) + (q0 &&& (1152921504606846975 : Int64))) - (1 : Int64)) (5 : Int64)).toInt32)), .val (.long (own_item (((((1 : Int64) + (q0 &&& (1152921504606846975 : Int64))) - (1 : Int64)) / (5 : Int64)) + (1 : Int64)) ((own_lrem (((1 : Int64) + (q0 &&& (1152921504606846975 : Int64))) - (1 : Int64)) (5 : Int64)).toInt32))), .second] [(.int (lcmpW (own_item (((((1 : Int64) + (q0 &&& (1152921504606846975 : Int64))) - (1 : Int64)) / (5 : Int64)) + (1 : Int64)) ((own_lrem (((1 : Int64) + (q0 &&& (1152921504606846975 : Int64))) - (1 : Int64)) (5 : Int64)).toInt32)) ((1 : Int64) + (q0 &&& (1152921504606846975 : Int64)))))])) _
  refine own_by (fun _ kt => XS.ifNo X1.here hx rfl (hb hby at_42) rfl ((if0 _ _).trans (teq ((own_lc_eq _ _).mpr (own_k1 _) : (lcmpW (own_item (((((1 : Int64) + (q0 &&& (1152921504606846975 : Int64))) - (1 : Int64)) / (5 : Int64)) + (1 : Int64)) ((own_lrem (((1 : Int64) + (q0 &&& (1152921504606846975 : Int64))) - (1 : Int64)) (5 : Int64)).toInt32)) ((1 : Int64) + (q0 &&& (1152921504606846975 : Int64)))) = (0 : Int32))).2) kt) ?_
  show own_Go p.tables e below (T1.setTop (mkF m 45 #[.val (.long q0), .second, .val (.long ((1 : Int64) + (q0 &&& (1152921504606846975 : Int64)))), .second, .val (.long (((((1 : Int64) + (q0 &&& (1152921504606846975 : Int64))) - (1 : Int64)) / (5 : Int64)) + (1 : Int64))), .second, .val (.int ((own_lrem (((1 : Int64) + (q0 &&& (1152921504606846975 : Int64))) - (1 : Int64)) (5 : Int64)).toInt32)), .val (.long (own_item (((((1 : Int64) + (q0 &&& (1152921504606846975 : Int64))) - (1 : Int64)) / (5 : Int64)) + (1 : Int64)) ((own_lrem (((1 : Int64) + (q0 &&& (1152921504606846975 : Int64))) - (1 : Int64)) (5 : Int64)).toInt32))), .second] [])) _
  refine own_by (fun _ kt => XS.iconst X1.here hx rfl (hb hby at_45) kt) ?_
  show own_Go p.tables e below (T1.setTop (mkF m 46 #[.val (.long q0), .second, .val (.long ((1 : Int64) + (q0 &&& (1152921504606846975 : Int64)))), .second, .val (.long (((((1 : Int64) + (q0 &&& (1152921504606846975 : Int64))) - (1 : Int64)) / (5 : Int64)) + (1 : Int64))), .second, .val (.int ((own_lrem (((1 : Int64) + (q0 &&& (1152921504606846975 : Int64))) - (1 : Int64)) (5 : Int64)).toInt32)), .val (.long (own_item (((((1 : Int64) + (q0 &&& (1152921504606846975 : Int64))) - (1 : Int64)) / (5 : Int64)) + (1 : Int64)) ((own_lrem (((1 : Int64) + (q0 &&& (1152921504606846975 : Int64))) - (1 : Int64)) (5 : Int64)).toInt32))), .second] [(.int (1 : Int32))])) _
  refine own_by (fun _ kt => XS.goto X1.here hx rfl (pc0 := 46) (pc' := 50) rfl (hb hby at_46) (by decide) (by decide) kt) ?_
  show own_Go p.tables e below (T1.setTop (mkF m 50 #[.val (.long q0), .second, .val (.long ((1 : Int64) + (q0 &&& (1152921504606846975 : Int64)))), .second, .val (.long (((((1 : Int64) + (q0 &&& (1152921504606846975 : Int64))) - (1 : Int64)) / (5 : Int64)) + (1 : Int64))), .second, .val (.int ((own_lrem (((1 : Int64) + (q0 &&& (1152921504606846975 : Int64))) - (1 : Int64)) (5 : Int64)).toInt32)), .val (.long (own_item (((((1 : Int64) + (q0 &&& (1152921504606846975 : Int64))) - (1 : Int64)) / (5 : Int64)) + (1 : Int64)) ((own_lrem (((1 : Int64) + (q0 &&& (1152921504606846975 : Int64))) - (1 : Int64)) (5 : Int64)).toInt32))), .second] [(.int (1 : Int32))])) _
  exact own_retN X1 hx (t := .boolean) Bd.returns hlk (by simp) (hb hby at_50) ⟨rfl, N1⟩ (by decide) (by decide)
set_option maxRecDepth 65536 in
set_option maxHeartbeats 40000000 in
theorem comes_1 {Post : Tables → Env → Array Value → State → Outcome → State → Prop} (hpost : ∀ tb e args s v u, (limb_1_1.after args s (.returned v) u = true ∧ limb_1_2.after args s (.returned v) u = true ∧ True) → FrameEnd s (.returned v) u (Jvm.fieldLocs frame_1_writes args s ++ Jvm.arrayLocs frame_1_arrays args s ++ Jvm.staticLocs frame_1_statics s) 0 0 → Post tb e args s (.returned v) u) :
    ArmFor flags0 classFile x code maxLocals ret World_1 tables_1 room_1 Calls_1 rest_1 Pre_1 Post := by
  intro l hfl _ _ p e ha hc hk s m args below hf hA hF happ hP
  obtain ⟨hcalls, hrest, hpre⟩ := hP
  obtain ⟨-, -, -, hnamed, -, -, -, hat⟩ := (Spec.applies_iff hf).mp happ
  obtain ⟨hg, hn⟩ := and_e (Cond.before_iff.mp (show (Jvm.Cond.and given_1 narrow_1).before args s = true from hpre))
  obtain ⟨hcnt, g0⟩ := and_e hg
  obtain ⟨w0, rfl⟩ : ∃ w0 : Value, args = #[w0] := by
    have hs : args.size = 1 := by simpa [Cond.value, given_1] using hcnt
    obtain ⟨L⟩ := args
    match L, hs with
    | [w0], _ => exact ⟨w0, rfl⟩
  have hw := fun d (hd : d ∈ tables_1) => atoms_spec (ws := Jvm.Cond.code x code maxLocals ret :: tables_1) hat d (List.mem_cons_of_mem _ hd)
  obtain ⟨v0, ev0⟩ := isL_v g0
  obtain rfl : w0 = (.long v0) := Option.some.inj ev0
  obtain ⟨n, o, h1, h2, h3, _, L, rfl, ⟨rfl, N⟩, hq⟩ := rm_law l s _ hw tables_1 v0  s.heap s.heap.size (Nat.le_refl _)  p e ha hc hk s m _ below hf ((Spec.applies_iff_loose hf).mp happ).1 ⟨rfl, State.Warmed39.refl s, rfl⟩ trivial
  refine ⟨n, _, h1, h2, h3, hpost _ _ _ _ _ _ ⟨Cond.after_iff.mpr rfl, Cond.after_iff.mpr (eq_i res_at (Term.int_eval (1)) rfl), trivial⟩ ⟨hq.1, hq.2.1, (hq.2.2.sift fun y hy => Or.inr (N y hy)).mono (by decide) (by decide)⟩⟩
theorem main_1_1 : Claimed_1_1 := comes_1 fun _ _ _ _ _ _ h hF => ⟨h.1, hF⟩
theorem main_1_2 : Claimed_1_2 := comes_1 fun _ _ _ _ _ _ h hF => ⟨h.2.1, hF⟩
end Jvm.Pilot.@@N@@
namespace Jvm.Pilot.@@N@@
open Jvm Jvm.ClassFile Sem Op Lib Jvm.Free Jvm.Stand Jvm.Pilot.@@N@@.Jvm.D
/-! MADE BY PROGRAM (witnessworld.py) out of the Statement's table words and the real class files: 9 classes; the members and pool entries that the words name. The judged class is class 1, her method 1. -/
namespace start1
open Jvm.ClassFile
def u (s : String) : CpInfo := .utf8 (stringToUtf16 s)
/-- a pool by its gaps: so many unusable entries, then the entry; so many at the end -/
def gap : Nat → List CpInfo → List CpInfo
  | 0, r => r
  | n + 1, r => .unusable :: gap n r
def poolList (es : List (Nat × CpInfo)) (last : Nat) : List CpInfo := es.foldr (fun e r => gap e.1 (e.2 :: r)) (gap last [])
def pool (es : List (Nat × CpInfo)) (last : Nat) : Array CpInfo := ⟨poolList es last⟩
def fileOf (pool : Array CpInfo) (this : Nat) (attrs : Array Attribute := #[]) (ms : Array MethodInfo := #[]) (fl : Nat := 33) (sup : Nat := 0) (ifs : Array Nat := #[]) (fds : Array FieldInfo := #[]) : ClassFile where
  minorVersion := 0
  majorVersion := 65
  constantPool := pool
  accessFlags := fl
  thisClass := this
  superClass := sup
  interfaces := ifs
  fields := fds
  methods := ms
  attributes := attrs
def plain (name : String) (sup : Option ClassId) : Class where
  name := name
  kind := .ordinary
  loader := none
  accessFlags := 33
  super := sup
  interfaces := #[]
  cf := none
  fields := #[]
  methods := #[]
  instanceTypes := #[]
  staticTypes := #[]
  resolved := #[]
  callSites := []
  init := .initialized
  statics := none
  mirror := none

def pool0 : Array CpInfo := pool [(5, u "<init>"), (0, u "()V"), (1, .class_ 10), (1, u "java/lang/Object")] 113

def k0m0 : Method := { name := "<init>", desc := "()V", sig := { parameters := [], returnType := none }, accessFlags := 1, code := none }
/-- java/lang/Object -/
def k0 : Class := { plain "java/lang/Object" none with
  accessFlags := 33
  interfaces := #[]
  cf := some (fileOf pool0 8 #[] #[{ accessFlags := 1, nameIndex := 5, descriptorIndex := 6, attributes := #[] }] 33 0 #[] #[])
  fields := #[]
  methods := #[k0m0]
  instanceTypes := #[]
  staticTypes := #[]
  resolved := Array.replicate 124 none
  statics := none }

def pool1 : Array CpInfo := pool [(2, .class_ 4), (1, u "java/lang/Object"), (0, u "<init>"), (0, u "()V"), (0, .long 1152921504606846975), (1, .long 5), (1, .methodref 12 13), (0, .class_ 14), (0, .nameAndType 15 16), (0, u "com/example/attache/attache/bench/OrderEntry"), (0, u "itemId"), (0, u "(JI)J"), (0, .class_ 18), (0, u "com/example/attache/attache/bench/OrderEntryItemIdPinLaw"), (2, u "law"), (0, u "(J)Z")] 3

def k1m0 : Method := { name := "<init>", desc := "()V", sig := { parameters := [], returnType := none }, accessFlags := 2, code := none }
def k1c1 : Code := { maxStack := 6, maxLocals := 9, code := code, exceptionTable := #[], attributes := #[] }
def k1m1 : Method := { name := "law", desc := "(J)Z", sig := { parameters := [.long], returnType := some .boolean }, accessFlags := 9, code := some k1c1 }
/-- com/example/attache/attache/bench/OrderEntryItemIdPinLaw -/
def k1 : Class := { plain "com/example/attache/attache/bench/OrderEntryItemIdPinLaw" (some 0) with
  accessFlags := 49
  interfaces := #[]
  cf := some (fileOf pool1 17 #[] #[{ accessFlags := 2, nameIndex := 5, descriptorIndex := 6, attributes := #[] }, { accessFlags := 9, nameIndex := 21, descriptorIndex := 22, attributes := #[] }] 49 2 #[] #[])
  fields := #[]
  methods := #[k1m0, k1m1]
  instanceTypes := #[]
  staticTypes := #[]
  resolved := Array.replicate 26 none
  statics := none }

def pool2 : Array CpInfo := pool [(1, .class_ 2), (0, u "com/example/attache/attache/bench/OrderEntry"), (1, .class_ 6), (1, u "java/lang/Object"), (0, u "<init>"), (0, u "()V"), (6, u "CATEGORIES"), (0, u "Ljava/util/List;"), (20, .long 5), (17, u "CREATE_TABLES"), (10, u "TABLES"), (11, u "DROP_TABLES"), (0, u "Ljava/lang/String;"), (11, u "CREATE_INDEXES"), (15, u "SELECT_CUSTOMER"), (3, u "PRODUCTS"), (0, u "I"), (1, u "CUSTOMERS"), (1, u "ORDERS_PER_CUSTOMER"), (1, u "ITEMS_PER_ORDER"), (1, u "ROWS"), (0, u "J"), (11, u "(JI)J"), (2, u "itemId")] 27

def k2m0 : Method := { name := "<init>", desc := "()V", sig := { parameters := [], returnType := none }, accessFlags := 2, code := none }
def k2c1 : Code := { maxStack := 4, maxLocals := 3, code := prog_13_method_9_code, exceptionTable := #[], attributes := #[] }
def k2m1 : Method := { name := "itemId", desc := "(JI)J", sig := { parameters := [.long, .int], returnType := some .long }, accessFlags := 8, code := some k2c1 }
/-- com/example/attache/attache/bench/OrderEntry -/
def k2 : Class := { plain "com/example/attache/attache/bench/OrderEntry" (some 0) with
  accessFlags := 48
  interfaces := #[]
  cf := some (fileOf pool2 1 #[] #[{ accessFlags := 2, nameIndex := 7, descriptorIndex := 8, attributes := #[] }, { accessFlags := 8, nameIndex := 136, descriptorIndex := 133, attributes := #[] }] 48 4 #[] #[{ accessFlags := 24, nameIndex := 55, descriptorIndex := 16, attributes := #[] }, { accessFlags := 24, nameIndex := 66, descriptorIndex := 16, attributes := #[] }, { accessFlags := 24, nameIndex := 78, descriptorIndex := 79, attributes := #[] }, { accessFlags := 24, nameIndex := 107, descriptorIndex := 79, attributes := #[] }, { accessFlags := 24, nameIndex := 91, descriptorIndex := 16, attributes := #[] }, { accessFlags := 24, nameIndex := 111, descriptorIndex := 112, attributes := #[] }, { accessFlags := 24, nameIndex := 114, descriptorIndex := 112, attributes := #[] }, { accessFlags := 24, nameIndex := 116, descriptorIndex := 112, attributes := #[] }, { accessFlags := 24, nameIndex := 118, descriptorIndex := 112, attributes := #[] }, { accessFlags := 24, nameIndex := 120, descriptorIndex := 121, attributes := #[] }, { accessFlags := 26, nameIndex := 15, descriptorIndex := 16, attributes := #[] }])
  fields := #[{ name := "CREATE_TABLES", type := (.object "java/util/List"), accessFlags := 24, slot := 0, constantValue := 0 }, { name := "TABLES", type := (.object "java/util/List"), accessFlags := 24, slot := 1, constantValue := 0 }, { name := "DROP_TABLES", type := (.object "java/lang/String"), accessFlags := 24, slot := 2, constantValue := 0 }, { name := "SELECT_CUSTOMER", type := (.object "java/lang/String"), accessFlags := 24, slot := 3, constantValue := 0 }, { name := "CREATE_INDEXES", type := (.object "java/util/List"), accessFlags := 24, slot := 4, constantValue := 0 }, { name := "PRODUCTS", type := .int, accessFlags := 24, slot := 5, constantValue := 0 }, { name := "CUSTOMERS", type := .int, accessFlags := 24, slot := 6, constantValue := 0 }, { name := "ORDERS_PER_CUSTOMER", type := .int, accessFlags := 24, slot := 7, constantValue := 0 }, { name := "ITEMS_PER_ORDER", type := .int, accessFlags := 24, slot := 8, constantValue := 0 }, { name := "ROWS", type := .long, accessFlags := 24, slot := 9, constantValue := 0 }, { name := "CATEGORIES", type := (.object "java/util/List"), accessFlags := 26, slot := 10, constantValue := 0 }]
  methods := #[k2m0, k2m1]
  instanceTypes := #[]
  staticTypes := #[(.object "java/util/List"), (.object "java/util/List"), (.object "java/lang/String"), (.object "java/lang/String"), (.object "java/util/List"), .int, .int, .int, .int, .long, (.object "java/util/List")]
  resolved := Array.replicate 164 none
  statics := none }

def pool3 : Array CpInfo := pool [(1, u "java/lang/Cloneable"), (0, .class_ 1), (0, u "java/lang/Object"), (0, .class_ 3)] 3

/-- java/lang/Cloneable -/
def k3 : Class := { plain "java/lang/Cloneable" (some 0) with
  accessFlags := 1537
  interfaces := #[]
  cf := some (fileOf pool3 2 #[] #[] 1537 4 #[] #[])
  fields := #[]
  methods := #[]
  instanceTypes := #[]
  staticTypes := #[]
  resolved := Array.replicate 8 none
  statics := none }

def pool4 : Array CpInfo := pool [(1, u "java/io/Serializable"), (0, .class_ 1), (0, u "java/lang/Object"), (0, .class_ 3)] 3

/-- java/io/Serializable -/
def k4 : Class := { plain "java/io/Serializable" (some 0) with
  accessFlags := 1537
  interfaces := #[]
  cf := some (fileOf pool4 2 #[] #[] 1537 4 #[] #[])
  fields := #[]
  methods := #[]
  instanceTypes := #[]
  staticTypes := #[]
  resolved := Array.replicate 8 none
  statics := none }

/-- the primitive byte -/
def k5 : Class := { plain "byte" none with kind := .primitive 'B', accessFlags := 0x411 }
/-- [B -/
def k6 : Class := { plain "[B" (some 0) with kind := .array 5 .byte, interfaces := #[3, 4], accessFlags := 1041 }

/-- the primitive int -/
def k7 : Class := { plain "int" none with kind := .primitive 'I', accessFlags := 0x411 }
/-- [I -/
def k8 : Class := { plain "[I" (some 0) with kind := .array 7 .int, interfaces := #[3, 4], accessFlags := 1041 }

def heap : Heap := #[]
def classes : Array Class := #[k0, k1, k2, k3, k4, k5, k6, k7, k8]
def interned : List (Array UInt16 × Addr) := []
def slotsUsed : Nat := 0
def theMethod : MethodId := ⟨1, 1⟩
def args0 : Array Value := #[.long 70]
def aboutOver (below : List Frame) : State where
  vm := { classes := classes, interned := interned.toArray }
  heap := heap
  slotsUsed := slotsUsed
  threads := #[{ frames := .invoking theMethod args0 :: below }]
def below0 : List Frame := [.native { method := ⟨0, 0⟩, args := #[] }]
def about1 : State := aboutOver below0
def p0 : Program := .bare "" "" ""
def e0 : Env := launch0.env 0 0 0
theorem w_frames : about1.frames = Frame.invoking theMethod args0 :: below0 := rfl
set_option maxRecDepth 65536 in
theorem w_args : argsFit about1.vm theMethod args0 = true := by decide +kernel
set_option maxRecDepth 65536 in
theorem w_heap : heapFits about1 = true := by decide +kernel
set_option maxRecDepth 65536 in
theorem w_runnable : about1.curStatus? = some .runnable := by decide +kernel
set_option maxRecDepth 65536 in
theorem w_alone : about1.alone = true := by decide +kernel
set_option maxRecDepth 65536 in
theorem w_named : about1.methodNamed? x = some theMethod := by decide +kernel
set_option maxRecDepth 65536 in
theorem w_hears : about1.hears theMethod below0 = true := by decide +kernel
set_option maxRecDepth 65536 in
theorem w_ripe : about1.ripe theMethod args0 below0 = true := by decide +kernel
theorem w_running : about1.status = .running := rfl
set_option maxRecDepth 65536 in
theorem w_room : about1.hasRoom e0.platform room_1 = true :=
  launch0.hasRoom_least _ room_1 (by decide +kernel) (by decide +kernel) (by decide +kernel) (by decide +kernel) (by decide +kernel) (by decide +kernel)
theorem allAtoms_all (ts : List Jvm.Cond) (a : Array Jvm.Value) (st : Jvm.State) : (allAtoms ts).before a st = ts.all (fun c => c.before a st) := by
  induction ts with
  | nil => rfl
  | cons c t ih =>
    show (Jvm.Cond.and c (allAtoms t)).before a st = _
    rw [Jvm.Cond.before_and, ih, List.all_cons]
def words1 : List Jvm.Cond := Jvm.Cond.code x code maxLocals ret :: tables_1
/-- a 'code' word, met by the world's own term for the bytes: nothing is compared byte by byte -/
theorem code_word {y : MethodName} {bytes : ByteArray} {mx : Nat} {rt : Option FieldType} {a : Array Value} {s : State} {m : MethodId} {meth : Method} {c : Code} (h1 : s.methodNamed? y = some m) (h2 : s.vm.method? m = some meth) (h3 : meth.code = some c) (h4 : c.code = bytes)
    (h5 : (c.maxLocals == mx && c.exceptionTable.isEmpty && decide (c.maxStack ≤ mostOperands) && decide (meth.sig.returnType = rt) && !meth.locks && decide (parseMethodDescriptor y.desc = some meth.sig)) = true) : (Jvm.Cond.code y bytes mx rt).before a s = true := by
  simp only [Bool.and_eq_true, beq_iff_eq, Bool.not_eq_true', decide_eq_true_eq] at h5
  obtain ⟨⟨⟨⟨⟨g1, g2⟩, g3⟩, g4⟩, g5⟩, g6⟩ := h5
  simp [Cond.before, Cond.holds, Cond.value, h1, h2, h3, h4, g1, g2, g3, g4, g5, g6]
def isCode : Jvm.Cond → Bool
  | .code _ _ _ _ => true
  | _ => false
theorem all_split {L : List Jvm.Cond} {P : Jvm.Cond → Bool} (h1 : L.all (fun c => isCode c || P c) = true) (h2 : ∀ c ∈ L.filter isCode, P c = true) : L.all P = true := by
  refine List.all_eq_true.mpr fun c hc => ?_
  have h := List.all_eq_true.mp h1 c hc
  rcases Bool.eq_false_or_eq_true (isCode c) with hi | hi
  · exact h2 c (List.mem_filter.mpr ⟨hc, hi⟩)
  · simpa [hi] using h
set_option maxRecDepth 65536 in
theorem w_c0 : (Jvm.Cond.code x code maxLocals ret).before args0 about1 = true := code_word (m := ⟨1, 1⟩) (meth := k1m1) (c := k1c1) (by decide +kernel) rfl rfl rfl (by decide +kernel)
set_option maxRecDepth 65536 in
theorem w_c1 : (Jvm.Cond.code ({ cls := "com/example/attache/attache/bench/OrderEntry", name := "itemId", desc := "(JI)J" } : Jvm.MethodName) prog_13_method_9_code (3 : Nat) (Option.some Jvm.ClassFile.FieldType.long)).before args0 about1 = true := code_word (m := ⟨2, 1⟩) (meth := k2m1) (c := k2c1) (by decide +kernel) rfl rfl rfl (by decide +kernel)
def codes1 : List Jvm.Cond := [Jvm.Cond.code x code maxLocals ret, Jvm.Cond.code ({ cls := "com/example/attache/attache/bench/OrderEntry", name := "itemId", desc := "(JI)J" } : Jvm.MethodName) prog_13_method_9_code (3 : Nat) (Option.some Jvm.ClassFile.FieldType.long)]
set_option maxRecDepth 65536 in
theorem codes_eq : words1.filter isCode = codes1 := rfl
theorem w_codes : ∀ c ∈ words1.filter isCode, c.before args0 about1 = true := by
  rw [codes_eq]
  intro c hc
  simp only [codes1, List.mem_cons, List.not_mem_nil, or_false] at hc
  rcases hc with rfl | rfl
  · exact w_c0
  · exact w_c1
set_option maxRecDepth 65536 in
theorem w_t1 : words1.all (fun c => isCode c || c.before args0 about1) = true := by decide +kernel
theorem w_tables : (allAtoms (Jvm.Cond.code x code maxLocals ret :: tables_1)).before args0 about1 = true := by
  rw [allAtoms_all]
  show words1.all (fun c => c.before args0 about1) = true
  refine all_split ?_ w_codes
  rw [w_t1]
set_option maxRecDepth 65536 in
theorem w_case : (Jvm.Cond.and given_1 narrow_1).before args0 about1 = true := by decide +kernel
theorem w_applies : (headSpec (Jvm.Cond.code x code maxLocals ret :: tables_1) room_1).applies x e0.platform about1 = true :=
  (Spec.applies_iff w_frames).mpr ⟨w_running, w_runnable, w_alone, w_named, w_hears, w_ripe, w_room, w_tables⟩
theorem atStart : AtStart classFile x code maxLocals ret World_1 tables_1 room_1 Calls_1 rest_1 Pre_1 launch0 p0 e0 about1 theMethod args0 below0 :=
  ⟨lists_1, trivial, launch0.admits_env _ _ _, launch0.least_env, fairChoices_fair.cas, fairChoices_fair.clock, w_frames, w_args, w_heap, w_applies, trivial, trivial, w_case⟩
end start1
theorem witness_1 : WitnessClaimed_1 := ⟨start1.p0, start1.e0, start1.about1, start1.theMethod, start1.args0, start1.below0, start1.atStart⟩
end Jvm.Pilot.@@N@@
