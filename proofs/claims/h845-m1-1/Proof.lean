import JvmDerived
import JvmDerived.Pilot.@@N@@Statement
import JvmDerived.Pilot.@@N@@Code
set_option linter.unusedVariables false
set_option linter.unusedSimpArgs false
namespace Jvm.Pilot.@@N@@
open Jvm Jvm.ClassFile Sem Op Lib Jvm.Free Jvm.Stand Jvm.LawKit Jvm.RoadKit Bundle Jvm.Pilot.@@N@@.Jvm.D
/-! own_Go: a walk still to be made from the state A; every step of the machine is one own_by. -/
def own_Go (tb : Tables) (e : Env) (below : List Frame) (A : State) (R : Outcome → State → Prop) : Prop := ∃ s₂ o, Steps tb e below A s₂ ∧ s₂.status = .running ∧ Ended s₂ below o ∧ R o s₂
theorem own_by {tb : Tables} {e : Env} {below : List Frame} {A B : State} {R : Outcome → State → Prop} (h : ∀ t, Steps tb e below A t → Steps tb e below B t) (g : own_Go tb e below A R) : own_Go tb e below B R := by
  obtain ⟨s₂, o, h1, h2⟩ := g
  exact ⟨s₂, o, h _ h1, h2⟩
def own_R (s : State) (Q : Option Value → Heap → List Loc → Prop) (cc nn : Nat) (o : Outcome) (U : State) : Prop := ∃ v L, o = .returned v ∧ Q v U.heap L ∧ FrameEnd s o U L cc nn
abbrev own_lrem (x y : Int64) : Int64 := x - (x / y) * y
section OwnEnds
variable {p : Program} {l : Launch} {e : Env} {R : Room} {s : State} {m : MethodId} {args : Array Value} {below : List Frame} {meth : Method} {c : Code} {T : State} {locs : List Loc} {cells slots : Nat} {Q : Option Value → Heap → List Loc → Prop} {cc nn : Nat}
theorem own_fin (X : Stand p l e R s m args below meth c T locs cells slots) {v : Option Value} (hv : meth.sig.returnType = none → v = none) (hlk : meth.locks = false) {B : State}
    (hs : ∀ fs, (∀ (f : JFrame) (acts : List Action), f.method = m → f.locked = none → f.entered = [] → (doReturn e (T.setTop f) acts v).1 = T.setFrames fs) → Steps p.tables e below B (T.setFrames fs))
    (hq : Q v T.heap locs) (hc : cells ≤ cc) (hn : slots ≤ nn) : own_Go p.tables e below B (own_R s Q cc nn) := by
  obtain ⟨fs, hr, hrun, hended, hW, hsame⟩ := X.leave hv hlk
  exact ⟨_, _, hs fs hr, hrun, hended, v, locs, rfl, hq, ⟨_, rfl⟩, hW, hsame.mono hc hn⟩
theorem own_retN (X : Stand p l e R s m args below meth c T locs cells slots) (hx : p.tables.exec = Jvm.exec) {pc : Nat} {Ls : Array Slot} {z : Int32} {t : FieldType} {rest : List Value} (hret : meth.sig.returnType = some t) (hlk : meth.locks = false) (ht : t = .boolean ∨ t = .byte ∨ t = .char ∨ t = .short)
    (hd : decode c.code pc = .ok (.ireturn, 1)) (hq : Q (some (.int (nar t z))) T.heap locs) (hc : cells ≤ cc) (hn : slots ≤ nn) : own_Go p.tables e below (T.setTop (mkF m pc Ls (.int z :: rest))) (own_R s Q cc nn) :=
  own_fin X (fun h => by rw [hret] at h; cases h) hlk (fun fs hr => retN X hx hret ht hd hr) hq hc hn
theorem own_retI (X : Stand p l e R s m args below meth c T locs cells slots) (hx : p.tables.exec = Jvm.exec) {pc : Nat} {Ls : Array Slot} {z : Int32} (hret : meth.sig.returnType = some .int) (hlk : meth.locks = false)
    (hd : decode c.code pc = .ok (.ireturn, 1)) (hq : Q (some (.int z)) T.heap locs) (hc : cells ≤ cc) (hn : slots ≤ nn) : own_Go p.tables e below (T.setTop (mkF m pc Ls [.int z])) (own_R s Q cc nn) :=
  own_fin X (fun h => by rw [hret] at h; cases h) hlk (fun fs hr => X.ireturnOut hx hret rfl (Or.inl rfl) hd hr) hq hc hn
theorem own_retL (X : Stand p l e R s m args below meth c T locs cells slots) (hx : p.tables.exec = Jvm.exec) {pc : Nat} {Ls : Array Slot} {z : Int64} (hret : meth.sig.returnType = some .long) (hlk : meth.locks = false)
    (hd : decode c.code pc = .ok (.lreturn, 1)) (hq : Q (some (.long z)) T.heap locs) (hc : cells ≤ cc) (hn : slots ≤ nn) : own_Go p.tables e below (T.setTop (mkF m pc Ls [.long z])) (own_R s Q cc nn) :=
  own_fin X (fun h => by rw [hret] at h; cases h) hlk (fun fs hr => X.lreturnOut hx hret hd hr) hq hc hn
theorem own_retA (X : Stand p l e R s m args below meth c T locs cells slots) (hx : p.tables.exec = Jvm.exec) {pc : Nat} {Ls : Array Slot} {w : Value} {t : FieldType} (hret : meth.sig.returnType = some t) (hlk : meth.locks = false) (hw : w.isRef = true) (ht : t.isReference = true)
    (hd : decode c.code pc = .ok (.areturn, 1)) (hq : Q (some w) T.heap locs) (hc : cells ≤ cc) (hn : slots ≤ nn) : own_Go p.tables e below (T.setTop (mkF m pc Ls [w])) (own_R s Q cc nn) :=
  own_fin X (fun h => by rw [hret] at h; cases h) hlk (fun fs hr => X.areturnOut hx hw hret ht hd hr) hq hc hn
theorem own_retV (X : Stand p l e R s m args below meth c T locs cells slots) (hx : p.tables.exec = Jvm.exec) {pc : Nat} {Ls : Array Slot} (hret : meth.sig.returnType = none) (hlk : meth.locks = false)
    (hd : decode c.code pc = .ok (.return_, 1)) (hq : Q none T.heap locs) (hc : cells ≤ cc) (hn : slots ≤ nn) : own_Go p.tables e below (T.setTop (mkF m pc Ls [])) (own_R s Q cc nn) :=
  own_fin X (fun _ => rfl) hlk (fun fs hr => X.returnOut hx hret hd hr) hq hc hn
end OwnEnds
theorem own_nin {a b : Addr} (h : a ≠ b) : a ∉ [b] := fun q => h (List.mem_singleton.mp q)
theorem own_nin2 {a b c : Addr} (h : a ≠ b) (h' : a ≠ c) : a ∉ [b, c] := fun q => by
  rcases List.mem_cons.mp q with q | q
  · exact h q
  · exact h' (List.mem_singleton.mp q)
section OwnArrays
variable {p : Program} {l : Launch} {e : Env} {R : Room} {s : State} {m : MethodId} {args : Array Value} {below : List Frame} {meth : Method} {c : Code} {T : State} {locs : List Loc} {cells slots : Nat} {Z : State} {h : Heap} {a : Addr} {k : ClassId} {z j : Int32} {vs : List Value} {dv v : Value} {g : JFrame} {rest : List Value}
theorem own_iaload (X : Stand p l e R s m args below meth c T locs cells slots) (hx : p.tables.exec = Jvm.exec) (hZ : Z.Warmed39 s.vm) (eT : T.heap = h) (F : Arv Z h a k .int z vs dv) (hj : ¬ j < 0 ∧ j < z) (hv : vs.getD j.toNatClampNeg dv = v)
    (hg : g.method = m) (hs : g.stack = .int j :: .ref a :: rest) (hd : decode c.code g.pc = .ok (.iaload, 1)) (t : State) (kt : Steps p.tables e below (T.setTop { g with pc := g.pc + 1, stack := v :: rest }) t) : Steps p.tables e below (T.setTop g) t := by
  obtain ⟨cl, A, -, S, -, H, -⟩ := F
  exact X.iaload hx (by rw [eT]; exact A.1) (State.isArrayOf_alike hZ.alike A.2.1) A.2.2 (inb_of S hj) (H.at (inb_of S hj) hv) hg hs hd t kt
theorem own_caload (X : Stand p l e R s m args below meth c T locs cells slots) (hx : p.tables.exec = Jvm.exec) (hZ : Z.Warmed39 s.vm) (eT : T.heap = h) (F : Arv Z h a k .char z vs dv) (hj : ¬ j < 0 ∧ j < z) (hv : vs.getD j.toNatClampNeg dv = v)
    (hg : g.method = m) (hs : g.stack = .int j :: .ref a :: rest) (hd : decode c.code g.pc = .ok (.caload, 1)) (t : State) (kt : Steps p.tables e below (T.setTop { g with pc := g.pc + 1, stack := v :: rest }) t) : Steps p.tables e below (T.setTop g) t := by
  obtain ⟨cl, A, -, S, -, H, -⟩ := F
  exact X.caload hx (by rw [eT]; exact A.1) (State.isArrayOf_alike hZ.alike A.2.1) A.2.2 (inb_of S hj) (H.at (inb_of S hj) hv) hg hs hd t kt
theorem own_baload (X : Stand p l e R s m args below meth c T locs cells slots) (hx : p.tables.exec = Jvm.exec) (hZ : Z.Warmed39 s.vm) (eT : T.heap = h) (F : Arv Z h a k .byte z vs dv) (hj : ¬ j < 0 ∧ j < z) (hv : vs.getD j.toNatClampNeg dv = v)
    (hg : g.method = m) (hs : g.stack = .int j :: .ref a :: rest) (hd : decode c.code g.pc = .ok (.baload, 1)) (t : State) (kt : Steps p.tables e below (T.setTop { g with pc := g.pc + 1, stack := v :: rest }) t) : Steps p.tables e below (T.setTop g) t := by
  obtain ⟨cl, A, -, S, -, H, -⟩ := F
  exact X.baloadBytes hx (by rw [eT]; exact A.1) (State.isArrayOf_alike hZ.alike A.2.1) A.2.2 (inb_of S hj) (H.at (inb_of S hj) hv) hg hs hd t kt
theorem own_alen {ty : FieldType} (X : Stand p l e R s m args below meth c T locs cells slots) (hx : p.tables.exec = Jvm.exec) (hZ : Z.Warmed39 s.vm) (eT : T.heap = h) (F : Arv Z h a k ty z vs dv)
    (hg : g.method = m) (hs : g.stack = .ref a :: rest) (hd : decode c.code g.pc = .ok (.arraylength, 1)) (t : State) (kt : Steps p.tables e below (T.setTop { g with pc := g.pc + 1, stack := .int z :: rest }) t) : Steps p.tables e below (T.setTop g) t := by
  obtain ⟨cl, A, -, S, N, -, -⟩ := F
  exact X.arraylength hx (by rw [eT]; exact A.1) (State.isArrayOf_alike hZ.alike A.2.1) hg hs hd t (by rw [len_of S N]; exact kt)
end OwnArrays
section OwnBounds
variable {x k k' : Int32}
theorem own_i1 (h : x < k') (q : k'.toInt ≤ k.toInt) : x < k := by rw [Int32.lt_iff_toInt_lt] at *; omega
theorem own_i2 (h : ¬ k' < x) (q : k'.toInt < k.toInt) : x < k := by rw [Int32.lt_iff_toInt_lt] at *; omega
theorem own_i3 (h : ¬ x < k') (q : k.toInt ≤ k'.toInt) : ¬ x < k := by rw [Int32.lt_iff_toInt_lt] at *; omega
theorem own_i4 (h : k' < x) (q : k.toInt ≤ k'.toInt + 1) : ¬ x < k := by rw [Int32.lt_iff_toInt_lt] at *; omega
theorem own_j1 (h : k' < x) (q : k.toInt ≤ k'.toInt) : k < x := by rw [Int32.lt_iff_toInt_lt] at *; omega
theorem own_j2 (h : ¬ x < k') (q : k.toInt < k'.toInt) : k < x := by rw [Int32.lt_iff_toInt_lt] at *; omega
theorem own_j3 (h : ¬ k' < x) (q : k'.toInt ≤ k.toInt) : ¬ k < x := by rw [Int32.lt_iff_toInt_lt] at *; omega
theorem own_j4 (h : x < k') (q : k'.toInt ≤ k.toInt + 1) : ¬ k < x := by rw [Int32.lt_iff_toInt_lt] at *; omega
theorem own_q1 (h : x < k') (q : k'.toInt ≤ k.toInt) : ¬ x = k := fun u => by rw [Int32.lt_iff_toInt_lt] at *; subst u; omega
theorem own_q2 (h : k' < x) (q : k.toInt ≤ k'.toInt) : ¬ x = k := fun u => by rw [Int32.lt_iff_toInt_lt] at *; subst u; omega
theorem own_q3 (h : ¬ x < k') (q : k.toInt < k'.toInt) : ¬ x = k := fun u => by rw [Int32.lt_iff_toInt_lt] at *; subst u; omega
theorem own_q4 (h : ¬ k' < x) (q : k'.toInt < k.toInt) : ¬ x = k := fun u => by rw [Int32.lt_iff_toInt_lt] at *; subst u; omega
end OwnBounds
theorem own_sta_keep {Z : State} {h h' : Heap} {C n d : String} {w : Value} (F : Sta Z h C n d w) (K : Keep h h' []) : Sta Z h' C n d w := by
  obtain ⟨cf, i, k, f, st, cell, h1, h2, h3, h4, h5, r⟩ := F
  exact ⟨cf, i, k, f, st, cell, h1, h2, h3, h4, K.2.1 _ _ h5 List.not_mem_nil, r⟩
theorem own_bm32 {z : Int} (h1 : -2147483648 ≤ z) (h2 : z < 2147483648) : z.bmod (2 ^ 32) = z := by
  apply Int.bmod_eq_of_le <;> omega
theorem own_pos31 (p : Int32) : 0 ≤ (p &&& 2147483647).toInt := by
  have hn : (p &&& 2147483647).toBitVec.toNat < 2 ^ 31 := by
    show (p.toBitVec &&& (2147483647 : Int32).toBitVec).toNat < 2 ^ 31
    rw [BitVec.toNat_and]
    exact Nat.lt_of_le_of_lt Nat.and_le_right (by decide)
  show 0 ≤ (p &&& 2147483647).toBitVec.toInt
  rw [BitVec.toInt_eq_toNat_cond, if_pos (by omega)]
  omega
theorem own_rem31 (p n : Int32) (hn : 0 < n.toInt) : 0 ≤ ((p &&& 2147483647) % n).toInt ∧ ((p &&& 2147483647) % n).toInt < n.toInt := by
  rw [Int32.toInt_mod, Int.tmod_eq_emod_of_nonneg (own_pos31 p)]
  exact ⟨Int.emod_nonneg _ (by omega), Int.emod_lt_of_pos _ hn⟩
theorem own_and3 (p : Int32) : p &&& 3 = 0 ∨ p &&& 3 = 1 ∨ p &&& 3 = 2 ∨ p &&& 3 = 3 := by
  have hn : (p &&& 3).toBitVec.toNat ≤ 3 := by
    show (p.toBitVec &&& (3 : Int32).toBitVec).toNat ≤ 3
    rw [BitVec.toNat_and]
    exact Nat.and_le_right
  have e : (p &&& 3).toInt = ((p &&& 3).toBitVec.toNat : Int) := by
    show (p &&& 3).toBitVec.toInt = _
    rw [BitVec.toInt_eq_toNat_cond, if_pos (by omega)]
  simp only [← Int32.toInt_inj, e, show (0 : Int32).toInt = 0 from by decide, show (1 : Int32).toInt = 1 from by decide, show (2 : Int32).toInt = 2 from by decide, show (3 : Int32).toInt = 3 from by decide]
  omega
/-! own_Arf: an array of small numbers: place j (below n) holds f j -/
def own_Arf (Z : State) (h : Heap) (a : Addr) (k : ClassId) (ty : FieldType) (n : Nat) (f : Nat → Int32) : Prop := ∃ c : Cell, Arr Z h a c ty ∧ c.cls = k ∧ c.slots.size = n ∧ ∀ j, j < n → c.slots[j]? = some (.int (f j))
theorem own_setSlot (c : Cell) (i : Nat) (v : Value) : (c.setSlot i v).slots = c.slots.setIfInBounds i v := rfl
theorem own_clamp {j : Int32} {i : Nat} (h : j.toInt = i) : j.toNatClampNeg = i := by
  show j.toInt.toNat = i
  rw [h]; rfl
theorem own_inside {j : Int32} {i n : Nat} {c : Cell} (h : j.toInt = i) (hi : i < n) (hs : c.slots.size = n) : ¬ (j < 0 ∨ c.slots.size ≤ j.toNatClampNeg) := by
  rw [own_clamp h, hs, Int32.lt_iff_toInt_lt, h, show (0 : Int32).toInt = 0 from by decide]; omega
theorem own_len32 {n : Nat} {z : Int32} (h : z.toInt = n) : n.toInt32 = z := by
  have h2 := z.toInt_lt
  rw [← Int32.toInt_inj, h, len_toInt (by omega)]
section OwnArf
variable {p : Program} {l : Launch} {e : Env} {R : Room} {s : State} {m : MethodId} {args : Array Value} {below : List Frame} {meth : Method} {c : Code} {T : State} {locs : List Loc} {cells slots : Nat} {Z : State} {h h' : Heap} {a b : Addr} {k : ClassId} {z j : Int32} {g : JFrame} {rest : List Value} {ty : FieldType} {n : Nat} {f f' : Nat → Int32} {ws : List Addr} {sl : Nat} {v : Value}
theorem own_Arf.lt (F : own_Arf Z h a k ty n f) : a < h.size := by obtain ⟨c, A, -⟩ := F; exact A.lt
theorem own_Arf.ext (F : own_Arf Z h a k ty n f) (E : Ext h h') : own_Arf Z h' a k ty n f := by obtain ⟨c, A, r⟩ := F; exact ⟨c, A.ext E, r⟩
theorem own_Arf.other (F : own_Arf Z h b k ty n f) (W : Wr h h' a sl v) (q : b ≠ a) : own_Arf Z h' b k ty n f := by obtain ⟨c, A, r⟩ := F; exact ⟨c, A.other W q, r⟩
theorem own_Arf.keep (F : own_Arf Z h a k ty n f) (K : Keep h h' ws) (q : a ∉ ws) : own_Arf Z h' a k ty n f := by obtain ⟨c, A, r⟩ := F; exact ⟨c, ⟨K.2.1 a c A.1 q, A.2⟩, r⟩
theorem own_Arf.congr (F : own_Arf Z h a k ty n f) (q : ∀ j, j < n → f j = f' j) : own_Arf Z h a k ty n f' := by
  obtain ⟨c, A, r1, r2, r3⟩ := F
  exact ⟨c, A, r1, r2, fun j hj => by rw [← q j hj]; exact r3 j hj⟩
theorem own_Arf.set {x : Int32} {i : Nat} {c : Cell} (A : Arr Z h a c ty) (r1 : c.cls = k) (r2 : c.slots.size = n) (r3 : ∀ j, j < n → c.slots[j]? = some (.int (f j))) (W : Wr h h' a i (.int x)) (hi : i < n) : own_Arf Z h' a k ty n (fun q => if q = i then x else f q) := by
  refine ⟨_, A.same W, r1, ?_, fun q hq => ?_⟩
  · rw [own_setSlot, Array.size_setIfInBounds]; exact r2
  · rw [own_setSlot]
    by_cases u : i = q
    · subst u
      show _ = some (Value.int (if i = i then x else f i))
      rw [Array.getElem?_setIfInBounds_self_of_lt (by omega), if_pos rfl]
    · show _ = some (Value.int (if q = i then x else f q))
      rw [Array.getElem?_setIfInBounds_ne u, if_neg (fun w : q = i => u w.symm)]; exact r3 q hq
theorem own_uload (X : Stand p l e R s m args below meth c T locs cells slots) (hx : p.tables.exec = Jvm.exec) (hZ : Z.Warmed39 s.vm) (eT : T.heap = h) (F : own_Arf Z h a k .byte n f) {i : Nat} (hj : j.toInt = i) (hi : i < n)
    (hg : g.method = m) (hs : g.stack = .int j :: .ref a :: rest) (hd : decode c.code g.pc = .ok (.baload, 1)) (t : State) (kt : Steps p.tables e below (T.setTop { g with pc := g.pc + 1, stack := .int (f i) :: rest }) t) : Steps p.tables e below (T.setTop g) t := by
  obtain ⟨cl, A, -, S, H⟩ := F
  exact X.baloadBytes hx (by rw [eT]; exact A.1) (State.isArrayOf_alike hZ.alike A.2.1) A.2.2 (own_inside hj hi S) (by rw [own_clamp hj]; exact H i hi) hg hs hd t kt
theorem own_ulen (X : Stand p l e R s m args below meth c T locs cells slots) (hx : p.tables.exec = Jvm.exec) (hZ : Z.Warmed39 s.vm) (eT : T.heap = h) (F : own_Arf Z h a k ty n f) (hz : z.toInt = n)
    (hg : g.method = m) (hs : g.stack = .ref a :: rest) (hd : decode c.code g.pc = .ok (.arraylength, 1)) (t : State) (kt : Steps p.tables e below (T.setTop { g with pc := g.pc + 1, stack := .int z :: rest }) t) : Steps p.tables e below (T.setTop g) t := by
  obtain ⟨cl, A, -, S, -⟩ := F
  exact X.arraylength hx (by rw [eT]; exact A.1) (State.isArrayOf_alike hZ.alike A.2.1) hg hs hd t (by rw [S, own_len32 hz]; exact kt)
theorem own_ustore (X : Stand p l e R s m args below meth c T locs cells slots) (hx : p.tables.exec = Jvm.exec) (hZ : Z.Warmed39 s.vm) (eT : T.heap = h) (F : own_Arf Z h a k .byte n f) {x : Int32} {i : Nat} (hj : j.toInt = i) (hi : i < n)
    (hg : g.method = m) (hs : g.stack = .int x :: .int j :: .ref a :: rest) (hd : decode c.code g.pc = .ok (.bastore, 1)) :
    ∃ T' h', Stand p l e R s m args below meth c T' (locs ++ [⟨a, j.toNatClampNeg⟩]) cells slots ∧ T'.heap = h' ∧ Wr h h' a j.toNatClampNeg (.int (nar .byte x)) ∧ own_Arf Z h' a k .byte n (fun q => if q = i then nar .byte x else f q) ∧ ∀ target, Steps p.tables e below (T'.setTop { g with pc := g.pc + 1, stack := rest }) target → Steps p.tables e below (T.setTop g) target := by
  obtain ⟨cl, A, r1, S, H⟩ := F
  obtain ⟨T', h', X', e', W, st⟩ := stB X hx hZ eT A (own_inside hj hi S) hg hs hd
  exact ⟨T', h', X', e', W, own_Arf.set A r1 S H (own_clamp hj ▸ W) hi, st⟩
theorem own_Arf.new {i : Nat} (A : Arr Z h a (newA k .byte z) .byte) (hz : z.toInt = i) : own_Arf Z h a k .byte i (fun _ => 0) := by
  obtain ⟨c, A', r1, S, -, H, -⟩ := Arv.new A (by rw [Int32.lt_iff_toInt_lt, hz, show (0 : Int32).toInt = 0 from by decide]; omega)
  rw [own_clamp hz] at S
  exact ⟨c, A', r1, S, fun j hj => H j (by omega)⟩
end OwnArf
theorem own_ofNat {t : Nat} (h : t < 2147483648) : (Int32.ofNat t).toInt = t := Int32.toInt_ofNat_of_lt (by omega)
theorem own_succ (t : Nat) : Int32.ofNat t + (1 : Int32) = Int32.ofNat (t + 1) := (Int32.ofNat_add t 1).symm
theorem own_divN {i : Int32} {t d : Nat} (hi : i = Int32.ofNat t) (ht : t < 1000) {c : Int32} (hc : c.toInt = d) (hd : 0 < d) (hd' : d < 1000) : (i / c).toInt = ((t / d : Nat) : Int) := by
  subst hi
  rw [Int32.toInt_div, own_ofNat (by omega), hc, Int.tdiv_eq_ediv_of_nonneg (by omega)]
  have h1 : ((t : Int) / (d : Int)) = ((t / d : Nat) : Int) := by simp
  have h2 : t / d ≤ t := Nat.div_le_self _ _
  rw [h1]
  generalize t / d = q at h2 ⊢
  exact own_bm32 (by omega) (by omega)
def own_m8 (t : Nat) : Int32 := ((128 : Int32).toUInt32 >>> ((Int32.ofNat t % (8 : Int32)) &&& 31).toUInt32).toInt32
def own_w5 (t : Nat) : Int32 := ((16 : Int32).toUInt32 >>> ((Int32.ofNat t % (5 : Int32)) &&& 31).toUInt32).toInt32.toInt8.toInt32
def own_G (f : Nat → Int32) : Nat → Nat → Int32
  | 0, _ => 0
  | t + 1, j => if j = t / 5 then (if (f (t / 8) &&& own_m8 t) = 0 then own_G f t j else nar .byte ((own_G f t j ||| own_w5 t).toInt8.toInt32)) else own_G f t j
theorem own_G_no {f : Nat → Int32} {t : Nat} (h : (f (t / 8) &&& own_m8 t) = 0) (j : Nat) : own_G f t j = own_G f (t + 1) j := by
  show _ = if j = t / 5 then (if (f (t / 8) &&& own_m8 t) = 0 then own_G f t j else nar .byte ((own_G f t j ||| own_w5 t).toInt8.toInt32)) else own_G f t j
  rw [if_pos h]; split <;> rfl
theorem own_G_yes {f : Nat → Int32} {t : Nat} {v : Int32} (h : ¬ (f (t / 8) &&& own_m8 t) = 0) (hv : v = nar .byte ((own_G f t (t / 5) ||| own_w5 t).toInt8.toInt32)) (j : Nat) : (if j = t / 5 then v else own_G f t j) = own_G f (t + 1) j := by
  show _ = if j = t / 5 then (if (f (t / 8) &&& own_m8 t) = 0 then own_G f t j else nar .byte ((own_G f t j ||| own_w5 t).toInt8.toInt32)) else own_G f t j
  by_cases u : j = t / 5
  · subst u; rw [if_pos rfl, if_pos rfl, if_neg h, hv]
  · rw [if_neg u, if_neg u]
theorem own_G_at {Z : State} {h : Heap} {a : Addr} {k : ClassId} {ty : FieldType} {n t t' : Nat} {f : Nat → Int32} (e : t = t') (F : own_Arf Z h a k ty n (own_G f t)) : own_Arf Z h a k ty n (own_G f t') := e ▸ F
theorem own_z8 {z : Int32} {n : Nat} (hz : z.toInt = n) (h8 : n ≤ 8) : (z * (8 : Int32)).toInt = ((8 * n : Nat) : Int) := by
  rw [Int32.toInt_mul, hz, show (8 : Int32).toInt = 8 from by decide, own_bm32 (by omega) (by omega)]; omega
theorem own_M {z : Int32} {n : Nat} (hz : z.toInt = n) (h8 : n ≤ 8) : ((((z * (8 : Int32)) + (5 : Int32)) - (1 : Int32)) / (5 : Int32)).toInt = (((8 * n + 4) / 5 : Nat) : Int) := by
  have e := own_z8 hz h8
  have e1 : ((z * (8 : Int32)) + (5 : Int32)).toInt = ((8 * n + 5 : Nat) : Int) := by
    rw [Int32.toInt_add, e, show (5 : Int32).toInt = 5 from by decide, own_bm32 (by omega) (by omega)]; omega
  have e2 : (((z * (8 : Int32)) + (5 : Int32)) - (1 : Int32)).toInt = ((8 * n + 4 : Nat) : Int) := by
    rw [Int32.toInt_sub, e1, show (1 : Int32).toInt = 1 from by decide, own_bm32 (by omega) (by omega)]; omega
  rw [Int32.toInt_div, e2, show (5 : Int32).toInt = 5 from by decide, Int.tdiv_eq_ediv_of_nonneg (by omega), own_bm32 (by omega) (by omega)]
  omega
theorem own_neg {i : Int32} {t : Nat} (h : i.toInt = t) : ¬ i < 0 := by
  rw [Int32.lt_iff_toInt_lt, h, show (0 : Int32).toInt = 0 from by decide]; omega
theorem own_cap {i : Int32} {t c : Nat} (h : i.toInt = t) (hc : t ≤ c) : i.toNatClampNeg ≤ c := by rw [own_clamp h]; exact hc
theorem own_ilt {i z : Int32} {t n : Nat} (hi : i = Int32.ofNat t) (hz : z.toInt = n) (h8 : n ≤ 8) (ht : t ≤ 8 * n) : (i < z * (8 : Int32)) ↔ t < 8 * n := by
  subst hi
  rw [Int32.lt_iff_toInt_lt, own_ofNat (by omega), own_z8 hz h8]; omega
def own_exp (q0 : Int64) (p1 : Int32) : Int32 := (if p1 = (12 : Int32) then (((q0 &&& (15 : Int64)) <<< ((1 : Int32) &&& 0x3f).toInt64).toInt32) else ((((q0.toUInt64 >>> (((59 : Int32) - ((5 : Int32) * p1)) &&& 0x3f).toInt64.toUInt64).toInt64) &&& (31 : Int64)).toInt32))
theorem pn_0 : plainName "com/example/relampago/relampago/bolt11/Bech32GroupsPinLaw" = true := by first | (simp [plainName, overriddenIn]; done) | decide +kernel
theorem d_method_4_code_0 : decode method_4_code 0 = .ok (.iload_n 2, 1) := by decide +kernel
theorem d_method_4_code_1 : decode method_4_code 1 = .ok (.bipush 12, 2) := by decide +kernel
theorem d_method_4_code_3 : decode method_4_code 3 = .ok (.if_icmp .ne 12, 3) := by decide +kernel
theorem d_method_4_code_6 : decode method_4_code 6 = .ok (.lload_n 0, 1) := by decide +kernel
theorem d_method_4_code_7 : decode method_4_code 7 = .ok (.ldc2_w 26, 3) := by decide +kernel
theorem d_method_4_code_10 : decode method_4_code 10 = .ok (.land, 1) := by decide +kernel
theorem d_method_4_code_11 : decode method_4_code 11 = .ok (.iconst 1, 1) := by decide +kernel
theorem d_method_4_code_12 : decode method_4_code 12 = .ok (.lshl, 1) := by decide +kernel
theorem d_method_4_code_13 : decode method_4_code 13 = .ok (.l2i, 1) := by decide +kernel
theorem d_method_4_code_14 : decode method_4_code 14 = .ok (.ireturn, 1) := by decide +kernel
theorem d_method_4_code_15 : decode method_4_code 15 = .ok (.lload_n 0, 1) := by decide +kernel
theorem d_method_4_code_16 : decode method_4_code 16 = .ok (.bipush 59, 2) := by decide +kernel
theorem d_method_4_code_18 : decode method_4_code 18 = .ok (.iconst 5, 1) := by decide +kernel
theorem d_method_4_code_19 : decode method_4_code 19 = .ok (.iload_n 2, 1) := by decide +kernel
theorem d_method_4_code_20 : decode method_4_code 20 = .ok (.imul, 1) := by decide +kernel
theorem d_method_4_code_21 : decode method_4_code 21 = .ok (.isub, 1) := by decide +kernel
theorem d_method_4_code_22 : decode method_4_code 22 = .ok (.lushr, 1) := by decide +kernel
theorem d_method_4_code_23 : decode method_4_code 23 = .ok (.ldc2_w 28, 3) := by decide +kernel
theorem d_method_4_code_26 : decode method_4_code 26 = .ok (.land, 1) := by decide +kernel
theorem d_method_4_code_27 : decode method_4_code 27 = .ok (.l2i, 1) := by decide +kernel
theorem d_method_4_code_28 : decode method_4_code 28 = .ok (.ireturn, 1) := by decide +kernel
theorem ef_1 (m : MethodId) (q0 : Int64) (p1 : Int32) : entryFrame m #[(.long q0), (.int p1)] 3 = mkF m 0 #[.val (.long q0), .second, .val (.int p1)] [] := by first | (simp [entryFrame, mkF, argsToLocals, Value.category]; done) | rfl
def Q_rm_own_exp (Z : State) (q0 : Int64) (p1 : Int32)  (h0 : Heap) (n0 : Nat) (v : Option Value) (h : Heap) (L : List Loc) : Prop := v = some (.int (own_exp q0 p1)) ∧ Fr n0 L ∧ h = h0
set_option maxRecDepth 65536 in
set_option maxHeartbeats 40000000 in
theorem rm_own_exp (l : Launch) (Z : State) (a0 : Array Value) (hw : ∀ d ∈ tables_1, d.before a0 Z = true) (ws : List Jvm.Cond) (q0 : Int64) (p1 : Int32)  (h0 : Heap) (n0 : Nat) (Z0 : n0 ≤ h0.size)  :
    MetFree l (⟨"com/example/relampago/relampago/bolt11/Bech32GroupsPinLaw", "expected", "(JI)I"⟩ : MethodName) (head1 (Jvm.Cond.code (⟨"com/example/relampago/relampago/bolt11/Bech32GroupsPinLaw", "expected", "(JI)I"⟩ : MethodName) method_4_code 3 (some .int) :: ws) ({ frames := 0, cells := 0, slots := 0, locals := 0 } : Room)) (fun av_ U => av_ = #[(.long q0), (.int p1)] ∧ Z.Warmed39 U.vm ∧ U.heap = h0) (fun _ _ _ _ _ => True) (fun _ U o U' => ∃ v L, o = .returned v ∧ Q_rm_own_exp Z q0 p1 h0 n0 v U'.heap L ∧ FrameEnd U o U' L ({ frames := 0, cells := 0, slots := 0, locals := 0 } : Room).cells ({ frames := 0, cells := 0, slots := 0, locals := 0 } : Room).slots) := by
  refine MetFree.of_bodySF (plainFor_of_name pn_0) hisR ?_
  intro p e s m args below meth c s₁ Bd hml0 hP hK
  obtain ⟨rfl, hZ, hh⟩ := hP
  have hx := Bd.exec
  have hby := Bd.bytes
  have hml : c.maxLocals = 3 := hml0
  have hown : s.vm.findClass "com/example/relampago/relampago/bolt11/Bech32GroupsPinLaw" = some m.cls := findClass_of_methodNamed Bd.named
  have hnm := (name_of_methodNamed Bd.named Bd.method).1
  have hlk : meth.locks = false := BodyLoose.notSynchronized Bd
  have X0 : Stand p l e ({ frames := 0, cells := 0, slots := 0, locals := 0 } : Room) s m #[(.long q0), (.int p1)] below meth c s₁ [] 0 0 := Stand.of_body Bd
  have e0 : s₁.heap = h0 := by rw [← hh, Bd.state]; rfl
  have N0 := Fr.nil n0
  refine own_by (fun _ kt => castTop (ef_1 m q0 p1) kt) (R := own_R s (Q_rm_own_exp Z q0 p1 h0 n0) 0 0) ?_
  show own_Go p.tables e below (s₁.setTop (mkF m 0 #[.val (.long q0), .second, .val (.int p1)] [])) _
  refine own_by (fun _ kt => XS.iloadN X0.here hx rfl (hb hby d_method_4_code_0) rfl kt) ?_
  show own_Go p.tables e below (s₁.setTop (mkF m 1 #[.val (.long q0), .second, .val (.int p1)] [(.int p1)])) _
  refine own_by (fun _ kt => XS.bipush X0.here hx rfl (hb hby d_method_4_code_1) kt) ?_
  show own_Go p.tables e below (s₁.setTop (mkF m 3 #[.val (.long q0), .second, .val (.int p1)] [(.int (12 : Int32)), (.int p1)])) _
  by_cases hc3_1 : p1 = (12 : Int32)
  · refine own_by (fun _ kt => XS.icmpNo X0.here hx rfl (hb hby d_method_4_code_3) rfl (teq hc3_1).2 kt) ?_
    show own_Go p.tables e below (s₁.setTop (mkF m 6 #[.val (.long q0), .second, .val (.int p1)] [])) _
    refine own_by (fun _ kt => XS.lloadN X0.here hx rfl (hb hby d_method_4_code_6) rfl kt) ?_
    show own_Go p.tables e below (s₁.setTop (mkF m 7 #[.val (.long q0), .second, .val (.int p1)] [(.long q0)])) _
    refine own_by (X0.ldc2Long hx hown (mvT hZ (hw _ (List.mem_of_getElem? (i := 18) rfl))) (g := (mkF m 7 #[.val (.long q0), .second, .val (.int p1)] [(.long q0)])) rfl (hb hby d_method_4_code_7)) ?_
    show own_Go p.tables e below (s₁.setTop (mkF m 10 #[.val (.long q0), .second, .val (.int p1)] [(.long (15 : Int64)), (.long q0)])) _
    refine own_by (fun _ kt => XS.land X0.here hx rfl (hb hby d_method_4_code_10) rfl kt) ?_
    show own_Go p.tables e below (s₁.setTop (mkF m 11 #[.val (.long q0), .second, .val (.int p1)] [(.long (q0 &&& (15 : Int64)))])) _
    refine own_by (fun _ kt => XS.iconst X0.here hx rfl (hb hby d_method_4_code_11) kt) ?_
    show own_Go p.tables e below (s₁.setTop (mkF m 12 #[.val (.long q0), .second, .val (.int p1)] [(.int (1 : Int32)), (.long (q0 &&& (15 : Int64)))])) _
    refine own_by (fun _ kt => XS.lshl X0.here hx rfl (hb hby d_method_4_code_12) rfl kt) ?_
    show own_Go p.tables e below (s₁.setTop (mkF m 13 #[.val (.long q0), .second, .val (.int p1)] [(.long ((q0 &&& (15 : Int64)) <<< ((1 : Int32) &&& 0x3f).toInt64))])) _
    refine own_by (fun _ kt => XS.l2i X0.here hx rfl (hb hby d_method_4_code_13) rfl kt) ?_
    show own_Go p.tables e below (s₁.setTop (mkF m 14 #[.val (.long q0), .second, .val (.int p1)] [(.int (((q0 &&& (15 : Int64)) <<< ((1 : Int32) &&& 0x3f).toInt64).toInt32))])) _
    exact own_retI X0 hx Bd.returns hlk (hb hby d_method_4_code_14) ⟨by rw [own_exp, if_pos hc3_1] <;> rfl, N0, e0⟩ (by decide) (by decide)
  · refine own_by (fun _ kt => XS.icmpYes X0.here hx rfl (pc0 := 3) (pc' := 15) rfl (hb hby d_method_4_code_3) rfl (feq hc3_1).2 (by decide) (by decide) kt) ?_
    show own_Go p.tables e below (s₁.setTop (mkF m 15 #[.val (.long q0), .second, .val (.int p1)] [])) _
    refine own_by (fun _ kt => XS.lloadN X0.here hx rfl (hb hby d_method_4_code_15) rfl kt) ?_
    show own_Go p.tables e below (s₁.setTop (mkF m 16 #[.val (.long q0), .second, .val (.int p1)] [(.long q0)])) _
    refine own_by (fun _ kt => XS.bipush X0.here hx rfl (hb hby d_method_4_code_16) kt) ?_
    show own_Go p.tables e below (s₁.setTop (mkF m 18 #[.val (.long q0), .second, .val (.int p1)] [(.int (59 : Int32)), (.long q0)])) _
    refine own_by (fun _ kt => XS.iconst X0.here hx rfl (hb hby d_method_4_code_18) kt) ?_
    show own_Go p.tables e below (s₁.setTop (mkF m 19 #[.val (.long q0), .second, .val (.int p1)] [(.int (5 : Int32)), (.int (59 : Int32)), (.long q0)])) _
    refine own_by (fun _ kt => XS.iloadN X0.here hx rfl (hb hby d_method_4_code_19) rfl kt) ?_
    show own_Go p.tables e below (s₁.setTop (mkF m 20 #[.val (.long q0), .second, .val (.int p1)] [(.int p1), (.int (5 : Int32)), (.int (59 : Int32)), (.long q0)])) _
    refine own_by (fun _ kt => XS.imul X0.here hx rfl (hb hby d_method_4_code_20) rfl kt) ?_
    show own_Go p.tables e below (s₁.setTop (mkF m 21 #[.val (.long q0), .second, .val (.int p1)] [(.int ((5 : Int32) * p1)), (.int (59 : Int32)), (.long q0)])) _
    refine own_by (fun _ kt => XS.isub X0.here hx rfl (hb hby d_method_4_code_21) rfl kt) ?_
    show own_Go p.tables e below (s₁.setTop (mkF m 22 #[.val (.long q0), .second, .val (.int p1)] [(.int ((59 : Int32) - ((5 : Int32) * p1))), (.long q0)])) _
    refine own_by (fun _ kt => XS.lushr X0.here hx rfl (hb hby d_method_4_code_22) rfl kt) ?_
    show own_Go p.tables e below (s₁.setTop (mkF m 23 #[.val (.long q0), .second, .val (.int p1)] [(.long ((q0.toUInt64 >>> (((59 : Int32) - ((5 : Int32) * p1)) &&& 0x3f).toInt64.toUInt64).toInt64))])) _
    refine own_by (X0.ldc2Long hx hown (mvT hZ (hw _ (List.mem_of_getElem? (i := 17) rfl))) (g := (mkF m 23 #[.val (.long q0), .second, .val (.int p1)] [(.long ((q0.toUInt64 >>> (((59 : Int32) - ((5 : Int32) * p1)) &&& 0x3f).toInt64.toUInt64).toInt64))])) rfl (hb hby d_method_4_code_23)) ?_
    show own_Go p.tables e below (s₁.setTop (mkF m 26 #[.val (.long q0), .second, .val (.int p1)] [(.long (31 : Int64)), (.long ((q0.toUInt64 >>> (((59 : Int32) - ((5 : Int32) * p1)) &&& 0x3f).toInt64.toUInt64).toInt64))])) _
    refine own_by (fun _ kt => XS.land X0.here hx rfl (hb hby d_method_4_code_26) rfl kt) ?_
    show own_Go p.tables e below (s₁.setTop (mkF m 27 #[.val (.long q0), .second, .val (.int p1)] [(.long (((q0.toUInt64 >>> (((59 : Int32) - ((5 : Int32) * p1)) &&& 0x3f).toInt64.toUInt64).toInt64) &&& (31 : Int64)))])) _
    refine own_by (fun _ kt => XS.l2i X0.here hx rfl (hb hby d_method_4_code_27) rfl kt) ?_
    show own_Go p.tables e below (s₁.setTop (mkF m 28 #[.val (.long q0), .second, .val (.int p1)] [(.int ((((q0.toUInt64 >>> (((59 : Int32) - ((5 : Int32) * p1)) &&& 0x3f).toInt64.toUInt64).toInt64) &&& (31 : Int64)).toInt32))])) _
    exact own_retI X0 hx Bd.returns hlk (hb hby d_method_4_code_28) ⟨by rw [own_exp, if_neg hc3_1] <;> rfl, N0, e0⟩ (by decide) (by decide)
def own_byte (q : Int64) (k : Int32) : Int32 := nar .byte ((((q.toUInt64 >>> (((56 : Int32) - ((8 : Int32) * k)) &&& 0x3f).toInt64.toUInt64).toInt64).toInt32).toInt8.toInt32)
theorem own_nat {k : Int32} (h : 0 ≤ k.toInt) : k.toInt = (k.toInt.toNat : Int) := by omega
theorem own_ltn {k z : Int32} {n : Nat} (hz : z.toInt = n) (h0 : 0 ≤ k.toInt) (h : k < z) : k.toInt.toNat < n := by
  rw [Int32.lt_iff_toInt_lt] at h; omega
theorem own_gen {k z : Int32} {n : Nat} (hz : z.toInt = n) (h0 : 0 ≤ k.toInt) (h : ¬ k < z) {j : Nat} (hj : j < n) : ¬ j = k.toInt.toNat := by
  rw [Int32.lt_iff_toInt_lt] at h; omega
theorem d_method_3_code_0 : decode method_3_code 0 = .ok (.iload_n 1, 1) := by decide +kernel
theorem d_method_3_code_1 : decode method_3_code 1 = .ok (.aload_n 0, 1) := by decide +kernel
theorem d_method_3_code_2 : decode method_3_code 2 = .ok (.arraylength, 1) := by decide +kernel
theorem d_method_3_code_3 : decode method_3_code 3 = .ok (.if_icmp .ge 17, 3) := by decide +kernel
theorem d_method_3_code_6 : decode method_3_code 6 = .ok (.aload_n 0, 1) := by decide +kernel
theorem d_method_3_code_7 : decode method_3_code 7 = .ok (.iload_n 1, 1) := by decide +kernel
theorem d_method_3_code_8 : decode method_3_code 8 = .ok (.lload_n 2, 1) := by decide +kernel
theorem d_method_3_code_9 : decode method_3_code 9 = .ok (.bipush 56, 2) := by decide +kernel
theorem d_method_3_code_11 : decode method_3_code 11 = .ok (.bipush 8, 2) := by decide +kernel
theorem d_method_3_code_13 : decode method_3_code 13 = .ok (.iload_n 1, 1) := by decide +kernel
theorem d_method_3_code_14 : decode method_3_code 14 = .ok (.imul, 1) := by decide +kernel
theorem d_method_3_code_15 : decode method_3_code 15 = .ok (.isub, 1) := by decide +kernel
theorem d_method_3_code_16 : decode method_3_code 16 = .ok (.lushr, 1) := by decide +kernel
theorem d_method_3_code_17 : decode method_3_code 17 = .ok (.l2i, 1) := by decide +kernel
theorem d_method_3_code_18 : decode method_3_code 18 = .ok (.i2b, 1) := by decide +kernel
theorem d_method_3_code_19 : decode method_3_code 19 = .ok (.bastore, 1) := by decide +kernel
theorem d_method_3_code_20 : decode method_3_code 20 = .ok (.return_, 1) := by decide +kernel
theorem ef_2 (m : MethodId) (a : Addr) (kk : Int32) (qq : Int64) : entryFrame m #[(.ref a), (.int kk), (.long qq)] 4 = mkF m 0 #[.val (.ref a), .val (.int kk), .val (.long qq), .second] [] := by first | (simp [entryFrame, mkF, argsToLocals, Value.category]; done) | rfl
def Q_rm_put (Z : State) (a : Addr) (kk : Int32) (qq : Int64) (ka : ClassId) (n : Nat) (f : Nat → Int32) (z : Int32) (h0 : Heap) (n0 : Nat) (v : Option Value) (h : Heap) (L : List Loc) : Prop := v = none ∧ Fr n0 L ∧ Keep h0 h [a] ∧ own_Arf Z h a ka .byte n (fun j => if j = kk.toInt.toNat then own_byte qq kk else f j)
set_option maxRecDepth 65536 in
set_option maxHeartbeats 40000000 in
theorem rm_put (l : Launch) (Z : State) (a0 : Array Value) (hw : ∀ d ∈ tables_1, d.before a0 Z = true) (ws : List Jvm.Cond) (a : Addr) (kk : Int32) (qq : Int64) (ka : ClassId) (n : Nat) (f : Nat → Int32) (z : Int32) (h0 : Heap) (n0 : Nat) (Z0 : n0 ≤ h0.size) (U_a : own_Arf Z h0 a ka .byte n f) (hz : z.toInt = n) (gn_a : n0 ≤ a) (hk : 0 ≤ kk.toInt) :
    MetFree l (⟨"com/example/relampago/relampago/bolt11/Bech32GroupsPinLaw", "put", "([BIJ)V"⟩ : MethodName) (head1 (Jvm.Cond.code (⟨"com/example/relampago/relampago/bolt11/Bech32GroupsPinLaw", "put", "([BIJ)V"⟩ : MethodName) method_3_code 4 none :: ws) ({ frames := 0, cells := 0, slots := 0, locals := 0 } : Room)) (fun av_ U => av_ = #[(.ref a), (.int kk), (.long qq)] ∧ Z.Warmed39 U.vm ∧ U.heap = h0) (fun _ _ _ _ _ => True) (fun _ U o U' => ∃ v L, o = .returned v ∧ Q_rm_put Z a kk qq ka n f z h0 n0 v U'.heap L ∧ FrameEnd U o U' L ({ frames := 0, cells := 0, slots := 0, locals := 0 } : Room).cells ({ frames := 0, cells := 0, slots := 0, locals := 0 } : Room).slots) := by
  refine MetFree.of_bodySF (plainFor_of_name pn_0) hisR ?_
  intro p e s m args below meth c s₁ Bd hml0 hP hK
  obtain ⟨rfl, hZ, hh⟩ := hP
  have hx := Bd.exec
  have hby := Bd.bytes
  have hml : c.maxLocals = 4 := hml0
  have hown : s.vm.findClass "com/example/relampago/relampago/bolt11/Bech32GroupsPinLaw" = some m.cls := findClass_of_methodNamed Bd.named
  have hnm := (name_of_methodNamed Bd.named Bd.method).1
  have hlk : meth.locks = false := BodyLoose.notSynchronized Bd
  have X0 : Stand p l e ({ frames := 0, cells := 0, slots := 0, locals := 0 } : Room) s m #[(.ref a), (.int kk), (.long qq)] below meth c s₁ [] 0 0 := Stand.of_body Bd
  have e0 : s₁.heap = h0 := by rw [← hh, Bd.state]; rfl
  have N0 := Fr.nil n0
  refine own_by (fun _ kt => castTop (ef_2 m a kk qq) kt) (R := own_R s (Q_rm_put Z a kk qq ka n f z h0 n0) 0 0) ?_
  show own_Go p.tables e below (s₁.setTop (mkF m 0 #[.val (.ref a), .val (.int kk), .val (.long qq), .second] [])) _
  refine own_by (fun _ kt => XS.iloadN X0.here hx rfl (hb hby d_method_3_code_0) rfl kt) ?_
  show own_Go p.tables e below (s₁.setTop (mkF m 1 #[.val (.ref a), .val (.int kk), .val (.long qq), .second] [(.int kk)])) _
  refine own_by (fun _ kt => XS.aloadN X0.here hx rfl (hb hby d_method_3_code_1) rfl rfl kt) ?_
  show own_Go p.tables e below (s₁.setTop (mkF m 2 #[.val (.ref a), .val (.int kk), .val (.long qq), .second] [(.ref a), (.int kk)])) _
  refine own_by (own_ulen X0 hx hZ e0 U_a hz (g := (mkF m 2 #[.val (.ref a), .val (.int kk), .val (.long qq), .second] [(.ref a), (.int kk)])) rfl rfl (hb hby d_method_3_code_2)) ?_
  show own_Go p.tables e below (s₁.setTop (mkF m 3 #[.val (.ref a), .val (.int kk), .val (.long qq), .second] [(.int z), (.int kk)])) _
  by_cases hc3_1 : kk < z
  · refine own_by (fun _ kt => XS.icmpNo X0.here hx rfl (hb hby d_method_3_code_3) rfl (tlt hc3_1).2.1 kt) ?_
    show own_Go p.tables e below (s₁.setTop (mkF m 6 #[.val (.ref a), .val (.int kk), .val (.long qq), .second] [])) _
    refine own_by (fun _ kt => XS.aloadN X0.here hx rfl (hb hby d_method_3_code_6) rfl rfl kt) ?_
    show own_Go p.tables e below (s₁.setTop (mkF m 7 #[.val (.ref a), .val (.int kk), .val (.long qq), .second] [(.ref a)])) _
    refine own_by (fun _ kt => XS.iloadN X0.here hx rfl (hb hby d_method_3_code_7) rfl kt) ?_
    show own_Go p.tables e below (s₁.setTop (mkF m 8 #[.val (.ref a), .val (.int kk), .val (.long qq), .second] [(.int kk), (.ref a)])) _
    refine own_by (fun _ kt => XS.lloadN X0.here hx rfl (hb hby d_method_3_code_8) rfl kt) ?_
    show own_Go p.tables e below (s₁.setTop (mkF m 9 #[.val (.ref a), .val (.int kk), .val (.long qq), .second] [(.long qq), (.int kk), (.ref a)])) _
    refine own_by (fun _ kt => XS.bipush X0.here hx rfl (hb hby d_method_3_code_9) kt) ?_
    show own_Go p.tables e below (s₁.setTop (mkF m 11 #[.val (.ref a), .val (.int kk), .val (.long qq), .second] [(.int (56 : Int32)), (.long qq), (.int kk), (.ref a)])) _
    refine own_by (fun _ kt => XS.bipush X0.here hx rfl (hb hby d_method_3_code_11) kt) ?_
    show own_Go p.tables e below (s₁.setTop (mkF m 13 #[.val (.ref a), .val (.int kk), .val (.long qq), .second] [(.int (8 : Int32)), (.int (56 : Int32)), (.long qq), (.int kk), (.ref a)])) _
    refine own_by (fun _ kt => XS.iloadN X0.here hx rfl (hb hby d_method_3_code_13) rfl kt) ?_
    show own_Go p.tables e below (s₁.setTop (mkF m 14 #[.val (.ref a), .val (.int kk), .val (.long qq), .second] [(.int kk), (.int (8 : Int32)), (.int (56 : Int32)), (.long qq), (.int kk), (.ref a)])) _
    refine own_by (fun _ kt => XS.imul X0.here hx rfl (hb hby d_method_3_code_14) rfl kt) ?_
    show own_Go p.tables e below (s₁.setTop (mkF m 15 #[.val (.ref a), .val (.int kk), .val (.long qq), .second] [(.int ((8 : Int32) * kk)), (.int (56 : Int32)), (.long qq), (.int kk), (.ref a)])) _
    refine own_by (fun _ kt => XS.isub X0.here hx rfl (hb hby d_method_3_code_15) rfl kt) ?_
    show own_Go p.tables e below (s₁.setTop (mkF m 16 #[.val (.ref a), .val (.int kk), .val (.long qq), .second] [(.int ((56 : Int32) - ((8 : Int32) * kk))), (.long qq), (.int kk), (.ref a)])) _
    refine own_by (fun _ kt => XS.lushr X0.here hx rfl (hb hby d_method_3_code_16) rfl kt) ?_
    show own_Go p.tables e below (s₁.setTop (mkF m 17 #[.val (.ref a), .val (.int kk), .val (.long qq), .second] [(.long ((qq.toUInt64 >>> (((56 : Int32) - ((8 : Int32) * kk)) &&& 0x3f).toInt64.toUInt64).toInt64)), (.int kk), (.ref a)])) _
    refine own_by (fun _ kt => XS.l2i X0.here hx rfl (hb hby d_method_3_code_17) rfl kt) ?_
    show own_Go p.tables e below (s₁.setTop (mkF m 18 #[.val (.ref a), .val (.int kk), .val (.long qq), .second] [(.int (((qq.toUInt64 >>> (((56 : Int32) - ((8 : Int32) * kk)) &&& 0x3f).toInt64.toUInt64).toInt64).toInt32)), (.int kk), (.ref a)])) _
    refine own_by (fun _ kt => XS.i2b X0.here hx rfl (hb hby d_method_3_code_18) rfl kt) ?_
    show own_Go p.tables e below (s₁.setTop (mkF m 19 #[.val (.ref a), .val (.int kk), .val (.long qq), .second] [(.int ((((qq.toUInt64 >>> (((56 : Int32) - ((8 : Int32) * kk)) &&& 0x3f).toInt64.toUInt64).toInt64).toInt32).toInt8.toInt32)), (.int kk), (.ref a)])) _
    obtain ⟨T2, h2, X2, e2, W2, U2, st2⟩ := own_ustore X0 hx hZ e0 U_a (j := kk) (i := kk.toInt.toNat) (own_nat hk) (own_ltn hz hk hc3_1) (g := (mkF m 19 #[.val (.ref a), .val (.int kk), .val (.long qq), .second] [(.int ((((qq.toUInt64 >>> (((56 : Int32) - ((8 : Int32) * kk)) &&& 0x3f).toInt64.toUInt64).toInt64).toInt32).toInt8.toInt32)), (.int kk), (.ref a)])) rfl rfl (hb hby d_method_3_code_19)
    have Zs2 : n0 ≤ h2.size := by rw [W2.size]; exact Z0
    have K2 : Keep h0 h2 [a] := (Keep.refl h0 [a]).wr W2 (Or.inl (List.mem_of_getElem? (i := 0) rfl))
    have N2 := Fr.snoc X2 N0 gn_a
    refine own_by st2 ?_
    show own_Go p.tables e below (T2.setTop (mkF m 20 #[.val (.ref a), .val (.int kk), .val (.long qq), .second] [])) _
    exact own_retV X2 hx Bd.returns hlk (hb hby d_method_3_code_20) (by rw [e2]; exact ⟨rfl, N2, K2, U2⟩) (by decide) (by decide)
  · refine own_by (fun _ kt => XS.icmpYes X0.here hx rfl (pc0 := 3) (pc' := 20) rfl (hb hby d_method_3_code_3) rfl (flt hc3_1).2.1 (by decide) (by decide) kt) ?_
    show own_Go p.tables e below (s₁.setTop (mkF m 20 #[.val (.ref a), .val (.int kk), .val (.long qq), .second] [])) _
    exact own_retV X0 hx Bd.returns hlk (hb hby d_method_3_code_20) (by rw [e0]; exact ⟨rfl, N0, (Keep.refl h0 [a]), (U_a.congr (fun j hj => (if_neg (own_gen hz hk hc3_1 hj)).symm))⟩) (by decide) (by decide)
theorem pn_1 : plainName "com/example/relampago/relampago/bolt11/Bech32" = true := by first | (simp [plainName, overriddenIn]; done) | decide +kernel
theorem d_prog_2_method_3_code_0 : decode prog_2_method_3_code 0 = .ok (.aload_n 0, 1) := by decide +kernel
theorem d_prog_2_method_3_code_1 : decode prog_2_method_3_code 1 = .ok (.arraylength, 1) := by decide +kernel
theorem d_prog_2_method_3_code_2 : decode prog_2_method_3_code 2 = .ok (.bipush 8, 2) := by decide +kernel
theorem d_prog_2_method_3_code_4 : decode prog_2_method_3_code 4 = .ok (.imul, 1) := by decide +kernel
theorem d_prog_2_method_3_code_5 : decode prog_2_method_3_code 5 = .ok (.iconst 5, 1) := by decide +kernel
theorem d_prog_2_method_3_code_6 : decode prog_2_method_3_code 6 = .ok (.iadd, 1) := by decide +kernel
theorem d_prog_2_method_3_code_7 : decode prog_2_method_3_code 7 = .ok (.iconst 1, 1) := by decide +kernel
theorem d_prog_2_method_3_code_8 : decode prog_2_method_3_code 8 = .ok (.isub, 1) := by decide +kernel
theorem d_prog_2_method_3_code_9 : decode prog_2_method_3_code 9 = .ok (.iconst 5, 1) := by decide +kernel
theorem d_prog_2_method_3_code_10 : decode prog_2_method_3_code 10 = .ok (.idiv, 1) := by decide +kernel
theorem d_prog_2_method_3_code_11 : decode prog_2_method_3_code 11 = .ok (.newarray .byte, 2) := by decide +kernel
theorem d_prog_2_method_3_code_13 : decode prog_2_method_3_code 13 = .ok (.astore_n 1, 1) := by decide +kernel
theorem d_prog_2_method_3_code_14 : decode prog_2_method_3_code 14 = .ok (.iconst 0, 1) := by decide +kernel
theorem d_prog_2_method_3_code_15 : decode prog_2_method_3_code 15 = .ok (.istore_n 2, 1) := by decide +kernel
theorem d_prog_2_method_3_code_16 : decode prog_2_method_3_code 16 = .ok (.iload_n 2, 1) := by decide +kernel
theorem d_prog_2_method_3_code_17 : decode prog_2_method_3_code 17 = .ok (.aload_n 0, 1) := by decide +kernel
theorem d_prog_2_method_3_code_18 : decode prog_2_method_3_code 18 = .ok (.arraylength, 1) := by decide +kernel
theorem d_prog_2_method_3_code_19 : decode prog_2_method_3_code 19 = .ok (.bipush 8, 2) := by decide +kernel
theorem d_prog_2_method_3_code_21 : decode prog_2_method_3_code 21 = .ok (.imul, 1) := by decide +kernel
theorem d_prog_2_method_3_code_22 : decode prog_2_method_3_code 22 = .ok (.if_icmp .ge 43, 3) := by decide +kernel
theorem d_prog_2_method_3_code_65 : decode prog_2_method_3_code 65 = .ok (.aload_n 1, 1) := by decide +kernel
theorem d_prog_2_method_3_code_66 : decode prog_2_method_3_code 66 = .ok (.areturn, 1) := by decide +kernel
theorem d_prog_2_method_3_code_25 : decode prog_2_method_3_code 25 = .ok (.aload_n 0, 1) := by decide +kernel
theorem d_prog_2_method_3_code_26 : decode prog_2_method_3_code 26 = .ok (.iload_n 2, 1) := by decide +kernel
theorem d_prog_2_method_3_code_27 : decode prog_2_method_3_code 27 = .ok (.bipush 8, 2) := by decide +kernel
theorem d_prog_2_method_3_code_29 : decode prog_2_method_3_code 29 = .ok (.idiv, 1) := by decide +kernel
theorem d_prog_2_method_3_code_30 : decode prog_2_method_3_code 30 = .ok (.baload, 1) := by decide +kernel
theorem d_prog_2_method_3_code_31 : decode prog_2_method_3_code 31 = .ok (.sipush 128, 3) := by decide +kernel
theorem d_prog_2_method_3_code_34 : decode prog_2_method_3_code 34 = .ok (.iload_n 2, 1) := by decide +kernel
theorem d_prog_2_method_3_code_35 : decode prog_2_method_3_code 35 = .ok (.bipush 8, 2) := by decide +kernel
theorem d_prog_2_method_3_code_37 : decode prog_2_method_3_code 37 = .ok (.irem, 1) := by decide +kernel
theorem d_prog_2_method_3_code_38 : decode prog_2_method_3_code 38 = .ok (.iushr, 1) := by decide +kernel
theorem d_prog_2_method_3_code_39 : decode prog_2_method_3_code 39 = .ok (.iand, 1) := by decide +kernel
theorem d_prog_2_method_3_code_40 : decode prog_2_method_3_code 40 = .ok (.ifCond .eq 19, 3) := by decide +kernel
theorem d_prog_2_method_3_code_59 : decode prog_2_method_3_code 59 = .ok (.iinc 2 1, 3) := by decide +kernel
theorem d_prog_2_method_3_code_62 : decode prog_2_method_3_code 62 = .ok (.goto (-46), 3) := by decide +kernel
theorem d_prog_2_method_3_code_43 : decode prog_2_method_3_code 43 = .ok (.aload_n 1, 1) := by decide +kernel
theorem d_prog_2_method_3_code_44 : decode prog_2_method_3_code 44 = .ok (.iload_n 2, 1) := by decide +kernel
theorem d_prog_2_method_3_code_45 : decode prog_2_method_3_code 45 = .ok (.iconst 5, 1) := by decide +kernel
theorem d_prog_2_method_3_code_46 : decode prog_2_method_3_code 46 = .ok (.idiv, 1) := by decide +kernel
theorem d_prog_2_method_3_code_47 : decode prog_2_method_3_code 47 = .ok (.dup2, 1) := by decide +kernel
theorem d_prog_2_method_3_code_48 : decode prog_2_method_3_code 48 = .ok (.baload, 1) := by decide +kernel
theorem d_prog_2_method_3_code_49 : decode prog_2_method_3_code 49 = .ok (.bipush 16, 2) := by decide +kernel
theorem d_prog_2_method_3_code_51 : decode prog_2_method_3_code 51 = .ok (.iload_n 2, 1) := by decide +kernel
theorem d_prog_2_method_3_code_52 : decode prog_2_method_3_code 52 = .ok (.iconst 5, 1) := by decide +kernel
theorem d_prog_2_method_3_code_53 : decode prog_2_method_3_code 53 = .ok (.irem, 1) := by decide +kernel
theorem d_prog_2_method_3_code_54 : decode prog_2_method_3_code 54 = .ok (.iushr, 1) := by decide +kernel
theorem d_prog_2_method_3_code_55 : decode prog_2_method_3_code 55 = .ok (.i2b, 1) := by decide +kernel
theorem d_prog_2_method_3_code_56 : decode prog_2_method_3_code 56 = .ok (.ior, 1) := by decide +kernel
theorem d_prog_2_method_3_code_57 : decode prog_2_method_3_code 57 = .ok (.i2b, 1) := by decide +kernel
theorem d_prog_2_method_3_code_58 : decode prog_2_method_3_code 58 = .ok (.bastore, 1) := by decide +kernel
theorem ef_3 (m : MethodId) (b : Addr) : entryFrame m #[(.ref b)] 3 = mkF m 0 #[.val (.ref b), .unset, .unset] [] := by first | (simp [entryFrame, mkF, argsToLocals, Value.category]; done) | rfl
def Q_rm_groups (Z : State) (b : Addr) (kb : ClassId) (n : Nat) (f : Nat → Int32) (z : Int32) (h0 : Heap) (n0 : Nat) (v : Option Value) (h : Heap) (L : List Loc) : Prop := ∃ (r : Addr) (kr : ClassId), v = some (.ref r) ∧ Fr n0 L ∧ Keep h0 h [] ∧ n0 ≤ r ∧ h0.size ≤ r ∧ own_Arf Z h r kr .byte ((8 * n + 4) / 5) (own_G f (8 * n))
set_option maxRecDepth 65536 in
set_option maxHeartbeats 40000000 in
theorem rm_groups (l : Launch) (Z : State) (a0 : Array Value) (hw : ∀ d ∈ tables_1, d.before a0 Z = true) (ws : List Jvm.Cond) (b : Addr) (kb : ClassId) (n : Nat) (f : Nat → Int32) (z : Int32) (h0 : Heap) (n0 : Nat) (Z0 : n0 ≤ h0.size) (U_b : own_Arf Z h0 b kb .byte n f) (hz : z.toInt = n) (h8 : n ≤ 8) :
    MetFree l (⟨"com/example/relampago/relampago/bolt11/Bech32", "groups", "([B)[B"⟩ : MethodName) (head1 (Jvm.Cond.code (⟨"com/example/relampago/relampago/bolt11/Bech32", "groups", "([B)[B"⟩ : MethodName) prog_2_method_3_code 3 (some (.array .byte)) :: ws) ({ frames := 0, cells := 1, slots := 13, locals := 0 } : Room)) (fun av_ U => av_ = #[(.ref b)] ∧ Z.Warmed39 U.vm ∧ U.heap = h0) (fun _ _ _ _ _ => True) (fun _ U o U' => ∃ v L, o = .returned v ∧ Q_rm_groups Z b kb n f z h0 n0 v U'.heap L ∧ FrameEnd U o U' L ({ frames := 0, cells := 1, slots := 13, locals := 0 } : Room).cells ({ frames := 0, cells := 1, slots := 13, locals := 0 } : Room).slots) := by
  refine MetFree.of_bodySF (plainFor_of_name pn_1) hisR ?_
  intro p e s m args below meth c s₁ Bd hml0 hP hK
  obtain ⟨rfl, hZ, hh⟩ := hP
  have hx := Bd.exec
  have hby := Bd.bytes
  have hml : c.maxLocals = 3 := hml0
  have hown : s.vm.findClass "com/example/relampago/relampago/bolt11/Bech32" = some m.cls := findClass_of_methodNamed Bd.named
  have hnm := (name_of_methodNamed Bd.named Bd.method).1
  have hlk : meth.locks = false := BodyLoose.notSynchronized Bd
  have X0 : Stand p l e ({ frames := 0, cells := 1, slots := 13, locals := 0 } : Room) s m #[(.ref b)] below meth c s₁ [] 0 0 := Stand.of_body Bd
  have e0 : s₁.heap = h0 := by rw [← hh, Bd.state]; rfl
  have N0 := Fr.nil n0
  refine own_by (fun _ kt => castTop (ef_3 m b) kt) (R := own_R s (Q_rm_groups Z b kb n f z h0 n0) 1 13) ?_
  show own_Go p.tables e below (s₁.setTop (mkF m 0 #[.val (.ref b), .unset, .unset] [])) _
  refine own_by (fun _ kt => XS.aloadN X0.here hx rfl (hb hby d_prog_2_method_3_code_0) rfl rfl kt) ?_
  show own_Go p.tables e below (s₁.setTop (mkF m 1 #[.val (.ref b), .unset, .unset] [(.ref b)])) _
  refine own_by (own_ulen X0 hx hZ e0 U_b hz (g := (mkF m 1 #[.val (.ref b), .unset, .unset] [(.ref b)])) rfl rfl (hb hby d_prog_2_method_3_code_1)) ?_
  show own_Go p.tables e below (s₁.setTop (mkF m 2 #[.val (.ref b), .unset, .unset] [(.int z)])) _
  refine own_by (fun _ kt => XS.bipush X0.here hx rfl (hb hby d_prog_2_method_3_code_2) kt) ?_
  show own_Go p.tables e below (s₁.setTop (mkF m 4 #[.val (.ref b), .unset, .unset] [(.int (8 : Int32)), (.int z)])) _
  refine own_by (fun _ kt => XS.imul X0.here hx rfl (hb hby d_prog_2_method_3_code_4) rfl kt) ?_
  show own_Go p.tables e below (s₁.setTop (mkF m 5 #[.val (.ref b), .unset, .unset] [(.int (z * (8 : Int32)))])) _
  refine own_by (fun _ kt => XS.iconst X0.here hx rfl (hb hby d_prog_2_method_3_code_5) kt) ?_
  show own_Go p.tables e below (s₁.setTop (mkF m 6 #[.val (.ref b), .unset, .unset] [(.int (5 : Int32)), (.int (z * (8 : Int32)))])) _
  refine own_by (fun _ kt => XS.iadd X0.here hx rfl (hb hby d_prog_2_method_3_code_6) rfl kt) ?_
  show own_Go p.tables e below (s₁.setTop (mkF m 7 #[.val (.ref b), .unset, .unset] [(.int ((z * (8 : Int32)) + (5 : Int32)))])) _
  refine own_by (fun _ kt => XS.iconst X0.here hx rfl (hb hby d_prog_2_method_3_code_7) kt) ?_
  show own_Go p.tables e below (s₁.setTop (mkF m 8 #[.val (.ref b), .unset, .unset] [(.int (1 : Int32)), (.int ((z * (8 : Int32)) + (5 : Int32)))])) _
  refine own_by (fun _ kt => XS.isub X0.here hx rfl (hb hby d_prog_2_method_3_code_8) rfl kt) ?_
  show own_Go p.tables e below (s₁.setTop (mkF m 9 #[.val (.ref b), .unset, .unset] [(.int (((z * (8 : Int32)) + (5 : Int32)) - (1 : Int32)))])) _
  refine own_by (fun _ kt => XS.iconst X0.here hx rfl (hb hby d_prog_2_method_3_code_9) kt) ?_
  show own_Go p.tables e below (s₁.setTop (mkF m 10 #[.val (.ref b), .unset, .unset] [(.int (5 : Int32)), (.int (((z * (8 : Int32)) + (5 : Int32)) - (1 : Int32)))])) _
  refine own_by (fun _ kt => XS.idiv X0.here hx rfl (hb hby d_prog_2_method_3_code_10) rfl (by decide) kt) ?_
  show own_Go p.tables e below (s₁.setTop (mkF m 11 #[.val (.ref b), .unset, .unset] [(.int ((((z * (8 : Int32)) + (5 : Int32)) - (1 : Int32)) / (5 : Int32)))])) _
  obtain ⟨T1, h1, k1, X1, e1, E1, A1, st1⟩ := newP X0 hx hZ (hw _ (List.mem_of_getElem? (i := 1) rfl)) e0 (g := (mkF m 11 #[.val (.ref b), .unset, .unset] [(.int ((((z * (8 : Int32)) + (5 : Int32)) - (1 : Int32)) / (5 : Int32)))])) rfl (hb hby d_prog_2_method_3_code_11) rfl (own_neg (own_M hz h8)) (cap := 13) (own_cap (own_M hz h8) (by omega)) (by decide) (by decide) (by decide)
  obtain ⟨b1, g1⟩ : ∃ z, z = h0.size := ⟨_, rfl⟩
  rw [← g1] at A1 st1
  have gn_b1 : n0 ≤ b1 := Nat.le_trans Z0 (Nat.le_of_eq g1.symm)
  have sz_b1 : h0.size ≤ b1 := Nat.le_trans (Keep.refl h0 []).1 (Nat.le_of_eq g1.symm)
  have ne_b_b1 : b ≠ b1 := Nat.ne_of_lt (Nat.lt_of_lt_of_le U_b.lt (Nat.le_of_eq g1.symm))
  have f2 := U_b.ext E1
  have Zs1 : n0 ≤ h1.size := Nat.le_trans Z0 E1.1
  have K1 : Keep h0 h1 [] := (Keep.refl h0 []).ext E1
  have f3 : own_Arf Z h1 b1 k1 .byte ((8 * n + 4) / 5) (fun _ => (0 : Int32)) := own_Arf.new A1 (own_M hz h8)
  refine own_by st1 ?_
  show own_Go p.tables e below (T1.setTop (mkF m 13 #[.val (.ref b), .unset, .unset] [(.ref b1)])) _
  refine own_by (fun _ kt => XS.astoreN X1.here hx rfl (hb hby d_prog_2_method_3_code_13) rfl rfl (l' := #[.val (.ref b), .val (.ref b1), .unset]) rfl kt) ?_
  show own_Go p.tables e below (T1.setTop (mkF m 14 #[.val (.ref b), .val (.ref b1), .unset] [])) _
  refine own_by (fun _ kt => XS.iconst X1.here hx rfl (hb hby d_prog_2_method_3_code_14) kt) ?_
  show own_Go p.tables e below (T1.setTop (mkF m 15 #[.val (.ref b), .val (.ref b1), .unset] [(.int (0 : Int32))])) _
  refine own_by (fun _ kt => XS.istoreN X1.here hx rfl (hb hby d_prog_2_method_3_code_15) rfl (l' := #[.val (.ref b), .val (.ref b1), .val (.int (0 : Int32))]) rfl kt) ?_
  show own_Go p.tables e below (T1.setTop (mkF m 16 #[.val (.ref b), .val (.ref b1), .val (.int (0 : Int32))] [])) _
  have J4 : ∀ (nn : Nat) (hJ4 : Heap) (TJ4 : State) (lJ4 : List Loc) (XJ4 : Stand p l e ({ frames := 0, cells := 1, slots := 13, locals := 0 } : Room) s m #[(.ref b)] below meth c TJ4 lJ4 1 13) (eJ4 : TJ4.heap = hJ4) (NJ4 : Fr n0 lJ4) (i : Int32) (tt : Nat) (ZJ4 : n0 ≤ hJ4.size) (KJ4 : Keep h0 hJ4 []) (fJ4_0 : own_Arf Z hJ4 b kb .byte n f) (fJ4_1 : own_Arf Z hJ4 b1 k1 .byte ((8 * n + 4) / 5) (own_G f tt)) (hi : i = Int32.ofNat tt) (hle : tt ≤ 8 * n) (hn : 8 * n - tt = nn) , own_Go p.tables e below (TJ4.setTop (mkF m 16 #[.val (.ref b), .val (.ref b1), .val (.int i)] [])) (own_R s (Q_rm_groups Z b kb n f z h0 n0) 1 13) := by
    intro nn
    induction nn with
    | zero =>
      intro hJ4 TJ4 lJ4 XJ4 eJ4 NJ4 i tt ZJ4 KJ4 fJ4_0 fJ4_1 hi hle hn
      refine own_by (fun _ kt => XS.iloadN XJ4.here hx rfl (hb hby d_prog_2_method_3_code_16) rfl kt) ?_
      show own_Go p.tables e below (TJ4.setTop (mkF m 17 #[.val (.ref b), .val (.ref b1), .val (.int i)] [(.int i)])) _
      refine own_by (fun _ kt => XS.aloadN XJ4.here hx rfl (hb hby d_prog_2_method_3_code_17) rfl rfl kt) ?_
      show own_Go p.tables e below (TJ4.setTop (mkF m 18 #[.val (.ref b), .val (.ref b1), .val (.int i)] [(.ref b), (.int i)])) _
      refine own_by (own_ulen XJ4 hx hZ eJ4 fJ4_0 hz (g := (mkF m 18 #[.val (.ref b), .val (.ref b1), .val (.int i)] [(.ref b), (.int i)])) rfl rfl (hb hby d_prog_2_method_3_code_18)) ?_
      show own_Go p.tables e below (TJ4.setTop (mkF m 19 #[.val (.ref b), .val (.ref b1), .val (.int i)] [(.int z), (.int i)])) _
      refine own_by (fun _ kt => XS.bipush XJ4.here hx rfl (hb hby d_prog_2_method_3_code_19) kt) ?_
      show own_Go p.tables e below (TJ4.setTop (mkF m 21 #[.val (.ref b), .val (.ref b1), .val (.int i)] [(.int (8 : Int32)), (.int z), (.int i)])) _
      refine own_by (fun _ kt => XS.imul XJ4.here hx rfl (hb hby d_prog_2_method_3_code_21) rfl kt) ?_
      show own_Go p.tables e below (TJ4.setTop (mkF m 22 #[.val (.ref b), .val (.ref b1), .val (.int i)] [(.int (z * (8 : Int32))), (.int i)])) _
      refine own_by (fun _ kt => XS.icmpYes XJ4.here hx rfl (pc0 := 22) (pc' := 65) rfl (hb hby d_prog_2_method_3_code_22) rfl (flt (fun q => absurd ((own_ilt hi hz h8 hle).mp q) (by omega) : ¬ (i < (z * (8 : Int32))))).2.1 (by decide) (by decide) kt) ?_
      show own_Go p.tables e below (TJ4.setTop (mkF m 65 #[.val (.ref b), .val (.ref b1), .val (.int i)] [])) _
      refine own_by (fun _ kt => XS.aloadN XJ4.here hx rfl (hb hby d_prog_2_method_3_code_65) rfl rfl kt) ?_
      show own_Go p.tables e below (TJ4.setTop (mkF m 66 #[.val (.ref b), .val (.ref b1), .val (.int i)] [(.ref b1)])) _
      exact own_retA XJ4 hx Bd.returns hlk rfl rfl (hb hby d_prog_2_method_3_code_66) (by rw [eJ4]; exact ⟨b1, k1, rfl, NJ4, KJ4, gn_b1, sz_b1, (own_G_at (by omega) fJ4_1)⟩) (by decide) (by decide)
    | succ nn ih =>
      intro hJ4 TJ4 lJ4 XJ4 eJ4 NJ4 i tt ZJ4 KJ4 fJ4_0 fJ4_1 hi hle hn
      refine own_by (fun _ kt => XS.iloadN XJ4.here hx rfl (hb hby d_prog_2_method_3_code_16) rfl kt) ?_
      show own_Go p.tables e below (TJ4.setTop (mkF m 17 #[.val (.ref b), .val (.ref b1), .val (.int i)] [(.int i)])) _
      refine own_by (fun _ kt => XS.aloadN XJ4.here hx rfl (hb hby d_prog_2_method_3_code_17) rfl rfl kt) ?_
      show own_Go p.tables e below (TJ4.setTop (mkF m 18 #[.val (.ref b), .val (.ref b1), .val (.int i)] [(.ref b), (.int i)])) _
      refine own_by (own_ulen XJ4 hx hZ eJ4 fJ4_0 hz (g := (mkF m 18 #[.val (.ref b), .val (.ref b1), .val (.int i)] [(.ref b), (.int i)])) rfl rfl (hb hby d_prog_2_method_3_code_18)) ?_
      show own_Go p.tables e below (TJ4.setTop (mkF m 19 #[.val (.ref b), .val (.ref b1), .val (.int i)] [(.int z), (.int i)])) _
      refine own_by (fun _ kt => XS.bipush XJ4.here hx rfl (hb hby d_prog_2_method_3_code_19) kt) ?_
      show own_Go p.tables e below (TJ4.setTop (mkF m 21 #[.val (.ref b), .val (.ref b1), .val (.int i)] [(.int (8 : Int32)), (.int z), (.int i)])) _
      refine own_by (fun _ kt => XS.imul XJ4.here hx rfl (hb hby d_prog_2_method_3_code_21) rfl kt) ?_
      show own_Go p.tables e below (TJ4.setTop (mkF m 22 #[.val (.ref b), .val (.ref b1), .val (.int i)] [(.int (z * (8 : Int32))), (.int i)])) _
      refine own_by (fun _ kt => XS.icmpNo XJ4.here hx rfl (hb hby d_prog_2_method_3_code_22) rfl (tlt ((own_ilt hi hz h8 hle).mpr (by omega) : i < (z * (8 : Int32)))).2.1 kt) ?_
      show own_Go p.tables e below (TJ4.setTop (mkF m 25 #[.val (.ref b), .val (.ref b1), .val (.int i)] [])) _
      refine own_by (fun _ kt => XS.aloadN XJ4.here hx rfl (hb hby d_prog_2_method_3_code_25) rfl rfl kt) ?_
      show own_Go p.tables e below (TJ4.setTop (mkF m 26 #[.val (.ref b), .val (.ref b1), .val (.int i)] [(.ref b)])) _
      refine own_by (fun _ kt => XS.iloadN XJ4.here hx rfl (hb hby d_prog_2_method_3_code_26) rfl kt) ?_
      show own_Go p.tables e below (TJ4.setTop (mkF m 27 #[.val (.ref b), .val (.ref b1), .val (.int i)] [(.int i), (.ref b)])) _
      refine own_by (fun _ kt => XS.bipush XJ4.here hx rfl (hb hby d_prog_2_method_3_code_27) kt) ?_
      show own_Go p.tables e below (TJ4.setTop (mkF m 29 #[.val (.ref b), .val (.ref b1), .val (.int i)] [(.int (8 : Int32)), (.int i), (.ref b)])) _
      refine own_by (fun _ kt => XS.idiv XJ4.here hx rfl (hb hby d_prog_2_method_3_code_29) rfl (by decide) kt) ?_
      show own_Go p.tables e below (TJ4.setTop (mkF m 30 #[.val (.ref b), .val (.ref b1), .val (.int i)] [(.int (i / (8 : Int32))), (.ref b)])) _
      refine own_by (own_uload XJ4 hx hZ eJ4 fJ4_0 (j := (i / (8 : Int32))) (i := (tt / 8)) (own_divN hi (by omega) (c := 8) (d := 8) rfl (by decide) (by decide)) (by omega) (g := (mkF m 30 #[.val (.ref b), .val (.ref b1), .val (.int i)] [(.int (i / (8 : Int32))), (.ref b)])) rfl rfl (hb hby d_prog_2_method_3_code_30)) ?_
      show own_Go p.tables e below (TJ4.setTop (mkF m 31 #[.val (.ref b), .val (.ref b1), .val (.int i)] [(.int (f (tt / 8)))])) _
      refine own_by (fun _ kt => XS.sipush XJ4.here hx rfl (hb hby d_prog_2_method_3_code_31) kt) ?_
      show own_Go p.tables e below (TJ4.setTop (mkF m 34 #[.val (.ref b), .val (.ref b1), .val (.int i)] [(.int (128 : Int32)), (.int (f (tt / 8)))])) _
      refine own_by (fun _ kt => XS.iloadN XJ4.here hx rfl (hb hby d_prog_2_method_3_code_34) rfl kt) ?_
      show own_Go p.tables e below (TJ4.setTop (mkF m 35 #[.val (.ref b), .val (.ref b1), .val (.int i)] [(.int i), (.int (128 : Int32)), (.int (f (tt / 8)))])) _
      refine own_by (fun _ kt => XS.bipush XJ4.here hx rfl (hb hby d_prog_2_method_3_code_35) kt) ?_
      show own_Go p.tables e below (TJ4.setTop (mkF m 37 #[.val (.ref b), .val (.ref b1), .val (.int i)] [(.int (8 : Int32)), (.int i), (.int (128 : Int32)), (.int (f (tt / 8)))])) _
      refine own_by (fun _ kt => iremM XJ4 hx rfl (hb hby d_prog_2_method_3_code_37) rfl (by decide) kt) ?_
      show own_Go p.tables e below (TJ4.setTop (mkF m 38 #[.val (.ref b), .val (.ref b1), .val (.int i)] [(.int (i % (8 : Int32))), (.int (128 : Int32)), (.int (f (tt / 8)))])) _
      refine own_by (fun _ kt => XS.iushr XJ4.here hx rfl (hb hby d_prog_2_method_3_code_38) rfl kt) ?_
      show own_Go p.tables e below (TJ4.setTop (mkF m 39 #[.val (.ref b), .val (.ref b1), .val (.int i)] [(.int (((128 : Int32).toUInt32 >>> ((i % (8 : Int32)) &&& 31).toUInt32).toInt32)), (.int (f (tt / 8)))])) _
      refine own_by (fun _ kt => XS.iand XJ4.here hx rfl (hb hby d_prog_2_method_3_code_39) rfl kt) ?_
      show own_Go p.tables e below (TJ4.setTop (mkF m 40 #[.val (.ref b), .val (.ref b1), .val (.int i)] [(.int ((f (tt / 8)) &&& (((128 : Int32).toUInt32 >>> ((i % (8 : Int32)) &&& 31).toUInt32).toInt32)))])) _
      by_cases hc40_5 : ((f (tt / 8)) &&& (((128 : Int32).toUInt32 >>> ((i % (8 : Int32)) &&& 31).toUInt32).toInt32)) = (0 : Int32)
      · refine own_by (fun _ kt => XS.ifYes XJ4.here hx rfl (pc0 := 40) (pc' := 59) rfl (hb hby d_prog_2_method_3_code_40) rfl ((if0 _ _).trans (teq hc40_5).1) (by decide) (by decide) kt) ?_
        show own_Go p.tables e below (TJ4.setTop (mkF m 59 #[.val (.ref b), .val (.ref b1), .val (.int i)] [])) _
        refine own_by (fun _ kt => XS.iinc XJ4.here hx rfl (hb hby d_prog_2_method_3_code_59) rfl (l' := #[.val (.ref b), .val (.ref b1), .val (.int (i + (1 : Int32)))]) rfl kt) ?_
        show own_Go p.tables e below (TJ4.setTop (mkF m 62 #[.val (.ref b), .val (.ref b1), .val (.int (i + (1 : Int32)))] [])) _
        refine own_by (fun _ kt => XS.goto XJ4.here hx rfl (pc0 := 62) (pc' := 16) rfl (hb hby d_prog_2_method_3_code_62) (by decide) (by decide) kt) ?_
        show own_Go p.tables e below (TJ4.setTop (mkF m 16 #[.val (.ref b), .val (.ref b1), .val (.int (i + (1 : Int32)))] [])) _
        exact ih hJ4 _ _ XJ4 eJ4 NJ4 ((i + (1 : Int32))) (tt + 1) ZJ4 KJ4 fJ4_0 (fJ4_1.congr (fun j _ => own_G_no (by subst hi; exact hc40_5) j)) (by rw [hi]; exact own_succ tt) (by omega) (by omega)
      · refine own_by (fun _ kt => XS.ifNo XJ4.here hx rfl (hb hby d_prog_2_method_3_code_40) rfl ((if0 _ _).trans (feq hc40_5).1) kt) ?_
        show own_Go p.tables e below (TJ4.setTop (mkF m 43 #[.val (.ref b), .val (.ref b1), .val (.int i)] [])) _
        refine own_by (fun _ kt => XS.aloadN XJ4.here hx rfl (hb hby d_prog_2_method_3_code_43) rfl rfl kt) ?_
        show own_Go p.tables e below (TJ4.setTop (mkF m 44 #[.val (.ref b), .val (.ref b1), .val (.int i)] [(.ref b1)])) _
        refine own_by (fun _ kt => XS.iloadN XJ4.here hx rfl (hb hby d_prog_2_method_3_code_44) rfl kt) ?_
        show own_Go p.tables e below (TJ4.setTop (mkF m 45 #[.val (.ref b), .val (.ref b1), .val (.int i)] [(.int i), (.ref b1)])) _
        refine own_by (fun _ kt => XS.iconst XJ4.here hx rfl (hb hby d_prog_2_method_3_code_45) kt) ?_
        show own_Go p.tables e below (TJ4.setTop (mkF m 46 #[.val (.ref b), .val (.ref b1), .val (.int i)] [(.int (5 : Int32)), (.int i), (.ref b1)])) _
        refine own_by (fun _ kt => XS.idiv XJ4.here hx rfl (hb hby d_prog_2_method_3_code_46) rfl (by decide) kt) ?_
        show own_Go p.tables e below (TJ4.setTop (mkF m 47 #[.val (.ref b), .val (.ref b1), .val (.int i)] [(.int (i / (5 : Int32))), (.ref b1)])) _
        refine own_by (fun _ kt => Jvm.Free.XT.dup2 XJ4.here hx rfl (hb hby d_prog_2_method_3_code_47) rfl rfl rfl kt) ?_
        show own_Go p.tables e below (TJ4.setTop (mkF m 48 #[.val (.ref b), .val (.ref b1), .val (.int i)] [(.int (i / (5 : Int32))), (.ref b1), (.int (i / (5 : Int32))), (.ref b1)])) _
        refine own_by (own_uload XJ4 hx hZ eJ4 fJ4_1 (j := (i / (5 : Int32))) (i := (tt / 5)) (own_divN hi (by omega) (c := 5) (d := 5) rfl (by decide) (by decide)) (by omega) (g := (mkF m 48 #[.val (.ref b), .val (.ref b1), .val (.int i)] [(.int (i / (5 : Int32))), (.ref b1), (.int (i / (5 : Int32))), (.ref b1)])) rfl rfl (hb hby d_prog_2_method_3_code_48)) ?_
        show own_Go p.tables e below (TJ4.setTop (mkF m 49 #[.val (.ref b), .val (.ref b1), .val (.int i)] [(.int ((own_G f tt) (tt / 5))), (.int (i / (5 : Int32))), (.ref b1)])) _
        refine own_by (fun _ kt => XS.bipush XJ4.here hx rfl (hb hby d_prog_2_method_3_code_49) kt) ?_
        show own_Go p.tables e below (TJ4.setTop (mkF m 51 #[.val (.ref b), .val (.ref b1), .val (.int i)] [(.int (16 : Int32)), (.int ((own_G f tt) (tt / 5))), (.int (i / (5 : Int32))), (.ref b1)])) _
        refine own_by (fun _ kt => XS.iloadN XJ4.here hx rfl (hb hby d_prog_2_method_3_code_51) rfl kt) ?_
        show own_Go p.tables e below (TJ4.setTop (mkF m 52 #[.val (.ref b), .val (.ref b1), .val (.int i)] [(.int i), (.int (16 : Int32)), (.int ((own_G f tt) (tt / 5))), (.int (i / (5 : Int32))), (.ref b1)])) _
        refine own_by (fun _ kt => XS.iconst XJ4.here hx rfl (hb hby d_prog_2_method_3_code_52) kt) ?_
        show own_Go p.tables e below (TJ4.setTop (mkF m 53 #[.val (.ref b), .val (.ref b1), .val (.int i)] [(.int (5 : Int32)), (.int i), (.int (16 : Int32)), (.int ((own_G f tt) (tt / 5))), (.int (i / (5 : Int32))), (.ref b1)])) _
        refine own_by (fun _ kt => iremM XJ4 hx rfl (hb hby d_prog_2_method_3_code_53) rfl (by decide) kt) ?_
        show own_Go p.tables e below (TJ4.setTop (mkF m 54 #[.val (.ref b), .val (.ref b1), .val (.int i)] [(.int (i % (5 : Int32))), (.int (16 : Int32)), (.int ((own_G f tt) (tt / 5))), (.int (i / (5 : Int32))), (.ref b1)])) _
        refine own_by (fun _ kt => XS.iushr XJ4.here hx rfl (hb hby d_prog_2_method_3_code_54) rfl kt) ?_
        show own_Go p.tables e below (TJ4.setTop (mkF m 55 #[.val (.ref b), .val (.ref b1), .val (.int i)] [(.int (((16 : Int32).toUInt32 >>> ((i % (5 : Int32)) &&& 31).toUInt32).toInt32)), (.int ((own_G f tt) (tt / 5))), (.int (i / (5 : Int32))), (.ref b1)])) _
        refine own_by (fun _ kt => XS.i2b XJ4.here hx rfl (hb hby d_prog_2_method_3_code_55) rfl kt) ?_
        show own_Go p.tables e below (TJ4.setTop (mkF m 56 #[.val (.ref b), .val (.ref b1), .val (.int i)] [(.int ((((16 : Int32).toUInt32 >>> ((i % (5 : Int32)) &&& 31).toUInt32).toInt32).toInt8.toInt32)), (.int ((own_G f tt) (tt / 5))), (.int (i / (5 : Int32))), (.ref b1)])) _
        refine own_by (fun _ kt => XS.ior XJ4.here hx rfl (hb hby d_prog_2_method_3_code_56) rfl kt) ?_
        show own_Go p.tables e below (TJ4.setTop (mkF m 57 #[.val (.ref b), .val (.ref b1), .val (.int i)] [(.int (((own_G f tt) (tt / 5)) ||| ((((16 : Int32).toUInt32 >>> ((i % (5 : Int32)) &&& 31).toUInt32).toInt32).toInt8.toInt32))), (.int (i / (5 : Int32))), (.ref b1)])) _
        refine own_by (fun _ kt => XS.i2b XJ4.here hx rfl (hb hby d_prog_2_method_3_code_57) rfl kt) ?_
        show own_Go p.tables e below (TJ4.setTop (mkF m 58 #[.val (.ref b), .val (.ref b1), .val (.int i)] [(.int ((((own_G f tt) (tt / 5)) ||| ((((16 : Int32).toUInt32 >>> ((i % (5 : Int32)) &&& 31).toUInt32).toInt32).toInt8.toInt32)).toInt8.toInt32)), (.int (i / (5 : Int32))), (.ref b1)])) _
        obtain ⟨T6, h6, X6, e6, W6, U6, st6⟩ := own_ustore XJ4 hx hZ eJ4 fJ4_1 (j := (i / (5 : Int32))) (i := (tt / 5)) (own_divN hi (by omega) (c := 5) (d := 5) rfl (by decide) (by decide)) (by omega) (g := (mkF m 58 #[.val (.ref b), .val (.ref b1), .val (.int i)] [(.int ((((own_G f tt) (tt / 5)) ||| ((((16 : Int32).toUInt32 >>> ((i % (5 : Int32)) &&& 31).toUInt32).toInt32).toInt8.toInt32)).toInt8.toInt32)), (.int (i / (5 : Int32))), (.ref b1)])) rfl rfl (hb hby d_prog_2_method_3_code_58)
        have f7 : own_Arf Z h6 b1 k1 .byte ((8 * n + 4) / 5) (own_G f (tt + 1)) := U6.congr (fun j _ => own_G_yes (by subst hi; exact hc40_5) (by subst hi; rfl) j)
        have f8 := fJ4_0.other W6 ne_b_b1
        have Zs6 : n0 ≤ h6.size := by rw [W6.size]; exact ZJ4
        have K6 : Keep h0 h6 [] := KJ4.wr W6 (Or.inr sz_b1)
        have N6 := Fr.snoc X6 NJ4 gn_b1
        refine own_by st6 ?_
        show own_Go p.tables e below (T6.setTop (mkF m 59 #[.val (.ref b), .val (.ref b1), .val (.int i)] [])) _
        refine own_by (fun _ kt => XS.iinc X6.here hx rfl (hb hby d_prog_2_method_3_code_59) rfl (l' := #[.val (.ref b), .val (.ref b1), .val (.int (i + (1 : Int32)))]) rfl kt) ?_
        show own_Go p.tables e below (T6.setTop (mkF m 62 #[.val (.ref b), .val (.ref b1), .val (.int (i + (1 : Int32)))] [])) _
        refine own_by (fun _ kt => XS.goto X6.here hx rfl (pc0 := 62) (pc' := 16) rfl (hb hby d_prog_2_method_3_code_62) (by decide) (by decide) kt) ?_
        show own_Go p.tables e below (T6.setTop (mkF m 16 #[.val (.ref b), .val (.ref b1), .val (.int (i + (1 : Int32)))] [])) _
        exact ih h6 _ _ X6 e6 N6 ((i + (1 : Int32))) (tt + 1) Zs6 K6 f8 f7 (by rw [hi]; exact own_succ tt) (by omega) (by omega)
  exact J4 (8 * n) h1 _ _ X1 e1 N0 ((0 : Int32)) (0) Zs1 K1 f2 (f3.congr (fun _ _ => rfl)) (rfl) (by omega) (rfl)
theorem d_method_5_code_0 : decode method_5_code 0 = .ok (.iload_n 1, 1) := by decide +kernel
theorem d_method_5_code_1 : decode method_5_code 1 = .ok (.aload_n 0, 1) := by decide +kernel
theorem d_method_5_code_2 : decode method_5_code 2 = .ok (.arraylength, 1) := by decide +kernel
theorem d_method_5_code_3 : decode method_5_code 3 = .ok (.if_icmp .ge 20, 3) := by decide +kernel
theorem d_method_5_code_6 : decode method_5_code 6 = .ok (.aload_n 0, 1) := by decide +kernel
theorem d_method_5_code_7 : decode method_5_code 7 = .ok (.iload_n 1, 1) := by decide +kernel
theorem d_method_5_code_8 : decode method_5_code 8 = .ok (.baload, 1) := by decide +kernel
theorem d_method_5_code_9 : decode method_5_code 9 = .ok (.lload_n 2, 1) := by decide +kernel
theorem d_method_5_code_10 : decode method_5_code 10 = .ok (.iload_n 1, 1) := by decide +kernel
theorem d_method_5_code_11 : decode method_5_code 11 = .ok (.invokestatic 30, 3) := by decide +kernel
theorem pd_0 : parseMethodDescriptor "(JI)I" = some ⟨[.long, .int], some .int⟩ := by decide +kernel
theorem d_method_5_code_14 : decode method_5_code 14 = .ok (.if_icmp .ne 7, 3) := by decide +kernel
theorem d_method_5_code_17 : decode method_5_code 17 = .ok (.iconst 1, 1) := by decide +kernel
theorem d_method_5_code_18 : decode method_5_code 18 = .ok (.goto 4, 3) := by decide +kernel
theorem d_method_5_code_22 : decode method_5_code 22 = .ok (.ireturn, 1) := by decide +kernel
theorem d_method_5_code_23 : decode method_5_code 23 = .ok (.iconst 1, 1) := by decide +kernel
theorem d_method_5_code_24 : decode method_5_code 24 = .ok (.ireturn, 1) := by decide +kernel
theorem ef_4 (m : MethodId) (a : Addr) (kk : Int32) (qq : Int64) : entryFrame m #[(.ref a), (.int kk), (.long qq)] 4 = mkF m 0 #[.val (.ref a), .val (.int kk), .val (.long qq), .second] [] := by first | (simp [entryFrame, mkF, argsToLocals, Value.category]; done) | rfl
def Q_rm_check (Z : State) (a : Addr) (kk : Int32) (qq : Int64) (ka : ClassId) (n : Nat) (f : Nat → Int32) (z : Int32) (h0 : Heap) (n0 : Nat) (v : Option Value) (h : Heap) (L : List Loc) : Prop := v = some (.int (1 : Int32)) ∧ Fr n0 L ∧ h = h0
set_option maxRecDepth 65536 in
set_option maxHeartbeats 40000000 in
theorem rm_check (l : Launch) (Z : State) (a0 : Array Value) (hw : ∀ d ∈ tables_1, d.before a0 Z = true) (ws : List Jvm.Cond) (a : Addr) (kk : Int32) (qq : Int64) (ka : ClassId) (n : Nat) (f : Nat → Int32) (z : Int32) (h0 : Heap) (n0 : Nat) (Z0 : n0 ≤ h0.size) (U_a : own_Arf Z h0 a ka .byte n f) (hz : z.toInt = n) (hk : 0 ≤ kk.toInt) (hc : kk.toInt.toNat < n → f kk.toInt.toNat = own_exp qq kk) :
    MetFree l (⟨"com/example/relampago/relampago/bolt11/Bech32GroupsPinLaw", "check", "([BIJ)Z"⟩ : MethodName) (head1 (Jvm.Cond.code (⟨"com/example/relampago/relampago/bolt11/Bech32GroupsPinLaw", "check", "([BIJ)Z"⟩ : MethodName) method_5_code 4 (some .boolean) :: ws) ({ frames := 1, cells := 0, slots := 0, locals := 15 } : Room)) (fun av_ U => av_ = #[(.ref a), (.int kk), (.long qq)] ∧ Z.Warmed39 U.vm ∧ U.heap = h0) (fun _ _ _ _ _ => True) (fun _ U o U' => ∃ v L, o = .returned v ∧ Q_rm_check Z a kk qq ka n f z h0 n0 v U'.heap L ∧ FrameEnd U o U' L ({ frames := 1, cells := 0, slots := 0, locals := 15 } : Room).cells ({ frames := 1, cells := 0, slots := 0, locals := 15 } : Room).slots) := by
  refine MetFree.of_bodySF (plainFor_of_name pn_0) hisR ?_
  intro p e s m args below meth c s₁ Bd hml0 hP hK
  obtain ⟨rfl, hZ, hh⟩ := hP
  have hx := Bd.exec
  have hby := Bd.bytes
  have hml : c.maxLocals = 4 := hml0
  have hown : s.vm.findClass "com/example/relampago/relampago/bolt11/Bech32GroupsPinLaw" = some m.cls := findClass_of_methodNamed Bd.named
  have hnm := (name_of_methodNamed Bd.named Bd.method).1
  have hlk : meth.locks = false := BodyLoose.notSynchronized Bd
  have X0 : Stand p l e ({ frames := 1, cells := 0, slots := 0, locals := 15 } : Room) s m #[(.ref a), (.int kk), (.long qq)] below meth c s₁ [] 0 0 := Stand.of_body Bd
  have e0 : s₁.heap = h0 := by rw [← hh, Bd.state]; rfl
  have N0 := Fr.nil n0
  refine own_by (fun _ kt => castTop (ef_4 m a kk qq) kt) (R := own_R s (Q_rm_check Z a kk qq ka n f z h0 n0) 0 0) ?_
  show own_Go p.tables e below (s₁.setTop (mkF m 0 #[.val (.ref a), .val (.int kk), .val (.long qq), .second] [])) _
  refine own_by (fun _ kt => XS.iloadN X0.here hx rfl (hb hby d_method_5_code_0) rfl kt) ?_
  show own_Go p.tables e below (s₁.setTop (mkF m 1 #[.val (.ref a), .val (.int kk), .val (.long qq), .second] [(.int kk)])) _
  refine own_by (fun _ kt => XS.aloadN X0.here hx rfl (hb hby d_method_5_code_1) rfl rfl kt) ?_
  show own_Go p.tables e below (s₁.setTop (mkF m 2 #[.val (.ref a), .val (.int kk), .val (.long qq), .second] [(.ref a), (.int kk)])) _
  refine own_by (own_ulen X0 hx hZ e0 U_a hz (g := (mkF m 2 #[.val (.ref a), .val (.int kk), .val (.long qq), .second] [(.ref a), (.int kk)])) rfl rfl (hb hby d_method_5_code_2)) ?_
  show own_Go p.tables e below (s₁.setTop (mkF m 3 #[.val (.ref a), .val (.int kk), .val (.long qq), .second] [(.int z), (.int kk)])) _
  by_cases hc3_1 : kk < z
  · refine own_by (fun _ kt => XS.icmpNo X0.here hx rfl (hb hby d_method_5_code_3) rfl (tlt hc3_1).2.1 kt) ?_
    show own_Go p.tables e below (s₁.setTop (mkF m 6 #[.val (.ref a), .val (.int kk), .val (.long qq), .second] [])) _
    refine own_by (fun _ kt => XS.aloadN X0.here hx rfl (hb hby d_method_5_code_6) rfl rfl kt) ?_
    show own_Go p.tables e below (s₁.setTop (mkF m 7 #[.val (.ref a), .val (.int kk), .val (.long qq), .second] [(.ref a)])) _
    refine own_by (fun _ kt => XS.iloadN X0.here hx rfl (hb hby d_method_5_code_7) rfl kt) ?_
    show own_Go p.tables e below (s₁.setTop (mkF m 8 #[.val (.ref a), .val (.int kk), .val (.long qq), .second] [(.int kk), (.ref a)])) _
    refine own_by (own_uload X0 hx hZ e0 U_a (j := kk) (i := kk.toInt.toNat) (own_nat hk) (own_ltn hz hk hc3_1) (g := (mkF m 8 #[.val (.ref a), .val (.int kk), .val (.long qq), .second] [(.int kk), (.ref a)])) rfl rfl (hb hby d_method_5_code_8)) ?_
    show own_Go p.tables e below (s₁.setTop (mkF m 9 #[.val (.ref a), .val (.int kk), .val (.long qq), .second] [(.int (f kk.toInt.toNat))])) _
    refine own_by (fun _ kt => XS.lloadN X0.here hx rfl (hb hby d_method_5_code_9) rfl kt) ?_
    show own_Go p.tables e below (s₁.setTop (mkF m 10 #[.val (.ref a), .val (.int kk), .val (.long qq), .second] [(.long qq), (.int (f kk.toInt.toNat))])) _
    refine own_by (fun _ kt => XS.iloadN X0.here hx rfl (hb hby d_method_5_code_10) rfl kt) ?_
    show own_Go p.tables e below (s₁.setTop (mkF m 11 #[.val (.ref a), .val (.int kk), .val (.long qq), .second] [(.int kk), (.long qq), (.int (f kk.toInt.toNat))])) _
    obtain ⟨_, _, ⟨T2, L2, k2, n2⟩, -, X2, ⟨Lc2, hQ2, l2, y2, z2⟩, st2⟩ := Jvm.LawKit.callS X0 hx (y := (⟨"com/example/relampago/relampago/bolt11/Bech32GroupsPinLaw", "expected", "(JI)I"⟩ : MethodName)) hown (mvT hZ (hw _ (List.mem_of_getElem? (i := 14) rfl))) (mvT hZ (hw _ (List.mem_of_getElem? (i := 15) rfl))) (mvT hZ (hw _ (List.mem_of_getElem? (i := 4) rfl))) (mvT hZ (hw _ (List.mem_of_getElem? (i := 16) rfl))) (by decide) (backOf (W := 1) (rm_own_exp l Z a0 hw [] qq kk h0 n0 Z0) hZ (hw _ (List.mem_of_getElem? (i := 16) rfl)) (hw _ (List.mem_of_getElem? (i := 4) rfl)) (by decide) (by decide)) (g := (mkF m 11 #[.val (.ref a), .val (.int kk), .val (.long qq), .second] [(.int kk), (.long qq), (.int (f kk.toInt.toNat))])) rfl (by rw [hml]; rfl) (argsL := [(.long qq), (.int kk)]) (rest := [(.int (f kk.toInt.toNat))]) (lenOf pd_0 rfl) rfl (by show 2 * 0 + _ ≤ _; exact Nat.le_of_eq rfl) (hb hby d_method_5_code_11) (fun _ _ => ⟨rfl, e0, (by decide : 0 + 0 ≤ _), (by decide : 0 + 0 ≤ _)⟩)
    dsimp only [Pt.U, Pt.locs, Pt.cells, Pt.slots] at X2 l2 y2 z2 st2 hQ2
    subst l2 y2 z2
    obtain ⟨rfl, Nq2, eh2⟩ := hQ2
    have N2 := Fr.app N0 Nq2
    refine own_by (st2) ?_
    show own_Go p.tables e below (T2.setTop (mkF m 14 #[.val (.ref a), .val (.int kk), .val (.long qq), .second] [(.int (own_exp qq kk)), (.int (f kk.toInt.toNat))])) _
    refine own_by (fun _ kt => XS.icmpNo X2.here hx rfl (hb hby d_method_5_code_14) rfl (teq (hc (own_ltn hz hk hc3_1) : (f kk.toInt.toNat) = (own_exp qq kk))).2 kt) ?_
    show own_Go p.tables e below (T2.setTop (mkF m 17 #[.val (.ref a), .val (.int kk), .val (.long qq), .second] [])) _
    refine own_by (fun _ kt => XS.iconst X2.here hx rfl (hb hby d_method_5_code_17) kt) ?_
    show own_Go p.tables e below (T2.setTop (mkF m 18 #[.val (.ref a), .val (.int kk), .val (.long qq), .second] [(.int (1 : Int32))])) _
    refine own_by (fun _ kt => XS.goto X2.here hx rfl (pc0 := 18) (pc' := 22) rfl (hb hby d_method_5_code_18) (by decide) (by decide) kt) ?_
    show own_Go p.tables e below (T2.setTop (mkF m 22 #[.val (.ref a), .val (.int kk), .val (.long qq), .second] [(.int (1 : Int32))])) _
    exact own_retN X2 hx (t := .boolean) Bd.returns hlk (by simp) (hb hby d_method_5_code_22) ⟨rfl, N2, eh2⟩ (by decide) (by decide)
  · refine own_by (fun _ kt => XS.icmpYes X0.here hx rfl (pc0 := 3) (pc' := 23) rfl (hb hby d_method_5_code_3) rfl (flt hc3_1).2.1 (by decide) (by decide) kt) ?_
    show own_Go p.tables e below (s₁.setTop (mkF m 23 #[.val (.ref a), .val (.int kk), .val (.long qq), .second] [])) _
    refine own_by (fun _ kt => XS.iconst X0.here hx rfl (hb hby d_method_5_code_23) kt) ?_
    show own_Go p.tables e below (s₁.setTop (mkF m 24 #[.val (.ref a), .val (.int kk), .val (.long qq), .second] [(.int (1 : Int32))])) _
    exact own_retN X0 hx (t := .boolean) Bd.returns hlk (by simp) (hb hby d_method_5_code_24) ⟨rfl, N0, e0⟩ (by decide) (by decide)
theorem own_nine (p : Int32) : ((p &&& 2147483647) % 9).toInt = (((p &&& 2147483647) % 9).toInt.toNat : Int) ∧ ((p &&& 2147483647) % 9).toInt.toNat ≤ 8 := by
  have h := own_rem31 p 9 (by decide)
  rw [show (9 : Int32).toInt = 9 from by decide] at h
  omega
theorem own_len {z : Int32} {n : Nat} (hz : z.toInt = n) (h8 : n ≤ 8) : ((((z * (8 : Int32)) + (5 : Int32)) - (1 : Int32)) / (5 : Int32)) = ((((8 : Int32) * z) + (4 : Int32)) / (5 : Int32)) := by
  have e : ((z * (8 : Int32)) + (5 : Int32)) - (1 : Int32) = ((8 : Int32) * z) + (4 : Int32) := by
    have e1 : ((z * (8 : Int32)) + (5 : Int32)).toInt = ((8 * n + 5 : Nat) : Int) := by
      rw [Int32.toInt_add, own_z8 hz h8, show (5 : Int32).toInt = 5 from by decide, own_bm32 (by omega) (by omega)]; omega
    have e2 : (((z * (8 : Int32)) + (5 : Int32)) - (1 : Int32)).toInt = ((8 * n + 4 : Nat) : Int) := by
      rw [Int32.toInt_sub, e1, show (1 : Int32).toInt = 1 from by decide, own_bm32 (by omega) (by omega)]; omega
    have e3 : ((8 : Int32) * z).toInt = ((8 * n : Nat) : Int) := by
      rw [Int32.toInt_mul, hz, show (8 : Int32).toInt = 8 from by decide, own_bm32 (by omega) (by omega)]; omega
    rw [← Int32.toInt_inj, e2, Int32.toInt_add, e3, show (4 : Int32).toInt = 4 from by decide, own_bm32 (by omega) (by omega)]; omega
  rw [e]
theorem own_puts (q : Int64) {n : Nat} (h8 : n ≤ 8) : ∀ j, j < n → (fun j => if j = (7 : Int32).toInt.toNat then own_byte q (7 : Int32) else (fun j => if j = (6 : Int32).toInt.toNat then own_byte q (6 : Int32) else (fun j => if j = (5 : Int32).toInt.toNat then own_byte q (5 : Int32) else (fun j => if j = (4 : Int32).toInt.toNat then own_byte q (4 : Int32) else (fun j => if j = (3 : Int32).toInt.toNat then own_byte q (3 : Int32) else (fun j => if j = (2 : Int32).toInt.toNat then own_byte q (2 : Int32) else (fun j => if j = (1 : Int32).toInt.toNat then own_byte q (1 : Int32) else (fun j => if j = (0 : Int32).toInt.toNat then own_byte q (0 : Int32) else (fun _ => (0 : Int32)) j) j) j) j) j) j) j) j) j = (fun j => own_byte q (Int32.ofNat j)) j := by
  intro j hj
  have h : j = 0 ∨ j = 1 ∨ j = 2 ∨ j = 3 ∨ j = 4 ∨ j = 5 ∨ j = 6 ∨ j = 7 := by omega
  rcases h with rfl | rfl | rfl | rfl | rfl | rfl | rfl | rfl <;> rfl
def own_isv (x : Int64) (n : Nat) (v : Int64) : Prop := ∀ t, t < 64 → v.toBitVec.getLsbD (63 - t) = (decide (t < 8 * n) && x.toBitVec.getLsbD (63 - t))
theorem own_v0 {x : Int64} {z : Int32} {n : Nat} (hz : z.toInt = n) (h8 : n ≤ 8) (h : z = 0) : own_isv x n 0 := by
  intro t ht
  have hn : n = 0 := by rw [h, show (0 : Int32).toInt = 0 from by decide] at hz; omega
  subst hn
  have e : (0 : Int64).toBitVec = 0#64 := rfl
  rw [e, BitVec.getLsbD_zero]
  simp
theorem own_v1 {x : Int64} {z : Int32} {n : Nat} (hz : z.toInt = n) (h8 : n ≤ 8) (h : ¬ z = 0) : own_isv x n (x &&& ((-1 : Int64) <<< (((64 : Int32) - ((8 : Int32) * z)) &&& 0x3f).toInt64)) := by
  have hn : n ≠ 0 := by
    intro q; subst q
    exact h (by rw [← Int32.toInt_inj, hz]; rfl)
  have hzz : z = Int32.ofNat n := by rw [← Int32.toInt_inj, hz, own_ofNat (by omega)]
  subst hzz
  have hh : n = 1 ∨ n = 2 ∨ n = 3 ∨ n = 4 ∨ n = 5 ∨ n = 6 ∨ n = 7 ∨ n = 8 := by omega
  intro t ht
  rcases hh with rfl | rfl | rfl | rfl | rfl | rfl | rfl | rfl
  all_goals
    show (x.toBitVec &&& _).getLsbD (63 - t) = _
    rw [BitVec.getLsbD_and, Bool.and_comm]
    congr 1
    revert t
    decide +kernel
def own_V5 (b : Nat → Bool) : Int32 := (if b 0 then 16 else 0) ||| (if b 1 then 8 else 0) ||| (if b 2 then 4 else 0) ||| (if b 3 then 2 else 0) ||| (if b 4 then 1 else 0)
theorem own_V5_congr {b b' : Nat → Bool} (h : ∀ s, s < 5 → b s = b' s) : own_V5 b = own_V5 b' := by
  unfold own_V5
  rw [h 0 (by decide), h 1 (by decide), h 2 (by decide), h 3 (by decide), h 4 (by decide)]
theorem own_w5v : ∀ t, t < 64 → own_w5 t = (if t % 5 = 0 then 16 else if t % 5 = 1 then 8 else if t % 5 = 2 then 4 else if t % 5 = 3 then 2 else 1) := by decide +kernel
theorem own_V5_or0 : ∀ b0 b1 b2 b3 b4 : Bool, nar .byte ((((if b0 then 16 else 0) ||| (if b1 then 8 else 0) ||| (if b2 then 4 else 0) ||| (if b3 then 2 else 0) ||| (if b4 then 1 else 0) : Int32) ||| 16).toInt8.toInt32) = ((16 ||| (if b1 then 8 else 0) ||| (if b2 then 4 else 0) ||| (if b3 then 2 else 0) ||| (if b4 then 1 else 0) : Int32)) := by decide
theorem own_V5_or1 : ∀ b0 b1 b2 b3 b4 : Bool, nar .byte ((((if b0 then 16 else 0) ||| (if b1 then 8 else 0) ||| (if b2 then 4 else 0) ||| (if b3 then 2 else 0) ||| (if b4 then 1 else 0) : Int32) ||| 8).toInt8.toInt32) = (((if b0 then 16 else 0) ||| 8 ||| (if b2 then 4 else 0) ||| (if b3 then 2 else 0) ||| (if b4 then 1 else 0) : Int32)) := by decide
theorem own_V5_or2 : ∀ b0 b1 b2 b3 b4 : Bool, nar .byte ((((if b0 then 16 else 0) ||| (if b1 then 8 else 0) ||| (if b2 then 4 else 0) ||| (if b3 then 2 else 0) ||| (if b4 then 1 else 0) : Int32) ||| 4).toInt8.toInt32) = (((if b0 then 16 else 0) ||| (if b1 then 8 else 0) ||| 4 ||| (if b3 then 2 else 0) ||| (if b4 then 1 else 0) : Int32)) := by decide
theorem own_V5_or3 : ∀ b0 b1 b2 b3 b4 : Bool, nar .byte ((((if b0 then 16 else 0) ||| (if b1 then 8 else 0) ||| (if b2 then 4 else 0) ||| (if b3 then 2 else 0) ||| (if b4 then 1 else 0) : Int32) ||| 2).toInt8.toInt32) = (((if b0 then 16 else 0) ||| (if b1 then 8 else 0) ||| (if b2 then 4 else 0) ||| 2 ||| (if b4 then 1 else 0) : Int32)) := by decide
theorem own_V5_or4 : ∀ b0 b1 b2 b3 b4 : Bool, nar .byte ((((if b0 then 16 else 0) ||| (if b1 then 8 else 0) ||| (if b2 then 4 else 0) ||| (if b3 then 2 else 0) ||| (if b4 then 1 else 0) : Int32) ||| 1).toInt8.toInt32) = (((if b0 then 16 else 0) ||| (if b1 then 8 else 0) ||| (if b2 then 4 else 0) ||| (if b3 then 2 else 0) ||| 1 : Int32)) := by decide
theorem own_V5_set (b : Nat → Bool) (s : Nat) (hs : s < 5) (w : Int32) (hw : w = if s = 0 then 16 else if s = 1 then 8 else if s = 2 then 4 else if s = 3 then 2 else 1) : nar .byte ((own_V5 b ||| w).toInt8.toInt32) = own_V5 (fun q => if q = s then true else b q) := by
  have h : s = 0 ∨ s = 1 ∨ s = 2 ∨ s = 3 ∨ s = 4 := by omega
  rcases h with rfl | rfl | rfl | rfl | rfl
  · rw [hw]; exact own_V5_or0 (b 0) (b 1) (b 2) (b 3) (b 4)
  · rw [hw]; exact own_V5_or1 (b 0) (b 1) (b 2) (b 3) (b 4)
  · rw [hw]; exact own_V5_or2 (b 0) (b 1) (b 2) (b 3) (b 4)
  · rw [hw]; exact own_V5_or3 (b 0) (b 1) (b 2) (b 3) (b 4)
  · rw [hw]; exact own_V5_or4 (b 0) (b 1) (b 2) (b 3) (b 4)
def own_b (f : Nat → Int32) (t : Nat) : Bool := decide (¬ (f (t / 8) &&& own_m8 t) = 0)
theorem own_G_V5 (f : Nat → Int32) (j : Nat) : ∀ t, t ≤ 64 → own_G f t j = own_V5 (fun s => decide (5 * j + s < t) && own_b f (5 * j + s)) := by
  intro t
  induction t with
  | zero =>
    intro _
    rw [show own_G f 0 j = own_V5 (fun _ => false) from rfl]
    exact own_V5_congr fun s _ => by simp
  | succ t ih =>
    intro ht
    have ih := ih (by omega)
    by_cases u : j = t / 5
    · by_cases q : (f (t / 8) &&& own_m8 t) = 0
      · rw [← own_G_no q, ih]
        refine own_V5_congr fun s hs => ?_
        by_cases e : 5 * j + s = t
        · have : own_b f (5 * j + s) = false := by rw [e]; simp [own_b, q]
          rw [this, Bool.and_false, Bool.and_false]
        · rw [show decide (5 * j + s < t) = decide (5 * j + s < t + 1) from decide_eq_decide.mpr (by omega)]
      · rw [← own_G_yes q rfl j, if_pos u, ← u, ih]
        rw [own_V5_set _ (t % 5) (by omega) _ (own_w5v t (by omega))]
        refine own_V5_congr fun s hs => ?_
        by_cases e : s = t % 5
        · have e' : 5 * j + s = t := by omega
          have : own_b f (5 * j + s) = true := by rw [e']; simp [own_b, q]
          rw [if_pos e, this, Bool.and_true, eq_comm, decide_eq_true_eq]; omega
        · rw [if_neg e, show decide (5 * j + s < t) = decide (5 * j + s < t + 1) from decide_eq_decide.mpr (by omega)]
    · have e : own_G f (t + 1) j = own_G f t j := if_neg u
      rw [e, ih]
      refine own_V5_congr fun s hs => ?_
      rw [show decide (5 * j + s < t) = decide (5 * j + s < t + 1) from decide_eq_decide.mpr (by omega)]
theorem own_m8v : ∀ t, t < 64 → (own_m8 t).toBitVec = BitVec.twoPow 32 (7 - t % 8) := by decide +kernel
theorem own_byteb (x : Int64) : ∀ k, k < 8 → ∀ i, i < 8 → (own_byte x (Int32.ofNat k)).toBitVec.getLsbD i = x.toBitVec.getLsbD (56 - 8 * k + i) := by
  intro k hk i hi
  have e : (own_byte x (Int32.ofNat k)).toBitVec = (((x.toBitVec >>> (56 - 8 * k)).signExtend 32).signExtend 8).signExtend 32 := by
    have e0 : ∀ y : Int32, nar .byte (y.toInt8.toInt32) = y.toInt8.toInt32 := fun y => by
      show y.toInt8.toInt32.toInt8.toInt32 = _
      rw [Int8.toInt8_toInt32]
    have h : k = 0 ∨ k = 1 ∨ k = 2 ∨ k = 3 ∨ k = 4 ∨ k = 5 ∨ k = 6 ∨ k = 7 := by omega
    rcases h with rfl | rfl | rfl | rfl | rfl | rfl | rfl | rfl <;> (unfold own_byte; rw [e0]; rfl)
  rw [e]
  simp only [BitVec.getLsbD_signExtend, show i < 32 from by omega, show i < 64 from by omega, hi, decide_true, Bool.true_and, if_true, BitVec.getLsbD_ushiftRight]
theorem own_bx (x : Int64) (t : Nat) (ht : t < 64) : own_b (fun j => own_byte x (Int32.ofNat j)) t = x.toBitVec.getLsbD (63 - t) := by
  have h1 := own_byteb x (t / 8) (by omega) (7 - t % 8) (by omega)
  rw [show 56 - 8 * (t / 8) + (7 - t % 8) = 63 - t from by omega] at h1
  rw [← h1]
  unfold own_b
  have h2 : ((own_byte x (Int32.ofNat (t / 8)) &&& own_m8 t) = 0) ↔ (own_byte x (Int32.ofNat (t / 8))).toBitVec.getLsbD (7 - t % 8) = false := by
    rw [← Int32.toBitVec_inj, Int32.toBitVec_and, own_m8v t ht, BitVec.and_twoPow]
    cases (own_byte x (Int32.ofNat (t / 8))).toBitVec.getLsbD (7 - t % 8)
    · simp
    · have q : ∀ i, i < 8 → ¬ BitVec.twoPow 32 i = 0#32 := by decide
      simpa using q (7 - t % 8) (by omega)
  cases h3 : (own_byte x (Int32.ofNat (t / 8))).toBitVec.getLsbD (7 - t % 8)
  · simp [h2.mpr h3]
  · have : ¬ (own_byte x (Int32.ofNat (t / 8)) &&& own_m8 t) = 0 := fun q => by rw [h2, h3] at q; cases q
    simp [this]
theorem own_V5_bits : ∀ b0 b1 b2 b3 b4 : Bool, ∀ i, i < 32 → ((((if b0 then 16 else 0) ||| (if b1 then 8 else 0) ||| (if b2 then 4 else 0) ||| (if b3 then 2 else 0) ||| (if b4 then 1 else 0) : Int32)).toBitVec.getLsbD i) = (if i = 4 then b0 else if i = 3 then b1 else if i = 2 then b2 else if i = 1 then b3 else if i = 0 then b4 else false) := by decide +kernel
theorem own_31 : ∀ i, i < 64 → (31 : Int64).toBitVec.getLsbD i = decide (i < 5) := by decide +kernel
theorem own_15 : ∀ i, i < 64 → (15 : Int64).toBitVec.getLsbD i = decide (i < 4) := by decide +kernel
theorem own_expV (v : Int64) (j : Nat) (hj : j < 13) : own_exp v (Int32.ofNat j) = own_V5 (fun s => decide (5 * j + s < 64) && v.toBitVec.getLsbD (63 - (5 * j + s))) := by
  by_cases h12 : j = 12
  · subst h12
    have e : own_exp v (Int32.ofNat 12) = (((v &&& (15 : Int64)) <<< ((1 : Int32) &&& 0x3f).toInt64).toInt32) := if_pos rfl
    rw [e, ← Int32.toBitVec_inj]
    show (((v.toBitVec &&& (15 : Int64).toBitVec) <<< (1 : Nat)).signExtend 32) = _
    apply BitVec.eq_of_getLsbD_eq
    intro i hi
    rw [show own_V5 (fun s => decide (5 * 12 + s < 64) && v.toBitVec.getLsbD (63 - (5 * 12 + s))) = ((if v.toBitVec.getLsbD 3 then 16 else 0) ||| (if v.toBitVec.getLsbD 2 then 8 else 0) ||| (if v.toBitVec.getLsbD 1 then 4 else 0) ||| (if v.toBitVec.getLsbD 0 then 2 else 0) ||| (if false then 1 else 0)) from rfl, own_V5_bits _ _ _ _ _ i hi]
    simp only [BitVec.getLsbD_signExtend, show i < 64 from by omega, if_true, BitVec.getLsbD_shiftLeft, BitVec.getLsbD_and, hi, decide_true, Bool.true_and]
    by_cases h0 : i = 0
    · subst h0; simp
    · rw [own_15 (i - 1) (by omega)]
      have hc : i = 1 ∨ i = 2 ∨ i = 3 ∨ i = 4 ∨ 5 ≤ i := by omega
      rcases hc with rfl | rfl | rfl | rfl | hc
      · simp
      · simp
      · simp
      · simp
      · have h1 : ¬ i - 1 < 4 := by omega
        have h2 : ¬ i = 4 := by omega
        have h3 : ¬ i = 3 := by omega
        have h4 : ¬ i = 2 := by omega
        have h5 : ¬ i = 1 := by omega
        simp [h0, h1, h2, h3, h4, h5]
  · have e : (own_exp v (Int32.ofNat j)).toBitVec = ((v.toBitVec >>> (59 - 5 * j)) &&& (31 : Int64).toBitVec).signExtend 32 := by
      have h : j = 0 ∨ j = 1 ∨ j = 2 ∨ j = 3 ∨ j = 4 ∨ j = 5 ∨ j = 6 ∨ j = 7 ∨ j = 8 ∨ j = 9 ∨ j = 10 ∨ j = 11 := by omega
      rcases h with rfl | rfl | rfl | rfl | rfl | rfl | rfl | rfl | rfl | rfl | rfl | rfl <;> (rw [own_exp, if_neg (by decide)]; rfl)
    rw [← Int32.toBitVec_inj, e]
    apply BitVec.eq_of_getLsbD_eq
    intro i hi
    rw [show own_V5 (fun s => decide (5 * j + s < 64) && v.toBitVec.getLsbD (63 - (5 * j + s))) = own_V5 (fun s => v.toBitVec.getLsbD (63 - (5 * j + s))) from own_V5_congr fun s hs => by rw [decide_eq_true (show 5 * j + s < 64 by omega), Bool.true_and]]
    unfold own_V5
    rw [own_V5_bits _ _ _ _ _ i hi]
    simp only [BitVec.getLsbD_signExtend, show i < 64 from by omega, if_true, BitVec.getLsbD_ushiftRight, BitVec.getLsbD_and, hi, decide_true, Bool.true_and]
    rw [own_31 i (by omega)]
    have hc : i = 0 ∨ i = 1 ∨ i = 2 ∨ i = 3 ∨ i = 4 ∨ 5 ≤ i := by omega
    rcases hc with rfl | rfl | rfl | rfl | rfl | hc
    · simp [show 63 - (5 * j + 4) = 59 - 5 * j + 0 from by omega]
    · simp [show 63 - (5 * j + 3) = 59 - 5 * j + 1 from by omega]
    · simp [show 63 - (5 * j + 2) = 59 - 5 * j + 2 from by omega]
    · simp [show 63 - (5 * j + 1) = 59 - 5 * j + 3 from by omega]
    · simp [show 63 - 5 * j = 59 - 5 * j + 4 from by omega]
    · have h0 : ¬ i = 0 := by omega
      have h1 : ¬ i < 5 := by omega
      have h2 : ¬ i = 4 := by omega
      have h3 : ¬ i = 3 := by omega
      have h4 : ¬ i = 2 := by omega
      have h5 : ¬ i = 1 := by omega
      simp [h0, h1, h2, h3, h4, h5]
theorem own_final {x v : Int64} {n j : Nat} (hv : own_isv x n v) (h8 : n ≤ 8) (hj : j < (8 * n + 4) / 5) : own_G (fun j => own_byte x (Int32.ofNat j)) (8 * n) j = own_exp v (Int32.ofNat j) := by
  rw [own_G_V5 _ j (8 * n) (by omega), own_expV v j (by omega)]
  refine own_V5_congr fun s hs => ?_
  by_cases h : 5 * j + s < 64
  · rw [own_bx x _ h, hv _ h, decide_eq_true h, Bool.true_and]
  · rw [decide_eq_false h, decide_eq_false (by omega), Bool.false_and, Bool.false_and]
theorem pd_1 : parseMethodDescriptor "([BIJ)V" = some ⟨[(.array .byte), .int, .long], none⟩ := by decide +kernel
theorem pd_2 : parseMethodDescriptor "([B)[B" = some ⟨[(.array .byte)], some (.array .byte)⟩ := by decide +kernel
theorem pd_3 : parseMethodDescriptor "([BIJ)Z" = some ⟨[(.array .byte), .int, .long], some .boolean⟩ := by decide +kernel
theorem ef_5 (m : MethodId) (p0 : Int32) (q1 : Int64) : entryFrame m #[(.int p0), (.long q1)] maxLocals = mkF m 0 #[.val (.int p0), .val (.long q1), .second, .unset, .unset, .unset, .unset, .unset, .unset] [] := by first | (simp [entryFrame, mkF, argsToLocals, Value.category, maxLocals]; done) | rfl
def Q_rm_law (Z : State) (p0 : Int32) (q1 : Int64)  (h0 : Heap) (n0 : Nat) (v : Option Value) (h : Heap) (L : List Loc) : Prop := v = some (.int (1 : Int32)) ∧ Fr n0 L
set_option maxRecDepth 65536 in
set_option maxHeartbeats 40000000 in
theorem rm_law (l : Launch) (Z : State) (a0 : Array Value) (hw : ∀ d ∈ tables_1, d.before a0 Z = true) (ws : List Jvm.Cond) (p0 : Int32) (q1 : Int64)  (h0 : Heap) (n0 : Nat) (Z0 : n0 ≤ h0.size)  :
    MetFree l x (head1 (Jvm.Cond.code x code maxLocals ret :: ws) room_1) (fun av_ U => av_ = #[(.int p0), (.long q1)] ∧ Z.Warmed39 U.vm ∧ U.heap = h0) (fun _ _ _ _ _ => True) (fun _ U o U' => ∃ v L, o = .returned v ∧ Q_rm_law Z p0 q1 h0 n0 v U'.heap L ∧ FrameEnd U o U' L 16 128) := by
  refine MetFree.of_bodySF (plainFor_of_name pn_0) hisR ?_
  intro p e s m args below meth c s₁ Bd hml0 hP hK
  obtain ⟨rfl, hZ, hh⟩ := hP
  have hx := Bd.exec
  have hby := Bd.bytes
  have hml : c.maxLocals = 9 := hml0
  have hown : s.vm.findClass "com/example/relampago/relampago/bolt11/Bech32GroupsPinLaw" = some m.cls := findClass_of_methodNamed Bd.named
  have hnm := (name_of_methodNamed Bd.named Bd.method).1
  have hlk : meth.locks = false := BodyLoose.notSynchronized Bd
  have X0 : Stand p l e room_1 s m #[(.int p0), (.long q1)] below meth c s₁ [] 0 0 := Stand.of_body Bd
  have e0 : s₁.heap = h0 := by rw [← hh, Bd.state]; rfl
  have N0 := Fr.nil n0
  refine own_by (fun _ kt => castTop (ef_5 m p0 q1) kt) (R := own_R s (Q_rm_law Z p0 q1 h0 n0) 16 128) ?_
  show own_Go p.tables e below (s₁.setTop (mkF m 0 #[.val (.int p0), .val (.long q1), .second, .unset, .unset, .unset, .unset, .unset, .unset] [])) _
  refine own_by (fun _ kt => XS.iloadN X0.here hx rfl (hb hby at_0) rfl kt) ?_
  show own_Go p.tables e below (s₁.setTop (mkF m 1 #[.val (.int p0), .val (.long q1), .second, .unset, .unset, .unset, .unset, .unset, .unset] [(.int p0)])) _
  refine own_by (X0.ldcInt hx hown (mvT hZ (hw _ (List.mem_of_getElem? (i := 0) rfl))) (g := (mkF m 1 #[.val (.int p0), .val (.long q1), .second, .unset, .unset, .unset, .unset, .unset, .unset] [(.int p0)])) rfl (hb hby at_1)) ?_
  show own_Go p.tables e below (s₁.setTop (mkF m 3 #[.val (.int p0), .val (.long q1), .second, .unset, .unset, .unset, .unset, .unset, .unset] [(.int (2147483647 : Int32)), (.int p0)])) _
  refine own_by (fun _ kt => XS.iand X0.here hx rfl (hb hby at_3) rfl kt) ?_
  show own_Go p.tables e below (s₁.setTop (mkF m 4 #[.val (.int p0), .val (.long q1), .second, .unset, .unset, .unset, .unset, .unset, .unset] [(.int (p0 &&& (2147483647 : Int32)))])) _
  refine own_by (fun _ kt => XS.bipush X0.here hx rfl (hb hby at_4) kt) ?_
  show own_Go p.tables e below (s₁.setTop (mkF m 6 #[.val (.int p0), .val (.long q1), .second, .unset, .unset, .unset, .unset, .unset, .unset] [(.int (9 : Int32)), (.int (p0 &&& (2147483647 : Int32)))])) _
  refine own_by (fun _ kt => iremM X0 hx rfl (hb hby at_6) rfl (by decide) kt) ?_
  show own_Go p.tables e below (s₁.setTop (mkF m 7 #[.val (.int p0), .val (.long q1), .second, .unset, .unset, .unset, .unset, .unset, .unset] [(.int ((p0 &&& (2147483647 : Int32)) % (9 : Int32)))])) _
  obtain ⟨hz, h8⟩ := own_nine p0
  generalize hn_ : ((p0 &&& (2147483647 : Int32)) % (9 : Int32)).toInt.toNat = n at hz h8
  generalize ((p0 &&& (2147483647 : Int32)) % (9 : Int32)) = z at hz ⊢
  show own_Go p.tables e below (s₁.setTop (mkF m 7 #[.val (.int p0), .val (.long q1), .second, .unset, .unset, .unset, .unset, .unset, .unset] [(.int z)])) _
  refine own_by (fun _ kt => XS.istoreN X0.here hx rfl (hb hby at_7) rfl (l' := #[.val (.int p0), .val (.long q1), .second, .val (.int z), .unset, .unset, .unset, .unset, .unset]) rfl kt) ?_
  show own_Go p.tables e below (s₁.setTop (mkF m 8 #[.val (.int p0), .val (.long q1), .second, .val (.int z), .unset, .unset, .unset, .unset, .unset] [])) _
  refine own_by (fun _ kt => XS.iloadN X0.here hx rfl (hb hby at_8) rfl kt) ?_
  show own_Go p.tables e below (s₁.setTop (mkF m 9 #[.val (.int p0), .val (.long q1), .second, .val (.int z), .unset, .unset, .unset, .unset, .unset] [(.int z)])) _
  obtain ⟨T1, h1, k1, X1, e1, E1, A1, st1⟩ := newP X0 hx hZ (hw _ (List.mem_of_getElem? (i := 1) rfl)) e0 (g := (mkF m 9 #[.val (.int p0), .val (.long q1), .second, .val (.int z), .unset, .unset, .unset, .unset, .unset] [(.int z)])) rfl (hb hby at_9) rfl (own_neg hz) (cap := 8) (own_cap hz h8) (by decide) (by decide) (by decide)
  obtain ⟨b1, g1⟩ : ∃ z, z = h0.size := ⟨_, rfl⟩
  rw [← g1] at A1 st1
  have gn_b1 : n0 ≤ b1 := Nat.le_trans Z0 (Nat.le_of_eq g1.symm)
  have Zs1 : n0 ≤ h1.size := Nat.le_trans Z0 E1.1
  have f2 : own_Arf Z h1 b1 k1 .byte n (fun _ => (0 : Int32)) := own_Arf.new A1 hz
  refine own_by st1 ?_
  show own_Go p.tables e below (T1.setTop (mkF m 11 #[.val (.int p0), .val (.long q1), .second, .val (.int z), .unset, .unset, .unset, .unset, .unset] [(.ref b1)])) _
  refine own_by (fun _ kt => XS.astore X1.here hx rfl (hb hby at_11) rfl rfl (l' := #[.val (.int p0), .val (.long q1), .second, .val (.int z), .val (.ref b1), .unset, .unset, .unset, .unset]) rfl kt) ?_
  show own_Go p.tables e below (T1.setTop (mkF m 13 #[.val (.int p0), .val (.long q1), .second, .val (.int z), .val (.ref b1), .unset, .unset, .unset, .unset] [])) _
  refine own_by (fun _ kt => XS.aload X1.here hx rfl (hb hby at_13) rfl rfl kt) ?_
  show own_Go p.tables e below (T1.setTop (mkF m 15 #[.val (.int p0), .val (.long q1), .second, .val (.int z), .val (.ref b1), .unset, .unset, .unset, .unset] [(.ref b1)])) _
  refine own_by (fun _ kt => XS.iconst X1.here hx rfl (hb hby at_15) kt) ?_
  show own_Go p.tables e below (T1.setTop (mkF m 16 #[.val (.int p0), .val (.long q1), .second, .val (.int z), .val (.ref b1), .unset, .unset, .unset, .unset] [(.int (0 : Int32)), (.ref b1)])) _
  refine own_by (fun _ kt => XS.lloadN X1.here hx rfl (hb hby at_16) rfl kt) ?_
  show own_Go p.tables e below (T1.setTop (mkF m 17 #[.val (.int p0), .val (.long q1), .second, .val (.int z), .val (.ref b1), .unset, .unset, .unset, .unset] [(.long q1), (.int (0 : Int32)), (.ref b1)])) _
  obtain ⟨_, _, ⟨T3, L3, k3, n3⟩, -, X3, ⟨Lc3, hQ3, l3, y3, z3⟩, st3⟩ := Jvm.LawKit.callS X1 hx (y := (⟨"com/example/relampago/relampago/bolt11/Bech32GroupsPinLaw", "put", "([BIJ)V"⟩ : MethodName)) hown (mvT hZ (hw _ (List.mem_of_getElem? (i := 2) rfl))) (mvT hZ (hw _ (List.mem_of_getElem? (i := 3) rfl))) (mvT hZ (hw _ (List.mem_of_getElem? (i := 4) rfl))) (mvT hZ (hw _ (List.mem_of_getElem? (i := 5) rfl))) (by decide) (backOf (W := 0) (rm_put l Z a0 hw [] b1 (0 : Int32) q1 (k1) (n) ((fun _ => (0 : Int32))) (z) h1 n0 Zs1 f2 hz gn_b1 (by decide)) hZ (hw _ (List.mem_of_getElem? (i := 5) rfl)) (hw _ (List.mem_of_getElem? (i := 4) rfl)) (by decide) (by decide)) (g := (mkF m 17 #[.val (.int p0), .val (.long q1), .second, .val (.int z), .val (.ref b1), .unset, .unset, .unset, .unset] [(.long q1), (.int (0 : Int32)), (.ref b1)])) rfl (by rw [hml]; rfl) (argsL := [(.ref b1), (.int (0 : Int32)), (.long q1)]) (rest := []) (lenOf pd_1 rfl) rfl (by show 2 * 0 + _ ≤ _; exact Nat.le_of_eq rfl) (hb hby at_17) (fun _ _ => ⟨rfl, e1, (by decide : 1 + 0 ≤ _), (by decide : 8 + 0 ≤ _)⟩)
  dsimp only [Pt.U, Pt.locs, Pt.cells, Pt.slots] at X3 l3 y3 z3 st3 hQ3
  subst l3 y3 z3
  obtain ⟨rfl, Nq3, K3, f3_0⟩ := hQ3
  have Zs3 : n0 ≤ T3.heap.size := Nat.le_trans Zs1 K3.1
  have N3 := Fr.app N0 Nq3
  refine own_by (st3) ?_
  show own_Go p.tables e below (T3.setTop (mkF m 20 #[.val (.int p0), .val (.long q1), .second, .val (.int z), .val (.ref b1), .unset, .unset, .unset, .unset] [])) _
  refine own_by (fun _ kt => XS.aload X3.here hx rfl (hb hby at_20) rfl rfl kt) ?_
  show own_Go p.tables e below (T3.setTop (mkF m 22 #[.val (.int p0), .val (.long q1), .second, .val (.int z), .val (.ref b1), .unset, .unset, .unset, .unset] [(.ref b1)])) _
  refine own_by (fun _ kt => XS.iconst X3.here hx rfl (hb hby at_22) kt) ?_
  show own_Go p.tables e below (T3.setTop (mkF m 23 #[.val (.int p0), .val (.long q1), .second, .val (.int z), .val (.ref b1), .unset, .unset, .unset, .unset] [(.int (1 : Int32)), (.ref b1)])) _
  refine own_by (fun _ kt => XS.lloadN X3.here hx rfl (hb hby at_23) rfl kt) ?_
  show own_Go p.tables e below (T3.setTop (mkF m 24 #[.val (.int p0), .val (.long q1), .second, .val (.int z), .val (.ref b1), .unset, .unset, .unset, .unset] [(.long q1), (.int (1 : Int32)), (.ref b1)])) _
  obtain ⟨_, _, ⟨T4, L4, k4, n4⟩, -, X4, ⟨Lc4, hQ4, l4, y4, z4⟩, st4⟩ := Jvm.LawKit.callS X3 hx (y := (⟨"com/example/relampago/relampago/bolt11/Bech32GroupsPinLaw", "put", "([BIJ)V"⟩ : MethodName)) hown (mvT hZ (hw _ (List.mem_of_getElem? (i := 2) rfl))) (mvT hZ (hw _ (List.mem_of_getElem? (i := 3) rfl))) (mvT hZ (hw _ (List.mem_of_getElem? (i := 4) rfl))) (mvT hZ (hw _ (List.mem_of_getElem? (i := 5) rfl))) (by decide) (backOf (W := 0) (rm_put l Z a0 hw [] b1 (1 : Int32) q1 (k1) (n) ((fun j => if j = (0 : Int32).toInt.toNat then own_byte q1 (0 : Int32) else (fun _ => (0 : Int32)) j)) (z) T3.heap n0 Zs3 f3_0 hz gn_b1 (by decide)) hZ (hw _ (List.mem_of_getElem? (i := 5) rfl)) (hw _ (List.mem_of_getElem? (i := 4) rfl)) (by decide) (by decide)) (g := (mkF m 24 #[.val (.int p0), .val (.long q1), .second, .val (.int z), .val (.ref b1), .unset, .unset, .unset, .unset] [(.long q1), (.int (1 : Int32)), (.ref b1)])) rfl (by rw [hml]; rfl) (argsL := [(.ref b1), (.int (1 : Int32)), (.long q1)]) (rest := []) (lenOf pd_1 rfl) rfl (by show 2 * 0 + _ ≤ _; exact Nat.le_of_eq rfl) (hb hby at_24) (fun _ _ => ⟨rfl, rfl, (by decide : 1 + 0 ≤ _), (by decide : 8 + 0 ≤ _)⟩)
  dsimp only [Pt.U, Pt.locs, Pt.cells, Pt.slots] at X4 l4 y4 z4 st4 hQ4
  subst l4 y4 z4
  obtain ⟨rfl, Nq4, K4, f4_0⟩ := hQ4
  have Zs4 : n0 ≤ T4.heap.size := Nat.le_trans Zs3 K4.1
  have N4 := Fr.app N3 Nq4
  refine own_by (st4) ?_
  show own_Go p.tables e below (T4.setTop (mkF m 27 #[.val (.int p0), .val (.long q1), .second, .val (.int z), .val (.ref b1), .unset, .unset, .unset, .unset] [])) _
  refine own_by (fun _ kt => XS.aload X4.here hx rfl (hb hby at_27) rfl rfl kt) ?_
  show own_Go p.tables e below (T4.setTop (mkF m 29 #[.val (.int p0), .val (.long q1), .second, .val (.int z), .val (.ref b1), .unset, .unset, .unset, .unset] [(.ref b1)])) _
  refine own_by (fun _ kt => XS.iconst X4.here hx rfl (hb hby at_29) kt) ?_
  show own_Go p.tables e below (T4.setTop (mkF m 30 #[.val (.int p0), .val (.long q1), .second, .val (.int z), .val (.ref b1), .unset, .unset, .unset, .unset] [(.int (2 : Int32)), (.ref b1)])) _
  refine own_by (fun _ kt => XS.lloadN X4.here hx rfl (hb hby at_30) rfl kt) ?_
  show own_Go p.tables e below (T4.setTop (mkF m 31 #[.val (.int p0), .val (.long q1), .second, .val (.int z), .val (.ref b1), .unset, .unset, .unset, .unset] [(.long q1), (.int (2 : Int32)), (.ref b1)])) _
  obtain ⟨_, _, ⟨T5, L5, k5, n5⟩, -, X5, ⟨Lc5, hQ5, l5, y5, z5⟩, st5⟩ := Jvm.LawKit.callS X4 hx (y := (⟨"com/example/relampago/relampago/bolt11/Bech32GroupsPinLaw", "put", "([BIJ)V"⟩ : MethodName)) hown (mvT hZ (hw _ (List.mem_of_getElem? (i := 2) rfl))) (mvT hZ (hw _ (List.mem_of_getElem? (i := 3) rfl))) (mvT hZ (hw _ (List.mem_of_getElem? (i := 4) rfl))) (mvT hZ (hw _ (List.mem_of_getElem? (i := 5) rfl))) (by decide) (backOf (W := 0) (rm_put l Z a0 hw [] b1 (2 : Int32) q1 (k1) (n) ((fun j => if j = (1 : Int32).toInt.toNat then own_byte q1 (1 : Int32) else (fun j => if j = (0 : Int32).toInt.toNat then own_byte q1 (0 : Int32) else (fun _ => (0 : Int32)) j) j)) (z) T4.heap n0 Zs4 f4_0 hz gn_b1 (by decide)) hZ (hw _ (List.mem_of_getElem? (i := 5) rfl)) (hw _ (List.mem_of_getElem? (i := 4) rfl)) (by decide) (by decide)) (g := (mkF m 31 #[.val (.int p0), .val (.long q1), .second, .val (.int z), .val (.ref b1), .unset, .unset, .unset, .unset] [(.long q1), (.int (2 : Int32)), (.ref b1)])) rfl (by rw [hml]; rfl) (argsL := [(.ref b1), (.int (2 : Int32)), (.long q1)]) (rest := []) (lenOf pd_1 rfl) rfl (by show 2 * 0 + _ ≤ _; exact Nat.le_of_eq rfl) (hb hby at_31) (fun _ _ => ⟨rfl, rfl, (by decide : 1 + 0 ≤ _), (by decide : 8 + 0 ≤ _)⟩)
  dsimp only [Pt.U, Pt.locs, Pt.cells, Pt.slots] at X5 l5 y5 z5 st5 hQ5
  subst l5 y5 z5
  obtain ⟨rfl, Nq5, K5, f5_0⟩ := hQ5
  have Zs5 : n0 ≤ T5.heap.size := Nat.le_trans Zs4 K5.1
  have N5 := Fr.app N4 Nq5
  refine own_by (st5) ?_
  show own_Go p.tables e below (T5.setTop (mkF m 34 #[.val (.int p0), .val (.long q1), .second, .val (.int z), .val (.ref b1), .unset, .unset, .unset, .unset] [])) _
  refine own_by (fun _ kt => XS.aload X5.here hx rfl (hb hby at_34) rfl rfl kt) ?_
  show own_Go p.tables e below (T5.setTop (mkF m 36 #[.val (.int p0), .val (.long q1), .second, .val (.int z), .val (.ref b1), .unset, .unset, .unset, .unset] [(.ref b1)])) _
  refine own_by (fun _ kt => XS.iconst X5.here hx rfl (hb hby at_36) kt) ?_
  show own_Go p.tables e below (T5.setTop (mkF m 37 #[.val (.int p0), .val (.long q1), .second, .val (.int z), .val (.ref b1), .unset, .unset, .unset, .unset] [(.int (3 : Int32)), (.ref b1)])) _
  refine own_by (fun _ kt => XS.lloadN X5.here hx rfl (hb hby at_37) rfl kt) ?_
  show own_Go p.tables e below (T5.setTop (mkF m 38 #[.val (.int p0), .val (.long q1), .second, .val (.int z), .val (.ref b1), .unset, .unset, .unset, .unset] [(.long q1), (.int (3 : Int32)), (.ref b1)])) _
  obtain ⟨_, _, ⟨T6, L6, k6, n6⟩, -, X6, ⟨Lc6, hQ6, l6, y6, z6⟩, st6⟩ := Jvm.LawKit.callS X5 hx (y := (⟨"com/example/relampago/relampago/bolt11/Bech32GroupsPinLaw", "put", "([BIJ)V"⟩ : MethodName)) hown (mvT hZ (hw _ (List.mem_of_getElem? (i := 2) rfl))) (mvT hZ (hw _ (List.mem_of_getElem? (i := 3) rfl))) (mvT hZ (hw _ (List.mem_of_getElem? (i := 4) rfl))) (mvT hZ (hw _ (List.mem_of_getElem? (i := 5) rfl))) (by decide) (backOf (W := 0) (rm_put l Z a0 hw [] b1 (3 : Int32) q1 (k1) (n) ((fun j => if j = (2 : Int32).toInt.toNat then own_byte q1 (2 : Int32) else (fun j => if j = (1 : Int32).toInt.toNat then own_byte q1 (1 : Int32) else (fun j => if j = (0 : Int32).toInt.toNat then own_byte q1 (0 : Int32) else (fun _ => (0 : Int32)) j) j) j)) (z) T5.heap n0 Zs5 f5_0 hz gn_b1 (by decide)) hZ (hw _ (List.mem_of_getElem? (i := 5) rfl)) (hw _ (List.mem_of_getElem? (i := 4) rfl)) (by decide) (by decide)) (g := (mkF m 38 #[.val (.int p0), .val (.long q1), .second, .val (.int z), .val (.ref b1), .unset, .unset, .unset, .unset] [(.long q1), (.int (3 : Int32)), (.ref b1)])) rfl (by rw [hml]; rfl) (argsL := [(.ref b1), (.int (3 : Int32)), (.long q1)]) (rest := []) (lenOf pd_1 rfl) rfl (by show 2 * 0 + _ ≤ _; exact Nat.le_of_eq rfl) (hb hby at_38) (fun _ _ => ⟨rfl, rfl, (by decide : 1 + 0 ≤ _), (by decide : 8 + 0 ≤ _)⟩)
  dsimp only [Pt.U, Pt.locs, Pt.cells, Pt.slots] at X6 l6 y6 z6 st6 hQ6
  subst l6 y6 z6
  obtain ⟨rfl, Nq6, K6, f6_0⟩ := hQ6
  have Zs6 : n0 ≤ T6.heap.size := Nat.le_trans Zs5 K6.1
  have N6 := Fr.app N5 Nq6
  refine own_by (st6) ?_
  show own_Go p.tables e below (T6.setTop (mkF m 41 #[.val (.int p0), .val (.long q1), .second, .val (.int z), .val (.ref b1), .unset, .unset, .unset, .unset] [])) _
  refine own_by (fun _ kt => XS.aload X6.here hx rfl (hb hby at_41) rfl rfl kt) ?_
  show own_Go p.tables e below (T6.setTop (mkF m 43 #[.val (.int p0), .val (.long q1), .second, .val (.int z), .val (.ref b1), .unset, .unset, .unset, .unset] [(.ref b1)])) _
  refine own_by (fun _ kt => XS.iconst X6.here hx rfl (hb hby at_43) kt) ?_
  show own_Go p.tables e below (T6.setTop (mkF m 44 #[.val (.int p0), .val (.long q1), .second, .val (.int z), .val (.ref b1), .unset, .unset, .unset, .unset] [(.int (4 : Int32)), (.ref b1)])) _
  refine own_by (fun _ kt => XS.lloadN X6.here hx rfl (hb hby at_44) rfl kt) ?_
  show own_Go p.tables e below (T6.setTop (mkF m 45 #[.val (.int p0), .val (.long q1), .second, .val (.int z), .val (.ref b1), .unset, .unset, .unset, .unset] [(.long q1), (.int (4 : Int32)), (.ref b1)])) _
  obtain ⟨_, _, ⟨T7, L7, k7, n7⟩, -, X7, ⟨Lc7, hQ7, l7, y7, z7⟩, st7⟩ := Jvm.LawKit.callS X6 hx (y := (⟨"com/example/relampago/relampago/bolt11/Bech32GroupsPinLaw", "put", "([BIJ)V"⟩ : MethodName)) hown (mvT hZ (hw _ (List.mem_of_getElem? (i := 2) rfl))) (mvT hZ (hw _ (List.mem_of_getElem? (i := 3) rfl))) (mvT hZ (hw _ (List.mem_of_getElem? (i := 4) rfl))) (mvT hZ (hw _ (List.mem_of_getElem? (i := 5) rfl))) (by decide) (backOf (W := 0) (rm_put l Z a0 hw [] b1 (4 : Int32) q1 (k1) (n) ((fun j => if j = (3 : Int32).toInt.toNat then own_byte q1 (3 : Int32) else (fun j => if j = (2 : Int32).toInt.toNat then own_byte q1 (2 : Int32) else (fun j => if j = (1 : Int32).toInt.toNat then own_byte q1 (1 : Int32) else (fun j => if j = (0 : Int32).toInt.toNat then own_byte q1 (0 : Int32) else (fun _ => (0 : Int32)) j) j) j) j)) (z) T6.heap n0 Zs6 f6_0 hz gn_b1 (by decide)) hZ (hw _ (List.mem_of_getElem? (i := 5) rfl)) (hw _ (List.mem_of_getElem? (i := 4) rfl)) (by decide) (by decide)) (g := (mkF m 45 #[.val (.int p0), .val (.long q1), .second, .val (.int z), .val (.ref b1), .unset, .unset, .unset, .unset] [(.long q1), (.int (4 : Int32)), (.ref b1)])) rfl (by rw [hml]; rfl) (argsL := [(.ref b1), (.int (4 : Int32)), (.long q1)]) (rest := []) (lenOf pd_1 rfl) rfl (by show 2 * 0 + _ ≤ _; exact Nat.le_of_eq rfl) (hb hby at_45) (fun _ _ => ⟨rfl, rfl, (by decide : 1 + 0 ≤ _), (by decide : 8 + 0 ≤ _)⟩)
  dsimp only [Pt.U, Pt.locs, Pt.cells, Pt.slots] at X7 l7 y7 z7 st7 hQ7
  subst l7 y7 z7
  obtain ⟨rfl, Nq7, K7, f7_0⟩ := hQ7
  have Zs7 : n0 ≤ T7.heap.size := Nat.le_trans Zs6 K7.1
  have N7 := Fr.app N6 Nq7
  refine own_by (st7) ?_
  show own_Go p.tables e below (T7.setTop (mkF m 48 #[.val (.int p0), .val (.long q1), .second, .val (.int z), .val (.ref b1), .unset, .unset, .unset, .unset] [])) _
  refine own_by (fun _ kt => XS.aload X7.here hx rfl (hb hby at_48) rfl rfl kt) ?_
  show own_Go p.tables e below (T7.setTop (mkF m 50 #[.val (.int p0), .val (.long q1), .second, .val (.int z), .val (.ref b1), .unset, .unset, .unset, .unset] [(.ref b1)])) _
  refine own_by (fun _ kt => XS.iconst X7.here hx rfl (hb hby at_50) kt) ?_
  show own_Go p.tables e below (T7.setTop (mkF m 51 #[.val (.int p0), .val (.long q1), .second, .val (.int z), .val (.ref b1), .unset, .unset, .unset, .unset] [(.int (5 : Int32)), (.ref b1)])) _
  refine own_by (fun _ kt => XS.lloadN X7.here hx rfl (hb hby at_51) rfl kt) ?_
  show own_Go p.tables e below (T7.setTop (mkF m 52 #[.val (.int p0), .val (.long q1), .second, .val (.int z), .val (.ref b1), .unset, .unset, .unset, .unset] [(.long q1), (.int (5 : Int32)), (.ref b1)])) _
  obtain ⟨_, _, ⟨T8, L8, k8, n8⟩, -, X8, ⟨Lc8, hQ8, l8, y8, z8⟩, st8⟩ := Jvm.LawKit.callS X7 hx (y := (⟨"com/example/relampago/relampago/bolt11/Bech32GroupsPinLaw", "put", "([BIJ)V"⟩ : MethodName)) hown (mvT hZ (hw _ (List.mem_of_getElem? (i := 2) rfl))) (mvT hZ (hw _ (List.mem_of_getElem? (i := 3) rfl))) (mvT hZ (hw _ (List.mem_of_getElem? (i := 4) rfl))) (mvT hZ (hw _ (List.mem_of_getElem? (i := 5) rfl))) (by decide) (backOf (W := 0) (rm_put l Z a0 hw [] b1 (5 : Int32) q1 (k1) (n) ((fun j => if j = (4 : Int32).toInt.toNat then own_byte q1 (4 : Int32) else (fun j => if j = (3 : Int32).toInt.toNat then own_byte q1 (3 : Int32) else (fun j => if j = (2 : Int32).toInt.toNat then own_byte q1 (2 : Int32) else (fun j => if j = (1 : Int32).toInt.toNat then own_byte q1 (1 : Int32) else (fun j => if j = (0 : Int32).toInt.toNat then own_byte q1 (0 : Int32) else (fun _ => (0 : Int32)) j) j) j) j) j)) (z) T7.heap n0 Zs7 f7_0 hz gn_b1 (by decide)) hZ (hw _ (List.mem_of_getElem? (i := 5) rfl)) (hw _ (List.mem_of_getElem? (i := 4) rfl)) (by decide) (by decide)) (g := (mkF m 52 #[.val (.int p0), .val (.long q1), .second, .val (.int z), .val (.ref b1), .unset, .unset, .unset, .unset] [(.long q1), (.int (5 : Int32)), (.ref b1)])) rfl (by rw [hml]; rfl) (argsL := [(.ref b1), (.int (5 : Int32)), (.long q1)]) (rest := []) (lenOf pd_1 rfl) rfl (by show 2 * 0 + _ ≤ _; exact Nat.le_of_eq rfl) (hb hby at_52) (fun _ _ => ⟨rfl, rfl, (by decide : 1 + 0 ≤ _), (by decide : 8 + 0 ≤ _)⟩)
  dsimp only [Pt.U, Pt.locs, Pt.cells, Pt.slots] at X8 l8 y8 z8 st8 hQ8
  subst l8 y8 z8
  obtain ⟨rfl, Nq8, K8, f8_0⟩ := hQ8
  have Zs8 : n0 ≤ T8.heap.size := Nat.le_trans Zs7 K8.1
  have N8 := Fr.app N7 Nq8
  refine own_by (st8) ?_
  show own_Go p.tables e below (T8.setTop (mkF m 55 #[.val (.int p0), .val (.long q1), .second, .val (.int z), .val (.ref b1), .unset, .unset, .unset, .unset] [])) _
  refine own_by (fun _ kt => XS.aload X8.here hx rfl (hb hby at_55) rfl rfl kt) ?_
  show own_Go p.tables e below (T8.setTop (mkF m 57 #[.val (.int p0), .val (.long q1), .second, .val (.int z), .val (.ref b1), .unset, .unset, .unset, .unset] [(.ref b1)])) _
  refine own_by (fun _ kt => XS.bipush X8.here hx rfl (hb hby at_57) kt) ?_
  show own_Go p.tables e below (T8.setTop (mkF m 59 #[.val (.int p0), .val (.long q1), .second, .val (.int z), .val (.ref b1), .unset, .unset, .unset, .unset] [(.int (6 : Int32)), (.ref b1)])) _
  refine own_by (fun _ kt => XS.lloadN X8.here hx rfl (hb hby at_59) rfl kt) ?_
  show own_Go p.tables e below (T8.setTop (mkF m 60 #[.val (.int p0), .val (.long q1), .second, .val (.int z), .val (.ref b1), .unset, .unset, .unset, .unset] [(.long q1), (.int (6 : Int32)), (.ref b1)])) _
  obtain ⟨_, _, ⟨T9, L9, k9, n9⟩, -, X9, ⟨Lc9, hQ9, l9, y9, z9⟩, st9⟩ := Jvm.LawKit.callS X8 hx (y := (⟨"com/example/relampago/relampago/bolt11/Bech32GroupsPinLaw", "put", "([BIJ)V"⟩ : MethodName)) hown (mvT hZ (hw _ (List.mem_of_getElem? (i := 2) rfl))) (mvT hZ (hw _ (List.mem_of_getElem? (i := 3) rfl))) (mvT hZ (hw _ (List.mem_of_getElem? (i := 4) rfl))) (mvT hZ (hw _ (List.mem_of_getElem? (i := 5) rfl))) (by decide) (backOf (W := 0) (rm_put l Z a0 hw [] b1 (6 : Int32) q1 (k1) (n) ((fun j => if j = (5 : Int32).toInt.toNat then own_byte q1 (5 : Int32) else (fun j => if j = (4 : Int32).toInt.toNat then own_byte q1 (4 : Int32) else (fun j => if j = (3 : Int32).toInt.toNat then own_byte q1 (3 : Int32) else (fun j => if j = (2 : Int32).toInt.toNat then own_byte q1 (2 : Int32) else (fun j => if j = (1 : Int32).toInt.toNat then own_byte q1 (1 : Int32) else (fun j => if j = (0 : Int32).toInt.toNat then own_byte q1 (0 : Int32) else (fun _ => (0 : Int32)) j) j) j) j) j) j)) (z) T8.heap n0 Zs8 f8_0 hz gn_b1 (by decide)) hZ (hw _ (List.mem_of_getElem? (i := 5) rfl)) (hw _ (List.mem_of_getElem? (i := 4) rfl)) (by decide) (by decide)) (g := (mkF m 60 #[.val (.int p0), .val (.long q1), .second, .val (.int z), .val (.ref b1), .unset, .unset, .unset, .unset] [(.long q1), (.int (6 : Int32)), (.ref b1)])) rfl (by rw [hml]; rfl) (argsL := [(.ref b1), (.int (6 : Int32)), (.long q1)]) (rest := []) (lenOf pd_1 rfl) rfl (by show 2 * 0 + _ ≤ _; exact Nat.le_of_eq rfl) (hb hby at_60) (fun _ _ => ⟨rfl, rfl, (by decide : 1 + 0 ≤ _), (by decide : 8 + 0 ≤ _)⟩)
  dsimp only [Pt.U, Pt.locs, Pt.cells, Pt.slots] at X9 l9 y9 z9 st9 hQ9
  subst l9 y9 z9
  obtain ⟨rfl, Nq9, K9, f9_0⟩ := hQ9
  have Zs9 : n0 ≤ T9.heap.size := Nat.le_trans Zs8 K9.1
  have N9 := Fr.app N8 Nq9
  refine own_by (st9) ?_
  show own_Go p.tables e below (T9.setTop (mkF m 63 #[.val (.int p0), .val (.long q1), .second, .val (.int z), .val (.ref b1), .unset, .unset, .unset, .unset] [])) _
  refine own_by (fun _ kt => XS.aload X9.here hx rfl (hb hby at_63) rfl rfl kt) ?_
  show own_Go p.tables e below (T9.setTop (mkF m 65 #[.val (.int p0), .val (.long q1), .second, .val (.int z), .val (.ref b1), .unset, .unset, .unset, .unset] [(.ref b1)])) _
  refine own_by (fun _ kt => XS.bipush X9.here hx rfl (hb hby at_65) kt) ?_
  show own_Go p.tables e below (T9.setTop (mkF m 67 #[.val (.int p0), .val (.long q1), .second, .val (.int z), .val (.ref b1), .unset, .unset, .unset, .unset] [(.int (7 : Int32)), (.ref b1)])) _
  refine own_by (fun _ kt => XS.lloadN X9.here hx rfl (hb hby at_67) rfl kt) ?_
  show own_Go p.tables e below (T9.setTop (mkF m 68 #[.val (.int p0), .val (.long q1), .second, .val (.int z), .val (.ref b1), .unset, .unset, .unset, .unset] [(.long q1), (.int (7 : Int32)), (.ref b1)])) _
  obtain ⟨_, _, ⟨T10, L10, k10, n10⟩, -, X10, ⟨Lc10, hQ10, l10, y10, z10⟩, st10⟩ := Jvm.LawKit.callS X9 hx (y := (⟨"com/example/relampago/relampago/bolt11/Bech32GroupsPinLaw", "put", "([BIJ)V"⟩ : MethodName)) hown (mvT hZ (hw _ (List.mem_of_getElem? (i := 2) rfl))) (mvT hZ (hw _ (List.mem_of_getElem? (i := 3) rfl))) (mvT hZ (hw _ (List.mem_of_getElem? (i := 4) rfl))) (mvT hZ (hw _ (List.mem_of_getElem? (i := 5) rfl))) (by decide) (backOf (W := 0) (rm_put l Z a0 hw [] b1 (7 : Int32) q1 (k1) (n) ((fun j => if j = (6 : Int32).toInt.toNat then own_byte q1 (6 : Int32) else (fun j => if j = (5 : Int32).toInt.toNat then own_byte q1 (5 : Int32) else (fun j => if j = (4 : Int32).toInt.toNat then own_byte q1 (4 : Int32) else (fun j => if j = (3 : Int32).toInt.toNat then own_byte q1 (3 : Int32) else (fun j => if j = (2 : Int32).toInt.toNat then own_byte q1 (2 : Int32) else (fun j => if j = (1 : Int32).toInt.toNat then own_byte q1 (1 : Int32) else (fun j => if j = (0 : Int32).toInt.toNat then own_byte q1 (0 : Int32) else (fun _ => (0 : Int32)) j) j) j) j) j) j) j)) (z) T9.heap n0 Zs9 f9_0 hz gn_b1 (by decide)) hZ (hw _ (List.mem_of_getElem? (i := 5) rfl)) (hw _ (List.mem_of_getElem? (i := 4) rfl)) (by decide) (by decide)) (g := (mkF m 68 #[.val (.int p0), .val (.long q1), .second, .val (.int z), .val (.ref b1), .unset, .unset, .unset, .unset] [(.long q1), (.int (7 : Int32)), (.ref b1)])) rfl (by rw [hml]; rfl) (argsL := [(.ref b1), (.int (7 : Int32)), (.long q1)]) (rest := []) (lenOf pd_1 rfl) rfl (by show 2 * 0 + _ ≤ _; exact Nat.le_of_eq rfl) (hb hby at_68) (fun _ _ => ⟨rfl, rfl, (by decide : 1 + 0 ≤ _), (by decide : 8 + 0 ≤ _)⟩)
  dsimp only [Pt.U, Pt.locs, Pt.cells, Pt.slots] at X10 l10 y10 z10 st10 hQ10
  subst l10 y10 z10
  obtain ⟨rfl, Nq10, K10, f10_0⟩ := hQ10
  have Zs10 : n0 ≤ T10.heap.size := Nat.le_trans Zs9 K10.1
  have N10 := Fr.app N9 Nq10
  refine own_by (st10) ?_
  show own_Go p.tables e below (T10.setTop (mkF m 71 #[.val (.int p0), .val (.long q1), .second, .val (.int z), .val (.ref b1), .unset, .unset, .unset, .unset] [])) _
  have f11 : own_Arf Z T10.heap b1 k1 .byte n (fun j => own_byte q1 (Int32.ofNat j)) := f10_0.congr (own_puts q1 h8)
  refine own_by (fun _ kt => XS.iloadN X10.here hx rfl (hb hby at_71) rfl kt) ?_
  show own_Go p.tables e below (T10.setTop (mkF m 72 #[.val (.int p0), .val (.long q1), .second, .val (.int z), .val (.ref b1), .unset, .unset, .unset, .unset] [(.int z)])) _
  have J12 : ∀ (v : Int64) (hv : own_isv q1 n v) , own_Go p.tables e below (T10.setTop (mkF m 92 #[.val (.int p0), .val (.long q1), .second, .val (.int z), .val (.ref b1), .unset, .unset, .unset, .unset] [(.long v)])) (own_R s (Q_rm_law Z p0 q1 h0 n0) 16 128) := by
    intro v hv
    refine own_by (fun _ kt => XS.lstore X10.here hx rfl (hb hby at_92) rfl (l' := #[.val (.int p0), .val (.long q1), .second, .val (.int z), .val (.ref b1), .val (.long v), .second, .unset, .unset]) rfl kt) ?_
    show own_Go p.tables e below (T10.setTop (mkF m 94 #[.val (.int p0), .val (.long q1), .second, .val (.int z), .val (.ref b1), .val (.long v), .second, .unset, .unset] [])) _
    refine own_by (fun _ kt => XS.aload X10.here hx rfl (hb hby at_94) rfl rfl kt) ?_
    show own_Go p.tables e below (T10.setTop (mkF m 96 #[.val (.int p0), .val (.long q1), .second, .val (.int z), .val (.ref b1), .val (.long v), .second, .unset, .unset] [(.ref b1)])) _
    obtain ⟨_, _, ⟨T13, L13, k13, n13⟩, -, X13, ⟨Lc13, hQ13, l13, y13, z13⟩, st13⟩ := Jvm.LawKit.callS X10 hx (y := (⟨"com/example/relampago/relampago/bolt11/Bech32", "groups", "([B)[B"⟩ : MethodName)) hown (mvT hZ (hw _ (List.mem_of_getElem? (i := 6) rfl))) (mvT hZ (hw _ (List.mem_of_getElem? (i := 7) rfl))) (mvT hZ (hw _ (List.mem_of_getElem? (i := 8) rfl))) (mvT hZ (hw _ (List.mem_of_getElem? (i := 9) rfl))) (by decide) (backOf (W := 0) (rm_groups l Z a0 hw [] b1 (k1) (n) ((fun j => own_byte q1 (Int32.ofNat j))) (z) T10.heap n0 Zs10 f11 hz h8) hZ (hw _ (List.mem_of_getElem? (i := 9) rfl)) (hw _ (List.mem_of_getElem? (i := 8) rfl)) (by decide) (by decide)) (g := (mkF m 96 #[.val (.int p0), .val (.long q1), .second, .val (.int z), .val (.ref b1), .val (.long v), .second, .unset, .unset] [(.ref b1)])) rfl (by rw [hml]; rfl) (argsL := [(.ref b1)]) (rest := []) (lenOf pd_2 rfl) rfl (by show 2 * 0 + _ ≤ _; exact Nat.le_of_eq rfl) (hb hby at_96) (fun _ _ => ⟨rfl, rfl, (by decide : 1 + 1 ≤ _), (by decide : 8 + 13 ≤ _)⟩)
    dsimp only [Pt.U, Pt.locs, Pt.cells, Pt.slots] at X13 l13 y13 z13 st13 hQ13
    subst l13 y13 z13
    obtain ⟨b13, ck13, rfl, Nq13, K13, gn_b13, szq_b13, f13_0⟩ := hQ13
    have ne_b1_b13 : b1 ≠ b13 := Nat.ne_of_lt (Nat.lt_of_lt_of_le f11.lt szq_b13)
    have f14 := f11.keep K13 List.not_mem_nil
    have Zs13 : n0 ≤ T13.heap.size := Nat.le_trans Zs10 K13.1
    have N13 := Fr.app N10 Nq13
    refine own_by (st13) ?_
    show own_Go p.tables e below (T13.setTop (mkF m 99 #[.val (.int p0), .val (.long q1), .second, .val (.int z), .val (.ref b1), .val (.long v), .second, .unset, .unset] [(.ref b13)])) _
    refine own_by (fun _ kt => XS.astore X13.here hx rfl (hb hby at_99) rfl rfl (l' := #[.val (.int p0), .val (.long q1), .second, .val (.int z), .val (.ref b1), .val (.long v), .second, .val (.ref b13), .unset]) rfl kt) ?_
    show own_Go p.tables e below (T13.setTop (mkF m 101 #[.val (.int p0), .val (.long q1), .second, .val (.int z), .val (.ref b1), .val (.long v), .second, .val (.ref b13), .unset] [])) _
    refine own_by (fun _ kt => XS.aload X13.here hx rfl (hb hby at_101) rfl rfl kt) ?_
    show own_Go p.tables e below (T13.setTop (mkF m 103 #[.val (.int p0), .val (.long q1), .second, .val (.int z), .val (.ref b1), .val (.long v), .second, .val (.ref b13), .unset] [(.ref b13)])) _
    refine own_by (own_ulen X13 hx hZ rfl f13_0 (own_M hz h8) (g := (mkF m 103 #[.val (.int p0), .val (.long q1), .second, .val (.int z), .val (.ref b1), .val (.long v), .second, .val (.ref b13), .unset] [(.ref b13)])) rfl rfl (hb hby at_103)) ?_
    show own_Go p.tables e below (T13.setTop (mkF m 104 #[.val (.int p0), .val (.long q1), .second, .val (.int z), .val (.ref b1), .val (.long v), .second, .val (.ref b13), .unset] [(.int ((((z * (8 : Int32)) + (5 : Int32)) - (1 : Int32)) / (5 : Int32)))])) _
    refine own_by (fun _ kt => XS.bipush X13.here hx rfl (hb hby at_104) kt) ?_
    show own_Go p.tables e below (T13.setTop (mkF m 106 #[.val (.int p0), .val (.long q1), .second, .val (.int z), .val (.ref b1), .val (.long v), .second, .val (.ref b13), .unset] [(.int (8 : Int32)), (.int ((((z * (8 : Int32)) + (5 : Int32)) - (1 : Int32)) / (5 : Int32)))])) _
    refine own_by (fun _ kt => XS.iloadN X13.here hx rfl (hb hby at_106) rfl kt) ?_
    show own_Go p.tables e below (T13.setTop (mkF m 107 #[.val (.int p0), .val (.long q1), .second, .val (.int z), .val (.ref b1), .val (.long v), .second, .val (.ref b13), .unset] [(.int z), (.int (8 : Int32)), (.int ((((z * (8 : Int32)) + (5 : Int32)) - (1 : Int32)) / (5 : Int32)))])) _
    refine own_by (fun _ kt => XS.imul X13.here hx rfl (hb hby at_107) rfl kt) ?_
    show own_Go p.tables e below (T13.setTop (mkF m 108 #[.val (.int p0), .val (.long q1), .second, .val (.int z), .val (.ref b1), .val (.long v), .second, .val (.ref b13), .unset] [(.int ((8 : Int32) * z)), (.int ((((z * (8 : Int32)) + (5 : Int32)) - (1 : Int32)) / (5 : Int32)))])) _
    refine own_by (fun _ kt => XS.iconst X13.here hx rfl (hb hby at_108) kt) ?_
    show own_Go p.tables e below (T13.setTop (mkF m 109 #[.val (.int p0), .val (.long q1), .second, .val (.int z), .val (.ref b1), .val (.long v), .second, .val (.ref b13), .unset] [(.int (4 : Int32)), (.int ((8 : Int32) * z)), (.int ((((z * (8 : Int32)) + (5 : Int32)) - (1 : Int32)) / (5 : Int32)))])) _
    refine own_by (fun _ kt => XS.iadd X13.here hx rfl (hb hby at_109) rfl kt) ?_
    show own_Go p.tables e below (T13.setTop (mkF m 110 #[.val (.int p0), .val (.long q1), .second, .val (.int z), .val (.ref b1), .val (.long v), .second, .val (.ref b13), .unset] [(.int (((8 : Int32) * z) + (4 : Int32))), (.int ((((z * (8 : Int32)) + (5 : Int32)) - (1 : Int32)) / (5 : Int32)))])) _
    refine own_by (fun _ kt => XS.iconst X13.here hx rfl (hb hby at_110) kt) ?_
    show own_Go p.tables e below (T13.setTop (mkF m 111 #[.val (.int p0), .val (.long q1), .second, .val (.int z), .val (.ref b1), .val (.long v), .second, .val (.ref b13), .unset] [(.int (5 : Int32)), (.int (((8 : Int32) * z) + (4 : Int32))), (.int ((((z * (8 : Int32)) + (5 : Int32)) - (1 : Int32)) / (5 : Int32)))])) _
    refine own_by (fun _ kt => XS.idiv X13.here hx rfl (hb hby at_111) rfl (by decide) kt) ?_
    show own_Go p.tables e below (T13.setTop (mkF m 112 #[.val (.int p0), .val (.long q1), .second, .val (.int z), .val (.ref b1), .val (.long v), .second, .val (.ref b13), .unset] [(.int ((((8 : Int32) * z) + (4 : Int32)) / (5 : Int32))), (.int ((((z * (8 : Int32)) + (5 : Int32)) - (1 : Int32)) / (5 : Int32)))])) _
    refine own_by (fun _ kt => XS.icmpNo X13.here hx rfl (hb hby at_112) rfl (teq (own_len hz h8 : ((((z * (8 : Int32)) + (5 : Int32)) - (1 : Int32)) / (5 : Int32)) = ((((8 : Int32) * z) + (4 : Int32)) / (5 : Int32)))).2 kt) ?_
    show own_Go p.tables e below (T13.setTop (mkF m 115 #[.val (.int p0), .val (.long q1), .second, .val (.int z), .val (.ref b1), .val (.long v), .second, .val (.ref b13), .unset] [])) _
    refine own_by (fun _ kt => XS.iconst X13.here hx rfl (hb hby at_115) kt) ?_
    show own_Go p.tables e below (T13.setTop (mkF m 116 #[.val (.int p0), .val (.long q1), .second, .val (.int z), .val (.ref b1), .val (.long v), .second, .val (.ref b13), .unset] [(.int (1 : Int32))])) _
    refine own_by (fun _ kt => XS.goto X13.here hx rfl (pc0 := 116) (pc' := 120) rfl (hb hby at_116) (by decide) (by decide) kt) ?_
    show own_Go p.tables e below (T13.setTop (mkF m 120 #[.val (.int p0), .val (.long q1), .second, .val (.int z), .val (.ref b1), .val (.long v), .second, .val (.ref b13), .unset] [(.int (1 : Int32))])) _
    refine own_by (fun _ kt => XS.istore X13.here hx rfl (hb hby at_120) rfl (l' := #[.val (.int p0), .val (.long q1), .second, .val (.int z), .val (.ref b1), .val (.long v), .second, .val (.ref b13), .val (.int (1 : Int32))]) rfl kt) ?_
    show own_Go p.tables e below (T13.setTop (mkF m 122 #[.val (.int p0), .val (.long q1), .second, .val (.int z), .val (.ref b1), .val (.long v), .second, .val (.ref b13), .val (.int (1 : Int32))] [])) _
    refine own_by (fun _ kt => XS.iload X13.here hx rfl (hb hby at_122) rfl kt) ?_
    show own_Go p.tables e below (T13.setTop (mkF m 124 #[.val (.int p0), .val (.long q1), .second, .val (.int z), .val (.ref b1), .val (.long v), .second, .val (.ref b13), .val (.int (1 : Int32))] [(.int (1 : Int32))])) _
    refine own_by (fun _ kt => XS.ifNo X13.here hx rfl (hb hby at_124) rfl ((if0 _ _).trans (feq (by decide : ¬ ((1 : Int32) = (0 : Int32)))).1) kt) ?_
    show own_Go p.tables e below (T13.setTop (mkF m 127 #[.val (.int p0), .val (.long q1), .second, .val (.int z), .val (.ref b1), .val (.long v), .second, .val (.ref b13), .val (.int (1 : Int32))] [])) _
    refine own_by (fun _ kt => XS.aload X13.here hx rfl (hb hby at_127) rfl rfl kt) ?_
    show own_Go p.tables e below (T13.setTop (mkF m 129 #[.val (.int p0), .val (.long q1), .second, .val (.int z), .val (.ref b1), .val (.long v), .second, .val (.ref b13), .val (.int (1 : Int32))] [(.ref b13)])) _
    refine own_by (fun _ kt => XS.iconst X13.here hx rfl (hb hby at_129) kt) ?_
    show own_Go p.tables e below (T13.setTop (mkF m 130 #[.val (.int p0), .val (.long q1), .second, .val (.int z), .val (.ref b1), .val (.long v), .second, .val (.ref b13), .val (.int (1 : Int32))] [(.int (0 : Int32)), (.ref b13)])) _
    refine own_by (fun _ kt => XS.lload X13.here hx rfl (hb hby at_130) rfl kt) ?_
    show own_Go p.tables e below (T13.setTop (mkF m 132 #[.val (.int p0), .val (.long q1), .second, .val (.int z), .val (.ref b1), .val (.long v), .second, .val (.ref b13), .val (.int (1 : Int32))] [(.long v), (.int (0 : Int32)), (.ref b13)])) _
    obtain ⟨_, _, ⟨T15, L15, k15, n15⟩, -, X15, ⟨Lc15, hQ15, l15, y15, z15⟩, st15⟩ := Jvm.LawKit.callS X13 hx (y := (⟨"com/example/relampago/relampago/bolt11/Bech32GroupsPinLaw", "check", "([BIJ)Z"⟩ : MethodName)) hown (mvT hZ (hw _ (List.mem_of_getElem? (i := 10) rfl))) (mvT hZ (hw _ (List.mem_of_getElem? (i := 11) rfl))) (mvT hZ (hw _ (List.mem_of_getElem? (i := 4) rfl))) (mvT hZ (hw _ (List.mem_of_getElem? (i := 12) rfl))) (by decide) (backOf (W := 0) (rm_check l Z a0 hw [] b13 (0 : Int32) v (ck13) (((8 * n + 4) / 5)) ((own_G (fun j => own_byte q1 (Int32.ofNat j)) (8 * n))) (((((z * (8 : Int32)) + (5 : Int32)) - (1 : Int32)) / (5 : Int32))) T13.heap n0 Zs13 f13_0 (own_M hz h8) (by decide) (fun hlt => own_final (j := 0) hv h8 hlt)) hZ (hw _ (List.mem_of_getElem? (i := 12) rfl)) (hw _ (List.mem_of_getElem? (i := 4) rfl)) (by decide) (by decide)) (g := (mkF m 132 #[.val (.int p0), .val (.long q1), .second, .val (.int z), .val (.ref b1), .val (.long v), .second, .val (.ref b13), .val (.int (1 : Int32))] [(.long v), (.int (0 : Int32)), (.ref b13)])) rfl (by rw [hml]; rfl) (argsL := [(.ref b13), (.int (0 : Int32)), (.long v)]) (rest := []) (lenOf pd_3 rfl) rfl (by show 2 * 0 + _ ≤ _; exact Nat.le_of_eq rfl) (hb hby at_132) (fun _ _ => ⟨rfl, rfl, (by decide : 2 + 0 ≤ _), (by decide : 21 + 0 ≤ _)⟩)
    dsimp only [Pt.U, Pt.locs, Pt.cells, Pt.slots] at X15 l15 y15 z15 st15 hQ15
    subst l15 y15 z15
    obtain ⟨rfl, Nq15, eh15⟩ := hQ15
    have N15 := Fr.app N13 Nq15
    refine own_by (st15) ?_
    show own_Go p.tables e below (T15.setTop (mkF m 135 #[.val (.int p0), .val (.long q1), .second, .val (.int z), .val (.ref b1), .val (.long v), .second, .val (.ref b13), .val (.int (1 : Int32))] [(.int (1 : Int32))])) _
    refine own_by (fun _ kt => XS.ifNo X15.here hx rfl (hb hby at_135) rfl ((if0 _ _).trans (feq (by decide : ¬ ((1 : Int32) = (0 : Int32)))).1) kt) ?_
    show own_Go p.tables e below (T15.setTop (mkF m 138 #[.val (.int p0), .val (.long q1), .second, .val (.int z), .val (.ref b1), .val (.long v), .second, .val (.ref b13), .val (.int (1 : Int32))] [])) _
    refine own_by (fun _ kt => XS.aload X15.here hx rfl (hb hby at_138) rfl rfl kt) ?_
    show own_Go p.tables e below (T15.setTop (mkF m 140 #[.val (.int p0), .val (.long q1), .second, .val (.int z), .val (.ref b1), .val (.long v), .second, .val (.ref b13), .val (.int (1 : Int32))] [(.ref b13)])) _
    refine own_by (fun _ kt => XS.iconst X15.here hx rfl (hb hby at_140) kt) ?_
    show own_Go p.tables e below (T15.setTop (mkF m 141 #[.val (.int p0), .val (.long q1), .second, .val (.int z), .val (.ref b1), .val (.long v), .second, .val (.ref b13), .val (.int (1 : Int32))] [(.int (1 : Int32)), (.ref b13)])) _
    refine own_by (fun _ kt => XS.lload X15.here hx rfl (hb hby at_141) rfl kt) ?_
    show own_Go p.tables e below (T15.setTop (mkF m 143 #[.val (.int p0), .val (.long q1), .second, .val (.int z), .val (.ref b1), .val (.long v), .second, .val (.ref b13), .val (.int (1 : Int32))] [(.long v), (.int (1 : Int32)), (.ref b13)])) _
    obtain ⟨_, _, ⟨T16, L16, k16, n16⟩, -, X16, ⟨Lc16, hQ16, l16, y16, z16⟩, st16⟩ := Jvm.LawKit.callS X15 hx (y := (⟨"com/example/relampago/relampago/bolt11/Bech32GroupsPinLaw", "check", "([BIJ)Z"⟩ : MethodName)) hown (mvT hZ (hw _ (List.mem_of_getElem? (i := 10) rfl))) (mvT hZ (hw _ (List.mem_of_getElem? (i := 11) rfl))) (mvT hZ (hw _ (List.mem_of_getElem? (i := 4) rfl))) (mvT hZ (hw _ (List.mem_of_getElem? (i := 12) rfl))) (by decide) (backOf (W := 0) (rm_check l Z a0 hw [] b13 (1 : Int32) v (ck13) (((8 * n + 4) / 5)) ((own_G (fun j => own_byte q1 (Int32.ofNat j)) (8 * n))) (((((z * (8 : Int32)) + (5 : Int32)) - (1 : Int32)) / (5 : Int32))) T13.heap n0 Zs13 f13_0 (own_M hz h8) (by decide) (fun hlt => own_final (j := 1) hv h8 hlt)) hZ (hw _ (List.mem_of_getElem? (i := 12) rfl)) (hw _ (List.mem_of_getElem? (i := 4) rfl)) (by decide) (by decide)) (g := (mkF m 143 #[.val (.int p0), .val (.long q1), .second, .val (.int z), .val (.ref b1), .val (.long v), .second, .val (.ref b13), .val (.int (1 : Int32))] [(.long v), (.int (1 : Int32)), (.ref b13)])) rfl (by rw [hml]; rfl) (argsL := [(.ref b13), (.int (1 : Int32)), (.long v)]) (rest := []) (lenOf pd_3 rfl) rfl (by show 2 * 0 + _ ≤ _; exact Nat.le_of_eq rfl) (hb hby at_143) (fun _ _ => ⟨rfl, eh15, (by decide : 2 + 0 ≤ _), (by decide : 21 + 0 ≤ _)⟩)
    dsimp only [Pt.U, Pt.locs, Pt.cells, Pt.slots] at X16 l16 y16 z16 st16 hQ16
    subst l16 y16 z16
    obtain ⟨rfl, Nq16, eh16⟩ := hQ16
    have N16 := Fr.app N15 Nq16
    refine own_by (st16) ?_
    show own_Go p.tables e below (T16.setTop (mkF m 146 #[.val (.int p0), .val (.long q1), .second, .val (.int z), .val (.ref b1), .val (.long v), .second, .val (.ref b13), .val (.int (1 : Int32))] [(.int (1 : Int32))])) _
    refine own_by (fun _ kt => XS.ifNo X16.here hx rfl (hb hby at_146) rfl ((if0 _ _).trans (feq (by decide : ¬ ((1 : Int32) = (0 : Int32)))).1) kt) ?_
    show own_Go p.tables e below (T16.setTop (mkF m 149 #[.val (.int p0), .val (.long q1), .second, .val (.int z), .val (.ref b1), .val (.long v), .second, .val (.ref b13), .val (.int (1 : Int32))] [])) _
    refine own_by (fun _ kt => XS.aload X16.here hx rfl (hb hby at_149) rfl rfl kt) ?_
    show own_Go p.tables e below (T16.setTop (mkF m 151 #[.val (.int p0), .val (.long q1), .second, .val (.int z), .val (.ref b1), .val (.long v), .second, .val (.ref b13), .val (.int (1 : Int32))] [(.ref b13)])) _
    refine own_by (fun _ kt => XS.iconst X16.here hx rfl (hb hby at_151) kt) ?_
    show own_Go p.tables e below (T16.setTop (mkF m 152 #[.val (.int p0), .val (.long q1), .second, .val (.int z), .val (.ref b1), .val (.long v), .second, .val (.ref b13), .val (.int (1 : Int32))] [(.int (2 : Int32)), (.ref b13)])) _
    refine own_by (fun _ kt => XS.lload X16.here hx rfl (hb hby at_152) rfl kt) ?_
    show own_Go p.tables e below (T16.setTop (mkF m 154 #[.val (.int p0), .val (.long q1), .second, .val (.int z), .val (.ref b1), .val (.long v), .second, .val (.ref b13), .val (.int (1 : Int32))] [(.long v), (.int (2 : Int32)), (.ref b13)])) _
    obtain ⟨_, _, ⟨T17, L17, k17, n17⟩, -, X17, ⟨Lc17, hQ17, l17, y17, z17⟩, st17⟩ := Jvm.LawKit.callS X16 hx (y := (⟨"com/example/relampago/relampago/bolt11/Bech32GroupsPinLaw", "check", "([BIJ)Z"⟩ : MethodName)) hown (mvT hZ (hw _ (List.mem_of_getElem? (i := 10) rfl))) (mvT hZ (hw _ (List.mem_of_getElem? (i := 11) rfl))) (mvT hZ (hw _ (List.mem_of_getElem? (i := 4) rfl))) (mvT hZ (hw _ (List.mem_of_getElem? (i := 12) rfl))) (by decide) (backOf (W := 0) (rm_check l Z a0 hw [] b13 (2 : Int32) v (ck13) (((8 * n + 4) / 5)) ((own_G (fun j => own_byte q1 (Int32.ofNat j)) (8 * n))) (((((z * (8 : Int32)) + (5 : Int32)) - (1 : Int32)) / (5 : Int32))) T13.heap n0 Zs13 f13_0 (own_M hz h8) (by decide) (fun hlt => own_final (j := 2) hv h8 hlt)) hZ (hw _ (List.mem_of_getElem? (i := 12) rfl)) (hw _ (List.mem_of_getElem? (i := 4) rfl)) (by decide) (by decide)) (g := (mkF m 154 #[.val (.int p0), .val (.long q1), .second, .val (.int z), .val (.ref b1), .val (.long v), .second, .val (.ref b13), .val (.int (1 : Int32))] [(.long v), (.int (2 : Int32)), (.ref b13)])) rfl (by rw [hml]; rfl) (argsL := [(.ref b13), (.int (2 : Int32)), (.long v)]) (rest := []) (lenOf pd_3 rfl) rfl (by show 2 * 0 + _ ≤ _; exact Nat.le_of_eq rfl) (hb hby at_154) (fun _ _ => ⟨rfl, eh16, (by decide : 2 + 0 ≤ _), (by decide : 21 + 0 ≤ _)⟩)
    dsimp only [Pt.U, Pt.locs, Pt.cells, Pt.slots] at X17 l17 y17 z17 st17 hQ17
    subst l17 y17 z17
    obtain ⟨rfl, Nq17, eh17⟩ := hQ17
    have N17 := Fr.app N16 Nq17
    refine own_by (st17) ?_
    show own_Go p.tables e below (T17.setTop (mkF m 157 #[.val (.int p0), .val (.long q1), .second, .val (.int z), .val (.ref b1), .val (.long v), .second, .val (.ref b13), .val (.int (1 : Int32))] [(.int (1 : Int32))])) _
    refine own_by (fun _ kt => XS.ifNo X17.here hx rfl (hb hby at_157) rfl ((if0 _ _).trans (feq (by decide : ¬ ((1 : Int32) = (0 : Int32)))).1) kt) ?_
    show own_Go p.tables e below (T17.setTop (mkF m 160 #[.val (.int p0), .val (.long q1), .second, .val (.int z), .val (.ref b1), .val (.long v), .second, .val (.ref b13), .val (.int (1 : Int32))] [])) _
    refine own_by (fun _ kt => XS.aload X17.here hx rfl (hb hby at_160) rfl rfl kt) ?_
    show own_Go p.tables e below (T17.setTop (mkF m 162 #[.val (.int p0), .val (.long q1), .second, .val (.int z), .val (.ref b1), .val (.long v), .second, .val (.ref b13), .val (.int (1 : Int32))] [(.ref b13)])) _
    refine own_by (fun _ kt => XS.iconst X17.here hx rfl (hb hby at_162) kt) ?_
    show own_Go p.tables e below (T17.setTop (mkF m 163 #[.val (.int p0), .val (.long q1), .second, .val (.int z), .val (.ref b1), .val (.long v), .second, .val (.ref b13), .val (.int (1 : Int32))] [(.int (3 : Int32)), (.ref b13)])) _
    refine own_by (fun _ kt => XS.lload X17.here hx rfl (hb hby at_163) rfl kt) ?_
    show own_Go p.tables e below (T17.setTop (mkF m 165 #[.val (.int p0), .val (.long q1), .second, .val (.int z), .val (.ref b1), .val (.long v), .second, .val (.ref b13), .val (.int (1 : Int32))] [(.long v), (.int (3 : Int32)), (.ref b13)])) _
    obtain ⟨_, _, ⟨T18, L18, k18, n18⟩, -, X18, ⟨Lc18, hQ18, l18, y18, z18⟩, st18⟩ := Jvm.LawKit.callS X17 hx (y := (⟨"com/example/relampago/relampago/bolt11/Bech32GroupsPinLaw", "check", "([BIJ)Z"⟩ : MethodName)) hown (mvT hZ (hw _ (List.mem_of_getElem? (i := 10) rfl))) (mvT hZ (hw _ (List.mem_of_getElem? (i := 11) rfl))) (mvT hZ (hw _ (List.mem_of_getElem? (i := 4) rfl))) (mvT hZ (hw _ (List.mem_of_getElem? (i := 12) rfl))) (by decide) (backOf (W := 0) (rm_check l Z a0 hw [] b13 (3 : Int32) v (ck13) (((8 * n + 4) / 5)) ((own_G (fun j => own_byte q1 (Int32.ofNat j)) (8 * n))) (((((z * (8 : Int32)) + (5 : Int32)) - (1 : Int32)) / (5 : Int32))) T13.heap n0 Zs13 f13_0 (own_M hz h8) (by decide) (fun hlt => own_final (j := 3) hv h8 hlt)) hZ (hw _ (List.mem_of_getElem? (i := 12) rfl)) (hw _ (List.mem_of_getElem? (i := 4) rfl)) (by decide) (by decide)) (g := (mkF m 165 #[.val (.int p0), .val (.long q1), .second, .val (.int z), .val (.ref b1), .val (.long v), .second, .val (.ref b13), .val (.int (1 : Int32))] [(.long v), (.int (3 : Int32)), (.ref b13)])) rfl (by rw [hml]; rfl) (argsL := [(.ref b13), (.int (3 : Int32)), (.long v)]) (rest := []) (lenOf pd_3 rfl) rfl (by show 2 * 0 + _ ≤ _; exact Nat.le_of_eq rfl) (hb hby at_165) (fun _ _ => ⟨rfl, eh17, (by decide : 2 + 0 ≤ _), (by decide : 21 + 0 ≤ _)⟩)
    dsimp only [Pt.U, Pt.locs, Pt.cells, Pt.slots] at X18 l18 y18 z18 st18 hQ18
    subst l18 y18 z18
    obtain ⟨rfl, Nq18, eh18⟩ := hQ18
    have N18 := Fr.app N17 Nq18
    refine own_by (st18) ?_
    show own_Go p.tables e below (T18.setTop (mkF m 168 #[.val (.int p0), .val (.long q1), .second, .val (.int z), .val (.ref b1), .val (.long v), .second, .val (.ref b13), .val (.int (1 : Int32))] [(.int (1 : Int32))])) _
    refine own_by (fun _ kt => XS.ifNo X18.here hx rfl (hb hby at_168) rfl ((if0 _ _).trans (feq (by decide : ¬ ((1 : Int32) = (0 : Int32)))).1) kt) ?_
    show own_Go p.tables e below (T18.setTop (mkF m 171 #[.val (.int p0), .val (.long q1), .second, .val (.int z), .val (.ref b1), .val (.long v), .second, .val (.ref b13), .val (.int (1 : Int32))] [])) _
    refine own_by (fun _ kt => XS.iconst X18.here hx rfl (hb hby at_171) kt) ?_
    show own_Go p.tables e below (T18.setTop (mkF m 172 #[.val (.int p0), .val (.long q1), .second, .val (.int z), .val (.ref b1), .val (.long v), .second, .val (.ref b13), .val (.int (1 : Int32))] [(.int (1 : Int32))])) _
    refine own_by (fun _ kt => XS.goto X18.here hx rfl (pc0 := 172) (pc' := 176) rfl (hb hby at_172) (by decide) (by decide) kt) ?_
    show own_Go p.tables e below (T18.setTop (mkF m 176 #[.val (.int p0), .val (.long q1), .second, .val (.int z), .val (.ref b1), .val (.long v), .second, .val (.ref b13), .val (.int (1 : Int32))] [(.int (1 : Int32))])) _
    refine own_by (fun _ kt => XS.istore X18.here hx rfl (hb hby at_176) rfl (l' := #[.val (.int p0), .val (.long q1), .second, .val (.int z), .val (.ref b1), .val (.long v), .second, .val (.ref b13), .val (.int (1 : Int32))]) rfl kt) ?_
    show own_Go p.tables e below (T18.setTop (mkF m 178 #[.val (.int p0), .val (.long q1), .second, .val (.int z), .val (.ref b1), .val (.long v), .second, .val (.ref b13), .val (.int (1 : Int32))] [])) _
    refine own_by (fun _ kt => XS.iload X18.here hx rfl (hb hby at_178) rfl kt) ?_
    show own_Go p.tables e below (T18.setTop (mkF m 180 #[.val (.int p0), .val (.long q1), .second, .val (.int z), .val (.ref b1), .val (.long v), .second, .val (.ref b13), .val (.int (1 : Int32))] [(.int (1 : Int32))])) _
    refine own_by (fun _ kt => XS.ifNo X18.here hx rfl (hb hby at_180) rfl ((if0 _ _).trans (feq (by decide : ¬ ((1 : Int32) = (0 : Int32)))).1) kt) ?_
    show own_Go p.tables e below (T18.setTop (mkF m 183 #[.val (.int p0), .val (.long q1), .second, .val (.int z), .val (.ref b1), .val (.long v), .second, .val (.ref b13), .val (.int (1 : Int32))] [])) _
    refine own_by (fun _ kt => XS.aload X18.here hx rfl (hb hby at_183) rfl rfl kt) ?_
    show own_Go p.tables e below (T18.setTop (mkF m 185 #[.val (.int p0), .val (.long q1), .second, .val (.int z), .val (.ref b1), .val (.long v), .second, .val (.ref b13), .val (.int (1 : Int32))] [(.ref b13)])) _
    refine own_by (fun _ kt => XS.iconst X18.here hx rfl (hb hby at_185) kt) ?_
    show own_Go p.tables e below (T18.setTop (mkF m 186 #[.val (.int p0), .val (.long q1), .second, .val (.int z), .val (.ref b1), .val (.long v), .second, .val (.ref b13), .val (.int (1 : Int32))] [(.int (4 : Int32)), (.ref b13)])) _
    refine own_by (fun _ kt => XS.lload X18.here hx rfl (hb hby at_186) rfl kt) ?_
    show own_Go p.tables e below (T18.setTop (mkF m 188 #[.val (.int p0), .val (.long q1), .second, .val (.int z), .val (.ref b1), .val (.long v), .second, .val (.ref b13), .val (.int (1 : Int32))] [(.long v), (.int (4 : Int32)), (.ref b13)])) _
    obtain ⟨_, _, ⟨T19, L19, k19, n19⟩, -, X19, ⟨Lc19, hQ19, l19, y19, z19⟩, st19⟩ := Jvm.LawKit.callS X18 hx (y := (⟨"com/example/relampago/relampago/bolt11/Bech32GroupsPinLaw", "check", "([BIJ)Z"⟩ : MethodName)) hown (mvT hZ (hw _ (List.mem_of_getElem? (i := 10) rfl))) (mvT hZ (hw _ (List.mem_of_getElem? (i := 11) rfl))) (mvT hZ (hw _ (List.mem_of_getElem? (i := 4) rfl))) (mvT hZ (hw _ (List.mem_of_getElem? (i := 12) rfl))) (by decide) (backOf (W := 0) (rm_check l Z a0 hw [] b13 (4 : Int32) v (ck13) (((8 * n + 4) / 5)) ((own_G (fun j => own_byte q1 (Int32.ofNat j)) (8 * n))) (((((z * (8 : Int32)) + (5 : Int32)) - (1 : Int32)) / (5 : Int32))) T13.heap n0 Zs13 f13_0 (own_M hz h8) (by decide) (fun hlt => own_final (j := 4) hv h8 hlt)) hZ (hw _ (List.mem_of_getElem? (i := 12) rfl)) (hw _ (List.mem_of_getElem? (i := 4) rfl)) (by decide) (by decide)) (g := (mkF m 188 #[.val (.int p0), .val (.long q1), .second, .val (.int z), .val (.ref b1), .val (.long v), .second, .val (.ref b13), .val (.int (1 : Int32))] [(.long v), (.int (4 : Int32)), (.ref b13)])) rfl (by rw [hml]; rfl) (argsL := [(.ref b13), (.int (4 : Int32)), (.long v)]) (rest := []) (lenOf pd_3 rfl) rfl (by show 2 * 0 + _ ≤ _; exact Nat.le_of_eq rfl) (hb hby at_188) (fun _ _ => ⟨rfl, eh18, (by decide : 2 + 0 ≤ _), (by decide : 21 + 0 ≤ _)⟩)
    dsimp only [Pt.U, Pt.locs, Pt.cells, Pt.slots] at X19 l19 y19 z19 st19 hQ19
    subst l19 y19 z19
    obtain ⟨rfl, Nq19, eh19⟩ := hQ19
    have N19 := Fr.app N18 Nq19
    refine own_by (st19) ?_
    show own_Go p.tables e below (T19.setTop (mkF m 191 #[.val (.int p0), .val (.long q1), .second, .val (.int z), .val (.ref b1), .val (.long v), .second, .val (.ref b13), .val (.int (1 : Int32))] [(.int (1 : Int32))])) _
    refine own_by (fun _ kt => XS.ifNo X19.here hx rfl (hb hby at_191) rfl ((if0 _ _).trans (feq (by decide : ¬ ((1 : Int32) = (0 : Int32)))).1) kt) ?_
    show own_Go p.tables e below (T19.setTop (mkF m 194 #[.val (.int p0), .val (.long q1), .second, .val (.int z), .val (.ref b1), .val (.long v), .second, .val (.ref b13), .val (.int (1 : Int32))] [])) _
    refine own_by (fun _ kt => XS.aload X19.here hx rfl (hb hby at_194) rfl rfl kt) ?_
    show own_Go p.tables e below (T19.setTop (mkF m 196 #[.val (.int p0), .val (.long q1), .second, .val (.int z), .val (.ref b1), .val (.long v), .second, .val (.ref b13), .val (.int (1 : Int32))] [(.ref b13)])) _
    refine own_by (fun _ kt => XS.iconst X19.here hx rfl (hb hby at_196) kt) ?_
    show own_Go p.tables e below (T19.setTop (mkF m 197 #[.val (.int p0), .val (.long q1), .second, .val (.int z), .val (.ref b1), .val (.long v), .second, .val (.ref b13), .val (.int (1 : Int32))] [(.int (5 : Int32)), (.ref b13)])) _
    refine own_by (fun _ kt => XS.lload X19.here hx rfl (hb hby at_197) rfl kt) ?_
    show own_Go p.tables e below (T19.setTop (mkF m 199 #[.val (.int p0), .val (.long q1), .second, .val (.int z), .val (.ref b1), .val (.long v), .second, .val (.ref b13), .val (.int (1 : Int32))] [(.long v), (.int (5 : Int32)), (.ref b13)])) _
    obtain ⟨_, _, ⟨T20, L20, k20, n20⟩, -, X20, ⟨Lc20, hQ20, l20, y20, z20⟩, st20⟩ := Jvm.LawKit.callS X19 hx (y := (⟨"com/example/relampago/relampago/bolt11/Bech32GroupsPinLaw", "check", "([BIJ)Z"⟩ : MethodName)) hown (mvT hZ (hw _ (List.mem_of_getElem? (i := 10) rfl))) (mvT hZ (hw _ (List.mem_of_getElem? (i := 11) rfl))) (mvT hZ (hw _ (List.mem_of_getElem? (i := 4) rfl))) (mvT hZ (hw _ (List.mem_of_getElem? (i := 12) rfl))) (by decide) (backOf (W := 0) (rm_check l Z a0 hw [] b13 (5 : Int32) v (ck13) (((8 * n + 4) / 5)) ((own_G (fun j => own_byte q1 (Int32.ofNat j)) (8 * n))) (((((z * (8 : Int32)) + (5 : Int32)) - (1 : Int32)) / (5 : Int32))) T13.heap n0 Zs13 f13_0 (own_M hz h8) (by decide) (fun hlt => own_final (j := 5) hv h8 hlt)) hZ (hw _ (List.mem_of_getElem? (i := 12) rfl)) (hw _ (List.mem_of_getElem? (i := 4) rfl)) (by decide) (by decide)) (g := (mkF m 199 #[.val (.int p0), .val (.long q1), .second, .val (.int z), .val (.ref b1), .val (.long v), .second, .val (.ref b13), .val (.int (1 : Int32))] [(.long v), (.int (5 : Int32)), (.ref b13)])) rfl (by rw [hml]; rfl) (argsL := [(.ref b13), (.int (5 : Int32)), (.long v)]) (rest := []) (lenOf pd_3 rfl) rfl (by show 2 * 0 + _ ≤ _; exact Nat.le_of_eq rfl) (hb hby at_199) (fun _ _ => ⟨rfl, eh19, (by decide : 2 + 0 ≤ _), (by decide : 21 + 0 ≤ _)⟩)
    dsimp only [Pt.U, Pt.locs, Pt.cells, Pt.slots] at X20 l20 y20 z20 st20 hQ20
    subst l20 y20 z20
    obtain ⟨rfl, Nq20, eh20⟩ := hQ20
    have N20 := Fr.app N19 Nq20
    refine own_by (st20) ?_
    show own_Go p.tables e below (T20.setTop (mkF m 202 #[.val (.int p0), .val (.long q1), .second, .val (.int z), .val (.ref b1), .val (.long v), .second, .val (.ref b13), .val (.int (1 : Int32))] [(.int (1 : Int32))])) _
    refine own_by (fun _ kt => XS.ifNo X20.here hx rfl (hb hby at_202) rfl ((if0 _ _).trans (feq (by decide : ¬ ((1 : Int32) = (0 : Int32)))).1) kt) ?_
    show own_Go p.tables e below (T20.setTop (mkF m 205 #[.val (.int p0), .val (.long q1), .second, .val (.int z), .val (.ref b1), .val (.long v), .second, .val (.ref b13), .val (.int (1 : Int32))] [])) _
    refine own_by (fun _ kt => XS.aload X20.here hx rfl (hb hby at_205) rfl rfl kt) ?_
    show own_Go p.tables e below (T20.setTop (mkF m 207 #[.val (.int p0), .val (.long q1), .second, .val (.int z), .val (.ref b1), .val (.long v), .second, .val (.ref b13), .val (.int (1 : Int32))] [(.ref b13)])) _
    refine own_by (fun _ kt => XS.bipush X20.here hx rfl (hb hby at_207) kt) ?_
    show own_Go p.tables e below (T20.setTop (mkF m 209 #[.val (.int p0), .val (.long q1), .second, .val (.int z), .val (.ref b1), .val (.long v), .second, .val (.ref b13), .val (.int (1 : Int32))] [(.int (6 : Int32)), (.ref b13)])) _
    refine own_by (fun _ kt => XS.lload X20.here hx rfl (hb hby at_209) rfl kt) ?_
    show own_Go p.tables e below (T20.setTop (mkF m 211 #[.val (.int p0), .val (.long q1), .second, .val (.int z), .val (.ref b1), .val (.long v), .second, .val (.ref b13), .val (.int (1 : Int32))] [(.long v), (.int (6 : Int32)), (.ref b13)])) _
    obtain ⟨_, _, ⟨T21, L21, k21, n21⟩, -, X21, ⟨Lc21, hQ21, l21, y21, z21⟩, st21⟩ := Jvm.LawKit.callS X20 hx (y := (⟨"com/example/relampago/relampago/bolt11/Bech32GroupsPinLaw", "check", "([BIJ)Z"⟩ : MethodName)) hown (mvT hZ (hw _ (List.mem_of_getElem? (i := 10) rfl))) (mvT hZ (hw _ (List.mem_of_getElem? (i := 11) rfl))) (mvT hZ (hw _ (List.mem_of_getElem? (i := 4) rfl))) (mvT hZ (hw _ (List.mem_of_getElem? (i := 12) rfl))) (by decide) (backOf (W := 0) (rm_check l Z a0 hw [] b13 (6 : Int32) v (ck13) (((8 * n + 4) / 5)) ((own_G (fun j => own_byte q1 (Int32.ofNat j)) (8 * n))) (((((z * (8 : Int32)) + (5 : Int32)) - (1 : Int32)) / (5 : Int32))) T13.heap n0 Zs13 f13_0 (own_M hz h8) (by decide) (fun hlt => own_final (j := 6) hv h8 hlt)) hZ (hw _ (List.mem_of_getElem? (i := 12) rfl)) (hw _ (List.mem_of_getElem? (i := 4) rfl)) (by decide) (by decide)) (g := (mkF m 211 #[.val (.int p0), .val (.long q1), .second, .val (.int z), .val (.ref b1), .val (.long v), .second, .val (.ref b13), .val (.int (1 : Int32))] [(.long v), (.int (6 : Int32)), (.ref b13)])) rfl (by rw [hml]; rfl) (argsL := [(.ref b13), (.int (6 : Int32)), (.long v)]) (rest := []) (lenOf pd_3 rfl) rfl (by show 2 * 0 + _ ≤ _; exact Nat.le_of_eq rfl) (hb hby at_211) (fun _ _ => ⟨rfl, eh20, (by decide : 2 + 0 ≤ _), (by decide : 21 + 0 ≤ _)⟩)
    dsimp only [Pt.U, Pt.locs, Pt.cells, Pt.slots] at X21 l21 y21 z21 st21 hQ21
    subst l21 y21 z21
    obtain ⟨rfl, Nq21, eh21⟩ := hQ21
    have N21 := Fr.app N20 Nq21
    refine own_by (st21) ?_
    show own_Go p.tables e below (T21.setTop (mkF m 214 #[.val (.int p0), .val (.long q1), .second, .val (.int z), .val (.ref b1), .val (.long v), .second, .val (.ref b13), .val (.int (1 : Int32))] [(.int (1 : Int32))])) _
    refine own_by (fun _ kt => XS.ifNo X21.here hx rfl (hb hby at_214) rfl ((if0 _ _).trans (feq (by decide : ¬ ((1 : Int32) = (0 : Int32)))).1) kt) ?_
    show own_Go p.tables e below (T21.setTop (mkF m 217 #[.val (.int p0), .val (.long q1), .second, .val (.int z), .val (.ref b1), .val (.long v), .second, .val (.ref b13), .val (.int (1 : Int32))] [])) _
    refine own_by (fun _ kt => XS.aload X21.here hx rfl (hb hby at_217) rfl rfl kt) ?_
    show own_Go p.tables e below (T21.setTop (mkF m 219 #[.val (.int p0), .val (.long q1), .second, .val (.int z), .val (.ref b1), .val (.long v), .second, .val (.ref b13), .val (.int (1 : Int32))] [(.ref b13)])) _
    refine own_by (fun _ kt => XS.bipush X21.here hx rfl (hb hby at_219) kt) ?_
    show own_Go p.tables e below (T21.setTop (mkF m 221 #[.val (.int p0), .val (.long q1), .second, .val (.int z), .val (.ref b1), .val (.long v), .second, .val (.ref b13), .val (.int (1 : Int32))] [(.int (7 : Int32)), (.ref b13)])) _
    refine own_by (fun _ kt => XS.lload X21.here hx rfl (hb hby at_221) rfl kt) ?_
    show own_Go p.tables e below (T21.setTop (mkF m 223 #[.val (.int p0), .val (.long q1), .second, .val (.int z), .val (.ref b1), .val (.long v), .second, .val (.ref b13), .val (.int (1 : Int32))] [(.long v), (.int (7 : Int32)), (.ref b13)])) _
    obtain ⟨_, _, ⟨T22, L22, k22, n22⟩, -, X22, ⟨Lc22, hQ22, l22, y22, z22⟩, st22⟩ := Jvm.LawKit.callS X21 hx (y := (⟨"com/example/relampago/relampago/bolt11/Bech32GroupsPinLaw", "check", "([BIJ)Z"⟩ : MethodName)) hown (mvT hZ (hw _ (List.mem_of_getElem? (i := 10) rfl))) (mvT hZ (hw _ (List.mem_of_getElem? (i := 11) rfl))) (mvT hZ (hw _ (List.mem_of_getElem? (i := 4) rfl))) (mvT hZ (hw _ (List.mem_of_getElem? (i := 12) rfl))) (by decide) (backOf (W := 0) (rm_check l Z a0 hw [] b13 (7 : Int32) v (ck13) (((8 * n + 4) / 5)) ((own_G (fun j => own_byte q1 (Int32.ofNat j)) (8 * n))) (((((z * (8 : Int32)) + (5 : Int32)) - (1 : Int32)) / (5 : Int32))) T13.heap n0 Zs13 f13_0 (own_M hz h8) (by decide) (fun hlt => own_final (j := 7) hv h8 hlt)) hZ (hw _ (List.mem_of_getElem? (i := 12) rfl)) (hw _ (List.mem_of_getElem? (i := 4) rfl)) (by decide) (by decide)) (g := (mkF m 223 #[.val (.int p0), .val (.long q1), .second, .val (.int z), .val (.ref b1), .val (.long v), .second, .val (.ref b13), .val (.int (1 : Int32))] [(.long v), (.int (7 : Int32)), (.ref b13)])) rfl (by rw [hml]; rfl) (argsL := [(.ref b13), (.int (7 : Int32)), (.long v)]) (rest := []) (lenOf pd_3 rfl) rfl (by show 2 * 0 + _ ≤ _; exact Nat.le_of_eq rfl) (hb hby at_223) (fun _ _ => ⟨rfl, eh21, (by decide : 2 + 0 ≤ _), (by decide : 21 + 0 ≤ _)⟩)
    dsimp only [Pt.U, Pt.locs, Pt.cells, Pt.slots] at X22 l22 y22 z22 st22 hQ22
    subst l22 y22 z22
    obtain ⟨rfl, Nq22, eh22⟩ := hQ22
    have N22 := Fr.app N21 Nq22
    refine own_by (st22) ?_
    show own_Go p.tables e below (T22.setTop (mkF m 226 #[.val (.int p0), .val (.long q1), .second, .val (.int z), .val (.ref b1), .val (.long v), .second, .val (.ref b13), .val (.int (1 : Int32))] [(.int (1 : Int32))])) _
    refine own_by (fun _ kt => XS.ifNo X22.here hx rfl (hb hby at_226) rfl ((if0 _ _).trans (feq (by decide : ¬ ((1 : Int32) = (0 : Int32)))).1) kt) ?_
    show own_Go p.tables e below (T22.setTop (mkF m 229 #[.val (.int p0), .val (.long q1), .second, .val (.int z), .val (.ref b1), .val (.long v), .second, .val (.ref b13), .val (.int (1 : Int32))] [])) _
    refine own_by (fun _ kt => XS.iconst X22.here hx rfl (hb hby at_229) kt) ?_
    show own_Go p.tables e below (T22.setTop (mkF m 230 #[.val (.int p0), .val (.long q1), .second, .val (.int z), .val (.ref b1), .val (.long v), .second, .val (.ref b13), .val (.int (1 : Int32))] [(.int (1 : Int32))])) _
    refine own_by (fun _ kt => XS.goto X22.here hx rfl (pc0 := 230) (pc' := 234) rfl (hb hby at_230) (by decide) (by decide) kt) ?_
    show own_Go p.tables e below (T22.setTop (mkF m 234 #[.val (.int p0), .val (.long q1), .second, .val (.int z), .val (.ref b1), .val (.long v), .second, .val (.ref b13), .val (.int (1 : Int32))] [(.int (1 : Int32))])) _
    refine own_by (fun _ kt => XS.istore X22.here hx rfl (hb hby at_234) rfl (l' := #[.val (.int p0), .val (.long q1), .second, .val (.int z), .val (.ref b1), .val (.long v), .second, .val (.ref b13), .val (.int (1 : Int32))]) rfl kt) ?_
    show own_Go p.tables e below (T22.setTop (mkF m 236 #[.val (.int p0), .val (.long q1), .second, .val (.int z), .val (.ref b1), .val (.long v), .second, .val (.ref b13), .val (.int (1 : Int32))] [])) _
    refine own_by (fun _ kt => XS.iload X22.here hx rfl (hb hby at_236) rfl kt) ?_
    show own_Go p.tables e below (T22.setTop (mkF m 238 #[.val (.int p0), .val (.long q1), .second, .val (.int z), .val (.ref b1), .val (.long v), .second, .val (.ref b13), .val (.int (1 : Int32))] [(.int (1 : Int32))])) _
    refine own_by (fun _ kt => XS.ifNo X22.here hx rfl (hb hby at_238) rfl ((if0 _ _).trans (feq (by decide : ¬ ((1 : Int32) = (0 : Int32)))).1) kt) ?_
    show own_Go p.tables e below (T22.setTop (mkF m 241 #[.val (.int p0), .val (.long q1), .second, .val (.int z), .val (.ref b1), .val (.long v), .second, .val (.ref b13), .val (.int (1 : Int32))] [])) _
    refine own_by (fun _ kt => XS.aload X22.here hx rfl (hb hby at_241) rfl rfl kt) ?_
    show own_Go p.tables e below (T22.setTop (mkF m 243 #[.val (.int p0), .val (.long q1), .second, .val (.int z), .val (.ref b1), .val (.long v), .second, .val (.ref b13), .val (.int (1 : Int32))] [(.ref b13)])) _
    refine own_by (fun _ kt => XS.bipush X22.here hx rfl (hb hby at_243) kt) ?_
    show own_Go p.tables e below (T22.setTop (mkF m 245 #[.val (.int p0), .val (.long q1), .second, .val (.int z), .val (.ref b1), .val (.long v), .second, .val (.ref b13), .val (.int (1 : Int32))] [(.int (8 : Int32)), (.ref b13)])) _
    refine own_by (fun _ kt => XS.lload X22.here hx rfl (hb hby at_245) rfl kt) ?_
    show own_Go p.tables e below (T22.setTop (mkF m 247 #[.val (.int p0), .val (.long q1), .second, .val (.int z), .val (.ref b1), .val (.long v), .second, .val (.ref b13), .val (.int (1 : Int32))] [(.long v), (.int (8 : Int32)), (.ref b13)])) _
    obtain ⟨_, _, ⟨T23, L23, k23, n23⟩, -, X23, ⟨Lc23, hQ23, l23, y23, z23⟩, st23⟩ := Jvm.LawKit.callS X22 hx (y := (⟨"com/example/relampago/relampago/bolt11/Bech32GroupsPinLaw", "check", "([BIJ)Z"⟩ : MethodName)) hown (mvT hZ (hw _ (List.mem_of_getElem? (i := 10) rfl))) (mvT hZ (hw _ (List.mem_of_getElem? (i := 11) rfl))) (mvT hZ (hw _ (List.mem_of_getElem? (i := 4) rfl))) (mvT hZ (hw _ (List.mem_of_getElem? (i := 12) rfl))) (by decide) (backOf (W := 0) (rm_check l Z a0 hw [] b13 (8 : Int32) v (ck13) (((8 * n + 4) / 5)) ((own_G (fun j => own_byte q1 (Int32.ofNat j)) (8 * n))) (((((z * (8 : Int32)) + (5 : Int32)) - (1 : Int32)) / (5 : Int32))) T13.heap n0 Zs13 f13_0 (own_M hz h8) (by decide) (fun hlt => own_final (j := 8) hv h8 hlt)) hZ (hw _ (List.mem_of_getElem? (i := 12) rfl)) (hw _ (List.mem_of_getElem? (i := 4) rfl)) (by decide) (by decide)) (g := (mkF m 247 #[.val (.int p0), .val (.long q1), .second, .val (.int z), .val (.ref b1), .val (.long v), .second, .val (.ref b13), .val (.int (1 : Int32))] [(.long v), (.int (8 : Int32)), (.ref b13)])) rfl (by rw [hml]; rfl) (argsL := [(.ref b13), (.int (8 : Int32)), (.long v)]) (rest := []) (lenOf pd_3 rfl) rfl (by show 2 * 0 + _ ≤ _; exact Nat.le_of_eq rfl) (hb hby at_247) (fun _ _ => ⟨rfl, eh22, (by decide : 2 + 0 ≤ _), (by decide : 21 + 0 ≤ _)⟩)
    dsimp only [Pt.U, Pt.locs, Pt.cells, Pt.slots] at X23 l23 y23 z23 st23 hQ23
    subst l23 y23 z23
    obtain ⟨rfl, Nq23, eh23⟩ := hQ23
    have N23 := Fr.app N22 Nq23
    refine own_by (st23) ?_
    show own_Go p.tables e below (T23.setTop (mkF m 250 #[.val (.int p0), .val (.long q1), .second, .val (.int z), .val (.ref b1), .val (.long v), .second, .val (.ref b13), .val (.int (1 : Int32))] [(.int (1 : Int32))])) _
    refine own_by (fun _ kt => XS.ifNo X23.here hx rfl (hb hby at_250) rfl ((if0 _ _).trans (feq (by decide : ¬ ((1 : Int32) = (0 : Int32)))).1) kt) ?_
    show own_Go p.tables e below (T23.setTop (mkF m 253 #[.val (.int p0), .val (.long q1), .second, .val (.int z), .val (.ref b1), .val (.long v), .second, .val (.ref b13), .val (.int (1 : Int32))] [])) _
    refine own_by (fun _ kt => XS.aload X23.here hx rfl (hb hby at_253) rfl rfl kt) ?_
    show own_Go p.tables e below (T23.setTop (mkF m 255 #[.val (.int p0), .val (.long q1), .second, .val (.int z), .val (.ref b1), .val (.long v), .second, .val (.ref b13), .val (.int (1 : Int32))] [(.ref b13)])) _
    refine own_by (fun _ kt => XS.bipush X23.here hx rfl (hb hby at_255) kt) ?_
    show own_Go p.tables e below (T23.setTop (mkF m 257 #[.val (.int p0), .val (.long q1), .second, .val (.int z), .val (.ref b1), .val (.long v), .second, .val (.ref b13), .val (.int (1 : Int32))] [(.int (9 : Int32)), (.ref b13)])) _
    refine own_by (fun _ kt => XS.lload X23.here hx rfl (hb hby at_257) rfl kt) ?_
    show own_Go p.tables e below (T23.setTop (mkF m 259 #[.val (.int p0), .val (.long q1), .second, .val (.int z), .val (.ref b1), .val (.long v), .second, .val (.ref b13), .val (.int (1 : Int32))] [(.long v), (.int (9 : Int32)), (.ref b13)])) _
    obtain ⟨_, _, ⟨T24, L24, k24, n24⟩, -, X24, ⟨Lc24, hQ24, l24, y24, z24⟩, st24⟩ := Jvm.LawKit.callS X23 hx (y := (⟨"com/example/relampago/relampago/bolt11/Bech32GroupsPinLaw", "check", "([BIJ)Z"⟩ : MethodName)) hown (mvT hZ (hw _ (List.mem_of_getElem? (i := 10) rfl))) (mvT hZ (hw _ (List.mem_of_getElem? (i := 11) rfl))) (mvT hZ (hw _ (List.mem_of_getElem? (i := 4) rfl))) (mvT hZ (hw _ (List.mem_of_getElem? (i := 12) rfl))) (by decide) (backOf (W := 0) (rm_check l Z a0 hw [] b13 (9 : Int32) v (ck13) (((8 * n + 4) / 5)) ((own_G (fun j => own_byte q1 (Int32.ofNat j)) (8 * n))) (((((z * (8 : Int32)) + (5 : Int32)) - (1 : Int32)) / (5 : Int32))) T13.heap n0 Zs13 f13_0 (own_M hz h8) (by decide) (fun hlt => own_final (j := 9) hv h8 hlt)) hZ (hw _ (List.mem_of_getElem? (i := 12) rfl)) (hw _ (List.mem_of_getElem? (i := 4) rfl)) (by decide) (by decide)) (g := (mkF m 259 #[.val (.int p0), .val (.long q1), .second, .val (.int z), .val (.ref b1), .val (.long v), .second, .val (.ref b13), .val (.int (1 : Int32))] [(.long v), (.int (9 : Int32)), (.ref b13)])) rfl (by rw [hml]; rfl) (argsL := [(.ref b13), (.int (9 : Int32)), (.long v)]) (rest := []) (lenOf pd_3 rfl) rfl (by show 2 * 0 + _ ≤ _; exact Nat.le_of_eq rfl) (hb hby at_259) (fun _ _ => ⟨rfl, eh23, (by decide : 2 + 0 ≤ _), (by decide : 21 + 0 ≤ _)⟩)
    dsimp only [Pt.U, Pt.locs, Pt.cells, Pt.slots] at X24 l24 y24 z24 st24 hQ24
    subst l24 y24 z24
    obtain ⟨rfl, Nq24, eh24⟩ := hQ24
    have N24 := Fr.app N23 Nq24
    refine own_by (st24) ?_
    show own_Go p.tables e below (T24.setTop (mkF m 262 #[.val (.int p0), .val (.long q1), .second, .val (.int z), .val (.ref b1), .val (.long v), .second, .val (.ref b13), .val (.int (1 : Int32))] [(.int (1 : Int32))])) _
    refine own_by (fun _ kt => XS.ifNo X24.here hx rfl (hb hby at_262) rfl ((if0 _ _).trans (feq (by decide : ¬ ((1 : Int32) = (0 : Int32)))).1) kt) ?_
    show own_Go p.tables e below (T24.setTop (mkF m 265 #[.val (.int p0), .val (.long q1), .second, .val (.int z), .val (.ref b1), .val (.long v), .second, .val (.ref b13), .val (.int (1 : Int32))] [])) _
    refine own_by (fun _ kt => XS.aload X24.here hx rfl (hb hby at_265) rfl rfl kt) ?_
    show own_Go p.tables e below (T24.setTop (mkF m 267 #[.val (.int p0), .val (.long q1), .second, .val (.int z), .val (.ref b1), .val (.long v), .second, .val (.ref b13), .val (.int (1 : Int32))] [(.ref b13)])) _
    refine own_by (fun _ kt => XS.bipush X24.here hx rfl (hb hby at_267) kt) ?_
    show own_Go p.tables e below (T24.setTop (mkF m 269 #[.val (.int p0), .val (.long q1), .second, .val (.int z), .val (.ref b1), .val (.long v), .second, .val (.ref b13), .val (.int (1 : Int32))] [(.int (10 : Int32)), (.ref b13)])) _
    refine own_by (fun _ kt => XS.lload X24.here hx rfl (hb hby at_269) rfl kt) ?_
    show own_Go p.tables e below (T24.setTop (mkF m 271 #[.val (.int p0), .val (.long q1), .second, .val (.int z), .val (.ref b1), .val (.long v), .second, .val (.ref b13), .val (.int (1 : Int32))] [(.long v), (.int (10 : Int32)), (.ref b13)])) _
    obtain ⟨_, _, ⟨T25, L25, k25, n25⟩, -, X25, ⟨Lc25, hQ25, l25, y25, z25⟩, st25⟩ := Jvm.LawKit.callS X24 hx (y := (⟨"com/example/relampago/relampago/bolt11/Bech32GroupsPinLaw", "check", "([BIJ)Z"⟩ : MethodName)) hown (mvT hZ (hw _ (List.mem_of_getElem? (i := 10) rfl))) (mvT hZ (hw _ (List.mem_of_getElem? (i := 11) rfl))) (mvT hZ (hw _ (List.mem_of_getElem? (i := 4) rfl))) (mvT hZ (hw _ (List.mem_of_getElem? (i := 12) rfl))) (by decide) (backOf (W := 0) (rm_check l Z a0 hw [] b13 (10 : Int32) v (ck13) (((8 * n + 4) / 5)) ((own_G (fun j => own_byte q1 (Int32.ofNat j)) (8 * n))) (((((z * (8 : Int32)) + (5 : Int32)) - (1 : Int32)) / (5 : Int32))) T13.heap n0 Zs13 f13_0 (own_M hz h8) (by decide) (fun hlt => own_final (j := 10) hv h8 hlt)) hZ (hw _ (List.mem_of_getElem? (i := 12) rfl)) (hw _ (List.mem_of_getElem? (i := 4) rfl)) (by decide) (by decide)) (g := (mkF m 271 #[.val (.int p0), .val (.long q1), .second, .val (.int z), .val (.ref b1), .val (.long v), .second, .val (.ref b13), .val (.int (1 : Int32))] [(.long v), (.int (10 : Int32)), (.ref b13)])) rfl (by rw [hml]; rfl) (argsL := [(.ref b13), (.int (10 : Int32)), (.long v)]) (rest := []) (lenOf pd_3 rfl) rfl (by show 2 * 0 + _ ≤ _; exact Nat.le_of_eq rfl) (hb hby at_271) (fun _ _ => ⟨rfl, eh24, (by decide : 2 + 0 ≤ _), (by decide : 21 + 0 ≤ _)⟩)
    dsimp only [Pt.U, Pt.locs, Pt.cells, Pt.slots] at X25 l25 y25 z25 st25 hQ25
    subst l25 y25 z25
    obtain ⟨rfl, Nq25, eh25⟩ := hQ25
    have N25 := Fr.app N24 Nq25
    refine own_by (st25) ?_
    show own_Go p.tables e below (T25.setTop (mkF m 274 #[.val (.int p0), .val (.long q1), .second, .val (.int z), .val (.ref b1), .val (.long v), .second, .val (.ref b13), .val (.int (1 : Int32))] [(.int (1 : Int32))])) _
    refine own_by (fun _ kt => XS.ifNo X25.here hx rfl (hb hby at_274) rfl ((if0 _ _).trans (feq (by decide : ¬ ((1 : Int32) = (0 : Int32)))).1) kt) ?_
    show own_Go p.tables e below (T25.setTop (mkF m 277 #[.val (.int p0), .val (.long q1), .second, .val (.int z), .val (.ref b1), .val (.long v), .second, .val (.ref b13), .val (.int (1 : Int32))] [])) _
    refine own_by (fun _ kt => XS.aload X25.here hx rfl (hb hby at_277) rfl rfl kt) ?_
    show own_Go p.tables e below (T25.setTop (mkF m 279 #[.val (.int p0), .val (.long q1), .second, .val (.int z), .val (.ref b1), .val (.long v), .second, .val (.ref b13), .val (.int (1 : Int32))] [(.ref b13)])) _
    refine own_by (fun _ kt => XS.bipush X25.here hx rfl (hb hby at_279) kt) ?_
    show own_Go p.tables e below (T25.setTop (mkF m 281 #[.val (.int p0), .val (.long q1), .second, .val (.int z), .val (.ref b1), .val (.long v), .second, .val (.ref b13), .val (.int (1 : Int32))] [(.int (11 : Int32)), (.ref b13)])) _
    refine own_by (fun _ kt => XS.lload X25.here hx rfl (hb hby at_281) rfl kt) ?_
    show own_Go p.tables e below (T25.setTop (mkF m 283 #[.val (.int p0), .val (.long q1), .second, .val (.int z), .val (.ref b1), .val (.long v), .second, .val (.ref b13), .val (.int (1 : Int32))] [(.long v), (.int (11 : Int32)), (.ref b13)])) _
    obtain ⟨_, _, ⟨T26, L26, k26, n26⟩, -, X26, ⟨Lc26, hQ26, l26, y26, z26⟩, st26⟩ := Jvm.LawKit.callS X25 hx (y := (⟨"com/example/relampago/relampago/bolt11/Bech32GroupsPinLaw", "check", "([BIJ)Z"⟩ : MethodName)) hown (mvT hZ (hw _ (List.mem_of_getElem? (i := 10) rfl))) (mvT hZ (hw _ (List.mem_of_getElem? (i := 11) rfl))) (mvT hZ (hw _ (List.mem_of_getElem? (i := 4) rfl))) (mvT hZ (hw _ (List.mem_of_getElem? (i := 12) rfl))) (by decide) (backOf (W := 0) (rm_check l Z a0 hw [] b13 (11 : Int32) v (ck13) (((8 * n + 4) / 5)) ((own_G (fun j => own_byte q1 (Int32.ofNat j)) (8 * n))) (((((z * (8 : Int32)) + (5 : Int32)) - (1 : Int32)) / (5 : Int32))) T13.heap n0 Zs13 f13_0 (own_M hz h8) (by decide) (fun hlt => own_final (j := 11) hv h8 hlt)) hZ (hw _ (List.mem_of_getElem? (i := 12) rfl)) (hw _ (List.mem_of_getElem? (i := 4) rfl)) (by decide) (by decide)) (g := (mkF m 283 #[.val (.int p0), .val (.long q1), .second, .val (.int z), .val (.ref b1), .val (.long v), .second, .val (.ref b13), .val (.int (1 : Int32))] [(.long v), (.int (11 : Int32)), (.ref b13)])) rfl (by rw [hml]; rfl) (argsL := [(.ref b13), (.int (11 : Int32)), (.long v)]) (rest := []) (lenOf pd_3 rfl) rfl (by show 2 * 0 + _ ≤ _; exact Nat.le_of_eq rfl) (hb hby at_283) (fun _ _ => ⟨rfl, eh25, (by decide : 2 + 0 ≤ _), (by decide : 21 + 0 ≤ _)⟩)
    dsimp only [Pt.U, Pt.locs, Pt.cells, Pt.slots] at X26 l26 y26 z26 st26 hQ26
    subst l26 y26 z26
    obtain ⟨rfl, Nq26, eh26⟩ := hQ26
    have N26 := Fr.app N25 Nq26
    refine own_by (st26) ?_
    show own_Go p.tables e below (T26.setTop (mkF m 286 #[.val (.int p0), .val (.long q1), .second, .val (.int z), .val (.ref b1), .val (.long v), .second, .val (.ref b13), .val (.int (1 : Int32))] [(.int (1 : Int32))])) _
    refine own_by (fun _ kt => XS.ifNo X26.here hx rfl (hb hby at_286) rfl ((if0 _ _).trans (feq (by decide : ¬ ((1 : Int32) = (0 : Int32)))).1) kt) ?_
    show own_Go p.tables e below (T26.setTop (mkF m 289 #[.val (.int p0), .val (.long q1), .second, .val (.int z), .val (.ref b1), .val (.long v), .second, .val (.ref b13), .val (.int (1 : Int32))] [])) _
    refine own_by (fun _ kt => XS.iconst X26.here hx rfl (hb hby at_289) kt) ?_
    show own_Go p.tables e below (T26.setTop (mkF m 290 #[.val (.int p0), .val (.long q1), .second, .val (.int z), .val (.ref b1), .val (.long v), .second, .val (.ref b13), .val (.int (1 : Int32))] [(.int (1 : Int32))])) _
    refine own_by (fun _ kt => XS.goto X26.here hx rfl (pc0 := 290) (pc' := 294) rfl (hb hby at_290) (by decide) (by decide) kt) ?_
    show own_Go p.tables e below (T26.setTop (mkF m 294 #[.val (.int p0), .val (.long q1), .second, .val (.int z), .val (.ref b1), .val (.long v), .second, .val (.ref b13), .val (.int (1 : Int32))] [(.int (1 : Int32))])) _
    refine own_by (fun _ kt => XS.istore X26.here hx rfl (hb hby at_294) rfl (l' := #[.val (.int p0), .val (.long q1), .second, .val (.int z), .val (.ref b1), .val (.long v), .second, .val (.ref b13), .val (.int (1 : Int32))]) rfl kt) ?_
    show own_Go p.tables e below (T26.setTop (mkF m 296 #[.val (.int p0), .val (.long q1), .second, .val (.int z), .val (.ref b1), .val (.long v), .second, .val (.ref b13), .val (.int (1 : Int32))] [])) _
    refine own_by (fun _ kt => XS.iload X26.here hx rfl (hb hby at_296) rfl kt) ?_
    show own_Go p.tables e below (T26.setTop (mkF m 298 #[.val (.int p0), .val (.long q1), .second, .val (.int z), .val (.ref b1), .val (.long v), .second, .val (.ref b13), .val (.int (1 : Int32))] [(.int (1 : Int32))])) _
    refine own_by (fun _ kt => XS.ifNo X26.here hx rfl (hb hby at_298) rfl ((if0 _ _).trans (feq (by decide : ¬ ((1 : Int32) = (0 : Int32)))).1) kt) ?_
    show own_Go p.tables e below (T26.setTop (mkF m 301 #[.val (.int p0), .val (.long q1), .second, .val (.int z), .val (.ref b1), .val (.long v), .second, .val (.ref b13), .val (.int (1 : Int32))] [])) _
    refine own_by (fun _ kt => XS.aload X26.here hx rfl (hb hby at_301) rfl rfl kt) ?_
    show own_Go p.tables e below (T26.setTop (mkF m 303 #[.val (.int p0), .val (.long q1), .second, .val (.int z), .val (.ref b1), .val (.long v), .second, .val (.ref b13), .val (.int (1 : Int32))] [(.ref b13)])) _
    refine own_by (fun _ kt => XS.bipush X26.here hx rfl (hb hby at_303) kt) ?_
    show own_Go p.tables e below (T26.setTop (mkF m 305 #[.val (.int p0), .val (.long q1), .second, .val (.int z), .val (.ref b1), .val (.long v), .second, .val (.ref b13), .val (.int (1 : Int32))] [(.int (12 : Int32)), (.ref b13)])) _
    refine own_by (fun _ kt => XS.lload X26.here hx rfl (hb hby at_305) rfl kt) ?_
    show own_Go p.tables e below (T26.setTop (mkF m 307 #[.val (.int p0), .val (.long q1), .second, .val (.int z), .val (.ref b1), .val (.long v), .second, .val (.ref b13), .val (.int (1 : Int32))] [(.long v), (.int (12 : Int32)), (.ref b13)])) _
    obtain ⟨_, _, ⟨T27, L27, k27, n27⟩, -, X27, ⟨Lc27, hQ27, l27, y27, z27⟩, st27⟩ := Jvm.LawKit.callS X26 hx (y := (⟨"com/example/relampago/relampago/bolt11/Bech32GroupsPinLaw", "check", "([BIJ)Z"⟩ : MethodName)) hown (mvT hZ (hw _ (List.mem_of_getElem? (i := 10) rfl))) (mvT hZ (hw _ (List.mem_of_getElem? (i := 11) rfl))) (mvT hZ (hw _ (List.mem_of_getElem? (i := 4) rfl))) (mvT hZ (hw _ (List.mem_of_getElem? (i := 12) rfl))) (by decide) (backOf (W := 0) (rm_check l Z a0 hw [] b13 (12 : Int32) v (ck13) (((8 * n + 4) / 5)) ((own_G (fun j => own_byte q1 (Int32.ofNat j)) (8 * n))) (((((z * (8 : Int32)) + (5 : Int32)) - (1 : Int32)) / (5 : Int32))) T13.heap n0 Zs13 f13_0 (own_M hz h8) (by decide) (fun hlt => own_final (j := 12) hv h8 hlt)) hZ (hw _ (List.mem_of_getElem? (i := 12) rfl)) (hw _ (List.mem_of_getElem? (i := 4) rfl)) (by decide) (by decide)) (g := (mkF m 307 #[.val (.int p0), .val (.long q1), .second, .val (.int z), .val (.ref b1), .val (.long v), .second, .val (.ref b13), .val (.int (1 : Int32))] [(.long v), (.int (12 : Int32)), (.ref b13)])) rfl (by rw [hml]; rfl) (argsL := [(.ref b13), (.int (12 : Int32)), (.long v)]) (rest := []) (lenOf pd_3 rfl) rfl (by show 2 * 0 + _ ≤ _; exact Nat.le_of_eq rfl) (hb hby at_307) (fun _ _ => ⟨rfl, eh26, (by decide : 2 + 0 ≤ _), (by decide : 21 + 0 ≤ _)⟩)
    dsimp only [Pt.U, Pt.locs, Pt.cells, Pt.slots] at X27 l27 y27 z27 st27 hQ27
    subst l27 y27 z27
    obtain ⟨rfl, Nq27, eh27⟩ := hQ27
    have N27 := Fr.app N26 Nq27
    refine own_by (st27) ?_
    show own_Go p.tables e below (T27.setTop (mkF m 310 #[.val (.int p0), .val (.long q1), .second, .val (.int z), .val (.ref b1), .val (.long v), .second, .val (.ref b13), .val (.int (1 : Int32))] [(.int (1 : Int32))])) _
    refine own_by (fun _ kt => XS.ifNo X27.here hx rfl (hb hby at_310) rfl ((if0 _ _).trans (feq (by decide : ¬ ((1 : Int32) = (0 : Int32)))).1) kt) ?_
    show own_Go p.tables e below (T27.setTop (mkF m 313 #[.val (.int p0), .val (.long q1), .second, .val (.int z), .val (.ref b1), .val (.long v), .second, .val (.ref b13), .val (.int (1 : Int32))] [])) _
    refine own_by (fun _ kt => XS.iconst X27.here hx rfl (hb hby at_313) kt) ?_
    show own_Go p.tables e below (T27.setTop (mkF m 314 #[.val (.int p0), .val (.long q1), .second, .val (.int z), .val (.ref b1), .val (.long v), .second, .val (.ref b13), .val (.int (1 : Int32))] [(.int (1 : Int32))])) _
    refine own_by (fun _ kt => XS.goto X27.here hx rfl (pc0 := 314) (pc' := 318) rfl (hb hby at_314) (by decide) (by decide) kt) ?_
    show own_Go p.tables e below (T27.setTop (mkF m 318 #[.val (.int p0), .val (.long q1), .second, .val (.int z), .val (.ref b1), .val (.long v), .second, .val (.ref b13), .val (.int (1 : Int32))] [(.int (1 : Int32))])) _
    refine own_by (fun _ kt => XS.istore X27.here hx rfl (hb hby at_318) rfl (l' := #[.val (.int p0), .val (.long q1), .second, .val (.int z), .val (.ref b1), .val (.long v), .second, .val (.ref b13), .val (.int (1 : Int32))]) rfl kt) ?_
    show own_Go p.tables e below (T27.setTop (mkF m 320 #[.val (.int p0), .val (.long q1), .second, .val (.int z), .val (.ref b1), .val (.long v), .second, .val (.ref b13), .val (.int (1 : Int32))] [])) _
    refine own_by (fun _ kt => XS.iload X27.here hx rfl (hb hby at_320) rfl kt) ?_
    show own_Go p.tables e below (T27.setTop (mkF m 322 #[.val (.int p0), .val (.long q1), .second, .val (.int z), .val (.ref b1), .val (.long v), .second, .val (.ref b13), .val (.int (1 : Int32))] [(.int (1 : Int32))])) _
    exact own_retN X27 hx (t := .boolean) Bd.returns hlk (by simp) (hb hby at_322) ⟨rfl, N27⟩ (by decide) (by decide)
  by_cases hc72_28 : z = (0 : Int32)
  · refine own_by (fun _ kt => XS.ifNo X10.here hx rfl (hb hby at_72) rfl ((if0 _ _).trans (teq hc72_28).2) kt) ?_
    show own_Go p.tables e below (T10.setTop (mkF m 75 #[.val (.int p0), .val (.long q1), .second, .val (.int z), .val (.ref b1), .unset, .unset, .unset, .unset] [])) _
    refine own_by (fun _ kt => XS.lconst X10.here hx rfl (hb hby at_75) kt) ?_
    show own_Go p.tables e below (T10.setTop (mkF m 76 #[.val (.int p0), .val (.long q1), .second, .val (.int z), .val (.ref b1), .unset, .unset, .unset, .unset] [(.long (0 : Int64))])) _
    refine own_by (fun _ kt => XS.goto X10.here hx rfl (pc0 := 76) (pc' := 92) rfl (hb hby at_76) (by decide) (by decide) kt) ?_
    show own_Go p.tables e below (T10.setTop (mkF m 92 #[.val (.int p0), .val (.long q1), .second, .val (.int z), .val (.ref b1), .unset, .unset, .unset, .unset] [(.long (0 : Int64))])) _
    exact J12 ((0 : Int64)) (own_v0 hz h8 hc72_28)
  · refine own_by (fun _ kt => XS.ifYes X10.here hx rfl (pc0 := 72) (pc' := 79) rfl (hb hby at_72) rfl ((if0 _ _).trans (feq hc72_28).2) (by decide) (by decide) kt) ?_
    show own_Go p.tables e below (T10.setTop (mkF m 79 #[.val (.int p0), .val (.long q1), .second, .val (.int z), .val (.ref b1), .unset, .unset, .unset, .unset] [])) _
    refine own_by (fun _ kt => XS.lloadN X10.here hx rfl (hb hby at_79) rfl kt) ?_
    show own_Go p.tables e below (T10.setTop (mkF m 80 #[.val (.int p0), .val (.long q1), .second, .val (.int z), .val (.ref b1), .unset, .unset, .unset, .unset] [(.long q1)])) _
    refine own_by (X10.ldc2Long hx hown (mvT hZ (hw _ (List.mem_of_getElem? (i := 13) rfl))) (g := (mkF m 80 #[.val (.int p0), .val (.long q1), .second, .val (.int z), .val (.ref b1), .unset, .unset, .unset, .unset] [(.long q1)])) rfl (hb hby at_80)) ?_
    show own_Go p.tables e below (T10.setTop (mkF m 83 #[.val (.int p0), .val (.long q1), .second, .val (.int z), .val (.ref b1), .unset, .unset, .unset, .unset] [(.long (-1 : Int64)), (.long q1)])) _
    refine own_by (fun _ kt => XS.bipush X10.here hx rfl (hb hby at_83) kt) ?_
    show own_Go p.tables e below (T10.setTop (mkF m 85 #[.val (.int p0), .val (.long q1), .second, .val (.int z), .val (.ref b1), .unset, .unset, .unset, .unset] [(.int (64 : Int32)), (.long (-1 : Int64)), (.long q1)])) _
    refine own_by (fun _ kt => XS.bipush X10.here hx rfl (hb hby at_85) kt) ?_
    show own_Go p.tables e below (T10.setTop (mkF m 87 #[.val (.int p0), .val (.long q1), .second, .val (.int z), .val (.ref b1), .unset, .unset, .unset, .unset] [(.int (8 : Int32)), (.int (64 : Int32)), (.long (-1 : Int64)), (.long q1)])) _
    refine own_by (fun _ kt => XS.iloadN X10.here hx rfl (hb hby at_87) rfl kt) ?_
    show own_Go p.tables e below (T10.setTop (mkF m 88 #[.val (.int p0), .val (.long q1), .second, .val (.int z), .val (.ref b1), .unset, .unset, .unset, .unset] [(.int z), (.int (8 : Int32)), (.int (64 : Int32)), (.long (-1 : Int64)), (.long q1)])) _
    refine own_by (fun _ kt => XS.imul X10.here hx rfl (hb hby at_88) rfl kt) ?_
    show own_Go p.tables e below (T10.setTop (mkF m 89 #[.val (.int p0), .val (.long q1), .second, .val (.int z), .val (.ref b1), .unset, .unset, .unset, .unset] [(.int ((8 : Int32) * z)), (.int (64 : Int32)), (.long (-1 : Int64)), (.long q1)])) _
    refine own_by (fun _ kt => XS.isub X10.here hx rfl (hb hby at_89) rfl kt) ?_
    show own_Go p.tables e below (T10.setTop (mkF m 90 #[.val (.int p0), .val (.long q1), .second, .val (.int z), .val (.ref b1), .unset, .unset, .unset, .unset] [(.int ((64 : Int32) - ((8 : Int32) * z))), (.long (-1 : Int64)), (.long q1)])) _
    refine own_by (fun _ kt => XS.lshl X10.here hx rfl (hb hby at_90) rfl kt) ?_
    show own_Go p.tables e below (T10.setTop (mkF m 91 #[.val (.int p0), .val (.long q1), .second, .val (.int z), .val (.ref b1), .unset, .unset, .unset, .unset] [(.long ((-1 : Int64) <<< (((64 : Int32) - ((8 : Int32) * z)) &&& 0x3f).toInt64)), (.long q1)])) _
    refine own_by (fun _ kt => XS.land X10.here hx rfl (hb hby at_91) rfl kt) ?_
    show own_Go p.tables e below (T10.setTop (mkF m 92 #[.val (.int p0), .val (.long q1), .second, .val (.int z), .val (.ref b1), .unset, .unset, .unset, .unset] [(.long (q1 &&& ((-1 : Int64) <<< (((64 : Int32) - ((8 : Int32) * z)) &&& 0x3f).toInt64)))])) _
    exact J12 ((q1 &&& ((-1 : Int64) <<< (((64 : Int32) - ((8 : Int32) * z)) &&& 0x3f).toInt64))) (own_v1 hz h8 hc72_28)
set_option maxRecDepth 65536 in
set_option maxHeartbeats 40000000 in
theorem comes_1 {Post : Tables → Env → Array Value → State → Outcome → State → Prop} (hpost : ∀ tb e args s v u, (limb_1_1.after args s (.returned v) u = true ∧ limb_1_2.after args s (.returned v) u = true ∧ True) → FrameEnd s (.returned v) u (Jvm.fieldLocs frame_1_writes args s ++ Jvm.arrayLocs frame_1_arrays args s ++ Jvm.staticLocs frame_1_statics s) 16 128 → Post tb e args s (.returned v) u) :
    ArmFor flags0 classFile x code maxLocals ret World_1 tables_1 room_1 Calls_1 rest_1 Pre_1 Post := by
  intro l hfl _ _ p e ha hc hk s m args below hf hA hF happ hP
  obtain ⟨hcalls, hrest, hpre⟩ := hP
  obtain ⟨-, -, -, hnamed, -, -, -, hat⟩ := (Spec.applies_iff hf).mp happ
  obtain ⟨hg, hn⟩ := and_e (Cond.before_iff.mp (show (Jvm.Cond.and given_1 narrow_1).before args s = true from hpre))
  obtain ⟨hcnt, g0⟩ := and_e hg
  obtain ⟨i0, g1⟩ := and_e g0
  obtain ⟨w0, w1, rfl⟩ : ∃ w0 w1 : Value, args = #[w0, w1] := by
    have hs : args.size = 2 := by simpa [Cond.value, given_1] using hcnt
    obtain ⟨L⟩ := args
    match L, hs with
    | [w0, w1], _ => exact ⟨w0, w1, rfl⟩
  have hw := fun d (hd : d ∈ tables_1) => atoms_spec (ws := Jvm.Cond.code x code maxLocals ret :: tables_1) hat d (List.mem_cons_of_mem _ hd)
  obtain ⟨v0, ev0⟩ := is_v i0
  obtain rfl : w0 = (.int v0) := Option.some.inj ev0
  obtain ⟨v1, ev1⟩ := isL_v g1
  obtain rfl : w1 = (.long v1) := Option.some.inj ev1
  obtain ⟨n, o, h1, h2, h3, _, L, rfl, ⟨rfl, N⟩, hq⟩ := rm_law l s _ hw tables_1 v0 v1  s.heap s.heap.size (Nat.le_refl _)  p e ha hc hk s m _ below hf ((Spec.applies_iff_loose hf).mp happ).1 ⟨rfl, State.Warmed39.refl s, rfl⟩ trivial
  refine ⟨n, _, h1, h2, h3, hpost _ _ _ _ _ _ ⟨Cond.after_iff.mpr rfl, Cond.after_iff.mpr (eq_i res_at (Term.int_eval (1)) rfl), trivial⟩ ⟨hq.1, hq.2.1, (hq.2.2.sift fun y hy => Or.inr (N y hy)).mono (by decide) (by decide)⟩⟩
theorem main_1_1 : Claimed_1_1 := comes_1 fun _ _ _ _ _ _ h hF => ⟨h.1, hF⟩
theorem main_1_2 : Claimed_1_2 := comes_1 fun _ _ _ _ _ _ h hF => ⟨h.2.1, hF⟩
end Jvm.Pilot.@@N@@
namespace Jvm.Pilot.@@N@@
open Jvm Jvm.ClassFile Sem Op Lib Jvm.Free Jvm.Stand Jvm.Pilot.@@N@@.Jvm.D
/-! MADE BY PROGRAM (witnessworld.py) out of the Statement's table words and the real class files: 9 classes; the members and pool entries that the words name. The judged class is class 1, her method 1. -/
namespace start1
open Jvm.ClassFile
def u (s : String) : CpInfo := .utf8 (stringToUtf16 s)
/-- a pool by its gaps: so many unusable entries, then the entry; so many at the end -/
def gap : Nat → List CpInfo → List CpInfo
  | 0, r => r
  | n + 1, r => .unusable :: gap n r
def poolList (es : List (Nat × CpInfo)) (last : Nat) : List CpInfo := es.foldr (fun e r => gap e.1 (e.2 :: r)) (gap last [])
def pool (es : List (Nat × CpInfo)) (last : Nat) : Array CpInfo := ⟨poolList es last⟩
def fileOf (pool : Array CpInfo) (this : Nat) (attrs : Array Attribute := #[]) (ms : Array MethodInfo := #[]) (fl : Nat := 33) (sup : Nat := 0) (ifs : Array Nat := #[]) (fds : Array FieldInfo := #[]) : ClassFile where
  minorVersion := 0
  majorVersion := 65
  constantPool := pool
  accessFlags := fl
  thisClass := this
  superClass := sup
  interfaces := ifs
  fields := fds
  methods := ms
  attributes := attrs
def plain (name : String) (sup : Option ClassId) : Class where
  name := name
  kind := .ordinary
  loader := none
  accessFlags := 33
  super := sup
  interfaces := #[]
  cf := none
  fields := #[]
  methods := #[]
  instanceTypes := #[]
  staticTypes := #[]
  resolved := #[]
  callSites := []
  init := .initialized
  statics := none
  mirror := none

def pool0 : Array CpInfo := pool [(5, u "<init>"), (0, u "()V"), (1, .class_ 10), (1, u "java/lang/Object")] 113

def k0m0 : Method := { name := "<init>", desc := "()V", sig := { parameters := [], returnType := none }, accessFlags := 1, code := none }
/-- java/lang/Object -/
def k0 : Class := { plain "java/lang/Object" none with
  accessFlags := 33
  interfaces := #[]
  cf := some (fileOf pool0 8 #[] #[{ accessFlags := 1, nameIndex := 5, descriptorIndex := 6, attributes := #[] }] 33 0 #[] #[])
  fields := #[]
  methods := #[k0m0]
  instanceTypes := #[]
  staticTypes := #[]
  resolved := Array.replicate 124 none
  statics := none }

def pool1 : Array CpInfo := pool [(2, .class_ 4), (1, u "java/lang/Object"), (0, u "<init>"), (0, u "()V"), (0, .integer 2147483647), (0, .methodref 9 10), (0, .class_ 11), (0, .nameAndType 12 13), (0, u "com/example/relampago/relampago/bolt11/Bech32GroupsPinLaw"), (0, u "put"), (0, u "([BIJ)V"), (0, .long 18446744073709551615), (1, .methodref 17 18), (0, .class_ 19), (0, .nameAndType 20 21), (0, u "com/example/relampago/relampago/bolt11/Bech32"), (0, u "groups"), (0, u "([B)[B"), (0, .methodref 9 23), (0, .nameAndType 24 25), (0, u "check"), (0, u "([BIJ)Z"), (0, .long 15), (1, .long 31), (1, .methodref 9 31), (0, .nameAndType 32 33), (0, u "expected"), (0, u "(JI)I"), (2, u "law"), (0, u "(IJ)Z")] 5

def k1m0 : Method := { name := "<init>", desc := "()V", sig := { parameters := [], returnType := none }, accessFlags := 1, code := none }
def k1c1 : Code := { maxStack := 7, maxLocals := 9, code := code, exceptionTable := #[], attributes := #[] }
def k1m1 : Method := { name := "law", desc := "(IJ)Z", sig := { parameters := [.int, .long], returnType := some .boolean }, accessFlags := 9, code := some k1c1 }
def k1c2 : Code := { maxStack := 7, maxLocals := 4, code := method_3_code, exceptionTable := #[], attributes := #[] }
def k1m2 : Method := { name := "put", desc := "([BIJ)V", sig := { parameters := [(.array .byte), .int, .long], returnType := none }, accessFlags := 10, code := some k1c2 }
def k1c3 : Code := { maxStack := 5, maxLocals := 3, code := method_4_code, exceptionTable := #[], attributes := #[] }
def k1m3 : Method := { name := "expected", desc := "(JI)I", sig := { parameters := [.long, .int], returnType := some .int }, accessFlags := 10, code := some k1c3 }
def k1c4 : Code := { maxStack := 4, maxLocals := 4, code := method_5_code, exceptionTable := #[], attributes := #[] }
def k1m4 : Method := { name := "check", desc := "([BIJ)Z", sig := { parameters := [(.array .byte), .int, .long], returnType := some .boolean }, accessFlags := 10, code := some k1c4 }
/-- com/example/relampago/relampago/bolt11/Bech32GroupsPinLaw -/
def k1 : Class := { plain "com/example/relampago/relampago/bolt11/Bech32GroupsPinLaw" (some 0) with
  accessFlags := 49
  interfaces := #[]
  cf := some (fileOf pool1 9 #[] #[{ accessFlags := 1, nameIndex := 5, descriptorIndex := 6, attributes := #[] }, { accessFlags := 9, nameIndex := 36, descriptorIndex := 37, attributes := #[] }, { accessFlags := 10, nameIndex := 12, descriptorIndex := 13, attributes := #[] }, { accessFlags := 10, nameIndex := 32, descriptorIndex := 33, attributes := #[] }, { accessFlags := 10, nameIndex := 24, descriptorIndex := 25, attributes := #[] }] 49 2 #[] #[])
  fields := #[]
  methods := #[k1m0, k1m1, k1m2, k1m3, k1m4]
  instanceTypes := #[]
  staticTypes := #[]
  resolved := Array.replicate 43 none
  statics := none }

def pool2 : Array CpInfo := pool [(2, .class_ 4), (1, u "java/lang/Object"), (0, u "<init>"), (0, u "()V"), (9, .class_ 17), (0, u "com/example/relampago/relampago/bolt11/Bech32"), (67, .class_ 86), (0, u "com/example/relampago/relampago/bolt11/Bech32$Decoded"), (15, u "GENERATOR"), (0, u "[I"), (5, u "CHARSET"), (0, u "Ljava/lang/String;"), (1, u "CHECKSUM_GROUPS"), (0, u "I"), (1, u "GROUP_BITS"), (8, u "groups"), (0, u "([B)[B")] 10

def k2m0 : Method := { name := "<init>", desc := "()V", sig := { parameters := [], returnType := none }, accessFlags := 2, code := none }
def k2c1 : Code := { maxStack := 6, maxLocals := 3, code := prog_2_method_3_code, exceptionTable := #[], attributes := #[] }
def k2m1 : Method := { name := "groups", desc := "([B)[B", sig := { parameters := [(.array .byte)], returnType := some (.array .byte) }, accessFlags := 9, code := some k2c1 }
/-- com/example/relampago/relampago/bolt11/Bech32 -/
def k2 : Class := { plain "com/example/relampago/relampago/bolt11/Bech32" (some 0) with
  accessFlags := 49
  interfaces := #[]
  cf := some (fileOf pool2 16 #[.nestMembers #[85]] #[{ accessFlags := 2, nameIndex := 5, descriptorIndex := 6, attributes := #[] }, { accessFlags := 9, nameIndex := 124, descriptorIndex := 125, attributes := #[] }] 49 2 #[] #[{ accessFlags := 26, nameIndex := 109, descriptorIndex := 110, attributes := #[] }, { accessFlags := 26, nameIndex := 102, descriptorIndex := 103, attributes := #[] }, { accessFlags := 26, nameIndex := 112, descriptorIndex := 113, attributes := #[] }, { accessFlags := 26, nameIndex := 115, descriptorIndex := 113, attributes := #[] }])
  fields := #[{ name := "CHARSET", type := (.object "java/lang/String"), accessFlags := 26, slot := 0, constantValue := 0 }, { name := "GENERATOR", type := (.array .int), accessFlags := 26, slot := 1, constantValue := 0 }, { name := "CHECKSUM_GROUPS", type := .int, accessFlags := 26, slot := 2, constantValue := 0 }, { name := "GROUP_BITS", type := .int, accessFlags := 26, slot := 3, constantValue := 0 }]
  methods := #[k2m0, k2m1]
  instanceTypes := #[]
  staticTypes := #[(.object "java/lang/String"), (.array .int), .int, .int]
  resolved := Array.replicate 136 none
  statics := none }

def pool3 : Array CpInfo := pool [(1, u "java/lang/Cloneable"), (0, .class_ 1), (0, u "java/lang/Object"), (0, .class_ 3)] 3

/-- java/lang/Cloneable -/
def k3 : Class := { plain "java/lang/Cloneable" (some 0) with
  accessFlags := 1537
  interfaces := #[]
  cf := some (fileOf pool3 2 #[] #[] 1537 4 #[] #[])
  fields := #[]
  methods := #[]
  instanceTypes := #[]
  staticTypes := #[]
  resolved := Array.replicate 8 none
  statics := none }

def pool4 : Array CpInfo := pool [(1, u "java/io/Serializable"), (0, .class_ 1), (0, u "java/lang/Object"), (0, .class_ 3)] 3

/-- java/io/Serializable -/
def k4 : Class := { plain "java/io/Serializable" (some 0) with
  accessFlags := 1537
  interfaces := #[]
  cf := some (fileOf pool4 2 #[] #[] 1537 4 #[] #[])
  fields := #[]
  methods := #[]
  instanceTypes := #[]
  staticTypes := #[]
  resolved := Array.replicate 8 none
  statics := none }

/-- the primitive byte -/
def k5 : Class := { plain "byte" none with kind := .primitive 'B', accessFlags := 0x411 }
/-- [B -/
def k6 : Class := { plain "[B" (some 0) with kind := .array 5 .byte, interfaces := #[3, 4], accessFlags := 1041 }

/-- the primitive int -/
def k7 : Class := { plain "int" none with kind := .primitive 'I', accessFlags := 0x411 }
/-- [I -/
def k8 : Class := { plain "[I" (some 0) with kind := .array 7 .int, interfaces := #[3, 4], accessFlags := 1041 }

def heap : Heap := #[]
def classes : Array Class := #[k0, k1, k2, k3, k4, k5, k6, k7, k8]
def interned : List (Array UInt16 × Addr) := []
def slotsUsed : Nat := 0
def theMethod : MethodId := ⟨1, 1⟩
def args0 : Array Value := #[.int 3, .long 4]
def aboutOver (below : List Frame) : State where
  vm := { classes := classes, interned := interned.toArray }
  heap := heap
  slotsUsed := slotsUsed
  threads := #[{ frames := .invoking theMethod args0 :: below }]
def below0 : List Frame := [.native { method := ⟨0, 0⟩, args := #[] }]
def about1 : State := aboutOver below0
def p0 : Program := .bare "" "" ""
def e0 : Env := launch0.env 0 0 0
theorem w_frames : about1.frames = Frame.invoking theMethod args0 :: below0 := rfl
set_option maxRecDepth 65536 in
theorem w_args : argsFit about1.vm theMethod args0 = true := by decide +kernel
set_option maxRecDepth 65536 in
theorem w_heap : heapFits about1 = true := by decide +kernel
set_option maxRecDepth 65536 in
theorem w_runnable : about1.curStatus? = some .runnable := by decide +kernel
set_option maxRecDepth 65536 in
theorem w_alone : about1.alone = true := by decide +kernel
set_option maxRecDepth 65536 in
theorem w_named : about1.methodNamed? x = some theMethod := by decide +kernel
set_option maxRecDepth 65536 in
theorem w_hears : about1.hears theMethod below0 = true := by decide +kernel
set_option maxRecDepth 65536 in
theorem w_ripe : about1.ripe theMethod args0 below0 = true := by decide +kernel
theorem w_running : about1.status = .running := rfl
set_option maxRecDepth 65536 in
theorem w_room : about1.hasRoom e0.platform room_1 = true :=
  launch0.hasRoom_least _ room_1 (by decide +kernel) (by decide +kernel) (by decide +kernel) (by decide +kernel) (by decide +kernel) (by decide +kernel)
theorem allAtoms_all (ts : List Jvm.Cond) (a : Array Jvm.Value) (st : Jvm.State) : (allAtoms ts).before a st = ts.all (fun c => c.before a st) := by
  induction ts with
  | nil => rfl
  | cons c t ih =>
    show (Jvm.Cond.and c (allAtoms t)).before a st = _
    rw [Jvm.Cond.before_and, ih, List.all_cons]
def words1 : List Jvm.Cond := Jvm.Cond.code x code maxLocals ret :: tables_1
/-- a 'code' word, met by the world's own term for the bytes: nothing is compared byte by byte -/
theorem code_word {y : MethodName} {bytes : ByteArray} {mx : Nat} {rt : Option FieldType} {a : Array Value} {s : State} {m : MethodId} {meth : Method} {c : Code} (h1 : s.methodNamed? y = some m) (h2 : s.vm.method? m = some meth) (h3 : meth.code = some c) (h4 : c.code = bytes)
    (h5 : (c.maxLocals == mx && c.exceptionTable.isEmpty && decide (c.maxStack ≤ mostOperands) && decide (meth.sig.returnType = rt) && !meth.locks && decide (parseMethodDescriptor y.desc = some meth.sig)) = true) : (Jvm.Cond.code y bytes mx rt).before a s = true := by
  simp only [Bool.and_eq_true, beq_iff_eq, Bool.not_eq_true', decide_eq_true_eq] at h5
  obtain ⟨⟨⟨⟨⟨g1, g2⟩, g3⟩, g4⟩, g5⟩, g6⟩ := h5
  simp [Cond.before, Cond.holds, Cond.value, h1, h2, h3, h4, g1, g2, g3, g4, g5, g6]
def isCode : Jvm.Cond → Bool
  | .code _ _ _ _ => true
  | _ => false
theorem all_split {L : List Jvm.Cond} {P : Jvm.Cond → Bool} (h1 : L.all (fun c => isCode c || P c) = true) (h2 : ∀ c ∈ L.filter isCode, P c = true) : L.all P = true := by
  refine List.all_eq_true.mpr fun c hc => ?_
  have h := List.all_eq_true.mp h1 c hc
  rcases Bool.eq_false_or_eq_true (isCode c) with hi | hi
  · exact h2 c (List.mem_filter.mpr ⟨hc, hi⟩)
  · simpa [hi] using h
set_option maxRecDepth 65536 in
theorem w_c0 : (Jvm.Cond.code x code maxLocals ret).before args0 about1 = true := code_word (m := ⟨1, 1⟩) (meth := k1m1) (c := k1c1) (by decide +kernel) rfl rfl rfl (by decide +kernel)
set_option maxRecDepth 65536 in
theorem w_c1 : (Jvm.Cond.code ({ cls := "com/example/relampago/relampago/bolt11/Bech32GroupsPinLaw", name := "put", desc := "([BIJ)V" } : Jvm.MethodName) method_3_code (4 : Nat) (Option.none : Option Jvm.ClassFile.FieldType)).before args0 about1 = true := code_word (m := ⟨1, 2⟩) (meth := k1m2) (c := k1c2) (by decide +kernel) rfl rfl rfl (by decide +kernel)
set_option maxRecDepth 65536 in
theorem w_c2 : (Jvm.Cond.code ({ cls := "com/example/relampago/relampago/bolt11/Bech32", name := "groups", desc := "([B)[B" } : Jvm.MethodName) prog_2_method_3_code (3 : Nat) (Option.some (Jvm.ClassFile.FieldType.array Jvm.ClassFile.FieldType.byte))).before args0 about1 = true := code_word (m := ⟨2, 1⟩) (meth := k2m1) (c := k2c1) (by decide +kernel) rfl rfl rfl (by decide +kernel)
set_option maxRecDepth 65536 in
theorem w_c3 : (Jvm.Cond.code ({ cls := "com/example/relampago/relampago/bolt11/Bech32GroupsPinLaw", name := "check", desc := "([BIJ)Z" } : Jvm.MethodName) method_5_code (4 : Nat) (Option.some Jvm.ClassFile.FieldType.boolean)).before args0 about1 = true := code_word (m := ⟨1, 4⟩) (meth := k1m4) (c := k1c4) (by decide +kernel) rfl rfl rfl (by decide +kernel)
set_option maxRecDepth 65536 in
theorem w_c4 : (Jvm.Cond.code ({ cls := "com/example/relampago/relampago/bolt11/Bech32GroupsPinLaw", name := "expected", desc := "(JI)I" } : Jvm.MethodName) method_4_code (3 : Nat) (Option.some Jvm.ClassFile.FieldType.int)).before args0 about1 = true := code_word (m := ⟨1, 3⟩) (meth := k1m3) (c := k1c3) (by decide +kernel) rfl rfl rfl (by decide +kernel)
def codes1 : List Jvm.Cond := [Jvm.Cond.code x code maxLocals ret, Jvm.Cond.code ({ cls := "com/example/relampago/relampago/bolt11/Bech32GroupsPinLaw", name := "put", desc := "([BIJ)V" } : Jvm.MethodName) method_3_code (4 : Nat) (Option.none : Option Jvm.ClassFile.FieldType), Jvm.Cond.code ({ cls := "com/example/relampago/relampago/bolt11/Bech32", name := "groups", desc := "([B)[B" } : Jvm.MethodName) prog_2_method_3_code (3 : Nat) (Option.some (Jvm.ClassFile.FieldType.array Jvm.ClassFile.FieldType.byte)), Jvm.Cond.code ({ cls := "com/example/relampago/relampago/bolt11/Bech32GroupsPinLaw", name := "check", desc := "([BIJ)Z" } : Jvm.MethodName) method_5_code (4 : Nat) (Option.some Jvm.ClassFile.FieldType.boolean), Jvm.Cond.code ({ cls := "com/example/relampago/relampago/bolt11/Bech32GroupsPinLaw", name := "expected", desc := "(JI)I" } : Jvm.MethodName) method_4_code (3 : Nat) (Option.some Jvm.ClassFile.FieldType.int)]
set_option maxRecDepth 65536 in
theorem codes_eq : words1.filter isCode = codes1 := rfl
theorem w_codes : ∀ c ∈ words1.filter isCode, c.before args0 about1 = true := by
  rw [codes_eq]
  intro c hc
  simp only [codes1, List.mem_cons, List.not_mem_nil, or_false] at hc
  rcases hc with rfl | rfl | rfl | rfl | rfl
  · exact w_c0
  · exact w_c1
  · exact w_c2
  · exact w_c3
  · exact w_c4
set_option maxRecDepth 65536 in
theorem w_t1 : words1.all (fun c => isCode c || c.before args0 about1) = true := by decide +kernel
theorem w_tables : (allAtoms (Jvm.Cond.code x code maxLocals ret :: tables_1)).before args0 about1 = true := by
  rw [allAtoms_all]
  show words1.all (fun c => c.before args0 about1) = true
  refine all_split ?_ w_codes
  rw [w_t1]
set_option maxRecDepth 65536 in
theorem w_case : (Jvm.Cond.and given_1 narrow_1).before args0 about1 = true := by decide +kernel
theorem w_applies : (headSpec (Jvm.Cond.code x code maxLocals ret :: tables_1) room_1).applies x e0.platform about1 = true :=
  (Spec.applies_iff w_frames).mpr ⟨w_running, w_runnable, w_alone, w_named, w_hears, w_ripe, w_room, w_tables⟩
theorem atStart : AtStart classFile x code maxLocals ret World_1 tables_1 room_1 Calls_1 rest_1 Pre_1 launch0 p0 e0 about1 theMethod args0 below0 :=
  ⟨lists_1, trivial, launch0.admits_env _ _ _, launch0.least_env, fairChoices_fair.cas, fairChoices_fair.clock, w_frames, w_args, w_heap, w_applies, trivial, trivial, w_case⟩
end start1
theorem witness_1 : WitnessClaimed_1 := ⟨start1.p0, start1.e0, start1.about1, start1.theMethod, start1.args0, start1.below0, start1.atStart⟩
end Jvm.Pilot.@@N@@
