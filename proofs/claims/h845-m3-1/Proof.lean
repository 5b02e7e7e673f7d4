import JvmDerived
import JvmDerived.Pilot.@@N@@Statement
import JvmDerived.Pilot.@@N@@Code
set_option linter.unusedVariables false
set_option linter.unusedSimpArgs false
namespace Jvm.Pilot.@@N@@
open Jvm Jvm.ClassFile Sem Op Lib Jvm.Free Jvm.Stand Jvm.LawKit Jvm.RoadKit Bundle Jvm.Pilot.@@N@@.Jvm.D
/-! own_Go: a walk still to be made from the state A; every step of the machine is one own_by. -/
def own_Go (tb : Tables) (e : Env) (below : List Frame) (A : State) (R : Outcome → State → Prop) : Prop := ∃ s₂ o, Steps tb e below A s₂ ∧ s₂.status = .running ∧ Ended s₂ below o ∧ R o s₂
theorem own_by {tb : Tables} {e : Env} {below : List Frame} {A B : State} {R : Outcome → State → Prop} (h : ∀ t, Steps tb e below A t → Steps tb e below B t) (g : own_Go tb e below A R) : own_Go tb e below B R := by
  obtain ⟨s₂, o, h1, h2⟩ := g
  exact ⟨s₂, o, h _ h1, h2⟩
def own_R (s : State) (Q : Option Value → Heap → List Loc → Prop) (cc nn : Nat) (o : Outcome) (U : State) : Prop := ∃ v L, o = .returned v ∧ Q v U.heap L ∧ FrameEnd s o U L cc nn
abbrev own_lrem (x y : Int64) : Int64 := x - (x / y) * y
section OwnEnds
variable {p : Program} {l : Launch} {e : Env} {R : Room} {s : State} {m : MethodId} {args : Array Value} {below : List Frame} {meth : Method} {c : Code} {T : State} {locs : List Loc} {cells slots : Nat} {Q : Option Value → Heap → List Loc → Prop} {cc nn : Nat}
theorem own_fin (X : Stand p l e R s m args below meth c T locs cells slots) {v : Option Value} (hv : meth.sig.returnType = none → v = none) (hlk : meth.locks = false) {B : State}
    (hs : ∀ fs, (∀ (f : JFrame) (acts : List Action), f.method = m → f.locked = none → f.entered = [] → (doReturn e (T.setTop f) acts v).1 = T.setFrames fs) → Steps p.tables e below B (T.setFrames fs))
    (hq : Q v T.heap locs) (hc : cells ≤ cc) (hn : slots ≤ nn) : own_Go p.tables e below B (own_R s Q cc nn) := by
  obtain ⟨fs, hr, hrun, hended, hW, hsame⟩ := X.leave hv hlk
  exact ⟨_, _, hs fs hr, hrun, hended, v, locs, rfl, hq, ⟨_, rfl⟩, hW, hsame.mono hc hn⟩
theorem own_retN (X : Stand p l e R s m args below meth c T locs cells slots) (hx : p.tables.exec = Jvm.exec) {pc : Nat} {Ls : Array Slot} {z : Int32} {t : FieldType} {rest : List Value} (hret : meth.sig.returnType = some t) (hlk : meth.locks = false) (ht : t = .boolean ∨ t = .byte ∨ t = .char ∨ t = .short)
    (hd : decode c.code pc = .ok (.ireturn, 1)) (hq : Q (some (.int (nar t z))) T.heap locs) (hc : cells ≤ cc) (hn : slots ≤ nn) : own_Go p.tables e below (T.setTop (mkF m pc Ls (.int z :: rest))) (own_R s Q cc nn) :=
  own_fin X (fun h => by rw [hret] at h; cases h) hlk (fun fs hr => retN X hx hret ht hd hr) hq hc hn
theorem own_retI (X : Stand p l e R s m args below meth c T locs cells slots) (hx : p.tables.exec = Jvm.exec) {pc : Nat} {Ls : Array Slot} {z : Int32} (hret : meth.sig.returnType = some .int) (hlk : meth.locks = false)
    (hd : decode c.code pc = .ok (.ireturn, 1)) (hq : Q (some (.int z)) T.heap locs) (hc : cells ≤ cc) (hn : slots ≤ nn) : own_Go p.tables e below (T.setTop (mkF m pc Ls [.int z])) (own_R s Q cc nn) :=
  own_fin X (fun h => by rw [hret] at h; cases h) hlk (fun fs hr => X.ireturnOut hx hret rfl (Or.inl rfl) hd hr) hq hc hn
theorem own_retL (X : Stand p l e R s m args below meth c T locs cells slots) (hx : p.tables.exec = Jvm.exec) {pc : Nat} {Ls : Array Slot} {z : Int64} (hret : meth.sig.returnType = some .long) (hlk : meth.locks = false)
    (hd : decode c.code pc = .ok (.lreturn, 1)) (hq : Q (some (.long z)) T.heap locs) (hc : cells ≤ cc) (hn : slots ≤ nn) : own_Go p.tables e below (T.setTop (mkF m pc Ls [.long z])) (own_R s Q cc nn) :=
  own_fin X (fun h => by rw [hret] at h; cases h) hlk (fun fs hr => X.lreturnOut hx hret hd hr) hq hc hn
theorem own_retA (X : Stand p l e R s m args below meth c T locs cells slots) (hx : p.tables.exec = Jvm.exec) {pc : Nat} {Ls : Array Slot} {w : Value} {t : FieldType} (hret : meth.sig.returnType = some t) (hlk : meth.locks = false) (hw : w.isRef = true) (ht : t.isReference = true)
    (hd : decode c.code pc = .ok (.areturn, 1)) (hq : Q (some w) T.heap locs) (hc : cells ≤ cc) (hn : slots ≤ nn) : own_Go p.tables e below (T.setTop (mkF m pc Ls [w])) (own_R s Q cc nn) :=
  own_fin X (fun h => by rw [hret] at h; cases h) hlk (fun fs hr => X.areturnOut hx hw hret ht hd hr) hq hc hn
theorem own_retV (X : Stand p l e R s m args below meth c T locs cells slots) (hx : p.tables.exec = Jvm.exec) {pc : Nat} {Ls : Array Slot} (hret : meth.sig.returnType = none) (hlk : meth.locks = false)
    (hd : decode c.code pc = .ok (.return_, 1)) (hq : Q none T.heap locs) (hc : cells ≤ cc) (hn : slots ≤ nn) : own_Go p.tables e below (T.setTop (mkF m pc Ls [])) (own_R s Q cc nn) :=
  own_fin X (fun _ => rfl) hlk (fun fs hr => X.returnOut hx hret hd hr) hq hc hn
end OwnEnds
theorem own_nin {a b : Addr} (h : a ≠ b) : a ∉ [b] := fun q => h (List.mem_singleton.mp q)
theorem own_nin2 {a b c : Addr} (h : a ≠ b) (h' : a ≠ c) : a ∉ [b, c] := fun q => by
  rcases List.mem_cons.mp q with q | q
  · exact h q
  · exact h' (List.mem_singleton.mp q)
section OwnArrays
variable {p : Program} {l : Launch} {e : Env} {R : Room} {s : State} {m : MethodId} {args : Array Value} {below : List Frame} {meth : Method} {c : Code} {T : State} {locs : List Loc} {cells slots : Nat} {Z : State} {h : Heap} {a : Addr} {k : ClassId} {z j : Int32} {vs : List Value} {dv v : Value} {g : JFrame} {rest : List Value}
theorem own_iaload (X : Stand p l e R s m args below meth c T locs cells slots) (hx : p.tables.exec = Jvm.exec) (hZ : Z.Warmed39 s.vm) (eT : T.heap = h) (F : Arv Z h a k .int z vs dv) (hj : ¬ j < 0 ∧ j < z) (hv : vs.getD j.toNatClampNeg dv = v)
    (hg : g.method = m) (hs : g.stack = .int j :: .ref a :: rest) (hd : decode c.code g.pc = .ok (.iaload, 1)) (t : State) (kt : Steps p.tables e below (T.setTop { g with pc := g.pc + 1, stack := v :: rest }) t) : Steps p.tables e below (T.setTop g) t := by
  obtain ⟨cl, A, -, S, -, H, -⟩ := F
  exact X.iaload hx (by rw [eT]; exact A.1) (State.isArrayOf_alike hZ.alike A.2.1) A.2.2 (inb_of S hj) (H.at (inb_of S hj) hv) hg hs hd t kt
theorem own_caload (X : Stand p l e R s m args below meth c T locs cells slots) (hx : p.tables.exec = Jvm.exec) (hZ : Z.Warmed39 s.vm) (eT : T.heap = h) (F : Arv Z h a k .char z vs dv) (hj : ¬ j < 0 ∧ j < z) (hv : vs.getD j.toNatClampNeg dv = v)
    (hg : g.method = m) (hs : g.stack = .int j :: .ref a :: rest) (hd : decode c.code g.pc = .ok (.caload, 1)) (t : State) (kt : Steps p.tables e below (T.setTop { g with pc := g.pc + 1, stack := v :: rest }) t) : Steps p.tables e below (T.setTop g) t := by
  obtain ⟨cl, A, -, S, -, H, -⟩ := F
  exact X.caload hx (by rw [eT]; exact A.1) (State.isArrayOf_alike hZ.alike A.2.1) A.2.2 (inb_of S hj) (H.at (inb_of S hj) hv) hg hs hd t kt
theorem own_baload (X : Stand p l e R s m args below meth c T locs cells slots) (hx : p.tables.exec = Jvm.exec) (hZ : Z.Warmed39 s.vm) (eT : T.heap = h) (F : Arv Z h a k .byte z vs dv) (hj : ¬ j < 0 ∧ j < z) (hv : vs.getD j.toNatClampNeg dv = v)
    (hg : g.method = m) (hs : g.stack = .int j :: .ref a :: rest) (hd : decode c.code g.pc = .ok (.baload, 1)) (t : State) (kt : Steps p.tables e below (T.setTop { g with pc := g.pc + 1, stack := v :: rest }) t) : Steps p.tables e below (T.setTop g) t := by
  obtain ⟨cl, A, -, S, -, H, -⟩ := F
  exact X.baloadBytes hx (by rw [eT]; exact A.1) (State.isArrayOf_alike hZ.alike A.2.1) A.2.2 (inb_of S hj) (H.at (inb_of S hj) hv) hg hs hd t kt
theorem own_alen {ty : FieldType} (X : Stand p l e R s m args below meth c T locs cells slots) (hx : p.tables.exec = Jvm.exec) (hZ : Z.Warmed39 s.vm) (eT : T.heap = h) (F : Arv Z h a k ty z vs dv)
    (hg : g.method = m) (hs : g.stack = .ref a :: rest) (hd : decode c.code g.pc = .ok (.arraylength, 1)) (t : State) (kt : Steps p.tables e below (T.setTop { g with pc := g.pc + 1, stack := .int z :: rest }) t) : Steps p.tables e below (T.setTop g) t := by
  obtain ⟨cl, A, -, S, N, -, -⟩ := F
  exact X.arraylength hx (by rw [eT]; exact A.1) (State.isArrayOf_alike hZ.alike A.2.1) hg hs hd t (by rw [len_of S N]; exact kt)
end OwnArrays
section OwnBounds
variable {x k k' : Int32}
theorem own_i1 (h : x < k') (q : k'.toInt ≤ k.toInt) : x < k := by rw [Int32.lt_iff_toInt_lt] at *; omega
theorem own_i2 (h : ¬ k' < x) (q : k'.toInt < k.toInt) : x < k := by rw [Int32.lt_iff_toInt_lt] at *; omega
theorem own_i3 (h : ¬ x < k') (q : k.toInt ≤ k'.toInt) : ¬ x < k := by rw [Int32.lt_iff_toInt_lt] at *; omega
theorem own_i4 (h : k' < x) (q : k.toInt ≤ k'.toInt + 1) : ¬ x < k := by rw [Int32.lt_iff_toInt_lt] at *; omega
theorem own_j1 (h : k' < x) (q : k.toInt ≤ k'.toInt) : k < x := by rw [Int32.lt_iff_toInt_lt] at *; omega
theorem own_j2 (h : ¬ x < k') (q : k.toInt < k'.toInt) : k < x := by rw [Int32.lt_iff_toInt_lt] at *; omega
theorem own_j3 (h : ¬ k' < x) (q : k'.toInt ≤ k.toInt) : ¬ k < x := by rw [Int32.lt_iff_toInt_lt] at *; omega
theorem own_j4 (h : x < k') (q : k'.toInt ≤ k.toInt + 1) : ¬ k < x := by rw [Int32.lt_iff_toInt_lt] at *; omega
theorem own_q1 (h : x < k') (q : k'.toInt ≤ k.toInt) : ¬ x = k := fun u => by rw [Int32.lt_iff_toInt_lt] at *; subst u; omega
theorem own_q2 (h : k' < x) (q : k.toInt ≤ k'.toInt) : ¬ x = k := fun u => by rw [Int32.lt_iff_toInt_lt] at *; subst u; omega
theorem own_q3 (h : ¬ x < k') (q : k.toInt < k'.toInt) : ¬ x = k := fun u => by rw [Int32.lt_iff_toInt_lt] at *; subst u; omega
theorem own_q4 (h : ¬ k' < x) (q : k'.toInt < k.toInt) : ¬ x = k := fun u => by rw [Int32.lt_iff_toInt_lt] at *; subst u; omega
end OwnBounds
theorem own_sta_keep {Z : State} {h h' : Heap} {C n d : String} {w : Value} (F : Sta Z h C n d w) (K : Keep h h' []) : Sta Z h' C n d w := by
  obtain ⟨cf, i, k, f, st, cell, h1, h2, h3, h4, h5, r⟩ := F
  exact ⟨cf, i, k, f, st, cell, h1, h2, h3, h4, K.2.1 _ _ h5 List.not_mem_nil, r⟩
theorem own_bm32 {z : Int} (h1 : -2147483648 ≤ z) (h2 : z < 2147483648) : z.bmod (2 ^ 32) = z := by
  apply Int.bmod_eq_of_le <;> omega
theorem own_pos31 (p : Int32) : 0 ≤ (p &&& 2147483647).toInt := by
  have hn : (p &&& 2147483647).toBitVec.toNat < 2 ^ 31 := by
    show (p.toBitVec &&& (2147483647 : Int32).toBitVec).toNat < 2 ^ 31
    rw [BitVec.toNat_and]
    exact Nat.lt_of_le_of_lt Nat.and_le_right (by decide)
  show 0 ≤ (p &&& 2147483647).toBitVec.toInt
  rw [BitVec.toInt_eq_toNat_cond, if_pos (by omega)]
  omega
theorem own_rem31 (p n : Int32) (hn : 0 < n.toInt) : 0 ≤ ((p &&& 2147483647) % n).toInt ∧ ((p &&& 2147483647) % n).toInt < n.toInt := by
  rw [Int32.toInt_mod, Int.tmod_eq_emod_of_nonneg (own_pos31 p)]
  exact ⟨Int.emod_nonneg _ (by omega), Int.emod_lt_of_pos _ hn⟩
theorem own_and3 (p : Int32) : p &&& 3 = 0 ∨ p &&& 3 = 1 ∨ p &&& 3 = 2 ∨ p &&& 3 = 3 := by
  have hn : (p &&& 3).toBitVec.toNat ≤ 3 := by
    show (p.toBitVec &&& (3 : Int32).toBitVec).toNat ≤ 3
    rw [BitVec.toNat_and]
    exact Nat.and_le_right
  have e : (p &&& 3).toInt = ((p &&& 3).toBitVec.toNat : Int) := by
    show (p &&& 3).toBitVec.toInt = _
    rw [BitVec.toInt_eq_toNat_cond, if_pos (by omega)]
  simp only [← Int32.toInt_inj, e, show (0 : Int32).toInt = 0 from by decide, show (1 : Int32).toInt = 1 from by decide, show (2 : Int32).toInt = 2 from by decide, show (3 : Int32).toInt = 3 from by decide]
  omega
/-! own_Arf: an array of small numbers: place j (below n) holds f j -/
def own_Arf (Z : State) (h : Heap) (a : Addr) (k : ClassId) (ty : FieldType) (n : Nat) (f : Nat → Int32) : Prop := ∃ c : Cell, Arr Z h a c ty ∧ c.cls = k ∧ c.slots.size = n ∧ ∀ j, j < n → c.slots[j]? = some (.int (f j))
theorem own_setSlot (c : Cell) (i : Nat) (v : Value) : (c.setSlot i v).slots = c.slots.setIfInBounds i v := rfl
theorem own_clamp {j : Int32} {i : Nat} (h : j.toInt = i) : j.toNatClampNeg = i := by
  show j.toInt.toNat = i
  rw [h]; rfl
theorem own_inside {j : Int32} {i n : Nat} {c : Cell} (h : j.toInt = i) (hi : i < n) (hs : c.slots.size = n) : ¬ (j < 0 ∨ c.slots.size ≤ j.toNatClampNeg) := by
  rw [own_clamp h, hs, Int32.lt_iff_toInt_lt, h, show (0 : Int32).toInt = 0 from by decide]; omega
theorem own_len32 {n : Nat} {z : Int32} (h : z.toInt = n) : n.toInt32 = z := by
  have h2 := z.toInt_lt
  rw [← Int32.toInt_inj, h, len_toInt (by omega)]
section OwnArf
variable {p : Program} {l : Launch} {e : Env} {R : Room} {s : State} {m : MethodId} {args : Array Value} {below : List Frame} {meth : Method} {c : Code} {T : State} {locs : List Loc} {cells slots : Nat} {Z : State} {h h' : Heap} {a b : Addr} {k : ClassId} {z j : Int32} {g : JFrame} {rest : List Value} {ty : FieldType} {n : Nat} {f f' : Nat → Int32} {ws : List Addr} {sl : Nat} {v : Value}
theorem own_Arf.lt (F : own_Arf Z h a k ty n f) : a < h.size := by obtain ⟨c, A, -⟩ := F; exact A.lt
theorem own_Arf.ext (F : own_Arf Z h a k ty n f) (E : Ext h h') : own_Arf Z h' a k ty n f := by obtain ⟨c, A, r⟩ := F; exact ⟨c, A.ext E, r⟩
theorem own_Arf.other (F : own_Arf Z h b k ty n f) (W : Wr h h' a sl v) (q : b ≠ a) : own_Arf Z h' b k ty n f := by obtain ⟨c, A, r⟩ := F; exact ⟨c, A.other W q, r⟩
theorem own_Arf.keep (F : own_Arf Z h a k ty n f) (K : Keep h h' ws) (q : a ∉ ws) : own_Arf Z h' a k ty n f := by obtain ⟨c, A, r⟩ := F; exact ⟨c, ⟨K.2.1 a c A.1 q, A.2⟩, r⟩
theorem own_Arf.congr (F : own_Arf Z h a k ty n f) (q : ∀ j, j < n → f j = f' j) : own_Arf Z h a k ty n f' := by
  obtain ⟨c, A, r1, r2, r3⟩ := F
  exact ⟨c, A, r1, r2, fun j hj => by rw [← q j hj]; exact r3 j hj⟩
theorem own_Arf.set {x : Int32} {i : Nat} {c : Cell} (A : Arr Z h a c ty) (r1 : c.cls = k) (r2 : c.slots.size = n) (r3 : ∀ j, j < n → c.slots[j]? = some (.int (f j))) (W : Wr h h' a i (.int x)) (hi : i < n) : own_Arf Z h' a k ty n (fun q => if q = i then x else f q) := by
  refine ⟨_, A.same W, r1, ?_, fun q hq => ?_⟩
  · rw [own_setSlot, Array.size_setIfInBounds]; exact r2
  · rw [own_setSlot]
    by_cases u : i = q
    · subst u
      show _ = some (Value.int (if i = i then x else f i))
      rw [Array.getElem?_setIfInBounds_self_of_lt (by omega), if_pos rfl]
    · show _ = some (Value.int (if q = i then x else f q))
      rw [Array.getElem?_setIfInBounds_ne u, if_neg (fun w : q = i => u w.symm)]; exact r3 q hq
theorem own_uload (X : Stand p l e R s m args below meth c T locs cells slots) (hx : p.tables.exec = Jvm.exec) (hZ : Z.Warmed39 s.vm) (eT : T.heap = h) (F : own_Arf Z h a k .byte n f) {i : Nat} (hj : j.toInt = i) (hi : i < n)
    (hg : g.method = m) (hs : g.stack = .int j :: .ref a :: rest) (hd : decode c.code g.pc = .ok (.baload, 1)) (t : State) (kt : Steps p.tables e below (T.setTop { g with pc := g.pc + 1, stack := .int (f i) :: rest }) t) : Steps p.tables e below (T.setTop g) t := by
  obtain ⟨cl, A, -, S, H⟩ := F
  exact X.baloadBytes hx (by rw [eT]; exact A.1) (State.isArrayOf_alike hZ.alike A.2.1) A.2.2 (own_inside hj hi S) (by rw [own_clamp hj]; exact H i hi) hg hs hd t kt
theorem own_ulen (X : Stand p l e R s m args below meth c T locs cells slots) (hx : p.tables.exec = Jvm.exec) (hZ : Z.Warmed39 s.vm) (eT : T.heap = h) (F : own_Arf Z h a k ty n f) (hz : z.toInt = n)
    (hg : g.method = m) (hs : g.stack = .ref a :: rest) (hd : decode c.code g.pc = .ok (.arraylength, 1)) (t : State) (kt : Steps p.tables e below (T.setTop { g with pc := g.pc + 1, stack := .int z :: rest }) t) : Steps p.tables e below (T.setTop g) t := by
  obtain ⟨cl, A, -, S, -⟩ := F
  exact X.arraylength hx (by rw [eT]; exact A.1) (State.isArrayOf_alike hZ.alike A.2.1) hg hs hd t (by rw [S, own_len32 hz]; exact kt)
theorem own_ustore (X : Stand p l e R s m args below meth c T locs cells slots) (hx : p.tables.exec = Jvm.exec) (hZ : Z.Warmed39 s.vm) (eT : T.heap = h) (F : own_Arf Z h a k .byte n f) {x : Int32} {i : Nat} (hj : j.toInt = i) (hi : i < n)
    (hg : g.method = m) (hs : g.stack = .int x :: .int j :: .ref a :: rest) (hd : decode c.code g.pc = .ok (.bastore, 1)) :
    ∃ T' h', Stand p l e R s m args below meth c T' (locs ++ [⟨a, j.toNatClampNeg⟩]) cells slots ∧ T'.heap = h' ∧ Wr h h' a j.toNatClampNeg (.int (nar .byte x)) ∧ own_Arf Z h' a k .byte n (fun q => if q = i then nar .byte x else f q) ∧ ∀ target, Steps p.tables e below (T'.setTop { g with pc := g.pc + 1, stack := rest }) target → Steps p.tables e below (T.setTop g) target := by
  obtain ⟨cl, A, r1, S, H⟩ := F
  obtain ⟨T', h', X', e', W, st⟩ := stB X hx hZ eT A (own_inside hj hi S) hg hs hd
  exact ⟨T', h', X', e', W, own_Arf.set A r1 S H (own_clamp hj ▸ W) hi, st⟩
theorem own_Arf.new {i : Nat} (A : Arr Z h a (newA k .byte z) .byte) (hz : z.toInt = i) : own_Arf Z h a k .byte i (fun _ => 0) := by
  obtain ⟨c, A', r1, S, -, H, -⟩ := Arv.new A (by rw [Int32.lt_iff_toInt_lt, hz, show (0 : Int32).toInt = 0 from by decide]; omega)
  rw [own_clamp hz] at S
  exact ⟨c, A', r1, S, fun j hj => H j (by omega)⟩
end OwnArf
theorem own_ofNat {t : Nat} (h : t < 2147483648) : (Int32.ofNat t).toInt = t := Int32.toInt_ofNat_of_lt (by omega)
theorem own_succ (t : Nat) : Int32.ofNat t + (1 : Int32) = Int32.ofNat (t + 1) := (Int32.ofNat_add t 1).symm
theorem own_divN {i : Int32} {t d : Nat} (hi : i = Int32.ofNat t) (ht : t < 1000) {c : Int32} (hc : c.toInt = d) (hd : 0 < d) (hd' : d < 1000) : (i / c).toInt = ((t / d : Nat) : Int) := by
  subst hi
  rw [Int32.toInt_div, own_ofNat (by omega), hc, Int.tdiv_eq_ediv_of_nonneg (by omega)]
  have h1 : ((t : Int) / (d : Int)) = ((t / d : Nat) : Int) := by simp
  have h2 : t / d ≤ t := Nat.div_le_self _ _
  rw [h1]
  generalize t / d = q at h2 ⊢
  exact own_bm32 (by omega) (by omega)
def own_m5 (t : Nat) : Int32 := ((16 : Int32).toUInt32 >>> ((Int32.ofNat t % (5 : Int32)) &&& 31).toUInt32).toInt32
def own_w8 (t : Nat) : Int32 := ((128 : Int32).toUInt32 >>> ((Int32.ofNat t % (8 : Int32)) &&& 31).toUInt32).toInt32.toInt8.toInt32
def own_G (f : Nat → Int32) : Nat → Nat → Int32
  | 0, _ => 0
  | t + 1, j => if j = t / 8 then (if (f (t / 5) &&& own_m5 t) = 0 then own_G f t j else nar .byte ((own_G f t j ||| own_w8 t).toInt8.toInt32)) else own_G f t j
theorem own_G_no {f : Nat → Int32} {t : Nat} (h : (f (t / 5) &&& own_m5 t) = 0) (j : Nat) : own_G f t j = own_G f (t + 1) j := by
  show _ = if j = t / 8 then (if (f (t / 5) &&& own_m5 t) = 0 then own_G f t j else nar .byte ((own_G f t j ||| own_w8 t).toInt8.toInt32)) else own_G f t j
  rw [if_pos h]; split <;> rfl
theorem own_G_yes {f : Nat → Int32} {t : Nat} {v : Int32} (h : ¬ (f (t / 5) &&& own_m5 t) = 0) (hv : v = nar .byte ((own_G f t (t / 8) ||| own_w8 t).toInt8.toInt32)) (j : Nat) : (if j = t / 8 then v else own_G f t j) = own_G f (t + 1) j := by
  show _ = if j = t / 8 then (if (f (t / 5) &&& own_m5 t) = 0 then own_G f t j else nar .byte ((own_G f t j ||| own_w8 t).toInt8.toInt32)) else own_G f t j
  by_cases u : j = t / 8
  · subst u; rw [if_pos rfl, if_pos rfl, if_neg h, hv]
  · rw [if_neg u, if_neg u]
theorem own_G_at {Z : State} {h : Heap} {a : Addr} {k : ClassId} {ty : FieldType} {n t t' : Nat} {f : Nat → Int32} (e : t = t') (F : own_Arf Z h a k ty n (own_G f t)) : own_Arf Z h a k ty n (own_G f t') := e ▸ F
theorem own_mulN {z c : Int32} {n d : Nat} (hz : z.toInt = n) (hc : c.toInt = d) (h : n * d < 1000) : (z * c).toInt = ((n * d : Nat) : Int) := by
  have e : (n : Int) * (d : Int) = ((n * d : Nat) : Int) := by simp
  rw [Int32.toInt_mul, hz, hc, e]
  generalize n * d = q at h ⊢
  exact own_bm32 (by omega) (by omega)
theorem own_neg {i : Int32} {t : Nat} (h : i.toInt = t) : ¬ i < 0 := by
  rw [Int32.lt_iff_toInt_lt, h, show (0 : Int32).toInt = 0 from by decide]; omega
theorem own_cap {i : Int32} {t c : Nat} (h : i.toInt = t) (hc : t ≤ c) : i.toNatClampNeg ≤ c := by rw [own_clamp h]; exact hc
theorem own_nat {k : Int32} (h : 0 ≤ k.toInt) : k.toInt = (k.toInt.toNat : Int) := by omega
theorem own_ltn {k z : Int32} {n : Nat} (hz : z.toInt = n) (h0 : 0 ≤ k.toInt) (h : k < z) : k.toInt.toNat < n := by
  rw [Int32.lt_iff_toInt_lt] at h; omega
theorem own_gen {k z : Int32} {n : Nat} (hz : z.toInt = n) (h0 : 0 ≤ k.toInt) (h : ¬ k < z) {j : Nat} (hj : j < n) : ¬ j = k.toInt.toNat := by
  rw [Int32.lt_iff_toInt_lt] at h; omega
def own_min (p0 : Int32) (p1 : Int32) : Int32 := (if p1 < p0 then p1 else p0)
theorem d_jdk_29_method_69_code_0 : decode jdk_29_method_69_code 0 = .ok (.iload_n 0, 1) := by decide +kernel
theorem d_jdk_29_method_69_code_1 : decode jdk_29_method_69_code 1 = .ok (.iload_n 1, 1) := by decide +kernel
theorem d_jdk_29_method_69_code_2 : decode jdk_29_method_69_code 2 = .ok (.if_icmp .gt 7, 3) := by decide +kernel
theorem d_jdk_29_method_69_code_9 : decode jdk_29_method_69_code 9 = .ok (.iload_n 1, 1) := by decide +kernel
theorem d_jdk_29_method_69_code_10 : decode jdk_29_method_69_code 10 = .ok (.ireturn, 1) := by decide +kernel
theorem d_jdk_29_method_69_code_5 : decode jdk_29_method_69_code 5 = .ok (.iload_n 0, 1) := by decide +kernel
theorem d_jdk_29_method_69_code_6 : decode jdk_29_method_69_code 6 = .ok (.goto 4, 3) := by decide +kernel
theorem ef_1 (m : MethodId) (p0 : Int32) (p1 : Int32) : entryFrame m #[(.int p0), (.int p1)] 2 = mkF m 0 #[.val (.int p0), .val (.int p1)] [] := by first | (simp [entryFrame, mkF, argsToLocals, Value.category]; done) | rfl
def Q_rm_own_min (Z : State) (p0 : Int32) (p1 : Int32)  (h0 : Heap) (n0 : Nat) (v : Option Value) (h : Heap) (L : List Loc) : Prop := v = some (.int (own_min p0 p1)) ∧ Fr n0 L ∧ h = h0
set_option maxRecDepth 65536 in
set_option maxHeartbeats 40000000 in
theorem rm_own_min (l : Launch) (Z : State) (a0 : Array Value) (hw : ∀ d ∈ tables_1, d.before a0 Z = true) (ws : List Jvm.Cond) (p0 : Int32) (p1 : Int32)  (h0 : Heap) (n0 : Nat) (Z0 : n0 ≤ h0.size)  :
    MetFree l (⟨"java/lang/Math", "min", "(II)I"⟩ : MethodName) (head1 (Jvm.Cond.code (⟨"java/lang/Math", "min", "(II)I"⟩ : MethodName) jdk_29_method_69_code 2 (some .int) :: ws) ({ frames := 0, cells := 0, slots := 0, locals := 0 } : Room)) (fun av_ U => av_ = #[(.int p0), (.int p1)] ∧ Z.Warmed39 U.vm ∧ U.heap = h0) (fun _ _ _ _ _ => True) (fun _ U o U' => ∃ v L, o = .returned v ∧ Q_rm_own_min Z p0 p1 h0 n0 v U'.heap L ∧ FrameEnd U o U' L ({ frames := 0, cells := 0, slots := 0, locals := 0 } : Room).cells ({ frames := 0, cells := 0, slots := 0, locals := 0 } : Room).slots) := by
  refine MetFree.of_bodySF (Jvm.Free.JP.mathPlain rfl (by decide +kernel)) hisR ?_
  intro p e s m args below meth c s₁ Bd hml0 hP hK
  obtain ⟨rfl, hZ, hh⟩ := hP
  have hx := Bd.exec
  have hby := Bd.bytes
  have hml : c.maxLocals = 2 := hml0
  have hown : s.vm.findClass "java/lang/Math" = some m.cls := findClass_of_methodNamed Bd.named
  have hnm := (name_of_methodNamed Bd.named Bd.method).1
  have hlk : meth.locks = false := BodyLoose.notSynchronized Bd
  have X0 : Stand p l e ({ frames := 0, cells := 0, slots := 0, locals := 0 } : Room) s m #[(.int p0), (.int p1)] below meth c s₁ [] 0 0 := Stand.of_body Bd
  have e0 : s₁.heap = h0 := by rw [← hh, Bd.state]; rfl
  have N0 := Fr.nil n0
  refine own_by (fun _ kt => castTop (ef_1 m p0 p1) kt) (R := own_R s (Q_rm_own_min Z p0 p1 h0 n0) 0 0) ?_
  show own_Go p.tables e below (s₁.setTop (mkF m 0 #[.val (.int p0), .val (.int p1)] [])) _
  refine own_by (fun _ kt => XS.iloadN X0.here hx rfl (hb hby d_jdk_29_method_69_code_0) rfl kt) ?_
  show own_Go p.tables e below (s₁.setTop (mkF m 1 #[.val (.int p0), .val (.int p1)] [(.int p0)])) _
  refine own_by (fun _ kt => XS.iloadN X0.here hx rfl (hb hby d_jdk_29_method_69_code_1) rfl kt) ?_
  show own_Go p.tables e below (s₁.setTop (mkF m 2 #[.val (.int p0), .val (.int p1)] [(.int p1), (.int p0)])) _
  by_cases hc2_1 : p1 < p0
  · refine own_by (fun _ kt => XS.icmpYes X0.here hx rfl (pc0 := 2) (pc' := 9) rfl (hb hby d_jdk_29_method_69_code_2) rfl (tlt hc2_1).2.2.1 (by decide) (by decide) kt) ?_
    show own_Go p.tables e below (s₁.setTop (mkF m 9 #[.val (.int p0), .val (.int p1)] [])) _
    refine own_by (fun _ kt => XS.iloadN X0.here hx rfl (hb hby d_jdk_29_method_69_code_9) rfl kt) ?_
    show own_Go p.tables e below (s₁.setTop (mkF m 10 #[.val (.int p0), .val (.int p1)] [(.int p1)])) _
    exact own_retI X0 hx Bd.returns hlk (hb hby d_jdk_29_method_69_code_10) ⟨by rw [own_min, if_pos hc2_1] <;> rfl, N0, e0⟩ (by decide) (by decide)
  · refine own_by (fun _ kt => XS.icmpNo X0.here hx rfl (hb hby d_jdk_29_method_69_code_2) rfl (flt hc2_1).2.2.1 kt) ?_
    show own_Go p.tables e below (s₁.setTop (mkF m 5 #[.val (.int p0), .val (.int p1)] [])) _
    refine own_by (fun _ kt => XS.iloadN X0.here hx rfl (hb hby d_jdk_29_method_69_code_5) rfl kt) ?_
    show own_Go p.tables e below (s₁.setTop (mkF m 6 #[.val (.int p0), .val (.int p1)] [(.int p0)])) _
    refine own_by (fun _ kt => XS.goto X0.here hx rfl (pc0 := 6) (pc' := 10) rfl (hb hby d_jdk_29_method_69_code_6) (by decide) (by decide) kt) ?_
    show own_Go p.tables e below (s₁.setTop (mkF m 10 #[.val (.int p0), .val (.int p1)] [(.int p0)])) _
    exact own_retI X0 hx Bd.returns hlk (hb hby d_jdk_29_method_69_code_10) ⟨by rw [own_min, if_neg hc2_1] <;> rfl, N0, e0⟩ (by decide) (by decide)
def own_raw (q0 : Int64) (p1 : Int32) (p2 : Int32) : Int32 := (if p2 < (8 : Int32) then (nar .byte ((((q0.toUInt64 >>> (((56 : Int32) - ((8 : Int32) * p2)) &&& 0x3f).toInt64.toUInt64).toInt64).toInt32).toInt8.toInt32)) else (nar .byte (((p1.toUInt32 >>> (((8 : Int32) * ((9 : Int32) - p2)) &&& 31).toUInt32).toInt32).toInt8.toInt32)))
theorem pn_0 : plainName "com/example/relampago/relampago/bolt11/Bech32BytesPinLaw" = true := by first | (simp [plainName, overriddenIn]; done) | decide +kernel
theorem d_method_2_code_0 : decode method_2_code 0 = .ok (.iload_n 3, 1) := by decide +kernel
theorem d_method_2_code_1 : decode method_2_code 1 = .ok (.bipush 8, 2) := by decide +kernel
theorem d_method_2_code_3 : decode method_2_code 3 = .ok (.if_icmp .ge 15, 3) := by decide +kernel
theorem d_method_2_code_6 : decode method_2_code 6 = .ok (.lload_n 0, 1) := by decide +kernel
theorem d_method_2_code_7 : decode method_2_code 7 = .ok (.bipush 56, 2) := by decide +kernel
theorem d_method_2_code_9 : decode method_2_code 9 = .ok (.bipush 8, 2) := by decide +kernel
theorem d_method_2_code_11 : decode method_2_code 11 = .ok (.iload_n 3, 1) := by decide +kernel
theorem d_method_2_code_12 : decode method_2_code 12 = .ok (.imul, 1) := by decide +kernel
theorem d_method_2_code_13 : decode method_2_code 13 = .ok (.isub, 1) := by decide +kernel
theorem d_method_2_code_14 : decode method_2_code 14 = .ok (.lushr, 1) := by decide +kernel
theorem d_method_2_code_15 : decode method_2_code 15 = .ok (.l2i, 1) := by decide +kernel
theorem d_method_2_code_16 : decode method_2_code 16 = .ok (.i2b, 1) := by decide +kernel
theorem d_method_2_code_17 : decode method_2_code 17 = .ok (.ireturn, 1) := by decide +kernel
theorem d_method_2_code_18 : decode method_2_code 18 = .ok (.iload_n 2, 1) := by decide +kernel
theorem d_method_2_code_19 : decode method_2_code 19 = .ok (.bipush 8, 2) := by decide +kernel
theorem d_method_2_code_21 : decode method_2_code 21 = .ok (.bipush 9, 2) := by decide +kernel
theorem d_method_2_code_23 : decode method_2_code 23 = .ok (.iload_n 3, 1) := by decide +kernel
theorem d_method_2_code_24 : decode method_2_code 24 = .ok (.isub, 1) := by decide +kernel
theorem d_method_2_code_25 : decode method_2_code 25 = .ok (.imul, 1) := by decide +kernel
theorem d_method_2_code_26 : decode method_2_code 26 = .ok (.iushr, 1) := by decide +kernel
theorem d_method_2_code_27 : decode method_2_code 27 = .ok (.i2b, 1) := by decide +kernel
theorem d_method_2_code_28 : decode method_2_code 28 = .ok (.ireturn, 1) := by decide +kernel
theorem ef_2 (m : MethodId) (q0 : Int64) (p1 : Int32) (p2 : Int32) : entryFrame m #[(.long q0), (.int p1), (.int p2)] 4 = mkF m 0 #[.val (.long q0), .second, .val (.int p1), .val (.int p2)] [] := by first | (simp [entryFrame, mkF, argsToLocals, Value.category]; done) | rfl
def Q_rm_own_raw (Z : State) (q0 : Int64) (p1 : Int32) (p2 : Int32)  (h0 : Heap) (n0 : Nat) (v : Option Value) (h : Heap) (L : List Loc) : Prop := v = some (.int (own_raw q0 p1 p2)) ∧ Fr n0 L ∧ h = h0
set_option maxRecDepth 65536 in
set_option maxHeartbeats 40000000 in
theorem rm_own_raw (l : Launch) (Z : State) (a0 : Array Value) (hw : ∀ d ∈ tables_1, d.before a0 Z = true) (ws : List Jvm.Cond) (q0 : Int64) (p1 : Int32) (p2 : Int32)  (h0 : Heap) (n0 : Nat) (Z0 : n0 ≤ h0.size)  :
    MetFree l (⟨"com/example/relampago/relampago/bolt11/Bech32BytesPinLaw", "raw", "(JII)B"⟩ : MethodName) (head1 (Jvm.Cond.code (⟨"com/example/relampago/relampago/bolt11/Bech32BytesPinLaw", "raw", "(JII)B"⟩ : MethodName) method_2_code 4 (some .byte) :: ws) ({ frames := 0, cells := 0, slots := 0, locals := 0 } : Room)) (fun av_ U => av_ = #[(.long q0), (.int p1), (.int p2)] ∧ Z.Warmed39 U.vm ∧ U.heap = h0) (fun _ _ _ _ _ => True) (fun _ U o U' => ∃ v L, o = .returned v ∧ Q_rm_own_raw Z q0 p1 p2 h0 n0 v U'.heap L ∧ FrameEnd U o U' L ({ frames := 0, cells := 0, slots := 0, locals := 0 } : Room).cells ({ frames := 0, cells := 0, slots := 0, locals := 0 } : Room).slots) := by
  refine MetFree.of_bodySF (plainFor_of_name pn_0) hisR ?_
  intro p e s m args below meth c s₁ Bd hml0 hP hK
  obtain ⟨rfl, hZ, hh⟩ := hP
  have hx := Bd.exec
  have hby := Bd.bytes
  have hml : c.maxLocals = 4 := hml0
  have hown : s.vm.findClass "com/example/relampago/relampago/bolt11/Bech32BytesPinLaw" = some m.cls := findClass_of_methodNamed Bd.named
  have hnm := (name_of_methodNamed Bd.named Bd.method).1
  have hlk : meth.locks = false := BodyLoose.notSynchronized Bd
  have X0 : Stand p l e ({ frames := 0, cells := 0, slots := 0, locals := 0 } : Room) s m #[(.long q0), (.int p1), (.int p2)] below meth c s₁ [] 0 0 := Stand.of_body Bd
  have e0 : s₁.heap = h0 := by rw [← hh, Bd.state]; rfl
  have N0 := Fr.nil n0
  refine own_by (fun _ kt => castTop (ef_2 m q0 p1 p2) kt) (R := own_R s (Q_rm_own_raw Z q0 p1 p2 h0 n0) 0 0) ?_
  show own_Go p.tables e below (s₁.setTop (mkF m 0 #[.val (.long q0), .second, .val (.int p1), .val (.int p2)] [])) _
  refine own_by (fun _ kt => XS.iloadN X0.here hx rfl (hb hby d_method_2_code_0) rfl kt) ?_
  show own_Go p.tables e below (s₁.setTop (mkF m 1 #[.val (.long q0), .second, .val (.int p1), .val (.int p2)] [(.int p2)])) _
  refine own_by (fun _ kt => XS.bipush X0.here hx rfl (hb hby d_method_2_code_1) kt) ?_
  show own_Go p.tables e below (s₁.setTop (mkF m 3 #[.val (.long q0), .second, .val (.int p1), .val (.int p2)] [(.int (8 : Int32)), (.int p2)])) _
  by_cases hc3_1 : p2 < (8 : Int32)
  · refine own_by (fun _ kt => XS.icmpNo X0.here hx rfl (hb hby d_method_2_code_3) rfl (tlt hc3_1).2.1 kt) ?_
    show own_Go p.tables e below (s₁.setTop (mkF m 6 #[.val (.long q0), .second, .val (.int p1), .val (.int p2)] [])) _
    refine own_by (fun _ kt => XS.lloadN X0.here hx rfl (hb hby d_method_2_code_6) rfl kt) ?_
    show own_Go p.tables e below (s₁.setTop (mkF m 7 #[.val (.long q0), .second, .val (.int p1), .val (.int p2)] [(.long q0)])) _
    refine own_by (fun _ kt => XS.bipush X0.here hx rfl (hb hby d_method_2_code_7) kt) ?_
    show own_Go p.tables e below (s₁.setTop (mkF m 9 #[.val (.long q0), .second, .val (.int p1), .val (.int p2)] [(.int (56 : Int32)), (.long q0)])) _
    refine own_by (fun _ kt => XS.bipush X0.here hx rfl (hb hby d_method_2_code_9) kt) ?_
    show own_Go p.tables e below (s₁.setTop (mkF m 11 #[.val (.long q0), .second, .val (.int p1), .val (.int p2)] [(.int (8 : Int32)), (.int (56 : Int32)), (.long q0)])) _
    refine own_by (fun _ kt => XS.iloadN X0.here hx rfl (hb hby d_method_2_code_11) rfl kt) ?_
    show own_Go p.tables e below (s₁.setTop (mkF m 12 #[.val (.long q0), .second, .val (.int p1), .val (.int p2)] [(.int p2), (.int (8 : Int32)), (.int (56 : Int32)), (.long q0)])) _
    refine own_by (fun _ kt => XS.imul X0.here hx rfl (hb hby d_method_2_code_12) rfl kt) ?_
    show own_Go p.tables e below (s₁.setTop (mkF m 13 #[.val (.long q0), .second, .val (.int p1), .val (.int p2)] [(.int ((8 : Int32) * p2)), (.int (56 : Int32)), (.long q0)])) _
    refine own_by (fun _ kt => XS.isub X0.here hx rfl (hb hby d_method_2_code_13) rfl kt) ?_
    show own_Go p.tables e below (s₁.setTop (mkF m 14 #[.val (.long q0), .second, .val (.int p1), .val (.int p2)] [(.int ((56 : Int32) - ((8 : Int32) * p2))), (.long q0)])) _
    refine own_by (fun _ kt => XS.lushr X0.here hx rfl (hb hby d_method_2_code_14) rfl kt) ?_
    show own_Go p.tables e below (s₁.setTop (mkF m 15 #[.val (.long q0), .second, .val (.int p1), .val (.int p2)] [(.long ((q0.toUInt64 >>> (((56 : Int32) - ((8 : Int32) * p2)) &&& 0x3f).toInt64.toUInt64).toInt64))])) _
    refine own_by (fun _ kt => XS.l2i X0.here hx rfl (hb hby d_method_2_code_15) rfl kt) ?_
    show own_Go p.tables e below (s₁.setTop (mkF m 16 #[.val (.long q0), .second, .val (.int p1), .val (.int p2)] [(.int (((q0.toUInt64 >>> (((56 : Int32) - ((8 : Int32) * p2)) &&& 0x3f).toInt64.toUInt64).toInt64).toInt32))])) _
    refine own_by (fun _ kt => XS.i2b X0.here hx rfl (hb hby d_method_2_code_16) rfl kt) ?_
    show own_Go p.tables e below (s₁.setTop (mkF m 17 #[.val (.long q0), .second, .val (.int p1), .val (.int p2)] [(.int ((((q0.toUInt64 >>> (((56 : Int32) - ((8 : Int32) * p2)) &&& 0x3f).toInt64.toUInt64).toInt64).toInt32).toInt8.toInt32))])) _
    exact own_retN X0 hx (t := .byte) Bd.returns hlk (by simp) (hb hby d_method_2_code_17) ⟨by rw [own_raw, if_pos hc3_1] <;> rfl, N0, e0⟩ (by decide) (by decide)
  · refine own_by (fun _ kt => XS.icmpYes X0.here hx rfl (pc0 := 3) (pc' := 18) rfl (hb hby d_method_2_code_3) rfl (flt hc3_1).2.1 (by decide) (by decide) kt) ?_
    show own_Go p.tables e below (s₁.setTop (mkF m 18 #[.val (.long q0), .second, .val (.int p1), .val (.int p2)] [])) _
    refine own_by (fun _ kt => XS.iloadN X0.here hx rfl (hb hby d_method_2_code_18) rfl kt) ?_
    show own_Go p.tables e below (s₁.setTop (mkF m 19 #[.val (.long q0), .second, .val (.int p1), .val (.int p2)] [(.int p1)])) _
    refine own_by (fun _ kt => XS.bipush X0.here hx rfl (hb hby d_method_2_code_19) kt) ?_
    show own_Go p.tables e below (s₁.setTop (mkF m 21 #[.val (.long q0), .second, .val (.int p1), .val (.int p2)] [(.int (8 : Int32)), (.int p1)])) _
    refine own_by (fun _ kt => XS.bipush X0.here hx rfl (hb hby d_method_2_code_21) kt) ?_
    show own_Go p.tables e below (s₁.setTop (mkF m 23 #[.val (.long q0), .second, .val (.int p1), .val (.int p2)] [(.int (9 : Int32)), (.int (8 : Int32)), (.int p1)])) _
    refine own_by (fun _ kt => XS.iloadN X0.here hx rfl (hb hby d_method_2_code_23) rfl kt) ?_
    show own_Go p.tables e below (s₁.setTop (mkF m 24 #[.val (.long q0), .second, .val (.int p1), .val (.int p2)] [(.int p2), (.int (9 : Int32)), (.int (8 : Int32)), (.int p1)])) _
    refine own_by (fun _ kt => XS.isub X0.here hx rfl (hb hby d_method_2_code_24) rfl kt) ?_
    show own_Go p.tables e below (s₁.setTop (mkF m 25 #[.val (.long q0), .second, .val (.int p1), .val (.int p2)] [(.int ((9 : Int32) - p2)), (.int (8 : Int32)), (.int p1)])) _
    refine own_by (fun _ kt => XS.imul X0.here hx rfl (hb hby d_method_2_code_25) rfl kt) ?_
    show own_Go p.tables e below (s₁.setTop (mkF m 26 #[.val (.long q0), .second, .val (.int p1), .val (.int p2)] [(.int ((8 : Int32) * ((9 : Int32) - p2))), (.int p1)])) _
    refine own_by (fun _ kt => XS.iushr X0.here hx rfl (hb hby d_method_2_code_26) rfl kt) ?_
    show own_Go p.tables e below (s₁.setTop (mkF m 27 #[.val (.long q0), .second, .val (.int p1), .val (.int p2)] [(.int ((p1.toUInt32 >>> (((8 : Int32) * ((9 : Int32) - p2)) &&& 31).toUInt32).toInt32))])) _
    refine own_by (fun _ kt => XS.i2b X0.here hx rfl (hb hby d_method_2_code_27) rfl kt) ?_
    show own_Go p.tables e below (s₁.setTop (mkF m 28 #[.val (.long q0), .second, .val (.int p1), .val (.int p2)] [(.int (((p1.toUInt32 >>> (((8 : Int32) * ((9 : Int32) - p2)) &&& 31).toUInt32).toInt32).toInt8.toInt32))])) _
    exact own_retN X0 hx (t := .byte) Bd.returns hlk (by simp) (hb hby d_method_2_code_28) ⟨by rw [own_raw, if_neg hc3_1] <;> rfl, N0, e0⟩ (by decide) (by decide)
def own_term (q0 : Int64) (p1 : Int32) (p2 : Int32) (p3 : Int32) : Int64 := (if p3 < p2 then ((((own_raw q0 p1 p3) &&& (31 : Int32)).toInt64) <<< (((45 : Int32) - ((5 : Int32) * p3)) &&& 0x3f).toInt64) else (0 : Int64))
theorem d_method_3_code_0 : decode method_3_code 0 = .ok (.iload 4, 2) := by decide +kernel
theorem d_method_3_code_2 : decode method_3_code 2 = .ok (.iload_n 3, 1) := by decide +kernel
theorem d_method_3_code_3 : decode method_3_code 3 = .ok (.if_icmp .lt 5, 3) := by decide +kernel
theorem d_method_3_code_8 : decode method_3_code 8 = .ok (.lload_n 0, 1) := by decide +kernel
theorem d_method_3_code_9 : decode method_3_code 9 = .ok (.iload_n 2, 1) := by decide +kernel
theorem d_method_3_code_10 : decode method_3_code 10 = .ok (.iload 4, 2) := by decide +kernel
theorem d_method_3_code_12 : decode method_3_code 12 = .ok (.invokestatic 7, 3) := by decide +kernel
theorem pd_0 : parseMethodDescriptor "(JII)B" = some ⟨[.long, .int, .int], some .byte⟩ := by decide +kernel
theorem d_method_3_code_15 : decode method_3_code 15 = .ok (.bipush 31, 2) := by decide +kernel
theorem d_method_3_code_17 : decode method_3_code 17 = .ok (.iand, 1) := by decide +kernel
theorem d_method_3_code_18 : decode method_3_code 18 = .ok (.i2l, 1) := by decide +kernel
theorem d_method_3_code_19 : decode method_3_code 19 = .ok (.bipush 45, 2) := by decide +kernel
theorem d_method_3_code_21 : decode method_3_code 21 = .ok (.iconst 5, 1) := by decide +kernel
theorem d_method_3_code_22 : decode method_3_code 22 = .ok (.iload 4, 2) := by decide +kernel
theorem d_method_3_code_24 : decode method_3_code 24 = .ok (.imul, 1) := by decide +kernel
theorem d_method_3_code_25 : decode method_3_code 25 = .ok (.isub, 1) := by decide +kernel
theorem d_method_3_code_26 : decode method_3_code 26 = .ok (.lshl, 1) := by decide +kernel
theorem d_method_3_code_27 : decode method_3_code 27 = .ok (.lreturn, 1) := by decide +kernel
theorem d_method_3_code_6 : decode method_3_code 6 = .ok (.lconst 0, 1) := by decide +kernel
theorem d_method_3_code_7 : decode method_3_code 7 = .ok (.lreturn, 1) := by decide +kernel
theorem ef_3 (m : MethodId) (q0 : Int64) (p1 : Int32) (p2 : Int32) (p3 : Int32) : entryFrame m #[(.long q0), (.int p1), (.int p2), (.int p3)] 5 = mkF m 0 #[.val (.long q0), .second, .val (.int p1), .val (.int p2), .val (.int p3)] [] := by first | (simp [entryFrame, mkF, argsToLocals, Value.category]; done) | rfl
def Q_rm_own_term (Z : State) (q0 : Int64) (p1 : Int32) (p2 : Int32) (p3 : Int32)  (h0 : Heap) (n0 : Nat) (v : Option Value) (h : Heap) (L : List Loc) : Prop := v = some (.long (own_term q0 p1 p2 p3)) ∧ Fr n0 L ∧ h = h0
set_option maxRecDepth 65536 in
set_option maxHeartbeats 40000000 in
theorem rm_own_term (l : Launch) (Z : State) (a0 : Array Value) (hw : ∀ d ∈ tables_1, d.before a0 Z = true) (ws : List Jvm.Cond) (q0 : Int64) (p1 : Int32) (p2 : Int32) (p3 : Int32)  (h0 : Heap) (n0 : Nat) (Z0 : n0 ≤ h0.size)  :
    MetFree l (⟨"com/example/relampago/relampago/bolt11/Bech32BytesPinLaw", "term", "(JIII)J"⟩ : MethodName) (head1 (Jvm.Cond.code (⟨"com/example/relampago/relampago/bolt11/Bech32BytesPinLaw", "term", "(JIII)J"⟩ : MethodName) method_3_code 5 (some .long) :: ws) ({ frames := 1, cells := 0, slots := 0, locals := 15 } : Room)) (fun av_ U => av_ = #[(.long q0), (.int p1), (.int p2), (.int p3)] ∧ Z.Warmed39 U.vm ∧ U.heap = h0) (fun _ _ _ _ _ => True) (fun _ U o U' => ∃ v L, o = .returned v ∧ Q_rm_own_term Z q0 p1 p2 p3 h0 n0 v U'.heap L ∧ FrameEnd U o U' L ({ frames := 1, cells := 0, slots := 0, locals := 15 } : Room).cells ({ frames := 1, cells := 0, slots := 0, locals := 15 } : Room).slots) := by
  refine MetFree.of_bodySF (plainFor_of_name pn_0) hisR ?_
  intro p e s m args below meth c s₁ Bd hml0 hP hK
  obtain ⟨rfl, hZ, hh⟩ := hP
  have hx := Bd.exec
  have hby := Bd.bytes
  have hml : c.maxLocals = 5 := hml0
  have hown : s.vm.findClass "com/example/relampago/relampago/bolt11/Bech32BytesPinLaw" = some m.cls := findClass_of_methodNamed Bd.named
  have hnm := (name_of_methodNamed Bd.named Bd.method).1
  have hlk : meth.locks = false := BodyLoose.notSynchronized Bd
  have X0 : Stand p l e ({ frames := 1, cells := 0, slots := 0, locals := 15 } : Room) s m #[(.long q0), (.int p1), (.int p2), (.int p3)] below meth c s₁ [] 0 0 := Stand.of_body Bd
  have e0 : s₁.heap = h0 := by rw [← hh, Bd.state]; rfl
  have N0 := Fr.nil n0
  refine own_by (fun _ kt => castTop (ef_3 m q0 p1 p2 p3) kt) (R := own_R s (Q_rm_own_term Z q0 p1 p2 p3 h0 n0) 0 0) ?_
  show own_Go p.tables e below (s₁.setTop (mkF m 0 #[.val (.long q0), .second, .val (.int p1), .val (.int p2), .val (.int p3)] [])) _
  refine own_by (fun _ kt => XS.iload X0.here hx rfl (hb hby d_method_3_code_0) rfl kt) ?_
  show own_Go p.tables e below (s₁.setTop (mkF m 2 #[.val (.long q0), .second, .val (.int p1), .val (.int p2), .val (.int p3)] [(.int p3)])) _
  refine own_by (fun _ kt => XS.iloadN X0.here hx rfl (hb hby d_method_3_code_2) rfl kt) ?_
  show own_Go p.tables e below (s₁.setTop (mkF m 3 #[.val (.long q0), .second, .val (.int p1), .val (.int p2), .val (.int p3)] [(.int p2), (.int p3)])) _
  by_cases hc3_1 : p3 < p2
  · refine own_by (fun _ kt => XS.icmpYes X0.here hx rfl (pc0 := 3) (pc' := 8) rfl (hb hby d_method_3_code_3) rfl (tlt hc3_1).1 (by decide) (by decide) kt) ?_
    show own_Go p.tables e below (s₁.setTop (mkF m 8 #[.val (.long q0), .second, .val (.int p1), .val (.int p2), .val (.int p3)] [])) _
    refine own_by (fun _ kt => XS.lloadN X0.here hx rfl (hb hby d_method_3_code_8) rfl kt) ?_
    show own_Go p.tables e below (s₁.setTop (mkF m 9 #[.val (.long q0), .second, .val (.int p1), .val (.int p2), .val (.int p3)] [(.long q0)])) _
    refine own_by (fun _ kt => XS.iloadN X0.here hx rfl (hb hby d_method_3_code_9) rfl kt) ?_
    show own_Go p.tables e below (s₁.setTop (mkF m 10 #[.val (.long q0), .second, .val (.int p1), .val (.int p2), .val (.int p3)] [(.int p1), (.long q0)])) _
    refine own_by (fun _ kt => XS.iload X0.here hx rfl (hb hby d_method_3_code_10) rfl kt) ?_
    show own_Go p.tables e below (s₁.setTop (mkF m 12 #[.val (.long q0), .second, .val (.int p1), .val (.int p2), .val (.int p3)] [(.int p3), (.int p1), (.long q0)])) _
    obtain ⟨_, _, ⟨T2, L2, k2, n2⟩, -, X2, ⟨Lc2, hQ2, l2, y2, z2⟩, st2⟩ := Jvm.LawKit.callS X0 hx (y := (⟨"com/example/relampago/relampago/bolt11/Bech32BytesPinLaw", "raw", "(JII)B"⟩ : MethodName)) hown (mvT hZ (hw _ (List.mem_of_getElem? (i := 2) rfl))) (mvT hZ (hw _ (List.mem_of_getElem? (i := 3) rfl))) (mvT hZ (hw _ (List.mem_of_getElem? (i := 4) rfl))) (mvT hZ (hw _ (List.mem_of_getElem? (i := 5) rfl))) (by decide) (backOf (W := 0) (rm_own_raw l Z a0 hw [] q0 p1 p3 h0 n0 Z0) hZ (hw _ (List.mem_of_getElem? (i := 5) rfl)) (hw _ (List.mem_of_getElem? (i := 4) rfl)) (by decide) (by decide)) (g := (mkF m 12 #[.val (.long q0), .second, .val (.int p1), .val (.int p2), .val (.int p3)] [(.int p3), (.int p1), (.long q0)])) rfl (by rw [hml]; rfl) (argsL := [(.long q0), (.int p1), (.int p3)]) (rest := []) (lenOf pd_0 rfl) rfl (by show 2 * 0 + _ ≤ _; exact Nat.le_of_eq rfl) (hb hby d_method_3_code_12) (fun _ _ => ⟨rfl, e0, (by decide : 0 + 0 ≤ _), (by decide : 0 + 0 ≤ _)⟩)
    dsimp only [Pt.U, Pt.locs, Pt.cells, Pt.slots] at X2 l2 y2 z2 st2 hQ2
    obtain rfl : k2 = 0 := y2
    obtain rfl : n2 = 0 := z2
    obtain ⟨rfl, Nq2, eh2⟩ := hQ2
    have N2 : Fr n0 L2 := by rw [l2]; exact Fr.app N0 Nq2
    refine own_by (st2) ?_
    show own_Go p.tables e below (T2.setTop (mkF m 15 #[.val (.long q0), .second, .val (.int p1), .val (.int p2), .val (.int p3)] [(.int (own_raw q0 p1 p3))])) _
    refine own_by (fun _ kt => XS.bipush X2.here hx rfl (hb hby d_method_3_code_15) kt) ?_
    show own_Go p.tables e below (T2.setTop (mkF m 17 #[.val (.long q0), .second, .val (.int p1), .val (.int p2), .val (.int p3)] [(.int (31 : Int32)), (.int (own_raw q0 p1 p3))])) _
    refine own_by (fun _ kt => XS.iand X2.here hx rfl (hb hby d_method_3_code_17) rfl kt) ?_
    show own_Go p.tables e below (T2.setTop (mkF m 18 #[.val (.long q0), .second, .val (.int p1), .val (.int p2), .val (.int p3)] [(.int ((own_raw q0 p1 p3) &&& (31 : Int32)))])) _
    refine own_by (fun _ kt => XS.i2l X2.here hx rfl (hb hby d_method_3_code_18) rfl kt) ?_
    show own_Go p.tables e below (T2.setTop (mkF m 19 #[.val (.long q0), .second, .val (.int p1), .val (.int p2), .val (.int p3)] [(.long (((own_raw q0 p1 p3) &&& (31 : Int32)).toInt64))])) _
    refine own_by (fun _ kt => XS.bipush X2.here hx rfl (hb hby d_method_3_code_19) kt) ?_
    show own_Go p.tables e below (T2.setTop (mkF m 21 #[.val (.long q0), .second, .val (.int p1), .val (.int p2), .val (.int p3)] [(.int (45 : Int32)), (.long (((own_raw q0 p1 p3) &&& (31 : Int32)).toInt64))])) _
    refine own_by (fun _ kt => XS.iconst X2.here hx rfl (hb hby d_method_3_code_21) kt) ?_
    show own_Go p.tables e below (T2.setTop (mkF m 22 #[.val (.long q0), .second, .val (.int p1), .val (.int p2), .val (.int p3)] [(.int (5 : Int32)), (.int (45 : Int32)), (.long (((own_raw q0 p1 p3) &&& (31 : Int32)).toInt64))])) _
    refine own_by (fun _ kt => XS.iload X2.here hx rfl (hb hby d_method_3_code_22) rfl kt) ?_
    show own_Go p.tables e below (T2.setTop (mkF m 24 #[.val (.long q0), .second, .val (.int p1), .val (.int p2), .val (.int p3)] [(.int p3), (.int (5 : Int32)), (.int (45 : Int32)), (.long (((own_raw q0 p1 p3) &&& (31 : Int32)).toInt64))])) _
    refine own_by (fun _ kt => XS.imul X2.here hx rfl (hb hby d_method_3_code_24) rfl kt) ?_
    show own_Go p.tables e below (T2.setTop (mkF m 25 #[.val (.long q0), .second, .val (.int p1), .val (.int p2), .val (.int p3)] [(.int ((5 : Int32) * p3)), (.int (45 : Int32)), (.long (((own_raw q0 p1 p3) &&& (31 : Int32)).toInt64))])) _
    refine own_by (fun _ kt => XS.isub X2.here hx rfl (hb hby d_method_3_code_25) rfl kt) ?_
    show own_Go p.tables e below (T2.setTop (mkF m 26 #[.val (.long q0), .second, .val (.int p1), .val (.int p2), .val (.int p3)] [(.int ((45 : Int32) - ((5 : Int32) * p3))), (.long (((own_raw q0 p1 p3) &&& (31 : Int32)).toInt64))])) _
    refine own_by (fun _ kt => XS.lshl X2.here hx rfl (hb hby d_method_3_code_26) rfl kt) ?_
    show own_Go p.tables e below (T2.setTop (mkF m 27 #[.val (.long q0), .second, .val (.int p1), .val (.int p2), .val (.int p3)] [(.long ((((own_raw q0 p1 p3) &&& (31 : Int32)).toInt64) <<< (((45 : Int32) - ((5 : Int32) * p3)) &&& 0x3f).toInt64))])) _
    exact own_retL X2 hx Bd.returns hlk (hb hby d_method_3_code_27) ⟨by rw [own_term, if_pos hc3_1] <;> rfl, N2, eh2⟩ (by decide) (by decide)
  · refine own_by (fun _ kt => XS.icmpNo X0.here hx rfl (hb hby d_method_3_code_3) rfl (flt hc3_1).1 kt) ?_
    show own_Go p.tables e below (s₁.setTop (mkF m 6 #[.val (.long q0), .second, .val (.int p1), .val (.int p2), .val (.int p3)] [])) _
    refine own_by (fun _ kt => XS.lconst X0.here hx rfl (hb hby d_method_3_code_6) kt) ?_
    show own_Go p.tables e below (s₁.setTop (mkF m 7 #[.val (.long q0), .second, .val (.int p1), .val (.int p2), .val (.int p3)] [(.long (0 : Int64))])) _
    exact own_retL X0 hx Bd.returns hlk (hb hby d_method_3_code_7) ⟨by rw [own_term, if_neg hc3_1] <;> rfl, N0, e0⟩ (by decide) (by decide)
theorem own_minN {x y : Int32} {a b : Nat} (hx : x.toInt = a) (hy : y.toInt = b) : (own_min x y).toInt = ((min a b : Nat) : Int) := by
  unfold own_min
  split
  · rename_i h; rw [Int32.lt_iff_toInt_lt] at h; rw [hy]; omega
  · rename_i h; rw [Int32.lt_iff_toInt_lt] at h; rw [hx]; omega
theorem own_bits {z u : Int32} {n w : Nat} (hz : z.toInt = n) (hu : u.toInt = w) (hn : n ≤ 10) (hw : w ≤ 7) : (own_min (z * (5 : Int32)) (u * (8 : Int32))).toInt = ((min (n * 5) (w * 8) : Nat) : Int) :=
  own_minN (own_mulN hz (d := 5) rfl (by omega)) (own_mulN hu (d := 8) rfl (by omega))
theorem own_ilt {i y : Int32} {t b : Nat} (hi : i = Int32.ofNat t) (hy : y.toInt = b) (ht : t ≤ b) (hb : b < 1000) : (i < y) ↔ t < b := by
  subst hi
  rw [Int32.lt_iff_toInt_lt, own_ofNat (by omega), hy]; omega
theorem pn_1 : plainName "com/example/relampago/relampago/bolt11/Bech32" = true := by first | (simp [plainName, overriddenIn]; done) | decide +kernel
theorem d_prog_2_method_5_code_0 : decode prog_2_method_5_code 0 = .ok (.iload_n 1, 1) := by decide +kernel
theorem d_prog_2_method_5_code_1 : decode prog_2_method_5_code 1 = .ok (.newarray .byte, 2) := by decide +kernel
theorem d_prog_2_method_5_code_3 : decode prog_2_method_5_code 3 = .ok (.astore_n 2, 1) := by decide +kernel
theorem d_prog_2_method_5_code_4 : decode prog_2_method_5_code 4 = .ok (.aload_n 0, 1) := by decide +kernel
theorem d_prog_2_method_5_code_5 : decode prog_2_method_5_code 5 = .ok (.arraylength, 1) := by decide +kernel
theorem d_prog_2_method_5_code_6 : decode prog_2_method_5_code 6 = .ok (.iconst 5, 1) := by decide +kernel
theorem d_prog_2_method_5_code_7 : decode prog_2_method_5_code 7 = .ok (.imul, 1) := by decide +kernel
theorem d_prog_2_method_5_code_8 : decode prog_2_method_5_code 8 = .ok (.iload_n 1, 1) := by decide +kernel
theorem d_prog_2_method_5_code_9 : decode prog_2_method_5_code 9 = .ok (.bipush 8, 2) := by decide +kernel
theorem d_prog_2_method_5_code_11 : decode prog_2_method_5_code 11 = .ok (.imul, 1) := by decide +kernel
theorem d_prog_2_method_5_code_12 : decode prog_2_method_5_code 12 = .ok (.invokestatic 90, 3) := by decide +kernel
theorem pd_1 : parseMethodDescriptor "(II)I" = some ⟨[.int, .int], some .int⟩ := by decide +kernel
theorem d_prog_2_method_5_code_15 : decode prog_2_method_5_code 15 = .ok (.istore_n 3, 1) := by decide +kernel
theorem d_prog_2_method_5_code_16 : decode prog_2_method_5_code 16 = .ok (.iconst 0, 1) := by decide +kernel
theorem d_prog_2_method_5_code_17 : decode prog_2_method_5_code 17 = .ok (.istore 4, 2) := by decide +kernel
theorem d_prog_2_method_5_code_19 : decode prog_2_method_5_code 19 = .ok (.iload 4, 2) := by decide +kernel
theorem d_prog_2_method_5_code_21 : decode prog_2_method_5_code 21 = .ok (.iload_n 3, 1) := by decide +kernel
theorem d_prog_2_method_5_code_22 : decode prog_2_method_5_code 22 = .ok (.if_icmp .ge 47, 3) := by decide +kernel
theorem d_prog_2_method_5_code_69 : decode prog_2_method_5_code 69 = .ok (.aload_n 2, 1) := by decide +kernel
theorem d_prog_2_method_5_code_70 : decode prog_2_method_5_code 70 = .ok (.areturn, 1) := by decide +kernel
theorem d_prog_2_method_5_code_25 : decode prog_2_method_5_code 25 = .ok (.aload_n 0, 1) := by decide +kernel
theorem d_prog_2_method_5_code_26 : decode prog_2_method_5_code 26 = .ok (.iload 4, 2) := by decide +kernel
theorem d_prog_2_method_5_code_28 : decode prog_2_method_5_code 28 = .ok (.iconst 5, 1) := by decide +kernel
theorem d_prog_2_method_5_code_29 : decode prog_2_method_5_code 29 = .ok (.idiv, 1) := by decide +kernel
theorem d_prog_2_method_5_code_30 : decode prog_2_method_5_code 30 = .ok (.baload, 1) := by decide +kernel
theorem d_prog_2_method_5_code_31 : decode prog_2_method_5_code 31 = .ok (.bipush 16, 2) := by decide +kernel
theorem d_prog_2_method_5_code_33 : decode prog_2_method_5_code 33 = .ok (.iload 4, 2) := by decide +kernel
theorem d_prog_2_method_5_code_35 : decode prog_2_method_5_code 35 = .ok (.iconst 5, 1) := by decide +kernel
theorem d_prog_2_method_5_code_36 : decode prog_2_method_5_code 36 = .ok (.irem, 1) := by decide +kernel
theorem d_prog_2_method_5_code_37 : decode prog_2_method_5_code 37 = .ok (.iushr, 1) := by decide +kernel
theorem d_prog_2_method_5_code_38 : decode prog_2_method_5_code 38 = .ok (.iand, 1) := by decide +kernel
theorem d_prog_2_method_5_code_39 : decode prog_2_method_5_code 39 = .ok (.ifCond .eq 24, 3) := by decide +kernel
theorem d_prog_2_method_5_code_63 : decode prog_2_method_5_code 63 = .ok (.iinc 4 1, 3) := by decide +kernel
theorem d_prog_2_method_5_code_66 : decode prog_2_method_5_code 66 = .ok (.goto (-47), 3) := by decide +kernel
theorem d_prog_2_method_5_code_42 : decode prog_2_method_5_code 42 = .ok (.aload_n 2, 1) := by decide +kernel
theorem d_prog_2_method_5_code_43 : decode prog_2_method_5_code 43 = .ok (.iload 4, 2) := by decide +kernel
theorem d_prog_2_method_5_code_45 : decode prog_2_method_5_code 45 = .ok (.bipush 8, 2) := by decide +kernel
theorem d_prog_2_method_5_code_47 : decode prog_2_method_5_code 47 = .ok (.idiv, 1) := by decide +kernel
theorem d_prog_2_method_5_code_48 : decode prog_2_method_5_code 48 = .ok (.dup2, 1) := by decide +kernel
theorem d_prog_2_method_5_code_49 : decode prog_2_method_5_code 49 = .ok (.baload, 1) := by decide +kernel
theorem d_prog_2_method_5_code_50 : decode prog_2_method_5_code 50 = .ok (.sipush 128, 3) := by decide +kernel
theorem d_prog_2_method_5_code_53 : decode prog_2_method_5_code 53 = .ok (.iload 4, 2) := by decide +kernel
theorem d_prog_2_method_5_code_55 : decode prog_2_method_5_code 55 = .ok (.bipush 8, 2) := by decide +kernel
theorem d_prog_2_method_5_code_57 : decode prog_2_method_5_code 57 = .ok (.irem, 1) := by decide +kernel
theorem d_prog_2_method_5_code_58 : decode prog_2_method_5_code 58 = .ok (.iushr, 1) := by decide +kernel
theorem d_prog_2_method_5_code_59 : decode prog_2_method_5_code 59 = .ok (.i2b, 1) := by decide +kernel
theorem d_prog_2_method_5_code_60 : decode prog_2_method_5_code 60 = .ok (.ior, 1) := by decide +kernel
theorem d_prog_2_method_5_code_61 : decode prog_2_method_5_code 61 = .ok (.i2b, 1) := by decide +kernel
theorem d_prog_2_method_5_code_62 : decode prog_2_method_5_code 62 = .ok (.bastore, 1) := by decide +kernel
theorem ef_4 (m : MethodId) (b : Addr) (u : Int32) : entryFrame m #[(.ref b), (.int u)] 5 = mkF m 0 #[.val (.ref b), .val (.int u), .unset, .unset, .unset] [] := by first | (simp [entryFrame, mkF, argsToLocals, Value.category]; done) | rfl
def Q_rm_bytes (Z : State) (b : Addr) (u : Int32) (kb : ClassId) (n : Nat) (f : Nat → Int32) (z : Int32) (w : Nat) (h0 : Heap) (n0 : Nat) (v : Option Value) (h : Heap) (L : List Loc) : Prop := ∃ (r : Addr) (kr : ClassId), v = some (.ref r) ∧ Fr n0 L ∧ Keep h0 h [] ∧ n0 ≤ r ∧ h0.size ≤ r ∧ own_Arf Z h r kr .byte w (own_G f (min (n * 5) (w * 8)))
set_option maxRecDepth 65536 in
set_option maxHeartbeats 40000000 in
theorem rm_bytes (l : Launch) (Z : State) (a0 : Array Value) (hw : ∀ d ∈ tables_1, d.before a0 Z = true) (ws : List Jvm.Cond) (b : Addr) (u : Int32) (kb : ClassId) (n : Nat) (f : Nat → Int32) (z : Int32) (w : Nat) (h0 : Heap) (n0 : Nat) (Z0 : n0 ≤ h0.size) (U_b : own_Arf Z h0 b kb .byte n f) (hz : z.toInt = n) (hu : u.toInt = w) (h10 : n ≤ 10) (h7 : w ≤ 7) :
    MetFree l (⟨"com/example/relampago/relampago/bolt11/Bech32", "bytes", "([BI)[B"⟩ : MethodName) (head1 (Jvm.Cond.code (⟨"com/example/relampago/relampago/bolt11/Bech32", "bytes", "([BI)[B"⟩ : MethodName) prog_2_method_5_code 5 (some (.array .byte)) :: ws) ({ frames := 1, cells := 1, slots := 7, locals := 13 } : Room)) (fun av_ U => av_ = #[(.ref b), (.int u)] ∧ Z.Warmed39 U.vm ∧ U.heap = h0) (fun _ _ _ _ _ => True) (fun _ U o U' => ∃ v L, o = .returned v ∧ Q_rm_bytes Z b u kb n f z w h0 n0 v U'.heap L ∧ FrameEnd U o U' L ({ frames := 1, cells := 1, slots := 7, locals := 13 } : Room).cells ({ frames := 1, cells := 1, slots := 7, locals := 13 } : Room).slots) := by
  refine MetFree.of_bodySF (plainFor_of_name pn_1) hisR ?_
  intro p e s m args below meth c s₁ Bd hml0 hP hK
  obtain ⟨rfl, hZ, hh⟩ := hP
  have hx := Bd.exec
  have hby := Bd.bytes
  have hml : c.maxLocals = 5 := hml0
  have hown : s.vm.findClass "com/example/relampago/relampago/bolt11/Bech32" = some m.cls := findClass_of_methodNamed Bd.named
  have hnm := (name_of_methodNamed Bd.named Bd.method).1
  have hlk : meth.locks = false := BodyLoose.notSynchronized Bd
  have X0 : Stand p l e ({ frames := 1, cells := 1, slots := 7, locals := 13 } : Room) s m #[(.ref b), (.int u)] below meth c s₁ [] 0 0 := Stand.of_body Bd
  have e0 : s₁.heap = h0 := by rw [← hh, Bd.state]; rfl
  have N0 := Fr.nil n0
  refine own_by (fun _ kt => castTop (ef_4 m b u) kt) (R := own_R s (Q_rm_bytes Z b u kb n f z w h0 n0) 1 7) ?_
  show own_Go p.tables e below (s₁.setTop (mkF m 0 #[.val (.ref b), .val (.int u), .unset, .unset, .unset] [])) _
  refine own_by (fun _ kt => XS.iloadN X0.here hx rfl (hb hby d_prog_2_method_5_code_0) rfl kt) ?_
  show own_Go p.tables e below (s₁.setTop (mkF m 1 #[.val (.ref b), .val (.int u), .unset, .unset, .unset] [(.int u)])) _
  obtain ⟨T1, h1, k1, X1, e1, E1, A1, st1⟩ := newP X0 hx hZ (hw _ (List.mem_of_getElem? (i := 1) rfl)) e0 (g := (mkF m 1 #[.val (.ref b), .val (.int u), .unset, .unset, .unset] [(.int u)])) rfl (hb hby d_prog_2_method_5_code_1) rfl (own_neg hu) (cap := 7) (own_cap hu h7) (by decide) (by decide) (by decide)
  obtain ⟨b1, g1⟩ : ∃ z, z = h0.size := ⟨_, rfl⟩
  rw [← g1] at A1 st1
  have gn_b1 : n0 ≤ b1 := Nat.le_trans Z0 (Nat.le_of_eq g1.symm)
  have sz_b1 : h0.size ≤ b1 := Nat.le_trans (Keep.refl h0 []).1 (Nat.le_of_eq g1.symm)
  have ne_b_b1 : b ≠ b1 := Nat.ne_of_lt (Nat.lt_of_lt_of_le U_b.lt (Nat.le_of_eq g1.symm))
  have f2 := U_b.ext E1
  have Zs1 : n0 ≤ h1.size := Nat.le_trans Z0 E1.1
  have K1 : Keep h0 h1 [] := (Keep.refl h0 []).ext E1
  have f3 : own_Arf Z h1 b1 k1 .byte w (fun _ => (0 : Int32)) := own_Arf.new A1 hu
  refine own_by st1 ?_
  show own_Go p.tables e below (T1.setTop (mkF m 3 #[.val (.ref b), .val (.int u), .unset, .unset, .unset] [(.ref b1)])) _
  refine own_by (fun _ kt => XS.astoreN X1.here hx rfl (hb hby d_prog_2_method_5_code_3) rfl rfl (l' := #[.val (.ref b), .val (.int u), .val (.ref b1), .unset, .unset]) rfl kt) ?_
  show own_Go p.tables e below (T1.setTop (mkF m 4 #[.val (.ref b), .val (.int u), .val (.ref b1), .unset, .unset] [])) _
  refine own_by (fun _ kt => XS.aloadN X1.here hx rfl (hb hby d_prog_2_method_5_code_4) rfl rfl kt) ?_
  show own_Go p.tables e below (T1.setTop (mkF m 5 #[.val (.ref b), .val (.int u), .val (.ref b1), .unset, .unset] [(.ref b)])) _
  refine own_by (own_ulen X1 hx hZ e1 f2 hz (g := (mkF m 5 #[.val (.ref b), .val (.int u), .val (.ref b1), .unset, .unset] [(.ref b)])) rfl rfl (hb hby d_prog_2_method_5_code_5)) ?_
  show own_Go p.tables e below (T1.setTop (mkF m 6 #[.val (.ref b), .val (.int u), .val (.ref b1), .unset, .unset] [(.int z)])) _
  refine own_by (fun _ kt => XS.iconst X1.here hx rfl (hb hby d_prog_2_method_5_code_6) kt) ?_
  show own_Go p.tables e below (T1.setTop (mkF m 7 #[.val (.ref b), .val (.int u), .val (.ref b1), .unset, .unset] [(.int (5 : Int32)), (.int z)])) _
  refine own_by (fun _ kt => XS.imul X1.here hx rfl (hb hby d_prog_2_method_5_code_7) rfl kt) ?_
  show own_Go p.tables e below (T1.setTop (mkF m 8 #[.val (.ref b), .val (.int u), .val (.ref b1), .unset, .unset] [(.int (z * (5 : Int32)))])) _
  refine own_by (fun _ kt => XS.iloadN X1.here hx rfl (hb hby d_prog_2_method_5_code_8) rfl kt) ?_
  show own_Go p.tables e below (T1.setTop (mkF m 9 #[.val (.ref b), .val (.int u), .val (.ref b1), .unset, .unset] [(.int u), (.int (z * (5 : Int32)))])) _
  refine own_by (fun _ kt => XS.bipush X1.here hx rfl (hb hby d_prog_2_method_5_code_9) kt) ?_
  show own_Go p.tables e below (T1.setTop (mkF m 11 #[.val (.ref b), .val (.int u), .val (.ref b1), .unset, .unset] [(.int (8 : Int32)), (.int u), (.int (z * (5 : Int32)))])) _
  refine own_by (fun _ kt => XS.imul X1.here hx rfl (hb hby d_prog_2_method_5_code_11) rfl kt) ?_
  show own_Go p.tables e below (T1.setTop (mkF m 12 #[.val (.ref b), .val (.int u), .val (.ref b1), .unset, .unset] [(.int (u * (8 : Int32))), (.int (z * (5 : Int32)))])) _
  obtain ⟨_, _, ⟨T4, L4, k4, n4⟩, -, X4, ⟨Lc4, hQ4, l4, y4, z4⟩, st4⟩ := Jvm.LawKit.callS X1 hx (y := (⟨"java/lang/Math", "min", "(II)I"⟩ : MethodName)) hown (mvT hZ (hw _ (List.mem_of_getElem? (i := 13) rfl))) (mvT hZ (hw _ (List.mem_of_getElem? (i := 14) rfl))) (mvT hZ (hw _ (List.mem_of_getElem? (i := 15) rfl))) (mvT hZ (hw _ (List.mem_of_getElem? (i := 16) rfl))) (by decide) (backOf (W := 0) (rm_own_min l Z a0 hw [] (z * (5 : Int32)) (u * (8 : Int32)) h1 n0 Zs1) hZ (hw _ (List.mem_of_getElem? (i := 16) rfl)) (hw _ (List.mem_of_getElem? (i := 15) rfl)) (by decide) (by decide)) (g := (mkF m 12 #[.val (.ref b), .val (.int u), .val (.ref b1), .unset, .unset] [(.int (u * (8 : Int32))), (.int (z * (5 : Int32)))])) rfl (by rw [hml]; rfl) (argsL := [(.int (z * (5 : Int32))), (.int (u * (8 : Int32)))]) (rest := []) (lenOf pd_1 rfl) rfl (by show 2 * 0 + _ ≤ _; exact Nat.le_of_eq rfl) (hb hby d_prog_2_method_5_code_12) (fun _ _ => ⟨rfl, e1, (by decide : 1 + 0 ≤ _), (by decide : 7 + 0 ≤ _)⟩)
  dsimp only [Pt.U, Pt.locs, Pt.cells, Pt.slots] at X4 l4 y4 z4 st4 hQ4
  obtain rfl : k4 = 1 := y4
  obtain rfl : n4 = 7 := z4
  obtain ⟨rfl, Nq4, eh4⟩ := hQ4
  have N4 : Fr n0 L4 := by rw [l4]; exact Fr.app N0 Nq4
  refine own_by (st4) ?_
  show own_Go p.tables e below (T4.setTop (mkF m 15 #[.val (.ref b), .val (.int u), .val (.ref b1), .unset, .unset] [(.int (own_min (z * (5 : Int32)) (u * (8 : Int32))))])) _
  refine own_by (fun _ kt => XS.istoreN X4.here hx rfl (hb hby d_prog_2_method_5_code_15) rfl (l' := #[.val (.ref b), .val (.int u), .val (.ref b1), .val (.int (own_min (z * (5 : Int32)) (u * (8 : Int32)))), .unset]) rfl kt) ?_
  show own_Go p.tables e below (T4.setTop (mkF m 16 #[.val (.ref b), .val (.int u), .val (.ref b1), .val (.int (own_min (z * (5 : Int32)) (u * (8 : Int32)))), .unset] [])) _
  refine own_by (fun _ kt => XS.iconst X4.here hx rfl (hb hby d_prog_2_method_5_code_16) kt) ?_
  show own_Go p.tables e below (T4.setTop (mkF m 17 #[.val (.ref b), .val (.int u), .val (.ref b1), .val (.int (own_min (z * (5 : Int32)) (u * (8 : Int32)))), .unset] [(.int (0 : Int32))])) _
  refine own_by (fun _ kt => XS.istore X4.here hx rfl (hb hby d_prog_2_method_5_code_17) rfl (l' := #[.val (.ref b), .val (.int u), .val (.ref b1), .val (.int (own_min (z * (5 : Int32)) (u * (8 : Int32)))), .val (.int (0 : Int32))]) rfl kt) ?_
  show own_Go p.tables e below (T4.setTop (mkF m 19 #[.val (.ref b), .val (.int u), .val (.ref b1), .val (.int (own_min (z * (5 : Int32)) (u * (8 : Int32)))), .val (.int (0 : Int32))] [])) _
  have J5 : ∀ (nn : Nat) (hJ5 : Heap) (TJ5 : State) (lJ5 : List Loc) (XJ5 : Stand p l e ({ frames := 1, cells := 1, slots := 7, locals := 13 } : Room) s m #[(.ref b), (.int u)] below meth c TJ5 lJ5 1 7) (eJ5 : TJ5.heap = hJ5) (NJ5 : Fr n0 lJ5) (i : Int32) (tt : Nat) (ZJ5 : n0 ≤ hJ5.size) (KJ5 : Keep h0 hJ5 []) (fJ5_0 : own_Arf Z hJ5 b kb .byte n f) (fJ5_1 : own_Arf Z hJ5 b1 k1 .byte w (own_G f tt)) (hi : i = Int32.ofNat tt) (hle : tt ≤ (min (n * 5) (w * 8))) (hn : (min (n * 5) (w * 8)) - tt = nn) , own_Go p.tables e below (TJ5.setTop (mkF m 19 #[.val (.ref b), .val (.int u), .val (.ref b1), .val (.int (own_min (z * (5 : Int32)) (u * (8 : Int32)))), .val (.int i)] [])) (own_R s (Q_rm_bytes Z b u kb n f z w h0 n0) 1 7) := by
    intro nn
    induction nn with
    | zero =>
      intro hJ5 TJ5 lJ5 XJ5 eJ5 NJ5 i tt ZJ5 KJ5 fJ5_0 fJ5_1 hi hle hn
      refine own_by (fun _ kt => XS.iload XJ5.here hx rfl (hb hby d_prog_2_method_5_code_19) rfl kt) ?_
      show own_Go p.tables e below (TJ5.setTop (mkF m 21 #[.val (.ref b), .val (.int u), .val (.ref b1), .val (.int (own_min (z * (5 : Int32)) (u * (8 : Int32)))), .val (.int i)] [(.int i)])) _
      refine own_by (fun _ kt => XS.iloadN XJ5.here hx rfl (hb hby d_prog_2_method_5_code_21) rfl kt) ?_
      show own_Go p.tables e below (TJ5.setTop (mkF m 22 #[.val (.ref b), .val (.int u), .val (.ref b1), .val (.int (own_min (z * (5 : Int32)) (u * (8 : Int32)))), .val (.int i)] [(.int (own_min (z * (5 : Int32)) (u * (8 : Int32)))), (.int i)])) _
      refine own_by (fun _ kt => XS.icmpYes XJ5.here hx rfl (pc0 := 22) (pc' := 69) rfl (hb hby d_prog_2_method_5_code_22) rfl (flt (fun q => absurd ((own_ilt hi (own_bits hz hu h10 h7) hle (by omega)).mp q) (by omega) : ¬ (i < (own_min (z * (5 : Int32)) (u * (8 : Int32)))))).2.1 (by decide) (by decide) kt) ?_
      show own_Go p.tables e below (TJ5.setTop (mkF m 69 #[.val (.ref b), .val (.int u), .val (.ref b1), .val (.int (own_min (z * (5 : Int32)) (u * (8 : Int32)))), .val (.int i)] [])) _
      refine own_by (fun _ kt => XS.aloadN XJ5.here hx rfl (hb hby d_prog_2_method_5_code_69) rfl rfl kt) ?_
      show own_Go p.tables e below (TJ5.setTop (mkF m 70 #[.val (.ref b), .val (.int u), .val (.ref b1), .val (.int (own_min (z * (5 : Int32)) (u * (8 : Int32)))), .val (.int i)] [(.ref b1)])) _
      exact own_retA XJ5 hx Bd.returns hlk rfl rfl (hb hby d_prog_2_method_5_code_70) (by rw [eJ5]; exact ⟨b1, k1, rfl, NJ5, KJ5, gn_b1, sz_b1, (own_G_at (by omega) fJ5_1)⟩) (by decide) (by decide)
    | succ nn ih =>
      intro hJ5 TJ5 lJ5 XJ5 eJ5 NJ5 i tt ZJ5 KJ5 fJ5_0 fJ5_1 hi hle hn
      refine own_by (fun _ kt => XS.iload XJ5.here hx rfl (hb hby d_prog_2_method_5_code_19) rfl kt) ?_
      show own_Go p.tables e below (TJ5.setTop (mkF m 21 #[.val (.ref b), .val (.int u), .val (.ref b1), .val (.int (own_min (z * (5 : Int32)) (u * (8 : Int32)))), .val (.int i)] [(.int i)])) _
      refine own_by (fun _ kt => XS.iloadN XJ5.here hx rfl (hb hby d_prog_2_method_5_code_21) rfl kt) ?_
      show own_Go p.tables e below (TJ5.setTop (mkF m 22 #[.val (.ref b), .val (.int u), .val (.ref b1), .val (.int (own_min (z * (5 : Int32)) (u * (8 : Int32)))), .val (.int i)] [(.int (own_min (z * (5 : Int32)) (u * (8 : Int32)))), (.int i)])) _
      refine own_by (fun _ kt => XS.icmpNo XJ5.here hx rfl (hb hby d_prog_2_method_5_code_22) rfl (tlt ((own_ilt hi (own_bits hz hu h10 h7) hle (by omega)).mpr (by omega) : i < (own_min (z * (5 : Int32)) (u * (8 : Int32))))).2.1 kt) ?_
      show own_Go p.tables e below (TJ5.setTop (mkF m 25 #[.val (.ref b), .val (.int u), .val (.ref b1), .val (.int (own_min (z * (5 : Int32)) (u * (8 : Int32)))), .val (.int i)] [])) _
      refine own_by (fun _ kt => XS.aloadN XJ5.here hx rfl (hb hby d_prog_2_method_5_code_25) rfl rfl kt) ?_
      show own_Go p.tables e below (TJ5.setTop (mkF m 26 #[.val (.ref b), .val (.int u), .val (.ref b1), .val (.int (own_min (z * (5 : Int32)) (u * (8 : Int32)))), .val (.int i)] [(.ref b)])) _
      refine own_by (fun _ kt => XS.iload XJ5.here hx rfl (hb hby d_prog_2_method_5_code_26) rfl kt) ?_
      show own_Go p.tables e below (TJ5.setTop (mkF m 28 #[.val (.ref b), .val (.int u), .val (.ref b1), .val (.int (own_min (z * (5 : Int32)) (u * (8 : Int32)))), .val (.int i)] [(.int i), (.ref b)])) _
      refine own_by (fun _ kt => XS.iconst XJ5.here hx rfl (hb hby d_prog_2_method_5_code_28) kt) ?_
      show own_Go p.tables e below (TJ5.setTop (mkF m 29 #[.val (.ref b), .val (.int u), .val (.ref b1), .val (.int (own_min (z * (5 : Int32)) (u * (8 : Int32)))), .val (.int i)] [(.int (5 : Int32)), (.int i), (.ref b)])) _
      refine own_by (fun _ kt => XS.idiv XJ5.here hx rfl (hb hby d_prog_2_method_5_code_29) rfl (by decide) kt) ?_
      show own_Go p.tables e below (TJ5.setTop (mkF m 30 #[.val (.ref b), .val (.int u), .val (.ref b1), .val (.int (own_min (z * (5 : Int32)) (u * (8 : Int32)))), .val (.int i)] [(.int (i / (5 : Int32))), (.ref b)])) _
      refine own_by (own_uload XJ5 hx hZ eJ5 fJ5_0 (j := (i / (5 : Int32))) (i := (tt / 5)) (own_divN hi (by omega) (c := 5) (d := 5) rfl (by decide) (by decide)) (by omega) (g := (mkF m 30 #[.val (.ref b), .val (.int u), .val (.ref b1), .val (.int (own_min (z * (5 : Int32)) (u * (8 : Int32)))), .val (.int i)] [(.int (i / (5 : Int32))), (.ref b)])) rfl rfl (hb hby d_prog_2_method_5_code_30)) ?_
      show own_Go p.tables e below (TJ5.setTop (mkF m 31 #[.val (.ref b), .val (.int u), .val (.ref b1), .val (.int (own_min (z * (5 : Int32)) (u * (8 : Int32)))), .val (.int i)] [(.int (f (tt / 5)))])) _
      refine own_by (fun _ kt => XS.bipush XJ5.here hx rfl (hb hby d_prog_2_method_5_code_31) kt) ?_
      show own_Go p.tables e below (TJ5.setTop (mkF m 33 #[.val (.ref b), .val (.int u), .val (.ref b1), .val (.int (own_min (z * (5 : Int32)) (u * (8 : Int32)))), .val (.int i)] [(.int (16 : Int32)), (.int (f (tt / 5)))])) _
      refine own_by (fun _ kt => XS.iload XJ5.here hx rfl (hb hby d_prog_2_method_5_code_33) rfl kt) ?_
      show own_Go p.tables e below (TJ5.setTop (mkF m 35 #[.val (.ref b), .val (.int u), .val (.ref b1), .val (.int (own_min (z * (5 : Int32)) (u * (8 : Int32)))), .val (.int i)] [(.int i), (.int (16 : Int32)), (.int (f (tt / 5)))])) _
      refine own_by (fun _ kt => XS.iconst XJ5.here hx rfl (hb hby d_prog_2_method_5_code_35) kt) ?_
      show own_Go p.tables e below (TJ5.setTop (mkF m 36 #[.val (.ref b), .val (.int u), .val (.ref b1), .val (.int (own_min (z * (5 : Int32)) (u * (8 : Int32)))), .val (.int i)] [(.int (5 : Int32)), (.int i), (.int (16 : Int32)), (.int (f (tt / 5)))])) _
      refine own_by (fun _ kt => iremM XJ5 hx rfl (hb hby d_prog_2_method_5_code_36) rfl (by decide) kt) ?_
      show own_Go p.tables e below (TJ5.setTop (mkF m 37 #[.val (.ref b), .val (.int u), .val (.ref b1), .val (.int (own_min (z * (5 : Int32)) (u * (8 : Int32)))), .val (.int i)] [(.int (i % (5 : Int32))), (.int (16 : Int32)), (.int (f (tt / 5)))])) _
      refine own_by (fun _ kt => XS.iushr XJ5.here hx rfl (hb hby d_prog_2_method_5_code_37) rfl kt) ?_
      show own_Go p.tables e below (TJ5.setTop (mkF m 38 #[.val (.ref b), .val (.int u), .val (.ref b1), .val (.int (own_min (z * (5 : Int32)) (u * (8 : Int32)))), .val (.int i)] [(.int (((16 : Int32).toUInt32 >>> ((i % (5 : Int32)) &&& 31).toUInt32).toInt32)), (.int (f (tt / 5)))])) _
      refine own_by (fun _ kt => XS.iand XJ5.here hx rfl (hb hby d_prog_2_method_5_code_38) rfl kt) ?_
      show own_Go p.tables e below (TJ5.setTop (mkF m 39 #[.val (.ref b), .val (.int u), .val (.ref b1), .val (.int (own_min (z * (5 : Int32)) (u * (8 : Int32)))), .val (.int i)] [(.int ((f (tt / 5)) &&& (((16 : Int32).toUInt32 >>> ((i % (5 : Int32)) &&& 31).toUInt32).toInt32)))])) _
      by_cases hc39_6 : ((f (tt / 5)) &&& (((16 : Int32).toUInt32 >>> ((i % (5 : Int32)) &&& 31).toUInt32).toInt32)) = (0 : Int32)
      · refine own_by (fun _ kt => XS.ifYes XJ5.here hx rfl (pc0 := 39) (pc' := 63) rfl (hb hby d_prog_2_method_5_code_39) rfl ((if0 _ _).trans (teq hc39_6).1) (by decide) (by decide) kt) ?_
        show own_Go p.tables e below (TJ5.setTop (mkF m 63 #[.val (.ref b), .val (.int u), .val (.ref b1), .val (.int (own_min (z * (5 : Int32)) (u * (8 : Int32)))), .val (.int i)] [])) _
        refine own_by (fun _ kt => XS.iinc XJ5.here hx rfl (hb hby d_prog_2_method_5_code_63) rfl (l' := #[.val (.ref b), .val (.int u), .val (.ref b1), .val (.int (own_min (z * (5 : Int32)) (u * (8 : Int32)))), .val (.int (i + (1 : Int32)))]) rfl kt) ?_
        show own_Go p.tables e below (TJ5.setTop (mkF m 66 #[.val (.ref b), .val (.int u), .val (.ref b1), .val (.int (own_min (z * (5 : Int32)) (u * (8 : Int32)))), .val (.int (i + (1 : Int32)))] [])) _
        refine own_by (fun _ kt => XS.goto XJ5.here hx rfl (pc0 := 66) (pc' := 19) rfl (hb hby d_prog_2_method_5_code_66) (by decide) (by decide) kt) ?_
        show own_Go p.tables e below (TJ5.setTop (mkF m 19 #[.val (.ref b), .val (.int u), .val (.ref b1), .val (.int (own_min (z * (5 : Int32)) (u * (8 : Int32)))), .val (.int (i + (1 : Int32)))] [])) _
        exact ih hJ5 _ _ XJ5 eJ5 NJ5 ((i + (1 : Int32))) (tt + 1) ZJ5 KJ5 fJ5_0 (fJ5_1.congr (fun j _ => own_G_no (by subst hi; exact hc39_6) j)) (by rw [hi]; exact own_succ tt) (by omega) (by omega)
      · refine own_by (fun _ kt => XS.ifNo XJ5.here hx rfl (hb hby d_prog_2_method_5_code_39) rfl ((if0 _ _).trans (feq hc39_6).1) kt) ?_
        show own_Go p.tables e below (TJ5.setTop (mkF m 42 #[.val (.ref b), .val (.int u), .val (.ref b1), .val (.int (own_min (z * (5 : Int32)) (u * (8 : Int32)))), .val (.int i)] [])) _
        refine own_by (fun _ kt => XS.aloadN XJ5.here hx rfl (hb hby d_prog_2_method_5_code_42) rfl rfl kt) ?_
        show own_Go p.tables e below (TJ5.setTop (mkF m 43 #[.val (.ref b), .val (.int u), .val (.ref b1), .val (.int (own_min (z * (5 : Int32)) (u * (8 : Int32)))), .val (.int i)] [(.ref b1)])) _
        refine own_by (fun _ kt => XS.iload XJ5.here hx rfl (hb hby d_prog_2_method_5_code_43) rfl kt) ?_
        show own_Go p.tables e below (TJ5.setTop (mkF m 45 #[.val (.ref b), .val (.int u), .val (.ref b1), .val (.int (own_min (z * (5 : Int32)) (u * (8 : Int32)))), .val (.int i)] [(.int i), (.ref b1)])) _
        refine own_by (fun _ kt => XS.bipush XJ5.here hx rfl (hb hby d_prog_2_method_5_code_45) kt) ?_
        show own_Go p.tables e below (TJ5.setTop (mkF m 47 #[.val (.ref b), .val (.int u), .val (.ref b1), .val (.int (own_min (z * (5 : Int32)) (u * (8 : Int32)))), .val (.int i)] [(.int (8 : Int32)), (.int i), (.ref b1)])) _
        refine own_by (fun _ kt => XS.idiv XJ5.here hx rfl (hb hby d_prog_2_method_5_code_47) rfl (by decide) kt) ?_
        show own_Go p.tables e below (TJ5.setTop (mkF m 48 #[.val (.ref b), .val (.int u), .val (.ref b1), .val (.int (own_min (z * (5 : Int32)) (u * (8 : Int32)))), .val (.int i)] [(.int (i / (8 : Int32))), (.ref b1)])) _
        refine own_by (fun _ kt => Jvm.Free.XT.dup2 XJ5.here hx rfl (hb hby d_prog_2_method_5_code_48) rfl rfl rfl kt) ?_
        show own_Go p.tables e below (TJ5.setTop (mkF m 49 #[.val (.ref b), .val (.int u), .val (.ref b1), .val (.int (own_min (z * (5 : Int32)) (u * (8 : Int32)))), .val (.int i)] [(.int (i / (8 : Int32))), (.ref b1), (.int (i / (8 : Int32))), (.ref b1)])) _
        refine own_by (own_uload XJ5 hx hZ eJ5 fJ5_1 (j := (i / (8 : Int32))) (i := (tt / 8)) (own_divN hi (by omega) (c := 8) (d := 8) rfl (by decide) (by decide)) (by omega) (g := (mkF m 49 #[.val (.ref b), .val (.int u), .val (.ref b1), .val (.int (own_min (z * (5 : Int32)) (u * (8 : Int32)))), .val (.int i)] [(.int (i / (8 : Int32))), (.ref b1), (.int (i / (8 : Int32))), (.ref b1)])) rfl rfl (hb hby d_prog_2_method_5_code_49)) ?_
        show own_Go p.tables e below (TJ5.setTop (mkF m 50 #[.val (.ref b), .val (.int u), .val (.ref b1), .val (.int (own_min (z * (5 : Int32)) (u * (8 : Int32)))), .val (.int i)] [(.int ((own_G f tt) (tt / 8))), (.int (i / (8 : Int32))), (.ref b1)])) _
        refine own_by (fun _ kt => XS.sipush XJ5.here hx rfl (hb hby d_prog_2_method_5_code_50) kt) ?_
        show own_Go p.tables e below (TJ5.setTop (mkF m 53 #[.val (.ref b), .val (.int u), .val (.ref b1), .val (.int (own_min (z * (5 : Int32)) (u * (8 : Int32)))), .val (.int i)] [(.int (128 : Int32)), (.int ((own_G f tt) (tt / 8))), (.int (i / (8 : Int32))), (.ref b1)])) _
        refine own_by (fun _ kt => XS.iload XJ5.here hx rfl (hb hby d_prog_2_method_5_code_53) rfl kt) ?_
        show own_Go p.tables e below (TJ5.setTop (mkF m 55 #[.val (.ref b), .val (.int u), .val (.ref b1), .val (.int (own_min (z * (5 : Int32)) (u * (8 : Int32)))), .val (.int i)] [(.int i), (.int (128 : Int32)), (.int ((own_G f tt) (tt / 8))), (.int (i / (8 : Int32))), (.ref b1)])) _
        refine own_by (fun _ kt => XS.bipush XJ5.here hx rfl (hb hby d_prog_2_method_5_code_55) kt) ?_
        show own_Go p.tables e below (TJ5.setTop (mkF m 57 #[.val (.ref b), .val (.int u), .val (.ref b1), .val (.int (own_min (z * (5 : Int32)) (u * (8 : Int32)))), .val (.int i)] [(.int (8 : Int32)), (.int i), (.int (128 : Int32)), (.int ((own_G f tt) (tt / 8))), (.int (i / (8 : Int32))), (.ref b1)])) _
        refine own_by (fun _ kt => iremM XJ5 hx rfl (hb hby d_prog_2_method_5_code_57) rfl (by decide) kt) ?_
        show own_Go p.tables e below (TJ5.setTop (mkF m 58 #[.val (.ref b), .val (.int u), .val (.ref b1), .val (.int (own_min (z * (5 : Int32)) (u * (8 : Int32)))), .val (.int i)] [(.int (i % (8 : Int32))), (.int (128 : Int32)), (.int ((own_G f tt) (tt / 8))), (.int (i / (8 : Int32))), (.ref b1)])) _
        refine own_by (fun _ kt => XS.iushr XJ5.here hx rfl (hb hby d_prog_2_method_5_code_58) rfl kt) ?_
        show own_Go p.tables e below (TJ5.setTop (mkF m 59 #[.val (.ref b), .val (.int u), .val (.ref b1), .val (.int (own_min (z * (5 : Int32)) (u * (8 : Int32)))), .val (.int i)] [(.int (((128 : Int32).toUInt32 >>> ((i % (8 : Int32)) &&& 31).toUInt32).toInt32)), (.int ((own_G f tt) (tt / 8))), (.int (i / (8 : Int32))), (.ref b1)])) _
        refine own_by (fun _ kt => XS.i2b XJ5.here hx rfl (hb hby d_prog_2_method_5_code_59) rfl kt) ?_
        show own_Go p.tables e below (TJ5.setTop (mkF m 60 #[.val (.ref b), .val (.int u), .val (.ref b1), .val (.int (own_min (z * (5 : Int32)) (u * (8 : Int32)))), .val (.int i)] [(.int ((((128 : Int32).toUInt32 >>> ((i % (8 : Int32)) &&& 31).toUInt32).toInt32).toInt8.toInt32)), (.int ((own_G f tt) (tt / 8))), (.int (i / (8 : Int32))), (.ref b1)])) _
        refine own_by (fun _ kt => XS.ior XJ5.here hx rfl (hb hby d_prog_2_method_5_code_60) rfl kt) ?_
        show own_Go p.tables e below (TJ5.setTop (mkF m 61 #[.val (.ref b), .val (.int u), .val (.ref b1), .val (.int (own_min (z * (5 : Int32)) (u * (8 : Int32)))), .val (.int i)] [(.int (((own_G f tt) (tt / 8)) ||| ((((128 : Int32).toUInt32 >>> ((i % (8 : Int32)) &&& 31).toUInt32).toInt32).toInt8.toInt32))), (.int (i / (8 : Int32))), (.ref b1)])) _
        refine own_by (fun _ kt => XS.i2b XJ5.here hx rfl (hb hby d_prog_2_method_5_code_61) rfl kt) ?_
        show own_Go p.tables e below (TJ5.setTop (mkF m 62 #[.val (.ref b), .val (.int u), .val (.ref b1), .val (.int (own_min (z * (5 : Int32)) (u * (8 : Int32)))), .val (.int i)] [(.int ((((own_G f tt) (tt / 8)) ||| ((((128 : Int32).toUInt32 >>> ((i % (8 : Int32)) &&& 31).toUInt32).toInt32).toInt8.toInt32)).toInt8.toInt32)), (.int (i / (8 : Int32))), (.ref b1)])) _
        obtain ⟨T7, h7, X7, e7, W7, U7, st7⟩ := own_ustore XJ5 hx hZ eJ5 fJ5_1 (j := (i / (8 : Int32))) (i := (tt / 8)) (own_divN hi (by omega) (c := 8) (d := 8) rfl (by decide) (by decide)) (by omega) (g := (mkF m 62 #[.val (.ref b), .val (.int u), .val (.ref b1), .val (.int (own_min (z * (5 : Int32)) (u * (8 : Int32)))), .val (.int i)] [(.int ((((own_G f tt) (tt / 8)) ||| ((((128 : Int32).toUInt32 >>> ((i % (8 : Int32)) &&& 31).toUInt32).toInt32).toInt8.toInt32)).toInt8.toInt32)), (.int (i / (8 : Int32))), (.ref b1)])) rfl rfl (hb hby d_prog_2_method_5_code_62)
        have f8 : own_Arf Z h7 b1 k1 .byte w (own_G f (tt + 1)) := U7.congr (fun j _ => own_G_yes (by subst hi; exact hc39_6) (by subst hi; rfl) j)
        have f9 := fJ5_0.other W7 ne_b_b1
        have Zs7 : n0 ≤ h7.size := by rw [W7.size]; exact ZJ5
        have K7 : Keep h0 h7 [] := KJ5.wr W7 (Or.inr sz_b1)
        have N7 := Fr.snoc X7 NJ5 gn_b1
        refine own_by st7 ?_
        show own_Go p.tables e below (T7.setTop (mkF m 63 #[.val (.ref b), .val (.int u), .val (.ref b1), .val (.int (own_min (z * (5 : Int32)) (u * (8 : Int32)))), .val (.int i)] [])) _
        refine own_by (fun _ kt => XS.iinc X7.here hx rfl (hb hby d_prog_2_method_5_code_63) rfl (l' := #[.val (.ref b), .val (.int u), .val (.ref b1), .val (.int (own_min (z * (5 : Int32)) (u * (8 : Int32)))), .val (.int (i + (1 : Int32)))]) rfl kt) ?_
        show own_Go p.tables e below (T7.setTop (mkF m 66 #[.val (.ref b), .val (.int u), .val (.ref b1), .val (.int (own_min (z * (5 : Int32)) (u * (8 : Int32)))), .val (.int (i + (1 : Int32)))] [])) _
        refine own_by (fun _ kt => XS.goto X7.here hx rfl (pc0 := 66) (pc' := 19) rfl (hb hby d_prog_2_method_5_code_66) (by decide) (by decide) kt) ?_
        show own_Go p.tables e below (T7.setTop (mkF m 19 #[.val (.ref b), .val (.int u), .val (.ref b1), .val (.int (own_min (z * (5 : Int32)) (u * (8 : Int32)))), .val (.int (i + (1 : Int32)))] [])) _
        exact ih h7 _ _ X7 e7 N7 ((i + (1 : Int32))) (tt + 1) Zs7 K7 f9 f8 (by rw [hi]; exact own_succ tt) (by omega) (by omega)
  exact J5 ((min (n * 5) (w * 8))) h1 _ _ X4 eh4 N4 ((0 : Int32)) (0) Zs1 K1 f2 (f3.congr (fun _ _ => rfl)) (rfl) (by omega) (rfl)
def own_exp (s : Int64) (k : Int32) : Int32 := if k < (6 : Int32) then (((s.toUInt64 >>> (((42 : Int32) - ((8 : Int32) * k)) &&& 0x3f).toInt64.toUInt64).toInt64 &&& (255 : Int64)).toInt32) else ((((s &&& (3 : Int64)).toInt32) <<< ((6 : Int32) &&& 31)))
theorem d_method_4_code_0 : decode method_4_code 0 = .ok (.iload 4, 2) := by decide +kernel
theorem d_method_4_code_2 : decode method_4_code 2 = .ok (.iload_n 1, 1) := by decide +kernel
theorem d_method_4_code_3 : decode method_4_code 3 = .ok (.if_icmp .lt 5, 3) := by decide +kernel
theorem d_method_4_code_8 : decode method_4_code 8 = .ok (.iload 4, 2) := by decide +kernel
theorem d_method_4_code_10 : decode method_4_code 10 = .ok (.bipush 6, 2) := by decide +kernel
theorem d_method_4_code_12 : decode method_4_code 12 = .ok (.if_icmp .ge 23, 3) := by decide +kernel
theorem d_method_4_code_15 : decode method_4_code 15 = .ok (.lload_n 2, 1) := by decide +kernel
theorem d_method_4_code_16 : decode method_4_code 16 = .ok (.bipush 42, 2) := by decide +kernel
theorem d_method_4_code_18 : decode method_4_code 18 = .ok (.bipush 8, 2) := by decide +kernel
theorem d_method_4_code_20 : decode method_4_code 20 = .ok (.iload 4, 2) := by decide +kernel
theorem d_method_4_code_22 : decode method_4_code 22 = .ok (.imul, 1) := by decide +kernel
theorem d_method_4_code_23 : decode method_4_code 23 = .ok (.isub, 1) := by decide +kernel
theorem d_method_4_code_24 : decode method_4_code 24 = .ok (.lushr, 1) := by decide +kernel
theorem d_method_4_code_25 : decode method_4_code 25 = .ok (.ldc2_w 13, 3) := by decide +kernel
theorem d_method_4_code_28 : decode method_4_code 28 = .ok (.land, 1) := by decide +kernel
theorem d_method_4_code_29 : decode method_4_code 29 = .ok (.l2i, 1) := by decide +kernel
theorem d_method_4_code_30 : decode method_4_code 30 = .ok (.istore 5, 2) := by decide +kernel
theorem d_method_4_code_32 : decode method_4_code 32 = .ok (.goto 14, 3) := by decide +kernel
theorem d_method_4_code_46 : decode method_4_code 46 = .ok (.aload_n 0, 1) := by decide +kernel
theorem d_method_4_code_47 : decode method_4_code 47 = .ok (.iload 4, 2) := by decide +kernel
theorem d_method_4_code_49 : decode method_4_code 49 = .ok (.baload, 1) := by decide +kernel
theorem d_method_4_code_50 : decode method_4_code 50 = .ok (.sipush 255, 3) := by decide +kernel
theorem d_method_4_code_53 : decode method_4_code 53 = .ok (.iand, 1) := by decide +kernel
theorem d_method_4_code_54 : decode method_4_code 54 = .ok (.iload 5, 2) := by decide +kernel
theorem d_method_4_code_56 : decode method_4_code 56 = .ok (.if_icmp .ne 7, 3) := by decide +kernel
theorem d_method_4_code_59 : decode method_4_code 59 = .ok (.iconst 1, 1) := by decide +kernel
theorem d_method_4_code_60 : decode method_4_code 60 = .ok (.goto 4, 3) := by decide +kernel
theorem d_method_4_code_64 : decode method_4_code 64 = .ok (.ireturn, 1) := by decide +kernel
theorem d_method_4_code_35 : decode method_4_code 35 = .ok (.lload_n 2, 1) := by decide +kernel
theorem d_method_4_code_36 : decode method_4_code 36 = .ok (.ldc2_w 15, 3) := by decide +kernel
theorem d_method_4_code_39 : decode method_4_code 39 = .ok (.land, 1) := by decide +kernel
theorem d_method_4_code_40 : decode method_4_code 40 = .ok (.l2i, 1) := by decide +kernel
theorem d_method_4_code_41 : decode method_4_code 41 = .ok (.bipush 6, 2) := by decide +kernel
theorem d_method_4_code_43 : decode method_4_code 43 = .ok (.ishl, 1) := by decide +kernel
theorem d_method_4_code_44 : decode method_4_code 44 = .ok (.istore 5, 2) := by decide +kernel
theorem d_method_4_code_6 : decode method_4_code 6 = .ok (.iconst 1, 1) := by decide +kernel
theorem d_method_4_code_7 : decode method_4_code 7 = .ok (.ireturn, 1) := by decide +kernel
theorem ef_5 (m : MethodId) (a : Addr) (u : Int32) (qq : Int64) (kk : Int32) : entryFrame m #[(.ref a), (.int u), (.long qq), (.int kk)] 6 = mkF m 0 #[.val (.ref a), .val (.int u), .val (.long qq), .second, .val (.int kk), .unset] [] := by first | (simp [entryFrame, mkF, argsToLocals, Value.category]; done) | rfl
def Q_rm_check (Z : State) (a : Addr) (u : Int32) (qq : Int64) (kk : Int32) (ka : ClassId) (n : Nat) (f : Nat → Int32) (h0 : Heap) (n0 : Nat) (v : Option Value) (h : Heap) (L : List Loc) : Prop := v = some (.int (1 : Int32)) ∧ Fr n0 L ∧ h = h0
set_option maxRecDepth 65536 in
set_option maxHeartbeats 40000000 in
theorem rm_check (l : Launch) (Z : State) (a0 : Array Value) (hw : ∀ d ∈ tables_1, d.before a0 Z = true) (ws : List Jvm.Cond) (a : Addr) (u : Int32) (qq : Int64) (kk : Int32) (ka : ClassId) (n : Nat) (f : Nat → Int32) (h0 : Heap) (n0 : Nat) (Z0 : n0 ≤ h0.size) (U_a : own_Arf Z h0 a ka .byte n f) (hz : u.toInt = n) (hk : 0 ≤ kk.toInt) (hc : kk.toInt.toNat < n → (f kk.toInt.toNat &&& (255 : Int32)) = own_exp qq kk) :
    MetFree l (⟨"com/example/relampago/relampago/bolt11/Bech32BytesPinLaw", "check", "([BIJI)Z"⟩ : MethodName) (head1 (Jvm.Cond.code (⟨"com/example/relampago/relampago/bolt11/Bech32BytesPinLaw", "check", "([BIJI)Z"⟩ : MethodName) method_4_code 6 (some .boolean) :: ws) ({ frames := 0, cells := 0, slots := 0, locals := 0 } : Room)) (fun av_ U => av_ = #[(.ref a), (.int u), (.long qq), (.int kk)] ∧ Z.Warmed39 U.vm ∧ U.heap = h0) (fun _ _ _ _ _ => True) (fun _ U o U' => ∃ v L, o = .returned v ∧ Q_rm_check Z a u qq kk ka n f h0 n0 v U'.heap L ∧ FrameEnd U o U' L ({ frames := 0, cells := 0, slots := 0, locals := 0 } : Room).cells ({ frames := 0, cells := 0, slots := 0, locals := 0 } : Room).slots) := by
  refine MetFree.of_bodySF (plainFor_of_name pn_0) hisR ?_
  intro p e s m args below meth c s₁ Bd hml0 hP hK
  obtain ⟨rfl, hZ, hh⟩ := hP
  have hx := Bd.exec
  have hby := Bd.bytes
  have hml : c.maxLocals = 6 := hml0
  have hown : s.vm.findClass "com/example/relampago/relampago/bolt11/Bech32BytesPinLaw" = some m.cls := findClass_of_methodNamed Bd.named
  have hnm := (name_of_methodNamed Bd.named Bd.method).1
  have hlk : meth.locks = false := BodyLoose.notSynchronized Bd
  have X0 : Stand p l e ({ frames := 0, cells := 0, slots := 0, locals := 0 } : Room) s m #[(.ref a), (.int u), (.long qq), (.int kk)] below meth c s₁ [] 0 0 := Stand.of_body Bd
  have e0 : s₁.heap = h0 := by rw [← hh, Bd.state]; rfl
  have N0 := Fr.nil n0
  refine own_by (fun _ kt => castTop (ef_5 m a u qq kk) kt) (R := own_R s (Q_rm_check Z a u qq kk ka n f h0 n0) 0 0) ?_
  show own_Go p.tables e below (s₁.setTop (mkF m 0 #[.val (.ref a), .val (.int u), .val (.long qq), .second, .val (.int kk), .unset] [])) _
  refine own_by (fun _ kt => XS.iload X0.here hx rfl (hb hby d_method_4_code_0) rfl kt) ?_
  show own_Go p.tables e below (s₁.setTop (mkF m 2 #[.val (.ref a), .val (.int u), .val (.long qq), .second, .val (.int kk), .unset] [(.int kk)])) _
  refine own_by (fun _ kt => XS.iloadN X0.here hx rfl (hb hby d_method_4_code_2) rfl kt) ?_
  show own_Go p.tables e below (s₁.setTop (mkF m 3 #[.val (.ref a), .val (.int u), .val (.long qq), .second, .val (.int kk), .unset] [(.int u), (.int kk)])) _
  by_cases hc3_1 : kk < u
  · refine own_by (fun _ kt => XS.icmpYes X0.here hx rfl (pc0 := 3) (pc' := 8) rfl (hb hby d_method_4_code_3) rfl (tlt hc3_1).1 (by decide) (by decide) kt) ?_
    show own_Go p.tables e below (s₁.setTop (mkF m 8 #[.val (.ref a), .val (.int u), .val (.long qq), .second, .val (.int kk), .unset] [])) _
    refine own_by (fun _ kt => XS.iload X0.here hx rfl (hb hby d_method_4_code_8) rfl kt) ?_
    show own_Go p.tables e below (s₁.setTop (mkF m 10 #[.val (.ref a), .val (.int u), .val (.long qq), .second, .val (.int kk), .unset] [(.int kk)])) _
    refine own_by (fun _ kt => XS.bipush X0.here hx rfl (hb hby d_method_4_code_10) kt) ?_
    show own_Go p.tables e below (s₁.setTop (mkF m 12 #[.val (.ref a), .val (.int u), .val (.long qq), .second, .val (.int kk), .unset] [(.int (6 : Int32)), (.int kk)])) _
    by_cases hc12_2 : kk < (6 : Int32)
    · refine own_by (fun _ kt => XS.icmpNo X0.here hx rfl (hb hby d_method_4_code_12) rfl (tlt hc12_2).2.1 kt) ?_
      show own_Go p.tables e below (s₁.setTop (mkF m 15 #[.val (.ref a), .val (.int u), .val (.long qq), .second, .val (.int kk), .unset] [])) _
      refine own_by (fun _ kt => XS.lloadN X0.here hx rfl (hb hby d_method_4_code_15) rfl kt) ?_
      show own_Go p.tables e below (s₁.setTop (mkF m 16 #[.val (.ref a), .val (.int u), .val (.long qq), .second, .val (.int kk), .unset] [(.long qq)])) _
      refine own_by (fun _ kt => XS.bipush X0.here hx rfl (hb hby d_method_4_code_16) kt) ?_
      show own_Go p.tables e below (s₁.setTop (mkF m 18 #[.val (.ref a), .val (.int u), .val (.long qq), .second, .val (.int kk), .unset] [(.int (42 : Int32)), (.long qq)])) _
      refine own_by (fun _ kt => XS.bipush X0.here hx rfl (hb hby d_method_4_code_18) kt) ?_
      show own_Go p.tables e below (s₁.setTop (mkF m 20 #[.val (.ref a), .val (.int u), .val (.long qq), .second, .val (.int kk), .unset] [(.int (8 : Int32)), (.int (42 : Int32)), (.long qq)])) _
      refine own_by (fun _ kt => XS.iload X0.here hx rfl (hb hby d_method_4_code_20) rfl kt) ?_
      show own_Go p.tables e below (s₁.setTop (mkF m 22 #[.val (.ref a), .val (.int u), .val (.long qq), .second, .val (.int kk), .unset] [(.int kk), (.int (8 : Int32)), (.int (42 : Int32)), (.long qq)])) _
      refine own_by (fun _ kt => XS.imul X0.here hx rfl (hb hby d_method_4_code_22) rfl kt) ?_
      show own_Go p.tables e below (s₁.setTop (mkF m 23 #[.val (.ref a), .val (.int u), .val (.long qq), .second, .val (.int kk), .unset] [(.int ((8 : Int32) * kk)), (.int (42 : Int32)), (.long qq)])) _
      refine own_by (fun _ kt => XS.isub X0.here hx rfl (hb hby d_method_4_code_23) rfl kt) ?_
      show own_Go p.tables e below (s₁.setTop (mkF m 24 #[.val (.ref a), .val (.int u), .val (.long qq), .second, .val (.int kk), .unset] [(.int ((42 : Int32) - ((8 : Int32) * kk))), (.long qq)])) _
      refine own_by (fun _ kt => XS.lushr X0.here hx rfl (hb hby d_method_4_code_24) rfl kt) ?_
      show own_Go p.tables e below (s₁.setTop (mkF m 25 #[.val (.ref a), .val (.int u), .val (.long qq), .second, .val (.int kk), .unset] [(.long ((qq.toUInt64 >>> (((42 : Int32) - ((8 : Int32) * kk)) &&& 0x3f).toInt64.toUInt64).toInt64))])) _
      refine own_by (X0.ldc2Long hx hown (mvT hZ (hw _ (List.mem_of_getElem? (i := 20) rfl))) (g := (mkF m 25 #[.val (.ref a), .val (.int u), .val (.long qq), .second, .val (.int kk), .unset] [(.long ((qq.toUInt64 >>> (((42 : Int32) - ((8 : Int32) * kk)) &&& 0x3f).toInt64.toUInt64).toInt64))])) rfl (hb hby d_method_4_code_25)) ?_
      show own_Go p.tables e below (s₁.setTop (mkF m 28 #[.val (.ref a), .val (.int u), .val (.long qq), .second, .val (.int kk), .unset] [(.long (255 : Int64)), (.long ((qq.toUInt64 >>> (((42 : Int32) - ((8 : Int32) * kk)) &&& 0x3f).toInt64.toUInt64).toInt64))])) _
      refine own_by (fun _ kt => XS.land X0.here hx rfl (hb hby d_method_4_code_28) rfl kt) ?_
      show own_Go p.tables e below (s₁.setTop (mkF m 29 #[.val (.ref a), .val (.int u), .val (.long qq), .second, .val (.int kk), .unset] [(.long (((qq.toUInt64 >>> (((42 : Int32) - ((8 : Int32) * kk)) &&& 0x3f).toInt64.toUInt64).toInt64) &&& (255 : Int64)))])) _
      refine own_by (fun _ kt => XS.l2i X0.here hx rfl (hb hby d_method_4_code_29) rfl kt) ?_
      show own_Go p.tables e below (s₁.setTop (mkF m 30 #[.val (.ref a), .val (.int u), .val (.long qq), .second, .val (.int kk), .unset] [(.int ((((qq.toUInt64 >>> (((42 : Int32) - ((8 : Int32) * kk)) &&& 0x3f).toInt64.toUInt64).toInt64) &&& (255 : Int64)).toInt32))])) _
      refine own_by (fun _ kt => XS.istore X0.here hx rfl (hb hby d_method_4_code_30) rfl (l' := #[.val (.ref a), .val (.int u), .val (.long qq), .second, .val (.int kk), .val (.int ((((qq.toUInt64 >>> (((42 : Int32) - ((8 : Int32) * kk)) &&& 0x3f).toInt64.toUInt64).toInt64) &&& (255 : Int64)).toInt32))]) rfl kt) ?_
      show own_Go p.tables e below (s₁.setTop (mkF m 32 #[.val (.ref a), .val (.int u), .val (.long qq), .second, .val (.int kk), .val (.int ((((qq.toUInt64 >>> (((42 : Int32) - ((8 : Int32) * kk)) &&& 0x3f).toInt64.toUInt64).toInt64) &&& (255 : Int64)).toInt32))] [])) _
      refine own_by (fun _ kt => XS.goto X0.here hx rfl (pc0 := 32) (pc' := 46) rfl (hb hby d_method_4_code_32) (by decide) (by decide) kt) ?_
      show own_Go p.tables e below (s₁.setTop (mkF m 46 #[.val (.ref a), .val (.int u), .val (.long qq), .second, .val (.int kk), .val (.int ((((qq.toUInt64 >>> (((42 : Int32) - ((8 : Int32) * kk)) &&& 0x3f).toInt64.toUInt64).toInt64) &&& (255 : Int64)).toInt32))] [])) _
      refine own_by (fun _ kt => XS.aloadN X0.here hx rfl (hb hby d_method_4_code_46) rfl rfl kt) ?_
      show own_Go p.tables e below (s₁.setTop (mkF m 47 #[.val (.ref a), .val (.int u), .val (.long qq), .second, .val (.int kk), .val (.int ((((qq.toUInt64 >>> (((42 : Int32) - ((8 : Int32) * kk)) &&& 0x3f).toInt64.toUInt64).toInt64) &&& (255 : Int64)).toInt32))] [(.ref a)])) _
      refine own_by (fun _ kt => XS.iload X0.here hx rfl (hb hby d_method_4_code_47) rfl kt) ?_
      show own_Go p.tables e below (s₁.setTop (mkF m 49 #[.val (.ref a), .val (.int u), .val (.long qq), .second, .val (.int kk), .val (.int ((((qq.toUInt64 >>> (((42 : Int32) - ((8 : Int32) * kk)) &&& 0x3f).toInt64.toUInt64).toInt64) &&& (255 : Int64)).toInt32))] [(.int kk), (.ref a)])) _
      refine own_by (own_uload X0 hx hZ e0 U_a (j := kk) (i := kk.toInt.toNat) (own_nat hk) (own_ltn hz hk hc3_1) (g := (mkF m 49 #[.val (.ref a), .val (.int u), .val (.long qq), .second, .val (.int kk), .val (.int ((((qq.toUInt64 >>> (((42 : Int32) - ((8 : Int32) * kk)) &&& 0x3f).toInt64.toUInt64).toInt64) &&& (255 : Int64)).toInt32))] [(.int kk), (.ref a)])) rfl rfl (hb hby d_method_4_code_49)) ?_
      show own_Go p.tables e below (s₁.setTop (mkF m 50 #[.val (.ref a), .val (.int u), .val (.long qq), .second, .val (.int kk), .val (.int ((((qq.toUInt64 >>> (((42 : Int32) - ((8 : Int32) * kk)) &&& 0x3f).toInt64.toUInt64).toInt64) &&& (255 : Int64)).toInt32))] [(.int (f kk.toInt.toNat))])) _
      refine own_by (fun _ kt => XS.sipush X0.here hx rfl (hb hby d_method_4_code_50) kt) ?_
      show own_Go p.tables e below (s₁.setTop (mkF m 53 #[.val (.ref a), .val (.int u), .val (.long qq), .second, .val (.int kk), .val (.int ((((qq.toUInt64 >>> (((42 : Int32) - ((8 : Int32) * kk)) &&& 0x3f).toInt64.toUInt64).toInt64) &&& (255 : Int64)).toInt32))] [(.int (255 : Int32)), (.int (f kk.toInt.toNat))])) _
      refine own_by (fun _ kt => XS.iand X0.here hx rfl (hb hby d_method_4_code_53) rfl kt) ?_
      show own_Go p.tables e below (s₁.setTop (mkF m 54 #[.val (.ref a), .val (.int u), .val (.long qq), .second, .val (.int kk), .val (.int ((((qq.toUInt64 >>> (((42 : Int32) - ((8 : Int32) * kk)) &&& 0x3f).toInt64.toUInt64).toInt64) &&& (255 : Int64)).toInt32))] [(.int ((f kk.toInt.toNat) &&& (255 : Int32)))])) _
      refine own_by (fun _ kt => XS.iload X0.here hx rfl (hb hby d_method_4_code_54) rfl kt) ?_
      show own_Go p.tables e below (s₁.setTop (mkF m 56 #[.val (.ref a), .val (.int u), .val (.long qq), .second, .val (.int kk), .val (.int ((((qq.toUInt64 >>> (((42 : Int32) - ((8 : Int32) * kk)) &&& 0x3f).toInt64.toUInt64).toInt64) &&& (255 : Int64)).toInt32))] [(.int ((((qq.toUInt64 >>> (((42 : Int32) - ((8 : Int32) * kk)) &&& 0x3f).toInt64.toUInt64).toInt64) &&& (255 : Int64)).toInt32)), (.int ((f kk.toInt.toNat) &&& (255 : Int32)))])) _
      refine own_by (fun _ kt => XS.icmpNo X0.here hx rfl (hb hby d_method_4_code_56) rfl (teq ((hc (own_ltn hz hk hc3_1)).trans (if_pos hc12_2) : ((f kk.toInt.toNat) &&& (255 : Int32)) = ((((qq.toUInt64 >>> (((42 : Int32) - ((8 : Int32) * kk)) &&& 0x3f).toInt64.toUInt64).toInt64) &&& (255 : Int64)).toInt32))).2 kt) ?_
      show own_Go p.tables e below (s₁.setTop (mkF m 59 #[.val (.ref a), .val (.int u), .val (.long qq), .second, .val (.int kk), .val (.int ((((qq.toUInt64 >>> (((42 : Int32) - ((8 : Int32) * kk)) &&& 0x3f).toInt64.toUInt64).toInt64) &&& (255 : Int64)).toInt32))] [])) _
      refine own_by (fun _ kt => XS.iconst X0.here hx rfl (hb hby d_method_4_code_59) kt) ?_
      show own_Go p.tables e below (s₁.setTop (mkF m 60 #[.val (.ref a), .val (.int u), .val (.long qq), .second, .val (.int kk), .val (.int ((((qq.toUInt64 >>> (((42 : Int32) - ((8 : Int32) * kk)) &&& 0x3f).toInt64.toUInt64).toInt64) &&& (255 : Int64)).toInt32))] [(.int (1 : Int32))])) _
      refine own_by (fun _ kt => XS.goto X0.here hx rfl (pc0 := 60) (pc' := 64) rfl (hb hby d_method_4_code_60) (by decide) (by decide) kt) ?_
      show own_Go p.tables e below (s₁.setTop (mkF m 64 #[.val (.ref a), .val (.int u), .val (.long qq), .second, .val (.int kk), .val (.int ((((qq.toUInt64 >>> (((42 : Int32) - ((8 : Int32) * kk)) &&& 0x3f).toInt64.toUInt64).toInt64) &&& (255 : Int64)).toInt32))] [(.int (1 : Int32))])) _
      exact own_retN X0 hx (t := .boolean) Bd.returns hlk (by simp) (hb hby d_method_4_code_64) ⟨rfl, N0, e0⟩ (by decide) (by decide)
    · refine own_by (fun _ kt => XS.icmpYes X0.here hx rfl (pc0 := 12) (pc' := 35) rfl (hb hby d_method_4_code_12) rfl (flt hc12_2).2.1 (by decide) (by decide) kt) ?_
      show own_Go p.tables e below (s₁.setTop (mkF m 35 #[.val (.ref a), .val (.int u), .val (.long qq), .second, .val (.int kk), .unset] [])) _
      refine own_by (fun _ kt => XS.lloadN X0.here hx rfl (hb hby d_method_4_code_35) rfl kt) ?_
      show own_Go p.tables e below (s₁.setTop (mkF m 36 #[.val (.ref a), .val (.int u), .val (.long qq), .second, .val (.int kk), .unset] [(.long qq)])) _
      refine own_by (X0.ldc2Long hx hown (mvT hZ (hw _ (List.mem_of_getElem? (i := 21) rfl))) (g := (mkF m 36 #[.val (.ref a), .val (.int u), .val (.long qq), .second, .val (.int kk), .unset] [(.long qq)])) rfl (hb hby d_method_4_code_36)) ?_
      show own_Go p.tables e below (s₁.setTop (mkF m 39 #[.val (.ref a), .val (.int u), .val (.long qq), .second, .val (.int kk), .unset] [(.long (3 : Int64)), (.long qq)])) _
      refine own_by (fun _ kt => XS.land X0.here hx rfl (hb hby d_method_4_code_39) rfl kt) ?_
      show own_Go p.tables e below (s₁.setTop (mkF m 40 #[.val (.ref a), .val (.int u), .val (.long qq), .second, .val (.int kk), .unset] [(.long (qq &&& (3 : Int64)))])) _
      refine own_by (fun _ kt => XS.l2i X0.here hx rfl (hb hby d_method_4_code_40) rfl kt) ?_
      show own_Go p.tables e below (s₁.setTop (mkF m 41 #[.val (.ref a), .val (.int u), .val (.long qq), .second, .val (.int kk), .unset] [(.int ((qq &&& (3 : Int64)).toInt32))])) _
      refine own_by (fun _ kt => XS.bipush X0.here hx rfl (hb hby d_method_4_code_41) kt) ?_
      show own_Go p.tables e below (s₁.setTop (mkF m 43 #[.val (.ref a), .val (.int u), .val (.long qq), .second, .val (.int kk), .unset] [(.int (6 : Int32)), (.int ((qq &&& (3 : Int64)).toInt32))])) _
      refine own_by (fun _ kt => XS.ishl X0.here hx rfl (hb hby d_method_4_code_43) rfl kt) ?_
      show own_Go p.tables e below (s₁.setTop (mkF m 44 #[.val (.ref a), .val (.int u), .val (.long qq), .second, .val (.int kk), .unset] [(.int (((qq &&& (3 : Int64)).toInt32) <<< ((6 : Int32) &&& 31)))])) _
      refine own_by (fun _ kt => XS.istore X0.here hx rfl (hb hby d_method_4_code_44) rfl (l' := #[.val (.ref a), .val (.int u), .val (.long qq), .second, .val (.int kk), .val (.int (((qq &&& (3 : Int64)).toInt32) <<< ((6 : Int32) &&& 31)))]) rfl kt) ?_
      show own_Go p.tables e below (s₁.setTop (mkF m 46 #[.val (.ref a), .val (.int u), .val (.long qq), .second, .val (.int kk), .val (.int (((qq &&& (3 : Int64)).toInt32) <<< ((6 : Int32) &&& 31)))] [])) _
      refine own_by (fun _ kt => XS.aloadN X0.here hx rfl (hb hby d_method_4_code_46) rfl rfl kt) ?_
      show own_Go p.tables e below (s₁.setTop (mkF m 47 #[.val (.ref a), .val (.int u), .val (.long qq), .second, .val (.int kk), .val (.int (((qq &&& (3 : Int64)).toInt32) <<< ((6 : Int32) &&& 31)))] [(.ref a)])) _
      refine own_by (fun _ kt => XS.iload X0.here hx rfl (hb hby d_method_4_code_47) rfl kt) ?_
      show own_Go p.tables e below (s₁.setTop (mkF m 49 #[.val (.ref a), .val (.int u), .val (.long qq), .second, .val (.int kk), .val (.int (((qq &&& (3 : Int64)).toInt32) <<< ((6 : Int32) &&& 31)))] [(.int kk), (.ref a)])) _
      refine own_by (own_uload X0 hx hZ e0 U_a (j := kk) (i := kk.toInt.toNat) (own_nat hk) (own_ltn hz hk hc3_1) (g := (mkF m 49 #[.val (.ref a), .val (.int u), .val (.long qq), .second, .val (.int kk), .val (.int (((qq &&& (3 : Int64)).toInt32) <<< ((6 : Int32) &&& 31)))] [(.int kk), (.ref a)])) rfl rfl (hb hby d_method_4_code_49)) ?_
      show own_Go p.tables e below (s₁.setTop (mkF m 50 #[.val (.ref a), .val (.int u), .val (.long qq), .second, .val (.int kk), .val (.int (((qq &&& (3 : Int64)).toInt32) <<< ((6 : Int32) &&& 31)))] [(.int (f kk.toInt.toNat))])) _
      refine own_by (fun _ kt => XS.sipush X0.here hx rfl (hb hby d_method_4_code_50) kt) ?_
      show own_Go p.tables e below (s₁.setTop (mkF m 53 #[.val (.ref a), .val (.int u), .val (.long qq), .second, .val (.int kk), .val (.int (((qq &&& (3 : Int64)).toInt32) <<< ((6 : Int32) &&& 31)))] [(.int (255 : Int32)), (.int (f kk.toInt.toNat))])) _
      refine own_by (fun _ kt => XS.iand X0.here hx rfl (hb hby d_method_4_code_53) rfl kt) ?_
      show own_Go p.tables e below (s₁.setTop (mkF m 54 #[.val (.ref a), .val (.int u), .val (.long qq), .second, .val (.int kk), .val (.int (((qq &&& (3 : Int64)).toInt32) <<< ((6 : Int32) &&& 31)))] [(.int ((f kk.toInt.toNat) &&& (255 : Int32)))])) _
      refine own_by (fun _ kt => XS.iload X0.here hx rfl (hb hby d_method_4_code_54) rfl kt) ?_
      show own_Go p.tables e below (s₁.setTop (mkF m 56 #[.val (.ref a), .val (.int u), .val (.long qq), .second, .val (.int kk), .val (.int (((qq &&& (3 : Int64)).toInt32) <<< ((6 : Int32) &&& 31)))] [(.int (((qq &&& (3 : Int64)).toInt32) <<< ((6 : Int32) &&& 31))), (.int ((f kk.toInt.toNat) &&& (255 : Int32)))])) _
      refine own_by (fun _ kt => XS.icmpNo X0.here hx rfl (hb hby d_method_4_code_56) rfl (teq ((hc (own_ltn hz hk hc3_1)).trans (if_neg hc12_2) : ((f kk.toInt.toNat) &&& (255 : Int32)) = (((qq &&& (3 : Int64)).toInt32) <<< ((6 : Int32) &&& 31)))).2 kt) ?_
      show own_Go p.tables e below (s₁.setTop (mkF m 59 #[.val (.ref a), .val (.int u), .val (.long qq), .second, .val (.int kk), .val (.int (((qq &&& (3 : Int64)).toInt32) <<< ((6 : Int32) &&& 31)))] [])) _
      refine own_by (fun _ kt => XS.iconst X0.here hx rfl (hb hby d_method_4_code_59) kt) ?_
      show own_Go p.tables e below (s₁.setTop (mkF m 60 #[.val (.ref a), .val (.int u), .val (.long qq), .second, .val (.int kk), .val (.int (((qq &&& (3 : Int64)).toInt32) <<< ((6 : Int32) &&& 31)))] [(.int (1 : Int32))])) _
      refine own_by (fun _ kt => XS.goto X0.here hx rfl (pc0 := 60) (pc' := 64) rfl (hb hby d_method_4_code_60) (by decide) (by decide) kt) ?_
      show own_Go p.tables e below (s₁.setTop (mkF m 64 #[.val (.ref a), .val (.int u), .val (.long qq), .second, .val (.int kk), .val (.int (((qq &&& (3 : Int64)).toInt32) <<< ((6 : Int32) &&& 31)))] [(.int (1 : Int32))])) _
      exact own_retN X0 hx (t := .boolean) Bd.returns hlk (by simp) (hb hby d_method_4_code_64) ⟨rfl, N0, e0⟩ (by decide) (by decide)
  · refine own_by (fun _ kt => XS.icmpNo X0.here hx rfl (hb hby d_method_4_code_3) rfl (flt hc3_1).1 kt) ?_
    show own_Go p.tables e below (s₁.setTop (mkF m 6 #[.val (.ref a), .val (.int u), .val (.long qq), .second, .val (.int kk), .unset] [])) _
    refine own_by (fun _ kt => XS.iconst X0.here hx rfl (hb hby d_method_4_code_6) kt) ?_
    show own_Go p.tables e below (s₁.setTop (mkF m 7 #[.val (.ref a), .val (.int u), .val (.long qq), .second, .val (.int kk), .unset] [(.int (1 : Int32))])) _
    exact own_retN X0 hx (t := .boolean) Bd.returns hlk (by simp) (hb hby d_method_4_code_7) ⟨rfl, N0, e0⟩ (by decide) (by decide)
theorem own_elev (p : Int32) : ((p &&& 2147483647) % 11).toInt = (((p &&& 2147483647) % 11).toInt.toNat : Int) ∧ ((p &&& 2147483647) % 11).toInt.toNat ≤ 10 := by
  have h := own_rem31 p 11 (by decide)
  rw [show (11 : Int32).toInt = 11 from by decide] at h
  omega
theorem own_eight (p : Int32) : ((p &&& 2147483647) % 8).toInt = (((p &&& 2147483647) % 8).toInt.toNat : Int) ∧ ((p &&& 2147483647) % 8).toInt.toNat ≤ 7 := by
  have h := own_rem31 p 8 (by decide)
  rw [show (8 : Int32).toInt = 8 from by decide] at h
  omega
theorem own_puts (q0 : Int64) (p1 : Int32) {n : Nat} (h : n ≤ 10) : ∀ j, j < n → (fun q => if q = (9 : Int32).toInt.toNat then nar .byte (own_raw q0 p1 (9 : Int32)) else (fun q => if q = (8 : Int32).toInt.toNat then nar .byte (own_raw q0 p1 (8 : Int32)) else (fun q => if q = (7 : Int32).toInt.toNat then nar .byte (own_raw q0 p1 (7 : Int32)) else (fun q => if q = (6 : Int32).toInt.toNat then nar .byte (own_raw q0 p1 (6 : Int32)) else (fun q => if q = (5 : Int32).toInt.toNat then nar .byte (own_raw q0 p1 (5 : Int32)) else (fun q => if q = (4 : Int32).toInt.toNat then nar .byte (own_raw q0 p1 (4 : Int32)) else (fun q => if q = (3 : Int32).toInt.toNat then nar .byte (own_raw q0 p1 (3 : Int32)) else (fun q => if q = (2 : Int32).toInt.toNat then nar .byte (own_raw q0 p1 (2 : Int32)) else (fun q => if q = (1 : Int32).toInt.toNat then nar .byte (own_raw q0 p1 (1 : Int32)) else (fun q => if q = (0 : Int32).toInt.toNat then nar .byte (own_raw q0 p1 (0 : Int32)) else (fun _ => (0 : Int32)) q) q) q) q) q) q) q) q) q) q) j = (fun j => nar .byte (own_raw q0 p1 (Int32.ofNat j))) j := by
  intro j hj
  have h : j = 0 ∨ j = 1 ∨ j = 2 ∨ j = 3 ∨ j = 4 ∨ j = 5 ∨ j = 6 ∨ j = 7 ∨ j = 8 ∨ j = 9 := by omega
  rcases h with rfl | rfl | rfl | rfl | rfl | rfl | rfl | rfl | rfl | rfl <;> rfl
def own_rb (a : Int64) (b : Int32) (t : Nat) : Bool := (own_raw a b (Int32.ofNat (t / 5))).toBitVec.getLsbD (4 - t % 5)
def own_iss (a : Int64) (b : Int32) (n : Nat) (s : Int64) : Prop := ∀ t, t < 50 → s.toBitVec.getLsbD (49 - t) = (decide (t < 5 * n) && own_rb a b t)
theorem own_31 : ∀ i, i < 32 → (31 : Int32).toBitVec.getLsbD i = decide (i < 5) := by decide +kernel
theorem own_sh (r : Int32) (k i : Nat) (hk : k < 10) (hi : i < 50) : ((r.toBitVec &&& (31 : Int32).toBitVec).signExtend 64 <<< (45 - 5 * k)).getLsbD i = (decide (45 - 5 * k ≤ i) && decide (i - (45 - 5 * k) < 5) && r.toBitVec.getLsbD (i - (45 - 5 * k))) := by
  have hm : (r.toBitVec &&& (31 : Int32).toBitVec).msb = false := by
    rw [BitVec.msb_and, show (31 : Int32).toBitVec.msb = false from by decide, Bool.and_false]
  rw [BitVec.getLsbD_shiftLeft, BitVec.getLsbD_signExtend]
  generalize hd : 45 - 5 * k = d
  by_cases h1 : i < d
  · have h2 : ¬ d ≤ i := by omega
    simp [h1, h2]
  · have h2 : d ≤ i := by omega
    by_cases h3 : i - d < 32
    · rw [if_pos h3, BitVec.getLsbD_and, own_31 _ h3]
      simp only [h1, h2, show i < 64 from by omega, show i - d < 64 from by omega, decide_true, decide_false, Bool.not_false, Bool.true_and]
      rw [Bool.and_comm]
    · rw [if_neg h3, hm]
      have h4 : ¬ i - d < 5 := by omega
      simp [h4]
theorem own_termb {a : Int64} {b z kk : Int32} {n k : Nat} (hz : z.toInt = n) (hk : kk = Int32.ofNat k) (h : k < 10) (t : Nat) (ht : t < 50) : (own_term a b z kk).toBitVec.getLsbD (49 - t) = (decide (k < n) && decide (t / 5 = k) && (own_raw a b kk).toBitVec.getLsbD (4 - t % 5)) := by
  have hlt : (kk < z) ↔ k < n := by
    rw [hk, Int32.lt_iff_toInt_lt, own_ofNat (by omega), hz]; omega
  unfold own_term
  by_cases u : k < n
  · rw [if_pos (hlt.mpr u)]
    have e : ((own_raw a b kk &&& (31 : Int32)).toInt64 <<< (((45 : Int32) - ((5 : Int32) * kk)) &&& 0x3f).toInt64).toBitVec = ((own_raw a b kk).toBitVec &&& (31 : Int32).toBitVec).signExtend 64 <<< (45 - 5 * k) := by
      subst hk
      have hc : k = 0 ∨ k = 1 ∨ k = 2 ∨ k = 3 ∨ k = 4 ∨ k = 5 ∨ k = 6 ∨ k = 7 ∨ k = 8 ∨ k = 9 := by omega
      rcases hc with rfl | rfl | rfl | rfl | rfl | rfl | rfl | rfl | rfl | rfl <;> rfl
    rw [e, own_sh _ k _ h (by omega)]
    by_cases v : t / 5 = k
    · have h1 : 45 - 5 * k ≤ 49 - t := by omega
      have h2 : 49 - t - (45 - 5 * k) < 5 := by omega
      have h3 : 49 - t - (45 - 5 * k) = 4 - t % 5 := by omega
      simp only [u, v, h1, h2, decide_true, Bool.true_and]
      rw [h3]
    · have h1 : ¬ (45 - 5 * k ≤ 49 - t ∧ 49 - t - (45 - 5 * k) < 5) := by omega
      have h2 : (decide (45 - 5 * k ≤ 49 - t) && decide (49 - t - (45 - 5 * k) < 5)) = false := by
        rw [← Bool.decide_and]; exact decide_eq_false h1
      rw [h2, decide_eq_false v, Bool.and_false, Bool.false_and, Bool.false_and]
  · rw [if_neg (fun q => u (hlt.mp q)), decide_eq_false u, Bool.false_and, Bool.false_and]
    show (0#64).getLsbD (49 - t) = false
    exact BitVec.getLsbD_zero
theorem own_sum {q0 : Int64} {p1 z : Int32} {n : Nat} (hz : z.toInt = n) (h10 : n ≤ 10) : own_iss q0 p1 n ((((((((((own_term q0 p1 z (0 : Int32)) ||| (own_term q0 p1 z (1 : Int32))) ||| (own_term q0 p1 z (2 : Int32))) ||| (own_term q0 p1 z (3 : Int32))) ||| (own_term q0 p1 z (4 : Int32))) ||| (own_term q0 p1 z (5 : Int32))) ||| (own_term q0 p1 z (6 : Int32))) ||| (own_term q0 p1 z (7 : Int32))) ||| (own_term q0 p1 z (8 : Int32))) ||| (own_term q0 p1 z (9 : Int32))) := by
  intro t ht
  simp only [Int64.toBitVec_or, BitVec.getLsbD_or]
  rw [own_termb (kk := 0) hz (k := 0) rfl (by decide) t ht, own_termb (kk := 1) hz (k := 1) rfl (by decide) t ht, own_termb (kk := 2) hz (k := 2) rfl (by decide) t ht, own_termb (kk := 3) hz (k := 3) rfl (by decide) t ht, own_termb (kk := 4) hz (k := 4) rfl (by decide) t ht,
    own_termb (kk := 5) hz (k := 5) rfl (by decide) t ht, own_termb (kk := 6) hz (k := 6) rfl (by decide) t ht, own_termb (kk := 7) hz (k := 7) rfl (by decide) t ht, own_termb (kk := 8) hz (k := 8) rfl (by decide) t ht, own_termb (kk := 9) hz (k := 9) rfl (by decide) t ht]
  have e : decide (t < 5 * n) = decide (t / 5 < n) := decide_eq_decide.mpr (by omega)
  rw [e]
  unfold own_rb
  have hc : t / 5 = 0 ∨ t / 5 = 1 ∨ t / 5 = 2 ∨ t / 5 = 3 ∨ t / 5 = 4 ∨ t / 5 = 5 ∨ t / 5 = 6 ∨ t / 5 = 7 ∨ t / 5 = 8 ∨ t / 5 = 9 := by omega
  generalize 4 - t % 5 = i
  rcases hc with hc | hc | hc | hc | hc | hc | hc | hc | hc | hc <;> rw [hc] <;> simp <;> rfl
def own_v8 (b0 b1 b2 b3 b4 b5 b6 b7 : Bool) : Int32 := ((if b0 then 128 else 0) ||| (if b1 then 64 else 0) ||| (if b2 then 32 else 0) ||| (if b3 then 16 else 0) ||| (if b4 then 8 else 0) ||| (if b5 then 4 else 0) ||| (if b6 then 2 else 0) ||| (if b7 then 1 else 0) : Int32).toInt8.toInt32
def own_V8 (b : Nat → Bool) : Int32 := own_v8 (b 0) (b 1) (b 2) (b 3) (b 4) (b 5) (b 6) (b 7)
theorem own_V8_congr {b b' : Nat → Bool} (h : ∀ s, s < 8 → b s = b' s) : own_V8 b = own_V8 b' := by
  unfold own_V8
  rw [h 0 (by decide), h 1 (by decide), h 2 (by decide), h 3 (by decide), h 4 (by decide), h 5 (by decide), h 6 (by decide), h 7 (by decide)]
theorem own_w8v : ∀ t, t < 64 → own_w8 t = (if t % 8 = 0 then -128 else if t % 8 = 1 then 64 else if t % 8 = 2 then 32 else if t % 8 = 3 then 16 else if t % 8 = 4 then 8 else if t % 8 = 5 then 4 else if t % 8 = 6 then 2 else 1) := by decide +kernel
theorem own_o0 : ∀ b0 b1 b2 b3 b4 b5 b6 b7 : Bool, nar .byte ((own_v8 b0 b1 b2 b3 b4 b5 b6 b7 ||| -128).toInt8.toInt32) = own_v8 true b1 b2 b3 b4 b5 b6 b7 := by decide +kernel
theorem own_o1 : ∀ b0 b1 b2 b3 b4 b5 b6 b7 : Bool, nar .byte ((own_v8 b0 b1 b2 b3 b4 b5 b6 b7 ||| 64).toInt8.toInt32) = own_v8 b0 true b2 b3 b4 b5 b6 b7 := by decide +kernel
theorem own_o2 : ∀ b0 b1 b2 b3 b4 b5 b6 b7 : Bool, nar .byte ((own_v8 b0 b1 b2 b3 b4 b5 b6 b7 ||| 32).toInt8.toInt32) = own_v8 b0 b1 true b3 b4 b5 b6 b7 := by decide +kernel
theorem own_o3 : ∀ b0 b1 b2 b3 b4 b5 b6 b7 : Bool, nar .byte ((own_v8 b0 b1 b2 b3 b4 b5 b6 b7 ||| 16).toInt8.toInt32) = own_v8 b0 b1 b2 true b4 b5 b6 b7 := by decide +kernel
theorem own_o4 : ∀ b0 b1 b2 b3 b4 b5 b6 b7 : Bool, nar .byte ((own_v8 b0 b1 b2 b3 b4 b5 b6 b7 ||| 8).toInt8.toInt32) = own_v8 b0 b1 b2 b3 true b5 b6 b7 := by decide +kernel
theorem own_o5 : ∀ b0 b1 b2 b3 b4 b5 b6 b7 : Bool, nar .byte ((own_v8 b0 b1 b2 b3 b4 b5 b6 b7 ||| 4).toInt8.toInt32) = own_v8 b0 b1 b2 b3 b4 true b6 b7 := by decide +kernel
theorem own_o6 : ∀ b0 b1 b2 b3 b4 b5 b6 b7 : Bool, nar .byte ((own_v8 b0 b1 b2 b3 b4 b5 b6 b7 ||| 2).toInt8.toInt32) = own_v8 b0 b1 b2 b3 b4 b5 true b7 := by decide +kernel
theorem own_o7 : ∀ b0 b1 b2 b3 b4 b5 b6 b7 : Bool, nar .byte ((own_v8 b0 b1 b2 b3 b4 b5 b6 b7 ||| 1).toInt8.toInt32) = own_v8 b0 b1 b2 b3 b4 b5 b6 true := by decide +kernel
theorem own_V8_set (b : Nat → Bool) (s : Nat) (hs : s < 8) (w : Int32) (hw : w = if s = 0 then -128 else if s = 1 then 64 else if s = 2 then 32 else if s = 3 then 16 else if s = 4 then 8 else if s = 5 then 4 else if s = 6 then 2 else 1) : nar .byte ((own_V8 b ||| w).toInt8.toInt32) = own_V8 (fun q => if q = s then true else b q) := by
  have h : s = 0 ∨ s = 1 ∨ s = 2 ∨ s = 3 ∨ s = 4 ∨ s = 5 ∨ s = 6 ∨ s = 7 := by omega
  rcases h with rfl | rfl | rfl | rfl | rfl | rfl | rfl | rfl
  · rw [hw]; exact own_o0 (b 0) (b 1) (b 2) (b 3) (b 4) (b 5) (b 6) (b 7)
  · rw [hw]; exact own_o1 (b 0) (b 1) (b 2) (b 3) (b 4) (b 5) (b 6) (b 7)
  · rw [hw]; exact own_o2 (b 0) (b 1) (b 2) (b 3) (b 4) (b 5) (b 6) (b 7)
  · rw [hw]; exact own_o3 (b 0) (b 1) (b 2) (b 3) (b 4) (b 5) (b 6) (b 7)
  · rw [hw]; exact own_o4 (b 0) (b 1) (b 2) (b 3) (b 4) (b 5) (b 6) (b 7)
  · rw [hw]; exact own_o5 (b 0) (b 1) (b 2) (b 3) (b 4) (b 5) (b 6) (b 7)
  · rw [hw]; exact own_o6 (b 0) (b 1) (b 2) (b 3) (b 4) (b 5) (b 6) (b 7)
  · rw [hw]; exact own_o7 (b 0) (b 1) (b 2) (b 3) (b 4) (b 5) (b 6) (b 7)
def own_b (f : Nat → Int32) (t : Nat) : Bool := decide (¬ (f (t / 5) &&& own_m5 t) = 0)
theorem own_G_V8 (f : Nat → Int32) (j : Nat) : ∀ t, t ≤ 56 → own_G f t j = own_V8 (fun s => decide (8 * j + s < t) && own_b f (8 * j + s)) := by
  intro t
  induction t with
  | zero =>
    intro _
    rw [show own_G f 0 j = own_V8 (fun _ => false) from by show (0 : Int32) = own_v8 false false false false false false false false; decide]
    exact own_V8_congr fun s _ => by simp
  | succ t ih =>
    intro ht
    have ih := ih (by omega)
    by_cases u : j = t / 8
    · by_cases q : (f (t / 5) &&& own_m5 t) = 0
      · rw [← own_G_no q, ih]
        refine own_V8_congr fun s hs => ?_
        by_cases e : 8 * j + s = t
        · have : own_b f (8 * j + s) = false := by rw [e]; simp [own_b, q]
          rw [this, Bool.and_false, Bool.and_false]
        · rw [show decide (8 * j + s < t) = decide (8 * j + s < t + 1) from decide_eq_decide.mpr (by omega)]
      · rw [← own_G_yes q rfl j, if_pos u, ← u, ih]
        rw [own_V8_set _ (t % 8) (by omega) _ (own_w8v t (by omega))]
        refine own_V8_congr fun s hs => ?_
        by_cases e : s = t % 8
        · have e' : 8 * j + s = t := by omega
          have : own_b f (8 * j + s) = true := by rw [e']; simp [own_b, q]
          rw [if_pos e, this, Bool.and_true, eq_comm, decide_eq_true_eq]; omega
        · rw [if_neg e, show decide (8 * j + s < t) = decide (8 * j + s < t + 1) from decide_eq_decide.mpr (by omega)]
    · have e : own_G f (t + 1) j = own_G f t j := if_neg u
      rw [e, ih]
      refine own_V8_congr fun s hs => ?_
      rw [show decide (8 * j + s < t) = decide (8 * j + s < t + 1) from decide_eq_decide.mpr (by omega)]
theorem own_m5v : ∀ t, t < 64 → (own_m5 t).toBitVec = BitVec.twoPow 32 (4 - t % 5) := by decide +kernel
theorem own_nb8 (r : Int32) (i : Nat) (hi : i < 8) : (nar .byte r).toBitVec.getLsbD i = r.toBitVec.getLsbD i := by
  show ((r.toBitVec.signExtend 8).signExtend 32).getLsbD i = _
  simp only [BitVec.getLsbD_signExtend, show i < 32 from by omega, hi, decide_true, Bool.true_and, if_true]
theorem own_bx (a : Int64) (b : Int32) (t : Nat) (ht : t < 50) : own_b (fun j => nar .byte (own_raw a b (Int32.ofNat j))) t = own_rb a b t := by
  unfold own_rb own_b
  rw [← own_nb8 _ (4 - t % 5) (by omega)]
  show decide (¬ (nar .byte (own_raw a b (Int32.ofNat (t / 5))) &&& own_m5 t) = 0) = _
  generalize nar .byte (own_raw a b (Int32.ofNat (t / 5))) = r
  have h2 : ((r &&& own_m5 t) = 0) ↔ r.toBitVec.getLsbD (4 - t % 5) = false := by
    rw [← Int32.toBitVec_inj, Int32.toBitVec_and, own_m5v t (by omega), BitVec.and_twoPow]
    cases r.toBitVec.getLsbD (4 - t % 5)
    · simp
    · have q : ∀ i, i < 8 → ¬ BitVec.twoPow 32 i = 0#32 := by decide
      simpa using q (4 - t % 5) (by omega)
  cases h3 : r.toBitVec.getLsbD (4 - t % 5)
  · simp [h2.mpr h3]
  · have : ¬ (r &&& own_m5 t) = 0 := fun q => by rw [h2, h3] at q; cases q
    simp [this]
theorem own_V8_bits : ∀ b0 b1 b2 b3 b4 b5 b6 b7 : Bool, ∀ i, i < 32 → (own_v8 b0 b1 b2 b3 b4 b5 b6 b7 &&& 255).toBitVec.getLsbD i = (if i = 7 then b0 else if i = 6 then b1 else if i = 5 then b2 else if i = 4 then b3 else if i = 3 then b4 else if i = 2 then b5 else if i = 1 then b6 else if i = 0 then b7 else false) := by decide +kernel
theorem own_255 : ∀ i, i < 64 → (255 : Int64).toBitVec.getLsbD i = decide (i < 8) := by decide +kernel
theorem own_3 : ∀ i, i < 64 → (3 : Int64).toBitVec.getLsbD i = decide (i < 2) := by decide +kernel
theorem own_V8b (b : Nat → Bool) (i : Nat) (hi : i < 32) : (own_V8 b &&& 255).toBitVec.getLsbD i = (decide (i < 8) && b (7 - i)) := by
  unfold own_V8
  rw [own_V8_bits _ _ _ _ _ _ _ _ i hi]
  have hc : i = 0 ∨ i = 1 ∨ i = 2 ∨ i = 3 ∨ i = 4 ∨ i = 5 ∨ i = 6 ∨ i = 7 ∨ 8 ≤ i := by omega
  rcases hc with rfl | rfl | rfl | rfl | rfl | rfl | rfl | rfl | hc
  all_goals first | rfl | skip
  have h0 : ¬ i = 0 := by omega
  have h1 : ¬ i = 1 := by omega
  have h2 : ¬ i = 2 := by omega
  have h3 : ¬ i = 3 := by omega
  have h4 : ¬ i = 4 := by omega
  have h5 : ¬ i = 5 := by omega
  have h6 : ¬ i = 6 := by omega
  have h7 : ¬ i = 7 := by omega
  have h8 : ¬ i < 8 := by omega
  simp [h0, h1, h2, h3, h4, h5, h6, h7, h8]
theorem own_expb (s : Int64) (j i : Nat) (hj : j < 7) (hi : i < 32) : (own_exp s (Int32.ofNat j)).toBitVec.getLsbD i = (decide (i < 8) && (decide (8 * j + (7 - i) < 50) && s.toBitVec.getLsbD (49 - (8 * j + (7 - i))))) := by
  by_cases h6 : j = 6
  · subst h6
    have e : (own_exp s (Int32.ofNat 6)).toBitVec = ((s.toBitVec &&& (3 : Int64).toBitVec).signExtend 32) <<< (6 : Nat) := by
      rw [own_exp, if_neg (by decide)]; rfl
    rw [e, BitVec.getLsbD_shiftLeft, BitVec.getLsbD_signExtend, BitVec.getLsbD_and]
    by_cases h1 : i < 6
    · have h2 : ¬ 8 * 6 + (7 - i) < 50 := by omega
      simp [h1, h2]
    · rw [if_pos (show i - 6 < 64 by omega), own_3 _ (by omega)]
      have hc : i = 6 ∨ i = 7 ∨ 8 ≤ i := by omega
      rcases hc with rfl | rfl | hc
      · simp
      · simp
      · have h3 : ¬ i - 6 < 2 := by omega
        have h4 : ¬ i < 8 := by omega
        simp [h3, h4]
  · have e : (own_exp s (Int32.ofNat j)).toBitVec = ((s.toBitVec >>> (42 - 8 * j)) &&& (255 : Int64).toBitVec).signExtend 32 := by
      have hc : j = 0 ∨ j = 1 ∨ j = 2 ∨ j = 3 ∨ j = 4 ∨ j = 5 := by omega
      rcases hc with rfl | rfl | rfl | rfl | rfl | rfl <;> (rw [own_exp, if_pos (by decide)]; rfl)
    rw [e, BitVec.getLsbD_signExtend, if_pos (show i < 64 by omega), BitVec.getLsbD_and, BitVec.getLsbD_ushiftRight, own_255 _ (by omega)]
    by_cases h8 : i < 8
    · have h1 : 8 * j + (7 - i) < 50 := by omega
      have h2 : 42 - 8 * j + i = 49 - (8 * j + (7 - i)) := by omega
      simp only [hi, h8, h1, h2, decide_true, Bool.true_and, Bool.and_true]
    · simp [h8]
theorem own_final {a s : Int64} {b : Int32} {n w j : Nat} (hs : own_iss a b n s) (h10 : n ≤ 10) (h7 : w ≤ 7) (hj : j < w) : (own_G (fun j => nar .byte (own_raw a b (Int32.ofNat j))) (min (n * 5) (w * 8)) j &&& (255 : Int32)) = own_exp s (Int32.ofNat j) := by
  rw [own_G_V8 _ j _ (by omega), ← Int32.toBitVec_inj]
  apply BitVec.eq_of_getLsbD_eq
  intro i hi
  rw [own_V8b _ i hi, own_expb s j i (by omega) hi]
  by_cases h8 : i < 8
  · rw [decide_eq_true h8, Bool.true_and, Bool.true_and]
    by_cases h : 8 * j + (7 - i) < 50
    · rw [own_bx a b _ h, hs _ h, decide_eq_true h, Bool.true_and]
      rw [show decide (8 * j + (7 - i) < min (n * 5) (w * 8)) = decide (8 * j + (7 - i) < 5 * n) from decide_eq_decide.mpr (by omega)]
    · rw [decide_eq_false h, decide_eq_false (by omega), Bool.false_and, Bool.false_and]
  · rw [decide_eq_false h8, Bool.false_and, Bool.false_and]
theorem pd_2 : parseMethodDescriptor "(JIII)J" = some ⟨[.long, .int, .int, .int], some .long⟩ := by decide +kernel
theorem pd_3 : parseMethodDescriptor "([BI)[B" = some ⟨[(.array .byte), .int], some (.array .byte)⟩ := by decide +kernel
theorem pd_4 : parseMethodDescriptor "([BIJI)Z" = some ⟨[(.array .byte), .int, .long, .int], some .boolean⟩ := by decide +kernel
theorem ef_6 (m : MethodId) (q0 : Int64) (p1 : Int32) (p2 : Int32) (p3 : Int32) : entryFrame m #[(.long q0), (.int p1), (.int p2), (.int p3)] maxLocals = mkF m 0 #[.val (.long q0), .second, .val (.int p1), .val (.int p2), .val (.int p3), .unset, .unset, .unset, .unset, .unset, .unset] [] := by first | (simp [entryFrame, mkF, argsToLocals, Value.category, maxLocals]; done) | rfl
def Q_rm_law (Z : State) (q0 : Int64) (p1 : Int32) (p2 : Int32) (p3 : Int32)  (h0 : Heap) (n0 : Nat) (v : Option Value) (h : Heap) (L : List Loc) : Prop := v = some (.int (1 : Int32)) ∧ Fr n0 L
set_option maxRecDepth 65536 in
set_option maxHeartbeats 40000000 in
theorem rm_law (l : Launch) (Z : State) (a0 : Array Value) (hw : ∀ d ∈ tables_1, d.before a0 Z = true) (ws : List Jvm.Cond) (q0 : Int64) (p1 : Int32) (p2 : Int32) (p3 : Int32)  (h0 : Heap) (n0 : Nat) (Z0 : n0 ≤ h0.size)  :
    MetFree l x (head1 (Jvm.Cond.code x code maxLocals ret :: ws) room_1) (fun av_ U => av_ = #[(.long q0), (.int p1), (.int p2), (.int p3)] ∧ Z.Warmed39 U.vm ∧ U.heap = h0) (fun _ _ _ _ _ => True) (fun _ U o U' => ∃ v L, o = .returned v ∧ Q_rm_law Z q0 p1 p2 p3 h0 n0 v U'.heap L ∧ FrameEnd U o U' L 16 128) := by
  refine MetFree.of_bodySF (plainFor_of_name pn_0) hisR ?_
  intro p e s m args below meth c s₁ Bd hml0 hP hK
  obtain ⟨rfl, hZ, hh⟩ := hP
  have hx := Bd.exec
  have hby := Bd.bytes
  have hml : c.maxLocals = 11 := hml0
  have hown : s.vm.findClass "com/example/relampago/relampago/bolt11/Bech32BytesPinLaw" = some m.cls := findClass_of_methodNamed Bd.named
  have hnm := (name_of_methodNamed Bd.named Bd.method).1
  have hlk : meth.locks = false := BodyLoose.notSynchronized Bd
  have X0 : Stand p l e room_1 s m #[(.long q0), (.int p1), (.int p2), (.int p3)] below meth c s₁ [] 0 0 := Stand.of_body Bd
  have e0 : s₁.heap = h0 := by rw [← hh, Bd.state]; rfl
  have N0 := Fr.nil n0
  refine own_by (fun _ kt => castTop (ef_6 m q0 p1 p2 p3) kt) (R := own_R s (Q_rm_law Z q0 p1 p2 p3 h0 n0) 16 128) ?_
  show own_Go p.tables e below (s₁.setTop (mkF m 0 #[.val (.long q0), .second, .val (.int p1), .val (.int p2), .val (.int p3), .unset, .unset, .unset, .unset, .unset, .unset] [])) _
  refine own_by (fun _ kt => XS.iloadN X0.here hx rfl (hb hby at_0) rfl kt) ?_
  show own_Go p.tables e below (s₁.setTop (mkF m 1 #[.val (.long q0), .second, .val (.int p1), .val (.int p2), .val (.int p3), .unset, .unset, .unset, .unset, .unset, .unset] [(.int p2)])) _
  refine own_by (X0.ldcInt hx hown (mvT hZ (hw _ (List.mem_of_getElem? (i := 0) rfl))) (g := (mkF m 1 #[.val (.long q0), .second, .val (.int p1), .val (.int p2), .val (.int p3), .unset, .unset, .unset, .unset, .unset, .unset] [(.int p2)])) rfl (hb hby at_1)) ?_
  show own_Go p.tables e below (s₁.setTop (mkF m 3 #[.val (.long q0), .second, .val (.int p1), .val (.int p2), .val (.int p3), .unset, .unset, .unset, .unset, .unset, .unset] [(.int (2147483647 : Int32)), (.int p2)])) _
  refine own_by (fun _ kt => XS.iand X0.here hx rfl (hb hby at_3) rfl kt) ?_
  show own_Go p.tables e below (s₁.setTop (mkF m 4 #[.val (.long q0), .second, .val (.int p1), .val (.int p2), .val (.int p3), .unset, .unset, .unset, .unset, .unset, .unset] [(.int (p2 &&& (2147483647 : Int32)))])) _
  refine own_by (fun _ kt => XS.bipush X0.here hx rfl (hb hby at_4) kt) ?_
  show own_Go p.tables e below (s₁.setTop (mkF m 6 #[.val (.long q0), .second, .val (.int p1), .val (.int p2), .val (.int p3), .unset, .unset, .unset, .unset, .unset, .unset] [(.int (11 : Int32)), (.int (p2 &&& (2147483647 : Int32)))])) _
  refine own_by (fun _ kt => iremM X0 hx rfl (hb hby at_6) rfl (by decide) kt) ?_
  show own_Go p.tables e below (s₁.setTop (mkF m 7 #[.val (.long q0), .second, .val (.int p1), .val (.int p2), .val (.int p3), .unset, .unset, .unset, .unset, .unset, .unset] [(.int ((p2 &&& (2147483647 : Int32)) % (11 : Int32)))])) _
  obtain ⟨hz, h10⟩ := own_elev p2
  generalize ((p2 &&& (2147483647 : Int32)) % (11 : Int32)).toInt.toNat = n at hz h10
  generalize ((p2 &&& (2147483647 : Int32)) % (11 : Int32)) = z at hz ⊢
  show own_Go p.tables e below (s₁.setTop (mkF m 7 #[.val (.long q0), .second, .val (.int p1), .val (.int p2), .val (.int p3), .unset, .unset, .unset, .unset, .unset, .unset] [(.int z)])) _
  refine own_by (fun _ kt => XS.istore X0.here hx rfl (hb hby at_7) rfl (l' := #[.val (.long q0), .second, .val (.int p1), .val (.int p2), .val (.int p3), .val (.int z), .unset, .unset, .unset, .unset, .unset]) rfl kt) ?_
  show own_Go p.tables e below (s₁.setTop (mkF m 9 #[.val (.long q0), .second, .val (.int p1), .val (.int p2), .val (.int p3), .val (.int z), .unset, .unset, .unset, .unset, .unset] [])) _
  refine own_by (fun _ kt => XS.iload X0.here hx rfl (hb hby at_9) rfl kt) ?_
  show own_Go p.tables e below (s₁.setTop (mkF m 11 #[.val (.long q0), .second, .val (.int p1), .val (.int p2), .val (.int p3), .val (.int z), .unset, .unset, .unset, .unset, .unset] [(.int p3)])) _
  refine own_by (X0.ldcInt hx hown (mvT hZ (hw _ (List.mem_of_getElem? (i := 0) rfl))) (g := (mkF m 11 #[.val (.long q0), .second, .val (.int p1), .val (.int p2), .val (.int p3), .val (.int z), .unset, .unset, .unset, .unset, .unset] [(.int p3)])) rfl (hb hby at_11)) ?_
  show own_Go p.tables e below (s₁.setTop (mkF m 13 #[.val (.long q0), .second, .val (.int p1), .val (.int p2), .val (.int p3), .val (.int z), .unset, .unset, .unset, .unset, .unset] [(.int (2147483647 : Int32)), (.int p3)])) _
  refine own_by (fun _ kt => XS.iand X0.here hx rfl (hb hby at_13) rfl kt) ?_
  show own_Go p.tables e below (s₁.setTop (mkF m 14 #[.val (.long q0), .second, .val (.int p1), .val (.int p2), .val (.int p3), .val (.int z), .unset, .unset, .unset, .unset, .unset] [(.int (p3 &&& (2147483647 : Int32)))])) _
  refine own_by (fun _ kt => XS.bipush X0.here hx rfl (hb hby at_14) kt) ?_
  show own_Go p.tables e below (s₁.setTop (mkF m 16 #[.val (.long q0), .second, .val (.int p1), .val (.int p2), .val (.int p3), .val (.int z), .unset, .unset, .unset, .unset, .unset] [(.int (8 : Int32)), (.int (p3 &&& (2147483647 : Int32)))])) _
  refine own_by (fun _ kt => iremM X0 hx rfl (hb hby at_16) rfl (by decide) kt) ?_
  show own_Go p.tables e below (s₁.setTop (mkF m 17 #[.val (.long q0), .second, .val (.int p1), .val (.int p2), .val (.int p3), .val (.int z), .unset, .unset, .unset, .unset, .unset] [(.int ((p3 &&& (2147483647 : Int32)) % (8 : Int32)))])) _
  obtain ⟨hu, h7⟩ := own_eight p3
  generalize ((p3 &&& (2147483647 : Int32)) % (8 : Int32)).toInt.toNat = w at hu h7
  generalize ((p3 &&& (2147483647 : Int32)) % (8 : Int32)) = u at hu ⊢
  show own_Go p.tables e below (s₁.setTop (mkF m 17 #[.val (.long q0), .second, .val (.int p1), .val (.int p2), .val (.int p3), .val (.int z), .unset, .unset, .unset, .unset, .unset] [(.int u)])) _
  refine own_by (fun _ kt => XS.istore X0.here hx rfl (hb hby at_17) rfl (l' := #[.val (.long q0), .second, .val (.int p1), .val (.int p2), .val (.int p3), .val (.int z), .val (.int u), .unset, .unset, .unset, .unset]) rfl kt) ?_
  show own_Go p.tables e below (s₁.setTop (mkF m 19 #[.val (.long q0), .second, .val (.int p1), .val (.int p2), .val (.int p3), .val (.int z), .val (.int u), .unset, .unset, .unset, .unset] [])) _
  refine own_by (fun _ kt => XS.iload X0.here hx rfl (hb hby at_19) rfl kt) ?_
  show own_Go p.tables e below (s₁.setTop (mkF m 21 #[.val (.long q0), .second, .val (.int p1), .val (.int p2), .val (.int p3), .val (.int z), .val (.int u), .unset, .unset, .unset, .unset] [(.int z)])) _
  obtain ⟨T1, h1, k1, X1, e1, E1, A1, st1⟩ := newP X0 hx hZ (hw _ (List.mem_of_getElem? (i := 1) rfl)) e0 (g := (mkF m 21 #[.val (.long q0), .second, .val (.int p1), .val (.int p2), .val (.int p3), .val (.int z), .val (.int u), .unset, .unset, .unset, .unset] [(.int z)])) rfl (hb hby at_21) rfl (own_neg hz) (cap := 10) (own_cap hz h10) (by decide) (by decide) (by decide)
  obtain ⟨b1, g1⟩ : ∃ z, z = h0.size := ⟨_, rfl⟩
  rw [← g1] at A1 st1
  have gn_b1 : n0 ≤ b1 := Nat.le_trans Z0 (Nat.le_of_eq g1.symm)
  have Zs1 : n0 ≤ h1.size := Nat.le_trans Z0 E1.1
  have f2 : own_Arf Z h1 b1 k1 .byte n (fun _ => (0 : Int32)) := own_Arf.new A1 hz
  refine own_by st1 ?_
  show own_Go p.tables e below (T1.setTop (mkF m 23 #[.val (.long q0), .second, .val (.int p1), .val (.int p2), .val (.int p3), .val (.int z), .val (.int u), .unset, .unset, .unset, .unset] [(.ref b1)])) _
  refine own_by (fun _ kt => XS.astore X1.here hx rfl (hb hby at_23) rfl rfl (l' := #[.val (.long q0), .second, .val (.int p1), .val (.int p2), .val (.int p3), .val (.int z), .val (.int u), .val (.ref b1), .unset, .unset, .unset]) rfl kt) ?_
  show own_Go p.tables e below (T1.setTop (mkF m 25 #[.val (.long q0), .second, .val (.int p1), .val (.int p2), .val (.int p3), .val (.int z), .val (.int u), .val (.ref b1), .unset, .unset, .unset] [])) _
  have J3 : ∀ (hJ3 : Heap) (TJ3 : State) (lJ3 : List Loc) (XJ3 : Stand p l e room_1 s m #[(.long q0), (.int p1), (.int p2), (.int p3)] below meth c TJ3 lJ3 1 10) (eJ3 : TJ3.heap = hJ3) (NJ3 : Fr n0 lJ3) (ZJ3 : n0 ≤ hJ3.size) (fJ3_0 : own_Arf Z hJ3 b1 k1 .byte n (fun q => if q = (0 : Int32).toInt.toNat then nar .byte (own_raw q0 p1 (0 : Int32)) else (fun _ => (0 : Int32)) q)) , own_Go p.tables e below (TJ3.setTop (mkF m 40 #[.val (.long q0), .second, .val (.int p1), .val (.int p2), .val (.int p3), .val (.int z), .val (.int u), .val (.ref b1), .unset, .unset, .unset] [])) (own_R s (Q_rm_law Z q0 p1 p2 p3 h0 n0) 16 128) := by
    intro hJ3 TJ3 lJ3 XJ3 eJ3 NJ3 ZJ3 fJ3_0
    have J4 : ∀ (hJ4 : Heap) (TJ4 : State) (lJ4 : List Loc) (XJ4 : Stand p l e room_1 s m #[(.long q0), (.int p1), (.int p2), (.int p3)] below meth c TJ4 lJ4 1 10) (eJ4 : TJ4.heap = hJ4) (NJ4 : Fr n0 lJ4) (ZJ4 : n0 ≤ hJ4.size) (fJ4_0 : own_Arf Z hJ4 b1 k1 .byte n (fun q => if q = (1 : Int32).toInt.toNat then nar .byte (own_raw q0 p1 (1 : Int32)) else (fun q => if q = (0 : Int32).toInt.toNat then nar .byte (own_raw q0 p1 (0 : Int32)) else (fun _ => (0 : Int32)) q) q)) , own_Go p.tables e below (TJ4.setTop (mkF m 56 #[.val (.long q0), .second, .val (.int p1), .val (.int p2), .val (.int p3), .val (.int z), .val (.int u), .val (.ref b1), .unset, .unset, .unset] [])) (own_R s (Q_rm_law Z q0 p1 p2 p3 h0 n0) 16 128) := by
      intro hJ4 TJ4 lJ4 XJ4 eJ4 NJ4 ZJ4 fJ4_0
      have J5 : ∀ (hJ5 : Heap) (TJ5 : State) (lJ5 : List Loc) (XJ5 : Stand p l e room_1 s m #[(.long q0), (.int p1), (.int p2), (.int p3)] below meth c TJ5 lJ5 1 10) (eJ5 : TJ5.heap = hJ5) (NJ5 : Fr n0 lJ5) (ZJ5 : n0 ≤ hJ5.size) (fJ5_0 : own_Arf Z hJ5 b1 k1 .byte n (fun q => if q = (2 : Int32).toInt.toNat then nar .byte (own_raw q0 p1 (2 : Int32)) else (fun q => if q = (1 : Int32).toInt.toNat then nar .byte (own_raw q0 p1 (1 : Int32)) else (fun q => if q = (0 : Int32).toInt.toNat then nar .byte (own_raw q0 p1 (0 : Int32)) else (fun _ => (0 : Int32)) q) q) q)) , own_Go p.tables e below (TJ5.setTop (mkF m 72 #[.val (.long q0), .second, .val (.int p1), .val (.int p2), .val (.int p3), .val (.int z), .val (.int u), .val (.ref b1), .unset, .unset, .unset] [])) (own_R s (Q_rm_law Z q0 p1 p2 p3 h0 n0) 16 128) := by
        intro hJ5 TJ5 lJ5 XJ5 eJ5 NJ5 ZJ5 fJ5_0
        have J6 : ∀ (hJ6 : Heap) (TJ6 : State) (lJ6 : List Loc) (XJ6 : Stand p l e room_1 s m #[(.long q0), (.int p1), (.int p2), (.int p3)] below meth c TJ6 lJ6 1 10) (eJ6 : TJ6.heap = hJ6) (NJ6 : Fr n0 lJ6) (ZJ6 : n0 ≤ hJ6.size) (fJ6_0 : own_Arf Z hJ6 b1 k1 .byte n (fun q => if q = (3 : Int32).toInt.toNat then nar .byte (own_raw q0 p1 (3 : Int32)) else (fun q => if q = (2 : Int32).toInt.toNat then nar .byte (own_raw q0 p1 (2 : Int32)) else (fun q => if q = (1 : Int32).toInt.toNat then nar .byte (own_raw q0 p1 (1 : Int32)) else (fun q => if q = (0 : Int32).toInt.toNat then nar .byte (own_raw q0 p1 (0 : Int32)) else (fun _ => (0 : Int32)) q) q) q) q)) , own_Go p.tables e below (TJ6.setTop (mkF m 88 #[.val (.long q0), .second, .val (.int p1), .val (.int p2), .val (.int p3), .val (.int z), .val (.int u), .val (.ref b1), .unset, .unset, .unset] [])) (own_R s (Q_rm_law Z q0 p1 p2 p3 h0 n0) 16 128) := by
          intro hJ6 TJ6 lJ6 XJ6 eJ6 NJ6 ZJ6 fJ6_0
          have J7 : ∀ (hJ7 : Heap) (TJ7 : State) (lJ7 : List Loc) (XJ7 : Stand p l e room_1 s m #[(.long q0), (.int p1), (.int p2), (.int p3)] below meth c TJ7 lJ7 1 10) (eJ7 : TJ7.heap = hJ7) (NJ7 : Fr n0 lJ7) (ZJ7 : n0 ≤ hJ7.size) (fJ7_0 : own_Arf Z hJ7 b1 k1 .byte n (fun q => if q = (4 : Int32).toInt.toNat then nar .byte (own_raw q0 p1 (4 : Int32)) else (fun q => if q = (3 : Int32).toInt.toNat then nar .byte (own_raw q0 p1 (3 : Int32)) else (fun q => if q = (2 : Int32).toInt.toNat then nar .byte (own_raw q0 p1 (2 : Int32)) else (fun q => if q = (1 : Int32).toInt.toNat then nar .byte (own_raw q0 p1 (1 : Int32)) else (fun q => if q = (0 : Int32).toInt.toNat then nar .byte (own_raw q0 p1 (0 : Int32)) else (fun _ => (0 : Int32)) q) q) q) q) q)) , own_Go p.tables e below (TJ7.setTop (mkF m 104 #[.val (.long q0), .second, .val (.int p1), .val (.int p2), .val (.int p3), .val (.int z), .val (.int u), .val (.ref b1), .unset, .unset, .unset] [])) (own_R s (Q_rm_law Z q0 p1 p2 p3 h0 n0) 16 128) := by
            intro hJ7 TJ7 lJ7 XJ7 eJ7 NJ7 ZJ7 fJ7_0
            have J8 : ∀ (hJ8 : Heap) (TJ8 : State) (lJ8 : List Loc) (XJ8 : Stand p l e room_1 s m #[(.long q0), (.int p1), (.int p2), (.int p3)] below meth c TJ8 lJ8 1 10) (eJ8 : TJ8.heap = hJ8) (NJ8 : Fr n0 lJ8) (ZJ8 : n0 ≤ hJ8.size) (fJ8_0 : own_Arf Z hJ8 b1 k1 .byte n (fun q => if q = (5 : Int32).toInt.toNat then nar .byte (own_raw q0 p1 (5 : Int32)) else (fun q => if q = (4 : Int32).toInt.toNat then nar .byte (own_raw q0 p1 (4 : Int32)) else (fun q => if q = (3 : Int32).toInt.toNat then nar .byte (own_raw q0 p1 (3 : Int32)) else (fun q => if q = (2 : Int32).toInt.toNat then nar .byte (own_raw q0 p1 (2 : Int32)) else (fun q => if q = (1 : Int32).toInt.toNat then nar .byte (own_raw q0 p1 (1 : Int32)) else (fun q => if q = (0 : Int32).toInt.toNat then nar .byte (own_raw q0 p1 (0 : Int32)) else (fun _ => (0 : Int32)) q) q) q) q) q) q)) , own_Go p.tables e below (TJ8.setTop (mkF m 120 #[.val (.long q0), .second, .val (.int p1), .val (.int p2), .val (.int p3), .val (.int z), .val (.int u), .val (.ref b1), .unset, .unset, .unset] [])) (own_R s (Q_rm_law Z q0 p1 p2 p3 h0 n0) 16 128) := by
              intro hJ8 TJ8 lJ8 XJ8 eJ8 NJ8 ZJ8 fJ8_0
              have J9 : ∀ (hJ9 : Heap) (TJ9 : State) (lJ9 : List Loc) (XJ9 : Stand p l e room_1 s m #[(.long q0), (.int p1), (.int p2), (.int p3)] below meth c TJ9 lJ9 1 10) (eJ9 : TJ9.heap = hJ9) (NJ9 : Fr n0 lJ9) (ZJ9 : n0 ≤ hJ9.size) (fJ9_0 : own_Arf Z hJ9 b1 k1 .byte n (fun q => if q = (6 : Int32).toInt.toNat then nar .byte (own_raw q0 p1 (6 : Int32)) else (fun q => if q = (5 : Int32).toInt.toNat then nar .byte (own_raw q0 p1 (5 : Int32)) else (fun q => if q = (4 : Int32).toInt.toNat then nar .byte (own_raw q0 p1 (4 : Int32)) else (fun q => if q = (3 : Int32).toInt.toNat then nar .byte (own_raw q0 p1 (3 : Int32)) else (fun q => if q = (2 : Int32).toInt.toNat then nar .byte (own_raw q0 p1 (2 : Int32)) else (fun q => if q = (1 : Int32).toInt.toNat then nar .byte (own_raw q0 p1 (1 : Int32)) else (fun q => if q = (0 : Int32).toInt.toNat then nar .byte (own_raw q0 p1 (0 : Int32)) else (fun _ => (0 : Int32)) q) q) q) q) q) q) q)) , own_Go p.tables e below (TJ9.setTop (mkF m 139 #[.val (.long q0), .second, .val (.int p1), .val (.int p2), .val (.int p3), .val (.int z), .val (.int u), .val (.ref b1), .unset, .unset, .unset] [])) (own_R s (Q_rm_law Z q0 p1 p2 p3 h0 n0) 16 128) := by
                intro hJ9 TJ9 lJ9 XJ9 eJ9 NJ9 ZJ9 fJ9_0
                have J10 : ∀ (hJ10 : Heap) (TJ10 : State) (lJ10 : List Loc) (XJ10 : Stand p l e room_1 s m #[(.long q0), (.int p1), (.int p2), (.int p3)] below meth c TJ10 lJ10 1 10) (eJ10 : TJ10.heap = hJ10) (NJ10 : Fr n0 lJ10) (ZJ10 : n0 ≤ hJ10.size) (fJ10_0 : own_Arf Z hJ10 b1 k1 .byte n (fun q => if q = (7 : Int32).toInt.toNat then nar .byte (own_raw q0 p1 (7 : Int32)) else (fun q => if q = (6 : Int32).toInt.toNat then nar .byte (own_raw q0 p1 (6 : Int32)) else (fun q => if q = (5 : Int32).toInt.toNat then nar .byte (own_raw q0 p1 (5 : Int32)) else (fun q => if q = (4 : Int32).toInt.toNat then nar .byte (own_raw q0 p1 (4 : Int32)) else (fun q => if q = (3 : Int32).toInt.toNat then nar .byte (own_raw q0 p1 (3 : Int32)) else (fun q => if q = (2 : Int32).toInt.toNat then nar .byte (own_raw q0 p1 (2 : Int32)) else (fun q => if q = (1 : Int32).toInt.toNat then nar .byte (own_raw q0 p1 (1 : Int32)) else (fun q => if q = (0 : Int32).toInt.toNat then nar .byte (own_raw q0 p1 (0 : Int32)) else (fun _ => (0 : Int32)) q) q) q) q) q) q) q) q)) , own_Go p.tables e below (TJ10.setTop (mkF m 158 #[.val (.long q0), .second, .val (.int p1), .val (.int p2), .val (.int p3), .val (.int z), .val (.int u), .val (.ref b1), .unset, .unset, .unset] [])) (own_R s (Q_rm_law Z q0 p1 p2 p3 h0 n0) 16 128) := by
                  intro hJ10 TJ10 lJ10 XJ10 eJ10 NJ10 ZJ10 fJ10_0
                  have J11 : ∀ (hJ11 : Heap) (TJ11 : State) (lJ11 : List Loc) (XJ11 : Stand p l e room_1 s m #[(.long q0), (.int p1), (.int p2), (.int p3)] below meth c TJ11 lJ11 1 10) (eJ11 : TJ11.heap = hJ11) (NJ11 : Fr n0 lJ11) (ZJ11 : n0 ≤ hJ11.size) (fJ11_0 : own_Arf Z hJ11 b1 k1 .byte n (fun q => if q = (8 : Int32).toInt.toNat then nar .byte (own_raw q0 p1 (8 : Int32)) else (fun q => if q = (7 : Int32).toInt.toNat then nar .byte (own_raw q0 p1 (7 : Int32)) else (fun q => if q = (6 : Int32).toInt.toNat then nar .byte (own_raw q0 p1 (6 : Int32)) else (fun q => if q = (5 : Int32).toInt.toNat then nar .byte (own_raw q0 p1 (5 : Int32)) else (fun q => if q = (4 : Int32).toInt.toNat then nar .byte (own_raw q0 p1 (4 : Int32)) else (fun q => if q = (3 : Int32).toInt.toNat then nar .byte (own_raw q0 p1 (3 : Int32)) else (fun q => if q = (2 : Int32).toInt.toNat then nar .byte (own_raw q0 p1 (2 : Int32)) else (fun q => if q = (1 : Int32).toInt.toNat then nar .byte (own_raw q0 p1 (1 : Int32)) else (fun q => if q = (0 : Int32).toInt.toNat then nar .byte (own_raw q0 p1 (0 : Int32)) else (fun _ => (0 : Int32)) q) q) q) q) q) q) q) q) q)) , own_Go p.tables e below (TJ11.setTop (mkF m 177 #[.val (.long q0), .second, .val (.int p1), .val (.int p2), .val (.int p3), .val (.int z), .val (.int u), .val (.ref b1), .unset, .unset, .unset] [])) (own_R s (Q_rm_law Z q0 p1 p2 p3 h0 n0) 16 128) := by
                    intro hJ11 TJ11 lJ11 XJ11 eJ11 NJ11 ZJ11 fJ11_0
                    have J12 : ∀ (hJ12 : Heap) (TJ12 : State) (lJ12 : List Loc) (XJ12 : Stand p l e room_1 s m #[(.long q0), (.int p1), (.int p2), (.int p3)] below meth c TJ12 lJ12 1 10) (eJ12 : TJ12.heap = hJ12) (NJ12 : Fr n0 lJ12) (ZJ12 : n0 ≤ hJ12.size) (fJ12_0 : own_Arf Z hJ12 b1 k1 .byte n (fun q => if q = (9 : Int32).toInt.toNat then nar .byte (own_raw q0 p1 (9 : Int32)) else (fun q => if q = (8 : Int32).toInt.toNat then nar .byte (own_raw q0 p1 (8 : Int32)) else (fun q => if q = (7 : Int32).toInt.toNat then nar .byte (own_raw q0 p1 (7 : Int32)) else (fun q => if q = (6 : Int32).toInt.toNat then nar .byte (own_raw q0 p1 (6 : Int32)) else (fun q => if q = (5 : Int32).toInt.toNat then nar .byte (own_raw q0 p1 (5 : Int32)) else (fun q => if q = (4 : Int32).toInt.toNat then nar .byte (own_raw q0 p1 (4 : Int32)) else (fun q => if q = (3 : Int32).toInt.toNat then nar .byte (own_raw q0 p1 (3 : Int32)) else (fun q => if q = (2 : Int32).toInt.toNat then nar .byte (own_raw q0 p1 (2 : Int32)) else (fun q => if q = (1 : Int32).toInt.toNat then nar .byte (own_raw q0 p1 (1 : Int32)) else (fun q => if q = (0 : Int32).toInt.toNat then nar .byte (own_raw q0 p1 (0 : Int32)) else (fun _ => (0 : Int32)) q) q) q) q) q) q) q) q) q) q)) , own_Go p.tables e below (TJ12.setTop (mkF m 196 #[.val (.long q0), .second, .val (.int p1), .val (.int p2), .val (.int p3), .val (.int z), .val (.int u), .val (.ref b1), .unset, .unset, .unset] [])) (own_R s (Q_rm_law Z q0 p1 p2 p3 h0 n0) 16 128) := by
                      intro hJ12 TJ12 lJ12 XJ12 eJ12 NJ12 ZJ12 fJ12_0
                      have f13 : own_Arf Z hJ12 b1 k1 .byte n (fun j => nar .byte (own_raw q0 p1 (Int32.ofNat j))) := fJ12_0.congr (own_puts q0 p1 h10)
                      refine own_by (fun _ kt => XS.lloadN XJ12.here hx rfl (hb hby at_196) rfl kt) ?_
                      show own_Go p.tables e below (TJ12.setTop (mkF m 197 #[.val (.long q0), .second, .val (.int p1), .val (.int p2), .val (.int p3), .val (.int z), .val (.int u), .val (.ref b1), .unset, .unset, .unset] [(.long q0)])) _
                      refine own_by (fun _ kt => XS.iloadN XJ12.here hx rfl (hb hby at_197) rfl kt) ?_
                      show own_Go p.tables e below (TJ12.setTop (mkF m 198 #[.val (.long q0), .second, .val (.int p1), .val (.int p2), .val (.int p3), .val (.int z), .val (.int u), .val (.ref b1), .unset, .unset, .unset] [(.int p1), (.long q0)])) _
                      refine own_by (fun _ kt => XS.iload XJ12.here hx rfl (hb hby at_198) rfl kt) ?_
                      show own_Go p.tables e below (TJ12.setTop (mkF m 200 #[.val (.long q0), .second, .val (.int p1), .val (.int p2), .val (.int p3), .val (.int z), .val (.int u), .val (.ref b1), .unset, .unset, .unset] [(.int z), (.int p1), (.long q0)])) _
                      refine own_by (fun _ kt => XS.iconst XJ12.here hx rfl (hb hby at_200) kt) ?_
                      show own_Go p.tables e below (TJ12.setTop (mkF m 201 #[.val (.long q0), .second, .val (.int p1), .val (.int p2), .val (.int p3), .val (.int z), .val (.int u), .val (.ref b1), .unset, .unset, .unset] [(.int (0 : Int32)), (.int z), (.int p1), (.long q0)])) _
                      obtain ⟨_, _, ⟨T14, L14, k14, n14⟩, -, X14, ⟨Lc14, hQ14, l14, y14, z14⟩, st14⟩ := Jvm.LawKit.callS XJ12 hx (y := (⟨"com/example/relampago/relampago/bolt11/Bech32BytesPinLaw", "term", "(JIII)J"⟩ : MethodName)) hown (mvT hZ (hw _ (List.mem_of_getElem? (i := 6) rfl))) (mvT hZ (hw _ (List.mem_of_getElem? (i := 7) rfl))) (mvT hZ (hw _ (List.mem_of_getElem? (i := 4) rfl))) (mvT hZ (hw _ (List.mem_of_getElem? (i := 8) rfl))) (by decide) (backOf (W := 0) (rm_own_term l Z a0 hw [] q0 p1 z (0 : Int32) hJ12 n0 ZJ12) hZ (hw _ (List.mem_of_getElem? (i := 8) rfl)) (hw _ (List.mem_of_getElem? (i := 4) rfl)) (by decide) (by decide)) (g := (mkF m 201 #[.val (.long q0), .second, .val (.int p1), .val (.int p2), .val (.int p3), .val (.int z), .val (.int u), .val (.ref b1), .unset, .unset, .unset] [(.int (0 : Int32)), (.int z), (.int p1), (.long q0)])) rfl (by rw [hml]; rfl) (argsL := [(.long q0), (.int p1), (.int z), (.int (0 : Int32))]) (rest := []) (lenOf pd_2 rfl) rfl (by show 2 * 0 + _ ≤ _; exact Nat.le_of_eq rfl) (hb hby at_201) (fun _ _ => ⟨rfl, eJ12, (by decide : 1 + 0 ≤ _), (by decide : 10 + 0 ≤ _)⟩)
                      dsimp only [Pt.U, Pt.locs, Pt.cells, Pt.slots] at X14 l14 y14 z14 st14 hQ14
                      obtain rfl : k14 = 1 := y14
                      obtain rfl : n14 = 10 := z14
                      obtain ⟨rfl, Nq14, eh14⟩ := hQ14
                      have N14 : Fr n0 L14 := by rw [l14]; exact Fr.app NJ12 Nq14
                      refine own_by (st14) ?_
                      show own_Go p.tables e below (T14.setTop (mkF m 204 #[.val (.long q0), .second, .val (.int p1), .val (.int p2), .val (.int p3), .val (.int z), .val (.int u), .val (.ref b1), .unset, .unset, .unset] [(.long (own_term q0 p1 z (0 : Int32)))])) _
                      refine own_by (fun _ kt => XS.lloadN X14.here hx rfl (hb hby at_204) rfl kt) ?_
                      show own_Go p.tables e below (T14.setTop (mkF m 205 #[.val (.long q0), .second, .val (.int p1), .val (.int p2), .val (.int p3), .val (.int z), .val (.int u), .val (.ref b1), .unset, .unset, .unset] [(.long q0), (.long (own_term q0 p1 z (0 : Int32)))])) _
                      refine own_by (fun _ kt => XS.iloadN X14.here hx rfl (hb hby at_205) rfl kt) ?_
                      show own_Go p.tables e below (T14.setTop (mkF m 206 #[.val (.long q0), .second, .val (.int p1), .val (.int p2), .val (.int p3), .val (.int z), .val (.int u), .val (.ref b1), .unset, .unset, .unset] [(.int p1), (.long q0), (.long (own_term q0 p1 z (0 : Int32)))])) _
                      refine own_by (fun _ kt => XS.iload X14.here hx rfl (hb hby at_206) rfl kt) ?_
                      show own_Go p.tables e below (T14.setTop (mkF m 208 #[.val (.long q0), .second, .val (.int p1), .val (.int p2), .val (.int p3), .val (.int z), .val (.int u), .val (.ref b1), .unset, .unset, .unset] [(.int z), (.int p1), (.long q0), (.long (own_term q0 p1 z (0 : Int32)))])) _
                      refine own_by (fun _ kt => XS.iconst X14.here hx rfl (hb hby at_208) kt) ?_
                      show own_Go p.tables e below (T14.setTop (mkF m 209 #[.val (.long q0), .second, .val (.int p1), .val (.int p2), .val (.int p3), .val (.int z), .val (.int u), .val (.ref b1), .unset, .unset, .unset] [(.int (1 : Int32)), (.int z), (.int p1), (.long q0), (.long (own_term q0 p1 z (0 : Int32)))])) _
                      obtain ⟨_, _, ⟨T15, L15, k15, n15⟩, -, X15, ⟨Lc15, hQ15, l15, y15, z15⟩, st15⟩ := Jvm.LawKit.callS X14 hx (y := (⟨"com/example/relampago/relampago/bolt11/Bech32BytesPinLaw", "term", "(JIII)J"⟩ : MethodName)) hown (mvT hZ (hw _ (List.mem_of_getElem? (i := 6) rfl))) (mvT hZ (hw _ (List.mem_of_getElem? (i := 7) rfl))) (mvT hZ (hw _ (List.mem_of_getElem? (i := 4) rfl))) (mvT hZ (hw _ (List.mem_of_getElem? (i := 8) rfl))) (by decide) (backOf (W := 2) (rm_own_term l Z a0 hw [] q0 p1 z (1 : Int32) hJ12 n0 ZJ12) hZ (hw _ (List.mem_of_getElem? (i := 8) rfl)) (hw _ (List.mem_of_getElem? (i := 4) rfl)) (by decide) (by decide)) (g := (mkF m 209 #[.val (.long q0), .second, .val (.int p1), .val (.int p2), .val (.int p3), .val (.int z), .val (.int u), .val (.ref b1), .unset, .unset, .unset] [(.int (1 : Int32)), (.int z), (.int p1), (.long q0), (.long (own_term q0 p1 z (0 : Int32)))])) rfl (by rw [hml]; rfl) (argsL := [(.long q0), (.int p1), (.int z), (.int (1 : Int32))]) (rest := [(.long (own_term q0 p1 z (0 : Int32)))]) (lenOf pd_2 rfl) rfl (by show 2 * 0 + _ ≤ _; exact Nat.le_of_eq rfl) (hb hby at_209) (fun _ _ => ⟨rfl, eh14, (by decide : 1 + 0 ≤ _), (by decide : 10 + 0 ≤ _)⟩)
                      dsimp only [Pt.U, Pt.locs, Pt.cells, Pt.slots] at X15 l15 y15 z15 st15 hQ15
                      obtain rfl : k15 = 1 := y15
                      obtain rfl : n15 = 10 := z15
                      obtain ⟨rfl, Nq15, eh15⟩ := hQ15
                      have N15 : Fr n0 L15 := by rw [l15]; exact Fr.app N14 Nq15
                      refine own_by (st15) ?_
                      show own_Go p.tables e below (T15.setTop (mkF m 212 #[.val (.long q0), .second, .val (.int p1), .val (.int p2), .val (.int p3), .val (.int z), .val (.int u), .val (.ref b1), .unset, .unset, .unset] [(.long (own_term q0 p1 z (1 : Int32))), (.long (own_term q0 p1 z (0 : Int32)))])) _
                      refine own_by (fun _ kt => XS.lor X15.here hx rfl (hb hby at_212) rfl kt) ?_
                      show own_Go p.tables e below (T15.setTop (mkF m 213 #[.val (.long q0), .second, .val (.int p1), .val (.int p2), .val (.int p3), .val (.int z), .val (.int u), .val (.ref b1), .unset, .unset, .unset] [(.long ((own_term q0 p1 z (0 : Int32)) ||| (own_term q0 p1 z (1 : Int32))))])) _
                      refine own_by (fun _ kt => XS.lloadN X15.here hx rfl (hb hby at_213) rfl kt) ?_
                      show own_Go p.tables e below (T15.setTop (mkF m 214 #[.val (.long q0), .second, .val (.int p1), .val (.int p2), .val (.int p3), .val (.int z), .val (.int u), .val (.ref b1), .unset, .unset, .unset] [(.long q0), (.long ((own_term q0 p1 z (0 : Int32)) ||| (own_term q0 p1 z (1 : Int32))))])) _
                      refine own_by (fun _ kt => XS.iloadN X15.here hx rfl (hb hby at_214) rfl kt) ?_
                      show own_Go p.tables e below (T15.setTop (mkF m 215 #[.val (.long q0), .second, .val (.int p1), .val (.int p2), .val (.int p3), .val (.int z), .val (.int u), .val (.ref b1), .unset, .unset, .unset] [(.int p1), (.long q0), (.long ((own_term q0 p1 z (0 : Int32)) ||| (own_term q0 p1 z (1 : Int32))))])) _
                      refine own_by (fun _ kt => XS.iload X15.here hx rfl (hb hby at_215) rfl kt) ?_
                      show own_Go p.tables e below (T15.setTop (mkF m 217 #[.val (.long q0), .second, .val (.int p1), .val (.int p2), .val (.int p3), .val (.int z), .val (.int u), .val (.ref b1), .unset, .unset, .unset] [(.int z), (.int p1), (.long q0), (.long ((own_term q0 p1 z (0 : Int32)) ||| (own_term q0 p1 z (1 : Int32))))])) _
                      refine own_by (fun _ kt => XS.iconst X15.here hx rfl (hb hby at_217) kt) ?_
                      show own_Go p.tables e below (T15.setTop (mkF m 218 #[.val (.long q0), .second, .val (.int p1), .val (.int p2), .val (.int p3), .val (.int z), .val (.int u), .val (.ref b1), .unset, .unset, .unset] [(.int (2 : Int32)), (.int z), (.int p1), (.long q0), (.long ((own_term q0 p1 z (0 : Int32)) ||| (own_term q0 p1 z (1 : Int32))))])) _
                      obtain ⟨_, _, ⟨T16, L16, k16, n16⟩, -, X16, ⟨Lc16, hQ16, l16, y16, z16⟩, st16⟩ := Jvm.LawKit.callS X15 hx (y := (⟨"com/example/relampago/relampago/bolt11/Bech32BytesPinLaw", "term", "(JIII)J"⟩ : MethodName)) hown (mvT hZ (hw _ (List.mem_of_getElem? (i := 6) rfl))) (mvT hZ (hw _ (List.mem_of_getElem? (i := 7) rfl))) (mvT hZ (hw _ (List.mem_of_getElem? (i := 4) rfl))) (mvT hZ (hw _ (List.mem_of_getElem? (i := 8) rfl))) (by decide) (backOf (W := 2) (rm_own_term l Z a0 hw [] q0 p1 z (2 : Int32) hJ12 n0 ZJ12) hZ (hw _ (List.mem_of_getElem? (i := 8) rfl)) (hw _ (List.mem_of_getElem? (i := 4) rfl)) (by decide) (by decide)) (g := (mkF m 218 #[.val (.long q0), .second, .val (.int p1), .val (.int p2), .val (.int p3), .val (.int z), .val (.int u), .val (.ref b1), .unset, .unset, .unset] [(.int (2 : Int32)), (.int z), (.int p1), (.long q0), (.long ((own_term q0 p1 z (0 : Int32)) ||| (own_term q0 p1 z (1 : Int32))))])) rfl (by rw [hml]; rfl) (argsL := [(.long q0), (.int p1), (.int z), (.int (2 : Int32))]) (rest := [(.long ((own_term q0 p1 z (0 : Int32)) ||| (own_term q0 p1 z (1 : Int32))))]) (lenOf pd_2 rfl) rfl (by show 2 * 0 + _ ≤ _; exact Nat.le_of_eq rfl) (hb hby at_218) (fun _ _ => ⟨rfl, eh15, (by decide : 1 + 0 ≤ _), (by decide : 10 + 0 ≤ _)⟩)
                      dsimp only [Pt.U, Pt.locs, Pt.cells, Pt.slots] at X16 l16 y16 z16 st16 hQ16
                      obtain rfl : k16 = 1 := y16
                      obtain rfl : n16 = 10 := z16
                      obtain ⟨rfl, Nq16, eh16⟩ := hQ16
                      have N16 : Fr n0 L16 := by rw [l16]; exact Fr.app N15 Nq16
                      refine own_by (st16) ?_
                      show own_Go p.tables e below (T16.setTop (mkF m 221 #[.val (.long q0), .second, .val (.int p1), .val (.int p2), .val (.int p3), .val (.int z), .val (.int u), .val (.ref b1), .unset, .unset, .unset] [(.long (own_term q0 p1 z (2 : Int32))), (.long ((own_term q0 p1 z (0 : Int32)) ||| (own_term q0 p1 z (1 : Int32))))])) _
                      refine own_by (fun _ kt => XS.lor X16.here hx rfl (hb hby at_221) rfl kt) ?_
                      show own_Go p.tables e below (T16.setTop (mkF m 222 #[.val (.long q0), .second, .val (.int p1), .val (.int p2), .val (.int p3), .val (.int z), .val (.int u), .val (.ref b1), .unset, .unset, .unset] [(.long (((own_term q0 p1 z (0 : Int32)) ||| (own_term q0 p1 z (1 : Int32))) ||| (own_term q0 p1 z (2 : Int32))))])) _
                      refine own_by (fun _ kt => XS.lloadN X16.here hx rfl (hb hby at_222) rfl kt) ?_
                      show own_Go p.tables e below (T16.setTop (mkF m 223 #[.val (.long q0), .second, .val (.int p1), .val (.int p2), .val (.int p3), .val (.int z), .val (.int u), .val (.ref b1), .unset, .unset, .unset] [(.long q0), (.long (((own_term q0 p1 z (0 : Int32)) ||| (own_term q0 p1 z (1 : Int32))) ||| (own_term q0 p1 z (2 : Int32))))])) _
                      refine own_by (fun _ kt => XS.iloadN X16.here hx rfl (hb hby at_223) rfl kt) ?_
                      show own_Go p.tables e below (T16.setTop (mkF m 224 #[.val (.long q0), .second, .val (.int p1), .val (.int p2), .val (.int p3), .val (.int z), .val (.int u), .val (.ref b1), .unset, .unset, .unset] [(.int p1), (.long q0), (.long (((own_term q0 p1 z (0 : Int32)) ||| (own_term q0 p1 z (1 : Int32))) ||| (own_term q0 p1 z (2 : Int32))))])) _
                      refine own_by (fun _ kt => XS.iload X16.here hx rfl (hb hby at_224) rfl kt) ?_
                      show own_Go p.tables e below (T16.setTop (mkF m 226 #[.val (.long q0), .second, .val (.int p1), .val (.int p2), .val (.int p3), .val (.int z), .val (.int u), .val (.ref b1), .unset, .unset, .unset] [(.int z), (.int p1), (.long q0), (.long (((own_term q0 p1 z (0 : Int32)) ||| (own_term q0 p1 z (1 : Int32))) ||| (own_term q0 p1 z (2 : Int32))))])) _
                      refine own_by (fun _ kt => XS.iconst X16.here hx rfl (hb hby at_226) kt) ?_
                      show own_Go p.tables e below (T16.setTop (mkF m 227 #[.val (.long q0), .second, .val (.int p1), .val (.int p2), .val (.int p3), .val (.int z), .val (.int u), .val (.ref b1), .unset, .unset, .unset] [(.int (3 : Int32)), (.int z), (.int p1), (.long q0), (.long (((own_term q0 p1 z (0 : Int32)) ||| (own_term q0 p1 z (1 : Int32))) ||| (own_term q0 p1 z (2 : Int32))))])) _
                      obtain ⟨_, _, ⟨T17, L17, k17, n17⟩, -, X17, ⟨Lc17, hQ17, l17, y17, z17⟩, st17⟩ := Jvm.LawKit.callS X16 hx (y := (⟨"com/example/relampago/relampago/bolt11/Bech32BytesPinLaw", "term", "(JIII)J"⟩ : MethodName)) hown (mvT hZ (hw _ (List.mem_of_getElem? (i := 6) rfl))) (mvT hZ (hw _ (List.mem_of_getElem? (i := 7) rfl))) (mvT hZ (hw _ (List.mem_of_getElem? (i := 4) rfl))) (mvT hZ (hw _ (List.mem_of_getElem? (i := 8) rfl))) (by decide) (backOf (W := 2) (rm_own_term l Z a0 hw [] q0 p1 z (3 : Int32) hJ12 n0 ZJ12) hZ (hw _ (List.mem_of_getElem? (i := 8) rfl)) (hw _ (List.mem_of_getElem? (i := 4) rfl)) (by decide) (by decide)) (g := (mkF m 227 #[.val (.long q0), .second, .val (.int p1), .val (.int p2), .val (.int p3), .val (.int z), .val (.int u), .val (.ref b1), .unset, .unset, .unset] [(.int (3 : Int32)), (.int z), (.int p1), (.long q0), (.long (((own_term q0 p1 z (0 : Int32)) ||| (own_term q0 p1 z (1 : Int32))) ||| (own_term q0 p1 z (2 : Int32))))])) rfl (by rw [hml]; rfl) (argsL := [(.long q0), (.int p1), (.int z), (.int (3 : Int32))]) (rest := [(.long (((own_term q0 p1 z (0 : Int32)) ||| (own_term q0 p1 z (1 : Int32))) ||| (own_term q0 p1 z (2 : Int32))))]) (lenOf pd_2 rfl) rfl (by show 2 * 0 + _ ≤ _; exact Nat.le_of_eq rfl) (hb hby at_227) (fun _ _ => ⟨rfl, eh16, (by decide : 1 + 0 ≤ _), (by decide : 10 + 0 ≤ _)⟩)
                      dsimp only [Pt.U, Pt.locs, Pt.cells, Pt.slots] at X17 l17 y17 z17 st17 hQ17
                      obtain rfl : k17 = 1 := y17
                      obtain rfl : n17 = 10 := z17
                      obtain ⟨rfl, Nq17, eh17⟩ := hQ17
                      have N17 : Fr n0 L17 := by rw [l17]; exact Fr.app N16 Nq17
                      refine own_by (st17) ?_
                      show own_Go p.tables e below (T17.setTop (mkF m 230 #[.val (.long q0), .second, .val (.int p1), .val (.int p2), .val (.int p3), .val (.int z), .val (.int u), .val (.ref b1), .unset, .unset, .unset] [(.long (own_term q0 p1 z (3 : Int32))), (.long (((own_term q0 p1 z (0 : Int32)) ||| (own_term q0 p1 z (1 : Int32))) ||| (own_term q0 p1 z (2 : Int32))))])) _
                      refine own_by (fun _ kt => XS.lor X17.here hx rfl (hb hby at_230) rfl kt) ?_
                      show own_Go p.tables e below (T17.setTop (mkF m 231 #[.val (.long q0), .second, .val (.int p1), .val (.int p2), .val (.int p3), .val (.int z), .val (.int u), .val (.ref b1), .unset, .unset, .unset] [(.long ((((own_term q0 p1 z (0 : Int32)) ||| (own_term q0 p1 z (1 : Int32))) ||| (own_term q0 p1 z (2 : Int32))) ||| (own_term q0 p1 z (3 : Int32))))])) _
                      refine own_by (fun _ kt => XS.lloadN X17.here hx rfl (hb hby at_231) rfl kt) ?_
                      show own_Go p.tables e below (T17.setTop (mkF m 232 #[.val (.long q0), .second, .val (.int p1), .val (.int p2), .val (.int p3), .val (.int z), .val (.int u), .val (.ref b1), .unset, .unset, .unset] [(.long q0), (.long ((((own_term q0 p1 z (0 : Int32)) ||| (own_term q0 p1 z (1 : Int32))) ||| (own_term q0 p1 z (2 : Int32))) ||| (own_term q0 p1 z (3 : Int32))))])) _
                      refine own_by (fun _ kt => XS.iloadN X17.here hx rfl (hb hby at_232) rfl kt) ?_
                      show own_Go p.tables e below (T17.setTop (mkF m 233 #[.val (.long q0), .second, .val (.int p1), .val (.int p2), .val (.int p3), .val (.int z), .val (.int u), .val (.ref b1), .unset, .unset, .unset] [(.int p1), (.long q0), (.long ((((own_term q0 p1 z (0 : Int32)) ||| (own_term q0 p1 z (1 : Int32))) ||| (own_term q0 p1 z (2 : Int32))) ||| (own_term q0 p1 z (3 : Int32))))])) _
                      refine own_by (fun _ kt => XS.iload X17.here hx rfl (hb hby at_233) rfl kt) ?_
                      show own_Go p.tables e below (T17.setTop (mkF m 235 #[.val (.long q0), .second, .val (.int p1), .val (.int p2), .val (.int p3), .val (.int z), .val (.int u), .val (.ref b1), .unset, .unset, .unset] [(.int z), (.int p1), (.long q0), (.long ((((own_term q0 p1 z (0 : Int32)) ||| (own_term q0 p1 z (1 : Int32))) ||| (own_term q0 p1 z (2 : Int32))) ||| (own_term q0 p1 z (3 : Int32))))])) _
                      refine own_by (fun _ kt => XS.iconst X17.here hx rfl (hb hby at_235) kt) ?_
                      show own_Go p.tables e below (T17.setTop (mkF m 236 #[.val (.long q0), .second, .val (.int p1), .val (.int p2), .val (.int p3), .val (.int z), .val (.int u), .val (.ref b1), .unset, .unset, .unset] [(.int (4 : Int32)), (.int z), (.int p1), (.long q0), (.long ((((own_term q0 p1 z (0 : Int32)) ||| (own_term q0 p1 z (1 : Int32))) ||| (own_term q0 p1 z (2 : Int32))) ||| (own_term q0 p1 z (3 : Int32))))])) _
                      obtain ⟨_, _, ⟨T18, L18, k18, n18⟩, -, X18, ⟨Lc18, hQ18, l18, y18, z18⟩, st18⟩ := Jvm.LawKit.callS X17 hx (y := (⟨"com/example/relampago/relampago/bolt11/Bech32BytesPinLaw", "term", "(JIII)J"⟩ : MethodName)) hown (mvT hZ (hw _ (List.mem_of_getElem? (i := 6) rfl))) (mvT hZ (hw _ (List.mem_of_getElem? (i := 7) rfl))) (mvT hZ (hw _ (List.mem_of_getElem? (i := 4) rfl))) (mvT hZ (hw _ (List.mem_of_getElem? (i := 8) rfl))) (by decide) (backOf (W := 2) (rm_own_term l Z a0 hw [] q0 p1 z (4 : Int32) hJ12 n0 ZJ12) hZ (hw _ (List.mem_of_getElem? (i := 8) rfl)) (hw _ (List.mem_of_getElem? (i := 4) rfl)) (by decide) (by decide)) (g := (mkF m 236 #[.val (.long q0), .second, .val (.int p1), .val (.int p2), .val (.int p3), .val (.int z), .val (.int u), .val (.ref b1), .unset, .unset, .unset] [(.int (4 : Int32)), (.int z), (.int p1), (.long q0), (.long ((((own_term q0 p1 z (0 : Int32)) ||| (own_term q0 p1 z (1 : Int32))) ||| (own_term q0 p1 z (2 : Int32))) ||| (own_term q0 p1 z (3 : Int32))))])) rfl (by rw [hml]; rfl) (argsL := [(.long q0), (.int p1), (.int z), (.int (4 : Int32))]) (rest := [(.long ((((own_term q0 p1 z (0 : Int32)) ||| (own_term q0 p1 z (1 : Int32))) ||| (own_term q0 p1 z (2 : Int32))) ||| (own_term q0 p1 z (3 : Int32))))]) (lenOf pd_2 rfl) rfl (by show 2 * 0 + _ ≤ _; exact Nat.le_of_eq rfl) (hb hby at_236) (fun _ _ => ⟨rfl, eh17, (by decide : 1 + 0 ≤ _), (by decide : 10 + 0 ≤ _)⟩)
                      dsimp only [Pt.U, Pt.locs, Pt.cells, Pt.slots] at X18 l18 y18 z18 st18 hQ18
                      obtain rfl : k18 = 1 := y18
                      obtain rfl : n18 = 10 := z18
                      obtain ⟨rfl, Nq18, eh18⟩ := hQ18
                      have N18 : Fr n0 L18 := by rw [l18]; exact Fr.app N17 Nq18
                      refine own_by (st18) ?_
                      show own_Go p.tables e below (T18.setTop (mkF m 239 #[.val (.long q0), .second, .val (.int p1), .val (.int p2), .val (.int p3), .val (.int z), .val (.int u), .val (.ref b1), .unset, .unset, .unset] [(.long (own_term q0 p1 z (4 : Int32))), (.long ((((own_term q0 p1 z (0 : Int32)) ||| (own_term q0 p1 z (1 : Int32))) ||| (own_term q0 p1 z (2 : Int32))) ||| (own_term q0 p1 z (3 : Int32))))])) _
                      refine own_by (fun _ kt => XS.lor X18.here hx rfl (hb hby at_239) rfl kt) ?_
                      show own_Go p.tables e below (T18.setTop (mkF m 240 #[.val (.long q0), .second, .val (.int p1), .val (.int p2), .val (.int p3), .val (.int z), .val (.int u), .val (.ref b1), .unset, .unset, .unset] [(.long (((((own_term q0 p1 z (0 : Int32)) ||| (own_term q0 p1 z (1 : Int32))) ||| (own_term q0 p1 z (2 : Int32))) ||| (own_term q0 p1 z (3 : Int32))) ||| (own_term q0 p1 z (4 : Int32))))])) _
                      refine own_by (fun _ kt => XS.lloadN X18.here hx rfl (hb hby at_240) rfl kt) ?_
                      show own_Go p.tables e below (T18.setTop (mkF m 241 #[.val (.long q0), .second, .val (.int p1), .val (.int p2), .val (.int p3), .val (.int z), .val (.int u), .val (.ref b1), .unset, .unset, .unset] [(.long q0), (.long (((((own_term q0 p1 z (0 : Int32)) ||| (own_term q0 p1 z (1 : Int32))) ||| (own_term q0 p1 z (2 : Int32))) ||| (own_term q0 p1 z (3 : Int32))) ||| (own_term q0 p1 z (4 : Int32))))])) _
                      refine own_by (fun _ kt => XS.iloadN X18.here hx rfl (hb hby at_241) rfl kt) ?_
                      show own_Go p.tables e below (T18.setTop (mkF m 242 #[.val (.long q0), .second, .val (.int p1), .val (.int p2), .val (.int p3), .val (.int z), .val (.int u), .val (.ref b1), .unset, .unset, .unset] [(.int p1), (.long q0), (.long (((((own_term q0 p1 z (0 : Int32)) ||| (own_term q0 p1 z (1 : Int32))) ||| (own_term q0 p1 z (2 : Int32))) ||| (own_term q0 p1 z (3 : Int32))) ||| (own_term q0 p1 z (4 : Int32))))])) _
                      refine own_by (fun _ kt => XS.iload X18.here hx rfl (hb hby at_242) rfl kt) ?_
                      show own_Go p.tables e below (T18.setTop (mkF m 244 #[.val (.long q0), .second, .val (.int p1), .val (.int p2), .val (.int p3), .val (.int z), .val (.int u), .val (.ref b1), .unset, .unset, .unset] [(.int z), (.int p1), (.long q0), (.long (((((own_term q0 p1 z (0 : Int32)) ||| (own_term q0 p1 z (1 : Int32))) ||| (own_term q0 p1 z (2 : Int32))) ||| (own_term q0 p1 z (3 : Int32))) ||| (own_term q0 p1 z (4 : Int32))))])) _
                      refine own_by (fun _ kt => XS.iconst X18.here hx rfl (hb hby at_244) kt) ?_
                      show own_Go p.tables e below (T18.setTop (mkF m 245 #[.val (.long q0), .second, .val (.int p1), .val (.int p2), .val (.int p3), .val (.int z), .val (.int u), .val (.ref b1), .unset, .unset, .unset] [(.int (5 : Int32)), (.int z), (.int p1), (.long q0), (.long (((((own_term q0 p1 z (0 : Int32)) ||| (own_term q0 p1 z (1 : Int32))) ||| (own_term q0 p1 z (2 : Int32))) ||| (own_term q0 p1 z (3 : Int32))) ||| (own_term q0 p1 z (4 : Int32))))])) _
                      obtain ⟨_, _, ⟨T19, L19, k19, n19⟩, -, X19, ⟨Lc19, hQ19, l19, y19, z19⟩, st19⟩ := Jvm.LawKit.callS X18 hx (y := (⟨"com/example/relampago/relampago/bolt11/Bech32BytesPinLaw", "term", "(JIII)J"⟩ : MethodName)) hown (mvT hZ (hw _ (List.mem_of_getElem? (i := 6) rfl))) (mvT hZ (hw _ (List.mem_of_getElem? (i := 7) rfl))) (mvT hZ (hw _ (List.mem_of_getElem? (i := 4) rfl))) (mvT hZ (hw _ (List.mem_of_getElem? (i := 8) rfl))) (by decide) (backOf (W := 2) (rm_own_term l Z a0 hw [] q0 p1 z (5 : Int32) hJ12 n0 ZJ12) hZ (hw _ (List.mem_of_getElem? (i := 8) rfl)) (hw _ (List.mem_of_getElem? (i := 4) rfl)) (by decide) (by decide)) (g := (mkF m 245 #[.val (.long q0), .second, .val (.int p1), .val (.int p2), .val (.int p3), .val (.int z), .val (.int u), .val (.ref b1), .unset, .unset, .unset] [(.int (5 : Int32)), (.int z), (.int p1), (.long q0), (.long (((((own_term q0 p1 z (0 : Int32)) ||| (own_term q0 p1 z (1 : Int32))) ||| (own_term q0 p1 z (2 : Int32))) ||| (own_term q0 p1 z (3 : Int32))) ||| (own_term q0 p1 z (4 : Int32))))])) rfl (by rw [hml]; rfl) (argsL := [(.long q0), (.int p1), (.int z), (.int (5 : Int32))]) (rest := [(.long (((((own_term q0 p1 z (0 : Int32)) ||| (own_term q0 p1 z (1 : Int32))) ||| (own_term q0 p1 z (2 : Int32))) ||| (own_term q0 p1 z (3 : Int32))) ||| (own_term q0 p1 z (4 : Int32))))]) (lenOf pd_2 rfl) rfl (by show 2 * 0 + _ ≤ _; exact Nat.le_of_eq rfl) (hb hby at_245) (fun _ _ => ⟨rfl, eh18, (by decide : 1 + 0 ≤ _), (by decide : 10 + 0 ≤ _)⟩)
                      dsimp only [Pt.U, Pt.locs, Pt.cells, Pt.slots] at X19 l19 y19 z19 st19 hQ19
                      obtain rfl : k19 = 1 := y19
                      obtain rfl : n19 = 10 := z19
                      obtain ⟨rfl, Nq19, eh19⟩ := hQ19
                      have N19 : Fr n0 L19 := by rw [l19]; exact Fr.app N18 Nq19
                      refine own_by (st19) ?_
                      show own_Go p.tables e below (T19.setTop (mkF m 248 #[.val (.long q0), .second, .val (.int p1), .val (.int p2), .val (.int p3), .val (.int z), .val (.int u), .val (.ref b1), .unset, .unset, .unset] [(.long (own_term q0 p1 z (5 : Int32))), (.long (((((own_term q0 p1 z (0 : Int32)) ||| (own_term q0 p1 z (1 : Int32))) ||| (own_term q0 p1 z (2 : Int32))) ||| (own_term q0 p1 z (3 : Int32))) ||| (own_term q0 p1 z (4 : Int32))))])) _
                      refine own_by (fun _ kt => XS.lor X19.here hx rfl (hb hby at_248) rfl kt) ?_
                      show own_Go p.tables e below (T19.setTop (mkF m 249 #[.val (.long q0), .second, .val (.int p1), .val (.int p2), .val (.int p3), .val (.int z), .val (.int u), .val (.ref b1), .unset, .unset, .unset] [(.long ((((((own_term q0 p1 z (0 : Int32)) ||| (own_term q0 p1 z (1 : Int32))) ||| (own_term q0 p1 z (2 : Int32))) ||| (own_term q0 p1 z (3 : Int32))) ||| (own_term q0 p1 z (4 : Int32))) ||| (own_term q0 p1 z (5 : Int32))))])) _
                      refine own_by (fun _ kt => XS.lloadN X19.here hx rfl (hb hby at_249) rfl kt) ?_
                      show own_Go p.tables e below (T19.setTop (mkF m 250 #[.val (.long q0), .second, .val (.int p1), .val (.int p2), .val (.int p3), .val (.int z), .val (.int u), .val (.ref b1), .unset, .unset, .unset] [(.long q0), (.long ((((((own_term q0 p1 z (0 : Int32)) ||| (own_term q0 p1 z (1 : Int32))) ||| (own_term q0 p1 z (2 : Int32))) ||| (own_term q0 p1 z (3 : Int32))) ||| (own_term q0 p1 z (4 : Int32))) ||| (own_term q0 p1 z (5 : Int32))))])) _
                      refine own_by (fun _ kt => XS.iloadN X19.here hx rfl (hb hby at_250) rfl kt) ?_
                      show own_Go p.tables e below (T19.setTop (mkF m 251 #[.val (.long q0), .second, .val (.int p1), .val (.int p2), .val (.int p3), .val (.int z), .val (.int u), .val (.ref b1), .unset, .unset, .unset] [(.int p1), (.long q0), (.long ((((((own_term q0 p1 z (0 : Int32)) ||| (own_term q0 p1 z (1 : Int32))) ||| (own_term q0 p1 z (2 : Int32))) ||| (own_term q0 p1 z (3 : Int32))) ||| (own_term q0 p1 z (4 : Int32))) ||| (own_term q0 p1 z (5 : Int32))))])) _
                      refine own_by (fun _ kt => XS.iload X19.here hx rfl (hb hby at_251) rfl kt) ?_
                      show own_Go p.tables e below (T19.setTop (mkF m 253 #[.val (.long q0), .second, .val (.int p1), .val (.int p2), .val (.int p3), .val (.int z), .val (.int u), .val (.ref b1), .unset, .unset, .unset] [(.int z), (.int p1), (.long q0), (.long ((((((own_term q0 p1 z (0 : Int32)) ||| (own_term q0 p1 z (1 : Int32))) ||| (own_term q0 p1 z (2 : Int32))) ||| (own_term q0 p1 z (3 : Int32))) ||| (own_term q0 p1 z (4 : Int32))) ||| (own_term q0 p1 z (5 : Int32))))])) _
                      refine own_by (fun _ kt => XS.bipush X19.here hx rfl (hb hby at_253) kt) ?_
                      show own_Go p.tables e below (T19.setTop (mkF m 255 #[.val (.long q0), .second, .val (.int p1), .val (.int p2), .val (.int p3), .val (.int z), .val (.int u), .val (.ref b1), .unset, .unset, .unset] [(.int (6 : Int32)), (.int z), (.int p1), (.long q0), (.long ((((((own_term q0 p1 z (0 : Int32)) ||| (own_term q0 p1 z (1 : Int32))) ||| (own_term q0 p1 z (2 : Int32))) ||| (own_term q0 p1 z (3 : Int32))) ||| (own_term q0 p1 z (4 : Int32))) ||| (own_term q0 p1 z (5 : Int32))))])) _
                      obtain ⟨_, _, ⟨T20, L20, k20, n20⟩, -, X20, ⟨Lc20, hQ20, l20, y20, z20⟩, st20⟩ := Jvm.LawKit.callS X19 hx (y := (⟨"com/example/relampago/relampago/bolt11/Bech32BytesPinLaw", "term", "(JIII)J"⟩ : MethodName)) hown (mvT hZ (hw _ (List.mem_of_getElem? (i := 6) rfl))) (mvT hZ (hw _ (List.mem_of_getElem? (i := 7) rfl))) (mvT hZ (hw _ (List.mem_of_getElem? (i := 4) rfl))) (mvT hZ (hw _ (List.mem_of_getElem? (i := 8) rfl))) (by decide) (backOf (W := 2) (rm_own_term l Z a0 hw [] q0 p1 z (6 : Int32) hJ12 n0 ZJ12) hZ (hw _ (List.mem_of_getElem? (i := 8) rfl)) (hw _ (List.mem_of_getElem? (i := 4) rfl)) (by decide) (by decide)) (g := (mkF m 255 #[.val (.long q0), .second, .val (.int p1), .val (.int p2), .val (.int p3), .val (.int z), .val (.int u), .val (.ref b1), .unset, .unset, .unset] [(.int (6 : Int32)), (.int z), (.int p1), (.long q0), (.long ((((((own_term q0 p1 z (0 : Int32)) ||| (own_term q0 p1 z (1 : Int32))) ||| (own_term q0 p1 z (2 : Int32))) ||| (own_term q0 p1 z (3 : Int32))) ||| (own_term q0 p1 z (4 : Int32))) ||| (own_term q0 p1 z (5 : Int32))))])) rfl (by rw [hml]; rfl) (argsL := [(.long q0), (.int p1), (.int z), (.int (6 : Int32))]) (rest := [(.long ((((((own_term q0 p1 z (0 : Int32)) ||| (own_term q0 p1 z (1 : Int32))) ||| (own_term q0 p1 z (2 : Int32))) ||| (own_term q0 p1 z (3 : Int32))) ||| (own_term q0 p1 z (4 : Int32))) ||| (own_term q0 p1 z (5 : Int32))))]) (lenOf pd_2 rfl) rfl (by show 2 * 0 + _ ≤ _; exact Nat.le_of_eq rfl) (hb hby at_255) (fun _ _ => ⟨rfl, eh19, (by decide : 1 + 0 ≤ _), (by decide : 10 + 0 ≤ _)⟩)
                      dsimp only [Pt.U, Pt.locs, Pt.cells, Pt.slots] at X20 l20 y20 z20 st20 hQ20
                      obtain rfl : k20 = 1 := y20
                      obtain rfl : n20 = 10 := z20
                      obtain ⟨rfl, Nq20, eh20⟩ := hQ20
                      have N20 : Fr n0 L20 := by rw [l20]; exact Fr.app N19 Nq20
                      refine own_by (st20) ?_
                      show own_Go p.tables e below (T20.setTop (mkF m 258 #[.val (.long q0), .second, .val (.int p1), .val (.int p2), .val (.int p3), .val (.int z), .val (.int u), .val (.ref b1), .unset, .unset, .unset] [(.long (own_term q0 p1 z (6 : Int32))), (.long ((((((own_term q0 p1 z (0 : Int32)) ||| (own_term q0 p1 z (1 : Int32))) ||| (own_term q0 p1 z (2 : Int32))) ||| (own_term q0 p1 z (3 : Int32))) ||| (own_term q0 p1 z (4 : Int32))) ||| (own_term q0 p1 z (5 : Int32))))])) _
                      refine own_by (fun _ kt => XS.lor X20.here hx rfl (hb hby at_258) rfl kt) ?_
                      show own_Go p.tables e below (T20.setTop (mkF m 259 #[.val (.long q0), .second, .val (.int p1), .val (.int p2), .val (.int p3), .val (.int z), .val (.int u), .val (.ref b1), .unset, .unset, .unset] [(.long (((((((own_term q0 p1 z (0 : Int32)) ||| (own_term q0 p1 z (1 : Int32))) ||| (own_term q0 p1 z (2 : Int32))) ||| (own_term q0 p1 z (3 : Int32))) ||| (own_term q0 p1 z (4 : Int32))) ||| (own_term q0 p1 z (5 : Int32))) ||| (own_term q0 p1 z (6 : Int32))))])) _
                      refine own_by (fun _ kt => XS.lloadN X20.here hx rfl (hb hby at_259) rfl kt) ?_
                      show own_Go p.tables e below (T20.setTop (mkF m 260 #[.val (.long q0), .second, .val (.int p1), .val (.int p2), .val (.int p3), .val (.int z), .val (.int u), .val (.ref b1), .unset, .unset, .unset] [(.long q0), (.long (((((((own_term q0 p1 z (0 : Int32)) ||| (own_term q0 p1 z (1 : Int32))) ||| (own_term q0 p1 z (2 : Int32))) ||| (own_term q0 p1 z (3 : Int32))) ||| (own_term q0 p1 z (4 : Int32))) ||| (own_term q0 p1 z (5 : Int32))) ||| (own_term q0 p1 z (6 : Int32))))])) _
                      refine own_by (fun _ kt => XS.iloadN X20.here hx rfl (hb hby at_260) rfl kt) ?_
                      show own_Go p.tables e below (T20.setTop (mkF m 261 #[.val (.long q0), .second, .val (.int p1), .val (.int p2), .val (.int p3), .val (.int z), .val (.int u), .val (.ref b1), .unset, .unset, .unset] [(.int p1), (.long q0), (.long (((((((own_term q0 p1 z (0 : Int32)) ||| (own_term q0 p1 z (1 : Int32))) ||| (own_term q0 p1 z (2 : Int32))) ||| (own_term q0 p1 z (3 : Int32))) ||| (own_term q0 p1 z (4 : Int32))) ||| (own_term q0 p1 z (5 : Int32))) ||| (own_term q0 p1 z (6 : Int32))))])) _
                      refine own_by (fun _ kt => XS.iload X20.here hx rfl (hb hby at_261) rfl kt) ?_
                      show own_Go p.tables e below (T20.setTop (mkF m 263 #[.val (.long q0), .second, .val (.int p1), .val (.int p2), .val (.int p3), .val (.int z), .val (.int u), .val (.ref b1), .unset, .unset, .unset] [(.int z), (.int p1), (.long q0), (.long (((((((own_term q0 p1 z (0 : Int32)) ||| (own_term q0 p1 z (1 : Int32))) ||| (own_term q0 p1 z (2 : Int32))) ||| (own_term q0 p1 z (3 : Int32))) ||| (own_term q0 p1 z (4 : Int32))) ||| (own_term q0 p1 z (5 : Int32))) ||| (own_term q0 p1 z (6 : Int32))))])) _
                      refine own_by (fun _ kt => XS.bipush X20.here hx rfl (hb hby at_263) kt) ?_
                      show own_Go p.tables e below (T20.setTop (mkF m 265 #[.val (.long q0), .second, .val (.int p1), .val (.int p2), .val (.int p3), .val (.int z), .val (.int u), .val (.ref b1), .unset, .unset, .unset] [(.int (7 : Int32)), (.int z), (.int p1), (.long q0), (.long (((((((own_term q0 p1 z (0 : Int32)) ||| (own_term q0 p1 z (1 : Int32))) ||| (own_term q0 p1 z (2 : Int32))) ||| (own_term q0 p1 z (3 : Int32))) ||| (own_term q0 p1 z (4 : Int32))) ||| (own_term q0 p1 z (5 : Int32))) ||| (own_term q0 p1 z (6 : Int32))))])) _
                      obtain ⟨_, _, ⟨T21, L21, k21, n21⟩, -, X21, ⟨Lc21, hQ21, l21, y21, z21⟩, st21⟩ := Jvm.LawKit.callS X20 hx (y := (⟨"com/example/relampago/relampago/bolt11/Bech32BytesPinLaw", "term", "(JIII)J"⟩ : MethodName)) hown (mvT hZ (hw _ (List.mem_of_getElem? (i := 6) rfl))) (mvT hZ (hw _ (List.mem_of_getElem? (i := 7) rfl))) (mvT hZ (hw _ (List.mem_of_getElem? (i := 4) rfl))) (mvT hZ (hw _ (List.mem_of_getElem? (i := 8) rfl))) (by decide) (backOf (W := 2) (rm_own_term l Z a0 hw [] q0 p1 z (7 : Int32) hJ12 n0 ZJ12) hZ (hw _ (List.mem_of_getElem? (i := 8) rfl)) (hw _ (List.mem_of_getElem? (i := 4) rfl)) (by decide) (by decide)) (g := (mkF m 265 #[.val (.long q0), .second, .val (.int p1), .val (.int p2), .val (.int p3), .val (.int z), .val (.int u), .val (.ref b1), .unset, .unset, .unset] [(.int (7 : Int32)), (.int z), (.int p1), (.long q0), (.long (((((((own_term q0 p1 z (0 : Int32)) ||| (own_term q0 p1 z (1 : Int32))) ||| (own_term q0 p1 z (2 : Int32))) ||| (own_term q0 p1 z (3 : Int32))) ||| (own_term q0 p1 z (4 : Int32))) ||| (own_term q0 p1 z (5 : Int32))) ||| (own_term q0 p1 z (6 : Int32))))])) rfl (by rw [hml]; rfl) (argsL := [(.long q0), (.int p1), (.int z), (.int (7 : Int32))]) (rest := [(.long (((((((own_term q0 p1 z (0 : Int32)) ||| (own_term q0 p1 z (1 : Int32))) ||| (own_term q0 p1 z (2 : Int32))) ||| (own_term q0 p1 z (3 : Int32))) ||| (own_term q0 p1 z (4 : Int32))) ||| (own_term q0 p1 z (5 : Int32))) ||| (own_term q0 p1 z (6 : Int32))))]) (lenOf pd_2 rfl) rfl (by show 2 * 0 + _ ≤ _; exact Nat.le_of_eq rfl) (hb hby at_265) (fun _ _ => ⟨rfl, eh20, (by decide : 1 + 0 ≤ _), (by decide : 10 + 0 ≤ _)⟩)
                      dsimp only [Pt.U, Pt.locs, Pt.cells, Pt.slots] at X21 l21 y21 z21 st21 hQ21
                      obtain rfl : k21 = 1 := y21
                      obtain rfl : n21 = 10 := z21
                      obtain ⟨rfl, Nq21, eh21⟩ := hQ21
                      have N21 : Fr n0 L21 := by rw [l21]; exact Fr.app N20 Nq21
                      refine own_by (st21) ?_
                      show own_Go p.tables e below (T21.setTop (mkF m 268 #[.val (.long q0), .second, .val (.int p1), .val (.int p2), .val (.int p3), .val (.int z), .val (.int u), .val (.ref b1), .unset, .unset, .unset] [(.long (own_term q0 p1 z (7 : Int32))), (.long (((((((own_term q0 p1 z (0 : Int32)) ||| (own_term q0 p1 z (1 : Int32))) ||| (own_term q0 p1 z (2 : Int32))) ||| (own_term q0 p1 z (3 : Int32))) ||| (own_term q0 p1 z (4 : Int32))) ||| (own_term q0 p1 z (5 : Int32))) ||| (own_term q0 p1 z (6 : Int32))))])) _
                      refine own_by (fun _ kt => XS.lor X21.here hx rfl (hb hby at_268) rfl kt) ?_
                      show own_Go p.tables e below (T21.setTop (mkF m 269 #[.val (.long q0), .second, .val (.int p1), .val (.int p2), .val (.int p3), .val (.int z), .val (.int u), .val (.ref b1), .unset, .unset, .unset] [(.long ((((((((own_term q0 p1 z (0 : Int32)) ||| (own_term q0 p1 z (1 : Int32))) ||| (own_term q0 p1 z (2 : Int32))) ||| (own_term q0 p1 z (3 : Int32))) ||| (own_term q0 p1 z (4 : Int32))) ||| (own_term q0 p1 z (5 : Int32))) ||| (own_term q0 p1 z (6 : Int32))) ||| (own_term q0 p1 z (7 : Int32))))])) _
                      refine own_by (fun _ kt => XS.lloadN X21.here hx rfl (hb hby at_269) rfl kt) ?_
                      show own_Go p.tables e below (T21.setTop (mkF m 270 #[.val (.long q0), .second, .val (.int p1), .val (.int p2), .val (.int p3), .val (.int z), .val (.int u), .val (.ref b1), .unset, .unset, .unset] [(.long q0), (.long ((((((((own_term q0 p1 z (0 : Int32)) ||| (own_term q0 p1 z (1 : Int32))) ||| (own_term q0 p1 z (2 : Int32))) ||| (own_term q0 p1 z (3 : Int32))) ||| (own_term q0 p1 z (4 : Int32))) ||| (own_term q0 p1 z (5 : Int32))) ||| (own_term q0 p1 z (6 : Int32))) ||| (own_term q0 p1 z (7 : Int32))))])) _
                      refine own_by (fun _ kt => XS.iloadN X21.here hx rfl (hb hby at_270) rfl kt) ?_
                      show own_Go p.tables e below (T21.setTop (mkF m 271 #[.val (.long q0), .second, .val (.int p1), .val (.int p2), .val (.int p3), .val (.int z), .val (.int u), .val (.ref b1), .unset, .unset, .unset] [(.int p1), (.long q0), (.long ((((((((own_term q0 p1 z (0 : Int32)) ||| (own_term q0 p1 z (1 : Int32))) ||| (own_term q0 p1 z (2 : Int32))) ||| (own_term q0 p1 z (3 : Int32))) ||| (own_term q0 p1 z (4 : Int32))) ||| (own_term q0 p1 z (5 : Int32))) ||| (own_term q0 p1 z (6 : Int32))) ||| (own_term q0 p1 z (7 : Int32))))])) _
                      refine own_by (fun _ kt => XS.iload X21.here hx rfl (hb hby at_271) rfl kt) ?_
                      show own_Go p.tables e below (T21.setTop (mkF m 273 #[.val (.long q0), .second, .val (.int p1), .val (.int p2), .val (.int p3), .val (.int z), .val (.int u), .val (.ref b1), .unset, .unset, .unset] [(.int z), (.int p1), (.long q0), (.long ((((((((own_term q0 p1 z (0 : Int32)) ||| (own_term q0 p1 z (1 : Int32))) ||| (own_term q0 p1 z (2 : Int32))) ||| (own_term q0 p1 z (3 : Int32))) ||| (own_term q0 p1 z (4 : Int32))) ||| (own_term q0 p1 z (5 : Int32))) ||| (own_term q0 p1 z (6 : Int32))) ||| (own_term q0 p1 z (7 : Int32))))])) _
                      refine own_by (fun _ kt => XS.bipush X21.here hx rfl (hb hby at_273) kt) ?_
                      show own_Go p.tables e below (T21.setTop (mkF m 275 #[.val (.long q0), .second, .val (.int p1), .val (.int p2), .val (.int p3), .val (.int z), .val (.int u), .val (.ref b1), .unset, .unset, .unset] [(.int (8 : Int32)), (.int z), (.int p1), (.long q0), (.long ((((((((own_term q0 p1 z (0 : Int32)) ||| (own_term q0 p1 z (1 : Int32))) ||| (own_term q0 p1 z (2 : Int32))) ||| (own_term q0 p1 z (3 : Int32))) ||| (own_term q0 p1 z (4 : Int32))) ||| (own_term q0 p1 z (5 : Int32))) ||| (own_term q0 p1 z (6 : Int32))) ||| (own_term q0 p1 z (7 : Int32))))])) _
                      obtain ⟨_, _, ⟨T22, L22, k22, n22⟩, -, X22, ⟨Lc22, hQ22, l22, y22, z22⟩, st22⟩ := Jvm.LawKit.callS X21 hx (y := (⟨"com/example/relampago/relampago/bolt11/Bech32BytesPinLaw", "term", "(JIII)J"⟩ : MethodName)) hown (mvT hZ (hw _ (List.mem_of_getElem? (i := 6) rfl))) (mvT hZ (hw _ (List.mem_of_getElem? (i := 7) rfl))) (mvT hZ (hw _ (List.mem_of_getElem? (i := 4) rfl))) (mvT hZ (hw _ (List.mem_of_getElem? (i := 8) rfl))) (by decide) (backOf (W := 2) (rm_own_term l Z a0 hw [] q0 p1 z (8 : Int32) hJ12 n0 ZJ12) hZ (hw _ (List.mem_of_getElem? (i := 8) rfl)) (hw _ (List.mem_of_getElem? (i := 4) rfl)) (by decide) (by decide)) (g := (mkF m 275 #[.val (.long q0), .second, .val (.int p1), .val (.int p2), .val (.int p3), .val (.int z), .val (.int u), .val (.ref b1), .unset, .unset, .unset] [(.int (8 : Int32)), (.int z), (.int p1), (.long q0), (.long ((((((((own_term q0 p1 z (0 : Int32)) ||| (own_term q0 p1 z (1 : Int32))) ||| (own_term q0 p1 z (2 : Int32))) ||| (own_term q0 p1 z (3 : Int32))) ||| (own_term q0 p1 z (4 : Int32))) ||| (own_term q0 p1 z (5 : Int32))) ||| (own_term q0 p1 z (6 : Int32))) ||| (own_term q0 p1 z (7 : Int32))))])) rfl (by rw [hml]; rfl) (argsL := [(.long q0), (.int p1), (.int z), (.int (8 : Int32))]) (rest := [(.long ((((((((own_term q0 p1 z (0 : Int32)) ||| (own_term q0 p1 z (1 : Int32))) ||| (own_term q0 p1 z (2 : Int32))) ||| (own_term q0 p1 z (3 : Int32))) ||| (own_term q0 p1 z (4 : Int32))) ||| (own_term q0 p1 z (5 : Int32))) ||| (own_term q0 p1 z (6 : Int32))) ||| (own_term q0 p1 z (7 : Int32))))]) (lenOf pd_2 rfl) rfl (by show 2 * 0 + _ ≤ _; exact Nat.le_of_eq rfl) (hb hby at_275) (fun _ _ => ⟨rfl, eh21, (by decide : 1 + 0 ≤ _), (by decide : 10 + 0 ≤ _)⟩)
                      dsimp only [Pt.U, Pt.locs, Pt.cells, Pt.slots] at X22 l22 y22 z22 st22 hQ22
                      obtain rfl : k22 = 1 := y22
                      obtain rfl : n22 = 10 := z22
                      obtain ⟨rfl, Nq22, eh22⟩ := hQ22
                      have N22 : Fr n0 L22 := by rw [l22]; exact Fr.app N21 Nq22
                      refine own_by (st22) ?_
                      show own_Go p.tables e below (T22.setTop (mkF m 278 #[.val (.long q0), .second, .val (.int p1), .val (.int p2), .val (.int p3), .val (.int z), .val (.int u), .val (.ref b1), .unset, .unset, .unset] [(.long (own_term q0 p1 z (8 : Int32))), (.long ((((((((own_term q0 p1 z (0 : Int32)) ||| (own_term q0 p1 z (1 : Int32))) ||| (own_term q0 p1 z (2 : Int32))) ||| (own_term q0 p1 z (3 : Int32))) ||| (own_term q0 p1 z (4 : Int32))) ||| (own_term q0 p1 z (5 : Int32))) ||| (own_term q0 p1 z (6 : Int32))) ||| (own_term q0 p1 z (7 : Int32))))])) _
                      refine own_by (fun _ kt => XS.lor X22.here hx rfl (hb hby at_278) rfl kt) ?_
                      show own_Go p.tables e below (T22.setTop (mkF m 279 #[.val (.long q0), .second, .val (.int p1), .val (.int p2), .val (.int p3), .val (.int z), .val (.int u), .val (.ref b1), .unset, .unset, .unset] [(.long (((((((((own_term q0 p1 z (0 : Int32)) ||| (own_term q0 p1 z (1 : Int32))) ||| (own_term q0 p1 z (2 : Int32))) ||| (own_term q0 p1 z (3 : Int32))) ||| (own_term q0 p1 z (4 : Int32))) ||| (own_term q0 p1 z (5 : Int32))) ||| (own_term q0 p1 z (6 : Int32))) ||| (own_term q0 p1 z (7 : Int32))) ||| (own_term q0 p1 z (8 : Int32))))])) _
                      refine own_by (fun _ kt => XS.lloadN X22.here hx rfl (hb hby at_279) rfl kt) ?_
                      show own_Go p.tables e below (T22.setTop (mkF m 280 #[.val (.long q0), .second, .val (.int p1), .val (.int p2), .val (.int p3), .val (.int z), .val (.int u), .val (.ref b1), .unset, .unset, .unset] [(.long q0), (.long (((((((((own_term q0 p1 z (0 : Int32)) ||| (own_term q0 p1 z (1 : Int32))) ||| (own_term q0 p1 z (2 : Int32))) ||| (own_term q0 p1 z (3 : Int32))) ||| (own_term q0 p1 z (4 : Int32))) ||| (own_term q0 p1 z (5 : Int32))) ||| (own_term q0 p1 z (6 : Int32))) ||| (own_term q0 p1 z (7 : Int32))) ||| (own_term q0 p1 z (8 : Int32))))])) _
                      refine own_by (fun _ kt => XS.iloadN X22.here hx rfl (hb hby at_280) rfl kt) ?_
                      show own_Go p.tables e below (T22.setTop (mkF m 281 #[.val (.long q0), .second, .val (.int p1), .val (.int p2), .val (.int p3), .val (.int z), .val (.int u), .val (.ref b1), .unset, .unset, .unset] [(.int p1), (.long q0), (.long (((((((((own_term q0 p1 z (0 : Int32)) ||| (own_term q0 p1 z (1 : Int32))) ||| (own_term q0 p1 z (2 : Int32))) ||| (own_term q0 p1 z (3 : Int32))) ||| (own_term q0 p1 z (4 : Int32))) ||| (own_term q0 p1 z (5 : Int32))) ||| (own_term q0 p1 z (6 : Int32))) ||| (own_term q0 p1 z (7 : Int32))) ||| (own_term q0 p1 z (8 : Int32))))])) _
                      refine own_by (fun _ kt => XS.iload X22.here hx rfl (hb hby at_281) rfl kt) ?_
                      show own_Go p.tables e below (T22.setTop (mkF m 283 #[.val (.long q0), .second, .val (.int p1), .val (.int p2), .val (.int p3), .val (.int z), .val (.int u), .val (.ref b1), .unset, .unset, .unset] [(.int z), (.int p1), (.long q0), (.long (((((((((own_term q0 p1 z (0 : Int32)) ||| (own_term q0 p1 z (1 : Int32))) ||| (own_term q0 p1 z (2 : Int32))) ||| (own_term q0 p1 z (3 : Int32))) ||| (own_term q0 p1 z (4 : Int32))) ||| (own_term q0 p1 z (5 : Int32))) ||| (own_term q0 p1 z (6 : Int32))) ||| (own_term q0 p1 z (7 : Int32))) ||| (own_term q0 p1 z (8 : Int32))))])) _
                      refine own_by (fun _ kt => XS.bipush X22.here hx rfl (hb hby at_283) kt) ?_
                      show own_Go p.tables e below (T22.setTop (mkF m 285 #[.val (.long q0), .second, .val (.int p1), .val (.int p2), .val (.int p3), .val (.int z), .val (.int u), .val (.ref b1), .unset, .unset, .unset] [(.int (9 : Int32)), (.int z), (.int p1), (.long q0), (.long (((((((((own_term q0 p1 z (0 : Int32)) ||| (own_term q0 p1 z (1 : Int32))) ||| (own_term q0 p1 z (2 : Int32))) ||| (own_term q0 p1 z (3 : Int32))) ||| (own_term q0 p1 z (4 : Int32))) ||| (own_term q0 p1 z (5 : Int32))) ||| (own_term q0 p1 z (6 : Int32))) ||| (own_term q0 p1 z (7 : Int32))) ||| (own_term q0 p1 z (8 : Int32))))])) _
                      obtain ⟨_, _, ⟨T23, L23, k23, n23⟩, -, X23, ⟨Lc23, hQ23, l23, y23, z23⟩, st23⟩ := Jvm.LawKit.callS X22 hx (y := (⟨"com/example/relampago/relampago/bolt11/Bech32BytesPinLaw", "term", "(JIII)J"⟩ : MethodName)) hown (mvT hZ (hw _ (List.mem_of_getElem? (i := 6) rfl))) (mvT hZ (hw _ (List.mem_of_getElem? (i := 7) rfl))) (mvT hZ (hw _ (List.mem_of_getElem? (i := 4) rfl))) (mvT hZ (hw _ (List.mem_of_getElem? (i := 8) rfl))) (by decide) (backOf (W := 2) (rm_own_term l Z a0 hw [] q0 p1 z (9 : Int32) hJ12 n0 ZJ12) hZ (hw _ (List.mem_of_getElem? (i := 8) rfl)) (hw _ (List.mem_of_getElem? (i := 4) rfl)) (by decide) (by decide)) (g := (mkF m 285 #[.val (.long q0), .second, .val (.int p1), .val (.int p2), .val (.int p3), .val (.int z), .val (.int u), .val (.ref b1), .unset, .unset, .unset] [(.int (9 : Int32)), (.int z), (.int p1), (.long q0), (.long (((((((((own_term q0 p1 z (0 : Int32)) ||| (own_term q0 p1 z (1 : Int32))) ||| (own_term q0 p1 z (2 : Int32))) ||| (own_term q0 p1 z (3 : Int32))) ||| (own_term q0 p1 z (4 : Int32))) ||| (own_term q0 p1 z (5 : Int32))) ||| (own_term q0 p1 z (6 : Int32))) ||| (own_term q0 p1 z (7 : Int32))) ||| (own_term q0 p1 z (8 : Int32))))])) rfl (by rw [hml]; rfl) (argsL := [(.long q0), (.int p1), (.int z), (.int (9 : Int32))]) (rest := [(.long (((((((((own_term q0 p1 z (0 : Int32)) ||| (own_term q0 p1 z (1 : Int32))) ||| (own_term q0 p1 z (2 : Int32))) ||| (own_term q0 p1 z (3 : Int32))) ||| (own_term q0 p1 z (4 : Int32))) ||| (own_term q0 p1 z (5 : Int32))) ||| (own_term q0 p1 z (6 : Int32))) ||| (own_term q0 p1 z (7 : Int32))) ||| (own_term q0 p1 z (8 : Int32))))]) (lenOf pd_2 rfl) rfl (by show 2 * 0 + _ ≤ _; exact Nat.le_of_eq rfl) (hb hby at_285) (fun _ _ => ⟨rfl, eh22, (by decide : 1 + 0 ≤ _), (by decide : 10 + 0 ≤ _)⟩)
                      dsimp only [Pt.U, Pt.locs, Pt.cells, Pt.slots] at X23 l23 y23 z23 st23 hQ23
                      obtain rfl : k23 = 1 := y23
                      obtain rfl : n23 = 10 := z23
                      obtain ⟨rfl, Nq23, eh23⟩ := hQ23
                      have N23 : Fr n0 L23 := by rw [l23]; exact Fr.app N22 Nq23
                      refine own_by (st23) ?_
                      show own_Go p.tables e below (T23.setTop (mkF m 288 #[.val (.long q0), .second, .val (.int p1), .val (.int p2), .val (.int p3), .val (.int z), .val (.int u), .val (.ref b1), .unset, .unset, .unset] [(.long (own_term q0 p1 z (9 : Int32))), (.long (((((((((own_term q0 p1 z (0 : Int32)) ||| (own_term q0 p1 z (1 : Int32))) ||| (own_term q0 p1 z (2 : Int32))) ||| (own_term q0 p1 z (3 : Int32))) ||| (own_term q0 p1 z (4 : Int32))) ||| (own_term q0 p1 z (5 : Int32))) ||| (own_term q0 p1 z (6 : Int32))) ||| (own_term q0 p1 z (7 : Int32))) ||| (own_term q0 p1 z (8 : Int32))))])) _
                      refine own_by (fun _ kt => XS.lor X23.here hx rfl (hb hby at_288) rfl kt) ?_
                      show own_Go p.tables e below (T23.setTop (mkF m 289 #[.val (.long q0), .second, .val (.int p1), .val (.int p2), .val (.int p3), .val (.int z), .val (.int u), .val (.ref b1), .unset, .unset, .unset] [(.long ((((((((((own_term q0 p1 z (0 : Int32)) ||| (own_term q0 p1 z (1 : Int32))) ||| (own_term q0 p1 z (2 : Int32))) ||| (own_term q0 p1 z (3 : Int32))) ||| (own_term q0 p1 z (4 : Int32))) ||| (own_term q0 p1 z (5 : Int32))) ||| (own_term q0 p1 z (6 : Int32))) ||| (own_term q0 p1 z (7 : Int32))) ||| (own_term q0 p1 z (8 : Int32))) ||| (own_term q0 p1 z (9 : Int32))))])) _
                      have hs := own_sum (q0 := q0) (p1 := p1) hz h10
                      generalize ((((((((((own_term q0 p1 z (0 : Int32)) ||| (own_term q0 p1 z (1 : Int32))) ||| (own_term q0 p1 z (2 : Int32))) ||| (own_term q0 p1 z (3 : Int32))) ||| (own_term q0 p1 z (4 : Int32))) ||| (own_term q0 p1 z (5 : Int32))) ||| (own_term q0 p1 z (6 : Int32))) ||| (own_term q0 p1 z (7 : Int32))) ||| (own_term q0 p1 z (8 : Int32))) ||| (own_term q0 p1 z (9 : Int32))) = sv at hs ⊢
                      show own_Go p.tables e below (T23.setTop (mkF m 289 #[.val (.long q0), .second, .val (.int p1), .val (.int p2), .val (.int p3), .val (.int z), .val (.int u), .val (.ref b1), .unset, .unset, .unset] [(.long sv)])) _
                      refine own_by (fun _ kt => XS.lstore X23.here hx rfl (hb hby at_289) rfl (l' := #[.val (.long q0), .second, .val (.int p1), .val (.int p2), .val (.int p3), .val (.int z), .val (.int u), .val (.ref b1), .val (.long sv), .second, .unset]) rfl kt) ?_
                      show own_Go p.tables e below (T23.setTop (mkF m 291 #[.val (.long q0), .second, .val (.int p1), .val (.int p2), .val (.int p3), .val (.int z), .val (.int u), .val (.ref b1), .val (.long sv), .second, .unset] [])) _
                      refine own_by (fun _ kt => XS.aload X23.here hx rfl (hb hby at_291) rfl rfl kt) ?_
                      show own_Go p.tables e below (T23.setTop (mkF m 293 #[.val (.long q0), .second, .val (.int p1), .val (.int p2), .val (.int p3), .val (.int z), .val (.int u), .val (.ref b1), .val (.long sv), .second, .unset] [(.ref b1)])) _
                      refine own_by (fun _ kt => XS.iload X23.here hx rfl (hb hby at_293) rfl kt) ?_
                      show own_Go p.tables e below (T23.setTop (mkF m 295 #[.val (.long q0), .second, .val (.int p1), .val (.int p2), .val (.int p3), .val (.int z), .val (.int u), .val (.ref b1), .val (.long sv), .second, .unset] [(.int u), (.ref b1)])) _
                      obtain ⟨_, _, ⟨T24, L24, k24, n24⟩, -, X24, ⟨Lc24, hQ24, l24, y24, z24⟩, st24⟩ := Jvm.LawKit.callS X23 hx (y := (⟨"com/example/relampago/relampago/bolt11/Bech32", "bytes", "([BI)[B"⟩ : MethodName)) hown (mvT hZ (hw _ (List.mem_of_getElem? (i := 9) rfl))) (mvT hZ (hw _ (List.mem_of_getElem? (i := 10) rfl))) (mvT hZ (hw _ (List.mem_of_getElem? (i := 11) rfl))) (mvT hZ (hw _ (List.mem_of_getElem? (i := 12) rfl))) (by decide) (backOf (W := 0) (rm_bytes l Z a0 hw [] b1 u (k1) (n) ((fun j => nar .byte (own_raw q0 p1 (Int32.ofNat j)))) (z) (w) hJ12 n0 ZJ12 f13 hz hu h10 h7) hZ (hw _ (List.mem_of_getElem? (i := 12) rfl)) (hw _ (List.mem_of_getElem? (i := 11) rfl)) (by decide) (by decide)) (g := (mkF m 295 #[.val (.long q0), .second, .val (.int p1), .val (.int p2), .val (.int p3), .val (.int z), .val (.int u), .val (.ref b1), .val (.long sv), .second, .unset] [(.int u), (.ref b1)])) rfl (by rw [hml]; rfl) (argsL := [(.ref b1), (.int u)]) (rest := []) (lenOf pd_3 rfl) rfl (by show 2 * 0 + _ ≤ _; exact Nat.le_of_eq rfl) (hb hby at_295) (fun _ _ => ⟨rfl, eh23, (by decide : 1 + 1 ≤ _), (by decide : 10 + 7 ≤ _)⟩)
                      dsimp only [Pt.U, Pt.locs, Pt.cells, Pt.slots] at X24 l24 y24 z24 st24 hQ24
                      obtain rfl : k24 = 2 := y24
                      obtain rfl : n24 = 17 := z24
                      obtain ⟨b24, ck24, rfl, Nq24, K24, gn_b24, szq_b24, f24_0⟩ := hQ24
                      have ne_b1_b24 : b1 ≠ b24 := Nat.ne_of_lt (Nat.lt_of_lt_of_le f13.lt szq_b24)
                      have f25 := f13.keep K24 List.not_mem_nil
                      have Zs24 : n0 ≤ T24.heap.size := Nat.le_trans ZJ12 K24.1
                      have N24 : Fr n0 L24 := by rw [l24]; exact Fr.app N23 Nq24
                      refine own_by (st24) ?_
                      show own_Go p.tables e below (T24.setTop (mkF m 298 #[.val (.long q0), .second, .val (.int p1), .val (.int p2), .val (.int p3), .val (.int z), .val (.int u), .val (.ref b1), .val (.long sv), .second, .unset] [(.ref b24)])) _
                      refine own_by (fun _ kt => XS.astore X24.here hx rfl (hb hby at_298) rfl rfl (l' := #[.val (.long q0), .second, .val (.int p1), .val (.int p2), .val (.int p3), .val (.int z), .val (.int u), .val (.ref b1), .val (.long sv), .second, .val (.ref b24)]) rfl kt) ?_
                      show own_Go p.tables e below (T24.setTop (mkF m 300 #[.val (.long q0), .second, .val (.int p1), .val (.int p2), .val (.int p3), .val (.int z), .val (.int u), .val (.ref b1), .val (.long sv), .second, .val (.ref b24)] [])) _
                      refine own_by (fun _ kt => XS.aload X24.here hx rfl (hb hby at_300) rfl rfl kt) ?_
                      show own_Go p.tables e below (T24.setTop (mkF m 302 #[.val (.long q0), .second, .val (.int p1), .val (.int p2), .val (.int p3), .val (.int z), .val (.int u), .val (.ref b1), .val (.long sv), .second, .val (.ref b24)] [(.ref b24)])) _
                      refine own_by (own_ulen X24 hx hZ rfl f24_0 hu (g := (mkF m 302 #[.val (.long q0), .second, .val (.int p1), .val (.int p2), .val (.int p3), .val (.int z), .val (.int u), .val (.ref b1), .val (.long sv), .second, .val (.ref b24)] [(.ref b24)])) rfl rfl (hb hby at_302)) ?_
                      show own_Go p.tables e below (T24.setTop (mkF m 303 #[.val (.long q0), .second, .val (.int p1), .val (.int p2), .val (.int p3), .val (.int z), .val (.int u), .val (.ref b1), .val (.long sv), .second, .val (.ref b24)] [(.int u)])) _
                      refine own_by (fun _ kt => XS.iload X24.here hx rfl (hb hby at_303) rfl kt) ?_
                      show own_Go p.tables e below (T24.setTop (mkF m 305 #[.val (.long q0), .second, .val (.int p1), .val (.int p2), .val (.int p3), .val (.int z), .val (.int u), .val (.ref b1), .val (.long sv), .second, .val (.ref b24)] [(.int u), (.int u)])) _
                      refine own_by (fun _ kt => XS.icmpYes X24.here hx rfl (pc0 := 305) (pc' := 310) rfl (hb hby at_305) rfl (teq (rfl : u = u)).1 (by decide) (by decide) kt) ?_
                      show own_Go p.tables e below (T24.setTop (mkF m 310 #[.val (.long q0), .second, .val (.int p1), .val (.int p2), .val (.int p3), .val (.int z), .val (.int u), .val (.ref b1), .val (.long sv), .second, .val (.ref b24)] [])) _
                      refine own_by (fun _ kt => XS.aload X24.here hx rfl (hb hby at_310) rfl rfl kt) ?_
                      show own_Go p.tables e below (T24.setTop (mkF m 312 #[.val (.long q0), .second, .val (.int p1), .val (.int p2), .val (.int p3), .val (.int z), .val (.int u), .val (.ref b1), .val (.long sv), .second, .val (.ref b24)] [(.ref b24)])) _
                      refine own_by (fun _ kt => XS.iload X24.here hx rfl (hb hby at_312) rfl kt) ?_
                      show own_Go p.tables e below (T24.setTop (mkF m 314 #[.val (.long q0), .second, .val (.int p1), .val (.int p2), .val (.int p3), .val (.int z), .val (.int u), .val (.ref b1), .val (.long sv), .second, .val (.ref b24)] [(.int u), (.ref b24)])) _
                      refine own_by (fun _ kt => XS.lload X24.here hx rfl (hb hby at_314) rfl kt) ?_
                      show own_Go p.tables e below (T24.setTop (mkF m 316 #[.val (.long q0), .second, .val (.int p1), .val (.int p2), .val (.int p3), .val (.int z), .val (.int u), .val (.ref b1), .val (.long sv), .second, .val (.ref b24)] [(.long sv), (.int u), (.ref b24)])) _
                      refine own_by (fun _ kt => XS.iconst X24.here hx rfl (hb hby at_316) kt) ?_
                      show own_Go p.tables e below (T24.setTop (mkF m 317 #[.val (.long q0), .second, .val (.int p1), .val (.int p2), .val (.int p3), .val (.int z), .val (.int u), .val (.ref b1), .val (.long sv), .second, .val (.ref b24)] [(.int (0 : Int32)), (.long sv), (.int u), (.ref b24)])) _
                      obtain ⟨_, _, ⟨T26, L26, k26, n26⟩, -, X26, ⟨Lc26, hQ26, l26, y26, z26⟩, st26⟩ := Jvm.LawKit.callS X24 hx (y := (⟨"com/example/relampago/relampago/bolt11/Bech32BytesPinLaw", "check", "([BIJI)Z"⟩ : MethodName)) hown (mvT hZ (hw _ (List.mem_of_getElem? (i := 17) rfl))) (mvT hZ (hw _ (List.mem_of_getElem? (i := 18) rfl))) (mvT hZ (hw _ (List.mem_of_getElem? (i := 4) rfl))) (mvT hZ (hw _ (List.mem_of_getElem? (i := 19) rfl))) (by decide) (backOf (W := 0) (rm_check l Z a0 hw [] b24 u sv (0 : Int32) (ck24) (w) ((own_G (fun j => nar .byte (own_raw q0 p1 (Int32.ofNat j))) (min (n * 5) (w * 8)))) T24.heap n0 Zs24 f24_0 hu (by decide) (fun hlt => own_final (j := 0) hs h10 h7 hlt)) hZ (hw _ (List.mem_of_getElem? (i := 19) rfl)) (hw _ (List.mem_of_getElem? (i := 4) rfl)) (by decide) (by decide)) (g := (mkF m 317 #[.val (.long q0), .second, .val (.int p1), .val (.int p2), .val (.int p3), .val (.int z), .val (.int u), .val (.ref b1), .val (.long sv), .second, .val (.ref b24)] [(.int (0 : Int32)), (.long sv), (.int u), (.ref b24)])) rfl (by rw [hml]; rfl) (argsL := [(.ref b24), (.int u), (.long sv), (.int (0 : Int32))]) (rest := []) (lenOf pd_4 rfl) rfl (by show 2 * 0 + _ ≤ _; exact Nat.le_of_eq rfl) (hb hby at_317) (fun _ _ => ⟨rfl, rfl, (by decide : 2 + 0 ≤ _), (by decide : 17 + 0 ≤ _)⟩)
                      dsimp only [Pt.U, Pt.locs, Pt.cells, Pt.slots] at X26 l26 y26 z26 st26 hQ26
                      obtain rfl : k26 = 2 := y26
                      obtain rfl : n26 = 17 := z26
                      obtain ⟨rfl, Nq26, eh26⟩ := hQ26
                      have N26 : Fr n0 L26 := by rw [l26]; exact Fr.app N24 Nq26
                      refine own_by (st26) ?_
                      show own_Go p.tables e below (T26.setTop (mkF m 320 #[.val (.long q0), .second, .val (.int p1), .val (.int p2), .val (.int p3), .val (.int z), .val (.int u), .val (.ref b1), .val (.long sv), .second, .val (.ref b24)] [(.int (1 : Int32))])) _
                      refine own_by (fun _ kt => XS.ifNo X26.here hx rfl (hb hby at_320) rfl ((if0 _ _).trans (feq (by decide : ¬ ((1 : Int32) = (0 : Int32)))).1) kt) ?_
                      show own_Go p.tables e below (T26.setTop (mkF m 323 #[.val (.long q0), .second, .val (.int p1), .val (.int p2), .val (.int p3), .val (.int z), .val (.int u), .val (.ref b1), .val (.long sv), .second, .val (.ref b24)] [])) _
                      refine own_by (fun _ kt => XS.aload X26.here hx rfl (hb hby at_323) rfl rfl kt) ?_
                      show own_Go p.tables e below (T26.setTop (mkF m 325 #[.val (.long q0), .second, .val (.int p1), .val (.int p2), .val (.int p3), .val (.int z), .val (.int u), .val (.ref b1), .val (.long sv), .second, .val (.ref b24)] [(.ref b24)])) _
                      refine own_by (fun _ kt => XS.iload X26.here hx rfl (hb hby at_325) rfl kt) ?_
                      show own_Go p.tables e below (T26.setTop (mkF m 327 #[.val (.long q0), .second, .val (.int p1), .val (.int p2), .val (.int p3), .val (.int z), .val (.int u), .val (.ref b1), .val (.long sv), .second, .val (.ref b24)] [(.int u), (.ref b24)])) _
                      refine own_by (fun _ kt => XS.lload X26.here hx rfl (hb hby at_327) rfl kt) ?_
                      show own_Go p.tables e below (T26.setTop (mkF m 329 #[.val (.long q0), .second, .val (.int p1), .val (.int p2), .val (.int p3), .val (.int z), .val (.int u), .val (.ref b1), .val (.long sv), .second, .val (.ref b24)] [(.long sv), (.int u), (.ref b24)])) _
                      refine own_by (fun _ kt => XS.iconst X26.here hx rfl (hb hby at_329) kt) ?_
                      show own_Go p.tables e below (T26.setTop (mkF m 330 #[.val (.long q0), .second, .val (.int p1), .val (.int p2), .val (.int p3), .val (.int z), .val (.int u), .val (.ref b1), .val (.long sv), .second, .val (.ref b24)] [(.int (1 : Int32)), (.long sv), (.int u), (.ref b24)])) _
                      obtain ⟨_, _, ⟨T27, L27, k27, n27⟩, -, X27, ⟨Lc27, hQ27, l27, y27, z27⟩, st27⟩ := Jvm.LawKit.callS X26 hx (y := (⟨"com/example/relampago/relampago/bolt11/Bech32BytesPinLaw", "check", "([BIJI)Z"⟩ : MethodName)) hown (mvT hZ (hw _ (List.mem_of_getElem? (i := 17) rfl))) (mvT hZ (hw _ (List.mem_of_getElem? (i := 18) rfl))) (mvT hZ (hw _ (List.mem_of_getElem? (i := 4) rfl))) (mvT hZ (hw _ (List.mem_of_getElem? (i := 19) rfl))) (by decide) (backOf (W := 0) (rm_check l Z a0 hw [] b24 u sv (1 : Int32) (ck24) (w) ((own_G (fun j => nar .byte (own_raw q0 p1 (Int32.ofNat j))) (min (n * 5) (w * 8)))) T24.heap n0 Zs24 f24_0 hu (by decide) (fun hlt => own_final (j := 1) hs h10 h7 hlt)) hZ (hw _ (List.mem_of_getElem? (i := 19) rfl)) (hw _ (List.mem_of_getElem? (i := 4) rfl)) (by decide) (by decide)) (g := (mkF m 330 #[.val (.long q0), .second, .val (.int p1), .val (.int p2), .val (.int p3), .val (.int z), .val (.int u), .val (.ref b1), .val (.long sv), .second, .val (.ref b24)] [(.int (1 : Int32)), (.long sv), (.int u), (.ref b24)])) rfl (by rw [hml]; rfl) (argsL := [(.ref b24), (.int u), (.long sv), (.int (1 : Int32))]) (rest := []) (lenOf pd_4 rfl) rfl (by show 2 * 0 + _ ≤ _; exact Nat.le_of_eq rfl) (hb hby at_330) (fun _ _ => ⟨rfl, eh26, (by decide : 2 + 0 ≤ _), (by decide : 17 + 0 ≤ _)⟩)
                      dsimp only [Pt.U, Pt.locs, Pt.cells, Pt.slots] at X27 l27 y27 z27 st27 hQ27
                      obtain rfl : k27 = 2 := y27
                      obtain rfl : n27 = 17 := z27
                      obtain ⟨rfl, Nq27, eh27⟩ := hQ27
                      have N27 : Fr n0 L27 := by rw [l27]; exact Fr.app N26 Nq27
                      refine own_by (st27) ?_
                      show own_Go p.tables e below (T27.setTop (mkF m 333 #[.val (.long q0), .second, .val (.int p1), .val (.int p2), .val (.int p3), .val (.int z), .val (.int u), .val (.ref b1), .val (.long sv), .second, .val (.ref b24)] [(.int (1 : Int32))])) _
                      refine own_by (fun _ kt => XS.ifNo X27.here hx rfl (hb hby at_333) rfl ((if0 _ _).trans (feq (by decide : ¬ ((1 : Int32) = (0 : Int32)))).1) kt) ?_
                      show own_Go p.tables e below (T27.setTop (mkF m 336 #[.val (.long q0), .second, .val (.int p1), .val (.int p2), .val (.int p3), .val (.int z), .val (.int u), .val (.ref b1), .val (.long sv), .second, .val (.ref b24)] [])) _
                      refine own_by (fun _ kt => XS.aload X27.here hx rfl (hb hby at_336) rfl rfl kt) ?_
                      show own_Go p.tables e below (T27.setTop (mkF m 338 #[.val (.long q0), .second, .val (.int p1), .val (.int p2), .val (.int p3), .val (.int z), .val (.int u), .val (.ref b1), .val (.long sv), .second, .val (.ref b24)] [(.ref b24)])) _
                      refine own_by (fun _ kt => XS.iload X27.here hx rfl (hb hby at_338) rfl kt) ?_
                      show own_Go p.tables e below (T27.setTop (mkF m 340 #[.val (.long q0), .second, .val (.int p1), .val (.int p2), .val (.int p3), .val (.int z), .val (.int u), .val (.ref b1), .val (.long sv), .second, .val (.ref b24)] [(.int u), (.ref b24)])) _
                      refine own_by (fun _ kt => XS.lload X27.here hx rfl (hb hby at_340) rfl kt) ?_
                      show own_Go p.tables e below (T27.setTop (mkF m 342 #[.val (.long q0), .second, .val (.int p1), .val (.int p2), .val (.int p3), .val (.int z), .val (.int u), .val (.ref b1), .val (.long sv), .second, .val (.ref b24)] [(.long sv), (.int u), (.ref b24)])) _
                      refine own_by (fun _ kt => XS.iconst X27.here hx rfl (hb hby at_342) kt) ?_
                      show own_Go p.tables e below (T27.setTop (mkF m 343 #[.val (.long q0), .second, .val (.int p1), .val (.int p2), .val (.int p3), .val (.int z), .val (.int u), .val (.ref b1), .val (.long sv), .second, .val (.ref b24)] [(.int (2 : Int32)), (.long sv), (.int u), (.ref b24)])) _
                      obtain ⟨_, _, ⟨T28, L28, k28, n28⟩, -, X28, ⟨Lc28, hQ28, l28, y28, z28⟩, st28⟩ := Jvm.LawKit.callS X27 hx (y := (⟨"com/example/relampago/relampago/bolt11/Bech32BytesPinLaw", "check", "([BIJI)Z"⟩ : MethodName)) hown (mvT hZ (hw _ (List.mem_of_getElem? (i := 17) rfl))) (mvT hZ (hw _ (List.mem_of_getElem? (i := 18) rfl))) (mvT hZ (hw _ (List.mem_of_getElem? (i := 4) rfl))) (mvT hZ (hw _ (List.mem_of_getElem? (i := 19) rfl))) (by decide) (backOf (W := 0) (rm_check l Z a0 hw [] b24 u sv (2 : Int32) (ck24) (w) ((own_G (fun j => nar .byte (own_raw q0 p1 (Int32.ofNat j))) (min (n * 5) (w * 8)))) T24.heap n0 Zs24 f24_0 hu (by decide) (fun hlt => own_final (j := 2) hs h10 h7 hlt)) hZ (hw _ (List.mem_of_getElem? (i := 19) rfl)) (hw _ (List.mem_of_getElem? (i := 4) rfl)) (by decide) (by decide)) (g := (mkF m 343 #[.val (.long q0), .second, .val (.int p1), .val (.int p2), .val (.int p3), .val (.int z), .val (.int u), .val (.ref b1), .val (.long sv), .second, .val (.ref b24)] [(.int (2 : Int32)), (.long sv), (.int u), (.ref b24)])) rfl (by rw [hml]; rfl) (argsL := [(.ref b24), (.int u), (.long sv), (.int (2 : Int32))]) (rest := []) (lenOf pd_4 rfl) rfl (by show 2 * 0 + _ ≤ _; exact Nat.le_of_eq rfl) (hb hby at_343) (fun _ _ => ⟨rfl, eh27, (by decide : 2 + 0 ≤ _), (by decide : 17 + 0 ≤ _)⟩)
                      dsimp only [Pt.U, Pt.locs, Pt.cells, Pt.slots] at X28 l28 y28 z28 st28 hQ28
                      obtain rfl : k28 = 2 := y28
                      obtain rfl : n28 = 17 := z28
                      obtain ⟨rfl, Nq28, eh28⟩ := hQ28
                      have N28 : Fr n0 L28 := by rw [l28]; exact Fr.app N27 Nq28
                      refine own_by (st28) ?_
                      show own_Go p.tables e below (T28.setTop (mkF m 346 #[.val (.long q0), .second, .val (.int p1), .val (.int p2), .val (.int p3), .val (.int z), .val (.int u), .val (.ref b1), .val (.long sv), .second, .val (.ref b24)] [(.int (1 : Int32))])) _
                      refine own_by (fun _ kt => XS.ifNo X28.here hx rfl (hb hby at_346) rfl ((if0 _ _).trans (feq (by decide : ¬ ((1 : Int32) = (0 : Int32)))).1) kt) ?_
                      show own_Go p.tables e below (T28.setTop (mkF m 349 #[.val (.long q0), .second, .val (.int p1), .val (.int p2), .val (.int p3), .val (.int z), .val (.int u), .val (.ref b1), .val (.long sv), .second, .val (.ref b24)] [])) _
                      refine own_by (fun _ kt => XS.aload X28.here hx rfl (hb hby at_349) rfl rfl kt) ?_
                      show own_Go p.tables e below (T28.setTop (mkF m 351 #[.val (.long q0), .second, .val (.int p1), .val (.int p2), .val (.int p3), .val (.int z), .val (.int u), .val (.ref b1), .val (.long sv), .second, .val (.ref b24)] [(.ref b24)])) _
                      refine own_by (fun _ kt => XS.iload X28.here hx rfl (hb hby at_351) rfl kt) ?_
                      show own_Go p.tables e below (T28.setTop (mkF m 353 #[.val (.long q0), .second, .val (.int p1), .val (.int p2), .val (.int p3), .val (.int z), .val (.int u), .val (.ref b1), .val (.long sv), .second, .val (.ref b24)] [(.int u), (.ref b24)])) _
                      refine own_by (fun _ kt => XS.lload X28.here hx rfl (hb hby at_353) rfl kt) ?_
                      show own_Go p.tables e below (T28.setTop (mkF m 355 #[.val (.long q0), .second, .val (.int p1), .val (.int p2), .val (.int p3), .val (.int z), .val (.int u), .val (.ref b1), .val (.long sv), .second, .val (.ref b24)] [(.long sv), (.int u), (.ref b24)])) _
                      refine own_by (fun _ kt => XS.iconst X28.here hx rfl (hb hby at_355) kt) ?_
                      show own_Go p.tables e below (T28.setTop (mkF m 356 #[.val (.long q0), .second, .val (.int p1), .val (.int p2), .val (.int p3), .val (.int z), .val (.int u), .val (.ref b1), .val (.long sv), .second, .val (.ref b24)] [(.int (3 : Int32)), (.long sv), (.int u), (.ref b24)])) _
                      obtain ⟨_, _, ⟨T29, L29, k29, n29⟩, -, X29, ⟨Lc29, hQ29, l29, y29, z29⟩, st29⟩ := Jvm.LawKit.callS X28 hx (y := (⟨"com/example/relampago/relampago/bolt11/Bech32BytesPinLaw", "check", "([BIJI)Z"⟩ : MethodName)) hown (mvT hZ (hw _ (List.mem_of_getElem? (i := 17) rfl))) (mvT hZ (hw _ (List.mem_of_getElem? (i := 18) rfl))) (mvT hZ (hw _ (List.mem_of_getElem? (i := 4) rfl))) (mvT hZ (hw _ (List.mem_of_getElem? (i := 19) rfl))) (by decide) (backOf (W := 0) (rm_check l Z a0 hw [] b24 u sv (3 : Int32) (ck24) (w) ((own_G (fun j => nar .byte (own_raw q0 p1 (Int32.ofNat j))) (min (n * 5) (w * 8)))) T24.heap n0 Zs24 f24_0 hu (by decide) (fun hlt => own_final (j := 3) hs h10 h7 hlt)) hZ (hw _ (List.mem_of_getElem? (i := 19) rfl)) (hw _ (List.mem_of_getElem? (i := 4) rfl)) (by decide) (by decide)) (g := (mkF m 356 #[.val (.long q0), .second, .val (.int p1), .val (.int p2), .val (.int p3), .val (.int z), .val (.int u), .val (.ref b1), .val (.long sv), .second, .val (.ref b24)] [(.int (3 : Int32)), (.long sv), (.int u), (.ref b24)])) rfl (by rw [hml]; rfl) (argsL := [(.ref b24), (.int u), (.long sv), (.int (3 : Int32))]) (rest := []) (lenOf pd_4 rfl) rfl (by show 2 * 0 + _ ≤ _; exact Nat.le_of_eq rfl) (hb hby at_356) (fun _ _ => ⟨rfl, eh28, (by decide : 2 + 0 ≤ _), (by decide : 17 + 0 ≤ _)⟩)
                      dsimp only [Pt.U, Pt.locs, Pt.cells, Pt.slots] at X29 l29 y29 z29 st29 hQ29
                      obtain rfl : k29 = 2 := y29
                      obtain rfl : n29 = 17 := z29
                      obtain ⟨rfl, Nq29, eh29⟩ := hQ29
                      have N29 : Fr n0 L29 := by rw [l29]; exact Fr.app N28 Nq29
                      refine own_by (st29) ?_
                      show own_Go p.tables e below (T29.setTop (mkF m 359 #[.val (.long q0), .second, .val (.int p1), .val (.int p2), .val (.int p3), .val (.int z), .val (.int u), .val (.ref b1), .val (.long sv), .second, .val (.ref b24)] [(.int (1 : Int32))])) _
                      refine own_by (fun _ kt => XS.ifNo X29.here hx rfl (hb hby at_359) rfl ((if0 _ _).trans (feq (by decide : ¬ ((1 : Int32) = (0 : Int32)))).1) kt) ?_
                      show own_Go p.tables e below (T29.setTop (mkF m 362 #[.val (.long q0), .second, .val (.int p1), .val (.int p2), .val (.int p3), .val (.int z), .val (.int u), .val (.ref b1), .val (.long sv), .second, .val (.ref b24)] [])) _
                      refine own_by (fun _ kt => XS.aload X29.here hx rfl (hb hby at_362) rfl rfl kt) ?_
                      show own_Go p.tables e below (T29.setTop (mkF m 364 #[.val (.long q0), .second, .val (.int p1), .val (.int p2), .val (.int p3), .val (.int z), .val (.int u), .val (.ref b1), .val (.long sv), .second, .val (.ref b24)] [(.ref b24)])) _
                      refine own_by (fun _ kt => XS.iload X29.here hx rfl (hb hby at_364) rfl kt) ?_
                      show own_Go p.tables e below (T29.setTop (mkF m 366 #[.val (.long q0), .second, .val (.int p1), .val (.int p2), .val (.int p3), .val (.int z), .val (.int u), .val (.ref b1), .val (.long sv), .second, .val (.ref b24)] [(.int u), (.ref b24)])) _
                      refine own_by (fun _ kt => XS.lload X29.here hx rfl (hb hby at_366) rfl kt) ?_
                      show own_Go p.tables e below (T29.setTop (mkF m 368 #[.val (.long q0), .second, .val (.int p1), .val (.int p2), .val (.int p3), .val (.int z), .val (.int u), .val (.ref b1), .val (.long sv), .second, .val (.ref b24)] [(.long sv), (.int u), (.ref b24)])) _
                      refine own_by (fun _ kt => XS.iconst X29.here hx rfl (hb hby at_368) kt) ?_
                      show own_Go p.tables e below (T29.setTop (mkF m 369 #[.val (.long q0), .second, .val (.int p1), .val (.int p2), .val (.int p3), .val (.int z), .val (.int u), .val (.ref b1), .val (.long sv), .second, .val (.ref b24)] [(.int (4 : Int32)), (.long sv), (.int u), (.ref b24)])) _
                      obtain ⟨_, _, ⟨T30, L30, k30, n30⟩, -, X30, ⟨Lc30, hQ30, l30, y30, z30⟩, st30⟩ := Jvm.LawKit.callS X29 hx (y := (⟨"com/example/relampago/relampago/bolt11/Bech32BytesPinLaw", "check", "([BIJI)Z"⟩ : MethodName)) hown (mvT hZ (hw _ (List.mem_of_getElem? (i := 17) rfl))) (mvT hZ (hw _ (List.mem_of_getElem? (i := 18) rfl))) (mvT hZ (hw _ (List.mem_of_getElem? (i := 4) rfl))) (mvT hZ (hw _ (List.mem_of_getElem? (i := 19) rfl))) (by decide) (backOf (W := 0) (rm_check l Z a0 hw [] b24 u sv (4 : Int32) (ck24) (w) ((own_G (fun j => nar .byte (own_raw q0 p1 (Int32.ofNat j))) (min (n * 5) (w * 8)))) T24.heap n0 Zs24 f24_0 hu (by decide) (fun hlt => own_final (j := 4) hs h10 h7 hlt)) hZ (hw _ (List.mem_of_getElem? (i := 19) rfl)) (hw _ (List.mem_of_getElem? (i := 4) rfl)) (by decide) (by decide)) (g := (mkF m 369 #[.val (.long q0), .second, .val (.int p1), .val (.int p2), .val (.int p3), .val (.int z), .val (.int u), .val (.ref b1), .val (.long sv), .second, .val (.ref b24)] [(.int (4 : Int32)), (.long sv), (.int u), (.ref b24)])) rfl (by rw [hml]; rfl) (argsL := [(.ref b24), (.int u), (.long sv), (.int (4 : Int32))]) (rest := []) (lenOf pd_4 rfl) rfl (by show 2 * 0 + _ ≤ _; exact Nat.le_of_eq rfl) (hb hby at_369) (fun _ _ => ⟨rfl, eh29, (by decide : 2 + 0 ≤ _), (by decide : 17 + 0 ≤ _)⟩)
                      dsimp only [Pt.U, Pt.locs, Pt.cells, Pt.slots] at X30 l30 y30 z30 st30 hQ30
                      obtain rfl : k30 = 2 := y30
                      obtain rfl : n30 = 17 := z30
                      obtain ⟨rfl, Nq30, eh30⟩ := hQ30
                      have N30 : Fr n0 L30 := by rw [l30]; exact Fr.app N29 Nq30
                      refine own_by (st30) ?_
                      show own_Go p.tables e below (T30.setTop (mkF m 372 #[.val (.long q0), .second, .val (.int p1), .val (.int p2), .val (.int p3), .val (.int z), .val (.int u), .val (.ref b1), .val (.long sv), .second, .val (.ref b24)] [(.int (1 : Int32))])) _
                      refine own_by (fun _ kt => XS.ifNo X30.here hx rfl (hb hby at_372) rfl ((if0 _ _).trans (feq (by decide : ¬ ((1 : Int32) = (0 : Int32)))).1) kt) ?_
                      show own_Go p.tables e below (T30.setTop (mkF m 375 #[.val (.long q0), .second, .val (.int p1), .val (.int p2), .val (.int p3), .val (.int z), .val (.int u), .val (.ref b1), .val (.long sv), .second, .val (.ref b24)] [])) _
                      refine own_by (fun _ kt => XS.aload X30.here hx rfl (hb hby at_375) rfl rfl kt) ?_
                      show own_Go p.tables e below (T30.setTop (mkF m 377 #[.val (.long q0), .second, .val (.int p1), .val (.int p2), .val (.int p3), .val (.int z), .val (.int u), .val (.ref b1), .val (.long sv), .second, .val (.ref b24)] [(.ref b24)])) _
                      refine own_by (fun _ kt => XS.iload X30.here hx rfl (hb hby at_377) rfl kt) ?_
                      show own_Go p.tables e below (T30.setTop (mkF m 379 #[.val (.long q0), .second, .val (.int p1), .val (.int p2), .val (.int p3), .val (.int z), .val (.int u), .val (.ref b1), .val (.long sv), .second, .val (.ref b24)] [(.int u), (.ref b24)])) _
                      refine own_by (fun _ kt => XS.lload X30.here hx rfl (hb hby at_379) rfl kt) ?_
                      show own_Go p.tables e below (T30.setTop (mkF m 381 #[.val (.long q0), .second, .val (.int p1), .val (.int p2), .val (.int p3), .val (.int z), .val (.int u), .val (.ref b1), .val (.long sv), .second, .val (.ref b24)] [(.long sv), (.int u), (.ref b24)])) _
                      refine own_by (fun _ kt => XS.iconst X30.here hx rfl (hb hby at_381) kt) ?_
                      show own_Go p.tables e below (T30.setTop (mkF m 382 #[.val (.long q0), .second, .val (.int p1), .val (.int p2), .val (.int p3), .val (.int z), .val (.int u), .val (.ref b1), .val (.long sv), .second, .val (.ref b24)] [(.int (5 : Int32)), (.long sv), (.int u), (.ref b24)])) _
                      obtain ⟨_, _, ⟨T31, L31, k31, n31⟩, -, X31, ⟨Lc31, hQ31, l31, y31, z31⟩, st31⟩ := Jvm.LawKit.callS X30 hx (y := (⟨"com/example/relampago/relampago/bolt11/Bech32BytesPinLaw", "check", "([BIJI)Z"⟩ : MethodName)) hown (mvT hZ (hw _ (List.mem_of_getElem? (i := 17) rfl))) (mvT hZ (hw _ (List.mem_of_getElem? (i := 18) rfl))) (mvT hZ (hw _ (List.mem_of_getElem? (i := 4) rfl))) (mvT hZ (hw _ (List.mem_of_getElem? (i := 19) rfl))) (by decide) (backOf (W := 0) (rm_check l Z a0 hw [] b24 u sv (5 : Int32) (ck24) (w) ((own_G (fun j => nar .byte (own_raw q0 p1 (Int32.ofNat j))) (min (n * 5) (w * 8)))) T24.heap n0 Zs24 f24_0 hu (by decide) (fun hlt => own_final (j := 5) hs h10 h7 hlt)) hZ (hw _ (List.mem_of_getElem? (i := 19) rfl)) (hw _ (List.mem_of_getElem? (i := 4) rfl)) (by decide) (by decide)) (g := (mkF m 382 #[.val (.long q0), .second, .val (.int p1), .val (.int p2), .val (.int p3), .val (.int z), .val (.int u), .val (.ref b1), .val (.long sv), .second, .val (.ref b24)] [(.int (5 : Int32)), (.long sv), (.int u), (.ref b24)])) rfl (by rw [hml]; rfl) (argsL := [(.ref b24), (.int u), (.long sv), (.int (5 : Int32))]) (rest := []) (lenOf pd_4 rfl) rfl (by show 2 * 0 + _ ≤ _; exact Nat.le_of_eq rfl) (hb hby at_382) (fun _ _ => ⟨rfl, eh30, (by decide : 2 + 0 ≤ _), (by decide : 17 + 0 ≤ _)⟩)
                      dsimp only [Pt.U, Pt.locs, Pt.cells, Pt.slots] at X31 l31 y31 z31 st31 hQ31
                      obtain rfl : k31 = 2 := y31
                      obtain rfl : n31 = 17 := z31
                      obtain ⟨rfl, Nq31, eh31⟩ := hQ31
                      have N31 : Fr n0 L31 := by rw [l31]; exact Fr.app N30 Nq31
                      refine own_by (st31) ?_
                      show own_Go p.tables e below (T31.setTop (mkF m 385 #[.val (.long q0), .second, .val (.int p1), .val (.int p2), .val (.int p3), .val (.int z), .val (.int u), .val (.ref b1), .val (.long sv), .second, .val (.ref b24)] [(.int (1 : Int32))])) _
                      refine own_by (fun _ kt => XS.ifNo X31.here hx rfl (hb hby at_385) rfl ((if0 _ _).trans (feq (by decide : ¬ ((1 : Int32) = (0 : Int32)))).1) kt) ?_
                      show own_Go p.tables e below (T31.setTop (mkF m 388 #[.val (.long q0), .second, .val (.int p1), .val (.int p2), .val (.int p3), .val (.int z), .val (.int u), .val (.ref b1), .val (.long sv), .second, .val (.ref b24)] [])) _
                      refine own_by (fun _ kt => XS.aload X31.here hx rfl (hb hby at_388) rfl rfl kt) ?_
                      show own_Go p.tables e below (T31.setTop (mkF m 390 #[.val (.long q0), .second, .val (.int p1), .val (.int p2), .val (.int p3), .val (.int z), .val (.int u), .val (.ref b1), .val (.long sv), .second, .val (.ref b24)] [(.ref b24)])) _
                      refine own_by (fun _ kt => XS.iload X31.here hx rfl (hb hby at_390) rfl kt) ?_
                      show own_Go p.tables e below (T31.setTop (mkF m 392 #[.val (.long q0), .second, .val (.int p1), .val (.int p2), .val (.int p3), .val (.int z), .val (.int u), .val (.ref b1), .val (.long sv), .second, .val (.ref b24)] [(.int u), (.ref b24)])) _
                      refine own_by (fun _ kt => XS.lload X31.here hx rfl (hb hby at_392) rfl kt) ?_
                      show own_Go p.tables e below (T31.setTop (mkF m 394 #[.val (.long q0), .second, .val (.int p1), .val (.int p2), .val (.int p3), .val (.int z), .val (.int u), .val (.ref b1), .val (.long sv), .second, .val (.ref b24)] [(.long sv), (.int u), (.ref b24)])) _
                      refine own_by (fun _ kt => XS.bipush X31.here hx rfl (hb hby at_394) kt) ?_
                      show own_Go p.tables e below (T31.setTop (mkF m 396 #[.val (.long q0), .second, .val (.int p1), .val (.int p2), .val (.int p3), .val (.int z), .val (.int u), .val (.ref b1), .val (.long sv), .second, .val (.ref b24)] [(.int (6 : Int32)), (.long sv), (.int u), (.ref b24)])) _
                      obtain ⟨_, _, ⟨T32, L32, k32, n32⟩, -, X32, ⟨Lc32, hQ32, l32, y32, z32⟩, st32⟩ := Jvm.LawKit.callS X31 hx (y := (⟨"com/example/relampago/relampago/bolt11/Bech32BytesPinLaw", "check", "([BIJI)Z"⟩ : MethodName)) hown (mvT hZ (hw _ (List.mem_of_getElem? (i := 17) rfl))) (mvT hZ (hw _ (List.mem_of_getElem? (i := 18) rfl))) (mvT hZ (hw _ (List.mem_of_getElem? (i := 4) rfl))) (mvT hZ (hw _ (List.mem_of_getElem? (i := 19) rfl))) (by decide) (backOf (W := 0) (rm_check l Z a0 hw [] b24 u sv (6 : Int32) (ck24) (w) ((own_G (fun j => nar .byte (own_raw q0 p1 (Int32.ofNat j))) (min (n * 5) (w * 8)))) T24.heap n0 Zs24 f24_0 hu (by decide) (fun hlt => own_final (j := 6) hs h10 h7 hlt)) hZ (hw _ (List.mem_of_getElem? (i := 19) rfl)) (hw _ (List.mem_of_getElem? (i := 4) rfl)) (by decide) (by decide)) (g := (mkF m 396 #[.val (.long q0), .second, .val (.int p1), .val (.int p2), .val (.int p3), .val (.int z), .val (.int u), .val (.ref b1), .val (.long sv), .second, .val (.ref b24)] [(.int (6 : Int32)), (.long sv), (.int u), (.ref b24)])) rfl (by rw [hml]; rfl) (argsL := [(.ref b24), (.int u), (.long sv), (.int (6 : Int32))]) (rest := []) (lenOf pd_4 rfl) rfl (by show 2 * 0 + _ ≤ _; exact Nat.le_of_eq rfl) (hb hby at_396) (fun _ _ => ⟨rfl, eh31, (by decide : 2 + 0 ≤ _), (by decide : 17 + 0 ≤ _)⟩)
                      dsimp only [Pt.U, Pt.locs, Pt.cells, Pt.slots] at X32 l32 y32 z32 st32 hQ32
                      obtain rfl : k32 = 2 := y32
                      obtain rfl : n32 = 17 := z32
                      obtain ⟨rfl, Nq32, eh32⟩ := hQ32
                      have N32 : Fr n0 L32 := by rw [l32]; exact Fr.app N31 Nq32
                      refine own_by (st32) ?_
                      show own_Go p.tables e below (T32.setTop (mkF m 399 #[.val (.long q0), .second, .val (.int p1), .val (.int p2), .val (.int p3), .val (.int z), .val (.int u), .val (.ref b1), .val (.long sv), .second, .val (.ref b24)] [(.int (1 : Int32))])) _
                      refine own_by (fun _ kt => XS.ifNo X32.here hx rfl (hb hby at_399) rfl ((if0 _ _).trans (feq (by decide : ¬ ((1 : Int32) = (0 : Int32)))).1) kt) ?_
                      show own_Go p.tables e below (T32.setTop (mkF m 402 #[.val (.long q0), .second, .val (.int p1), .val (.int p2), .val (.int p3), .val (.int z), .val (.int u), .val (.ref b1), .val (.long sv), .second, .val (.ref b24)] [])) _
                      refine own_by (fun _ kt => XS.iconst X32.here hx rfl (hb hby at_402) kt) ?_
                      show own_Go p.tables e below (T32.setTop (mkF m 403 #[.val (.long q0), .second, .val (.int p1), .val (.int p2), .val (.int p3), .val (.int z), .val (.int u), .val (.ref b1), .val (.long sv), .second, .val (.ref b24)] [(.int (1 : Int32))])) _
                      refine own_by (fun _ kt => XS.goto X32.here hx rfl (pc0 := 403) (pc' := 407) rfl (hb hby at_403) (by decide) (by decide) kt) ?_
                      show own_Go p.tables e below (T32.setTop (mkF m 407 #[.val (.long q0), .second, .val (.int p1), .val (.int p2), .val (.int p3), .val (.int z), .val (.int u), .val (.ref b1), .val (.long sv), .second, .val (.ref b24)] [(.int (1 : Int32))])) _
                      exact own_retN X32 hx (t := .boolean) Bd.returns hlk (by simp) (hb hby at_407) ⟨rfl, N32⟩ (by decide) (by decide)
                    refine own_by (fun _ kt => XS.iload XJ11.here hx rfl (hb hby at_177) rfl kt) ?_
                    show own_Go p.tables e below (TJ11.setTop (mkF m 179 #[.val (.long q0), .second, .val (.int p1), .val (.int p2), .val (.int p3), .val (.int z), .val (.int u), .val (.ref b1), .unset, .unset, .unset] [(.int z)])) _
                    refine own_by (fun _ kt => XS.bipush XJ11.here hx rfl (hb hby at_179) kt) ?_
                    show own_Go p.tables e below (TJ11.setTop (mkF m 181 #[.val (.long q0), .second, .val (.int p1), .val (.int p2), .val (.int p3), .val (.int z), .val (.int u), .val (.ref b1), .unset, .unset, .unset] [(.int (9 : Int32)), (.int z)])) _
                    by_cases hc181_33 : (9 : Int32) < z
                    · refine own_by (fun _ kt => XS.icmpNo XJ11.here hx rfl (hb hby at_181) rfl (tlt hc181_33).2.2.2 kt) ?_
                      show own_Go p.tables e below (TJ11.setTop (mkF m 184 #[.val (.long q0), .second, .val (.int p1), .val (.int p2), .val (.int p3), .val (.int z), .val (.int u), .val (.ref b1), .unset, .unset, .unset] [])) _
                      refine own_by (fun _ kt => XS.aload XJ11.here hx rfl (hb hby at_184) rfl rfl kt) ?_
                      show own_Go p.tables e below (TJ11.setTop (mkF m 186 #[.val (.long q0), .second, .val (.int p1), .val (.int p2), .val (.int p3), .val (.int z), .val (.int u), .val (.ref b1), .unset, .unset, .unset] [(.ref b1)])) _
                      refine own_by (fun _ kt => XS.bipush XJ11.here hx rfl (hb hby at_186) kt) ?_
                      show own_Go p.tables e below (TJ11.setTop (mkF m 188 #[.val (.long q0), .second, .val (.int p1), .val (.int p2), .val (.int p3), .val (.int z), .val (.int u), .val (.ref b1), .unset, .unset, .unset] [(.int (9 : Int32)), (.ref b1)])) _
                      refine own_by (fun _ kt => XS.lloadN XJ11.here hx rfl (hb hby at_188) rfl kt) ?_
                      show own_Go p.tables e below (TJ11.setTop (mkF m 189 #[.val (.long q0), .second, .val (.int p1), .val (.int p2), .val (.int p3), .val (.int z), .val (.int u), .val (.ref b1), .unset, .unset, .unset] [(.long q0), (.int (9 : Int32)), (.ref b1)])) _
                      refine own_by (fun _ kt => XS.iloadN XJ11.here hx rfl (hb hby at_189) rfl kt) ?_
                      show own_Go p.tables e below (TJ11.setTop (mkF m 190 #[.val (.long q0), .second, .val (.int p1), .val (.int p2), .val (.int p3), .val (.int z), .val (.int u), .val (.ref b1), .unset, .unset, .unset] [(.int p1), (.long q0), (.int (9 : Int32)), (.ref b1)])) _
                      refine own_by (fun _ kt => XS.bipush XJ11.here hx rfl (hb hby at_190) kt) ?_
                      show own_Go p.tables e below (TJ11.setTop (mkF m 192 #[.val (.long q0), .second, .val (.int p1), .val (.int p2), .val (.int p3), .val (.int z), .val (.int u), .val (.ref b1), .unset, .unset, .unset] [(.int (9 : Int32)), (.int p1), (.long q0), (.int (9 : Int32)), (.ref b1)])) _
                      obtain ⟨_, _, ⟨T34, L34, k34, n34⟩, -, X34, ⟨Lc34, hQ34, l34, y34, z34⟩, st34⟩ := Jvm.LawKit.callS XJ11 hx (y := (⟨"com/example/relampago/relampago/bolt11/Bech32BytesPinLaw", "raw", "(JII)B"⟩ : MethodName)) hown (mvT hZ (hw _ (List.mem_of_getElem? (i := 2) rfl))) (mvT hZ (hw _ (List.mem_of_getElem? (i := 3) rfl))) (mvT hZ (hw _ (List.mem_of_getElem? (i := 4) rfl))) (mvT hZ (hw _ (List.mem_of_getElem? (i := 5) rfl))) (by decide) (backOf (W := 2) (rm_own_raw l Z a0 hw [] q0 p1 (9 : Int32) hJ11 n0 ZJ11) hZ (hw _ (List.mem_of_getElem? (i := 5) rfl)) (hw _ (List.mem_of_getElem? (i := 4) rfl)) (by decide) (by decide)) (g := (mkF m 192 #[.val (.long q0), .second, .val (.int p1), .val (.int p2), .val (.int p3), .val (.int z), .val (.int u), .val (.ref b1), .unset, .unset, .unset] [(.int (9 : Int32)), (.int p1), (.long q0), (.int (9 : Int32)), (.ref b1)])) rfl (by rw [hml]; rfl) (argsL := [(.long q0), (.int p1), (.int (9 : Int32))]) (rest := [(.int (9 : Int32)), (.ref b1)]) (lenOf pd_0 rfl) rfl (by show 2 * 0 + _ ≤ _; exact Nat.le_of_eq rfl) (hb hby at_192) (fun _ _ => ⟨rfl, eJ11, (by decide : 1 + 0 ≤ _), (by decide : 10 + 0 ≤ _)⟩)
                      dsimp only [Pt.U, Pt.locs, Pt.cells, Pt.slots] at X34 l34 y34 z34 st34 hQ34
                      obtain rfl : k34 = 1 := y34
                      obtain rfl : n34 = 10 := z34
                      obtain ⟨rfl, Nq34, eh34⟩ := hQ34
                      have N34 : Fr n0 L34 := by rw [l34]; exact Fr.app NJ11 Nq34
                      refine own_by (st34) ?_
                      show own_Go p.tables e below (T34.setTop (mkF m 195 #[.val (.long q0), .second, .val (.int p1), .val (.int p2), .val (.int p3), .val (.int z), .val (.int u), .val (.ref b1), .unset, .unset, .unset] [(.int (own_raw q0 p1 (9 : Int32))), (.int (9 : Int32)), (.ref b1)])) _
                      obtain ⟨T35, h35, X35, e35, W35, U35, st35⟩ := own_ustore X34 hx hZ eh34 fJ11_0 (j := (9 : Int32)) (i := (9 : Int32).toInt.toNat) (own_nat (by decide)) (own_ltn hz (by decide) hc181_33) (g := (mkF m 195 #[.val (.long q0), .second, .val (.int p1), .val (.int p2), .val (.int p3), .val (.int z), .val (.int u), .val (.ref b1), .unset, .unset, .unset] [(.int (own_raw q0 p1 (9 : Int32))), (.int (9 : Int32)), (.ref b1)])) rfl rfl (hb hby at_195)
                      have Zs35 : n0 ≤ h35.size := by rw [W35.size]; exact ZJ11
                      have N35 := Fr.snoc X35 N34 gn_b1
                      refine own_by st35 ?_
                      show own_Go p.tables e below (T35.setTop (mkF m 196 #[.val (.long q0), .second, .val (.int p1), .val (.int p2), .val (.int p3), .val (.int z), .val (.int u), .val (.ref b1), .unset, .unset, .unset] [])) _
                      exact J12 h35 _ _ X35 e35 N35 Zs35 U35
                    · refine own_by (fun _ kt => XS.icmpYes XJ11.here hx rfl (pc0 := 181) (pc' := 196) rfl (hb hby at_181) rfl (flt hc181_33).2.2.2 (by decide) (by decide) kt) ?_
                      show own_Go p.tables e below (TJ11.setTop (mkF m 196 #[.val (.long q0), .second, .val (.int p1), .val (.int p2), .val (.int p3), .val (.int z), .val (.int u), .val (.ref b1), .unset, .unset, .unset] [])) _
                      exact J12 hJ11 _ _ XJ11 eJ11 NJ11 ZJ11 (fJ11_0.congr (fun j hj => (if_neg (own_gen hz (by decide) hc181_33 hj)).symm))
                  refine own_by (fun _ kt => XS.iload XJ10.here hx rfl (hb hby at_158) rfl kt) ?_
                  show own_Go p.tables e below (TJ10.setTop (mkF m 160 #[.val (.long q0), .second, .val (.int p1), .val (.int p2), .val (.int p3), .val (.int z), .val (.int u), .val (.ref b1), .unset, .unset, .unset] [(.int z)])) _
                  refine own_by (fun _ kt => XS.bipush XJ10.here hx rfl (hb hby at_160) kt) ?_
                  show own_Go p.tables e below (TJ10.setTop (mkF m 162 #[.val (.long q0), .second, .val (.int p1), .val (.int p2), .val (.int p3), .val (.int z), .val (.int u), .val (.ref b1), .unset, .unset, .unset] [(.int (8 : Int32)), (.int z)])) _
                  by_cases hc162_36 : (8 : Int32) < z
                  · refine own_by (fun _ kt => XS.icmpNo XJ10.here hx rfl (hb hby at_162) rfl (tlt hc162_36).2.2.2 kt) ?_
                    show own_Go p.tables e below (TJ10.setTop (mkF m 165 #[.val (.long q0), .second, .val (.int p1), .val (.int p2), .val (.int p3), .val (.int z), .val (.int u), .val (.ref b1), .unset, .unset, .unset] [])) _
                    refine own_by (fun _ kt => XS.aload XJ10.here hx rfl (hb hby at_165) rfl rfl kt) ?_
                    show own_Go p.tables e below (TJ10.setTop (mkF m 167 #[.val (.long q0), .second, .val (.int p1), .val (.int p2), .val (.int p3), .val (.int z), .val (.int u), .val (.ref b1), .unset, .unset, .unset] [(.ref b1)])) _
                    refine own_by (fun _ kt => XS.bipush XJ10.here hx rfl (hb hby at_167) kt) ?_
                    show own_Go p.tables e below (TJ10.setTop (mkF m 169 #[.val (.long q0), .second, .val (.int p1), .val (.int p2), .val (.int p3), .val (.int z), .val (.int u), .val (.ref b1), .unset, .unset, .unset] [(.int (8 : Int32)), (.ref b1)])) _
                    refine own_by (fun _ kt => XS.lloadN XJ10.here hx rfl (hb hby at_169) rfl kt) ?_
                    show own_Go p.tables e below (TJ10.setTop (mkF m 170 #[.val (.long q0), .second, .val (.int p1), .val (.int p2), .val (.int p3), .val (.int z), .val (.int u), .val (.ref b1), .unset, .unset, .unset] [(.long q0), (.int (8 : Int32)), (.ref b1)])) _
                    refine own_by (fun _ kt => XS.iloadN XJ10.here hx rfl (hb hby at_170) rfl kt) ?_
                    show own_Go p.tables e below (TJ10.setTop (mkF m 171 #[.val (.long q0), .second, .val (.int p1), .val (.int p2), .val (.int p3), .val (.int z), .val (.int u), .val (.ref b1), .unset, .unset, .unset] [(.int p1), (.long q0), (.int (8 : Int32)), (.ref b1)])) _
                    refine own_by (fun _ kt => XS.bipush XJ10.here hx rfl (hb hby at_171) kt) ?_
                    show own_Go p.tables e below (TJ10.setTop (mkF m 173 #[.val (.long q0), .second, .val (.int p1), .val (.int p2), .val (.int p3), .val (.int z), .val (.int u), .val (.ref b1), .unset, .unset, .unset] [(.int (8 : Int32)), (.int p1), (.long q0), (.int (8 : Int32)), (.ref b1)])) _
                    obtain ⟨_, _, ⟨T37, L37, k37, n37⟩, -, X37, ⟨Lc37, hQ37, l37, y37, z37⟩, st37⟩ := Jvm.LawKit.callS XJ10 hx (y := (⟨"com/example/relampago/relampago/bolt11/Bech32BytesPinLaw", "raw", "(JII)B"⟩ : MethodName)) hown (mvT hZ (hw _ (List.mem_of_getElem? (i := 2) rfl))) (mvT hZ (hw _ (List.mem_of_getElem? (i := 3) rfl))) (mvT hZ (hw _ (List.mem_of_getElem? (i := 4) rfl))) (mvT hZ (hw _ (List.mem_of_getElem? (i := 5) rfl))) (by decide) (backOf (W := 2) (rm_own_raw l Z a0 hw [] q0 p1 (8 : Int32) hJ10 n0 ZJ10) hZ (hw _ (List.mem_of_getElem? (i := 5) rfl)) (hw _ (List.mem_of_getElem? (i := 4) rfl)) (by decide) (by decide)) (g := (mkF m 173 #[.val (.long q0), .second, .val (.int p1), .val (.int p2), .val (.int p3), .val (.int z), .val (.int u), .val (.ref b1), .unset, .unset, .unset] [(.int (8 : Int32)), (.int p1), (.long q0), (.int (8 : Int32)), (.ref b1)])) rfl (by rw [hml]; rfl) (argsL := [(.long q0), (.int p1), (.int (8 : Int32))]) (rest := [(.int (8 : Int32)), (.ref b1)]) (lenOf pd_0 rfl) rfl (by show 2 * 0 + _ ≤ _; exact Nat.le_of_eq rfl) (hb hby at_173) (fun _ _ => ⟨rfl, eJ10, (by decide : 1 + 0 ≤ _), (by decide : 10 + 0 ≤ _)⟩)
                    dsimp only [Pt.U, Pt.locs, Pt.cells, Pt.slots] at X37 l37 y37 z37 st37 hQ37
                    obtain rfl : k37 = 1 := y37
                    obtain rfl : n37 = 10 := z37
                    obtain ⟨rfl, Nq37, eh37⟩ := hQ37
                    have N37 : Fr n0 L37 := by rw [l37]; exact Fr.app NJ10 Nq37
                    refine own_by (st37) ?_
                    show own_Go p.tables e below (T37.setTop (mkF m 176 #[.val (.long q0), .second, .val (.int p1), .val (.int p2), .val (.int p3), .val (.int z), .val (.int u), .val (.ref b1), .unset, .unset, .unset] [(.int (own_raw q0 p1 (8 : Int32))), (.int (8 : Int32)), (.ref b1)])) _
                    obtain ⟨T38, h38, X38, e38, W38, U38, st38⟩ := own_ustore X37 hx hZ eh37 fJ10_0 (j := (8 : Int32)) (i := (8 : Int32).toInt.toNat) (own_nat (by decide)) (own_ltn hz (by decide) hc162_36) (g := (mkF m 176 #[.val (.long q0), .second, .val (.int p1), .val (.int p2), .val (.int p3), .val (.int z), .val (.int u), .val (.ref b1), .unset, .unset, .unset] [(.int (own_raw q0 p1 (8 : Int32))), (.int (8 : Int32)), (.ref b1)])) rfl rfl (hb hby at_176)
                    have Zs38 : n0 ≤ h38.size := by rw [W38.size]; exact ZJ10
                    have N38 := Fr.snoc X38 N37 gn_b1
                    refine own_by st38 ?_
                    show own_Go p.tables e below (T38.setTop (mkF m 177 #[.val (.long q0), .second, .val (.int p1), .val (.int p2), .val (.int p3), .val (.int z), .val (.int u), .val (.ref b1), .unset, .unset, .unset] [])) _
                    exact J11 h38 _ _ X38 e38 N38 Zs38 U38
                  · refine own_by (fun _ kt => XS.icmpYes XJ10.here hx rfl (pc0 := 162) (pc' := 177) rfl (hb hby at_162) rfl (flt hc162_36).2.2.2 (by decide) (by decide) kt) ?_
                    show own_Go p.tables e below (TJ10.setTop (mkF m 177 #[.val (.long q0), .second, .val (.int p1), .val (.int p2), .val (.int p3), .val (.int z), .val (.int u), .val (.ref b1), .unset, .unset, .unset] [])) _
                    exact J11 hJ10 _ _ XJ10 eJ10 NJ10 ZJ10 (fJ10_0.congr (fun j hj => (if_neg (own_gen hz (by decide) hc162_36 hj)).symm))
                refine own_by (fun _ kt => XS.iload XJ9.here hx rfl (hb hby at_139) rfl kt) ?_
                show own_Go p.tables e below (TJ9.setTop (mkF m 141 #[.val (.long q0), .second, .val (.int p1), .val (.int p2), .val (.int p3), .val (.int z), .val (.int u), .val (.ref b1), .unset, .unset, .unset] [(.int z)])) _
                refine own_by (fun _ kt => XS.bipush XJ9.here hx rfl (hb hby at_141) kt) ?_
                show own_Go p.tables e below (TJ9.setTop (mkF m 143 #[.val (.long q0), .second, .val (.int p1), .val (.int p2), .val (.int p3), .val (.int z), .val (.int u), .val (.ref b1), .unset, .unset, .unset] [(.int (7 : Int32)), (.int z)])) _
                by_cases hc143_39 : (7 : Int32) < z
                · refine own_by (fun _ kt => XS.icmpNo XJ9.here hx rfl (hb hby at_143) rfl (tlt hc143_39).2.2.2 kt) ?_
                  show own_Go p.tables e below (TJ9.setTop (mkF m 146 #[.val (.long q0), .second, .val (.int p1), .val (.int p2), .val (.int p3), .val (.int z), .val (.int u), .val (.ref b1), .unset, .unset, .unset] [])) _
                  refine own_by (fun _ kt => XS.aload XJ9.here hx rfl (hb hby at_146) rfl rfl kt) ?_
                  show own_Go p.tables e below (TJ9.setTop (mkF m 148 #[.val (.long q0), .second, .val (.int p1), .val (.int p2), .val (.int p3), .val (.int z), .val (.int u), .val (.ref b1), .unset, .unset, .unset] [(.ref b1)])) _
                  refine own_by (fun _ kt => XS.bipush XJ9.here hx rfl (hb hby at_148) kt) ?_
                  show own_Go p.tables e below (TJ9.setTop (mkF m 150 #[.val (.long q0), .second, .val (.int p1), .val (.int p2), .val (.int p3), .val (.int z), .val (.int u), .val (.ref b1), .unset, .unset, .unset] [(.int (7 : Int32)), (.ref b1)])) _
                  refine own_by (fun _ kt => XS.lloadN XJ9.here hx rfl (hb hby at_150) rfl kt) ?_
                  show own_Go p.tables e below (TJ9.setTop (mkF m 151 #[.val (.long q0), .second, .val (.int p1), .val (.int p2), .val (.int p3), .val (.int z), .val (.int u), .val (.ref b1), .unset, .unset, .unset] [(.long q0), (.int (7 : Int32)), (.ref b1)])) _
                  refine own_by (fun _ kt => XS.iloadN XJ9.here hx rfl (hb hby at_151) rfl kt) ?_
                  show own_Go p.tables e below (TJ9.setTop (mkF m 152 #[.val (.long q0), .second, .val (.int p1), .val (.int p2), .val (.int p3), .val (.int z), .val (.int u), .val (.ref b1), .unset, .unset, .unset] [(.int p1), (.long q0), (.int (7 : Int32)), (.ref b1)])) _
                  refine own_by (fun _ kt => XS.bipush XJ9.here hx rfl (hb hby at_152) kt) ?_
                  show own_Go p.tables e below (TJ9.setTop (mkF m 154 #[.val (.long q0), .second, .val (.int p1), .val (.int p2), .val (.int p3), .val (.int z), .val (.int u), .val (.ref b1), .unset, .unset, .unset] [(.int (7 : Int32)), (.int p1), (.long q0), (.int (7 : Int32)), (.ref b1)])) _
                  obtain ⟨_, _, ⟨T40, L40, k40, n40⟩, -, X40, ⟨Lc40, hQ40, l40, y40, z40⟩, st40⟩ := Jvm.LawKit.callS XJ9 hx (y := (⟨"com/example/relampago/relampago/bolt11/Bech32BytesPinLaw", "raw", "(JII)B"⟩ : MethodName)) hown (mvT hZ (hw _ (List.mem_of_getElem? (i := 2) rfl))) (mvT hZ (hw _ (List.mem_of_getElem? (i := 3) rfl))) (mvT hZ (hw _ (List.mem_of_getElem? (i := 4) rfl))) (mvT hZ (hw _ (List.mem_of_getElem? (i := 5) rfl))) (by decide) (backOf (W := 2) (rm_own_raw l Z a0 hw [] q0 p1 (7 : Int32) hJ9 n0 ZJ9) hZ (hw _ (List.mem_of_getElem? (i := 5) rfl)) (hw _ (List.mem_of_getElem? (i := 4) rfl)) (by decide) (by decide)) (g := (mkF m 154 #[.val (.long q0), .second, .val (.int p1), .val (.int p2), .val (.int p3), .val (.int z), .val (.int u), .val (.ref b1), .unset, .unset, .unset] [(.int (7 : Int32)), (.int p1), (.long q0), (.int (7 : Int32)), (.ref b1)])) rfl (by rw [hml]; rfl) (argsL := [(.long q0), (.int p1), (.int (7 : Int32))]) (rest := [(.int (7 : Int32)), (.ref b1)]) (lenOf pd_0 rfl) rfl (by show 2 * 0 + _ ≤ _; exact Nat.le_of_eq rfl) (hb hby at_154) (fun _ _ => ⟨rfl, eJ9, (by decide : 1 + 0 ≤ _), (by decide : 10 + 0 ≤ _)⟩)
                  dsimp only [Pt.U, Pt.locs, Pt.cells, Pt.slots] at X40 l40 y40 z40 st40 hQ40
                  obtain rfl : k40 = 1 := y40
                  obtain rfl : n40 = 10 := z40
                  obtain ⟨rfl, Nq40, eh40⟩ := hQ40
                  have N40 : Fr n0 L40 := by rw [l40]; exact Fr.app NJ9 Nq40
                  refine own_by (st40) ?_
                  show own_Go p.tables e below (T40.setTop (mkF m 157 #[.val (.long q0), .second, .val (.int p1), .val (.int p2), .val (.int p3), .val (.int z), .val (.int u), .val (.ref b1), .unset, .unset, .unset] [(.int (own_raw q0 p1 (7 : Int32))), (.int (7 : Int32)), (.ref b1)])) _
                  obtain ⟨T41, h41, X41, e41, W41, U41, st41⟩ := own_ustore X40 hx hZ eh40 fJ9_0 (j := (7 : Int32)) (i := (7 : Int32).toInt.toNat) (own_nat (by decide)) (own_ltn hz (by decide) hc143_39) (g := (mkF m 157 #[.val (.long q0), .second, .val (.int p1), .val (.int p2), .val (.int p3), .val (.int z), .val (.int u), .val (.ref b1), .unset, .unset, .unset] [(.int (own_raw q0 p1 (7 : Int32))), (.int (7 : Int32)), (.ref b1)])) rfl rfl (hb hby at_157)
                  have Zs41 : n0 ≤ h41.size := by rw [W41.size]; exact ZJ9
                  have N41 := Fr.snoc X41 N40 gn_b1
                  refine own_by st41 ?_
                  show own_Go p.tables e below (T41.setTop (mkF m 158 #[.val (.long q0), .second, .val (.int p1), .val (.int p2), .val (.int p3), .val (.int z), .val (.int u), .val (.ref b1), .unset, .unset, .unset] [])) _
                  exact J10 h41 _ _ X41 e41 N41 Zs41 U41
                · refine own_by (fun _ kt => XS.icmpYes XJ9.here hx rfl (pc0 := 143) (pc' := 158) rfl (hb hby at_143) rfl (flt hc143_39).2.2.2 (by decide) (by decide) kt) ?_
                  show own_Go p.tables e below (TJ9.setTop (mkF m 158 #[.val (.long q0), .second, .val (.int p1), .val (.int p2), .val (.int p3), .val (.int z), .val (.int u), .val (.ref b1), .unset, .unset, .unset] [])) _
                  exact J10 hJ9 _ _ XJ9 eJ9 NJ9 ZJ9 (fJ9_0.congr (fun j hj => (if_neg (own_gen hz (by decide) hc143_39 hj)).symm))
              refine own_by (fun _ kt => XS.iload XJ8.here hx rfl (hb hby at_120) rfl kt) ?_
              show own_Go p.tables e below (TJ8.setTop (mkF m 122 #[.val (.long q0), .second, .val (.int p1), .val (.int p2), .val (.int p3), .val (.int z), .val (.int u), .val (.ref b1), .unset, .unset, .unset] [(.int z)])) _
              refine own_by (fun _ kt => XS.bipush XJ8.here hx rfl (hb hby at_122) kt) ?_
              show own_Go p.tables e below (TJ8.setTop (mkF m 124 #[.val (.long q0), .second, .val (.int p1), .val (.int p2), .val (.int p3), .val (.int z), .val (.int u), .val (.ref b1), .unset, .unset, .unset] [(.int (6 : Int32)), (.int z)])) _
              by_cases hc124_42 : (6 : Int32) < z
              · refine own_by (fun _ kt => XS.icmpNo XJ8.here hx rfl (hb hby at_124) rfl (tlt hc124_42).2.2.2 kt) ?_
                show own_Go p.tables e below (TJ8.setTop (mkF m 127 #[.val (.long q0), .second, .val (.int p1), .val (.int p2), .val (.int p3), .val (.int z), .val (.int u), .val (.ref b1), .unset, .unset, .unset] [])) _
                refine own_by (fun _ kt => XS.aload XJ8.here hx rfl (hb hby at_127) rfl rfl kt) ?_
                show own_Go p.tables e below (TJ8.setTop (mkF m 129 #[.val (.long q0), .second, .val (.int p1), .val (.int p2), .val (.int p3), .val (.int z), .val (.int u), .val (.ref b1), .unset, .unset, .unset] [(.ref b1)])) _
                refine own_by (fun _ kt => XS.bipush XJ8.here hx rfl (hb hby at_129) kt) ?_
                show own_Go p.tables e below (TJ8.setTop (mkF m 131 #[.val (.long q0), .second, .val (.int p1), .val (.int p2), .val (.int p3), .val (.int z), .val (.int u), .val (.ref b1), .unset, .unset, .unset] [(.int (6 : Int32)), (.ref b1)])) _
                refine own_by (fun _ kt => XS.lloadN XJ8.here hx rfl (hb hby at_131) rfl kt) ?_
                show own_Go p.tables e below (TJ8.setTop (mkF m 132 #[.val (.long q0), .second, .val (.int p1), .val (.int p2), .val (.int p3), .val (.int z), .val (.int u), .val (.ref b1), .unset, .unset, .unset] [(.long q0), (.int (6 : Int32)), (.ref b1)])) _
                refine own_by (fun _ kt => XS.iloadN XJ8.here hx rfl (hb hby at_132) rfl kt) ?_
                show own_Go p.tables e below (TJ8.setTop (mkF m 133 #[.val (.long q0), .second, .val (.int p1), .val (.int p2), .val (.int p3), .val (.int z), .val (.int u), .val (.ref b1), .unset, .unset, .unset] [(.int p1), (.long q0), (.int (6 : Int32)), (.ref b1)])) _
                refine own_by (fun _ kt => XS.bipush XJ8.here hx rfl (hb hby at_133) kt) ?_
                show own_Go p.tables e below (TJ8.setTop (mkF m 135 #[.val (.long q0), .second, .val (.int p1), .val (.int p2), .val (.int p3), .val (.int z), .val (.int u), .val (.ref b1), .unset, .unset, .unset] [(.int (6 : Int32)), (.int p1), (.long q0), (.int (6 : Int32)), (.ref b1)])) _
                obtain ⟨_, _, ⟨T43, L43, k43, n43⟩, -, X43, ⟨Lc43, hQ43, l43, y43, z43⟩, st43⟩ := Jvm.LawKit.callS XJ8 hx (y := (⟨"com/example/relampago/relampago/bolt11/Bech32BytesPinLaw", "raw", "(JII)B"⟩ : MethodName)) hown (mvT hZ (hw _ (List.mem_of_getElem? (i := 2) rfl))) (mvT hZ (hw _ (List.mem_of_getElem? (i := 3) rfl))) (mvT hZ (hw _ (List.mem_of_getElem? (i := 4) rfl))) (mvT hZ (hw _ (List.mem_of_getElem? (i := 5) rfl))) (by decide) (backOf (W := 2) (rm_own_raw l Z a0 hw [] q0 p1 (6 : Int32) hJ8 n0 ZJ8) hZ (hw _ (List.mem_of_getElem? (i := 5) rfl)) (hw _ (List.mem_of_getElem? (i := 4) rfl)) (by decide) (by decide)) (g := (mkF m 135 #[.val (.long q0), .second, .val (.int p1), .val (.int p2), .val (.int p3), .val (.int z), .val (.int u), .val (.ref b1), .unset, .unset, .unset] [(.int (6 : Int32)), (.int p1), (.long q0), (.int (6 : Int32)), (.ref b1)])) rfl (by rw [hml]; rfl) (argsL := [(.long q0), (.int p1), (.int (6 : Int32))]) (rest := [(.int (6 : Int32)), (.ref b1)]) (lenOf pd_0 rfl) rfl (by show 2 * 0 + _ ≤ _; exact Nat.le_of_eq rfl) (hb hby at_135) (fun _ _ => ⟨rfl, eJ8, (by decide : 1 + 0 ≤ _), (by decide : 10 + 0 ≤ _)⟩)
                dsimp only [Pt.U, Pt.locs, Pt.cells, Pt.slots] at X43 l43 y43 z43 st43 hQ43
                obtain rfl : k43 = 1 := y43
                obtain rfl : n43 = 10 := z43
                obtain ⟨rfl, Nq43, eh43⟩ := hQ43
                have N43 : Fr n0 L43 := by rw [l43]; exact Fr.app NJ8 Nq43
                refine own_by (st43) ?_
                show own_Go p.tables e below (T43.setTop (mkF m 138 #[.val (.long q0), .second, .val (.int p1), .val (.int p2), .val (.int p3), .val (.int z), .val (.int u), .val (.ref b1), .unset, .unset, .unset] [(.int (own_raw q0 p1 (6 : Int32))), (.int (6 : Int32)), (.ref b1)])) _
                obtain ⟨T44, h44, X44, e44, W44, U44, st44⟩ := own_ustore X43 hx hZ eh43 fJ8_0 (j := (6 : Int32)) (i := (6 : Int32).toInt.toNat) (own_nat (by decide)) (own_ltn hz (by decide) hc124_42) (g := (mkF m 138 #[.val (.long q0), .second, .val (.int p1), .val (.int p2), .val (.int p3), .val (.int z), .val (.int u), .val (.ref b1), .unset, .unset, .unset] [(.int (own_raw q0 p1 (6 : Int32))), (.int (6 : Int32)), (.ref b1)])) rfl rfl (hb hby at_138)
                have Zs44 : n0 ≤ h44.size := by rw [W44.size]; exact ZJ8
                have N44 := Fr.snoc X44 N43 gn_b1
                refine own_by st44 ?_
                show own_Go p.tables e below (T44.setTop (mkF m 139 #[.val (.long q0), .second, .val (.int p1), .val (.int p2), .val (.int p3), .val (.int z), .val (.int u), .val (.ref b1), .unset, .unset, .unset] [])) _
                exact J9 h44 _ _ X44 e44 N44 Zs44 U44
              · refine own_by (fun _ kt => XS.icmpYes XJ8.here hx rfl (pc0 := 124) (pc' := 139) rfl (hb hby at_124) rfl (flt hc124_42).2.2.2 (by decide) (by decide) kt) ?_
                show own_Go p.tables e below (TJ8.setTop (mkF m 139 #[.val (.long q0), .second, .val (.int p1), .val (.int p2), .val (.int p3), .val (.int z), .val (.int u), .val (.ref b1), .unset, .unset, .unset] [])) _
                exact J9 hJ8 _ _ XJ8 eJ8 NJ8 ZJ8 (fJ8_0.congr (fun j hj => (if_neg (own_gen hz (by decide) hc124_42 hj)).symm))
            refine own_by (fun _ kt => XS.iload XJ7.here hx rfl (hb hby at_104) rfl kt) ?_
            show own_Go p.tables e below (TJ7.setTop (mkF m 106 #[.val (.long q0), .second, .val (.int p1), .val (.int p2), .val (.int p3), .val (.int z), .val (.int u), .val (.ref b1), .unset, .unset, .unset] [(.int z)])) _
            refine own_by (fun _ kt => XS.iconst XJ7.here hx rfl (hb hby at_106) kt) ?_
            show own_Go p.tables e below (TJ7.setTop (mkF m 107 #[.val (.long q0), .second, .val (.int p1), .val (.int p2), .val (.int p3), .val (.int z), .val (.int u), .val (.ref b1), .unset, .unset, .unset] [(.int (5 : Int32)), (.int z)])) _
            by_cases hc107_45 : (5 : Int32) < z
            · refine own_by (fun _ kt => XS.icmpNo XJ7.here hx rfl (hb hby at_107) rfl (tlt hc107_45).2.2.2 kt) ?_
              show own_Go p.tables e below (TJ7.setTop (mkF m 110 #[.val (.long q0), .second, .val (.int p1), .val (.int p2), .val (.int p3), .val (.int z), .val (.int u), .val (.ref b1), .unset, .unset, .unset] [])) _
              refine own_by (fun _ kt => XS.aload XJ7.here hx rfl (hb hby at_110) rfl rfl kt) ?_
              show own_Go p.tables e below (TJ7.setTop (mkF m 112 #[.val (.long q0), .second, .val (.int p1), .val (.int p2), .val (.int p3), .val (.int z), .val (.int u), .val (.ref b1), .unset, .unset, .unset] [(.ref b1)])) _
              refine own_by (fun _ kt => XS.iconst XJ7.here hx rfl (hb hby at_112) kt) ?_
              show own_Go p.tables e below (TJ7.setTop (mkF m 113 #[.val (.long q0), .second, .val (.int p1), .val (.int p2), .val (.int p3), .val (.int z), .val (.int u), .val (.ref b1), .unset, .unset, .unset] [(.int (5 : Int32)), (.ref b1)])) _
              refine own_by (fun _ kt => XS.lloadN XJ7.here hx rfl (hb hby at_113) rfl kt) ?_
              show own_Go p.tables e below (TJ7.setTop (mkF m 114 #[.val (.long q0), .second, .val (.int p1), .val (.int p2), .val (.int p3), .val (.int z), .val (.int u), .val (.ref b1), .unset, .unset, .unset] [(.long q0), (.int (5 : Int32)), (.ref b1)])) _
              refine own_by (fun _ kt => XS.iloadN XJ7.here hx rfl (hb hby at_114) rfl kt) ?_
              show own_Go p.tables e below (TJ7.setTop (mkF m 115 #[.val (.long q0), .second, .val (.int p1), .val (.int p2), .val (.int p3), .val (.int z), .val (.int u), .val (.ref b1), .unset, .unset, .unset] [(.int p1), (.long q0), (.int (5 : Int32)), (.ref b1)])) _
              refine own_by (fun _ kt => XS.iconst XJ7.here hx rfl (hb hby at_115) kt) ?_
              show own_Go p.tables e below (TJ7.setTop (mkF m 116 #[.val (.long q0), .second, .val (.int p1), .val (.int p2), .val (.int p3), .val (.int z), .val (.int u), .val (.ref b1), .unset, .unset, .unset] [(.int (5 : Int32)), (.int p1), (.long q0), (.int (5 : Int32)), (.ref b1)])) _
              obtain ⟨_, _, ⟨T46, L46, k46, n46⟩, -, X46, ⟨Lc46, hQ46, l46, y46, z46⟩, st46⟩ := Jvm.LawKit.callS XJ7 hx (y := (⟨"com/example/relampago/relampago/bolt11/Bech32BytesPinLaw", "raw", "(JII)B"⟩ : MethodName)) hown (mvT hZ (hw _ (List.mem_of_getElem? (i := 2) rfl))) (mvT hZ (hw _ (List.mem_of_getElem? (i := 3) rfl))) (mvT hZ (hw _ (List.mem_of_getElem? (i := 4) rfl))) (mvT hZ (hw _ (List.mem_of_getElem? (i := 5) rfl))) (by decide) (backOf (W := 2) (rm_own_raw l Z a0 hw [] q0 p1 (5 : Int32) hJ7 n0 ZJ7) hZ (hw _ (List.mem_of_getElem? (i := 5) rfl)) (hw _ (List.mem_of_getElem? (i := 4) rfl)) (by decide) (by decide)) (g := (mkF m 116 #[.val (.long q0), .second, .val (.int p1), .val (.int p2), .val (.int p3), .val (.int z), .val (.int u), .val (.ref b1), .unset, .unset, .unset] [(.int (5 : Int32)), (.int p1), (.long q0), (.int (5 : Int32)), (.ref b1)])) rfl (by rw [hml]; rfl) (argsL := [(.long q0), (.int p1), (.int (5 : Int32))]) (rest := [(.int (5 : Int32)), (.ref b1)]) (lenOf pd_0 rfl) rfl (by show 2 * 0 + _ ≤ _; exact Nat.le_of_eq rfl) (hb hby at_116) (fun _ _ => ⟨rfl, eJ7, (by decide : 1 + 0 ≤ _), (by decide : 10 + 0 ≤ _)⟩)
              dsimp only [Pt.U, Pt.locs, Pt.cells, Pt.slots] at X46 l46 y46 z46 st46 hQ46
              obtain rfl : k46 = 1 := y46
              obtain rfl : n46 = 10 := z46
              obtain ⟨rfl, Nq46, eh46⟩ := hQ46
              have N46 : Fr n0 L46 := by rw [l46]; exact Fr.app NJ7 Nq46
              refine own_by (st46) ?_
              show own_Go p.tables e below (T46.setTop (mkF m 119 #[.val (.long q0), .second, .val (.int p1), .val (.int p2), .val (.int p3), .val (.int z), .val (.int u), .val (.ref b1), .unset, .unset, .unset] [(.int (own_raw q0 p1 (5 : Int32))), (.int (5 : Int32)), (.ref b1)])) _
              obtain ⟨T47, h47, X47, e47, W47, U47, st47⟩ := own_ustore X46 hx hZ eh46 fJ7_0 (j := (5 : Int32)) (i := (5 : Int32).toInt.toNat) (own_nat (by decide)) (own_ltn hz (by decide) hc107_45) (g := (mkF m 119 #[.val (.long q0), .second, .val (.int p1), .val (.int p2), .val (.int p3), .val (.int z), .val (.int u), .val (.ref b1), .unset, .unset, .unset] [(.int (own_raw q0 p1 (5 : Int32))), (.int (5 : Int32)), (.ref b1)])) rfl rfl (hb hby at_119)
              have Zs47 : n0 ≤ h47.size := by rw [W47.size]; exact ZJ7
              have N47 := Fr.snoc X47 N46 gn_b1
              refine own_by st47 ?_
              show own_Go p.tables e below (T47.setTop (mkF m 120 #[.val (.long q0), .second, .val (.int p1), .val (.int p2), .val (.int p3), .val (.int z), .val (.int u), .val (.ref b1), .unset, .unset, .unset] [])) _
              exact J8 h47 _ _ X47 e47 N47 Zs47 U47
            · refine own_by (fun _ kt => XS.icmpYes XJ7.here hx rfl (pc0 := 107) (pc' := 120) rfl (hb hby at_107) rfl (flt hc107_45).2.2.2 (by decide) (by decide) kt) ?_
              show own_Go p.tables e below (TJ7.setTop (mkF m 120 #[.val (.long q0), .second, .val (.int p1), .val (.int p2), .val (.int p3), .val (.int z), .val (.int u), .val (.ref b1), .unset, .unset, .unset] [])) _
              exact J8 hJ7 _ _ XJ7 eJ7 NJ7 ZJ7 (fJ7_0.congr (fun j hj => (if_neg (own_gen hz (by decide) hc107_45 hj)).symm))
          refine own_by (fun _ kt => XS.iload XJ6.here hx rfl (hb hby at_88) rfl kt) ?_
          show own_Go p.tables e below (TJ6.setTop (mkF m 90 #[.val (.long q0), .second, .val (.int p1), .val (.int p2), .val (.int p3), .val (.int z), .val (.int u), .val (.ref b1), .unset, .unset, .unset] [(.int z)])) _
          refine own_by (fun _ kt => XS.iconst XJ6.here hx rfl (hb hby at_90) kt) ?_
          show own_Go p.tables e below (TJ6.setTop (mkF m 91 #[.val (.long q0), .second, .val (.int p1), .val (.int p2), .val (.int p3), .val (.int z), .val (.int u), .val (.ref b1), .unset, .unset, .unset] [(.int (4 : Int32)), (.int z)])) _
          by_cases hc91_48 : (4 : Int32) < z
          · refine own_by (fun _ kt => XS.icmpNo XJ6.here hx rfl (hb hby at_91) rfl (tlt hc91_48).2.2.2 kt) ?_
            show own_Go p.tables e below (TJ6.setTop (mkF m 94 #[.val (.long q0), .second, .val (.int p1), .val (.int p2), .val (.int p3), .val (.int z), .val (.int u), .val (.ref b1), .unset, .unset, .unset] [])) _
            refine own_by (fun _ kt => XS.aload XJ6.here hx rfl (hb hby at_94) rfl rfl kt) ?_
            show own_Go p.tables e below (TJ6.setTop (mkF m 96 #[.val (.long q0), .second, .val (.int p1), .val (.int p2), .val (.int p3), .val (.int z), .val (.int u), .val (.ref b1), .unset, .unset, .unset] [(.ref b1)])) _
            refine own_by (fun _ kt => XS.iconst XJ6.here hx rfl (hb hby at_96) kt) ?_
            show own_Go p.tables e below (TJ6.setTop (mkF m 97 #[.val (.long q0), .second, .val (.int p1), .val (.int p2), .val (.int p3), .val (.int z), .val (.int u), .val (.ref b1), .unset, .unset, .unset] [(.int (4 : Int32)), (.ref b1)])) _
            refine own_by (fun _ kt => XS.lloadN XJ6.here hx rfl (hb hby at_97) rfl kt) ?_
            show own_Go p.tables e below (TJ6.setTop (mkF m 98 #[.val (.long q0), .second, .val (.int p1), .val (.int p2), .val (.int p3), .val (.int z), .val (.int u), .val (.ref b1), .unset, .unset, .unset] [(.long q0), (.int (4 : Int32)), (.ref b1)])) _
            refine own_by (fun _ kt => XS.iloadN XJ6.here hx rfl (hb hby at_98) rfl kt) ?_
            show own_Go p.tables e below (TJ6.setTop (mkF m 99 #[.val (.long q0), .second, .val (.int p1), .val (.int p2), .val (.int p3), .val (.int z), .val (.int u), .val (.ref b1), .unset, .unset, .unset] [(.int p1), (.long q0), (.int (4 : Int32)), (.ref b1)])) _
            refine own_by (fun _ kt => XS.iconst XJ6.here hx rfl (hb hby at_99) kt) ?_
            show own_Go p.tables e below (TJ6.setTop (mkF m 100 #[.val (.long q0), .second, .val (.int p1), .val (.int p2), .val (.int p3), .val (.int z), .val (.int u), .val (.ref b1), .unset, .unset, .unset] [(.int (4 : Int32)), (.int p1), (.long q0), (.int (4 : Int32)), (.ref b1)])) _
            obtain ⟨_, _, ⟨T49, L49, k49, n49⟩, -, X49, ⟨Lc49, hQ49, l49, y49, z49⟩, st49⟩ := Jvm.LawKit.callS XJ6 hx (y := (⟨"com/example/relampago/relampago/bolt11/Bech32BytesPinLaw", "raw", "(JII)B"⟩ : MethodName)) hown (mvT hZ (hw _ (List.mem_of_getElem? (i := 2) rfl))) (mvT hZ (hw _ (List.mem_of_getElem? (i := 3) rfl))) (mvT hZ (hw _ (List.mem_of_getElem? (i := 4) rfl))) (mvT hZ (hw _ (List.mem_of_getElem? (i := 5) rfl))) (by decide) (backOf (W := 2) (rm_own_raw l Z a0 hw [] q0 p1 (4 : Int32) hJ6 n0 ZJ6) hZ (hw _ (List.mem_of_getElem? (i := 5) rfl)) (hw _ (List.mem_of_getElem? (i := 4) rfl)) (by decide) (by decide)) (g := (mkF m 100 #[.val (.long q0), .second, .val (.int p1), .val (.int p2), .val (.int p3), .val (.int z), .val (.int u), .val (.ref b1), .unset, .unset, .unset] [(.int (4 : Int32)), (.int p1), (.long q0), (.int (4 : Int32)), (.ref b1)])) rfl (by rw [hml]; rfl) (argsL := [(.long q0), (.int p1), (.int (4 : Int32))]) (rest := [(.int (4 : Int32)), (.ref b1)]) (lenOf pd_0 rfl) rfl (by show 2 * 0 + _ ≤ _; exact Nat.le_of_eq rfl) (hb hby at_100) (fun _ _ => ⟨rfl, eJ6, (by decide : 1 + 0 ≤ _), (by decide : 10 + 0 ≤ _)⟩)
            dsimp only [Pt.U, Pt.locs, Pt.cells, Pt.slots] at X49 l49 y49 z49 st49 hQ49
            obtain rfl : k49 = 1 := y49
            obtain rfl : n49 = 10 := z49
            obtain ⟨rfl, Nq49, eh49⟩ := hQ49
            have N49 : Fr n0 L49 := by rw [l49]; exact Fr.app NJ6 Nq49
            refine own_by (st49) ?_
            show own_Go p.tables e below (T49.setTop (mkF m 103 #[.val (.long q0), .second, .val (.int p1), .val (.int p2), .val (.int p3), .val (.int z), .val (.int u), .val (.ref b1), .unset, .unset, .unset] [(.int (own_raw q0 p1 (4 : Int32))), (.int (4 : Int32)), (.ref b1)])) _
            obtain ⟨T50, h50, X50, e50, W50, U50, st50⟩ := own_ustore X49 hx hZ eh49 fJ6_0 (j := (4 : Int32)) (i := (4 : Int32).toInt.toNat) (own_nat (by decide)) (own_ltn hz (by decide) hc91_48) (g := (mkF m 103 #[.val (.long q0), .second, .val (.int p1), .val (.int p2), .val (.int p3), .val (.int z), .val (.int u), .val (.ref b1), .unset, .unset, .unset] [(.int (own_raw q0 p1 (4 : Int32))), (.int (4 : Int32)), (.ref b1)])) rfl rfl (hb hby at_103)
            have Zs50 : n0 ≤ h50.size := by rw [W50.size]; exact ZJ6
            have N50 := Fr.snoc X50 N49 gn_b1
            refine own_by st50 ?_
            show own_Go p.tables e below (T50.setTop (mkF m 104 #[.val (.long q0), .second, .val (.int p1), .val (.int p2), .val (.int p3), .val (.int z), .val (.int u), .val (.ref b1), .unset, .unset, .unset] [])) _
            exact J7 h50 _ _ X50 e50 N50 Zs50 U50
          · refine own_by (fun _ kt => XS.icmpYes XJ6.here hx rfl (pc0 := 91) (pc' := 104) rfl (hb hby at_91) rfl (flt hc91_48).2.2.2 (by decide) (by decide) kt) ?_
            show own_Go p.tables e below (TJ6.setTop (mkF m 104 #[.val (.long q0), .second, .val (.int p1), .val (.int p2), .val (.int p3), .val (.int z), .val (.int u), .val (.ref b1), .unset, .unset, .unset] [])) _
            exact J7 hJ6 _ _ XJ6 eJ6 NJ6 ZJ6 (fJ6_0.congr (fun j hj => (if_neg (own_gen hz (by decide) hc91_48 hj)).symm))
        refine own_by (fun _ kt => XS.iload XJ5.here hx rfl (hb hby at_72) rfl kt) ?_
        show own_Go p.tables e below (TJ5.setTop (mkF m 74 #[.val (.long q0), .second, .val (.int p1), .val (.int p2), .val (.int p3), .val (.int z), .val (.int u), .val (.ref b1), .unset, .unset, .unset] [(.int z)])) _
        refine own_by (fun _ kt => XS.iconst XJ5.here hx rfl (hb hby at_74) kt) ?_
        show own_Go p.tables e below (TJ5.setTop (mkF m 75 #[.val (.long q0), .second, .val (.int p1), .val (.int p2), .val (.int p3), .val (.int z), .val (.int u), .val (.ref b1), .unset, .unset, .unset] [(.int (3 : Int32)), (.int z)])) _
        by_cases hc75_51 : (3 : Int32) < z
        · refine own_by (fun _ kt => XS.icmpNo XJ5.here hx rfl (hb hby at_75) rfl (tlt hc75_51).2.2.2 kt) ?_
          show own_Go p.tables e below (TJ5.setTop (mkF m 78 #[.val (.long q0), .second, .val (.int p1), .val (.int p2), .val (.int p3), .val (.int z), .val (.int u), .val (.ref b1), .unset, .unset, .unset] [])) _
          refine own_by (fun _ kt => XS.aload XJ5.here hx rfl (hb hby at_78) rfl rfl kt) ?_
          show own_Go p.tables e below (TJ5.setTop (mkF m 80 #[.val (.long q0), .second, .val (.int p1), .val (.int p2), .val (.int p3), .val (.int z), .val (.int u), .val (.ref b1), .unset, .unset, .unset] [(.ref b1)])) _
          refine own_by (fun _ kt => XS.iconst XJ5.here hx rfl (hb hby at_80) kt) ?_
          show own_Go p.tables e below (TJ5.setTop (mkF m 81 #[.val (.long q0), .second, .val (.int p1), .val (.int p2), .val (.int p3), .val (.int z), .val (.int u), .val (.ref b1), .unset, .unset, .unset] [(.int (3 : Int32)), (.ref b1)])) _
          refine own_by (fun _ kt => XS.lloadN XJ5.here hx rfl (hb hby at_81) rfl kt) ?_
          show own_Go p.tables e below (TJ5.setTop (mkF m 82 #[.val (.long q0), .second, .val (.int p1), .val (.int p2), .val (.int p3), .val (.int z), .val (.int u), .val (.ref b1), .unset, .unset, .unset] [(.long q0), (.int (3 : Int32)), (.ref b1)])) _
          refine own_by (fun _ kt => XS.iloadN XJ5.here hx rfl (hb hby at_82) rfl kt) ?_
          show own_Go p.tables e below (TJ5.setTop (mkF m 83 #[.val (.long q0), .second, .val (.int p1), .val (.int p2), .val (.int p3), .val (.int z), .val (.int u), .val (.ref b1), .unset, .unset, .unset] [(.int p1), (.long q0), (.int (3 : Int32)), (.ref b1)])) _
          refine own_by (fun _ kt => XS.iconst XJ5.here hx rfl (hb hby at_83) kt) ?_
          show own_Go p.tables e below (TJ5.setTop (mkF m 84 #[.val (.long q0), .second, .val (.int p1), .val (.int p2), .val (.int p3), .val (.int z), .val (.int u), .val (.ref b1), .unset, .unset, .unset] [(.int (3 : Int32)), (.int p1), (.long q0), (.int (3 : Int32)), (.ref b1)])) _
          obtain ⟨_, _, ⟨T52, L52, k52, n52⟩, -, X52, ⟨Lc52, hQ52, l52, y52, z52⟩, st52⟩ := Jvm.LawKit.callS XJ5 hx (y := (⟨"com/example/relampago/relampago/bolt11/Bech32BytesPinLaw", "raw", "(JII)B"⟩ : MethodName)) hown (mvT hZ (hw _ (List.mem_of_getElem? (i := 2) rfl))) (mvT hZ (hw _ (List.mem_of_getElem? (i := 3) rfl))) (mvT hZ (hw _ (List.mem_of_getElem? (i := 4) rfl))) (mvT hZ (hw _ (List.mem_of_getElem? (i := 5) rfl))) (by decide) (backOf (W := 2) (rm_own_raw l Z a0 hw [] q0 p1 (3 : Int32) hJ5 n0 ZJ5) hZ (hw _ (List.mem_of_getElem? (i := 5) rfl)) (hw _ (List.mem_of_getElem? (i := 4) rfl)) (by decide) (by decide)) (g := (mkF m 84 #[.val (.long q0), .second, .val (.int p1), .val (.int p2), .val (.int p3), .val (.int z), .val (.int u), .val (.ref b1), .unset, .unset, .unset] [(.int (3 : Int32)), (.int p1), (.long q0), (.int (3 : Int32)), (.ref b1)])) rfl (by rw [hml]; rfl) (argsL := [(.long q0), (.int p1), (.int (3 : Int32))]) (rest := [(.int (3 : Int32)), (.ref b1)]) (lenOf pd_0 rfl) rfl (by show 2 * 0 + _ ≤ _; exact Nat.le_of_eq rfl) (hb hby at_84) (fun _ _ => ⟨rfl, eJ5, (by decide : 1 + 0 ≤ _), (by decide : 10 + 0 ≤ _)⟩)
          dsimp only [Pt.U, Pt.locs, Pt.cells, Pt.slots] at X52 l52 y52 z52 st52 hQ52
          obtain rfl : k52 = 1 := y52
          obtain rfl : n52 = 10 := z52
          obtain ⟨rfl, Nq52, eh52⟩ := hQ52
          have N52 : Fr n0 L52 := by rw [l52]; exact Fr.app NJ5 Nq52
          refine own_by (st52) ?_
          show own_Go p.tables e below (T52.setTop (mkF m 87 #[.val (.long q0), .second, .val (.int p1), .val (.int p2), .val (.int p3), .val (.int z), .val (.int u), .val (.ref b1), .unset, .unset, .unset] [(.int (own_raw q0 p1 (3 : Int32))), (.int (3 : Int32)), (.ref b1)])) _
          obtain ⟨T53, h53, X53, e53, W53, U53, st53⟩ := own_ustore X52 hx hZ eh52 fJ5_0 (j := (3 : Int32)) (i := (3 : Int32).toInt.toNat) (own_nat (by decide)) (own_ltn hz (by decide) hc75_51) (g := (mkF m 87 #[.val (.long q0), .second, .val (.int p1), .val (.int p2), .val (.int p3), .val (.int z), .val (.int u), .val (.ref b1), .unset, .unset, .unset] [(.int (own_raw q0 p1 (3 : Int32))), (.int (3 : Int32)), (.ref b1)])) rfl rfl (hb hby at_87)
          have Zs53 : n0 ≤ h53.size := by rw [W53.size]; exact ZJ5
          have N53 := Fr.snoc X53 N52 gn_b1
          refine own_by st53 ?_
          show own_Go p.tables e below (T53.setTop (mkF m 88 #[.val (.long q0), .second, .val (.int p1), .val (.int p2), .val (.int p3), .val (.int z), .val (.int u), .val (.ref b1), .unset, .unset, .unset] [])) _
          exact J6 h53 _ _ X53 e53 N53 Zs53 U53
        · refine own_by (fun _ kt => XS.icmpYes XJ5.here hx rfl (pc0 := 75) (pc' := 88) rfl (hb hby at_75) rfl (flt hc75_51).2.2.2 (by decide) (by decide) kt) ?_
          show own_Go p.tables e below (TJ5.setTop (mkF m 88 #[.val (.long q0), .second, .val (.int p1), .val (.int p2), .val (.int p3), .val (.int z), .val (.int u), .val (.ref b1), .unset, .unset, .unset] [])) _
          exact J6 hJ5 _ _ XJ5 eJ5 NJ5 ZJ5 (fJ5_0.congr (fun j hj => (if_neg (own_gen hz (by decide) hc75_51 hj)).symm))
      refine own_by (fun _ kt => XS.iload XJ4.here hx rfl (hb hby at_56) rfl kt) ?_
      show own_Go p.tables e below (TJ4.setTop (mkF m 58 #[.val (.long q0), .second, .val (.int p1), .val (.int p2), .val (.int p3), .val (.int z), .val (.int u), .val (.ref b1), .unset, .unset, .unset] [(.int z)])) _
      refine own_by (fun _ kt => XS.iconst XJ4.here hx rfl (hb hby at_58) kt) ?_
      show own_Go p.tables e below (TJ4.setTop (mkF m 59 #[.val (.long q0), .second, .val (.int p1), .val (.int p2), .val (.int p3), .val (.int z), .val (.int u), .val (.ref b1), .unset, .unset, .unset] [(.int (2 : Int32)), (.int z)])) _
      by_cases hc59_54 : (2 : Int32) < z
      · refine own_by (fun _ kt => XS.icmpNo XJ4.here hx rfl (hb hby at_59) rfl (tlt hc59_54).2.2.2 kt) ?_
        show own_Go p.tables e below (TJ4.setTop (mkF m 62 #[.val (.long q0), .second, .val (.int p1), .val (.int p2), .val (.int p3), .val (.int z), .val (.int u), .val (.ref b1), .unset, .unset, .unset] [])) _
        refine own_by (fun _ kt => XS.aload XJ4.here hx rfl (hb hby at_62) rfl rfl kt) ?_
        show own_Go p.tables e below (TJ4.setTop (mkF m 64 #[.val (.long q0), .second, .val (.int p1), .val (.int p2), .val (.int p3), .val (.int z), .val (.int u), .val (.ref b1), .unset, .unset, .unset] [(.ref b1)])) _
        refine own_by (fun _ kt => XS.iconst XJ4.here hx rfl (hb hby at_64) kt) ?_
        show own_Go p.tables e below (TJ4.setTop (mkF m 65 #[.val (.long q0), .second, .val (.int p1), .val (.int p2), .val (.int p3), .val (.int z), .val (.int u), .val (.ref b1), .unset, .unset, .unset] [(.int (2 : Int32)), (.ref b1)])) _
        refine own_by (fun _ kt => XS.lloadN XJ4.here hx rfl (hb hby at_65) rfl kt) ?_
        show own_Go p.tables e below (TJ4.setTop (mkF m 66 #[.val (.long q0), .second, .val (.int p1), .val (.int p2), .val (.int p3), .val (.int z), .val (.int u), .val (.ref b1), .unset, .unset, .unset] [(.long q0), (.int (2 : Int32)), (.ref b1)])) _
        refine own_by (fun _ kt => XS.iloadN XJ4.here hx rfl (hb hby at_66) rfl kt) ?_
        show own_Go p.tables e below (TJ4.setTop (mkF m 67 #[.val (.long q0), .second, .val (.int p1), .val (.int p2), .val (.int p3), .val (.int z), .val (.int u), .val (.ref b1), .unset, .unset, .unset] [(.int p1), (.long q0), (.int (2 : Int32)), (.ref b1)])) _
        refine own_by (fun _ kt => XS.iconst XJ4.here hx rfl (hb hby at_67) kt) ?_
        show own_Go p.tables e below (TJ4.setTop (mkF m 68 #[.val (.long q0), .second, .val (.int p1), .val (.int p2), .val (.int p3), .val (.int z), .val (.int u), .val (.ref b1), .unset, .unset, .unset] [(.int (2 : Int32)), (.int p1), (.long q0), (.int (2 : Int32)), (.ref b1)])) _
        obtain ⟨_, _, ⟨T55, L55, k55, n55⟩, -, X55, ⟨Lc55, hQ55, l55, y55, z55⟩, st55⟩ := Jvm.LawKit.callS XJ4 hx (y := (⟨"com/example/relampago/relampago/bolt11/Bech32BytesPinLaw", "raw", "(JII)B"⟩ : MethodName)) hown (mvT hZ (hw _ (List.mem_of_getElem? (i := 2) rfl))) (mvT hZ (hw _ (List.mem_of_getElem? (i := 3) rfl))) (mvT hZ (hw _ (List.mem_of_getElem? (i := 4) rfl))) (mvT hZ (hw _ (List.mem_of_getElem? (i := 5) rfl))) (by decide) (backOf (W := 2) (rm_own_raw l Z a0 hw [] q0 p1 (2 : Int32) hJ4 n0 ZJ4) hZ (hw _ (List.mem_of_getElem? (i := 5) rfl)) (hw _ (List.mem_of_getElem? (i := 4) rfl)) (by decide) (by decide)) (g := (mkF m 68 #[.val (.long q0), .second, .val (.int p1), .val (.int p2), .val (.int p3), .val (.int z), .val (.int u), .val (.ref b1), .unset, .unset, .unset] [(.int (2 : Int32)), (.int p1), (.long q0), (.int (2 : Int32)), (.ref b1)])) rfl (by rw [hml]; rfl) (argsL := [(.long q0), (.int p1), (.int (2 : Int32))]) (rest := [(.int (2 : Int32)), (.ref b1)]) (lenOf pd_0 rfl) rfl (by show 2 * 0 + _ ≤ _; exact Nat.le_of_eq rfl) (hb hby at_68) (fun _ _ => ⟨rfl, eJ4, (by decide : 1 + 0 ≤ _), (by decide : 10 + 0 ≤ _)⟩)
        dsimp only [Pt.U, Pt.locs, Pt.cells, Pt.slots] at X55 l55 y55 z55 st55 hQ55
        obtain rfl : k55 = 1 := y55
        obtain rfl : n55 = 10 := z55
        obtain ⟨rfl, Nq55, eh55⟩ := hQ55
        have N55 : Fr n0 L55 := by rw [l55]; exact Fr.app NJ4 Nq55
        refine own_by (st55) ?_
        show own_Go p.tables e below (T55.setTop (mkF m 71 #[.val (.long q0), .second, .val (.int p1), .val (.int p2), .val (.int p3), .val (.int z), .val (.int u), .val (.ref b1), .unset, .unset, .unset] [(.int (own_raw q0 p1 (2 : Int32))), (.int (2 : Int32)), (.ref b1)])) _
        obtain ⟨T56, h56, X56, e56, W56, U56, st56⟩ := own_ustore X55 hx hZ eh55 fJ4_0 (j := (2 : Int32)) (i := (2 : Int32).toInt.toNat) (own_nat (by decide)) (own_ltn hz (by decide) hc59_54) (g := (mkF m 71 #[.val (.long q0), .second, .val (.int p1), .val (.int p2), .val (.int p3), .val (.int z), .val (.int u), .val (.ref b1), .unset, .unset, .unset] [(.int (own_raw q0 p1 (2 : Int32))), (.int (2 : Int32)), (.ref b1)])) rfl rfl (hb hby at_71)
        have Zs56 : n0 ≤ h56.size := by rw [W56.size]; exact ZJ4
        have N56 := Fr.snoc X56 N55 gn_b1
        refine own_by st56 ?_
        show own_Go p.tables e below (T56.setTop (mkF m 72 #[.val (.long q0), .second, .val (.int p1), .val (.int p2), .val (.int p3), .val (.int z), .val (.int u), .val (.ref b1), .unset, .unset, .unset] [])) _
        exact J5 h56 _ _ X56 e56 N56 Zs56 U56
      · refine own_by (fun _ kt => XS.icmpYes XJ4.here hx rfl (pc0 := 59) (pc' := 72) rfl (hb hby at_59) rfl (flt hc59_54).2.2.2 (by decide) (by decide) kt) ?_
        show own_Go p.tables e below (TJ4.setTop (mkF m 72 #[.val (.long q0), .second, .val (.int p1), .val (.int p2), .val (.int p3), .val (.int z), .val (.int u), .val (.ref b1), .unset, .unset, .unset] [])) _
        exact J5 hJ4 _ _ XJ4 eJ4 NJ4 ZJ4 (fJ4_0.congr (fun j hj => (if_neg (own_gen hz (by decide) hc59_54 hj)).symm))
    refine own_by (fun _ kt => XS.iload XJ3.here hx rfl (hb hby at_40) rfl kt) ?_
    show own_Go p.tables e below (TJ3.setTop (mkF m 42 #[.val (.long q0), .second, .val (.int p1), .val (.int p2), .val (.int p3), .val (.int z), .val (.int u), .val (.ref b1), .unset, .unset, .unset] [(.int z)])) _
    refine own_by (fun _ kt => XS.iconst XJ3.here hx rfl (hb hby at_42) kt) ?_
    show own_Go p.tables e below (TJ3.setTop (mkF m 43 #[.val (.long q0), .second, .val (.int p1), .val (.int p2), .val (.int p3), .val (.int z), .val (.int u), .val (.ref b1), .unset, .unset, .unset] [(.int (1 : Int32)), (.int z)])) _
    by_cases hc43_57 : (1 : Int32) < z
    · refine own_by (fun _ kt => XS.icmpNo XJ3.here hx rfl (hb hby at_43) rfl (tlt hc43_57).2.2.2 kt) ?_
      show own_Go p.tables e below (TJ3.setTop (mkF m 46 #[.val (.long q0), .second, .val (.int p1), .val (.int p2), .val (.int p3), .val (.int z), .val (.int u), .val (.ref b1), .unset, .unset, .unset] [])) _
      refine own_by (fun _ kt => XS.aload XJ3.here hx rfl (hb hby at_46) rfl rfl kt) ?_
      show own_Go p.tables e below (TJ3.setTop (mkF m 48 #[.val (.long q0), .second, .val (.int p1), .val (.int p2), .val (.int p3), .val (.int z), .val (.int u), .val (.ref b1), .unset, .unset, .unset] [(.ref b1)])) _
      refine own_by (fun _ kt => XS.iconst XJ3.here hx rfl (hb hby at_48) kt) ?_
      show own_Go p.tables e below (TJ3.setTop (mkF m 49 #[.val (.long q0), .second, .val (.int p1), .val (.int p2), .val (.int p3), .val (.int z), .val (.int u), .val (.ref b1), .unset, .unset, .unset] [(.int (1 : Int32)), (.ref b1)])) _
      refine own_by (fun _ kt => XS.lloadN XJ3.here hx rfl (hb hby at_49) rfl kt) ?_
      show own_Go p.tables e below (TJ3.setTop (mkF m 50 #[.val (.long q0), .second, .val (.int p1), .val (.int p2), .val (.int p3), .val (.int z), .val (.int u), .val (.ref b1), .unset, .unset, .unset] [(.long q0), (.int (1 : Int32)), (.ref b1)])) _
      refine own_by (fun _ kt => XS.iloadN XJ3.here hx rfl (hb hby at_50) rfl kt) ?_
      show own_Go p.tables e below (TJ3.setTop (mkF m 51 #[.val (.long q0), .second, .val (.int p1), .val (.int p2), .val (.int p3), .val (.int z), .val (.int u), .val (.ref b1), .unset, .unset, .unset] [(.int p1), (.long q0), (.int (1 : Int32)), (.ref b1)])) _
      refine own_by (fun _ kt => XS.iconst XJ3.here hx rfl (hb hby at_51) kt) ?_
      show own_Go p.tables e below (TJ3.setTop (mkF m 52 #[.val (.long q0), .second, .val (.int p1), .val (.int p2), .val (.int p3), .val (.int z), .val (.int u), .val (.ref b1), .unset, .unset, .unset] [(.int (1 : Int32)), (.int p1), (.long q0), (.int (1 : Int32)), (.ref b1)])) _
      obtain ⟨_, _, ⟨T58, L58, k58, n58⟩, -, X58, ⟨Lc58, hQ58, l58, y58, z58⟩, st58⟩ := Jvm.LawKit.callS XJ3 hx (y := (⟨"com/example/relampago/relampago/bolt11/Bech32BytesPinLaw", "raw", "(JII)B"⟩ : MethodName)) hown (mvT hZ (hw _ (List.mem_of_getElem? (i := 2) rfl))) (mvT hZ (hw _ (List.mem_of_getElem? (i := 3) rfl))) (mvT hZ (hw _ (List.mem_of_getElem? (i := 4) rfl))) (mvT hZ (hw _ (List.mem_of_getElem? (i := 5) rfl))) (by decide) (backOf (W := 2) (rm_own_raw l Z a0 hw [] q0 p1 (1 : Int32) hJ3 n0 ZJ3) hZ (hw _ (List.mem_of_getElem? (i := 5) rfl)) (hw _ (List.mem_of_getElem? (i := 4) rfl)) (by decide) (by decide)) (g := (mkF m 52 #[.val (.long q0), .second, .val (.int p1), .val (.int p2), .val (.int p3), .val (.int z), .val (.int u), .val (.ref b1), .unset, .unset, .unset] [(.int (1 : Int32)), (.int p1), (.long q0), (.int (1 : Int32)), (.ref b1)])) rfl (by rw [hml]; rfl) (argsL := [(.long q0), (.int p1), (.int (1 : Int32))]) (rest := [(.int (1 : Int32)), (.ref b1)]) (lenOf pd_0 rfl) rfl (by show 2 * 0 + _ ≤ _; exact Nat.le_of_eq rfl) (hb hby at_52) (fun _ _ => ⟨rfl, eJ3, (by decide : 1 + 0 ≤ _), (by decide : 10 + 0 ≤ _)⟩)
      dsimp only [Pt.U, Pt.locs, Pt.cells, Pt.slots] at X58 l58 y58 z58 st58 hQ58
      obtain rfl : k58 = 1 := y58
      obtain rfl : n58 = 10 := z58
      obtain ⟨rfl, Nq58, eh58⟩ := hQ58
      have N58 : Fr n0 L58 := by rw [l58]; exact Fr.app NJ3 Nq58
      refine own_by (st58) ?_
      show own_Go p.tables e below (T58.setTop (mkF m 55 #[.val (.long q0), .second, .val (.int p1), .val (.int p2), .val (.int p3), .val (.int z), .val (.int u), .val (.ref b1), .unset, .unset, .unset] [(.int (own_raw q0 p1 (1 : Int32))), (.int (1 : Int32)), (.ref b1)])) _
      obtain ⟨T59, h59, X59, e59, W59, U59, st59⟩ := own_ustore X58 hx hZ eh58 fJ3_0 (j := (1 : Int32)) (i := (1 : Int32).toInt.toNat) (own_nat (by decide)) (own_ltn hz (by decide) hc43_57) (g := (mkF m 55 #[.val (.long q0), .second, .val (.int p1), .val (.int p2), .val (.int p3), .val (.int z), .val (.int u), .val (.ref b1), .unset, .unset, .unset] [(.int (own_raw q0 p1 (1 : Int32))), (.int (1 : Int32)), (.ref b1)])) rfl rfl (hb hby at_55)
      have Zs59 : n0 ≤ h59.size := by rw [W59.size]; exact ZJ3
      have N59 := Fr.snoc X59 N58 gn_b1
      refine own_by st59 ?_
      show own_Go p.tables e below (T59.setTop (mkF m 56 #[.val (.long q0), .second, .val (.int p1), .val (.int p2), .val (.int p3), .val (.int z), .val (.int u), .val (.ref b1), .unset, .unset, .unset] [])) _
      exact J4 h59 _ _ X59 e59 N59 Zs59 U59
    · refine own_by (fun _ kt => XS.icmpYes XJ3.here hx rfl (pc0 := 43) (pc' := 56) rfl (hb hby at_43) rfl (flt hc43_57).2.2.2 (by decide) (by decide) kt) ?_
      show own_Go p.tables e below (TJ3.setTop (mkF m 56 #[.val (.long q0), .second, .val (.int p1), .val (.int p2), .val (.int p3), .val (.int z), .val (.int u), .val (.ref b1), .unset, .unset, .unset] [])) _
      exact J4 hJ3 _ _ XJ3 eJ3 NJ3 ZJ3 (fJ3_0.congr (fun j hj => (if_neg (own_gen hz (by decide) hc43_57 hj)).symm))
  refine own_by (fun _ kt => XS.iload X1.here hx rfl (hb hby at_25) rfl kt) ?_
  show own_Go p.tables e below (T1.setTop (mkF m 27 #[.val (.long q0), .second, .val (.int p1), .val (.int p2), .val (.int p3), .val (.int z), .val (.int u), .val (.ref b1), .unset, .unset, .unset] [(.int z)])) _
  by_cases hc27_60 : (0 : Int32) < z
  · refine own_by (fun _ kt => XS.ifNo X1.here hx rfl (hb hby at_27) rfl ((if0 _ _).trans (tlt hc27_60).2.2.2) kt) ?_
    show own_Go p.tables e below (T1.setTop (mkF m 30 #[.val (.long q0), .second, .val (.int p1), .val (.int p2), .val (.int p3), .val (.int z), .val (.int u), .val (.ref b1), .unset, .unset, .unset] [])) _
    refine own_by (fun _ kt => XS.aload X1.here hx rfl (hb hby at_30) rfl rfl kt) ?_
    show own_Go p.tables e below (T1.setTop (mkF m 32 #[.val (.long q0), .second, .val (.int p1), .val (.int p2), .val (.int p3), .val (.int z), .val (.int u), .val (.ref b1), .unset, .unset, .unset] [(.ref b1)])) _
    refine own_by (fun _ kt => XS.iconst X1.here hx rfl (hb hby at_32) kt) ?_
    show own_Go p.tables e below (T1.setTop (mkF m 33 #[.val (.long q0), .second, .val (.int p1), .val (.int p2), .val (.int p3), .val (.int z), .val (.int u), .val (.ref b1), .unset, .unset, .unset] [(.int (0 : Int32)), (.ref b1)])) _
    refine own_by (fun _ kt => XS.lloadN X1.here hx rfl (hb hby at_33) rfl kt) ?_
    show own_Go p.tables e below (T1.setTop (mkF m 34 #[.val (.long q0), .second, .val (.int p1), .val (.int p2), .val (.int p3), .val (.int z), .val (.int u), .val (.ref b1), .unset, .unset, .unset] [(.long q0), (.int (0 : Int32)), (.ref b1)])) _
    refine own_by (fun _ kt => XS.iloadN X1.here hx rfl (hb hby at_34) rfl kt) ?_
    show own_Go p.tables e below (T1.setTop (mkF m 35 #[.val (.long q0), .second, .val (.int p1), .val (.int p2), .val (.int p3), .val (.int z), .val (.int u), .val (.ref b1), .unset, .unset, .unset] [(.int p1), (.long q0), (.int (0 : Int32)), (.ref b1)])) _
    refine own_by (fun _ kt => XS.iconst X1.here hx rfl (hb hby at_35) kt) ?_
    show own_Go p.tables e below (T1.setTop (mkF m 36 #[.val (.long q0), .second, .val (.int p1), .val (.int p2), .val (.int p3), .val (.int z), .val (.int u), .val (.ref b1), .unset, .unset, .unset] [(.int (0 : Int32)), (.int p1), (.long q0), (.int (0 : Int32)), (.ref b1)])) _
    obtain ⟨_, _, ⟨T61, L61, k61, n61⟩, -, X61, ⟨Lc61, hQ61, l61, y61, z61⟩, st61⟩ := Jvm.LawKit.callS X1 hx (y := (⟨"com/example/relampago/relampago/bolt11/Bech32BytesPinLaw", "raw", "(JII)B"⟩ : MethodName)) hown (mvT hZ (hw _ (List.mem_of_getElem? (i := 2) rfl))) (mvT hZ (hw _ (List.mem_of_getElem? (i := 3) rfl))) (mvT hZ (hw _ (List.mem_of_getElem? (i := 4) rfl))) (mvT hZ (hw _ (List.mem_of_getElem? (i := 5) rfl))) (by decide) (backOf (W := 2) (rm_own_raw l Z a0 hw [] q0 p1 (0 : Int32) h1 n0 Zs1) hZ (hw _ (List.mem_of_getElem? (i := 5) rfl)) (hw _ (List.mem_of_getElem? (i := 4) rfl)) (by decide) (by decide)) (g := (mkF m 36 #[.val (.long q0), .second, .val (.int p1), .val (.int p2), .val (.int p3), .val (.int z), .val (.int u), .val (.ref b1), .unset, .unset, .unset] [(.int (0 : Int32)), (.int p1), (.long q0), (.int (0 : Int32)), (.ref b1)])) rfl (by rw [hml]; rfl) (argsL := [(.long q0), (.int p1), (.int (0 : Int32))]) (rest := [(.int (0 : Int32)), (.ref b1)]) (lenOf pd_0 rfl) rfl (by show 2 * 0 + _ ≤ _; exact Nat.le_of_eq rfl) (hb hby at_36) (fun _ _ => ⟨rfl, e1, (by decide : 1 + 0 ≤ _), (by decide : 10 + 0 ≤ _)⟩)
    dsimp only [Pt.U, Pt.locs, Pt.cells, Pt.slots] at X61 l61 y61 z61 st61 hQ61
    obtain rfl : k61 = 1 := y61
    obtain rfl : n61 = 10 := z61
    obtain ⟨rfl, Nq61, eh61⟩ := hQ61
    have N61 : Fr n0 L61 := by rw [l61]; exact Fr.app N0 Nq61
    refine own_by (st61) ?_
    show own_Go p.tables e below (T61.setTop (mkF m 39 #[.val (.long q0), .second, .val (.int p1), .val (.int p2), .val (.int p3), .val (.int z), .val (.int u), .val (.ref b1), .unset, .unset, .unset] [(.int (own_raw q0 p1 (0 : Int32))), (.int (0 : Int32)), (.ref b1)])) _
    obtain ⟨T62, h62, X62, e62, W62, U62, st62⟩ := own_ustore X61 hx hZ eh61 f2 (j := (0 : Int32)) (i := (0 : Int32).toInt.toNat) (own_nat (by decide)) (own_ltn hz (by decide) hc27_60) (g := (mkF m 39 #[.val (.long q0), .second, .val (.int p1), .val (.int p2), .val (.int p3), .val (.int z), .val (.int u), .val (.ref b1), .unset, .unset, .unset] [(.int (own_raw q0 p1 (0 : Int32))), (.int (0 : Int32)), (.ref b1)])) rfl rfl (hb hby at_39)
    have Zs62 : n0 ≤ h62.size := by rw [W62.size]; exact Zs1
    have N62 := Fr.snoc X62 N61 gn_b1
    refine own_by st62 ?_
    show own_Go p.tables e below (T62.setTop (mkF m 40 #[.val (.long q0), .second, .val (.int p1), .val (.int p2), .val (.int p3), .val (.int z), .val (.int u), .val (.ref b1), .unset, .unset, .unset] [])) _
    exact J3 h62 _ _ X62 e62 N62 Zs62 U62
  · refine own_by (fun _ kt => XS.ifYes X1.here hx rfl (pc0 := 27) (pc' := 40) rfl (hb hby at_27) rfl ((if0 _ _).trans (flt hc27_60).2.2.2) (by decide) (by decide) kt) ?_
    show own_Go p.tables e below (T1.setTop (mkF m 40 #[.val (.long q0), .second, .val (.int p1), .val (.int p2), .val (.int p3), .val (.int z), .val (.int u), .val (.ref b1), .unset, .unset, .unset] [])) _
    exact J3 h1 _ _ X1 e1 N0 Zs1 (f2.congr (fun j hj => (if_neg (own_gen hz (by decide) hc27_60 hj)).symm))
set_option maxRecDepth 65536 in
set_option maxHeartbeats 40000000 in
theorem comes_1 {Post : Tables → Env → Array Value → State → Outcome → State → Prop} (hpost : ∀ tb e args s v u, (limb_1_1.after args s (.returned v) u = true ∧ limb_1_2.after args s (.returned v) u = true ∧ True) → FrameEnd s (.returned v) u (Jvm.fieldLocs frame_1_writes args s ++ Jvm.arrayLocs frame_1_arrays args s ++ Jvm.staticLocs frame_1_statics s) 16 128 → Post tb e args s (.returned v) u) :
    ArmFor flags0 classFile x code maxLocals ret World_1 tables_1 room_1 Calls_1 rest_1 Pre_1 Post := by
  intro l hfl _ _ p e ha hc hk s m args below hf hA hF happ hP
  obtain ⟨hcalls, hrest, hpre⟩ := hP
  obtain ⟨-, -, -, hnamed, -, -, -, hat⟩ := (Spec.applies_iff hf).mp happ
  obtain ⟨hg, hn⟩ := and_e (Cond.before_iff.mp (show (Jvm.Cond.and given_1 narrow_1).before args s = true from hpre))
  obtain ⟨hcnt, g0⟩ := and_e hg
  obtain ⟨i0, g1⟩ := and_e g0
  obtain ⟨i1, g2⟩ := and_e g1
  obtain ⟨i2, g3⟩ := and_e g2
  obtain ⟨w0, w1, w2, w3, rfl⟩ : ∃ w0 w1 w2 w3 : Value, args = #[w0, w1, w2, w3] := by
    have hs : args.size = 4 := by simpa [Cond.value, given_1] using hcnt
    obtain ⟨L⟩ := args
    match L, hs with
    | [w0, w1, w2, w3], _ => exact ⟨w0, w1, w2, w3, rfl⟩
  have hw := fun d (hd : d ∈ tables_1) => atoms_spec (ws := Jvm.Cond.code x code maxLocals ret :: tables_1) hat d (List.mem_cons_of_mem _ hd)
  obtain ⟨v0, ev0⟩ := isL_v i0
  obtain rfl : w0 = (.long v0) := Option.some.inj ev0
  obtain ⟨v1, ev1⟩ := is_v i1
  obtain rfl : w1 = (.int v1) := Option.some.inj ev1
  obtain ⟨v2, ev2⟩ := is_v i2
  obtain rfl : w2 = (.int v2) := Option.some.inj ev2
  obtain ⟨v3, ev3⟩ := is_v g3
  obtain rfl : w3 = (.int v3) := Option.some.inj ev3
  obtain ⟨n, o, h1, h2, h3, _, L, rfl, ⟨rfl, N⟩, hq⟩ := rm_law l s _ hw tables_1 v0 v1 v2 v3  s.heap s.heap.size (Nat.le_refl _)  p e ha hc hk s m _ below hf ((Spec.applies_iff_loose hf).mp happ).1 ⟨rfl, State.Warmed39.refl s, rfl⟩ trivial
  refine ⟨n, _, h1, h2, h3, hpost _ _ _ _ _ _ ⟨Cond.after_iff.mpr rfl, Cond.after_iff.mpr (eq_i res_at (Term.int_eval (1)) rfl), trivial⟩ ⟨hq.1, hq.2.1, (hq.2.2.sift fun y hy => Or.inr (N y hy)).mono (by decide) (by decide)⟩⟩
theorem main_1_1 : Claimed_1_1 := comes_1 fun _ _ _ _ _ _ h hF => ⟨h.1, hF⟩
theorem main_1_2 : Claimed_1_2 := comes_1 fun _ _ _ _ _ _ h hF => ⟨h.2.1, hF⟩
end Jvm.Pilot.@@N@@
namespace Jvm.Pilot.@@N@@
open Jvm Jvm.ClassFile Sem Op Lib Jvm.Free Jvm.Stand Jvm.Pilot.@@N@@.Jvm.D
/-! MADE BY PROGRAM (witnessworld.py) out of the Statement's table words and the real class files: 10 classes; the members and pool entries that the words name. The judged class is class 1, her method 4. -/
namespace start1
open Jvm.ClassFile
def u (s : String) : CpInfo := .utf8 (stringToUtf16 s)
/-- a pool by its gaps: so many unusable entries, then the entry; so many at the end -/
def gap : Nat → List CpInfo → List CpInfo
  | 0, r => r
  | n + 1, r => .unusable :: gap n r
def poolList (es : List (Nat × CpInfo)) (last : Nat) : List CpInfo := es.foldr (fun e r => gap e.1 (e.2 :: r)) (gap last [])
def pool (es : List (Nat × CpInfo)) (last : Nat) : Array CpInfo := ⟨poolList es last⟩
def fileOf (pool : Array CpInfo) (this : Nat) (attrs : Array Attribute := #[]) (ms : Array MethodInfo := #[]) (fl : Nat := 33) (sup : Nat := 0) (ifs : Array Nat := #[]) (fds : Array FieldInfo := #[]) : ClassFile where
  minorVersion := 0
  majorVersion := 65
  constantPool := pool
  accessFlags := fl
  thisClass := this
  superClass := sup
  interfaces := ifs
  fields := fds
  methods := ms
  attributes := attrs
def plain (name : String) (sup : Option ClassId) : Class where
  name := name
  kind := .ordinary
  loader := none
  accessFlags := 33
  super := sup
  interfaces := #[]
  cf := none
  fields := #[]
  methods := #[]
  instanceTypes := #[]
  staticTypes := #[]
  resolved := #[]
  callSites := []
  init := .initialized
  statics := none
  mirror := none

def pool0 : Array CpInfo := pool [(5, u "<init>"), (0, u "()V"), (1, .class_ 10), (1, u "java/lang/Object")] 113

def k0m0 : Method := { name := "<init>", desc := "()V", sig := { parameters := [], returnType := none }, accessFlags := 1, code := none }
/-- java/lang/Object -/
def k0 : Class := { plain "java/lang/Object" none with
  accessFlags := 33
  interfaces := #[]
  cf := some (fileOf pool0 8 #[] #[{ accessFlags := 1, nameIndex := 5, descriptorIndex := 6, attributes := #[] }] 33 0 #[] #[])
  fields := #[]
  methods := #[k0m0]
  instanceTypes := #[]
  staticTypes := #[]
  resolved := Array.replicate 124 none
  statics := none }

def pool1 : Array CpInfo := pool [(2, .class_ 4), (1, u "java/lang/Object"), (0, u "<init>"), (0, u "()V"), (0, .methodref 8 9), (0, .class_ 10), (0, .nameAndType 11 12), (0, u "com/example/relampago/relampago/bolt11/Bech32BytesPinLaw"), (0, u "raw"), (0, u "(JII)B"), (0, .long 255), (1, .long 3), (1, .integer 2147483647), (0, .methodref 8 19), (0, .nameAndType 20 21), (0, u "term"), (0, u "(JIII)J"), (0, .methodref 23 24), (0, .class_ 25), (0, .nameAndType 26 27), (0, u "com/example/relampago/relampago/bolt11/Bech32"), (0, u "bytes"), (0, u "([BI)[B"), (0, .methodref 8 29), (0, .nameAndType 30 31), (0, u "check"), (0, u "([BIJI)Z"), (3, u "law"), (0, u "(JIII)Z")] 4

def k1m0 : Method := { name := "<init>", desc := "()V", sig := { parameters := [], returnType := none }, accessFlags := 1, code := none }
def k1c1 : Code := { maxStack := 5, maxLocals := 4, code := method_2_code, exceptionTable := #[], attributes := #[] }
def k1m1 : Method := { name := "raw", desc := "(JII)B", sig := { parameters := [.long, .int, .int], returnType := some .byte }, accessFlags := 10, code := some k1c1 }
def k1c2 : Code := { maxStack := 5, maxLocals := 5, code := method_3_code, exceptionTable := #[], attributes := #[] }
def k1m2 : Method := { name := "term", desc := "(JIII)J", sig := { parameters := [.long, .int, .int, .int], returnType := some .long }, accessFlags := 10, code := some k1c2 }
def k1c3 : Code := { maxStack := 5, maxLocals := 6, code := method_4_code, exceptionTable := #[], attributes := #[] }
def k1m3 : Method := { name := "check", desc := "([BIJI)Z", sig := { parameters := [(.array .byte), .int, .long, .int], returnType := some .boolean }, accessFlags := 10, code := some k1c3 }
def k1c4 : Code := { maxStack := 7, maxLocals := 11, code := code, exceptionTable := #[], attributes := #[] }
def k1m4 : Method := { name := "law", desc := "(JIII)Z", sig := { parameters := [.long, .int, .int, .int], returnType := some .boolean }, accessFlags := 9, code := some k1c4 }
/-- com/example/relampago/relampago/bolt11/Bech32BytesPinLaw -/
def k1 : Class := { plain "com/example/relampago/relampago/bolt11/Bech32BytesPinLaw" (some 0) with
  accessFlags := 49
  interfaces := #[]
  cf := some (fileOf pool1 8 #[] #[{ accessFlags := 1, nameIndex := 5, descriptorIndex := 6, attributes := #[] }, { accessFlags := 10, nameIndex := 11, descriptorIndex := 12, attributes := #[] }, { accessFlags := 10, nameIndex := 20, descriptorIndex := 21, attributes := #[] }, { accessFlags := 10, nameIndex := 30, descriptorIndex := 31, attributes := #[] }, { accessFlags := 9, nameIndex := 35, descriptorIndex := 36, attributes := #[] }] 49 2 #[] #[])
  fields := #[]
  methods := #[k1m0, k1m1, k1m2, k1m3, k1m4]
  instanceTypes := #[]
  staticTypes := #[]
  resolved := Array.replicate 41 none
  statics := none }

def pool2 : Array CpInfo := pool [(2, .class_ 4), (1, u "java/lang/Object"), (0, u "<init>"), (0, u "()V"), (9, .class_ 17), (0, u "com/example/relampago/relampago/bolt11/Bech32"), (13, u "([BI)[B"), (53, .class_ 86), (0, u "com/example/relampago/relampago/bolt11/Bech32$Decoded"), (3, .methodref 91 92), (0, .class_ 93), (0, .nameAndType 94 95), (0, u "java/lang/Math"), (0, u "min"), (0, u "(II)I"), (6, u "GENERATOR"), (0, u "[I"), (5, u "CHARSET"), (0, u "Ljava/lang/String;"), (1, u "CHECKSUM_GROUPS"), (0, u "I"), (1, u "GROUP_BITS"), (13, u "bytes")] 6

def k2m0 : Method := { name := "<init>", desc := "()V", sig := { parameters := [], returnType := none }, accessFlags := 2, code := none }
def k2c1 : Code := { maxStack := 6, maxLocals := 5, code := prog_2_method_5_code, exceptionTable := #[], attributes := #[] }
def k2m1 : Method := { name := "bytes", desc := "([BI)[B", sig := { parameters := [(.array .byte), .int], returnType := some (.array .byte) }, accessFlags := 8, code := some k2c1 }
/-- com/example/relampago/relampago/bolt11/Bech32 -/
def k2 : Class := { plain "com/example/relampago/relampago/bolt11/Bech32" (some 0) with
  accessFlags := 49
  interfaces := #[]
  cf := some (fileOf pool2 16 #[.nestMembers #[85]] #[{ accessFlags := 2, nameIndex := 5, descriptorIndex := 6, attributes := #[] }, { accessFlags := 8, nameIndex := 129, descriptorIndex := 31, attributes := #[] }] 49 2 #[] #[{ accessFlags := 26, nameIndex := 109, descriptorIndex := 110, attributes := #[] }, { accessFlags := 26, nameIndex := 102, descriptorIndex := 103, attributes := #[] }, { accessFlags := 26, nameIndex := 112, descriptorIndex := 113, attributes := #[] }, { accessFlags := 26, nameIndex := 115, descriptorIndex := 113, attributes := #[] }])
  fields := #[{ name := "CHARSET", type := (.object "java/lang/String"), accessFlags := 26, slot := 0, constantValue := 0 }, { name := "GENERATOR", type := (.array .int), accessFlags := 26, slot := 1, constantValue := 0 }, { name := "CHECKSUM_GROUPS", type := .int, accessFlags := 26, slot := 2, constantValue := 0 }, { name := "GROUP_BITS", type := .int, accessFlags := 26, slot := 3, constantValue := 0 }]
  methods := #[k2m0, k2m1]
  instanceTypes := #[]
  staticTypes := #[(.object "java/lang/String"), (.array .int), .int, .int]
  resolved := Array.replicate 136 none
  statics := none }

def pool3 : Array CpInfo := pool [(1, .class_ 2), (0, u "java/lang/Math"), (1, .class_ 6), (1, u "java/lang/Object"), (0, u "<init>"), (0, u "()V"), (89, .class_ 100), (1, u "java/lang/Math$RandomNumberGeneratorHolder"), (71, u "negativeZeroFloatBits"), (0, u "J"), (2, u "negativeZeroDoubleBits"), (24, u "min"), (43, u "$assertionsDisabled"), (0, u "Z"), (88, u "(II)I"), (2, u "twoToTheDoubleScaleDown"), (0, u "D"), (4, u "twoToTheDoubleScaleUp"), (9, u "E"), (3, u "PI"), (2, u "TAU"), (2, u "DEGREES_TO_RADIANS"), (0, u "RADIANS_TO_DEGREES")] 94

def k3m0 : Method := { name := "<init>", desc := "()V", sig := { parameters := [], returnType := none }, accessFlags := 2, code := none }
def k3c1 : Code := { maxStack := 2, maxLocals := 2, code := jdk_29_method_69_code, exceptionTable := #[], attributes := #[] }
def k3m1 : Method := { name := "min", desc := "(II)I", sig := { parameters := [.int, .int], returnType := some .int }, accessFlags := 9, code := some k3c1 }
/-- java/lang/Math -/
def k3 : Class := { plain "java/lang/Math" (some 0) with
  accessFlags := 49
  interfaces := #[]
  cf := some (fileOf pool3 1 #[.nestMembers #[98]] #[{ accessFlags := 2, nameIndex := 7, descriptorIndex := 8, attributes := #[] }, { accessFlags := 9, nameIndex := 201, descriptorIndex := 335, attributes := #[] }] 49 4 #[] #[{ accessFlags := 25, nameIndex := 354, descriptorIndex := 339, attributes := #[] }, { accessFlags := 25, nameIndex := 358, descriptorIndex := 339, attributes := #[] }, { accessFlags := 25, nameIndex := 361, descriptorIndex := 339, attributes := #[] }, { accessFlags := 26, nameIndex := 364, descriptorIndex := 339, attributes := #[] }, { accessFlags := 26, nameIndex := 365, descriptorIndex := 339, attributes := #[] }, { accessFlags := 26, nameIndex := 172, descriptorIndex := 173, attributes := #[] }, { accessFlags := 26, nameIndex := 176, descriptorIndex := 173, attributes := #[] }, { accessFlags := 8, nameIndex := 344, descriptorIndex := 339, attributes := #[] }, { accessFlags := 8, nameIndex := 338, descriptorIndex := 339, attributes := #[] }, { accessFlags := 4120, nameIndex := 245, descriptorIndex := 246, attributes := #[] }])
  fields := #[{ name := "E", type := .double, accessFlags := 25, slot := 0, constantValue := 0 }, { name := "PI", type := .double, accessFlags := 25, slot := 1, constantValue := 0 }, { name := "TAU", type := .double, accessFlags := 25, slot := 2, constantValue := 0 }, { name := "DEGREES_TO_RADIANS", type := .double, accessFlags := 26, slot := 3, constantValue := 0 }, { name := "RADIANS_TO_DEGREES", type := .double, accessFlags := 26, slot := 4, constantValue := 0 }, { name := "negativeZeroFloatBits", type := .long, accessFlags := 26, slot := 5, constantValue := 0 }, { name := "negativeZeroDoubleBits", type := .long, accessFlags := 26, slot := 6, constantValue := 0 }, { name := "twoToTheDoubleScaleUp", type := .double, accessFlags := 8, slot := 7, constantValue := 0 }, { name := "twoToTheDoubleScaleDown", type := .double, accessFlags := 8, slot := 8, constantValue := 0 }, { name := "$assertionsDisabled", type := .boolean, accessFlags := 4120, slot := 9, constantValue := 0 }]
  methods := #[k3m0, k3m1]
  instanceTypes := #[]
  staticTypes := #[.double, .double, .double, .double, .double, .long, .long, .double, .double, .boolean]
  resolved := Array.replicate 460 none
  statics := none }

def pool4 : Array CpInfo := pool [(1, u "java/lang/Cloneable"), (0, .class_ 1), (0, u "java/lang/Object"), (0, .class_ 3)] 3

/-- java/lang/Cloneable -/
def k4 : Class := { plain "java/lang/Cloneable" (some 0) with
  accessFlags := 1537
  interfaces := #[]
  cf := some (fileOf pool4 2 #[] #[] 1537 4 #[] #[])
  fields := #[]
  methods := #[]
  instanceTypes := #[]
  staticTypes := #[]
  resolved := Array.replicate 8 none
  statics := none }

def pool5 : Array CpInfo := pool [(1, u "java/io/Serializable"), (0, .class_ 1), (0, u "java/lang/Object"), (0, .class_ 3)] 3

/-- java/io/Serializable -/
def k5 : Class := { plain "java/io/Serializable" (some 0) with
  accessFlags := 1537
  interfaces := #[]
  cf := some (fileOf pool5 2 #[] #[] 1537 4 #[] #[])
  fields := #[]
  methods := #[]
  instanceTypes := #[]
  staticTypes := #[]
  resolved := Array.replicate 8 none
  statics := none }

/-- the primitive byte -/
def k6 : Class := { plain "byte" none with kind := .primitive 'B', accessFlags := 0x411 }
/-- [B -/
def k7 : Class := { plain "[B" (some 0) with kind := .array 6 .byte, interfaces := #[4, 5], accessFlags := 1041 }

/-- the primitive int -/
def k8 : Class := { plain "int" none with kind := .primitive 'I', accessFlags := 0x411 }
/-- [I -/
def k9 : Class := { plain "[I" (some 0) with kind := .array 8 .int, interfaces := #[4, 5], accessFlags := 1041 }

def heap : Heap := #[]
def classes : Array Class := #[k0, k1, k2, k3, k4, k5, k6, k7, k8, k9]
def interned : List (Array UInt16 × Addr) := []
def slotsUsed : Nat := 0
def theMethod : MethodId := ⟨1, 4⟩
def args0 : Array Value := #[.long 4, .int 3, .int 4, .int 5]
def aboutOver (below : List Frame) : State where
  vm := { classes := classes, interned := interned.toArray }
  heap := heap
  slotsUsed := slotsUsed
  threads := #[{ frames := .invoking theMethod args0 :: below }]
def below0 : List Frame := [.native { method := ⟨0, 0⟩, args := #[] }]
def about1 : State := aboutOver below0
def p0 : Program := .bare "" "" ""
def e0 : Env := launch0.env 0 0 0
theorem w_frames : about1.frames = Frame.invoking theMethod args0 :: below0 := rfl
set_option maxRecDepth 65536 in
theorem w_args : argsFit about1.vm theMethod args0 = true := by decide +kernel
set_option maxRecDepth 65536 in
theorem w_heap : heapFits about1 = true := by decide +kernel
set_option maxRecDepth 65536 in
theorem w_runnable : about1.curStatus? = some .runnable := by decide +kernel
set_option maxRecDepth 65536 in
theorem w_alone : about1.alone = true := by decide +kernel
set_option maxRecDepth 65536 in
theorem w_named : about1.methodNamed? x = some theMethod := by decide +kernel
set_option maxRecDepth 65536 in
theorem w_hears : about1.hears theMethod below0 = true := by decide +kernel
set_option maxRecDepth 65536 in
theorem w_ripe : about1.ripe theMethod args0 below0 = true := by decide +kernel
theorem w_running : about1.status = .running := rfl
set_option maxRecDepth 65536 in
theorem w_room : about1.hasRoom e0.platform room_1 = true :=
  launch0.hasRoom_least _ room_1 (by decide +kernel) (by decide +kernel) (by decide +kernel) (by decide +kernel) (by decide +kernel) (by decide +kernel)
theorem allAtoms_all (ts : List Jvm.Cond) (a : Array Jvm.Value) (st : Jvm.State) : (allAtoms ts).before a st = ts.all (fun c => c.before a st) := by
  induction ts with
  | nil => rfl
  | cons c t ih =>
    show (Jvm.Cond.and c (allAtoms t)).before a st = _
    rw [Jvm.Cond.before_and, ih, List.all_cons]
def words1 : List Jvm.Cond := Jvm.Cond.code x code maxLocals ret :: tables_1
/-- a 'code' word, met by the world's own term for the bytes: nothing is compared byte by byte -/
theorem code_word {y : MethodName} {bytes : ByteArray} {mx : Nat} {rt : Option FieldType} {a : Array Value} {s : State} {m : MethodId} {meth : Method} {c : Code} (h1 : s.methodNamed? y = some m) (h2 : s.vm.method? m = some meth) (h3 : meth.code = some c) (h4 : c.code = bytes)
    (h5 : (c.maxLocals == mx && c.exceptionTable.isEmpty && decide (c.maxStack ≤ mostOperands) && decide (meth.sig.returnType = rt) && !meth.locks && decide (parseMethodDescriptor y.desc = some meth.sig)) = true) : (Jvm.Cond.code y bytes mx rt).before a s = true := by
  simp only [Bool.and_eq_true, beq_iff_eq, Bool.not_eq_true', decide_eq_true_eq] at h5
  obtain ⟨⟨⟨⟨⟨g1, g2⟩, g3⟩, g4⟩, g5⟩, g6⟩ := h5
  simp [Cond.before, Cond.holds, Cond.value, h1, h2, h3, h4, g1, g2, g3, g4, g5, g6]
def isCode : Jvm.Cond → Bool
  | .code _ _ _ _ => true
  | _ => false
theorem all_split {L : List Jvm.Cond} {P : Jvm.Cond → Bool} (h1 : L.all (fun c => isCode c || P c) = true) (h2 : ∀ c ∈ L.filter isCode, P c = true) : L.all P = true := by
  refine List.all_eq_true.mpr fun c hc => ?_
  have h := List.all_eq_true.mp h1 c hc
  rcases Bool.eq_false_or_eq_true (isCode c) with hi | hi
  · exact h2 c (List.mem_filter.mpr ⟨hc, hi⟩)
  · simpa [hi] using h
set_option maxRecDepth 65536 in
theorem w_c0 : (Jvm.Cond.code x code maxLocals ret).before args0 about1 = true := code_word (m := ⟨1, 4⟩) (meth := k1m4) (c := k1c4) (by decide +kernel) rfl rfl rfl (by decide +kernel)
set_option maxRecDepth 65536 in
theorem w_c1 : (Jvm.Cond.code ({ cls := "com/example/relampago/relampago/bolt11/Bech32BytesPinLaw", name := "raw", desc := "(JII)B" } : Jvm.MethodName) method_2_code (4 : Nat) (Option.some Jvm.ClassFile.FieldType.byte)).before args0 about1 = true := code_word (m := ⟨1, 1⟩) (meth := k1m1) (c := k1c1) (by decide +kernel) rfl rfl rfl (by decide +kernel)
set_option maxRecDepth 65536 in
theorem w_c2 : (Jvm.Cond.code ({ cls := "com/example/relampago/relampago/bolt11/Bech32BytesPinLaw", name := "term", desc := "(JIII)J" } : Jvm.MethodName) method_3_code (5 : Nat) (Option.some Jvm.ClassFile.FieldType.long)).before args0 about1 = true := code_word (m := ⟨1, 2⟩) (meth := k1m2) (c := k1c2) (by decide +kernel) rfl rfl rfl (by decide +kernel)
set_option maxRecDepth 65536 in
theorem w_c3 : (Jvm.Cond.code ({ cls := "com/example/relampago/relampago/bolt11/Bech32", name := "bytes", desc := "([BI)[B" } : Jvm.MethodName) prog_2_method_5_code (5 : Nat) (Option.some (Jvm.ClassFile.FieldType.array Jvm.ClassFile.FieldType.byte))).before args0 about1 = true := code_word (m := ⟨2, 1⟩) (meth := k2m1) (c := k2c1) (by decide +kernel) rfl rfl rfl (by decide +kernel)
set_option maxRecDepth 65536 in
theorem w_c4 : (Jvm.Cond.code ({ cls := "java/lang/Math", name := "min", desc := "(II)I" } : Jvm.MethodName) jdk_29_method_69_code (2 : Nat) (Option.some Jvm.ClassFile.FieldType.int)).before args0 about1 = true := code_word (m := ⟨3, 1⟩) (meth := k3m1) (c := k3c1) (by decide +kernel) rfl rfl rfl (by decide +kernel)
set_option maxRecDepth 65536 in
theorem w_c5 : (Jvm.Cond.code ({ cls := "com/example/relampago/relampago/bolt11/Bech32BytesPinLaw", name := "check", desc := "([BIJI)Z" } : Jvm.MethodName) method_4_code (6 : Nat) (Option.some Jvm.ClassFile.FieldType.boolean)).before args0 about1 = true := code_word (m := ⟨1, 3⟩) (meth := k1m3) (c := k1c3) (by decide +kernel) rfl rfl rfl (by decide +kernel)
def codes1 : List Jvm.Cond := [Jvm.Cond.code x code maxLocals ret, Jvm.Cond.code ({ cls := "com/example/relampago/relampago/bolt11/Bech32BytesPinLaw", name := "raw", desc := "(JII)B" } : Jvm.MethodName) method_2_code (4 : Nat) (Option.some Jvm.ClassFile.FieldType.byte), Jvm.Cond.code ({ cls := "com/example/relampago/relampago/bolt11/Bech32BytesPinLaw", name := "term", desc := "(JIII)J" } : Jvm.MethodName) method_3_code (5 : Nat) (Option.some Jvm.ClassFile.FieldType.long), Jvm.Cond.code ({ cls := "com/example/relampago/relampago/bolt11/Bech32", name := "bytes", desc := "([BI)[B" } : Jvm.MethodName) prog_2_method_5_code (5 : Nat) (Option.some (Jvm.ClassFile.FieldType.array Jvm.ClassFile.FieldType.byte)), Jvm.Cond.code ({ cls := "java/lang/Math", name := "min", desc := "(II)I" } : Jvm.MethodName) jdk_29_method_69_code (2 : Nat) (Option.some Jvm.ClassFile.FieldType.int), Jvm.Cond.code ({ cls := "com/example/relampago/relampago/bolt11/Bech32BytesPinLaw", name := "check", desc := "([BIJI)Z" } : Jvm.MethodName) method_4_code (6 : Nat) (Option.some Jvm.ClassFile.FieldType.boolean)]
set_option maxRecDepth 65536 in
theorem codes_eq : words1.filter isCode = codes1 := rfl
theorem w_codes : ∀ c ∈ words1.filter isCode, c.before args0 about1 = true := by
  rw [codes_eq]
  intro c hc
  simp only [codes1, List.mem_cons, List.not_mem_nil, or_false] at hc
  rcases hc with rfl | rfl | rfl | rfl | rfl | rfl
  · exact w_c0
  · exact w_c1
  · exact w_c2
  · exact w_c3
  · exact w_c4
  · exact w_c5
set_option maxRecDepth 65536 in
theorem w_t1 : words1.all (fun c => isCode c || c.before args0 about1) = true := by decide +kernel
theorem w_tables : (allAtoms (Jvm.Cond.code x code maxLocals ret :: tables_1)).before args0 about1 = true := by
  rw [allAtoms_all]
  show words1.all (fun c => c.before args0 about1) = true
  refine all_split ?_ w_codes
  rw [w_t1]
set_option maxRecDepth 65536 in
theorem w_case : (Jvm.Cond.and given_1 narrow_1).before args0 about1 = true := by decide +kernel
theorem w_applies : (headSpec (Jvm.Cond.code x code maxLocals ret :: tables_1) room_1).applies x e0.platform about1 = true :=
  (Spec.applies_iff w_frames).mpr ⟨w_running, w_runnable, w_alone, w_named, w_hears, w_ripe, w_room, w_tables⟩
theorem atStart : AtStart classFile x code maxLocals ret World_1 tables_1 room_1 Calls_1 rest_1 Pre_1 launch0 p0 e0 about1 theMethod args0 below0 :=
  ⟨lists_1, trivial, launch0.admits_env _ _ _, launch0.least_env, fairChoices_fair.cas, fairChoices_fair.clock, w_frames, w_args, w_heap, w_applies, trivial, trivial, w_case⟩
end start1
theorem witness_1 : WitnessClaimed_1 := ⟨start1.p0, start1.e0, start1.about1, start1.theMethod, start1.args0, start1.below0, start1.atStart⟩
end Jvm.Pilot.@@N@@
