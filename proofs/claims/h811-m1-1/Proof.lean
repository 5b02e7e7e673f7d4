import JvmDerived
import JvmDerived.Pilot.@@N@@Statement
import JvmDerived.Pilot.@@N@@Code
set_option linter.unusedVariables false
set_option linter.unusedSimpArgs false
namespace Jvm.Pilot.@@N@@
open Jvm Jvm.ClassFile Sem Op Lib Jvm.Free Jvm.Stand Jvm.LawKit Jvm.RoadKit Bundle Jvm.Pilot.@@N@@.Jvm.D
/-! own_Go: a walk still to be made from the state A; every step of the machine is one own_by. -/
def own_Go (tb : Tables) (e : Env) (below : List Frame) (A : State) (R : Outcome → State → Prop) : Prop := ∃ s₂ o, Steps tb e below A s₂ ∧ s₂.status = .running ∧ Ended s₂ below o ∧ R o s₂
theorem own_by {tb : Tables} {e : Env} {below : List Frame} {A B : State} {R : Outcome → State → Prop} (h : ∀ t, Steps tb e below A t → Steps tb e below B t) (g : own_Go tb e below A R) : own_Go tb e below B R := by
  obtain ⟨s₂, o, h1, h2⟩ := g
  exact ⟨s₂, o, h _ h1, h2⟩
def own_R (s : State) (Q : Option Value → Heap → List Loc → Prop) (cc nn : Nat) (o : Outcome) (U : State) : Prop := ∃ v L, o = .returned v ∧ Q v U.heap L ∧ FrameEnd s o U L cc nn
abbrev own_lrem (x y : Int64) : Int64 := x - (x / y) * y
section OwnEnds
variable {p : Program} {l : Launch} {e : Env} {R : Room} {s : State} {m : MethodId} {args : Array Value} {below : List Frame} {meth : Method} {c : Code} {T : State} {locs : List Loc} {cells slots : Nat} {Q : Option Value → Heap → List Loc → Prop} {cc nn : Nat}
theorem own_fin (X : Stand p l e R s m args below meth c T locs cells slots) {v : Option Value} (hv : meth.sig.returnType = none → v = none) (hlk : meth.locks = false) {B : State}
    (hs : ∀ fs, (∀ (f : JFrame) (acts : List Action), f.method = m → f.locked = none → f.entered = [] → (doReturn e (T.setTop f) acts v).1 = T.setFrames fs) → Steps p.tables e below B (T.setFrames fs))
    (hq : Q v T.heap locs) (hc : cells ≤ cc) (hn : slots ≤ nn) : own_Go p.tables e below B (own_R s Q cc nn) := by
  obtain ⟨fs, hr, hrun, hended, hW, hsame⟩ := X.leave hv hlk
  exact ⟨_, _, hs fs hr, hrun, hended, v, locs, rfl, hq, ⟨_, rfl⟩, hW, hsame.mono hc hn⟩
theorem own_retN (X : Stand p l e R s m args below meth c T locs cells slots) (hx : p.tables.exec = Jvm.exec) {pc : Nat} {Ls : Array Slot} {z : Int32} {t : FieldType} {rest : List Value} (hret : meth.sig.returnType = some t) (hlk : meth.locks = false) (ht : t = .boolean ∨ t = .byte ∨ t = .char ∨ t = .short)
    (hd : decode c.code pc = .ok (.ireturn, 1)) (hq : Q (some (.int (nar t z))) T.heap locs) (hc : cells ≤ cc) (hn : slots ≤ nn) : own_Go p.tables e below (T.setTop (mkF m pc Ls (.int z :: rest))) (own_R s Q cc nn) :=
  own_fin X (fun h => by rw [hret] at h; cases h) hlk (fun fs hr => retN X hx hret ht hd hr) hq hc hn
theorem own_retI (X : Stand p l e R s m args below meth c T locs cells slots) (hx : p.tables.exec = Jvm.exec) {pc : Nat} {Ls : Array Slot} {z : Int32} (hret : meth.sig.returnType = some .int) (hlk : meth.locks = false)
    (hd : decode c.code pc = .ok (.ireturn, 1)) (hq : Q (some (.int z)) T.heap locs) (hc : cells ≤ cc) (hn : slots ≤ nn) : own_Go p.tables e below (T.setTop (mkF m pc Ls [.int z])) (own_R s Q cc nn) :=
  own_fin X (fun h => by rw [hret] at h; cases h) hlk (fun fs hr => X.ireturnOut hx hret rfl (Or.inl rfl) hd hr) hq hc hn
theorem own_retL (X : Stand p l e R s m args below meth c T locs cells slots) (hx : p.tables.exec = Jvm.exec) {pc : Nat} {Ls : Array Slot} {z : Int64} (hret : meth.sig.returnType = some .long) (hlk : meth.locks = false)
    (hd : decode c.code pc = .ok (.lreturn, 1)) (hq : Q (some (.long z)) T.heap locs) (hc : cells ≤ cc) (hn : slots ≤ nn) : own_Go p.tables e below (T.setTop (mkF m pc Ls [.long z])) (own_R s Q cc nn) :=
  own_fin X (fun h => by rw [hret] at h; cases h) hlk (fun fs hr => X.lreturnOut hx hret hd hr) hq hc hn
theorem own_retA (X : Stand p l e R s m args below meth c T locs cells slots) (hx : p.tables.exec = Jvm.exec) {pc : Nat} {Ls : Array Slot} {w : Value} {t : FieldType} (hret : meth.sig.returnType = some t) (hlk : meth.locks = false) (hw : w.isRef = true) (ht : t.isReference = true)
    (hd : decode c.code pc = .ok (.areturn, 1)) (hq : Q (some w) T.heap locs) (hc : cells ≤ cc) (hn : slots ≤ nn) : own_Go p.tables e below (T.setTop (mkF m pc Ls [w])) (own_R s Q cc nn) :=
  own_fin X (fun h => by rw [hret] at h; cases h) hlk (fun fs hr => X.areturnOut hx hw hret ht hd hr) hq hc hn
theorem own_retV (X : Stand p l e R s m args below meth c T locs cells slots) (hx : p.tables.exec = Jvm.exec) {pc : Nat} {Ls : Array Slot} (hret : meth.sig.returnType = none) (hlk : meth.locks = false)
    (hd : decode c.code pc = .ok (.return_, 1)) (hq : Q none T.heap locs) (hc : cells ≤ cc) (hn : slots ≤ nn) : own_Go p.tables e below (T.setTop (mkF m pc Ls [])) (own_R s Q cc nn) :=
  own_fin X (fun _ => rfl) hlk (fun fs hr => X.returnOut hx hret hd hr) hq hc hn
end OwnEnds
theorem own_nin {a b : Addr} (h : a ≠ b) : a ∉ [b] := fun q => h (List.mem_singleton.mp q)
theorem own_nin2 {a b c : Addr} (h : a ≠ b) (h' : a ≠ c) : a ∉ [b, c] := fun q => by
  rcases List.mem_cons.mp q with q | q
  · exact h q
  · exact h' (List.mem_singleton.mp q)
section OwnArrays
variable {p : Program} {l : Launch} {e : Env} {R : Room} {s : State} {m : MethodId} {args : Array Value} {below : List Frame} {meth : Method} {c : Code} {T : State} {locs : List Loc} {cells slots : Nat} {Z : State} {h : Heap} {a : Addr} {k : ClassId} {z j : Int32} {vs : List Value} {dv v : Value} {g : JFrame} {rest : List Value}
theorem own_iaload (X : Stand p l e R s m args below meth c T locs cells slots) (hx : p.tables.exec = Jvm.exec) (hZ : Z.Warmed39 s.vm) (eT : T.heap = h) (F : Arv Z h a k .int z vs dv) (hj : ¬ j < 0 ∧ j < z) (hv : vs.getD j.toNatClampNeg dv = v)
    (hg : g.method = m) (hs : g.stack = .int j :: .ref a :: rest) (hd : decode c.code g.pc = .ok (.iaload, 1)) (t : State) (kt : Steps p.tables e below (T.setTop { g with pc := g.pc + 1, stack := v :: rest }) t) : Steps p.tables e below (T.setTop g) t := by
  obtain ⟨cl, A, -, S, -, H, -⟩ := F
  exact X.iaload hx (by rw [eT]; exact A.1) (State.isArrayOf_alike hZ.alike A.2.1) A.2.2 (inb_of S hj) (H.at (inb_of S hj) hv) hg hs hd t kt
theorem own_caload (X : Stand p l e R s m args below meth c T locs cells slots) (hx : p.tables.exec = Jvm.exec) (hZ : Z.Warmed39 s.vm) (eT : T.heap = h) (F : Arv Z h a k .char z vs dv) (hj : ¬ j < 0 ∧ j < z) (hv : vs.getD j.toNatClampNeg dv = v)
    (hg : g.method = m) (hs : g.stack = .int j :: .ref a :: rest) (hd : decode c.code g.pc = .ok (.caload, 1)) (t : State) (kt : Steps p.tables e below (T.setTop { g with pc := g.pc + 1, stack := v :: rest }) t) : Steps p.tables e below (T.setTop g) t := by
  obtain ⟨cl, A, -, S, -, H, -⟩ := F
  exact X.caload hx (by rw [eT]; exact A.1) (State.isArrayOf_alike hZ.alike A.2.1) A.2.2 (inb_of S hj) (H.at (inb_of S hj) hv) hg hs hd t kt
theorem own_baload (X : Stand p l e R s m args below meth c T locs cells slots) (hx : p.tables.exec = Jvm.exec) (hZ : Z.Warmed39 s.vm) (eT : T.heap = h) (F : Arv Z h a k .byte z vs dv) (hj : ¬ j < 0 ∧ j < z) (hv : vs.getD j.toNatClampNeg dv = v)
    (hg : g.method = m) (hs : g.stack = .int j :: .ref a :: rest) (hd : decode c.code g.pc = .ok (.baload, 1)) (t : State) (kt : Steps p.tables e below (T.setTop { g with pc := g.pc + 1, stack := v :: rest }) t) : Steps p.tables e below (T.setTop g) t := by
  obtain ⟨cl, A, -, S, -, H, -⟩ := F
  exact X.baloadBytes hx (by rw [eT]; exact A.1) (State.isArrayOf_alike hZ.alike A.2.1) A.2.2 (inb_of S hj) (H.at (inb_of S hj) hv) hg hs hd t kt
theorem own_alen {ty : FieldType} (X : Stand p l e R s m args below meth c T locs cells slots) (hx : p.tables.exec = Jvm.exec) (hZ : Z.Warmed39 s.vm) (eT : T.heap = h) (F : Arv Z h a k ty z vs dv)
    (hg : g.method = m) (hs : g.stack = .ref a :: rest) (hd : decode c.code g.pc = .ok (.arraylength, 1)) (t : State) (kt : Steps p.tables e below (T.setTop { g with pc := g.pc + 1, stack := .int z :: rest }) t) : Steps p.tables e below (T.setTop g) t := by
  obtain ⟨cl, A, -, S, N, -, -⟩ := F
  exact X.arraylength hx (by rw [eT]; exact A.1) (State.isArrayOf_alike hZ.alike A.2.1) hg hs hd t (by rw [len_of S N]; exact kt)
end OwnArrays
section OwnBounds
variable {x k k' : Int32}
theorem own_i1 (h : x < k') (q : k'.toInt ≤ k.toInt) : x < k := by rw [Int32.lt_iff_toInt_lt] at *; omega
theorem own_i2 (h : ¬ k' < x) (q : k'.toInt < k.toInt) : x < k := by rw [Int32.lt_iff_toInt_lt] at *; omega
theorem own_i3 (h : ¬ x < k') (q : k.toInt ≤ k'.toInt) : ¬ x < k := by rw [Int32.lt_iff_toInt_lt] at *; omega
theorem own_i4 (h : k' < x) (q : k.toInt ≤ k'.toInt + 1) : ¬ x < k := by rw [Int32.lt_iff_toInt_lt] at *; omega
theorem own_j1 (h : k' < x) (q : k.toInt ≤ k'.toInt) : k < x := by rw [Int32.lt_iff_toInt_lt] at *; omega
theorem own_j2 (h : ¬ x < k') (q : k.toInt < k'.toInt) : k < x := by rw [Int32.lt_iff_toInt_lt] at *; omega
theorem own_j3 (h : ¬ k' < x) (q : k'.toInt ≤ k.toInt) : ¬ k < x := by rw [Int32.lt_iff_toInt_lt] at *; omega
theorem own_j4 (h : x < k') (q : k'.toInt ≤ k.toInt + 1) : ¬ k < x := by rw [Int32.lt_iff_toInt_lt] at *; omega
theorem own_q1 (h : x < k') (q : k'.toInt ≤ k.toInt) : ¬ x = k := fun u => by rw [Int32.lt_iff_toInt_lt] at *; subst u; omega
theorem own_q2 (h : k' < x) (q : k.toInt ≤ k'.toInt) : ¬ x = k := fun u => by rw [Int32.lt_iff_toInt_lt] at *; subst u; omega
theorem own_q3 (h : ¬ x < k') (q : k.toInt < k'.toInt) : ¬ x = k := fun u => by rw [Int32.lt_iff_toInt_lt] at *; subst u; omega
theorem own_q4 (h : ¬ k' < x) (q : k'.toInt < k.toInt) : ¬ x = k := fun u => by rw [Int32.lt_iff_toInt_lt] at *; subst u; omega
end OwnBounds
theorem own_sta_keep {Z : State} {h h' : Heap} {C n d : String} {w : Value} (F : Sta Z h C n d w) (K : Keep h h' []) : Sta Z h' C n d w := by
  obtain ⟨cf, i, k, f, st, cell, h1, h2, h3, h4, h5, r⟩ := F
  exact ⟨cf, i, k, f, st, cell, h1, h2, h3, h4, K.2.1 _ _ h5 List.not_mem_nil, r⟩
def own_start (p0 : Int32) : Int32 := (if p0 = (58 : Int32) then (1 : Int32) else (if p0 < (65 : Int32) then (0 : Int32) else (if (90 : Int32) < p0 then (if p0 = (95 : Int32) then (1 : Int32) else (if p0 < (97 : Int32) then (0 : Int32) else (if (122 : Int32) < p0 then (if p0 < (192 : Int32) then (0 : Int32) else (if (214 : Int32) < p0 then (if p0 < (216 : Int32) then (0 : Int32) else (if (246 : Int32) < p0 then (if p0 < (248 : Int32) then (0 : Int32) else (if (767 : Int32) < p0 then (if p0 < (880 : Int32) then (0 : Int32) else (if (893 : Int32) < p0 then (if p0 < (895 : Int32) then (0 : Int32) else (if (8191 : Int32) < p0 then (if p0 < (8204 : Int32) then (0 : Int32) else (if (8205 : Int32) < p0 then (if p0 < (8304 : Int32) then (0 : Int32) else (if (8591 : Int32) < p0 then (if p0 < (11264 : Int32) then (0 : Int32) else (if (12271 : Int32) < p0 then (if p0 < (12289 : Int32) then (0 : Int32) else (if (55295 : Int32) < p0 then (if p0 < (63744 : Int32) then (0 : Int32) else (if (64975 : Int32) < p0 then (if p0 < (65008 : Int32) then (0 : Int32) else (if (65533 : Int32) < p0 then (if p0 < (65536 : Int32) then (0 : Int32) else (if (983039 : Int32) < p0 then (0 : Int32) else (1 : Int32))) else (1 : Int32))) else (1 : Int32))) else (1 : Int32))) else (1 : Int32))) else (1 : Int32))) else (1 : Int32))) else (1 : Int32))) else (1 : Int32))) else (1 : Int32))) else (1 : Int32))) else (1 : Int32))) else (1 : Int32)))) else (1 : Int32))))
theorem pn_0 : plainName "com/example/ivaldi/ivaldi/model/NameCharacters" = true := by first | (simp [plainName, overriddenIn]; done) | decide +kernel
theorem d_prog_85_method_2_code_0 : decode prog_85_method_2_code 0 = .ok (.iload_n 0, 1) := by decide +kernel
theorem d_prog_85_method_2_code_1 : decode prog_85_method_2_code 1 = .ok (.bipush 58, 2) := by decide +kernel
theorem d_prog_85_method_2_code_3 : decode prog_85_method_2_code 3 = .ok (.if_icmp .eq 194, 3) := by decide +kernel
theorem d_prog_85_method_2_code_197 : decode prog_85_method_2_code 197 = .ok (.iconst 1, 1) := by decide +kernel
theorem d_prog_85_method_2_code_198 : decode prog_85_method_2_code 198 = .ok (.goto 4, 3) := by decide +kernel
theorem d_prog_85_method_2_code_202 : decode prog_85_method_2_code 202 = .ok (.ireturn, 1) := by decide +kernel
theorem d_prog_85_method_2_code_6 : decode prog_85_method_2_code 6 = .ok (.iload_n 0, 1) := by decide +kernel
theorem d_prog_85_method_2_code_7 : decode prog_85_method_2_code 7 = .ok (.bipush 65, 2) := by decide +kernel
theorem d_prog_85_method_2_code_9 : decode prog_85_method_2_code 9 = .ok (.if_icmp .lt 9, 3) := by decide +kernel
theorem d_prog_85_method_2_code_18 : decode prog_85_method_2_code 18 = .ok (.iload_n 0, 1) := by decide +kernel
theorem d_prog_85_method_2_code_19 : decode prog_85_method_2_code 19 = .ok (.bipush 95, 2) := by decide +kernel
theorem d_prog_85_method_2_code_21 : decode prog_85_method_2_code 21 = .ok (.if_icmp .eq 176, 3) := by decide +kernel
theorem d_prog_85_method_2_code_24 : decode prog_85_method_2_code 24 = .ok (.iload_n 0, 1) := by decide +kernel
theorem d_prog_85_method_2_code_25 : decode prog_85_method_2_code 25 = .ok (.bipush 97, 2) := by decide +kernel
theorem d_prog_85_method_2_code_27 : decode prog_85_method_2_code 27 = .ok (.if_icmp .lt 9, 3) := by decide +kernel
theorem d_prog_85_method_2_code_36 : decode prog_85_method_2_code 36 = .ok (.iload_n 0, 1) := by decide +kernel
theorem d_prog_85_method_2_code_37 : decode prog_85_method_2_code 37 = .ok (.sipush 192, 3) := by decide +kernel
theorem d_prog_85_method_2_code_40 : decode prog_85_method_2_code 40 = .ok (.if_icmp .lt 10, 3) := by decide +kernel
theorem d_prog_85_method_2_code_50 : decode prog_85_method_2_code 50 = .ok (.iload_n 0, 1) := by decide +kernel
theorem d_prog_85_method_2_code_51 : decode prog_85_method_2_code 51 = .ok (.sipush 216, 3) := by decide +kernel
theorem d_prog_85_method_2_code_54 : decode prog_85_method_2_code 54 = .ok (.if_icmp .lt 10, 3) := by decide +kernel
theorem d_prog_85_method_2_code_64 : decode prog_85_method_2_code 64 = .ok (.iload_n 0, 1) := by decide +kernel
theorem d_prog_85_method_2_code_65 : decode prog_85_method_2_code 65 = .ok (.sipush 248, 3) := by decide +kernel
theorem d_prog_85_method_2_code_68 : decode prog_85_method_2_code 68 = .ok (.if_icmp .lt 10, 3) := by decide +kernel
theorem d_prog_85_method_2_code_78 : decode prog_85_method_2_code 78 = .ok (.iload_n 0, 1) := by decide +kernel
theorem d_prog_85_method_2_code_79 : decode prog_85_method_2_code 79 = .ok (.sipush 880, 3) := by decide +kernel
theorem d_prog_85_method_2_code_82 : decode prog_85_method_2_code 82 = .ok (.if_icmp .lt 10, 3) := by decide +kernel
theorem d_prog_85_method_2_code_92 : decode prog_85_method_2_code 92 = .ok (.iload_n 0, 1) := by decide +kernel
theorem d_prog_85_method_2_code_93 : decode prog_85_method_2_code 93 = .ok (.sipush 895, 3) := by decide +kernel
theorem d_prog_85_method_2_code_96 : decode prog_85_method_2_code 96 = .ok (.if_icmp .lt 10, 3) := by decide +kernel
theorem d_prog_85_method_2_code_106 : decode prog_85_method_2_code 106 = .ok (.iload_n 0, 1) := by decide +kernel
theorem d_prog_85_method_2_code_107 : decode prog_85_method_2_code 107 = .ok (.sipush 8204, 3) := by decide +kernel
theorem d_prog_85_method_2_code_110 : decode prog_85_method_2_code 110 = .ok (.if_icmp .lt 10, 3) := by decide +kernel
theorem d_prog_85_method_2_code_120 : decode prog_85_method_2_code 120 = .ok (.iload_n 0, 1) := by decide +kernel
theorem d_prog_85_method_2_code_121 : decode prog_85_method_2_code 121 = .ok (.sipush 8304, 3) := by decide +kernel
theorem d_prog_85_method_2_code_124 : decode prog_85_method_2_code 124 = .ok (.if_icmp .lt 10, 3) := by decide +kernel
theorem d_prog_85_method_2_code_134 : decode prog_85_method_2_code 134 = .ok (.iload_n 0, 1) := by decide +kernel
theorem d_prog_85_method_2_code_135 : decode prog_85_method_2_code 135 = .ok (.sipush 11264, 3) := by decide +kernel
theorem d_prog_85_method_2_code_138 : decode prog_85_method_2_code 138 = .ok (.if_icmp .lt 10, 3) := by decide +kernel
theorem d_prog_85_method_2_code_148 : decode prog_85_method_2_code 148 = .ok (.iload_n 0, 1) := by decide +kernel
theorem d_prog_85_method_2_code_149 : decode prog_85_method_2_code 149 = .ok (.sipush 12289, 3) := by decide +kernel
theorem d_prog_85_method_2_code_152 : decode prog_85_method_2_code 152 = .ok (.if_icmp .lt 9, 3) := by decide +kernel
theorem d_prog_85_method_2_code_161 : decode prog_85_method_2_code 161 = .ok (.iload_n 0, 1) := by decide +kernel
theorem d_prog_85_method_2_code_162 : decode prog_85_method_2_code 162 = .ok (.ldc 8, 2) := by decide +kernel
theorem d_prog_85_method_2_code_164 : decode prog_85_method_2_code 164 = .ok (.if_icmp .lt 9, 3) := by decide +kernel
theorem d_prog_85_method_2_code_173 : decode prog_85_method_2_code 173 = .ok (.iload_n 0, 1) := by decide +kernel
theorem d_prog_85_method_2_code_174 : decode prog_85_method_2_code 174 = .ok (.ldc 10, 2) := by decide +kernel
theorem d_prog_85_method_2_code_176 : decode prog_85_method_2_code 176 = .ok (.if_icmp .lt 9, 3) := by decide +kernel
theorem d_prog_85_method_2_code_185 : decode prog_85_method_2_code 185 = .ok (.iload_n 0, 1) := by decide +kernel
theorem d_prog_85_method_2_code_186 : decode prog_85_method_2_code 186 = .ok (.ldc 12, 2) := by decide +kernel
theorem d_prog_85_method_2_code_188 : decode prog_85_method_2_code 188 = .ok (.if_icmp .lt 13, 3) := by decide +kernel
theorem d_prog_85_method_2_code_201 : decode prog_85_method_2_code 201 = .ok (.iconst 0, 1) := by decide +kernel
theorem d_prog_85_method_2_code_12 : decode prog_85_method_2_code 12 = .ok (.iload_n 0, 1) := by decide +kernel
theorem d_prog_85_method_2_code_13 : decode prog_85_method_2_code 13 = .ok (.bipush 90, 2) := by decide +kernel
theorem d_prog_85_method_2_code_15 : decode prog_85_method_2_code 15 = .ok (.if_icmp .le 182, 3) := by decide +kernel
theorem d_prog_85_method_2_code_30 : decode prog_85_method_2_code 30 = .ok (.iload_n 0, 1) := by decide +kernel
theorem d_prog_85_method_2_code_31 : decode prog_85_method_2_code 31 = .ok (.bipush 122, 2) := by decide +kernel
theorem d_prog_85_method_2_code_33 : decode prog_85_method_2_code 33 = .ok (.if_icmp .le 164, 3) := by decide +kernel
theorem d_prog_85_method_2_code_43 : decode prog_85_method_2_code 43 = .ok (.iload_n 0, 1) := by decide +kernel
theorem d_prog_85_method_2_code_44 : decode prog_85_method_2_code 44 = .ok (.sipush 214, 3) := by decide +kernel
theorem d_prog_85_method_2_code_47 : decode prog_85_method_2_code 47 = .ok (.if_icmp .le 150, 3) := by decide +kernel
theorem d_prog_85_method_2_code_57 : decode prog_85_method_2_code 57 = .ok (.iload_n 0, 1) := by decide +kernel
theorem d_prog_85_method_2_code_58 : decode prog_85_method_2_code 58 = .ok (.sipush 246, 3) := by decide +kernel
theorem d_prog_85_method_2_code_61 : decode prog_85_method_2_code 61 = .ok (.if_icmp .le 136, 3) := by decide +kernel
theorem d_prog_85_method_2_code_71 : decode prog_85_method_2_code 71 = .ok (.iload_n 0, 1) := by decide +kernel
theorem d_prog_85_method_2_code_72 : decode prog_85_method_2_code 72 = .ok (.sipush 767, 3) := by decide +kernel
theorem d_prog_85_method_2_code_75 : decode prog_85_method_2_code 75 = .ok (.if_icmp .le 122, 3) := by decide +kernel
theorem d_prog_85_method_2_code_85 : decode prog_85_method_2_code 85 = .ok (.iload_n 0, 1) := by decide +kernel
theorem d_prog_85_method_2_code_86 : decode prog_85_method_2_code 86 = .ok (.sipush 893, 3) := by decide +kernel
theorem d_prog_85_method_2_code_89 : decode prog_85_method_2_code 89 = .ok (.if_icmp .le 108, 3) := by decide +kernel
theorem d_prog_85_method_2_code_99 : decode prog_85_method_2_code 99 = .ok (.iload_n 0, 1) := by decide +kernel
theorem d_prog_85_method_2_code_100 : decode prog_85_method_2_code 100 = .ok (.sipush 8191, 3) := by decide +kernel
theorem d_prog_85_method_2_code_103 : decode prog_85_method_2_code 103 = .ok (.if_icmp .le 94, 3) := by decide +kernel
theorem d_prog_85_method_2_code_113 : decode prog_85_method_2_code 113 = .ok (.iload_n 0, 1) := by decide +kernel
theorem d_prog_85_method_2_code_114 : decode prog_85_method_2_code 114 = .ok (.sipush 8205, 3) := by decide +kernel
theorem d_prog_85_method_2_code_117 : decode prog_85_method_2_code 117 = .ok (.if_icmp .le 80, 3) := by decide +kernel
theorem d_prog_85_method_2_code_127 : decode prog_85_method_2_code 127 = .ok (.iload_n 0, 1) := by decide +kernel
theorem d_prog_85_method_2_code_128 : decode prog_85_method_2_code 128 = .ok (.sipush 8591, 3) := by decide +kernel
theorem d_prog_85_method_2_code_131 : decode prog_85_method_2_code 131 = .ok (.if_icmp .le 66, 3) := by decide +kernel
theorem d_prog_85_method_2_code_141 : decode prog_85_method_2_code 141 = .ok (.iload_n 0, 1) := by decide +kernel
theorem d_prog_85_method_2_code_142 : decode prog_85_method_2_code 142 = .ok (.sipush 12271, 3) := by decide +kernel
theorem d_prog_85_method_2_code_145 : decode prog_85_method_2_code 145 = .ok (.if_icmp .le 52, 3) := by decide +kernel
theorem d_prog_85_method_2_code_155 : decode prog_85_method_2_code 155 = .ok (.iload_n 0, 1) := by decide +kernel
theorem d_prog_85_method_2_code_156 : decode prog_85_method_2_code 156 = .ok (.ldc 7, 2) := by decide +kernel
theorem d_prog_85_method_2_code_158 : decode prog_85_method_2_code 158 = .ok (.if_icmp .le 39, 3) := by decide +kernel
theorem d_prog_85_method_2_code_167 : decode prog_85_method_2_code 167 = .ok (.iload_n 0, 1) := by decide +kernel
theorem d_prog_85_method_2_code_168 : decode prog_85_method_2_code 168 = .ok (.ldc 9, 2) := by decide +kernel
theorem d_prog_85_method_2_code_170 : decode prog_85_method_2_code 170 = .ok (.if_icmp .le 27, 3) := by decide +kernel
theorem d_prog_85_method_2_code_179 : decode prog_85_method_2_code 179 = .ok (.iload_n 0, 1) := by decide +kernel
theorem d_prog_85_method_2_code_180 : decode prog_85_method_2_code 180 = .ok (.ldc 11, 2) := by decide +kernel
theorem d_prog_85_method_2_code_182 : decode prog_85_method_2_code 182 = .ok (.if_icmp .le 15, 3) := by decide +kernel
theorem d_prog_85_method_2_code_191 : decode prog_85_method_2_code 191 = .ok (.iload_n 0, 1) := by decide +kernel
theorem d_prog_85_method_2_code_192 : decode prog_85_method_2_code 192 = .ok (.ldc 13, 2) := by decide +kernel
theorem d_prog_85_method_2_code_194 : decode prog_85_method_2_code 194 = .ok (.if_icmp .gt 7, 3) := by decide +kernel
theorem ef_1 (m : MethodId) (p0 : Int32) : entryFrame m #[(.int p0)] 1 = mkF m 0 #[.val (.int p0)] [] := by first | (simp [entryFrame, mkF, argsToLocals, Value.category]; done) | rfl
def Q_rm_own_start (Z : State) (p0 : Int32)  (h0 : Heap) (n0 : Nat) (v : Option Value) (h : Heap) (L : List Loc) : Prop := v = some (.int (own_start p0)) ∧ Fr n0 L ∧ h = h0
set_option maxRecDepth 65536 in
set_option maxHeartbeats 40000000 in
theorem rm_own_start (l : Launch) (Z : State) (a0 : Array Value) (hw : ∀ d ∈ tables_1, d.before a0 Z = true) (ws : List Jvm.Cond) (p0 : Int32)  (h0 : Heap) (n0 : Nat) (Z0 : n0 ≤ h0.size)  :
    MetFree l (⟨"com/example/ivaldi/ivaldi/model/NameCharacters", "isNameStart", "(I)Z"⟩ : MethodName) (head1 (Jvm.Cond.code (⟨"com/example/ivaldi/ivaldi/model/NameCharacters", "isNameStart", "(I)Z"⟩ : MethodName) prog_85_method_2_code 1 (some .boolean) :: ws) ({ frames := 0, cells := 0, slots := 0, locals := 0 } : Room)) (fun av_ U => av_ = #[(.int p0)] ∧ Z.Warmed39 U.vm ∧ U.heap = h0) (fun _ _ _ _ _ => True) (fun _ U o U' => ∃ v L, o = .returned v ∧ Q_rm_own_start Z p0 h0 n0 v U'.heap L ∧ FrameEnd U o U' L ({ frames := 0, cells := 0, slots := 0, locals := 0 } : Room).cells ({ frames := 0, cells := 0, slots := 0, locals := 0 } : Room).slots) := by
  refine MetFree.of_bodySF (plainFor_of_name pn_0) hisR ?_
  intro p e s m args below meth c s₁ Bd hml0 hP hK
  obtain ⟨rfl, hZ, hh⟩ := hP
  have hx := Bd.exec
  have hby := Bd.bytes
  have hml : c.maxLocals = 1 := hml0
  have hown : s.vm.findClass "com/example/ivaldi/ivaldi/model/NameCharacters" = some m.cls := findClass_of_methodNamed Bd.named
  have hnm := (name_of_methodNamed Bd.named Bd.method).1
  have hlk : meth.locks = false := BodyLoose.notSynchronized Bd
  have X0 : Stand p l e ({ frames := 0, cells := 0, slots := 0, locals := 0 } : Room) s m #[(.int p0)] below meth c s₁ [] 0 0 := Stand.of_body Bd
  have e0 : s₁.heap = h0 := by rw [← hh, Bd.state]; rfl
  have N0 := Fr.nil n0
  refine own_by (fun _ kt => castTop (ef_1 m p0) kt) (R := own_R s (Q_rm_own_start Z p0 h0 n0) 0 0) ?_
  show own_Go p.tables e below (s₁.setTop (mkF m 0 #[.val (.int p0)] [])) _
  refine own_by (fun _ kt => XS.iloadN X0.here hx rfl (hb hby d_prog_85_method_2_code_0) rfl kt) ?_
  show own_Go p.tables e below (s₁.setTop (mkF m 1 #[.val (.int p0)] [(.int p0)])) _
  refine own_by (fun _ kt => XS.bipush X0.here hx rfl (hb hby d_prog_85_method_2_code_1) kt) ?_
  show own_Go p.tables e below (s₁.setTop (mkF m 3 #[.val (.int p0)] [(.int (58 : Int32)), (.int p0)])) _
  by_cases hc3_1 : p0 = (58 : Int32)
  · refine own_by (fun _ kt => XS.icmpYes X0.here hx rfl (pc0 := 3) (pc' := 197) rfl (hb hby d_prog_85_method_2_code_3) rfl (teq hc3_1).1 (by decide) (by decide) kt) ?_
    show own_Go p.tables e below (s₁.setTop (mkF m 197 #[.val (.int p0)] [])) _
    refine own_by (fun _ kt => XS.iconst X0.here hx rfl (hb hby d_prog_85_method_2_code_197) kt) ?_
    show own_Go p.tables e below (s₁.setTop (mkF m 198 #[.val (.int p0)] [(.int (1 : Int32))])) _
    refine own_by (fun _ kt => XS.goto X0.here hx rfl (pc0 := 198) (pc' := 202) rfl (hb hby d_prog_85_method_2_code_198) (by decide) (by decide) kt) ?_
    show own_Go p.tables e below (s₁.setTop (mkF m 202 #[.val (.int p0)] [(.int (1 : Int32))])) _
    exact own_retN X0 hx (t := .boolean) Bd.returns hlk (by simp) (hb hby d_prog_85_method_2_code_202) ⟨by rw [own_start, if_pos hc3_1] <;> rfl, N0, e0⟩ (by decide) (by decide)
  · refine own_by (fun _ kt => XS.icmpNo X0.here hx rfl (hb hby d_prog_85_method_2_code_3) rfl (feq hc3_1).1 kt) ?_
    show own_Go p.tables e below (s₁.setTop (mkF m 6 #[.val (.int p0)] [])) _
    refine own_by (fun _ kt => XS.iloadN X0.here hx rfl (hb hby d_prog_85_method_2_code_6) rfl kt) ?_
    show own_Go p.tables e below (s₁.setTop (mkF m 7 #[.val (.int p0)] [(.int p0)])) _
    refine own_by (fun _ kt => XS.bipush X0.here hx rfl (hb hby d_prog_85_method_2_code_7) kt) ?_
    show own_Go p.tables e below (s₁.setTop (mkF m 9 #[.val (.int p0)] [(.int (65 : Int32)), (.int p0)])) _
    by_cases hc9_2 : p0 < (65 : Int32)
    · refine own_by (fun _ kt => XS.icmpYes X0.here hx rfl (pc0 := 9) (pc' := 18) rfl (hb hby d_prog_85_method_2_code_9) rfl (tlt hc9_2).1 (by decide) (by decide) kt) ?_
      show own_Go p.tables e below (s₁.setTop (mkF m 18 #[.val (.int p0)] [])) _
      refine own_by (fun _ kt => XS.iloadN X0.here hx rfl (hb hby d_prog_85_method_2_code_18) rfl kt) ?_
      show own_Go p.tables e below (s₁.setTop (mkF m 19 #[.val (.int p0)] [(.int p0)])) _
      refine own_by (fun _ kt => XS.bipush X0.here hx rfl (hb hby d_prog_85_method_2_code_19) kt) ?_
      show own_Go p.tables e below (s₁.setTop (mkF m 21 #[.val (.int p0)] [(.int (95 : Int32)), (.int p0)])) _
      refine own_by (fun _ kt => XS.icmpNo X0.here hx rfl (hb hby d_prog_85_method_2_code_21) rfl (feq (own_q1 hc9_2 (by decide) : ¬ (p0 = (95 : Int32)))).1 kt) ?_
      show own_Go p.tables e below (s₁.setTop (mkF m 24 #[.val (.int p0)] [])) _
      refine own_by (fun _ kt => XS.iloadN X0.here hx rfl (hb hby d_prog_85_method_2_code_24) rfl kt) ?_
      show own_Go p.tables e below (s₁.setTop (mkF m 25 #[.val (.int p0)] [(.int p0)])) _
      refine own_by (fun _ kt => XS.bipush X0.here hx rfl (hb hby d_prog_85_method_2_code_25) kt) ?_
      show own_Go p.tables e below (s₁.setTop (mkF m 27 #[.val (.int p0)] [(.int (97 : Int32)), (.int p0)])) _
      refine own_by (fun _ kt => XS.icmpYes X0.here hx rfl (pc0 := 27) (pc' := 36) rfl (hb hby d_prog_85_method_2_code_27) rfl (tlt (own_i1 hc9_2 (by decide) : p0 < (97 : Int32))).1 (by decide) (by decide) kt) ?_
      show own_Go p.tables e below (s₁.setTop (mkF m 36 #[.val (.int p0)] [])) _
      refine own_by (fun _ kt => XS.iloadN X0.here hx rfl (hb hby d_prog_85_method_2_code_36) rfl kt) ?_
      show own_Go p.tables e below (s₁.setTop (mkF m 37 #[.val (.int p0)] [(.int p0)])) _
      refine own_by (fun _ kt => XS.sipush X0.here hx rfl (hb hby d_prog_85_method_2_code_37) kt) ?_
      show own_Go p.tables e below (s₁.setTop (mkF m 40 #[.val (.int p0)] [(.int (192 : Int32)), (.int p0)])) _
      refine own_by (fun _ kt => XS.icmpYes X0.here hx rfl (pc0 := 40) (pc' := 50) rfl (hb hby d_prog_85_method_2_code_40) rfl (tlt (own_i1 hc9_2 (by decide) : p0 < (192 : Int32))).1 (by decide) (by decide) kt) ?_
      show own_Go p.tables e below (s₁.setTop (mkF m 50 #[.val (.int p0)] [])) _
      refine own_by (fun _ kt => XS.iloadN X0.here hx rfl (hb hby d_prog_85_method_2_code_50) rfl kt) ?_
      show own_Go p.tables e below (s₁.setTop (mkF m 51 #[.val (.int p0)] [(.int p0)])) _
      refine own_by (fun _ kt => XS.sipush X0.here hx rfl (hb hby d_prog_85_method_2_code_51) kt) ?_
      show own_Go p.tables e below (s₁.setTop (mkF m 54 #[.val (.int p0)] [(.int (216 : Int32)), (.int p0)])) _
      refine own_by (fun _ kt => XS.icmpYes X0.here hx rfl (pc0 := 54) (pc' := 64) rfl (hb hby d_prog_85_method_2_code_54) rfl (tlt (own_i1 hc9_2 (by decide) : p0 < (216 : Int32))).1 (by decide) (by decide) kt) ?_
      show own_Go p.tables e below (s₁.setTop (mkF m 64 #[.val (.int p0)] [])) _
      refine own_by (fun _ kt => XS.iloadN X0.here hx rfl (hb hby d_prog_85_method_2_code_64) rfl kt) ?_
      show own_Go p.tables e below (s₁.setTop (mkF m 65 #[.val (.int p0)] [(.int p0)])) _
      refine own_by (fun _ kt => XS.sipush X0.here hx rfl (hb hby d_prog_85_method_2_code_65) kt) ?_
      show own_Go p.tables e below (s₁.setTop (mkF m 68 #[.val (.int p0)] [(.int (248 : Int32)), (.int p0)])) _
      refine own_by (fun _ kt => XS.icmpYes X0.here hx rfl (pc0 := 68) (pc' := 78) rfl (hb hby d_prog_85_method_2_code_68) rfl (tlt (own_i1 hc9_2 (by decide) : p0 < (248 : Int32))).1 (by decide) (by decide) kt) ?_
      show own_Go p.tables e below (s₁.setTop (mkF m 78 #[.val (.int p0)] [])) _
      refine own_by (fun _ kt => XS.iloadN X0.here hx rfl (hb hby d_prog_85_method_2_code_78) rfl kt) ?_
      show own_Go p.tables e below (s₁.setTop (mkF m 79 #[.val (.int p0)] [(.int p0)])) _
      refine own_by (fun _ kt => XS.sipush X0.here hx rfl (hb hby d_prog_85_method_2_code_79) kt) ?_
      show own_Go p.tables e below (s₁.setTop (mkF m 82 #[.val (.int p0)] [(.int (880 : Int32)), (.int p0)])) _
      refine own_by (fun _ kt => XS.icmpYes X0.here hx rfl (pc0 := 82) (pc' := 92) rfl (hb hby d_prog_85_method_2_code_82) rfl (tlt (own_i1 hc9_2 (by decide) : p0 < (880 : Int32))).1 (by decide) (by decide) kt) ?_
      show own_Go p.tables e below (s₁.setTop (mkF m 92 #[.val (.int p0)] [])) _
      refine own_by (fun _ kt => XS.iloadN X0.here hx rfl (hb hby d_prog_85_method_2_code_92) rfl kt) ?_
      show own_Go p.tables e below (s₁.setTop (mkF m 93 #[.val (.int p0)] [(.int p0)])) _
      refine own_by (fun _ kt => XS.sipush X0.here hx rfl (hb hby d_prog_85_method_2_code_93) kt) ?_
      show own_Go p.tables e below (s₁.setTop (mkF m 96 #[.val (.int p0)] [(.int (895 : Int32)), (.int p0)])) _
      refine own_by (fun _ kt => XS.icmpYes X0.here hx rfl (pc0 := 96) (pc' := 106) rfl (hb hby d_prog_85_method_2_code_96) rfl (tlt (own_i1 hc9_2 (by decide) : p0 < (895 : Int32))).1 (by decide) (by decide) kt) ?_
      show own_Go p.tables e below (s₁.setTop (mkF m 106 #[.val (.int p0)] [])) _
      refine own_by (fun _ kt => XS.iloadN X0.here hx rfl (hb hby d_prog_85_method_2_code_106) rfl kt) ?_
      show own_Go p.tables e below (s₁.setTop (mkF m 107 #[.val (.int p0)] [(.int p0)])) _
      refine own_by (fun _ kt => XS.sipush X0.here hx rfl (hb hby d_prog_85_method_2_code_107) kt) ?_
      show own_Go p.tables e below (s₁.setTop (mkF m 110 #[.val (.int p0)] [(.int (8204 : Int32)), (.int p0)])) _
      refine own_by (fun _ kt => XS.icmpYes X0.here hx rfl (pc0 := 110) (pc' := 120) rfl (hb hby d_prog_85_method_2_code_110) rfl (tlt (own_i1 hc9_2 (by decide) : p0 < (8204 : Int32))).1 (by decide) (by decide) kt) ?_
      show own_Go p.tables e below (s₁.setTop (mkF m 120 #[.val (.int p0)] [])) _
      refine own_by (fun _ kt => XS.iloadN X0.here hx rfl (hb hby d_prog_85_method_2_code_120) rfl kt) ?_
      show own_Go p.tables e below (s₁.setTop (mkF m 121 #[.val (.int p0)] [(.int p0)])) _
      refine own_by (fun _ kt => XS.sipush X0.here hx rfl (hb hby d_prog_85_method_2_code_121) kt) ?_
      show own_Go p.tables e below (s₁.setTop (mkF m 124 #[.val (.int p0)] [(.int (8304 : Int32)), (.int p0)])) _
      refine own_by (fun _ kt => XS.icmpYes X0.here hx rfl (pc0 := 124) (pc' := 134) rfl (hb hby d_prog_85_method_2_code_124) rfl (tlt (own_i1 hc9_2 (by decide) : p0 < (8304 : Int32))).1 (by decide) (by decide) kt) ?_
      show own_Go p.tables e below (s₁.setTop (mkF m 134 #[.val (.int p0)] [])) _
      refine own_by (fun _ kt => XS.iloadN X0.here hx rfl (hb hby d_prog_85_method_2_code_134) rfl kt) ?_
      show own_Go p.tables e below (s₁.setTop (mkF m 135 #[.val (.int p0)] [(.int p0)])) _
      refine own_by (fun _ kt => XS.sipush X0.here hx rfl (hb hby d_prog_85_method_2_code_135) kt) ?_
      show own_Go p.tables e below (s₁.setTop (mkF m 138 #[.val (.int p0)] [(.int (11264 : Int32)), (.int p0)])) _
      refine own_by (fun _ kt => XS.icmpYes X0.here hx rfl (pc0 := 138) (pc' := 148) rfl (hb hby d_prog_85_method_2_code_138) rfl (tlt (own_i1 hc9_2 (by decide) : p0 < (11264 : Int32))).1 (by decide) (by decide) kt) ?_
      show own_Go p.tables e below (s₁.setTop (mkF m 148 #[.val (.int p0)] [])) _
      refine own_by (fun _ kt => XS.iloadN X0.here hx rfl (hb hby d_prog_85_method_2_code_148) rfl kt) ?_
      show own_Go p.tables e below (s₁.setTop (mkF m 149 #[.val (.int p0)] [(.int p0)])) _
      refine own_by (fun _ kt => XS.sipush X0.here hx rfl (hb hby d_prog_85_method_2_code_149) kt) ?_
      show own_Go p.tables e below (s₁.setTop (mkF m 152 #[.val (.int p0)] [(.int (12289 : Int32)), (.int p0)])) _
      refine own_by (fun _ kt => XS.icmpYes X0.here hx rfl (pc0 := 152) (pc' := 161) rfl (hb hby d_prog_85_method_2_code_152) rfl (tlt (own_i1 hc9_2 (by decide) : p0 < (12289 : Int32))).1 (by decide) (by decide) kt) ?_
      show own_Go p.tables e below (s₁.setTop (mkF m 161 #[.val (.int p0)] [])) _
      refine own_by (fun _ kt => XS.iloadN X0.here hx rfl (hb hby d_prog_85_method_2_code_161) rfl kt) ?_
      show own_Go p.tables e below (s₁.setTop (mkF m 162 #[.val (.int p0)] [(.int p0)])) _
      refine own_by (X0.ldcInt hx hown (mvT hZ (hw _ (List.mem_of_getElem? (i := 19) rfl))) (g := (mkF m 162 #[.val (.int p0)] [(.int p0)])) rfl (hb hby d_prog_85_method_2_code_162)) ?_
      show own_Go p.tables e below (s₁.setTop (mkF m 164 #[.val (.int p0)] [(.int (63744 : Int32)), (.int p0)])) _
      refine own_by (fun _ kt => XS.icmpYes X0.here hx rfl (pc0 := 164) (pc' := 173) rfl (hb hby d_prog_85_method_2_code_164) rfl (tlt (own_i1 hc9_2 (by decide) : p0 < (63744 : Int32))).1 (by decide) (by decide) kt) ?_
      show own_Go p.tables e below (s₁.setTop (mkF m 173 #[.val (.int p0)] [])) _
      refine own_by (fun _ kt => XS.iloadN X0.here hx rfl (hb hby d_prog_85_method_2_code_173) rfl kt) ?_
      show own_Go p.tables e below (s₁.setTop (mkF m 174 #[.val (.int p0)] [(.int p0)])) _
      refine own_by (X0.ldcInt hx hown (mvT hZ (hw _ (List.mem_of_getElem? (i := 20) rfl))) (g := (mkF m 174 #[.val (.int p0)] [(.int p0)])) rfl (hb hby d_prog_85_method_2_code_174)) ?_
      show own_Go p.tables e below (s₁.setTop (mkF m 176 #[.val (.int p0)] [(.int (65008 : Int32)), (.int p0)])) _
      refine own_by (fun _ kt => XS.icmpYes X0.here hx rfl (pc0 := 176) (pc' := 185) rfl (hb hby d_prog_85_method_2_code_176) rfl (tlt (own_i1 hc9_2 (by decide) : p0 < (65008 : Int32))).1 (by decide) (by decide) kt) ?_
      show own_Go p.tables e below (s₁.setTop (mkF m 185 #[.val (.int p0)] [])) _
      refine own_by (fun _ kt => XS.iloadN X0.here hx rfl (hb hby d_prog_85_method_2_code_185) rfl kt) ?_
      show own_Go p.tables e below (s₁.setTop (mkF m 186 #[.val (.int p0)] [(.int p0)])) _
      refine own_by (X0.ldcInt hx hown (mvT hZ (hw _ (List.mem_of_getElem? (i := 21) rfl))) (g := (mkF m 186 #[.val (.int p0)] [(.int p0)])) rfl (hb hby d_prog_85_method_2_code_186)) ?_
      show own_Go p.tables e below (s₁.setTop (mkF m 188 #[.val (.int p0)] [(.int (65536 : Int32)), (.int p0)])) _
      refine own_by (fun _ kt => XS.icmpYes X0.here hx rfl (pc0 := 188) (pc' := 201) rfl (hb hby d_prog_85_method_2_code_188) rfl (tlt (own_i1 hc9_2 (by decide) : p0 < (65536 : Int32))).1 (by decide) (by decide) kt) ?_
      show own_Go p.tables e below (s₁.setTop (mkF m 201 #[.val (.int p0)] [])) _
      refine own_by (fun _ kt => XS.iconst X0.here hx rfl (hb hby d_prog_85_method_2_code_201) kt) ?_
      show own_Go p.tables e below (s₁.setTop (mkF m 202 #[.val (.int p0)] [(.int (0 : Int32))])) _
      exact own_retN X0 hx (t := .boolean) Bd.returns hlk (by simp) (hb hby d_prog_85_method_2_code_202) ⟨by rw [own_start, if_neg hc3_1, if_pos hc9_2] <;> rfl, N0, e0⟩ (by decide) (by decide)
    · refine own_by (fun _ kt => XS.icmpNo X0.here hx rfl (hb hby d_prog_85_method_2_code_9) rfl (flt hc9_2).1 kt) ?_
      show own_Go p.tables e below (s₁.setTop (mkF m 12 #[.val (.int p0)] [])) _
      refine own_by (fun _ kt => XS.iloadN X0.here hx rfl (hb hby d_prog_85_method_2_code_12) rfl kt) ?_
      show own_Go p.tables e below (s₁.setTop (mkF m 13 #[.val (.int p0)] [(.int p0)])) _
      refine own_by (fun _ kt => XS.bipush X0.here hx rfl (hb hby d_prog_85_method_2_code_13) kt) ?_
      show own_Go p.tables e below (s₁.setTop (mkF m 15 #[.val (.int p0)] [(.int (90 : Int32)), (.int p0)])) _
      by_cases hc15_3 : (90 : Int32) < p0
      · refine own_by (fun _ kt => XS.icmpNo X0.here hx rfl (hb hby d_prog_85_method_2_code_15) rfl (tlt hc15_3).2.2.2 kt) ?_
        show own_Go p.tables e below (s₁.setTop (mkF m 18 #[.val (.int p0)] [])) _
        refine own_by (fun _ kt => XS.iloadN X0.here hx rfl (hb hby d_prog_85_method_2_code_18) rfl kt) ?_
        show own_Go p.tables e below (s₁.setTop (mkF m 19 #[.val (.int p0)] [(.int p0)])) _
        refine own_by (fun _ kt => XS.bipush X0.here hx rfl (hb hby d_prog_85_method_2_code_19) kt) ?_
        show own_Go p.tables e below (s₁.setTop (mkF m 21 #[.val (.int p0)] [(.int (95 : Int32)), (.int p0)])) _
        by_cases hc21_4 : p0 = (95 : Int32)
        · refine own_by (fun _ kt => XS.icmpYes X0.here hx rfl (pc0 := 21) (pc' := 197) rfl (hb hby d_prog_85_method_2_code_21) rfl (teq hc21_4).1 (by decide) (by decide) kt) ?_
          show own_Go p.tables e below (s₁.setTop (mkF m 197 #[.val (.int p0)] [])) _
          refine own_by (fun _ kt => XS.iconst X0.here hx rfl (hb hby d_prog_85_method_2_code_197) kt) ?_
          show own_Go p.tables e below (s₁.setTop (mkF m 198 #[.val (.int p0)] [(.int (1 : Int32))])) _
          refine own_by (fun _ kt => XS.goto X0.here hx rfl (pc0 := 198) (pc' := 202) rfl (hb hby d_prog_85_method_2_code_198) (by decide) (by decide) kt) ?_
          show own_Go p.tables e below (s₁.setTop (mkF m 202 #[.val (.int p0)] [(.int (1 : Int32))])) _
          exact own_retN X0 hx (t := .boolean) Bd.returns hlk (by simp) (hb hby d_prog_85_method_2_code_202) ⟨by rw [own_start, if_neg hc3_1, if_neg hc9_2, if_pos hc15_3, if_pos hc21_4] <;> rfl, N0, e0⟩ (by decide) (by decide)
        · refine own_by (fun _ kt => XS.icmpNo X0.here hx rfl (hb hby d_prog_85_method_2_code_21) rfl (feq hc21_4).1 kt) ?_
          show own_Go p.tables e below (s₁.setTop (mkF m 24 #[.val (.int p0)] [])) _
          refine own_by (fun _ kt => XS.iloadN X0.here hx rfl (hb hby d_prog_85_method_2_code_24) rfl kt) ?_
          show own_Go p.tables e below (s₁.setTop (mkF m 25 #[.val (.int p0)] [(.int p0)])) _
          refine own_by (fun _ kt => XS.bipush X0.here hx rfl (hb hby d_prog_85_method_2_code_25) kt) ?_
          show own_Go p.tables e below (s₁.setTop (mkF m 27 #[.val (.int p0)] [(.int (97 : Int32)), (.int p0)])) _
          by_cases hc27_5 : p0 < (97 : Int32)
          · refine own_by (fun _ kt => XS.icmpYes X0.here hx rfl (pc0 := 27) (pc' := 36) rfl (hb hby d_prog_85_method_2_code_27) rfl (tlt hc27_5).1 (by decide) (by decide) kt) ?_
            show own_Go p.tables e below (s₁.setTop (mkF m 36 #[.val (.int p0)] [])) _
            refine own_by (fun _ kt => XS.iloadN X0.here hx rfl (hb hby d_prog_85_method_2_code_36) rfl kt) ?_
            show own_Go p.tables e below (s₁.setTop (mkF m 37 #[.val (.int p0)] [(.int p0)])) _
            refine own_by (fun _ kt => XS.sipush X0.here hx rfl (hb hby d_prog_85_method_2_code_37) kt) ?_
            show own_Go p.tables e below (s₁.setTop (mkF m 40 #[.val (.int p0)] [(.int (192 : Int32)), (.int p0)])) _
            refine own_by (fun _ kt => XS.icmpYes X0.here hx rfl (pc0 := 40) (pc' := 50) rfl (hb hby d_prog_85_method_2_code_40) rfl (tlt (own_i1 hc27_5 (by decide) : p0 < (192 : Int32))).1 (by decide) (by decide) kt) ?_
            show own_Go p.tables e below (s₁.setTop (mkF m 50 #[.val (.int p0)] [])) _
            refine own_by (fun _ kt => XS.iloadN X0.here hx rfl (hb hby d_prog_85_method_2_code_50) rfl kt) ?_
            show own_Go p.tables e below (s₁.setTop (mkF m 51 #[.val (.int p0)] [(.int p0)])) _
            refine own_by (fun _ kt => XS.sipush X0.here hx rfl (hb hby d_prog_85_method_2_code_51) kt) ?_
            show own_Go p.tables e below (s₁.setTop (mkF m 54 #[.val (.int p0)] [(.int (216 : Int32)), (.int p0)])) _
            refine own_by (fun _ kt => XS.icmpYes X0.here hx rfl (pc0 := 54) (pc' := 64) rfl (hb hby d_prog_85_method_2_code_54) rfl (tlt (own_i1 hc27_5 (by decide) : p0 < (216 : Int32))).1 (by decide) (by decide) kt) ?_
            show own_Go p.tables e below (s₁.setTop (mkF m 64 #[.val (.int p0)] [])) _
            refine own_by (fun _ kt => XS.iloadN X0.here hx rfl (hb hby d_prog_85_method_2_code_64) rfl kt) ?_
            show own_Go p.tables e below (s₁.setTop (mkF m 65 #[.val (.int p0)] [(.int p0)])) _
            refine own_by (fun _ kt => XS.sipush X0.here hx rfl (hb hby d_prog_85_method_2_code_65) kt) ?_
            show own_Go p.tables e below (s₁.setTop (mkF m 68 #[.val (.int p0)] [(.int (248 : Int32)), (.int p0)])) _
            refine own_by (fun _ kt => XS.icmpYes X0.here hx rfl (pc0 := 68) (pc' := 78) rfl (hb hby d_prog_85_method_2_code_68) rfl (tlt (own_i1 hc27_5 (by decide) : p0 < (248 : Int32))).1 (by decide) (by decide) kt) ?_
            show own_Go p.tables e below (s₁.setTop (mkF m 78 #[.val (.int p0)] [])) _
            refine own_by (fun _ kt => XS.iloadN X0.here hx rfl (hb hby d_prog_85_method_2_code_78) rfl kt) ?_
            show own_Go p.tables e below (s₁.setTop (mkF m 79 #[.val (.int p0)] [(.int p0)])) _
            refine own_by (fun _ kt => XS.sipush X0.here hx rfl (hb hby d_prog_85_method_2_code_79) kt) ?_
            show own_Go p.tables e below (s₁.setTop (mkF m 82 #[.val (.int p0)] [(.int (880 : Int32)), (.int p0)])) _
            refine own_by (fun _ kt => XS.icmpYes X0.here hx rfl (pc0 := 82) (pc' := 92) rfl (hb hby d_prog_85_method_2_code_82) rfl (tlt (own_i1 hc27_5 (by decide) : p0 < (880 : Int32))).1 (by decide) (by decide) kt) ?_
            show own_Go p.tables e below (s₁.setTop (mkF m 92 #[.val (.int p0)] [])) _
            refine own_by (fun _ kt => XS.iloadN X0.here hx rfl (hb hby d_prog_85_method_2_code_92) rfl kt) ?_
            show own_Go p.tables e below (s₁.setTop (mkF m 93 #[.val (.int p0)] [(.int p0)])) _
            refine own_by (fun _ kt => XS.sipush X0.here hx rfl (hb hby d_prog_85_method_2_code_93) kt) ?_
            show own_Go p.tables e below (s₁.setTop (mkF m 96 #[.val (.int p0)] [(.int (895 : Int32)), (.int p0)])) _
            refine own_by (fun _ kt => XS.icmpYes X0.here hx rfl (pc0 := 96) (pc' := 106) rfl (hb hby d_prog_85_method_2_code_96) rfl (tlt (own_i1 hc27_5 (by decide) : p0 < (895 : Int32))).1 (by decide) (by decide) kt) ?_
            show own_Go p.tables e below (s₁.setTop (mkF m 106 #[.val (.int p0)] [])) _
            refine own_by (fun _ kt => XS.iloadN X0.here hx rfl (hb hby d_prog_85_method_2_code_106) rfl kt) ?_
            show own_Go p.tables e below (s₁.setTop (mkF m 107 #[.val (.int p0)] [(.int p0)])) _
            refine own_by (fun _ kt => XS.sipush X0.here hx rfl (hb hby d_prog_85_method_2_code_107) kt) ?_
            show own_Go p.tables e below (s₁.setTop (mkF m 110 #[.val (.int p0)] [(.int (8204 : Int32)), (.int p0)])) _
            refine own_by (fun _ kt => XS.icmpYes X0.here hx rfl (pc0 := 110) (pc' := 120) rfl (hb hby d_prog_85_method_2_code_110) rfl (tlt (own_i1 hc27_5 (by decide) : p0 < (8204 : Int32))).1 (by decide) (by decide) kt) ?_
            show own_Go p.tables e below (s₁.setTop (mkF m 120 #[.val (.int p0)] [])) _
            refine own_by (fun _ kt => XS.iloadN X0.here hx rfl (hb hby d_prog_85_method_2_code_120) rfl kt) ?_
            show own_Go p.tables e below (s₁.setTop (mkF m 121 #[.val (.int p0)] [(.int p0)])) _
            refine own_by (fun _ kt => XS.sipush X0.here hx rfl (hb hby d_prog_85_method_2_code_121) kt) ?_
            show own_Go p.tables e below (s₁.setTop (mkF m 124 #[.val (.int p0)] [(.int (8304 : Int32)), (.int p0)])) _
            refine own_by (fun _ kt => XS.icmpYes X0.here hx rfl (pc0 := 124) (pc' := 134) rfl (hb hby d_prog_85_method_2_code_124) rfl (tlt (own_i1 hc27_5 (by decide) : p0 < (8304 : Int32))).1 (by decide) (by decide) kt) ?_
            show own_Go p.tables e below (s₁.setTop (mkF m 134 #[.val (.int p0)] [])) _
            refine own_by (fun _ kt => XS.iloadN X0.here hx rfl (hb hby d_prog_85_method_2_code_134) rfl kt) ?_
            show own_Go p.tables e below (s₁.setTop (mkF m 135 #[.val (.int p0)] [(.int p0)])) _
            refine own_by (fun _ kt => XS.sipush X0.here hx rfl (hb hby d_prog_85_method_2_code_135) kt) ?_
            show own_Go p.tables e below (s₁.setTop (mkF m 138 #[.val (.int p0)] [(.int (11264 : Int32)), (.int p0)])) _
            refine own_by (fun _ kt => XS.icmpYes X0.here hx rfl (pc0 := 138) (pc' := 148) rfl (hb hby d_prog_85_method_2_code_138) rfl (tlt (own_i1 hc27_5 (by decide) : p0 < (11264 : Int32))).1 (by decide) (by decide) kt) ?_
            show own_Go p.tables e below (s₁.setTop (mkF m 148 #[.val (.int p0)] [])) _
            refine own_by (fun _ kt => XS.iloadN X0.here hx rfl (hb hby d_prog_85_method_2_code_148) rfl kt) ?_
            show own_Go p.tables e below (s₁.setTop (mkF m 149 #[.val (.int p0)] [(.int p0)])) _
            refine own_by (fun _ kt => XS.sipush X0.here hx rfl (hb hby d_prog_85_method_2_code_149) kt) ?_
            show own_Go p.tables e below (s₁.setTop (mkF m 152 #[.val (.int p0)] [(.int (12289 : Int32)), (.int p0)])) _
            refine own_by (fun _ kt => XS.icmpYes X0.here hx rfl (pc0 := 152) (pc' := 161) rfl (hb hby d_prog_85_method_2_code_152) rfl (tlt (own_i1 hc27_5 (by decide) : p0 < (12289 : Int32))).1 (by decide) (by decide) kt) ?_
            show own_Go p.tables e below (s₁.setTop (mkF m 161 #[.val (.int p0)] [])) _
            refine own_by (fun _ kt => XS.iloadN X0.here hx rfl (hb hby d_prog_85_method_2_code_161) rfl kt) ?_
            show own_Go p.tables e below (s₁.setTop (mkF m 162 #[.val (.int p0)] [(.int p0)])) _
            refine own_by (X0.ldcInt hx hown (mvT hZ (hw _ (List.mem_of_getElem? (i := 19) rfl))) (g := (mkF m 162 #[.val (.int p0)] [(.int p0)])) rfl (hb hby d_prog_85_method_2_code_162)) ?_
            show own_Go p.tables e below (s₁.setTop (mkF m 164 #[.val (.int p0)] [(.int (63744 : Int32)), (.int p0)])) _
            refine own_by (fun _ kt => XS.icmpYes X0.here hx rfl (pc0 := 164) (pc' := 173) rfl (hb hby d_prog_85_method_2_code_164) rfl (tlt (own_i1 hc27_5 (by decide) : p0 < (63744 : Int32))).1 (by decide) (by decide) kt) ?_
            show own_Go p.tables e below (s₁.setTop (mkF m 173 #[.val (.int p0)] [])) _
            refine own_by (fun _ kt => XS.iloadN X0.here hx rfl (hb hby d_prog_85_method_2_code_173) rfl kt) ?_
            show own_Go p.tables e below (s₁.setTop (mkF m 174 #[.val (.int p0)] [(.int p0)])) _
            refine own_by (X0.ldcInt hx hown (mvT hZ (hw _ (List.mem_of_getElem? (i := 20) rfl))) (g := (mkF m 174 #[.val (.int p0)] [(.int p0)])) rfl (hb hby d_prog_85_method_2_code_174)) ?_
            show own_Go p.tables e below (s₁.setTop (mkF m 176 #[.val (.int p0)] [(.int (65008 : Int32)), (.int p0)])) _
            refine own_by (fun _ kt => XS.icmpYes X0.here hx rfl (pc0 := 176) (pc' := 185) rfl (hb hby d_prog_85_method_2_code_176) rfl (tlt (own_i1 hc27_5 (by decide) : p0 < (65008 : Int32))).1 (by decide) (by decide) kt) ?_
            show own_Go p.tables e below (s₁.setTop (mkF m 185 #[.val (.int p0)] [])) _
            refine own_by (fun _ kt => XS.iloadN X0.here hx rfl (hb hby d_prog_85_method_2_code_185) rfl kt) ?_
            show own_Go p.tables e below (s₁.setTop (mkF m 186 #[.val (.int p0)] [(.int p0)])) _
            refine own_by (X0.ldcInt hx hown (mvT hZ (hw _ (List.mem_of_getElem? (i := 21) rfl))) (g := (mkF m 186 #[.val (.int p0)] [(.int p0)])) rfl (hb hby d_prog_85_method_2_code_186)) ?_
            show own_Go p.tables e below (s₁.setTop (mkF m 188 #[.val (.int p0)] [(.int (65536 : Int32)), (.int p0)])) _
            refine own_by (fun _ kt => XS.icmpYes X0.here hx rfl (pc0 := 188) (pc' := 201) rfl (hb hby d_prog_85_method_2_code_188) rfl (tlt (own_i1 hc27_5 (by decide) : p0 < (65536 : Int32))).1 (by decide) (by decide) kt) ?_
            show own_Go p.tables e below (s₁.setTop (mkF m 201 #[.val (.int p0)] [])) _
            refine own_by (fun _ kt => XS.iconst X0.here hx rfl (hb hby d_prog_85_method_2_code_201) kt) ?_
            show own_Go p.tables e below (s₁.setTop (mkF m 202 #[.val (.int p0)] [(.int (0 : Int32))])) _
            exact own_retN X0 hx (t := .boolean) Bd.returns hlk (by simp) (hb hby d_prog_85_method_2_code_202) ⟨by rw [own_start, if_neg hc3_1, if_neg hc9_2, if_pos hc15_3, if_neg hc21_4, if_pos hc27_5] <;> rfl, N0, e0⟩ (by decide) (by decide)
          · refine own_by (fun _ kt => XS.icmpNo X0.here hx rfl (hb hby d_prog_85_method_2_code_27) rfl (flt hc27_5).1 kt) ?_
            show own_Go p.tables e below (s₁.setTop (mkF m 30 #[.val (.int p0)] [])) _
            refine own_by (fun _ kt => XS.iloadN X0.here hx rfl (hb hby d_prog_85_method_2_code_30) rfl kt) ?_
            show own_Go p.tables e below (s₁.setTop (mkF m 31 #[.val (.int p0)] [(.int p0)])) _
            refine own_by (fun _ kt => XS.bipush X0.here hx rfl (hb hby d_prog_85_method_2_code_31) kt) ?_
            show own_Go p.tables e below (s₁.setTop (mkF m 33 #[.val (.int p0)] [(.int (122 : Int32)), (.int p0)])) _
            by_cases hc33_6 : (122 : Int32) < p0
            · refine own_by (fun _ kt => XS.icmpNo X0.here hx rfl (hb hby d_prog_85_method_2_code_33) rfl (tlt hc33_6).2.2.2 kt) ?_
              show own_Go p.tables e below (s₁.setTop (mkF m 36 #[.val (.int p0)] [])) _
              refine own_by (fun _ kt => XS.iloadN X0.here hx rfl (hb hby d_prog_85_method_2_code_36) rfl kt) ?_
              show own_Go p.tables e below (s₁.setTop (mkF m 37 #[.val (.int p0)] [(.int p0)])) _
              refine own_by (fun _ kt => XS.sipush X0.here hx rfl (hb hby d_prog_85_method_2_code_37) kt) ?_
              show own_Go p.tables e below (s₁.setTop (mkF m 40 #[.val (.int p0)] [(.int (192 : Int32)), (.int p0)])) _
              by_cases hc40_7 : p0 < (192 : Int32)
              · refine own_by (fun _ kt => XS.icmpYes X0.here hx rfl (pc0 := 40) (pc' := 50) rfl (hb hby d_prog_85_method_2_code_40) rfl (tlt hc40_7).1 (by decide) (by decide) kt) ?_
                show own_Go p.tables e below (s₁.setTop (mkF m 50 #[.val (.int p0)] [])) _
                refine own_by (fun _ kt => XS.iloadN X0.here hx rfl (hb hby d_prog_85_method_2_code_50) rfl kt) ?_
                show own_Go p.tables e below (s₁.setTop (mkF m 51 #[.val (.int p0)] [(.int p0)])) _
                refine own_by (fun _ kt => XS.sipush X0.here hx rfl (hb hby d_prog_85_method_2_code_51) kt) ?_
                show own_Go p.tables e below (s₁.setTop (mkF m 54 #[.val (.int p0)] [(.int (216 : Int32)), (.int p0)])) _
                refine own_by (fun _ kt => XS.icmpYes X0.here hx rfl (pc0 := 54) (pc' := 64) rfl (hb hby d_prog_85_method_2_code_54) rfl (tlt (own_i1 hc40_7 (by decide) : p0 < (216 : Int32))).1 (by decide) (by decide) kt) ?_
                show own_Go p.tables e below (s₁.setTop (mkF m 64 #[.val (.int p0)] [])) _
                refine own_by (fun _ kt => XS.iloadN X0.here hx rfl (hb hby d_prog_85_method_2_code_64) rfl kt) ?_
                show own_Go p.tables e below (s₁.setTop (mkF m 65 #[.val (.int p0)] [(.int p0)])) _
                refine own_by (fun _ kt => XS.sipush X0.here hx rfl (hb hby d_prog_85_method_2_code_65) kt) ?_
                show own_Go p.tables e below (s₁.setTop (mkF m 68 #[.val (.int p0)] [(.int (248 : Int32)), (.int p0)])) _
                refine own_by (fun _ kt => XS.icmpYes X0.here hx rfl (pc0 := 68) (pc' := 78) rfl (hb hby d_prog_85_method_2_code_68) rfl (tlt (own_i1 hc40_7 (by decide) : p0 < (248 : Int32))).1 (by decide) (by decide) kt) ?_
                show own_Go p.tables e below (s₁.setTop (mkF m 78 #[.val (.int p0)] [])) _
                refine own_by (fun _ kt => XS.iloadN X0.here hx rfl (hb hby d_prog_85_method_2_code_78) rfl kt) ?_
                show own_Go p.tables e below (s₁.setTop (mkF m 79 #[.val (.int p0)] [(.int p0)])) _
                refine own_by (fun _ kt => XS.sipush X0.here hx rfl (hb hby d_prog_85_method_2_code_79) kt) ?_
                show own_Go p.tables e below (s₁.setTop (mkF m 82 #[.val (.int p0)] [(.int (880 : Int32)), (.int p0)])) _
                refine own_by (fun _ kt => XS.icmpYes X0.here hx rfl (pc0 := 82) (pc' := 92) rfl (hb hby d_prog_85_method_2_code_82) rfl (tlt (own_i1 hc40_7 (by decide) : p0 < (880 : Int32))).1 (by decide) (by decide) kt) ?_
                show own_Go p.tables e below (s₁.setTop (mkF m 92 #[.val (.int p0)] [])) _
                refine own_by (fun _ kt => XS.iloadN X0.here hx rfl (hb hby d_prog_85_method_2_code_92) rfl kt) ?_
                show own_Go p.tables e below (s₁.setTop (mkF m 93 #[.val (.int p0)] [(.int p0)])) _
                refine own_by (fun _ kt => XS.sipush X0.here hx rfl (hb hby d_prog_85_method_2_code_93) kt) ?_
                show own_Go p.tables e below (s₁.setTop (mkF m 96 #[.val (.int p0)] [(.int (895 : Int32)), (.int p0)])) _
                refine own_by (fun _ kt => XS.icmpYes X0.here hx rfl (pc0 := 96) (pc' := 106) rfl (hb hby d_prog_85_method_2_code_96) rfl (tlt (own_i1 hc40_7 (by decide) : p0 < (895 : Int32))).1 (by decide) (by decide) kt) ?_
                show own_Go p.tables e below (s₁.setTop (mkF m 106 #[.val (.int p0)] [])) _
                refine own_by (fun _ kt => XS.iloadN X0.here hx rfl (hb hby d_prog_85_method_2_code_106) rfl kt) ?_
                show own_Go p.tables e below (s₁.setTop (mkF m 107 #[.val (.int p0)] [(.int p0)])) _
                refine own_by (fun _ kt => XS.sipush X0.here hx rfl (hb hby d_prog_85_method_2_code_107) kt) ?_
                show own_Go p.tables e below (s₁.setTop (mkF m 110 #[.val (.int p0)] [(.int (8204 : Int32)), (.int p0)])) _
                refine own_by (fun _ kt => XS.icmpYes X0.here hx rfl (pc0 := 110) (pc' := 120) rfl (hb hby d_prog_85_method_2_code_110) rfl (tlt (own_i1 hc40_7 (by decide) : p0 < (8204 : Int32))).1 (by decide) (by decide) kt) ?_
                show own_Go p.tables e below (s₁.setTop (mkF m 120 #[.val (.int p0)] [])) _
                refine own_by (fun _ kt => XS.iloadN X0.here hx rfl (hb hby d_prog_85_method_2_code_120) rfl kt) ?_
                show own_Go p.tables e below (s₁.setTop (mkF m 121 #[.val (.int p0)] [(.int p0)])) _
                refine own_by (fun _ kt => XS.sipush X0.here hx rfl (hb hby d_prog_85_method_2_code_121) kt) ?_
                show own_Go p.tables e below (s₁.setTop (mkF m 124 #[.val (.int p0)] [(.int (8304 : Int32)), (.int p0)])) _
                refine own_by (fun _ kt => XS.icmpYes X0.here hx rfl (pc0 := 124) (pc' := 134) rfl (hb hby d_prog_85_method_2_code_124) rfl (tlt (own_i1 hc40_7 (by decide) : p0 < (8304 : Int32))).1 (by decide) (by decide) kt) ?_
                show own_Go p.tables e below (s₁.setTop (mkF m 134 #[.val (.int p0)] [])) _
                refine own_by (fun _ kt => XS.iloadN X0.here hx rfl (hb hby d_prog_85_method_2_code_134) rfl kt) ?_
                show own_Go p.tables e below (s₁.setTop (mkF m 135 #[.val (.int p0)] [(.int p0)])) _
                refine own_by (fun _ kt => XS.sipush X0.here hx rfl (hb hby d_prog_85_method_2_code_135) kt) ?_
                show own_Go p.tables e below (s₁.setTop (mkF m 138 #[.val (.int p0)] [(.int (11264 : Int32)), (.int p0)])) _
                refine own_by (fun _ kt => XS.icmpYes X0.here hx rfl (pc0 := 138) (pc' := 148) rfl (hb hby d_prog_85_method_2_code_138) rfl (tlt (own_i1 hc40_7 (by decide) : p0 < (11264 : Int32))).1 (by decide) (by decide) kt) ?_
                show own_Go p.tables e below (s₁.setTop (mkF m 148 #[.val (.int p0)] [])) _
                refine own_by (fun _ kt => XS.iloadN X0.here hx rfl (hb hby d_prog_85_method_2_code_148) rfl kt) ?_
                show own_Go p.tables e below (s₁.setTop (mkF m 149 #[.val (.int p0)] [(.int p0)])) _
                refine own_by (fun _ kt => XS.sipush X0.here hx rfl (hb hby d_prog_85_method_2_code_149) kt) ?_
                show own_Go p.tables e below (s₁.setTop (mkF m 152 #[.val (.int p0)] [(.int (12289 : Int32)), (.int p0)])) _
                refine own_by (fun _ kt => XS.icmpYes X0.here hx rfl (pc0 := 152) (pc' := 161) rfl (hb hby d_prog_85_method_2_code_152) rfl (tlt (own_i1 hc40_7 (by decide) : p0 < (12289 : Int32))).1 (by decide) (by decide) kt) ?_
                show own_Go p.tables e below (s₁.setTop (mkF m 161 #[.val (.int p0)] [])) _
                refine own_by (fun _ kt => XS.iloadN X0.here hx rfl (hb hby d_prog_85_method_2_code_161) rfl kt) ?_
                show own_Go p.tables e below (s₁.setTop (mkF m 162 #[.val (.int p0)] [(.int p0)])) _
                refine own_by (X0.ldcInt hx hown (mvT hZ (hw _ (List.mem_of_getElem? (i := 19) rfl))) (g := (mkF m 162 #[.val (.int p0)] [(.int p0)])) rfl (hb hby d_prog_85_method_2_code_162)) ?_
                show own_Go p.tables e below (s₁.setTop (mkF m 164 #[.val (.int p0)] [(.int (63744 : Int32)), (.int p0)])) _
                refine own_by (fun _ kt => XS.icmpYes X0.here hx rfl (pc0 := 164) (pc' := 173) rfl (hb hby d_prog_85_method_2_code_164) rfl (tlt (own_i1 hc40_7 (by decide) : p0 < (63744 : Int32))).1 (by decide) (by decide) kt) ?_
                show own_Go p.tables e below (s₁.setTop (mkF m 173 #[.val (.int p0)] [])) _
                refine own_by (fun _ kt => XS.iloadN X0.here hx rfl (hb hby d_prog_85_method_2_code_173) rfl kt) ?_
                show own_Go p.tables e below (s₁.setTop (mkF m 174 #[.val (.int p0)] [(.int p0)])) _
                refine own_by (X0.ldcInt hx hown (mvT hZ (hw _ (List.mem_of_getElem? (i := 20) rfl))) (g := (mkF m 174 #[.val (.int p0)] [(.int p0)])) rfl (hb hby d_prog_85_method_2_code_174)) ?_
                show own_Go p.tables e below (s₁.setTop (mkF m 176 #[.val (.int p0)] [(.int (65008 : Int32)), (.int p0)])) _
                refine own_by (fun _ kt => XS.icmpYes X0.here hx rfl (pc0 := 176) (pc' := 185) rfl (hb hby d_prog_85_method_2_code_176) rfl (tlt (own_i1 hc40_7 (by decide) : p0 < (65008 : Int32))).1 (by decide) (by decide) kt) ?_
                show own_Go p.tables e below (s₁.setTop (mkF m 185 #[.val (.int p0)] [])) _
                refine own_by (fun _ kt => XS.iloadN X0.here hx rfl (hb hby d_prog_85_method_2_code_185) rfl kt) ?_
                show own_Go p.tables e below (s₁.setTop (mkF m 186 #[.val (.int p0)] [(.int p0)])) _
                refine own_by (X0.ldcInt hx hown (mvT hZ (hw _ (List.mem_of_getElem? (i := 21) rfl))) (g := (mkF m 186 #[.val (.int p0)] [(.int p0)])) rfl (hb hby d_prog_85_method_2_code_186)) ?_
                show own_Go p.tables e below (s₁.setTop (mkF m 188 #[.val (.int p0)] [(.int (65536 : Int32)), (.int p0)])) _
                refine own_by (fun _ kt => XS.icmpYes X0.here hx rfl (pc0 := 188) (pc' := 201) rfl (hb hby d_prog_85_method_2_code_188) rfl (tlt (own_i1 hc40_7 (by decide) : p0 < (65536 : Int32))).1 (by decide) (by decide) kt) ?_
                show own_Go p.tables e below (s₁.setTop (mkF m 201 #[.val (.int p0)] [])) _
                refine own_by (fun _ kt => XS.iconst X0.here hx rfl (hb hby d_prog_85_method_2_code_201) kt) ?_
                show own_Go p.tables e below (s₁.setTop (mkF m 202 #[.val (.int p0)] [(.int (0 : Int32))])) _
                exact own_retN X0 hx (t := .boolean) Bd.returns hlk (by simp) (hb hby d_prog_85_method_2_code_202) ⟨by rw [own_start, if_neg hc3_1, if_neg hc9_2, if_pos hc15_3, if_neg hc21_4, if_neg hc27_5, if_pos hc33_6, if_pos hc40_7] <;> rfl, N0, e0⟩ (by decide) (by decide)
              · refine own_by (fun _ kt => XS.icmpNo X0.here hx rfl (hb hby d_prog_85_method_2_code_40) rfl (flt hc40_7).1 kt) ?_
                show own_Go p.tables e below (s₁.setTop (mkF m 43 #[.val (.int p0)] [])) _
                refine own_by (fun _ kt => XS.iloadN X0.here hx rfl (hb hby d_prog_85_method_2_code_43) rfl kt) ?_
                show own_Go p.tables e below (s₁.setTop (mkF m 44 #[.val (.int p0)] [(.int p0)])) _
                refine own_by (fun _ kt => XS.sipush X0.here hx rfl (hb hby d_prog_85_method_2_code_44) kt) ?_
                show own_Go p.tables e below (s₁.setTop (mkF m 47 #[.val (.int p0)] [(.int (214 : Int32)), (.int p0)])) _
                by_cases hc47_8 : (214 : Int32) < p0
                · refine own_by (fun _ kt => XS.icmpNo X0.here hx rfl (hb hby d_prog_85_method_2_code_47) rfl (tlt hc47_8).2.2.2 kt) ?_
                  show own_Go p.tables e below (s₁.setTop (mkF m 50 #[.val (.int p0)] [])) _
                  refine own_by (fun _ kt => XS.iloadN X0.here hx rfl (hb hby d_prog_85_method_2_code_50) rfl kt) ?_
                  show own_Go p.tables e below (s₁.setTop (mkF m 51 #[.val (.int p0)] [(.int p0)])) _
                  refine own_by (fun _ kt => XS.sipush X0.here hx rfl (hb hby d_prog_85_method_2_code_51) kt) ?_
                  show own_Go p.tables e below (s₁.setTop (mkF m 54 #[.val (.int p0)] [(.int (216 : Int32)), (.int p0)])) _
                  by_cases hc54_9 : p0 < (216 : Int32)
                  · refine own_by (fun _ kt => XS.icmpYes X0.here hx rfl (pc0 := 54) (pc' := 64) rfl (hb hby d_prog_85_method_2_code_54) rfl (tlt hc54_9).1 (by decide) (by decide) kt) ?_
                    show own_Go p.tables e below (s₁.setTop (mkF m 64 #[.val (.int p0)] [])) _
                    refine own_by (fun _ kt => XS.iloadN X0.here hx rfl (hb hby d_prog_85_method_2_code_64) rfl kt) ?_
                    show own_Go p.tables e below (s₁.setTop (mkF m 65 #[.val (.int p0)] [(.int p0)])) _
                    refine own_by (fun _ kt => XS.sipush X0.here hx rfl (hb hby d_prog_85_method_2_code_65) kt) ?_
                    show own_Go p.tables e below (s₁.setTop (mkF m 68 #[.val (.int p0)] [(.int (248 : Int32)), (.int p0)])) _
                    refine own_by (fun _ kt => XS.icmpYes X0.here hx rfl (pc0 := 68) (pc' := 78) rfl (hb hby d_prog_85_method_2_code_68) rfl (tlt (own_i1 hc54_9 (by decide) : p0 < (248 : Int32))).1 (by decide) (by decide) kt) ?_
                    show own_Go p.tables e below (s₁.setTop (mkF m 78 #[.val (.int p0)] [])) _
                    refine own_by (fun _ kt => XS.iloadN X0.here hx rfl (hb hby d_prog_85_method_2_code_78) rfl kt) ?_
                    show own_Go p.tables e below (s₁.setTop (mkF m 79 #[.val (.int p0)] [(.int p0)])) _
                    refine own_by (fun _ kt => XS.sipush X0.here hx rfl (hb hby d_prog_85_method_2_code_79) kt) ?_
                    show own_Go p.tables e below (s₁.setTop (mkF m 82 #[.val (.int p0)] [(.int (880 : Int32)), (.int p0)])) _
                    refine own_by (fun _ kt => XS.icmpYes X0.here hx rfl (pc0 := 82) (pc' := 92) rfl (hb hby d_prog_85_method_2_code_82) rfl (tlt (own_i1 hc54_9 (by decide) : p0 < (880 : Int32))).1 (by decide) (by decide) kt) ?_
                    show own_Go p.tables e below (s₁.setTop (mkF m 92 #[.val (.int p0)] [])) _
                    refine own_by (fun _ kt => XS.iloadN X0.here hx rfl (hb hby d_prog_85_method_2_code_92) rfl kt) ?_
                    show own_Go p.tables e below (s₁.setTop (mkF m 93 #[.val (.int p0)] [(.int p0)])) _
                    refine own_by (fun _ kt => XS.sipush X0.here hx rfl (hb hby d_prog_85_method_2_code_93) kt) ?_
                    show own_Go p.tables e below (s₁.setTop (mkF m 96 #[.val (.int p0)] [(.int (895 : Int32)), (.int p0)])) _
                    refine own_by (fun _ kt => XS.icmpYes X0.here hx rfl (pc0 := 96) (pc' := 106) rfl (hb hby d_prog_85_method_2_code_96) rfl (tlt (own_i1 hc54_9 (by decide) : p0 < (895 : Int32))).1 (by decide) (by decide) kt) ?_
                    show own_Go p.tables e below (s₁.setTop (mkF m 106 #[.val (.int p0)] [])) _
                    refine own_by (fun _ kt => XS.iloadN X0.here hx rfl (hb hby d_prog_85_method_2_code_106) rfl kt) ?_
                    show own_Go p.tables e below (s₁.setTop (mkF m 107 #[.val (.int p0)] [(.int p0)])) _
                    refine own_by (fun _ kt => XS.sipush X0.here hx rfl (hb hby d_prog_85_method_2_code_107) kt) ?_
                    show own_Go p.tables e below (s₁.setTop (mkF m 110 #[.val (.int p0)] [(.int (8204 : Int32)), (.int p0)])) _
                    refine own_by (fun _ kt => XS.icmpYes X0.here hx rfl (pc0 := 110) (pc' := 120) rfl (hb hby d_prog_85_method_2_code_110) rfl (tlt (own_i1 hc54_9 (by decide) : p0 < (8204 : Int32))).1 (by decide) (by decide) kt) ?_
                    show own_Go p.tables e below (s₁.setTop (mkF m 120 #[.val (.int p0)] [])) _
                    refine own_by (fun _ kt => XS.iloadN X0.here hx rfl (hb hby d_prog_85_method_2_code_120) rfl kt) ?_
                    show own_Go p.tables e below (s₁.setTop (mkF m 121 #[.val (.int p0)] [(.int p0)])) _
                    refine own_by (fun _ kt => XS.sipush X0.here hx rfl (hb hby d_prog_85_method_2_code_121) kt) ?_
                    show own_Go p.tables e below (s₁.setTop (mkF m 124 #[.val (.int p0)] [(.int (8304 : Int32)), (.int p0)])) _
                    refine own_by (fun _ kt => XS.icmpYes X0.here hx rfl (pc0 := 124) (pc' := 134) rfl (hb hby d_prog_85_method_2_code_124) rfl (tlt (own_i1 hc54_9 (by decide) : p0 < (8304 : Int32))).1 (by decide) (by decide) kt) ?_
                    show own_Go p.tables e below (s₁.setTop (mkF m 134 #[.val (.int p0)] [])) _
                    refine own_by (fun _ kt => XS.iloadN X0.here hx rfl (hb hby d_prog_85_method_2_code_134) rfl kt) ?_
                    show own_Go p.tables e below (s₁.setTop (mkF m 135 #[.val (.int p0)] [(.int p0)])) _
                    refine own_by (fun _ kt => XS.sipush X0.here hx rfl (hb hby d_prog_85_method_2_code_135) kt) ?_
                    show own_Go p.tables e below (s₁.setTop (mkF m 138 #[.val (.int p0)] [(.int (11264 : Int32)), (.int p0)])) _
                    refine own_by (fun _ kt => XS.icmpYes X0.here hx rfl (pc0 := 138) (pc' := 148) rfl (hb hby d_prog_85_method_2_code_138) rfl (tlt (own_i1 hc54_9 (by decide) : p0 < (11264 : Int32))).1 (by decide) (by decide) kt) ?_
                    show own_Go p.tables e below (s₁.setTop (mkF m 148 #[.val (.int p0)] [])) _
                    refine own_by (fun _ kt => XS.iloadN X0.here hx rfl (hb hby d_prog_85_method_2_code_148) rfl kt) ?_
                    show own_Go p.tables e below (s₁.setTop (mkF m 149 #[.val (.int p0)] [(.int p0)])) _
                    refine own_by (fun _ kt => XS.sipush X0.here hx rfl (hb hby d_prog_85_method_2_code_149) kt) ?_
                    show own_Go p.tables e below (s₁.setTop (mkF m 152 #[.val (.int p0)] [(.int (12289 : Int32)), (.int p0)])) _
                    refine own_by (fun _ kt => XS.icmpYes X0.here hx rfl (pc0 := 152) (pc' := 161) rfl (hb hby d_prog_85_method_2_code_152) rfl (tlt (own_i1 hc54_9 (by decide) : p0 < (12289 : Int32))).1 (by decide) (by decide) kt) ?_
                    show own_Go p.tables e below (s₁.setTop (mkF m 161 #[.val (.int p0)] [])) _
                    refine own_by (fun _ kt => XS.iloadN X0.here hx rfl (hb hby d_prog_85_method_2_code_161) rfl kt) ?_
                    show own_Go p.tables e below (s₁.setTop (mkF m 162 #[.val (.int p0)] [(.int p0)])) _
                    refine own_by (X0.ldcInt hx hown (mvT hZ (hw _ (List.mem_of_getElem? (i := 19) rfl))) (g := (mkF m 162 #[.val (.int p0)] [(.int p0)])) rfl (hb hby d_prog_85_method_2_code_162)) ?_
                    show own_Go p.tables e below (s₁.setTop (mkF m 164 #[.val (.int p0)] [(.int (63744 : Int32)), (.int p0)])) _
                    refine own_by (fun _ kt => XS.icmpYes X0.here hx rfl (pc0 := 164) (pc' := 173) rfl (hb hby d_prog_85_method_2_code_164) rfl (tlt (own_i1 hc54_9 (by decide) : p0 < (63744 : Int32))).1 (by decide) (by decide) kt) ?_
                    show own_Go p.tables e below (s₁.setTop (mkF m 173 #[.val (.int p0)] [])) _
                    refine own_by (fun _ kt => XS.iloadN X0.here hx rfl (hb hby d_prog_85_method_2_code_173) rfl kt) ?_
                    show own_Go p.tables e below (s₁.setTop (mkF m 174 #[.val (.int p0)] [(.int p0)])) _
                    refine own_by (X0.ldcInt hx hown (mvT hZ (hw _ (List.mem_of_getElem? (i := 20) rfl))) (g := (mkF m 174 #[.val (.int p0)] [(.int p0)])) rfl (hb hby d_prog_85_method_2_code_174)) ?_
                    show own_Go p.tables e below (s₁.setTop (mkF m 176 #[.val (.int p0)] [(.int (65008 : Int32)), (.int p0)])) _
                    refine own_by (fun _ kt => XS.icmpYes X0.here hx rfl (pc0 := 176) (pc' := 185) rfl (hb hby d_prog_85_method_2_code_176) rfl (tlt (own_i1 hc54_9 (by decide) : p0 < (65008 : Int32))).1 (by decide) (by decide) kt) ?_
                    show own_Go p.tables e below (s₁.setTop (mkF m 185 #[.val (.int p0)] [])) _
                    refine own_by (fun _ kt => XS.iloadN X0.here hx rfl (hb hby d_prog_85_method_2_code_185) rfl kt) ?_
                    show own_Go p.tables e below (s₁.setTop (mkF m 186 #[.val (.int p0)] [(.int p0)])) _
                    refine own_by (X0.ldcInt hx hown (mvT hZ (hw _ (List.mem_of_getElem? (i := 21) rfl))) (g := (mkF m 186 #[.val (.int p0)] [(.int p0)])) rfl (hb hby d_prog_85_method_2_code_186)) ?_
                    show own_Go p.tables e below (s₁.setTop (mkF m 188 #[.val (.int p0)] [(.int (65536 : Int32)), (.int p0)])) _
                    refine own_by (fun _ kt => XS.icmpYes X0.here hx rfl (pc0 := 188) (pc' := 201) rfl (hb hby d_prog_85_method_2_code_188) rfl (tlt (own_i1 hc54_9 (by decide) : p0 < (65536 : Int32))).1 (by decide) (by decide) kt) ?_
                    show own_Go p.tables e below (s₁.setTop (mkF m 201 #[.val (.int p0)] [])) _
                    refine own_by (fun _ kt => XS.iconst X0.here hx rfl (hb hby d_prog_85_method_2_code_201) kt) ?_
                    show own_Go p.tables e below (s₁.setTop (mkF m 202 #[.val (.int p0)] [(.int (0 : Int32))])) _
                    exact own_retN X0 hx (t := .boolean) Bd.returns hlk (by simp) (hb hby d_prog_85_method_2_code_202) ⟨by rw [own_start, if_neg hc3_1, if_neg hc9_2, if_pos hc15_3, if_neg hc21_4, if_neg hc27_5, if_pos hc33_6, if_neg hc40_7, if_pos hc47_8, if_pos hc54_9] <;> rfl, N0, e0⟩ (by decide) (by decide)
                  · refine own_by (fun _ kt => XS.icmpNo X0.here hx rfl (hb hby d_prog_85_method_2_code_54) rfl (flt hc54_9).1 kt) ?_
                    show own_Go p.tables e below (s₁.setTop (mkF m 57 #[.val (.int p0)] [])) _
                    refine own_by (fun _ kt => XS.iloadN X0.here hx rfl (hb hby d_prog_85_method_2_code_57) rfl kt) ?_
                    show own_Go p.tables e below (s₁.setTop (mkF m 58 #[.val (.int p0)] [(.int p0)])) _
                    refine own_by (fun _ kt => XS.sipush X0.here hx rfl (hb hby d_prog_85_method_2_code_58) kt) ?_
                    show own_Go p.tables e below (s₁.setTop (mkF m 61 #[.val (.int p0)] [(.int (246 : Int32)), (.int p0)])) _
                    by_cases hc61_10 : (246 : Int32) < p0
                    · refine own_by (fun _ kt => XS.icmpNo X0.here hx rfl (hb hby d_prog_85_method_2_code_61) rfl (tlt hc61_10).2.2.2 kt) ?_
                      show own_Go p.tables e below (s₁.setTop (mkF m 64 #[.val (.int p0)] [])) _
                      refine own_by (fun _ kt => XS.iloadN X0.here hx rfl (hb hby d_prog_85_method_2_code_64) rfl kt) ?_
                      show own_Go p.tables e below (s₁.setTop (mkF m 65 #[.val (.int p0)] [(.int p0)])) _
                      refine own_by (fun _ kt => XS.sipush X0.here hx rfl (hb hby d_prog_85_method_2_code_65) kt) ?_
                      show own_Go p.tables e below (s₁.setTop (mkF m 68 #[.val (.int p0)] [(.int (248 : Int32)), (.int p0)])) _
                      by_cases hc68_11 : p0 < (248 : Int32)
                      · refine own_by (fun _ kt => XS.icmpYes X0.here hx rfl (pc0 := 68) (pc' := 78) rfl (hb hby d_prog_85_method_2_code_68) rfl (tlt hc68_11).1 (by decide) (by decide) kt) ?_
                        show own_Go p.tables e below (s₁.setTop (mkF m 78 #[.val (.int p0)] [])) _
                        refine own_by (fun _ kt => XS.iloadN X0.here hx rfl (hb hby d_prog_85_method_2_code_78) rfl kt) ?_
                        show own_Go p.tables e below (s₁.setTop (mkF m 79 #[.val (.int p0)] [(.int p0)])) _
                        refine own_by (fun _ kt => XS.sipush X0.here hx rfl (hb hby d_prog_85_method_2_code_79) kt) ?_
                        show own_Go p.tables e below (s₁.setTop (mkF m 82 #[.val (.int p0)] [(.int (880 : Int32)), (.int p0)])) _
                        refine own_by (fun _ kt => XS.icmpYes X0.here hx rfl (pc0 := 82) (pc' := 92) rfl (hb hby d_prog_85_method_2_code_82) rfl (tlt (own_i1 hc68_11 (by decide) : p0 < (880 : Int32))).1 (by decide) (by decide) kt) ?_
                        show own_Go p.tables e below (s₁.setTop (mkF m 92 #[.val (.int p0)] [])) _
                        refine own_by (fun _ kt => XS.iloadN X0.here hx rfl (hb hby d_prog_85_method_2_code_92) rfl kt) ?_
                        show own_Go p.tables e below (s₁.setTop (mkF m 93 #[.val (.int p0)] [(.int p0)])) _
                        refine own_by (fun _ kt => XS.sipush X0.here hx rfl (hb hby d_prog_85_method_2_code_93) kt) ?_
                        show own_Go p.tables e below (s₁.setTop (mkF m 96 #[.val (.int p0)] [(.int (895 : Int32)), (.int p0)])) _
                        refine own_by (fun _ kt => XS.icmpYes X0.here hx rfl (pc0 := 96) (pc' := 106) rfl (hb hby d_prog_85_method_2_code_96) rfl (tlt (own_i1 hc68_11 (by decide) : p0 < (895 : Int32))).1 (by decide) (by decide) kt) ?_
                        show own_Go p.tables e below (s₁.setTop (mkF m 106 #[.val (.int p0)] [])) _
                        refine own_by (fun _ kt => XS.iloadN X0.here hx rfl (hb hby d_prog_85_method_2_code_106) rfl kt) ?_
                        show own_Go p.tables e below (s₁.setTop (mkF m 107 #[.val (.int p0)] [(.int p0)])) _
                        refine own_by (fun _ kt => XS.sipush X0.here hx rfl (hb hby d_prog_85_method_2_code_107) kt) ?_
                        show own_Go p.tables e below (s₁.setTop (mkF m 110 #[.val (.int p0)] [(.int (8204 : Int32)), (.int p0)])) _
                        refine own_by (fun _ kt => XS.icmpYes X0.here hx rfl (pc0 := 110) (pc' := 120) rfl (hb hby d_prog_85_method_2_code_110) rfl (tlt (own_i1 hc68_11 (by decide) : p0 < (8204 : Int32))).1 (by decide) (by decide) kt) ?_
                        show own_Go p.tables e below (s₁.setTop (mkF m 120 #[.val (.int p0)] [])) _
                        refine own_by (fun _ kt => XS.iloadN X0.here hx rfl (hb hby d_prog_85_method_2_code_120) rfl kt) ?_
                        show own_Go p.tables e below (s₁.setTop (mkF m 121 #[.val (.int p0)] [(.int p0)])) _
                        refine own_by (fun _ kt => XS.sipush X0.here hx rfl (hb hby d_prog_85_method_2_code_121) kt) ?_
                        show own_Go p.tables e below (s₁.setTop (mkF m 124 #[.val (.int p0)] [(.int (8304 : Int32)), (.int p0)])) _
                        refine own_by (fun _ kt => XS.icmpYes X0.here hx rfl (pc0 := 124) (pc' := 134) rfl (hb hby d_prog_85_method_2_code_124) rfl (tlt (own_i1 hc68_11 (by decide) : p0 < (8304 : Int32))).1 (by decide) (by decide) kt) ?_
                        show own_Go p.tables e below (s₁.setTop (mkF m 134 #[.val (.int p0)] [])) _
                        refine own_by (fun _ kt => XS.iloadN X0.here hx rfl (hb hby d_prog_85_method_2_code_134) rfl kt) ?_
                        show own_Go p.tables e below (s₁.setTop (mkF m 135 #[.val (.int p0)] [(.int p0)])) _
                        refine own_by (fun _ kt => XS.sipush X0.here hx rfl (hb hby d_prog_85_method_2_code_135) kt) ?_
                        show own_Go p.tables e below (s₁.setTop (mkF m 138 #[.val (.int p0)] [(.int (11264 : Int32)), (.int p0)])) _
                        refine own_by (fun _ kt => XS.icmpYes X0.here hx rfl (pc0 := 138) (pc' := 148) rfl (hb hby d_prog_85_method_2_code_138) rfl (tlt (own_i1 hc68_11 (by decide) : p0 < (11264 : Int32))).1 (by decide) (by decide) kt) ?_
                        show own_Go p.tables e below (s₁.setTop (mkF m 148 #[.val (.int p0)] [])) _
                        refine own_by (fun _ kt => XS.iloadN X0.here hx rfl (hb hby d_prog_85_method_2_code_148) rfl kt) ?_
                        show own_Go p.tables e below (s₁.setTop (mkF m 149 #[.val (.int p0)] [(.int p0)])) _
                        refine own_by (fun _ kt => XS.sipush X0.here hx rfl (hb hby d_prog_85_method_2_code_149) kt) ?_
                        show own_Go p.tables e below (s₁.setTop (mkF m 152 #[.val (.int p0)] [(.int (12289 : Int32)), (.int p0)])) _
                        refine own_by (fun _ kt => XS.icmpYes X0.here hx rfl (pc0 := 152) (pc' := 161) rfl (hb hby d_prog_85_method_2_code_152) rfl (tlt (own_i1 hc68_11 (by decide) : p0 < (12289 : Int32))).1 (by decide) (by decide) kt) ?_
                        show own_Go p.tables e below (s₁.setTop (mkF m 161 #[.val (.int p0)] [])) _
                        refine own_by (fun _ kt => XS.iloadN X0.here hx rfl (hb hby d_prog_85_method_2_code_161) rfl kt) ?_
                        show own_Go p.tables e below (s₁.setTop (mkF m 162 #[.val (.int p0)] [(.int p0)])) _
                        refine own_by (X0.ldcInt hx hown (mvT hZ (hw _ (List.mem_of_getElem? (i := 19) rfl))) (g := (mkF m 162 #[.val (.int p0)] [(.int p0)])) rfl (hb hby d_prog_85_method_2_code_162)) ?_
                        show own_Go p.tables e below (s₁.setTop (mkF m 164 #[.val (.int p0)] [(.int (63744 : Int32)), (.int p0)])) _
                        refine own_by (fun _ kt => XS.icmpYes X0.here hx rfl (pc0 := 164) (pc' := 173) rfl (hb hby d_prog_85_method_2_code_164) rfl (tlt (own_i1 hc68_11 (by decide) : p0 < (63744 : Int32))).1 (by decide) (by decide) kt) ?_
                        show own_Go p.tables e below (s₁.setTop (mkF m 173 #[.val (.int p0)] [])) _
                        refine own_by (fun _ kt => XS.iloadN X0.here hx rfl (hb hby d_prog_85_method_2_code_173) rfl kt) ?_
                        show own_Go p.tables e below (s₁.setTop (mkF m 174 #[.val (.int p0)] [(.int p0)])) _
                        refine own_by (X0.ldcInt hx hown (mvT hZ (hw _ (List.mem_of_getElem? (i := 20) rfl))) (g := (mkF m 174 #[.val (.int p0)] [(.int p0)])) rfl (hb hby d_prog_85_method_2_code_174)) ?_
                        show own_Go p.tables e below (s₁.setTop (mkF m 176 #[.val (.int p0)] [(.int (65008 : Int32)), (.int p0)])) _
                        refine own_by (fun _ kt => XS.icmpYes X0.here hx rfl (pc0 := 176) (pc' := 185) rfl (hb hby d_prog_85_method_2_code_176) rfl (tlt (own_i1 hc68_11 (by decide) : p0 < (65008 : Int32))).1 (by decide) (by decide) kt) ?_
                        show own_Go p.tables e below (s₁.setTop (mkF m 185 #[.val (.int p0)] [])) _
                        refine own_by (fun _ kt => XS.iloadN X0.here hx rfl (hb hby d_prog_85_method_2_code_185) rfl kt) ?_
                        show own_Go p.tables e below (s₁.setTop (mkF m 186 #[.val (.int p0)] [(.int p0)])) _
                        refine own_by (X0.ldcInt hx hown (mvT hZ (hw _ (List.mem_of_getElem? (i := 21) rfl))) (g := (mkF m 186 #[.val (.int p0)] [(.int p0)])) rfl (hb hby d_prog_85_method_2_code_186)) ?_
                        show own_Go p.tables e below (s₁.setTop (mkF m 188 #[.val (.int p0)] [(.int (65536 : Int32)), (.int p0)])) _
                        refine own_by (fun _ kt => XS.icmpYes X0.here hx rfl (pc0 := 188) (pc' := 201) rfl (hb hby d_prog_85_method_2_code_188) rfl (tlt (own_i1 hc68_11 (by decide) : p0 < (65536 : Int32))).1 (by decide) (by decide) kt) ?_
                        show own_Go p.tables e below (s₁.setTop (mkF m 201 #[.val (.int p0)] [])) _
                        refine own_by (fun _ kt => XS.iconst X0.here hx rfl (hb hby d_prog_85_method_2_code_201) kt) ?_
                        show own_Go p.tables e below (s₁.setTop (mkF m 202 #[.val (.int p0)] [(.int (0 : Int32))])) _
                        exact own_retN X0 hx (t := .boolean) Bd.returns hlk (by simp) (hb hby d_prog_85_method_2_code_202) ⟨by rw [own_start, if_neg hc3_1, if_neg hc9_2, if_pos hc15_3, if_neg hc21_4, if_neg hc27_5, if_pos hc33_6, if_neg hc40_7, if_pos hc47_8, if_neg hc54_9, if_pos hc61_10, if_pos hc68_11] <;> rfl, N0, e0⟩ (by decide) (by decide)
                      · refine own_by (fun _ kt => XS.icmpNo X0.here hx rfl (hb hby d_prog_85_method_2_code_68) rfl (flt hc68_11).1 kt) ?_
                        show own_Go p.tables e below (s₁.setTop (mkF m 71 #[.val (.int p0)] [])) _
                        refine own_by (fun _ kt => XS.iloadN X0.here hx rfl (hb hby d_prog_85_method_2_code_71) rfl kt) ?_
                        show own_Go p.tables e below (s₁.setTop (mkF m 72 #[.val (.int p0)] [(.int p0)])) _
                        refine own_by (fun _ kt => XS.sipush X0.here hx rfl (hb hby d_prog_85_method_2_code_72) kt) ?_
                        show own_Go p.tables e below (s₁.setTop (mkF m 75 #[.val (.int p0)] [(.int (767 : Int32)), (.int p0)])) _
                        by_cases hc75_12 : (767 : Int32) < p0
                        · refine own_by (fun _ kt => XS.icmpNo X0.here hx rfl (hb hby d_prog_85_method_2_code_75) rfl (tlt hc75_12).2.2.2 kt) ?_
                          show own_Go p.tables e below (s₁.setTop (mkF m 78 #[.val (.int p0)] [])) _
                          refine own_by (fun _ kt => XS.iloadN X0.here hx rfl (hb hby d_prog_85_method_2_code_78) rfl kt) ?_
                          show own_Go p.tables e below (s₁.setTop (mkF m 79 #[.val (.int p0)] [(.int p0)])) _
                          refine own_by (fun _ kt => XS.sipush X0.here hx rfl (hb hby d_prog_85_method_2_code_79) kt) ?_
                          show own_Go p.tables e below (s₁.setTop (mkF m 82 #[.val (.int p0)] [(.int (880 : Int32)), (.int p0)])) _
                          by_cases hc82_13 : p0 < (880 : Int32)
                          · refine own_by (fun _ kt => XS.icmpYes X0.here hx rfl (pc0 := 82) (pc' := 92) rfl (hb hby d_prog_85_method_2_code_82) rfl (tlt hc82_13).1 (by decide) (by decide) kt) ?_
                            show own_Go p.tables e below (s₁.setTop (mkF m 92 #[.val (.int p0)] [])) _
                            refine own_by (fun _ kt => XS.iloadN X0.here hx rfl (hb hby d_prog_85_method_2_code_92) rfl kt) ?_
                            show own_Go p.tables e below (s₁.setTop (mkF m 93 #[.val (.int p0)] [(.int p0)])) _
                            refine own_by (fun _ kt => XS.sipush X0.here hx rfl (hb hby d_prog_85_method_2_code_93) kt) ?_
                            show own_Go p.tables e below (s₁.setTop (mkF m 96 #[.val (.int p0)] [(.int (895 : Int32)), (.int p0)])) _
                            refine own_by (fun _ kt => XS.icmpYes X0.here hx rfl (pc0 := 96) (pc' := 106) rfl (hb hby d_prog_85_method_2_code_96) rfl (tlt (own_i1 hc82_13 (by decide) : p0 < (895 : Int32))).1 (by decide) (by decide) kt) ?_
                            show own_Go p.tables e below (s₁.setTop (mkF m 106 #[.val (.int p0)] [])) _
                            refine own_by (fun _ kt => XS.iloadN X0.here hx rfl (hb hby d_prog_85_method_2_code_106) rfl kt) ?_
                            show own_Go p.tables e below (s₁.setTop (mkF m 107 #[.val (.int p0)] [(.int p0)])) _
                            refine own_by (fun _ kt => XS.sipush X0.here hx rfl (hb hby d_prog_85_method_2_code_107) kt) ?_
                            show own_Go p.tables e below (s₁.setTop (mkF m 110 #[.val (.int p0)] [(.int (8204 : Int32)), (.int p0)])) _
                            refine own_by (fun _ kt => XS.icmpYes X0.here hx rfl (pc0 := 110) (pc' := 120) rfl (hb hby d_prog_85_method_2_code_110) rfl (tlt (own_i1 hc82_13 (by decide) : p0 < (8204 : Int32))).1 (by decide) (by decide) kt) ?_
                            show own_Go p.tables e below (s₁.setTop (mkF m 120 #[.val (.int p0)] [])) _
                            refine own_by (fun _ kt => XS.iloadN X0.here hx rfl (hb hby d_prog_85_method_2_code_120) rfl kt) ?_
                            show own_Go p.tables e below (s₁.setTop (mkF m 121 #[.val (.int p0)] [(.int p0)])) _
                            refine own_by (fun _ kt => XS.sipush X0.here hx rfl (hb hby d_prog_85_method_2_code_121) kt) ?_
                            show own_Go p.tables e below (s₁.setTop (mkF m 124 #[.val (.int p0)] [(.int (8304 : Int32)), (.int p0)])) _
                            refine own_by (fun _ kt => XS.icmpYes X0.here hx rfl (pc0 := 124) (pc' := 134) rfl (hb hby d_prog_85_method_2_code_124) rfl (tlt (own_i1 hc82_13 (by decide) : p0 < (8304 : Int32))).1 (by decide) (by decide) kt) ?_
                            show own_Go p.tables e below (s₁.setTop (mkF m 134 #[.val (.int p0)] [])) _
                            refine own_by (fun _ kt => XS.iloadN X0.here hx rfl (hb hby d_prog_85_method_2_code_134) rfl kt) ?_
                            show own_Go p.tables e below (s₁.setTop (mkF m 135 #[.val (.int p0)] [(.int p0)])) _
                            refine own_by (fun _ kt => XS.sipush X0.here hx rfl (hb hby d_prog_85_method_2_code_135) kt) ?_
                            show own_Go p.tables e below (s₁.setTop (mkF m 138 #[.val (.int p0)] [(.int (11264 : Int32)), (.int p0)])) _
                            refine own_by (fun _ kt => XS.icmpYes X0.here hx rfl (pc0 := 138) (pc' := 148) rfl (hb hby d_prog_85_method_2_code_138) rfl (tlt (own_i1 hc82_13 (by decide) : p0 < (11264 : Int32))).1 (by decide) (by decide) kt) ?_
                            show own_Go p.tables e below (s₁.setTop (mkF m 148 #[.val (.int p0)] [])) _
                            refine own_by (fun _ kt => XS.iloadN X0.here hx rfl (hb hby d_prog_85_method_2_code_148) rfl kt) ?_
                            show own_Go p.tables e below (s₁.setTop (mkF m 149 #[.val (.int p0)] [(.int p0)])) _
                            refine own_by (fun _ kt => XS.sipush X0.here hx rfl (hb hby d_prog_85_method_2_code_149) kt) ?_
                            show own_Go p.tables e below (s₁.setTop (mkF m 152 #[.val (.int p0)] [(.int (12289 : Int32)), (.int p0)])) _
                            refine own_by (fun _ kt => XS.icmpYes X0.here hx rfl (pc0 := 152) (pc' := 161) rfl (hb hby d_prog_85_method_2_code_152) rfl (tlt (own_i1 hc82_13 (by decide) : p0 < (12289 : Int32))).1 (by decide) (by decide) kt) ?_
                            show own_Go p.tables e below (s₁.setTop (mkF m 161 #[.val (.int p0)] [])) _
                            refine own_by (fun _ kt => XS.iloadN X0.here hx rfl (hb hby d_prog_85_method_2_code_161) rfl kt) ?_
                            show own_Go p.tables e below (s₁.setTop (mkF m 162 #[.val (.int p0)] [(.int p0)])) _
                            refine own_by (X0.ldcInt hx hown (mvT hZ (hw _ (List.mem_of_getElem? (i := 19) rfl))) (g := (mkF m 162 #[.val (.int p0)] [(.int p0)])) rfl (hb hby d_prog_85_method_2_code_162)) ?_
                            show own_Go p.tables e below (s₁.setTop (mkF m 164 #[.val (.int p0)] [(.int (63744 : Int32)), (.int p0)])) _
                            refine own_by (fun _ kt => XS.icmpYes X0.here hx rfl (pc0 := 164) (pc' := 173) rfl (hb hby d_prog_85_method_2_code_164) rfl (tlt (own_i1 hc82_13 (by decide) : p0 < (63744 : Int32))).1 (by decide) (by decide) kt) ?_
                            show own_Go p.tables e below (s₁.setTop (mkF m 173 #[.val (.int p0)] [])) _
                            refine own_by (fun _ kt => XS.iloadN X0.here hx rfl (hb hby d_prog_85_method_2_code_173) rfl kt) ?_
                            show own_Go p.tables e below (s₁.setTop (mkF m 174 #[.val (.int p0)] [(.int p0)])) _
                            refine own_by (X0.ldcInt hx hown (mvT hZ (hw _ (List.mem_of_getElem? (i := 20) rfl))) (g := (mkF m 174 #[.val (.int p0)] [(.int p0)])) rfl (hb hby d_prog_85_method_2_code_174)) ?_
                            show own_Go p.tables e below (s₁.setTop (mkF m 176 #[.val (.int p0)] [(.int (65008 : Int32)), (.int p0)])) _
                            refine own_by (fun _ kt => XS.icmpYes X0.here hx rfl (pc0 := 176) (pc' := 185) rfl (hb hby d_prog_85_method_2_code_176) rfl (tlt (own_i1 hc82_13 (by decide) : p0 < (65008 : Int32))).1 (by decide) (by decide) kt) ?_
                            show own_Go p.tables e below (s₁.setTop (mkF m 185 #[.val (.int p0)] [])) _
                            refine own_by (fun _ kt => XS.iloadN X0.here hx rfl (hb hby d_prog_85_method_2_code_185) rfl kt) ?_
                            show own_Go p.tables e below (s₁.setTop (mkF m 186 #[.val (.int p0)] [(.int p0)])) _
                            refine own_by (X0.ldcInt hx hown (mvT hZ (hw _ (List.mem_of_getElem? (i := 21) rfl))) (g := (mkF m 186 #[.val (.int p0)] [(.int p0)])) rfl (hb hby d_prog_85_method_2_code_186)) ?_
                            show own_Go p.tables e below (s₁.setTop (mkF m 188 #[.val (.int p0)] [(.int (65536 : Int32)), (.int p0)])) _
                            refine own_by (fun _ kt => XS.icmpYes X0.here hx rfl (pc0 := 188) (pc' := 201) rfl (hb hby d_prog_85_method_2_code_188) rfl (tlt (own_i1 hc82_13 (by decide) : p0 < (65536 : Int32))).1 (by decide) (by decide) kt) ?_
                            show own_Go p.tables e below (s₁.setTop (mkF m 201 #[.val (.int p0)] [])) _
                            refine own_by (fun _ kt => XS.iconst X0.here hx rfl (hb hby d_prog_85_method_2_code_201) kt) ?_
                            show own_Go p.tables e below (s₁.setTop (mkF m 202 #[.val (.int p0)] [(.int (0 : Int32))])) _
                            exact own_retN X0 hx (t := .boolean) Bd.returns hlk (by simp) (hb hby d_prog_85_method_2_code_202) ⟨by rw [own_start, if_neg hc3_1, if_neg hc9_2, if_pos hc15_3, if_neg hc21_4, if_neg hc27_5, if_pos hc33_6, if_neg hc40_7, if_pos hc47_8, if_neg hc54_9, if_pos hc61_10, if_neg hc68_11, if_pos hc75_12, if_pos hc82_13] <;> rfl, N0, e0⟩ (by decide) (by decide)
                          · refine own_by (fun _ kt => XS.icmpNo X0.here hx rfl (hb hby d_prog_85_method_2_code_82) rfl (flt hc82_13).1 kt) ?_
                            show own_Go p.tables e below (s₁.setTop (mkF m 85 #[.val (.int p0)] [])) _
                            refine own_by (fun _ kt => XS.iloadN X0.here hx rfl (hb hby d_prog_85_method_2_code_85) rfl kt) ?_
                            show own_Go p.tables e below (s₁.setTop (mkF m 86 #[.val (.int p0)] [(.int p0)])) _
                            refine own_by (fun _ kt => XS.sipush X0.here hx rfl (hb hby d_prog_85_method_2_code_86) kt) ?_
                            show own_Go p.tables e below (s₁.setTop (mkF m 89 #[.val (.int p0)] [(.int (893 : Int32)), (.int p0)])) _
                            by_cases hc89_14 : (893 : Int32) < p0
                            · refine own_by (fun _ kt => XS.icmpNo X0.here hx rfl (hb hby d_prog_85_method_2_code_89) rfl (tlt hc89_14).2.2.2 kt) ?_
                              show own_Go p.tables e below (s₁.setTop (mkF m 92 #[.val (.int p0)] [])) _
                              refine own_by (fun _ kt => XS.iloadN X0.here hx rfl (hb hby d_prog_85_method_2_code_92) rfl kt) ?_
                              show own_Go p.tables e below (s₁.setTop (mkF m 93 #[.val (.int p0)] [(.int p0)])) _
                              refine own_by (fun _ kt => XS.sipush X0.here hx rfl (hb hby d_prog_85_method_2_code_93) kt) ?_
                              show own_Go p.tables e below (s₁.setTop (mkF m 96 #[.val (.int p0)] [(.int (895 : Int32)), (.int p0)])) _
                              by_cases hc96_15 : p0 < (895 : Int32)
                              · refine own_by (fun _ kt => XS.icmpYes X0.here hx rfl (pc0 := 96) (pc' := 106) rfl (hb hby d_prog_85_method_2_code_96) rfl (tlt hc96_15).1 (by decide) (by decide) kt) ?_
                                show own_Go p.tables e below (s₁.setTop (mkF m 106 #[.val (.int p0)] [])) _
                                refine own_by (fun _ kt => XS.iloadN X0.here hx rfl (hb hby d_prog_85_method_2_code_106) rfl kt) ?_
                                show own_Go p.tables e below (s₁.setTop (mkF m 107 #[.val (.int p0)] [(.int p0)])) _
                                refine own_by (fun _ kt => XS.sipush X0.here hx rfl (hb hby d_prog_85_method_2_code_107) kt) ?_
                                show own_Go p.tables e below (s₁.setTop (mkF m 110 #[.val (.int p0)] [(.int (8204 : Int32)), (.int p0)])) _
                                refine own_by (fun _ kt => XS.icmpYes X0.here hx rfl (pc0 := 110) (pc' := 120) rfl (hb hby d_prog_85_method_2_code_110) rfl (tlt (own_i1 hc96_15 (by decide) : p0 < (8204 : Int32))).1 (by decide) (by decide) kt) ?_
                                show own_Go p.tables e below (s₁.setTop (mkF m 120 #[.val (.int p0)] [])) _
                                refine own_by (fun _ kt => XS.iloadN X0.here hx rfl (hb hby d_prog_85_method_2_code_120) rfl kt) ?_
                                show own_Go p.tables e below (s₁.setTop (mkF m 121 #[.val (.int p0)] [(.int p0)])) _
                                refine own_by (fun _ kt => XS.sipush X0.here hx rfl (hb hby d_prog_85_method_2_code_121) kt) ?_
                                show own_Go p.tables e below (s₁.setTop (mkF m 124 #[.val (.int p0)] [(.int (8304 : Int32)), (.int p0)])) _
                                refine own_by (fun _ kt => XS.icmpYes X0.here hx rfl (pc0 := 124) (pc' := 134) rfl (hb hby d_prog_85_method_2_code_124) rfl (tlt (own_i1 hc96_15 (by decide) : p0 < (8304 : Int32))).1 (by decide) (by decide) kt) ?_
                                show own_Go p.tables e below (s₁.setTop (mkF m 134 #[.val (.int p0)] [])) _
                                refine own_by (fun _ kt => XS.iloadN X0.here hx rfl (hb hby d_prog_85_method_2_code_134) rfl kt) ?_
                                show own_Go p.tables e below (s₁.setTop (mkF m 135 #[.val (.int p0)] [(.int p0)])) _
                                refine own_by (fun _ kt => XS.sipush X0.here hx rfl (hb hby d_prog_85_method_2_code_135) kt) ?_
                                show own_Go p.tables e below (s₁.setTop (mkF m 138 #[.val (.int p0)] [(.int (11264 : Int32)), (.int p0)])) _
                                refine own_by (fun _ kt => XS.icmpYes X0.here hx rfl (pc0 := 138) (pc' := 148) rfl (hb hby d_prog_85_method_2_code_138) rfl (tlt (own_i1 hc96_15 (by decide) : p0 < (11264 : Int32))).1 (by decide) (by decide) kt) ?_
                                show own_Go p.tables e below (s₁.setTop (mkF m 148 #[.val (.int p0)] [])) _
                                refine own_by (fun _ kt => XS.iloadN X0.here hx rfl (hb hby d_prog_85_method_2_code_148) rfl kt) ?_
                                show own_Go p.tables e below (s₁.setTop (mkF m 149 #[.val (.int p0)] [(.int p0)])) _
                                refine own_by (fun _ kt => XS.sipush X0.here hx rfl (hb hby d_prog_85_method_2_code_149) kt) ?_
                                show own_Go p.tables e below (s₁.setTop (mkF m 152 #[.val (.int p0)] [(.int (12289 : Int32)), (.int p0)])) _
                                refine own_by (fun _ kt => XS.icmpYes X0.here hx rfl (pc0 := 152) (pc' := 161) rfl (hb hby d_prog_85_method_2_code_152) rfl (tlt (own_i1 hc96_15 (by decide) : p0 < (12289 : Int32))).1 (by decide) (by decide) kt) ?_
                                show own_Go p.tables e below (s₁.setTop (mkF m 161 #[.val (.int p0)] [])) _
                                refine own_by (fun _ kt => XS.iloadN X0.here hx rfl (hb hby d_prog_85_method_2_code_161) rfl kt) ?_
                                show own_Go p.tables e below (s₁.setTop (mkF m 162 #[.val (.int p0)] [(.int p0)])) _
                                refine own_by (X0.ldcInt hx hown (mvT hZ (hw _ (List.mem_of_getElem? (i := 19) rfl))) (g := (mkF m 162 #[.val (.int p0)] [(.int p0)])) rfl (hb hby d_prog_85_method_2_code_162)) ?_
                                show own_Go p.tables e below (s₁.setTop (mkF m 164 #[.val (.int p0)] [(.int (63744 : Int32)), (.int p0)])) _
                                refine own_by (fun _ kt => XS.icmpYes X0.here hx rfl (pc0 := 164) (pc' := 173) rfl (hb hby d_prog_85_method_2_code_164) rfl (tlt (own_i1 hc96_15 (by decide) : p0 < (63744 : Int32))).1 (by decide) (by decide) kt) ?_
                                show own_Go p.tables e below (s₁.setTop (mkF m 173 #[.val (.int p0)] [])) _
                                refine own_by (fun _ kt => XS.iloadN X0.here hx rfl (hb hby d_prog_85_method_2_code_173) rfl kt) ?_
                                show own_Go p.tables e below (s₁.setTop (mkF m 174 #[.val (.int p0)] [(.int p0)])) _
                                refine own_by (X0.ldcInt hx hown (mvT hZ (hw _ (List.mem_of_getElem? (i := 20) rfl))) (g := (mkF m 174 #[.val (.int p0)] [(.int p0)])) rfl (hb hby d_prog_85_method_2_code_174)) ?_
                                show own_Go p.tables e below (s₁.setTop (mkF m 176 #[.val (.int p0)] [(.int (65008 : Int32)), (.int p0)])) _
                                refine own_by (fun _ kt => XS.icmpYes X0.here hx rfl (pc0 := 176) (pc' := 185) rfl (hb hby d_prog_85_method_2_code_176) rfl (tlt (own_i1 hc96_15 (by decide) : p0 < (65008 : Int32))).1 (by decide) (by decide) kt) ?_
                                show own_Go p.tables e below (s₁.setTop (mkF m 185 #[.val (.int p0)] [])) _
                                refine own_by (fun _ kt => XS.iloadN X0.here hx rfl (hb hby d_prog_85_method_2_code_185) rfl kt) ?_
                                show own_Go p.tables e below (s₁.setTop (mkF m 186 #[.val (.int p0)] [(.int p0)])) _
                                refine own_by (X0.ldcInt hx hown (mvT hZ (hw _ (List.mem_of_getElem? (i := 21) rfl))) (g := (mkF m 186 #[.val (.int p0)] [(.int p0)])) rfl (hb hby d_prog_85_method_2_code_186)) ?_
                                show own_Go p.tables e below (s₁.setTop (mkF m 188 #[.val (.int p0)] [(.int (65536 : Int32)), (.int p0)])) _
                                refine own_by (fun _ kt => XS.icmpYes X0.here hx rfl (pc0 := 188) (pc' := 201) rfl (hb hby d_prog_85_method_2_code_188) rfl (tlt (own_i1 hc96_15 (by decide) : p0 < (65536 : Int32))).1 (by decide) (by decide) kt) ?_
                                show own_Go p.tables e below (s₁.setTop (mkF m 201 #[.val (.int p0)] [])) _
                                refine own_by (fun _ kt => XS.iconst X0.here hx rfl (hb hby d_prog_85_method_2_code_201) kt) ?_
                                show own_Go p.tables e below (s₁.setTop (mkF m 202 #[.val (.int p0)] [(.int (0 : Int32))])) _
                                exact own_retN X0 hx (t := .boolean) Bd.returns hlk (by simp) (hb hby d_prog_85_method_2_code_202) ⟨by rw [own_start, if_neg hc3_1, if_neg hc9_2, if_pos hc15_3, if_neg hc21_4, if_neg hc27_5, if_pos hc33_6, if_neg hc40_7, if_pos hc47_8, if_neg hc54_9, if_pos hc61_10, if_neg hc68_11, if_pos hc75_12, if_neg hc82_13, if_pos hc89_14, if_pos hc96_15] <;> rfl, N0, e0⟩ (by decide) (by decide)
                              · refine own_by (fun _ kt => XS.icmpNo X0.here hx rfl (hb hby d_prog_85_method_2_code_96) rfl (flt hc96_15).1 kt) ?_
                                show own_Go p.tables e below (s₁.setTop (mkF m 99 #[.val (.int p0)] [])) _
                                refine own_by (fun _ kt => XS.iloadN X0.here hx rfl (hb hby d_prog_85_method_2_code_99) rfl kt) ?_
                                show own_Go p.tables e below (s₁.setTop (mkF m 100 #[.val (.int p0)] [(.int p0)])) _
                                refine own_by (fun _ kt => XS.sipush X0.here hx rfl (hb hby d_prog_85_method_2_code_100) kt) ?_
                                show own_Go p.tables e below (s₁.setTop (mkF m 103 #[.val (.int p0)] [(.int (8191 : Int32)), (.int p0)])) _
                                by_cases hc103_16 : (8191 : Int32) < p0
                                · refine own_by (fun _ kt => XS.icmpNo X0.here hx rfl (hb hby d_prog_85_method_2_code_103) rfl (tlt hc103_16).2.2.2 kt) ?_
                                  show own_Go p.tables e below (s₁.setTop (mkF m 106 #[.val (.int p0)] [])) _
                                  refine own_by (fun _ kt => XS.iloadN X0.here hx rfl (hb hby d_prog_85_method_2_code_106) rfl kt) ?_
                                  show own_Go p.tables e below (s₁.setTop (mkF m 107 #[.val (.int p0)] [(.int p0)])) _
                                  refine own_by (fun _ kt => XS.sipush X0.here hx rfl (hb hby d_prog_85_method_2_code_107) kt) ?_
                                  show own_Go p.tables e below (s₁.setTop (mkF m 110 #[.val (.int p0)] [(.int (8204 : Int32)), (.int p0)])) _
                                  by_cases hc110_17 : p0 < (8204 : Int32)
                                  · refine own_by (fun _ kt => XS.icmpYes X0.here hx rfl (pc0 := 110) (pc' := 120) rfl (hb hby d_prog_85_method_2_code_110) rfl (tlt hc110_17).1 (by decide) (by decide) kt) ?_
                                    show own_Go p.tables e below (s₁.setTop (mkF m 120 #[.val (.int p0)] [])) _
                                    refine own_by (fun _ kt => XS.iloadN X0.here hx rfl (hb hby d_prog_85_method_2_code_120) rfl kt) ?_
                                    show own_Go p.tables e below (s₁.setTop (mkF m 121 #[.val (.int p0)] [(.int p0)])) _
                                    refine own_by (fun _ kt => XS.sipush X0.here hx rfl (hb hby d_prog_85_method_2_code_121) kt) ?_
                                    show own_Go p.tables e below (s₁.setTop (mkF m 124 #[.val (.int p0)] [(.int (8304 : Int32)), (.int p0)])) _
                                    refine own_by (fun _ kt => XS.icmpYes X0.here hx rfl (pc0 := 124) (pc' := 134) rfl (hb hby d_prog_85_method_2_code_124) rfl (tlt (own_i1 hc110_17 (by decide) : p0 < (8304 : Int32))).1 (by decide) (by decide) kt) ?_
                                    show own_Go p.tables e below (s₁.setTop (mkF m 134 #[.val (.int p0)] [])) _
                                    refine own_by (fun _ kt => XS.iloadN X0.here hx rfl (hb hby d_prog_85_method_2_code_134) rfl kt) ?_
                                    show own_Go p.tables e below (s₁.setTop (mkF m 135 #[.val (.int p0)] [(.int p0)])) _
                                    refine own_by (fun _ kt => XS.sipush X0.here hx rfl (hb hby d_prog_85_method_2_code_135) kt) ?_
                                    show own_Go p.tables e below (s₁.setTop (mkF m 138 #[.val (.int p0)] [(.int (11264 : Int32)), (.int p0)])) _
                                    refine own_by (fun _ kt => XS.icmpYes X0.here hx rfl (pc0 := 138) (pc' := 148) rfl (hb hby d_prog_85_method_2_code_138) rfl (tlt (own_i1 hc110_17 (by decide) : p0 < (11264 : Int32))).1 (by decide) (by decide) kt) ?_
                                    show own_Go p.tables e below (s₁.setTop (mkF m 148 #[.val (.int p0)] [])) _
                                    refine own_by (fun _ kt => XS.iloadN X0.here hx rfl (hb hby d_prog_85_method_2_code_148) rfl kt) ?_
                                    show own_Go p.tables e below (s₁.setTop (mkF m 149 #[.val (.int p0)] [(.int p0)])) _
                                    refine own_by (fun _ kt => XS.sipush X0.here hx rfl (hb hby d_prog_85_method_2_code_149) kt) ?_
                                    show own_Go p.tables e below (s₁.setTop (mkF m 152 #[.val (.int p0)] [(.int (12289 : Int32)), (.int p0)])) _
                                    refine own_by (fun _ kt => XS.icmpYes X0.here hx rfl (pc0 := 152) (pc' := 161) rfl (hb hby d_prog_85_method_2_code_152) rfl (tlt (own_i1 hc110_17 (by decide) : p0 < (12289 : Int32))).1 (by decide) (by decide) kt) ?_
                                    show own_Go p.tables e below (s₁.setTop (mkF m 161 #[.val (.int p0)] [])) _
                                    refine own_by (fun _ kt => XS.iloadN X0.here hx rfl (hb hby d_prog_85_method_2_code_161) rfl kt) ?_
                                    show own_Go p.tables e below (s₁.setTop (mkF m 162 #[.val (.int p0)] [(.int p0)])) _
                                    refine own_by (X0.ldcInt hx hown (mvT hZ (hw _ (List.mem_of_getElem? (i := 19) rfl))) (g := (mkF m 162 #[.val (.int p0)] [(.int p0)])) rfl (hb hby d_prog_85_method_2_code_162)) ?_
                                    show own_Go p.tables e below (s₁.setTop (mkF m 164 #[.val (.int p0)] [(.int (63744 : Int32)), (.int p0)])) _
                                    refine own_by (fun _ kt => XS.icmpYes X0.here hx rfl (pc0 := 164) (pc' := 173) rfl (hb hby d_prog_85_method_2_code_164) rfl (tlt (own_i1 hc110_17 (by decide) : p0 < (63744 : Int32))).1 (by decide) (by decide) kt) ?_
                                    show own_Go p.tables e below (s₁.setTop (mkF m 173 #[.val (.int p0)] [])) _
                                    refine own_by (fun _ kt => XS.iloadN X0.here hx rfl (hb hby d_prog_85_method_2_code_173) rfl kt) ?_
                                    show own_Go p.tables e below (s₁.setTop (mkF m 174 #[.val (.int p0)] [(.int p0)])) _
                                    refine own_by (X0.ldcInt hx hown (mvT hZ (hw _ (List.mem_of_getElem? (i := 20) rfl))) (g := (mkF m 174 #[.val (.int p0)] [(.int p0)])) rfl (hb hby d_prog_85_method_2_code_174)) ?_
                                    show own_Go p.tables e below (s₁.setTop (mkF m 176 #[.val (.int p0)] [(.int (65008 : Int32)), (.int p0)])) _
                                    refine own_by (fun _ kt => XS.icmpYes X0.here hx rfl (pc0 := 176) (pc' := 185) rfl (hb hby d_prog_85_method_2_code_176) rfl (tlt (own_i1 hc110_17 (by decide) : p0 < (65008 : Int32))).1 (by decide) (by decide) kt) ?_
                                    show own_Go p.tables e below (s₁.setTop (mkF m 185 #[.val (.int p0)] [])) _
                                    refine own_by (fun _ kt => XS.iloadN X0.here hx rfl (hb hby d_prog_85_method_2_code_185) rfl kt) ?_
                                    show own_Go p.tables e below (s₁.setTop (mkF m 186 #[.val (.int p0)] [(.int p0)])) _
                                    refine own_by (X0.ldcInt hx hown (mvT hZ (hw _ (List.mem_of_getElem? (i := 21) rfl))) (g := (mkF m 186 #[.val (.int p0)] [(.int p0)])) rfl (hb hby d_prog_85_method_2_code_186)) ?_
                                    show own_Go p.tables e below (s₁.setTop (mkF m 188 #[.val (.int p0)] [(.int (65536 : Int32)), (.int p0)])) _
                                    refine own_by (fun _ kt => XS.icmpYes X0.here hx rfl (pc0 := 188) (pc' := 201) rfl (hb hby d_prog_85_method_2_code_188) rfl (tlt (own_i1 hc110_17 (by decide) : p0 < (65536 : Int32))).1 (by decide) (by decide) kt) ?_
                                    show own_Go p.tables e below (s₁.setTop (mkF m 201 #[.val (.int p0)] [])) _
                                    refine own_by (fun _ kt => XS.iconst X0.here hx rfl (hb hby d_prog_85_method_2_code_201) kt) ?_
                                    show own_Go p.tables e below (s₁.setTop (mkF m 202 #[.val (.int p0)] [(.int (0 : Int32))])) _
                                    exact own_retN X0 hx (t := .boolean) Bd.returns hlk (by simp) (hb hby d_prog_85_method_2_code_202) ⟨by rw [own_start, if_neg hc3_1, if_neg hc9_2, if_pos hc15_3, if_neg hc21_4, if_neg hc27_5, if_pos hc33_6, if_neg hc40_7, if_pos hc47_8, if_neg hc54_9, if_pos hc61_10, if_neg hc68_11, if_pos hc75_12, if_neg hc82_13, if_pos hc89_14, if_neg hc96_15, if_pos hc103_16, if_pos hc110_17] <;> rfl, N0, e0⟩ (by decide) (by decide)
                                  · refine own_by (fun _ kt => XS.icmpNo X0.here hx rfl (hb hby d_prog_85_method_2_code_110) rfl (flt hc110_17).1 kt) ?_
                                    show own_Go p.tables e below (s₁.setTop (mkF m 113 #[.val (.int p0)] [])) _
                                    refine own_by (fun _ kt => XS.iloadN X0.here hx rfl (hb hby d_prog_85_method_2_code_113) rfl kt) ?_
                                    show own_Go p.tables e below (s₁.setTop (mkF m 114 #[.val (.int p0)] [(.int p0)])) _
                                    refine own_by (fun _ kt => XS.sipush X0.here hx rfl (hb hby d_prog_85_method_2_code_114) kt) ?_
                                    show own_Go p.tables e below (s₁.setTop (mkF m 117 #[.val (.int p0)] [(.int (8205 : Int32)), (.int p0)])) _
                                    by_cases hc117_18 : (8205 : Int32) < p0
                                    · refine own_by (fun _ kt => XS.icmpNo X0.here hx rfl (hb hby d_prog_85_method_2_code_117) rfl (tlt hc117_18).2.2.2 kt) ?_
                                      show own_Go p.tables e below (s₁.setTop (mkF m 120 #[.val (.int p0)] [])) _
                                      refine own_by (fun _ kt => XS.iloadN X0.here hx rfl (hb hby d_prog_85_method_2_code_120) rfl kt) ?_
                                      show own_Go p.tables e below (s₁.setTop (mkF m 121 #[.val (.int p0)] [(.int p0)])) _
                                      refine own_by (fun _ kt => XS.sipush X0.here hx rfl (hb hby d_prog_85_method_2_code_121) kt) ?_
                                      show own_Go p.tables e below (s₁.setTop (mkF m 124 #[.val (.int p0)] [(.int (8304 : Int32)), (.int p0)])) _
                                      by_cases hc124_19 : p0 < (8304 : Int32)
                                      · refine own_by (fun _ kt => XS.icmpYes X0.here hx rfl (pc0 := 124) (pc' := 134) rfl (hb hby d_prog_85_method_2_code_124) rfl (tlt hc124_19).1 (by decide) (by decide) kt) ?_
                                        show own_Go p.tables e below (s₁.setTop (mkF m 134 #[.val (.int p0)] [])) _
                                        refine own_by (fun _ kt => XS.iloadN X0.here hx rfl (hb hby d_prog_85_method_2_code_134) rfl kt) ?_
                                        show own_Go p.tables e below (s₁.setTop (mkF m 135 #[.val (.int p0)] [(.int p0)])) _
                                        refine own_by (fun _ kt => XS.sipush X0.here hx rfl (hb hby d_prog_85_method_2_code_135) kt) ?_
                                        show own_Go p.tables e below (s₁.setTop (mkF m 138 #[.val (.int p0)] [(.int (11264 : Int32)), (.int p0)])) _
                                        refine own_by (fun _ kt => XS.icmpYes X0.here hx rfl (pc0 := 138) (pc' := 148) rfl (hb hby d_prog_85_method_2_code_138) rfl (tlt (own_i1 hc124_19 (by decide) : p0 < (11264 : Int32))).1 (by decide) (by decide) kt) ?_
                                        show own_Go p.tables e below (s₁.setTop (mkF m 148 #[.val (.int p0)] [])) _
                                        refine own_by (fun _ kt => XS.iloadN X0.here hx rfl (hb hby d_prog_85_method_2_code_148) rfl kt) ?_
                                        show own_Go p.tables e below (s₁.setTop (mkF m 149 #[.val (.int p0)] [(.int p0)])) _
                                        refine own_by (fun _ kt => XS.sipush X0.here hx rfl (hb hby d_prog_85_method_2_code_149) kt) ?_
                                        show own_Go p.tables e below (s₁.setTop (mkF m 152 #[.val (.int p0)] [(.int (12289 : Int32)), (.int p0)])) _
                                        refine own_by (fun _ kt => XS.icmpYes X0.here hx rfl (pc0 := 152) (pc' := 161) rfl (hb hby d_prog_85_method_2_code_152) rfl (tlt (own_i1 hc124_19 (by decide) : p0 < (12289 : Int32))).1 (by decide) (by decide) kt) ?_
                                        show own_Go p.tables e below (s₁.setTop (mkF m 161 #[.val (.int p0)] [])) _
                                        refine own_by (fun _ kt => XS.iloadN X0.here hx rfl (hb hby d_prog_85_method_2_code_161) rfl kt) ?_
                                        show own_Go p.tables e below (s₁.setTop (mkF m 162 #[.val (.int p0)] [(.int p0)])) _
                                        refine own_by (X0.ldcInt hx hown (mvT hZ (hw _ (List.mem_of_getElem? (i := 19) rfl))) (g := (mkF m 162 #[.val (.int p0)] [(.int p0)])) rfl (hb hby d_prog_85_method_2_code_162)) ?_
                                        show own_Go p.tables e below (s₁.setTop (mkF m 164 #[.val (.int p0)] [(.int (63744 : Int32)), (.int p0)])) _
                                        refine own_by (fun _ kt => XS.icmpYes X0.here hx rfl (pc0 := 164) (pc' := 173) rfl (hb hby d_prog_85_method_2_code_164) rfl (tlt (own_i1 hc124_19 (by decide) : p0 < (63744 : Int32))).1 (by decide) (by decide) kt) ?_
                                        show own_Go p.tables e below (s₁.setTop (mkF m 173 #[.val (.int p0)] [])) _
                                        refine own_by (fun _ kt => XS.iloadN X0.here hx rfl (hb hby d_prog_85_method_2_code_173) rfl kt) ?_
                                        show own_Go p.tables e below (s₁.setTop (mkF m 174 #[.val (.int p0)] [(.int p0)])) _
                                        refine own_by (X0.ldcInt hx hown (mvT hZ (hw _ (List.mem_of_getElem? (i := 20) rfl))) (g := (mkF m 174 #[.val (.int p0)] [(.int p0)])) rfl (hb hby d_prog_85_method_2_code_174)) ?_
                                        show own_Go p.tables e below (s₁.setTop (mkF m 176 #[.val (.int p0)] [(.int (65008 : Int32)), (.int p0)])) _
                                        refine own_by (fun _ kt => XS.icmpYes X0.here hx rfl (pc0 := 176) (pc' := 185) rfl (hb hby d_prog_85_method_2_code_176) rfl (tlt (own_i1 hc124_19 (by decide) : p0 < (65008 : Int32))).1 (by decide) (by decide) kt) ?_
                                        show own_Go p.tables e below (s₁.setTop (mkF m 185 #[.val (.int p0)] [])) _
                                        refine own_by (fun _ kt => XS.iloadN X0.here hx rfl (hb hby d_prog_85_method_2_code_185) rfl kt) ?_
                                        show own_Go p.tables e below (s₁.setTop (mkF m 186 #[.val (.int p0)] [(.int p0)])) _
                                        refine own_by (X0.ldcInt hx hown (mvT hZ (hw _ (List.mem_of_getElem? (i := 21) rfl))) (g := (mkF m 186 #[.val (.int p0)] [(.int p0)])) rfl (hb hby d_prog_85_method_2_code_186)) ?_
                                        show own_Go p.tables e below (s₁.setTop (mkF m 188 #[.val (.int p0)] [(.int (65536 : Int32)), (.int p0)])) _
                                        refine own_by (fun _ kt => XS.icmpYes X0.here hx rfl (pc0 := 188) (pc' := 201) rfl (hb hby d_prog_85_method_2_code_188) rfl (tlt (own_i1 hc124_19 (by decide) : p0 < (65536 : Int32))).1 (by decide) (by decide) kt) ?_
                                        show own_Go p.tables e below (s₁.setTop (mkF m 201 #[.val (.int p0)] [])) _
                                        refine own_by (fun _ kt => XS.iconst X0.here hx rfl (hb hby d_prog_85_method_2_code_201) kt) ?_
                                        show own_Go p.tables e below (s₁.setTop (mkF m 202 #[.val (.int p0)] [(.int (0 : Int32))])) _
                                        exact own_retN X0 hx (t := .boolean) Bd.returns hlk (by simp) (hb hby d_prog_85_method_2_code_202) ⟨by rw [own_start, if_neg hc3_1, if_neg hc9_2, if_pos hc15_3, if_neg hc21_4, if_neg hc27_5, if_pos hc33_6, if_neg hc40_7, if_pos hc47_8, if_neg hc54_9, if_pos hc61_10, if_neg hc68_11, if_pos hc75_12, if_neg hc82_13, if_pos hc89_14, if_neg hc96_15, if_pos hc103_16, if_neg hc110_17, if_pos hc117_18, if_pos hc124_19] <;> rfl, N0, e0⟩ (by decide) (by decide)
                                      · refine own_by (fun _ kt => XS.icmpNo X0.here hx rfl (hb hby d_prog_85_method_2_code_124) rfl (flt hc124_19).1 kt) ?_
                                        show own_Go p.tables e below (s₁.setTop (mkF m 127 #[.val (.int p0)] [])) _
                                        refine own_by (fun _ kt => XS.iloadN X0.here hx rfl (hb hby d_prog_85_method_2_code_127) rfl kt) ?_
                                        show own_Go p.tables e below (s₁.setTop (mkF m 128 #[.val (.int p0)] [(.int p0)])) _
                                        refine own_by (fun _ kt => XS.sipush X0.here hx rfl (hb hby d_prog_85_method_2_code_128) kt) ?_
                                        show own_Go p.tables e below (s₁.setTop (mkF m 131 #[.val (.int p0)] [(.int (8591 : Int32)), (.int p0)])) _
                                        by_cases hc131_20 : (8591 : Int32) < p0
                                        · refine own_by (fun _ kt => XS.icmpNo X0.here hx rfl (hb hby d_prog_85_method_2_code_131) rfl (tlt hc131_20).2.2.2 kt) ?_
                                          show own_Go p.tables e below (s₁.setTop (mkF m 134 #[.val (.int p0)] [])) _
                                          refine own_by (fun _ kt => XS.iloadN X0.here hx rfl (hb hby d_prog_85_method_2_code_134) rfl kt) ?_
                                          show own_Go p.tables e below (s₁.setTop (mkF m 135 #[.val (.int p0)] [(.int p0)])) _
                                          refine own_by (fun _ kt => XS.sipush X0.here hx rfl (hb hby d_prog_85_method_2_code_135) kt) ?_
                                          show own_Go p.tables e below (s₁.setTop (mkF m 138 #[.val (.int p0)] [(.int (11264 : Int32)), (.int p0)])) _
                                          by_cases hc138_21 : p0 < (11264 : Int32)
                                          · refine own_by (fun _ kt => XS.icmpYes X0.here hx rfl (pc0 := 138) (pc' := 148) rfl (hb hby d_prog_85_method_2_code_138) rfl (tlt hc138_21).1 (by decide) (by decide) kt) ?_
                                            show own_Go p.tables e below (s₁.setTop (mkF m 148 #[.val (.int p0)] [])) _
                                            refine own_by (fun _ kt => XS.iloadN X0.here hx rfl (hb hby d_prog_85_method_2_code_148) rfl kt) ?_
                                            show own_Go p.tables e below (s₁.setTop (mkF m 149 #[.val (.int p0)] [(.int p0)])) _
                                            refine own_by (fun _ kt => XS.sipush X0.here hx rfl (hb hby d_prog_85_method_2_code_149) kt) ?_
                                            show own_Go p.tables e below (s₁.setTop (mkF m 152 #[.val (.int p0)] [(.int (12289 : Int32)), (.int p0)])) _
                                            refine own_by (fun _ kt => XS.icmpYes X0.here hx rfl (pc0 := 152) (pc' := 161) rfl (hb hby d_prog_85_method_2_code_152) rfl (tlt (own_i1 hc138_21 (by decide) : p0 < (12289 : Int32))).1 (by decide) (by decide) kt) ?_
                                            show own_Go p.tables e below (s₁.setTop (mkF m 161 #[.val (.int p0)] [])) _
                                            refine own_by (fun _ kt => XS.iloadN X0.here hx rfl (hb hby d_prog_85_method_2_code_161) rfl kt) ?_
                                            show own_Go p.tables e below (s₁.setTop (mkF m 162 #[.val (.int p0)] [(.int p0)])) _
                                            refine own_by (X0.ldcInt hx hown (mvT hZ (hw _ (List.mem_of_getElem? (i := 19) rfl))) (g := (mkF m 162 #[.val (.int p0)] [(.int p0)])) rfl (hb hby d_prog_85_method_2_code_162)) ?_
                                            show own_Go p.tables e below (s₁.setTop (mkF m 164 #[.val (.int p0)] [(.int (63744 : Int32)), (.int p0)])) _
                                            refine own_by (fun _ kt => XS.icmpYes X0.here hx rfl (pc0 := 164) (pc' := 173) rfl (hb hby d_prog_85_method_2_code_164) rfl (tlt (own_i1 hc138_21 (by decide) : p0 < (63744 : Int32))).1 (by decide) (by decide) kt) ?_
                                            show own_Go p.tables e below (s₁.setTop (mkF m 173 #[.val (.int p0)] [])) _
                                            refine own_by (fun _ kt => XS.iloadN X0.here hx rfl (hb hby d_prog_85_method_2_code_173) rfl kt) ?_
                                            show own_Go p.tables e below (s₁.setTop (mkF m 174 #[.val (.int p0)] [(.int p0)])) _
                                            refine own_by (X0.ldcInt hx hown (mvT hZ (hw _ (List.mem_of_getElem? (i := 20) rfl))) (g := (mkF m 174 #[.val (.int p0)] [(.int p0)])) rfl (hb hby d_prog_85_method_2_code_174)) ?_
                                            show own_Go p.tables e below (s₁.setTop (mkF m 176 #[.val (.int p0)] [(.int (65008 : Int32)), (.int p0)])) _
                                            refine own_by (fun _ kt => XS.icmpYes X0.here hx rfl (pc0 := 176) (pc' := 185) rfl (hb hby d_prog_85_method_2_code_176) rfl (tlt (own_i1 hc138_21 (by decide) : p0 < (65008 : Int32))).1 (by decide) (by decide) kt) ?_
                                            show own_Go p.tables e below (s₁.setTop (mkF m 185 #[.val (.int p0)] [])) _
                                            refine own_by (fun _ kt => XS.iloadN X0.here hx rfl (hb hby d_prog_85_method_2_code_185) rfl kt) ?_
                                            show own_Go p.tables e below (s₁.setTop (mkF m 186 #[.val (.int p0)] [(.int p0)])) _
                                            refine own_by (X0.ldcInt hx hown (mvT hZ (hw _ (List.mem_of_getElem? (i := 21) rfl))) (g := (mkF m 186 #[.val (.int p0)] [(.int p0)])) rfl (hb hby d_prog_85_method_2_code_186)) ?_
                                            show own_Go p.tables e below (s₁.setTop (mkF m 188 #[.val (.int p0)] [(.int (65536 : Int32)), (.int p0)])) _
                                            refine own_by (fun _ kt => XS.icmpYes X0.here hx rfl (pc0 := 188) (pc' := 201) rfl (hb hby d_prog_85_method_2_code_188) rfl (tlt (own_i1 hc138_21 (by decide) : p0 < (65536 : Int32))).1 (by decide) (by decide) kt) ?_
                                            show own_Go p.tables e below (s₁.setTop (mkF m 201 #[.val (.int p0)] [])) _
                                            refine own_by (fun _ kt => XS.iconst X0.here hx rfl (hb hby d_prog_85_method_2_code_201) kt) ?_
                                            show own_Go p.tables e below (s₁.setTop (mkF m 202 #[.val (.int p0)] [(.int (0 : Int32))])) _
                                            exact own_retN X0 hx (t := .boolean) Bd.returns hlk (by simp) (hb hby d_prog_85_method_2_code_202) ⟨by rw [own_start, if_neg hc3_1, if_neg hc9_2, if_pos hc15_3, if_neg hc21_4, if_neg hc27_5, if_pos hc33_6, if_neg hc40_7, if_pos hc47_8, if_neg hc54_9, if_pos hc61_10, if_neg hc68_11, if_pos hc75_12, if_neg hc82_13, if_pos hc89_14, if_neg hc96_15, if_pos hc103_16, if_neg hc110_17, if_pos hc117_18, if_neg hc124_19, if_pos hc131_20, if_pos hc138_21] <;> rfl, N0, e0⟩ (by decide) (by decide)
                                          · refine own_by (fun _ kt => XS.icmpNo X0.here hx rfl (hb hby d_prog_85_method_2_code_138) rfl (flt hc138_21).1 kt) ?_
                                            show own_Go p.tables e below (s₁.setTop (mkF m 141 #[.val (.int p0)] [])) _
                                            refine own_by (fun _ kt => XS.iloadN X0.here hx rfl (hb hby d_prog_85_method_2_code_141) rfl kt) ?_
                                            show own_Go p.tables e below (s₁.setTop (mkF m 142 #[.val (.int p0)] [(.int p0)])) _
                                            refine own_by (fun _ kt => XS.sipush X0.here hx rfl (hb hby d_prog_85_method_2_code_142) kt) ?_
                                            show own_Go p.tables e below (s₁.setTop (mkF m 145 #[.val (.int p0)] [(.int (12271 : Int32)), (.int p0)])) _
                                            by_cases hc145_22 : (12271 : Int32) < p0
                                            · refine own_by (fun _ kt => XS.icmpNo X0.here hx rfl (hb hby d_prog_85_method_2_code_145) rfl (tlt hc145_22).2.2.2 kt) ?_
                                              show own_Go p.tables e below (s₁.setTop (mkF m 148 #[.val (.int p0)] [])) _
                                              refine own_by (fun _ kt => XS.iloadN X0.here hx rfl (hb hby d_prog_85_method_2_code_148) rfl kt) ?_
                                              show own_Go p.tables e below (s₁.setTop (mkF m 149 #[.val (.int p0)] [(.int p0)])) _
                                              refine own_by (fun _ kt => XS.sipush X0.here hx rfl (hb hby d_prog_85_method_2_code_149) kt) ?_
                                              show own_Go p.tables e below (s₁.setTop (mkF m 152 #[.val (.int p0)] [(.int (12289 : Int32)), (.int p0)])) _
                                              by_cases hc152_23 : p0 < (12289 : Int32)
                                              · refine own_by (fun _ kt => XS.icmpYes X0.here hx rfl (pc0 := 152) (pc' := 161) rfl (hb hby d_prog_85_method_2_code_152) rfl (tlt hc152_23).1 (by decide) (by decide) kt) ?_
                                                show own_Go p.tables e below (s₁.setTop (mkF m 161 #[.val (.int p0)] [])) _
                                                refine own_by (fun _ kt => XS.iloadN X0.here hx rfl (hb hby d_prog_85_method_2_code_161) rfl kt) ?_
                                                show own_Go p.tables e below (s₁.setTop (mkF m 162 #[.val (.int p0)] [(.int p0)])) _
                                                refine own_by (X0.ldcInt hx hown (mvT hZ (hw _ (List.mem_of_getElem? (i := 19) rfl))) (g := (mkF m 162 #[.val (.int p0)] [(.int p0)])) rfl (hb hby d_prog_85_method_2_code_162)) ?_
                                                show own_Go p.tables e below (s₁.setTop (mkF m 164 #[.val (.int p0)] [(.int (63744 : Int32)), (.int p0)])) _
                                                refine own_by (fun _ kt => XS.icmpYes X0.here hx rfl (pc0 := 164) (pc' := 173) rfl (hb hby d_prog_85_method_2_code_164) rfl (tlt (own_i1 hc152_23 (by decide) : p0 < (63744 : Int32))).1 (by decide) (by decide) kt) ?_
                                                show own_Go p.tables e below (s₁.setTop (mkF m 173 #[.val (.int p0)] [])) _
                                                refine own_by (fun _ kt => XS.iloadN X0.here hx rfl (hb hby d_prog_85_method_2_code_173) rfl kt) ?_
                                                show own_Go p.tables e below (s₁.setTop (mkF m 174 #[.val (.int p0)] [(.int p0)])) _
                                                refine own_by (X0.ldcInt hx hown (mvT hZ (hw _ (List.mem_of_getElem? (i := 20) rfl))) (g := (mkF m 174 #[.val (.int p0)] [(.int p0)])) rfl (hb hby d_prog_85_method_2_code_174)) ?_
                                                show own_Go p.tables e below (s₁.setTop (mkF m 176 #[.val (.int p0)] [(.int (65008 : Int32)), (.int p0)])) _
                                                refine own_by (fun _ kt => XS.icmpYes X0.here hx rfl (pc0 := 176) (pc' := 185) rfl (hb hby d_prog_85_method_2_code_176) rfl (tlt (own_i1 hc152_23 (by decide) : p0 < (65008 : Int32))).1 (by decide) (by decide) kt) ?_
                                                show own_Go p.tables e below (s₁.setTop (mkF m 185 #[.val (.int p0)] [])) _
                                                refine own_by (fun _ kt => XS.iloadN X0.here hx rfl (hb hby d_prog_85_method_2_code_185) rfl kt) ?_
                                                show own_Go p.tables e below (s₁.setTop (mkF m 186 #[.val (.int p0)] [(.int p0)])) _
                                                refine own_by (X0.ldcInt hx hown (mvT hZ (hw _ (List.mem_of_getElem? (i := 21) rfl))) (g := (mkF m 186 #[.val (.int p0)] [(.int p0)])) rfl (hb hby d_prog_85_method_2_code_186)) ?_
                                                show own_Go p.tables e below (s₁.setTop (mkF m 188 #[.val (.int p0)] [(.int (65536 : Int32)), (.int p0)])) _
                                                refine own_by (fun _ kt => XS.icmpYes X0.here hx rfl (pc0 := 188) (pc' := 201) rfl (hb hby d_prog_85_method_2_code_188) rfl (tlt (own_i1 hc152_23 (by decide) : p0 < (65536 : Int32))).1 (by decide) (by decide) kt) ?_
                                                show own_Go p.tables e below (s₁.setTop (mkF m 201 #[.val (.int p0)] [])) _
                                                refine own_by (fun _ kt => XS.iconst X0.here hx rfl (hb hby d_prog_85_method_2_code_201) kt) ?_
                                                show own_Go p.tables e below (s₁.setTop (mkF m 202 #[.val (.int p0)] [(.int (0 : Int32))])) _
                                                exact own_retN X0 hx (t := .boolean) Bd.returns hlk (by simp) (hb hby d_prog_85_method_2_code_202) ⟨by rw [own_start, if_neg hc3_1, if_neg hc9_2, if_pos hc15_3, if_neg hc21_4, if_neg hc27_5, if_pos hc33_6, if_neg hc40_7, if_pos hc47_8, if_neg hc54_9, if_pos hc61_10, if_neg hc68_11, if_pos hc75_12, if_neg hc82_13, if_pos hc89_14, if_neg hc96_15, if_pos hc103_16, if_neg hc110_17, if_pos hc117_18, if_neg hc124_19, if_pos hc131_20, if_neg hc138_21, if_pos hc145_22, if_pos hc152_23] <;> rfl, N0, e0⟩ (by decide) (by decide)
                                              · refine own_by (fun _ kt => XS.icmpNo X0.here hx rfl (hb hby d_prog_85_method_2_code_152) rfl (flt hc152_23).1 kt) ?_
                                                show own_Go p.tables e below (s₁.setTop (mkF m 155 #[.val (.int p0)] [])) _
                                                refine own_by (fun _ kt => XS.iloadN X0.here hx rfl (hb hby d_prog_85_method_2_code_155) rfl kt) ?_
                                                show own_Go p.tables e below (s₁.setTop (mkF m 156 #[.val (.int p0)] [(.int p0)])) _
                                                refine own_by (X0.ldcInt hx hown (mvT hZ (hw _ (List.mem_of_getElem? (i := 25) rfl))) (g := (mkF m 156 #[.val (.int p0)] [(.int p0)])) rfl (hb hby d_prog_85_method_2_code_156)) ?_
                                                show own_Go p.tables e below (s₁.setTop (mkF m 158 #[.val (.int p0)] [(.int (55295 : Int32)), (.int p0)])) _
                                                by_cases hc158_24 : (55295 : Int32) < p0
                                                · refine own_by (fun _ kt => XS.icmpNo X0.here hx rfl (hb hby d_prog_85_method_2_code_158) rfl (tlt hc158_24).2.2.2 kt) ?_
                                                  show own_Go p.tables e below (s₁.setTop (mkF m 161 #[.val (.int p0)] [])) _
                                                  refine own_by (fun _ kt => XS.iloadN X0.here hx rfl (hb hby d_prog_85_method_2_code_161) rfl kt) ?_
                                                  show own_Go p.tables e below (s₁.setTop (mkF m 162 #[.val (.int p0)] [(.int p0)])) _
                                                  refine own_by (X0.ldcInt hx hown (mvT hZ (hw _ (List.mem_of_getElem? (i := 19) rfl))) (g := (mkF m 162 #[.val (.int p0)] [(.int p0)])) rfl (hb hby d_prog_85_method_2_code_162)) ?_
                                                  show own_Go p.tables e below (s₁.setTop (mkF m 164 #[.val (.int p0)] [(.int (63744 : Int32)), (.int p0)])) _
                                                  by_cases hc164_25 : p0 < (63744 : Int32)
                                                  · refine own_by (fun _ kt => XS.icmpYes X0.here hx rfl (pc0 := 164) (pc' := 173) rfl (hb hby d_prog_85_method_2_code_164) rfl (tlt hc164_25).1 (by decide) (by decide) kt) ?_
                                                    show own_Go p.tables e below (s₁.setTop (mkF m 173 #[.val (.int p0)] [])) _
                                                    refine own_by (fun _ kt => XS.iloadN X0.here hx rfl (hb hby d_prog_85_method_2_code_173) rfl kt) ?_
                                                    show own_Go p.tables e below (s₁.setTop (mkF m 174 #[.val (.int p0)] [(.int p0)])) _
                                                    refine own_by (X0.ldcInt hx hown (mvT hZ (hw _ (List.mem_of_getElem? (i := 20) rfl))) (g := (mkF m 174 #[.val (.int p0)] [(.int p0)])) rfl (hb hby d_prog_85_method_2_code_174)) ?_
                                                    show own_Go p.tables e below (s₁.setTop (mkF m 176 #[.val (.int p0)] [(.int (65008 : Int32)), (.int p0)])) _
                                                    refine own_by (fun _ kt => XS.icmpYes X0.here hx rfl (pc0 := 176) (pc' := 185) rfl (hb hby d_prog_85_method_2_code_176) rfl (tlt (own_i1 hc164_25 (by decide) : p0 < (65008 : Int32))).1 (by decide) (by decide) kt) ?_
                                                    show own_Go p.tables e below (s₁.setTop (mkF m 185 #[.val (.int p0)] [])) _
                                                    refine own_by (fun _ kt => XS.iloadN X0.here hx rfl (hb hby d_prog_85_method_2_code_185) rfl kt) ?_
                                                    show own_Go p.tables e below (s₁.setTop (mkF m 186 #[.val (.int p0)] [(.int p0)])) _
                                                    refine own_by (X0.ldcInt hx hown (mvT hZ (hw _ (List.mem_of_getElem? (i := 21) rfl))) (g := (mkF m 186 #[.val (.int p0)] [(.int p0)])) rfl (hb hby d_prog_85_method_2_code_186)) ?_
                                                    show own_Go p.tables e below (s₁.setTop (mkF m 188 #[.val (.int p0)] [(.int (65536 : Int32)), (.int p0)])) _
                                                    refine own_by (fun _ kt => XS.icmpYes X0.here hx rfl (pc0 := 188) (pc' := 201) rfl (hb hby d_prog_85_method_2_code_188) rfl (tlt (own_i1 hc164_25 (by decide) : p0 < (65536 : Int32))).1 (by decide) (by decide) kt) ?_
                                                    show own_Go p.tables e below (s₁.setTop (mkF m 201 #[.val (.int p0)] [])) _
                                                    refine own_by (fun _ kt => XS.iconst X0.here hx rfl (hb hby d_prog_85_method_2_code_201) kt) ?_
                                                    show own_Go p.tables e below (s₁.setTop (mkF m 202 #[.val (.int p0)] [(.int (0 : Int32))])) _
                                                    exact own_retN X0 hx (t := .boolean) Bd.returns hlk (by simp) (hb hby d_prog_85_method_2_code_202) ⟨by rw [own_start, if_neg hc3_1, if_neg hc9_2, if_pos hc15_3, if_neg hc21_4, if_neg hc27_5, if_pos hc33_6, if_neg hc40_7, if_pos hc47_8, if_neg hc54_9, if_pos hc61_10, if_neg hc68_11, if_pos hc75_12, if_neg hc82_13, if_pos hc89_14, if_neg hc96_15, if_pos hc103_16, if_neg hc110_17, if_pos hc117_18, if_neg hc124_19, if_pos hc131_20, if_neg hc138_21, if_pos hc145_22, if_neg hc152_23, if_pos hc158_24, if_pos hc164_25] <;> rfl, N0, e0⟩ (by decide) (by decide)
                                                  · refine own_by (fun _ kt => XS.icmpNo X0.here hx rfl (hb hby d_prog_85_method_2_code_164) rfl (flt hc164_25).1 kt) ?_
                                                    show own_Go p.tables e below (s₁.setTop (mkF m 167 #[.val (.int p0)] [])) _
                                                    refine own_by (fun _ kt => XS.iloadN X0.here hx rfl (hb hby d_prog_85_method_2_code_167) rfl kt) ?_
                                                    show own_Go p.tables e below (s₁.setTop (mkF m 168 #[.val (.int p0)] [(.int p0)])) _
                                                    refine own_by (X0.ldcInt hx hown (mvT hZ (hw _ (List.mem_of_getElem? (i := 26) rfl))) (g := (mkF m 168 #[.val (.int p0)] [(.int p0)])) rfl (hb hby d_prog_85_method_2_code_168)) ?_
                                                    show own_Go p.tables e below (s₁.setTop (mkF m 170 #[.val (.int p0)] [(.int (64975 : Int32)), (.int p0)])) _
                                                    by_cases hc170_26 : (64975 : Int32) < p0
                                                    · refine own_by (fun _ kt => XS.icmpNo X0.here hx rfl (hb hby d_prog_85_method_2_code_170) rfl (tlt hc170_26).2.2.2 kt) ?_
                                                      show own_Go p.tables e below (s₁.setTop (mkF m 173 #[.val (.int p0)] [])) _
                                                      refine own_by (fun _ kt => XS.iloadN X0.here hx rfl (hb hby d_prog_85_method_2_code_173) rfl kt) ?_
                                                      show own_Go p.tables e below (s₁.setTop (mkF m 174 #[.val (.int p0)] [(.int p0)])) _
                                                      refine own_by (X0.ldcInt hx hown (mvT hZ (hw _ (List.mem_of_getElem? (i := 20) rfl))) (g := (mkF m 174 #[.val (.int p0)] [(.int p0)])) rfl (hb hby d_prog_85_method_2_code_174)) ?_
                                                      show own_Go p.tables e below (s₁.setTop (mkF m 176 #[.val (.int p0)] [(.int (65008 : Int32)), (.int p0)])) _
                                                      by_cases hc176_27 : p0 < (65008 : Int32)
                                                      · refine own_by (fun _ kt => XS.icmpYes X0.here hx rfl (pc0 := 176) (pc' := 185) rfl (hb hby d_prog_85_method_2_code_176) rfl (tlt hc176_27).1 (by decide) (by decide) kt) ?_
                                                        show own_Go p.tables e below (s₁.setTop (mkF m 185 #[.val (.int p0)] [])) _
                                                        refine own_by (fun _ kt => XS.iloadN X0.here hx rfl (hb hby d_prog_85_method_2_code_185) rfl kt) ?_
                                                        show own_Go p.tables e below (s₁.setTop (mkF m 186 #[.val (.int p0)] [(.int p0)])) _
                                                        refine own_by (X0.ldcInt hx hown (mvT hZ (hw _ (List.mem_of_getElem? (i := 21) rfl))) (g := (mkF m 186 #[.val (.int p0)] [(.int p0)])) rfl (hb hby d_prog_85_method_2_code_186)) ?_
                                                        show own_Go p.tables e below (s₁.setTop (mkF m 188 #[.val (.int p0)] [(.int (65536 : Int32)), (.int p0)])) _
                                                        refine own_by (fun _ kt => XS.icmpYes X0.here hx rfl (pc0 := 188) (pc' := 201) rfl (hb hby d_prog_85_method_2_code_188) rfl (tlt (own_i1 hc176_27 (by decide) : p0 < (65536 : Int32))).1 (by decide) (by decide) kt) ?_
                                                        show own_Go p.tables e below (s₁.setTop (mkF m 201 #[.val (.int p0)] [])) _
                                                        refine own_by (fun _ kt => XS.iconst X0.here hx rfl (hb hby d_prog_85_method_2_code_201) kt) ?_
                                                        show own_Go p.tables e below (s₁.setTop (mkF m 202 #[.val (.int p0)] [(.int (0 : Int32))])) _
                                                        exact own_retN X0 hx (t := .boolean) Bd.returns hlk (by simp) (hb hby d_prog_85_method_2_code_202) ⟨by rw [own_start, if_neg hc3_1, if_neg hc9_2, if_pos hc15_3, if_neg hc21_4, if_neg hc27_5, if_pos hc33_6, if_neg hc40_7, if_pos hc47_8, if_neg hc54_9, if_pos hc61_10, if_neg hc68_11, if_pos hc75_12, if_neg hc82_13, if_pos hc89_14, if_neg hc96_15, if_pos hc103_16, if_neg hc110_17, if_pos hc117_18, if_neg hc124_19, if_pos hc131_20, if_neg hc138_21, if_pos hc145_22, if_neg hc152_23, if_pos hc158_24, if_neg hc164_25, if_pos hc170_26, if_pos hc176_27] <;> rfl, N0, e0⟩ (by decide) (by decide)
                                                      · refine own_by (fun _ kt => XS.icmpNo X0.here hx rfl (hb hby d_prog_85_method_2_code_176) rfl (flt hc176_27).1 kt) ?_
                                                        show own_Go p.tables e below (s₁.setTop (mkF m 179 #[.val (.int p0)] [])) _
                                                        refine own_by (fun _ kt => XS.iloadN X0.here hx rfl (hb hby d_prog_85_method_2_code_179) rfl kt) ?_
                                                        show own_Go p.tables e below (s₁.setTop (mkF m 180 #[.val (.int p0)] [(.int p0)])) _
                                                        refine own_by (X0.ldcInt hx hown (mvT hZ (hw _ (List.mem_of_getElem? (i := 27) rfl))) (g := (mkF m 180 #[.val (.int p0)] [(.int p0)])) rfl (hb hby d_prog_85_method_2_code_180)) ?_
                                                        show own_Go p.tables e below (s₁.setTop (mkF m 182 #[.val (.int p0)] [(.int (65533 : Int32)), (.int p0)])) _
                                                        by_cases hc182_28 : (65533 : Int32) < p0
                                                        · refine own_by (fun _ kt => XS.icmpNo X0.here hx rfl (hb hby d_prog_85_method_2_code_182) rfl (tlt hc182_28).2.2.2 kt) ?_
                                                          show own_Go p.tables e below (s₁.setTop (mkF m 185 #[.val (.int p0)] [])) _
                                                          refine own_by (fun _ kt => XS.iloadN X0.here hx rfl (hb hby d_prog_85_method_2_code_185) rfl kt) ?_
                                                          show own_Go p.tables e below (s₁.setTop (mkF m 186 #[.val (.int p0)] [(.int p0)])) _
                                                          refine own_by (X0.ldcInt hx hown (mvT hZ (hw _ (List.mem_of_getElem? (i := 21) rfl))) (g := (mkF m 186 #[.val (.int p0)] [(.int p0)])) rfl (hb hby d_prog_85_method_2_code_186)) ?_
                                                          show own_Go p.tables e below (s₁.setTop (mkF m 188 #[.val (.int p0)] [(.int (65536 : Int32)), (.int p0)])) _
                                                          by_cases hc188_29 : p0 < (65536 : Int32)
                                                          · refine own_by (fun _ kt => XS.icmpYes X0.here hx rfl (pc0 := 188) (pc' := 201) rfl (hb hby d_prog_85_method_2_code_188) rfl (tlt hc188_29).1 (by decide) (by decide) kt) ?_
                                                            show own_Go p.tables e below (s₁.setTop (mkF m 201 #[.val (.int p0)] [])) _
                                                            refine own_by (fun _ kt => XS.iconst X0.here hx rfl (hb hby d_prog_85_method_2_code_201) kt) ?_
                                                            show own_Go p.tables e below (s₁.setTop (mkF m 202 #[.val (.int p0)] [(.int (0 : Int32))])) _
                                                            exact own_retN X0 hx (t := .boolean) Bd.returns hlk (by simp) (hb hby d_prog_85_method_2_code_202) ⟨by rw [own_start, if_neg hc3_1, if_neg hc9_2, if_pos hc15_3, if_neg hc21_4, if_neg hc27_5, if_pos hc33_6, if_neg hc40_7, if_pos hc47_8, if_neg hc54_9, if_pos hc61_10, if_neg hc68_11, if_pos hc75_12, if_neg hc82_13, if_pos hc89_14, if_neg hc96_15, if_pos hc103_16, if_neg hc110_17, if_pos hc117_18, if_neg hc124_19, if_pos hc131_20, if_neg hc138_21, if_pos hc145_22, if_neg hc152_23, if_pos hc158_24, if_neg hc164_25, if_pos hc170_26, if_neg hc176_27, if_pos hc182_28, if_pos hc188_29] <;> rfl, N0, e0⟩ (by decide) (by decide)
                                                          · refine own_by (fun _ kt => XS.icmpNo X0.here hx rfl (hb hby d_prog_85_method_2_code_188) rfl (flt hc188_29).1 kt) ?_
                                                            show own_Go p.tables e below (s₁.setTop (mkF m 191 #[.val (.int p0)] [])) _
                                                            refine own_by (fun _ kt => XS.iloadN X0.here hx rfl (hb hby d_prog_85_method_2_code_191) rfl kt) ?_
                                                            show own_Go p.tables e below (s₁.setTop (mkF m 192 #[.val (.int p0)] [(.int p0)])) _
                                                            refine own_by (X0.ldcInt hx hown (mvT hZ (hw _ (List.mem_of_getElem? (i := 28) rfl))) (g := (mkF m 192 #[.val (.int p0)] [(.int p0)])) rfl (hb hby d_prog_85_method_2_code_192)) ?_
                                                            show own_Go p.tables e below (s₁.setTop (mkF m 194 #[.val (.int p0)] [(.int (983039 : Int32)), (.int p0)])) _
                                                            by_cases hc194_30 : (983039 : Int32) < p0
                                                            · refine own_by (fun _ kt => XS.icmpYes X0.here hx rfl (pc0 := 194) (pc' := 201) rfl (hb hby d_prog_85_method_2_code_194) rfl (tlt hc194_30).2.2.1 (by decide) (by decide) kt) ?_
                                                              show own_Go p.tables e below (s₁.setTop (mkF m 201 #[.val (.int p0)] [])) _
                                                              refine own_by (fun _ kt => XS.iconst X0.here hx rfl (hb hby d_prog_85_method_2_code_201) kt) ?_
                                                              show own_Go p.tables e below (s₁.setTop (mkF m 202 #[.val (.int p0)] [(.int (0 : Int32))])) _
                                                              exact own_retN X0 hx (t := .boolean) Bd.returns hlk (by simp) (hb hby d_prog_85_method_2_code_202) ⟨by rw [own_start, if_neg hc3_1, if_neg hc9_2, if_pos hc15_3, if_neg hc21_4, if_neg hc27_5, if_pos hc33_6, if_neg hc40_7, if_pos hc47_8, if_neg hc54_9, if_pos hc61_10, if_neg hc68_11, if_pos hc75_12, if_neg hc82_13, if_pos hc89_14, if_neg hc96_15, if_pos hc103_16, if_neg hc110_17, if_pos hc117_18, if_neg hc124_19, if_pos hc131_20, if_neg hc138_21, if_pos hc145_22, if_neg hc152_23, if_pos hc158_24, if_neg hc164_25, if_pos hc170_26, if_neg hc176_27, if_pos hc182_28, if_neg hc188_29, if_pos hc194_30] <;> rfl, N0, e0⟩ (by decide) (by decide)
                                                            · refine own_by (fun _ kt => XS.icmpNo X0.here hx rfl (hb hby d_prog_85_method_2_code_194) rfl (flt hc194_30).2.2.1 kt) ?_
                                                              show own_Go p.tables e below (s₁.setTop (mkF m 197 #[.val (.int p0)] [])) _
                                                              refine own_by (fun _ kt => XS.iconst X0.here hx rfl (hb hby d_prog_85_method_2_code_197) kt) ?_
                                                              show own_Go p.tables e below (s₁.setTop (mkF m 198 #[.val (.int p0)] [(.int (1 : Int32))])) _
                                                              refine own_by (fun _ kt => XS.goto X0.here hx rfl (pc0 := 198) (pc' := 202) rfl (hb hby d_prog_85_method_2_code_198) (by decide) (by decide) kt) ?_
                                                              show own_Go p.tables e below (s₁.setTop (mkF m 202 #[.val (.int p0)] [(.int (1 : Int32))])) _
                                                              exact own_retN X0 hx (t := .boolean) Bd.returns hlk (by simp) (hb hby d_prog_85_method_2_code_202) ⟨by rw [own_start, if_neg hc3_1, if_neg hc9_2, if_pos hc15_3, if_neg hc21_4, if_neg hc27_5, if_pos hc33_6, if_neg hc40_7, if_pos hc47_8, if_neg hc54_9, if_pos hc61_10, if_neg hc68_11, if_pos hc75_12, if_neg hc82_13, if_pos hc89_14, if_neg hc96_15, if_pos hc103_16, if_neg hc110_17, if_pos hc117_18, if_neg hc124_19, if_pos hc131_20, if_neg hc138_21, if_pos hc145_22, if_neg hc152_23, if_pos hc158_24, if_neg hc164_25, if_pos hc170_26, if_neg hc176_27, if_pos hc182_28, if_neg hc188_29, if_neg hc194_30] <;> rfl, N0, e0⟩ (by decide) (by decide)
                                                        · refine own_by (fun _ kt => XS.icmpYes X0.here hx rfl (pc0 := 182) (pc' := 197) rfl (hb hby d_prog_85_method_2_code_182) rfl (flt hc182_28).2.2.2 (by decide) (by decide) kt) ?_
                                                          show own_Go p.tables e below (s₁.setTop (mkF m 197 #[.val (.int p0)] [])) _
                                                          refine own_by (fun _ kt => XS.iconst X0.here hx rfl (hb hby d_prog_85_method_2_code_197) kt) ?_
                                                          show own_Go p.tables e below (s₁.setTop (mkF m 198 #[.val (.int p0)] [(.int (1 : Int32))])) _
                                                          refine own_by (fun _ kt => XS.goto X0.here hx rfl (pc0 := 198) (pc' := 202) rfl (hb hby d_prog_85_method_2_code_198) (by decide) (by decide) kt) ?_
                                                          show own_Go p.tables e below (s₁.setTop (mkF m 202 #[.val (.int p0)] [(.int (1 : Int32))])) _
                                                          exact own_retN X0 hx (t := .boolean) Bd.returns hlk (by simp) (hb hby d_prog_85_method_2_code_202) ⟨by rw [own_start, if_neg hc3_1, if_neg hc9_2, if_pos hc15_3, if_neg hc21_4, if_neg hc27_5, if_pos hc33_6, if_neg hc40_7, if_pos hc47_8, if_neg hc54_9, if_pos hc61_10, if_neg hc68_11, if_pos hc75_12, if_neg hc82_13, if_pos hc89_14, if_neg hc96_15, if_pos hc103_16, if_neg hc110_17, if_pos hc117_18, if_neg hc124_19, if_pos hc131_20, if_neg hc138_21, if_pos hc145_22, if_neg hc152_23, if_pos hc158_24, if_neg hc164_25, if_pos hc170_26, if_neg hc176_27, if_neg hc182_28] <;> rfl, N0, e0⟩ (by decide) (by decide)
                                                    · refine own_by (fun _ kt => XS.icmpYes X0.here hx rfl (pc0 := 170) (pc' := 197) rfl (hb hby d_prog_85_method_2_code_170) rfl (flt hc170_26).2.2.2 (by decide) (by decide) kt) ?_
                                                      show own_Go p.tables e below (s₁.setTop (mkF m 197 #[.val (.int p0)] [])) _
                                                      refine own_by (fun _ kt => XS.iconst X0.here hx rfl (hb hby d_prog_85_method_2_code_197) kt) ?_
                                                      show own_Go p.tables e below (s₁.setTop (mkF m 198 #[.val (.int p0)] [(.int (1 : Int32))])) _
                                                      refine own_by (fun _ kt => XS.goto X0.here hx rfl (pc0 := 198) (pc' := 202) rfl (hb hby d_prog_85_method_2_code_198) (by decide) (by decide) kt) ?_
                                                      show own_Go p.tables e below (s₁.setTop (mkF m 202 #[.val (.int p0)] [(.int (1 : Int32))])) _
                                                      exact own_retN X0 hx (t := .boolean) Bd.returns hlk (by simp) (hb hby d_prog_85_method_2_code_202) ⟨by rw [own_start, if_neg hc3_1, if_neg hc9_2, if_pos hc15_3, if_neg hc21_4, if_neg hc27_5, if_pos hc33_6, if_neg hc40_7, if_pos hc47_8, if_neg hc54_9, if_pos hc61_10, if_neg hc68_11, if_pos hc75_12, if_neg hc82_13, if_pos hc89_14, if_neg hc96_15, if_pos hc103_16, if_neg hc110_17, if_pos hc117_18, if_neg hc124_19, if_pos hc131_20, if_neg hc138_21, if_pos hc145_22, if_neg hc152_23, if_pos hc158_24, if_neg hc164_25, if_neg hc170_26] <;> rfl, N0, e0⟩ (by decide) (by decide)
                                                · refine own_by (fun _ kt => XS.icmpYes X0.here hx rfl (pc0 := 158) (pc' := 197) rfl (hb hby d_prog_85_method_2_code_158) rfl (flt hc158_24).2.2.2 (by decide) (by decide) kt) ?_
                                                  show own_Go p.tables e below (s₁.setTop (mkF m 197 #[.val (.int p0)] [])) _
                                                  refine own_by (fun _ kt => XS.iconst X0.here hx rfl (hb hby d_prog_85_method_2_code_197) kt) ?_
                                                  show own_Go p.tables e below (s₁.setTop (mkF m 198 #[.val (.int p0)] [(.int (1 : Int32))])) _
                                                  refine own_by (fun _ kt => XS.goto X0.here hx rfl (pc0 := 198) (pc' := 202) rfl (hb hby d_prog_85_method_2_code_198) (by decide) (by decide) kt) ?_
                                                  show own_Go p.tables e below (s₁.setTop (mkF m 202 #[.val (.int p0)] [(.int (1 : Int32))])) _
                                                  exact own_retN X0 hx (t := .boolean) Bd.returns hlk (by simp) (hb hby d_prog_85_method_2_code_202) ⟨by rw [own_start, if_neg hc3_1, if_neg hc9_2, if_pos hc15_3, if_neg hc21_4, if_neg hc27_5, if_pos hc33_6, if_neg hc40_7, if_pos hc47_8, if_neg hc54_9, if_pos hc61_10, if_neg hc68_11, if_pos hc75_12, if_neg hc82_13, if_pos hc89_14, if_neg hc96_15, if_pos hc103_16, if_neg hc110_17, if_pos hc117_18, if_neg hc124_19, if_pos hc131_20, if_neg hc138_21, if_pos hc145_22, if_neg hc152_23, if_neg hc158_24] <;> rfl, N0, e0⟩ (by decide) (by decide)
                                            · refine own_by (fun _ kt => XS.icmpYes X0.here hx rfl (pc0 := 145) (pc' := 197) rfl (hb hby d_prog_85_method_2_code_145) rfl (flt hc145_22).2.2.2 (by decide) (by decide) kt) ?_
                                              show own_Go p.tables e below (s₁.setTop (mkF m 197 #[.val (.int p0)] [])) _
                                              refine own_by (fun _ kt => XS.iconst X0.here hx rfl (hb hby d_prog_85_method_2_code_197) kt) ?_
                                              show own_Go p.tables e below (s₁.setTop (mkF m 198 #[.val (.int p0)] [(.int (1 : Int32))])) _
                                              refine own_by (fun _ kt => XS.goto X0.here hx rfl (pc0 := 198) (pc' := 202) rfl (hb hby d_prog_85_method_2_code_198) (by decide) (by decide) kt) ?_
                                              show own_Go p.tables e below (s₁.setTop (mkF m 202 #[.val (.int p0)] [(.int (1 : Int32))])) _
                                              exact own_retN X0 hx (t := .boolean) Bd.returns hlk (by simp) (hb hby d_prog_85_method_2_code_202) ⟨by rw [own_start, if_neg hc3_1, if_neg hc9_2, if_pos hc15_3, if_neg hc21_4, if_neg hc27_5, if_pos hc33_6, if_neg hc40_7, if_pos hc47_8, if_neg hc54_9, if_pos hc61_10, if_neg hc68_11, if_pos hc75_12, if_neg hc82_13, if_pos hc89_14, if_neg hc96_15, if_pos hc103_16, if_neg hc110_17, if_pos hc117_18, if_neg hc124_19, if_pos hc131_20, if_neg hc138_21, if_neg hc145_22] <;> rfl, N0, e0⟩ (by decide) (by decide)
                                        · refine own_by (fun _ kt => XS.icmpYes X0.here hx rfl (pc0 := 131) (pc' := 197) rfl (hb hby d_prog_85_method_2_code_131) rfl (flt hc131_20).2.2.2 (by decide) (by decide) kt) ?_
                                          show own_Go p.tables e below (s₁.setTop (mkF m 197 #[.val (.int p0)] [])) _
                                          refine own_by (fun _ kt => XS.iconst X0.here hx rfl (hb hby d_prog_85_method_2_code_197) kt) ?_
                                          show own_Go p.tables e below (s₁.setTop (mkF m 198 #[.val (.int p0)] [(.int (1 : Int32))])) _
                                          refine own_by (fun _ kt => XS.goto X0.here hx rfl (pc0 := 198) (pc' := 202) rfl (hb hby d_prog_85_method_2_code_198) (by decide) (by decide) kt) ?_
                                          show own_Go p.tables e below (s₁.setTop (mkF m 202 #[.val (.int p0)] [(.int (1 : Int32))])) _
                                          exact own_retN X0 hx (t := .boolean) Bd.returns hlk (by simp) (hb hby d_prog_85_method_2_code_202) ⟨by rw [own_start, if_neg hc3_1, if_neg hc9_2, if_pos hc15_3, if_neg hc21_4, if_neg hc27_5, if_pos hc33_6, if_neg hc40_7, if_pos hc47_8, if_neg hc54_9, if_pos hc61_10, if_neg hc68_11, if_pos hc75_12, if_neg hc82_13, if_pos hc89_14, if_neg hc96_15, if_pos hc103_16, if_neg hc110_17, if_pos hc117_18, if_neg hc124_19, if_neg hc131_20] <;> rfl, N0, e0⟩ (by decide) (by decide)
                                    · refine own_by (fun _ kt => XS.icmpYes X0.here hx rfl (pc0 := 117) (pc' := 197) rfl (hb hby d_prog_85_method_2_code_117) rfl (flt hc117_18).2.2.2 (by decide) (by decide) kt) ?_
                                      show own_Go p.tables e below (s₁.setTop (mkF m 197 #[.val (.int p0)] [])) _
                                      refine own_by (fun _ kt => XS.iconst X0.here hx rfl (hb hby d_prog_85_method_2_code_197) kt) ?_
                                      show own_Go p.tables e below (s₁.setTop (mkF m 198 #[.val (.int p0)] [(.int (1 : Int32))])) _
                                      refine own_by (fun _ kt => XS.goto X0.here hx rfl (pc0 := 198) (pc' := 202) rfl (hb hby d_prog_85_method_2_code_198) (by decide) (by decide) kt) ?_
                                      show own_Go p.tables e below (s₁.setTop (mkF m 202 #[.val (.int p0)] [(.int (1 : Int32))])) _
                                      exact own_retN X0 hx (t := .boolean) Bd.returns hlk (by simp) (hb hby d_prog_85_method_2_code_202) ⟨by rw [own_start, if_neg hc3_1, if_neg hc9_2, if_pos hc15_3, if_neg hc21_4, if_neg hc27_5, if_pos hc33_6, if_neg hc40_7, if_pos hc47_8, if_neg hc54_9, if_pos hc61_10, if_neg hc68_11, if_pos hc75_12, if_neg hc82_13, if_pos hc89_14, if_neg hc96_15, if_pos hc103_16, if_neg hc110_17, if_neg hc117_18] <;> rfl, N0, e0⟩ (by decide) (by decide)
                                · refine own_by (fun _ kt => XS.icmpYes X0.here hx rfl (pc0 := 103) (pc' := 197) rfl (hb hby d_prog_85_method_2_code_103) rfl (flt hc103_16).2.2.2 (by decide) (by decide) kt) ?_
                                  show own_Go p.tables e below (s₁.setTop (mkF m 197 #[.val (.int p0)] [])) _
                                  refine own_by (fun _ kt => XS.iconst X0.here hx rfl (hb hby d_prog_85_method_2_code_197) kt) ?_
                                  show own_Go p.tables e below (s₁.setTop (mkF m 198 #[.val (.int p0)] [(.int (1 : Int32))])) _
                                  refine own_by (fun _ kt => XS.goto X0.here hx rfl (pc0 := 198) (pc' := 202) rfl (hb hby d_prog_85_method_2_code_198) (by decide) (by decide) kt) ?_
                                  show own_Go p.tables e below (s₁.setTop (mkF m 202 #[.val (.int p0)] [(.int (1 : Int32))])) _
                                  exact own_retN X0 hx (t := .boolean) Bd.returns hlk (by simp) (hb hby d_prog_85_method_2_code_202) ⟨by rw [own_start, if_neg hc3_1, if_neg hc9_2, if_pos hc15_3, if_neg hc21_4, if_neg hc27_5, if_pos hc33_6, if_neg hc40_7, if_pos hc47_8, if_neg hc54_9, if_pos hc61_10, if_neg hc68_11, if_pos hc75_12, if_neg hc82_13, if_pos hc89_14, if_neg hc96_15, if_neg hc103_16] <;> rfl, N0, e0⟩ (by decide) (by decide)
                            · refine own_by (fun _ kt => XS.icmpYes X0.here hx rfl (pc0 := 89) (pc' := 197) rfl (hb hby d_prog_85_method_2_code_89) rfl (flt hc89_14).2.2.2 (by decide) (by decide) kt) ?_
                              show own_Go p.tables e below (s₁.setTop (mkF m 197 #[.val (.int p0)] [])) _
                              refine own_by (fun _ kt => XS.iconst X0.here hx rfl (hb hby d_prog_85_method_2_code_197) kt) ?_
                              show own_Go p.tables e below (s₁.setTop (mkF m 198 #[.val (.int p0)] [(.int (1 : Int32))])) _
                              refine own_by (fun _ kt => XS.goto X0.here hx rfl (pc0 := 198) (pc' := 202) rfl (hb hby d_prog_85_method_2_code_198) (by decide) (by decide) kt) ?_
                              show own_Go p.tables e below (s₁.setTop (mkF m 202 #[.val (.int p0)] [(.int (1 : Int32))])) _
                              exact own_retN X0 hx (t := .boolean) Bd.returns hlk (by simp) (hb hby d_prog_85_method_2_code_202) ⟨by rw [own_start, if_neg hc3_1, if_neg hc9_2, if_pos hc15_3, if_neg hc21_4, if_neg hc27_5, if_pos hc33_6, if_neg hc40_7, if_pos hc47_8, if_neg hc54_9, if_pos hc61_10, if_neg hc68_11, if_pos hc75_12, if_neg hc82_13, if_neg hc89_14] <;> rfl, N0, e0⟩ (by decide) (by decide)
                        · refine own_by (fun _ kt => XS.icmpYes X0.here hx rfl (pc0 := 75) (pc' := 197) rfl (hb hby d_prog_85_method_2_code_75) rfl (flt hc75_12).2.2.2 (by decide) (by decide) kt) ?_
                          show own_Go p.tables e below (s₁.setTop (mkF m 197 #[.val (.int p0)] [])) _
                          refine own_by (fun _ kt => XS.iconst X0.here hx rfl (hb hby d_prog_85_method_2_code_197) kt) ?_
                          show own_Go p.tables e below (s₁.setTop (mkF m 198 #[.val (.int p0)] [(.int (1 : Int32))])) _
                          refine own_by (fun _ kt => XS.goto X0.here hx rfl (pc0 := 198) (pc' := 202) rfl (hb hby d_prog_85_method_2_code_198) (by decide) (by decide) kt) ?_
                          show own_Go p.tables e below (s₁.setTop (mkF m 202 #[.val (.int p0)] [(.int (1 : Int32))])) _
                          exact own_retN X0 hx (t := .boolean) Bd.returns hlk (by simp) (hb hby d_prog_85_method_2_code_202) ⟨by rw [own_start, if_neg hc3_1, if_neg hc9_2, if_pos hc15_3, if_neg hc21_4, if_neg hc27_5, if_pos hc33_6, if_neg hc40_7, if_pos hc47_8, if_neg hc54_9, if_pos hc61_10, if_neg hc68_11, if_neg hc75_12] <;> rfl, N0, e0⟩ (by decide) (by decide)
                    · refine own_by (fun _ kt => XS.icmpYes X0.here hx rfl (pc0 := 61) (pc' := 197) rfl (hb hby d_prog_85_method_2_code_61) rfl (flt hc61_10).2.2.2 (by decide) (by decide) kt) ?_
                      show own_Go p.tables e below (s₁.setTop (mkF m 197 #[.val (.int p0)] [])) _
                      refine own_by (fun _ kt => XS.iconst X0.here hx rfl (hb hby d_prog_85_method_2_code_197) kt) ?_
                      show own_Go p.tables e below (s₁.setTop (mkF m 198 #[.val (.int p0)] [(.int (1 : Int32))])) _
                      refine own_by (fun _ kt => XS.goto X0.here hx rfl (pc0 := 198) (pc' := 202) rfl (hb hby d_prog_85_method_2_code_198) (by decide) (by decide) kt) ?_
                      show own_Go p.tables e below (s₁.setTop (mkF m 202 #[.val (.int p0)] [(.int (1 : Int32))])) _
                      exact own_retN X0 hx (t := .boolean) Bd.returns hlk (by simp) (hb hby d_prog_85_method_2_code_202) ⟨by rw [own_start, if_neg hc3_1, if_neg hc9_2, if_pos hc15_3, if_neg hc21_4, if_neg hc27_5, if_pos hc33_6, if_neg hc40_7, if_pos hc47_8, if_neg hc54_9, if_neg hc61_10] <;> rfl, N0, e0⟩ (by decide) (by decide)
                · refine own_by (fun _ kt => XS.icmpYes X0.here hx rfl (pc0 := 47) (pc' := 197) rfl (hb hby d_prog_85_method_2_code_47) rfl (flt hc47_8).2.2.2 (by decide) (by decide) kt) ?_
                  show own_Go p.tables e below (s₁.setTop (mkF m 197 #[.val (.int p0)] [])) _
                  refine own_by (fun _ kt => XS.iconst X0.here hx rfl (hb hby d_prog_85_method_2_code_197) kt) ?_
                  show own_Go p.tables e below (s₁.setTop (mkF m 198 #[.val (.int p0)] [(.int (1 : Int32))])) _
                  refine own_by (fun _ kt => XS.goto X0.here hx rfl (pc0 := 198) (pc' := 202) rfl (hb hby d_prog_85_method_2_code_198) (by decide) (by decide) kt) ?_
                  show own_Go p.tables e below (s₁.setTop (mkF m 202 #[.val (.int p0)] [(.int (1 : Int32))])) _
                  exact own_retN X0 hx (t := .boolean) Bd.returns hlk (by simp) (hb hby d_prog_85_method_2_code_202) ⟨by rw [own_start, if_neg hc3_1, if_neg hc9_2, if_pos hc15_3, if_neg hc21_4, if_neg hc27_5, if_pos hc33_6, if_neg hc40_7, if_neg hc47_8] <;> rfl, N0, e0⟩ (by decide) (by decide)
            · refine own_by (fun _ kt => XS.icmpYes X0.here hx rfl (pc0 := 33) (pc' := 197) rfl (hb hby d_prog_85_method_2_code_33) rfl (flt hc33_6).2.2.2 (by decide) (by decide) kt) ?_
              show own_Go p.tables e below (s₁.setTop (mkF m 197 #[.val (.int p0)] [])) _
              refine own_by (fun _ kt => XS.iconst X0.here hx rfl (hb hby d_prog_85_method_2_code_197) kt) ?_
              show own_Go p.tables e below (s₁.setTop (mkF m 198 #[.val (.int p0)] [(.int (1 : Int32))])) _
              refine own_by (fun _ kt => XS.goto X0.here hx rfl (pc0 := 198) (pc' := 202) rfl (hb hby d_prog_85_method_2_code_198) (by decide) (by decide) kt) ?_
              show own_Go p.tables e below (s₁.setTop (mkF m 202 #[.val (.int p0)] [(.int (1 : Int32))])) _
              exact own_retN X0 hx (t := .boolean) Bd.returns hlk (by simp) (hb hby d_prog_85_method_2_code_202) ⟨by rw [own_start, if_neg hc3_1, if_neg hc9_2, if_pos hc15_3, if_neg hc21_4, if_neg hc27_5, if_neg hc33_6] <;> rfl, N0, e0⟩ (by decide) (by decide)
      · refine own_by (fun _ kt => XS.icmpYes X0.here hx rfl (pc0 := 15) (pc' := 197) rfl (hb hby d_prog_85_method_2_code_15) rfl (flt hc15_3).2.2.2 (by decide) (by decide) kt) ?_
        show own_Go p.tables e below (s₁.setTop (mkF m 197 #[.val (.int p0)] [])) _
        refine own_by (fun _ kt => XS.iconst X0.here hx rfl (hb hby d_prog_85_method_2_code_197) kt) ?_
        show own_Go p.tables e below (s₁.setTop (mkF m 198 #[.val (.int p0)] [(.int (1 : Int32))])) _
        refine own_by (fun _ kt => XS.goto X0.here hx rfl (pc0 := 198) (pc' := 202) rfl (hb hby d_prog_85_method_2_code_198) (by decide) (by decide) kt) ?_
        show own_Go p.tables e below (s₁.setTop (mkF m 202 #[.val (.int p0)] [(.int (1 : Int32))])) _
        exact own_retN X0 hx (t := .boolean) Bd.returns hlk (by simp) (hb hby d_prog_85_method_2_code_202) ⟨by rw [own_start, if_neg hc3_1, if_neg hc9_2, if_neg hc15_3] <;> rfl, N0, e0⟩ (by decide) (by decide)
def own_ref (p0 : Int32) : Int32 := (if p0 < (58 : Int32) then (0 : Int32) else (if (983039 : Int32) < p0 then (0 : Int32) else (if (64 : Int32) < p0 then (if (127 : Int32) < p0 then (if (191 : Int32) < p0 then (if (767 : Int32) < p0 then (if (879 : Int32) < p0 then (if (8191 : Int32) < p0 then (if (8303 : Int32) < p0 then (if (8591 : Int32) < p0 then (if (11263 : Int32) < p0 then (if (12271 : Int32) < p0 then (if (12288 : Int32) < p0 then (if (55295 : Int32) < p0 then (if (63743 : Int32) < p0 then (if (65535 : Int32) < p0 then (1 : Int32) else (if p0 < (64976 : Int32) then (1 : Int32) else (if (65007 : Int32) < p0 then (if p0 < (65534 : Int32) then (1 : Int32) else (0 : Int32)) else (0 : Int32)))) else (0 : Int32)) else (1 : Int32)) else (0 : Int32)) else (1 : Int32)) else (0 : Int32)) else (1 : Int32)) else (if p0 = (8204 : Int32) then (1 : Int32) else (if p0 = (8205 : Int32) then (1 : Int32) else (0 : Int32)))) else (if p0 = (894 : Int32) then (0 : Int32) else (1 : Int32))) else (0 : Int32)) else (if p0 = (215 : Int32) then (0 : Int32) else (if p0 = (247 : Int32) then (0 : Int32) else (1 : Int32)))) else (0 : Int32)) else (if (90 : Int32) < p0 then (if (94 : Int32) < p0 then (if p0 = (95 : Int32) then (1 : Int32) else (if p0 = (96 : Int32) then (0 : Int32) else (if (122 : Int32) < p0 then (0 : Int32) else (1 : Int32)))) else (0 : Int32)) else (1 : Int32))) else (if p0 = (58 : Int32) then (1 : Int32) else (0 : Int32)))))
theorem pn_1 : plainName "com/example/ivaldi/ivaldi/model/NameCharactersIsNameStartPinLaw" = true := by first | (simp [plainName, overriddenIn]; done) | decide +kernel
theorem d_method_2_code_0 : decode method_2_code 0 = .ok (.iload_n 0, 1) := by decide +kernel
theorem d_method_2_code_1 : decode method_2_code 1 = .ok (.bipush 58, 2) := by decide +kernel
theorem d_method_2_code_3 : decode method_2_code 3 = .ok (.if_icmp .lt 9, 3) := by decide +kernel
theorem d_method_2_code_12 : decode method_2_code 12 = .ok (.iconst 0, 1) := by decide +kernel
theorem d_method_2_code_13 : decode method_2_code 13 = .ok (.ireturn, 1) := by decide +kernel
theorem d_method_2_code_6 : decode method_2_code 6 = .ok (.iload_n 0, 1) := by decide +kernel
theorem d_method_2_code_7 : decode method_2_code 7 = .ok (.ldc 7, 2) := by decide +kernel
theorem d_method_2_code_9 : decode method_2_code 9 = .ok (.if_icmp .le 5, 3) := by decide +kernel
theorem d_method_2_code_14 : decode method_2_code 14 = .ok (.iload_n 0, 1) := by decide +kernel
theorem d_method_2_code_15 : decode method_2_code 15 = .ok (.bipush 64, 2) := by decide +kernel
theorem d_method_2_code_17 : decode method_2_code 17 = .ok (.if_icmp .gt 15, 3) := by decide +kernel
theorem d_method_2_code_32 : decode method_2_code 32 = .ok (.iload_n 0, 1) := by decide +kernel
theorem d_method_2_code_33 : decode method_2_code 33 = .ok (.bipush 127, 2) := by decide +kernel
theorem d_method_2_code_35 : decode method_2_code 35 = .ok (.if_icmp .gt 47, 3) := by decide +kernel
theorem d_method_2_code_82 : decode method_2_code 82 = .ok (.iload_n 0, 1) := by decide +kernel
theorem d_method_2_code_83 : decode method_2_code 83 = .ok (.sipush 191, 3) := by decide +kernel
theorem d_method_2_code_86 : decode method_2_code 86 = .ok (.if_icmp .gt 5, 3) := by decide +kernel
theorem d_method_2_code_91 : decode method_2_code 91 = .ok (.iload_n 0, 1) := by decide +kernel
theorem d_method_2_code_92 : decode method_2_code 92 = .ok (.sipush 767, 3) := by decide +kernel
theorem d_method_2_code_95 : decode method_2_code 95 = .ok (.if_icmp .gt 23, 3) := by decide +kernel
theorem d_method_2_code_118 : decode method_2_code 118 = .ok (.iload_n 0, 1) := by decide +kernel
theorem d_method_2_code_119 : decode method_2_code 119 = .ok (.sipush 879, 3) := by decide +kernel
theorem d_method_2_code_122 : decode method_2_code 122 = .ok (.if_icmp .gt 5, 3) := by decide +kernel
theorem d_method_2_code_127 : decode method_2_code 127 = .ok (.iload_n 0, 1) := by decide +kernel
theorem d_method_2_code_128 : decode method_2_code 128 = .ok (.sipush 8191, 3) := by decide +kernel
theorem d_method_2_code_131 : decode method_2_code 131 = .ok (.if_icmp .gt 16, 3) := by decide +kernel
theorem d_method_2_code_147 : decode method_2_code 147 = .ok (.iload_n 0, 1) := by decide +kernel
theorem d_method_2_code_148 : decode method_2_code 148 = .ok (.sipush 8303, 3) := by decide +kernel
theorem d_method_2_code_151 : decode method_2_code 151 = .ok (.if_icmp .gt 23, 3) := by decide +kernel
theorem d_method_2_code_174 : decode method_2_code 174 = .ok (.iload_n 0, 1) := by decide +kernel
theorem d_method_2_code_175 : decode method_2_code 175 = .ok (.sipush 8591, 3) := by decide +kernel
theorem d_method_2_code_178 : decode method_2_code 178 = .ok (.if_icmp .gt 5, 3) := by decide +kernel
theorem d_method_2_code_183 : decode method_2_code 183 = .ok (.iload_n 0, 1) := by decide +kernel
theorem d_method_2_code_184 : decode method_2_code 184 = .ok (.sipush 11263, 3) := by decide +kernel
theorem d_method_2_code_187 : decode method_2_code 187 = .ok (.if_icmp .gt 5, 3) := by decide +kernel
theorem d_method_2_code_192 : decode method_2_code 192 = .ok (.iload_n 0, 1) := by decide +kernel
theorem d_method_2_code_193 : decode method_2_code 193 = .ok (.sipush 12271, 3) := by decide +kernel
theorem d_method_2_code_196 : decode method_2_code 196 = .ok (.if_icmp .gt 5, 3) := by decide +kernel
theorem d_method_2_code_201 : decode method_2_code 201 = .ok (.iload_n 0, 1) := by decide +kernel
theorem d_method_2_code_202 : decode method_2_code 202 = .ok (.sipush 12288, 3) := by decide +kernel
theorem d_method_2_code_205 : decode method_2_code 205 = .ok (.if_icmp .gt 5, 3) := by decide +kernel
theorem d_method_2_code_210 : decode method_2_code 210 = .ok (.iload_n 0, 1) := by decide +kernel
theorem d_method_2_code_211 : decode method_2_code 211 = .ok (.ldc 8, 2) := by decide +kernel
theorem d_method_2_code_213 : decode method_2_code 213 = .ok (.if_icmp .gt 5, 3) := by decide +kernel
theorem d_method_2_code_218 : decode method_2_code 218 = .ok (.iload_n 0, 1) := by decide +kernel
theorem d_method_2_code_219 : decode method_2_code 219 = .ok (.ldc 9, 2) := by decide +kernel
theorem d_method_2_code_221 : decode method_2_code 221 = .ok (.if_icmp .gt 5, 3) := by decide +kernel
theorem d_method_2_code_226 : decode method_2_code 226 = .ok (.iload_n 0, 1) := by decide +kernel
theorem d_method_2_code_227 : decode method_2_code 227 = .ok (.ldc 10, 2) := by decide +kernel
theorem d_method_2_code_229 : decode method_2_code 229 = .ok (.if_icmp .gt 27, 3) := by decide +kernel
theorem d_method_2_code_256 : decode method_2_code 256 = .ok (.iconst 1, 1) := by decide +kernel
theorem d_method_2_code_257 : decode method_2_code 257 = .ok (.ireturn, 1) := by decide +kernel
theorem d_method_2_code_232 : decode method_2_code 232 = .ok (.iload_n 0, 1) := by decide +kernel
theorem d_method_2_code_233 : decode method_2_code 233 = .ok (.ldc 11, 2) := by decide +kernel
theorem d_method_2_code_235 : decode method_2_code 235 = .ok (.if_icmp .lt 9, 3) := by decide +kernel
theorem d_method_2_code_244 : decode method_2_code 244 = .ok (.iload_n 0, 1) := by decide +kernel
theorem d_method_2_code_245 : decode method_2_code 245 = .ok (.ldc 13, 2) := by decide +kernel
theorem d_method_2_code_247 : decode method_2_code 247 = .ok (.if_icmp .ge 7, 3) := by decide +kernel
theorem d_method_2_code_250 : decode method_2_code 250 = .ok (.iconst 1, 1) := by decide +kernel
theorem d_method_2_code_251 : decode method_2_code 251 = .ok (.goto 4, 3) := by decide +kernel
theorem d_method_2_code_255 : decode method_2_code 255 = .ok (.ireturn, 1) := by decide +kernel
theorem d_method_2_code_238 : decode method_2_code 238 = .ok (.iload_n 0, 1) := by decide +kernel
theorem d_method_2_code_239 : decode method_2_code 239 = .ok (.ldc 12, 2) := by decide +kernel
theorem d_method_2_code_241 : decode method_2_code 241 = .ok (.if_icmp .le 13, 3) := by decide +kernel
theorem d_method_2_code_254 : decode method_2_code 254 = .ok (.iconst 0, 1) := by decide +kernel
theorem d_method_2_code_224 : decode method_2_code 224 = .ok (.iconst 0, 1) := by decide +kernel
theorem d_method_2_code_225 : decode method_2_code 225 = .ok (.ireturn, 1) := by decide +kernel
theorem d_method_2_code_216 : decode method_2_code 216 = .ok (.iconst 1, 1) := by decide +kernel
theorem d_method_2_code_217 : decode method_2_code 217 = .ok (.ireturn, 1) := by decide +kernel
theorem d_method_2_code_208 : decode method_2_code 208 = .ok (.iconst 0, 1) := by decide +kernel
theorem d_method_2_code_209 : decode method_2_code 209 = .ok (.ireturn, 1) := by decide +kernel
theorem d_method_2_code_199 : decode method_2_code 199 = .ok (.iconst 1, 1) := by decide +kernel
theorem d_method_2_code_200 : decode method_2_code 200 = .ok (.ireturn, 1) := by decide +kernel
theorem d_method_2_code_190 : decode method_2_code 190 = .ok (.iconst 0, 1) := by decide +kernel
theorem d_method_2_code_191 : decode method_2_code 191 = .ok (.ireturn, 1) := by decide +kernel
theorem d_method_2_code_181 : decode method_2_code 181 = .ok (.iconst 1, 1) := by decide +kernel
theorem d_method_2_code_182 : decode method_2_code 182 = .ok (.ireturn, 1) := by decide +kernel
theorem d_method_2_code_154 : decode method_2_code 154 = .ok (.iload_n 0, 1) := by decide +kernel
theorem d_method_2_code_155 : decode method_2_code 155 = .ok (.sipush 8204, 3) := by decide +kernel
theorem d_method_2_code_158 : decode method_2_code 158 = .ok (.if_icmp .eq 10, 3) := by decide +kernel
theorem d_method_2_code_168 : decode method_2_code 168 = .ok (.iconst 1, 1) := by decide +kernel
theorem d_method_2_code_169 : decode method_2_code 169 = .ok (.goto 4, 3) := by decide +kernel
theorem d_method_2_code_173 : decode method_2_code 173 = .ok (.ireturn, 1) := by decide +kernel
theorem d_method_2_code_161 : decode method_2_code 161 = .ok (.iload_n 0, 1) := by decide +kernel
theorem d_method_2_code_162 : decode method_2_code 162 = .ok (.sipush 8205, 3) := by decide +kernel
theorem d_method_2_code_165 : decode method_2_code 165 = .ok (.if_icmp .ne 7, 3) := by decide +kernel
theorem d_method_2_code_172 : decode method_2_code 172 = .ok (.iconst 0, 1) := by decide +kernel
theorem d_method_2_code_134 : decode method_2_code 134 = .ok (.iload_n 0, 1) := by decide +kernel
theorem d_method_2_code_135 : decode method_2_code 135 = .ok (.sipush 894, 3) := by decide +kernel
theorem d_method_2_code_138 : decode method_2_code 138 = .ok (.if_icmp .eq 7, 3) := by decide +kernel
theorem d_method_2_code_145 : decode method_2_code 145 = .ok (.iconst 0, 1) := by decide +kernel
theorem d_method_2_code_146 : decode method_2_code 146 = .ok (.ireturn, 1) := by decide +kernel
theorem d_method_2_code_141 : decode method_2_code 141 = .ok (.iconst 1, 1) := by decide +kernel
theorem d_method_2_code_142 : decode method_2_code 142 = .ok (.goto 4, 3) := by decide +kernel
theorem d_method_2_code_125 : decode method_2_code 125 = .ok (.iconst 0, 1) := by decide +kernel
theorem d_method_2_code_126 : decode method_2_code 126 = .ok (.ireturn, 1) := by decide +kernel
theorem d_method_2_code_98 : decode method_2_code 98 = .ok (.iload_n 0, 1) := by decide +kernel
theorem d_method_2_code_99 : decode method_2_code 99 = .ok (.sipush 215, 3) := by decide +kernel
theorem d_method_2_code_102 : decode method_2_code 102 = .ok (.if_icmp .eq 14, 3) := by decide +kernel
theorem d_method_2_code_116 : decode method_2_code 116 = .ok (.iconst 0, 1) := by decide +kernel
theorem d_method_2_code_117 : decode method_2_code 117 = .ok (.ireturn, 1) := by decide +kernel
theorem d_method_2_code_105 : decode method_2_code 105 = .ok (.iload_n 0, 1) := by decide +kernel
theorem d_method_2_code_106 : decode method_2_code 106 = .ok (.sipush 247, 3) := by decide +kernel
theorem d_method_2_code_109 : decode method_2_code 109 = .ok (.if_icmp .eq 7, 3) := by decide +kernel
theorem d_method_2_code_112 : decode method_2_code 112 = .ok (.iconst 1, 1) := by decide +kernel
theorem d_method_2_code_113 : decode method_2_code 113 = .ok (.goto 4, 3) := by decide +kernel
theorem d_method_2_code_89 : decode method_2_code 89 = .ok (.iconst 0, 1) := by decide +kernel
theorem d_method_2_code_90 : decode method_2_code 90 = .ok (.ireturn, 1) := by decide +kernel
theorem d_method_2_code_38 : decode method_2_code 38 = .ok (.iload_n 0, 1) := by decide +kernel
theorem d_method_2_code_39 : decode method_2_code 39 = .ok (.bipush 90, 2) := by decide +kernel
theorem d_method_2_code_41 : decode method_2_code 41 = .ok (.if_icmp .gt 5, 3) := by decide +kernel
theorem d_method_2_code_46 : decode method_2_code 46 = .ok (.iload_n 0, 1) := by decide +kernel
theorem d_method_2_code_47 : decode method_2_code 47 = .ok (.bipush 94, 2) := by decide +kernel
theorem d_method_2_code_49 : decode method_2_code 49 = .ok (.if_icmp .gt 5, 3) := by decide +kernel
theorem d_method_2_code_54 : decode method_2_code 54 = .ok (.iload_n 0, 1) := by decide +kernel
theorem d_method_2_code_55 : decode method_2_code 55 = .ok (.bipush 95, 2) := by decide +kernel
theorem d_method_2_code_57 : decode method_2_code 57 = .ok (.if_icmp .ne 5, 3) := by decide +kernel
theorem d_method_2_code_60 : decode method_2_code 60 = .ok (.iconst 1, 1) := by decide +kernel
theorem d_method_2_code_61 : decode method_2_code 61 = .ok (.ireturn, 1) := by decide +kernel
theorem d_method_2_code_62 : decode method_2_code 62 = .ok (.iload_n 0, 1) := by decide +kernel
theorem d_method_2_code_63 : decode method_2_code 63 = .ok (.bipush 96, 2) := by decide +kernel
theorem d_method_2_code_65 : decode method_2_code 65 = .ok (.if_icmp .ne 5, 3) := by decide +kernel
theorem d_method_2_code_68 : decode method_2_code 68 = .ok (.iconst 0, 1) := by decide +kernel
theorem d_method_2_code_69 : decode method_2_code 69 = .ok (.ireturn, 1) := by decide +kernel
theorem d_method_2_code_70 : decode method_2_code 70 = .ok (.iload_n 0, 1) := by decide +kernel
theorem d_method_2_code_71 : decode method_2_code 71 = .ok (.bipush 122, 2) := by decide +kernel
theorem d_method_2_code_73 : decode method_2_code 73 = .ok (.if_icmp .gt 7, 3) := by decide +kernel
theorem d_method_2_code_80 : decode method_2_code 80 = .ok (.iconst 0, 1) := by decide +kernel
theorem d_method_2_code_81 : decode method_2_code 81 = .ok (.ireturn, 1) := by decide +kernel
theorem d_method_2_code_76 : decode method_2_code 76 = .ok (.iconst 1, 1) := by decide +kernel
theorem d_method_2_code_77 : decode method_2_code 77 = .ok (.goto 4, 3) := by decide +kernel
theorem d_method_2_code_52 : decode method_2_code 52 = .ok (.iconst 0, 1) := by decide +kernel
theorem d_method_2_code_53 : decode method_2_code 53 = .ok (.ireturn, 1) := by decide +kernel
theorem d_method_2_code_44 : decode method_2_code 44 = .ok (.iconst 1, 1) := by decide +kernel
theorem d_method_2_code_45 : decode method_2_code 45 = .ok (.ireturn, 1) := by decide +kernel
theorem d_method_2_code_20 : decode method_2_code 20 = .ok (.iload_n 0, 1) := by decide +kernel
theorem d_method_2_code_21 : decode method_2_code 21 = .ok (.bipush 58, 2) := by decide +kernel
theorem d_method_2_code_23 : decode method_2_code 23 = .ok (.if_icmp .ne 7, 3) := by decide +kernel
theorem d_method_2_code_26 : decode method_2_code 26 = .ok (.iconst 1, 1) := by decide +kernel
theorem d_method_2_code_27 : decode method_2_code 27 = .ok (.goto 4, 3) := by decide +kernel
theorem d_method_2_code_31 : decode method_2_code 31 = .ok (.ireturn, 1) := by decide +kernel
theorem d_method_2_code_30 : decode method_2_code 30 = .ok (.iconst 0, 1) := by decide +kernel
theorem ef_2 (m : MethodId) (p0 : Int32) : entryFrame m #[(.int p0)] 1 = mkF m 0 #[.val (.int p0)] [] := by first | (simp [entryFrame, mkF, argsToLocals, Value.category]; done) | rfl
def Q_rm_own_ref (Z : State) (p0 : Int32)  (h0 : Heap) (n0 : Nat) (v : Option Value) (h : Heap) (L : List Loc) : Prop := v = some (.int (own_ref p0)) ∧ Fr n0 L ∧ h = h0
set_option maxRecDepth 65536 in
set_option maxHeartbeats 40000000 in
theorem rm_own_ref (l : Launch) (Z : State) (a0 : Array Value) (hw : ∀ d ∈ tables_1, d.before a0 Z = true) (ws : List Jvm.Cond) (p0 : Int32)  (h0 : Heap) (n0 : Nat) (Z0 : n0 ≤ h0.size)  :
    MetFree l (⟨"com/example/ivaldi/ivaldi/model/NameCharactersIsNameStartPinLaw", "ref", "(I)Z"⟩ : MethodName) (head1 (Jvm.Cond.code (⟨"com/example/ivaldi/ivaldi/model/NameCharactersIsNameStartPinLaw", "ref", "(I)Z"⟩ : MethodName) method_2_code 1 (some .boolean) :: ws) ({ frames := 0, cells := 0, slots := 0, locals := 0 } : Room)) (fun av_ U => av_ = #[(.int p0)] ∧ Z.Warmed39 U.vm ∧ U.heap = h0) (fun _ _ _ _ _ => True) (fun _ U o U' => ∃ v L, o = .returned v ∧ Q_rm_own_ref Z p0 h0 n0 v U'.heap L ∧ FrameEnd U o U' L ({ frames := 0, cells := 0, slots := 0, locals := 0 } : Room).cells ({ frames := 0, cells := 0, slots := 0, locals := 0 } : Room).slots) := by
  refine MetFree.of_bodySF (plainFor_of_name pn_1) hisR ?_
  intro p e s m args below meth c s₁ Bd hml0 hP hK
  obtain ⟨rfl, hZ, hh⟩ := hP
  have hx := Bd.exec
  have hby := Bd.bytes
  have hml : c.maxLocals = 1 := hml0
  have hown : s.vm.findClass "com/example/ivaldi/ivaldi/model/NameCharactersIsNameStartPinLaw" = some m.cls := findClass_of_methodNamed Bd.named
  have hnm := (name_of_methodNamed Bd.named Bd.method).1
  have hlk : meth.locks = false := BodyLoose.notSynchronized Bd
  have X0 : Stand p l e ({ frames := 0, cells := 0, slots := 0, locals := 0 } : Room) s m #[(.int p0)] below meth c s₁ [] 0 0 := Stand.of_body Bd
  have e0 : s₁.heap = h0 := by rw [← hh, Bd.state]; rfl
  have N0 := Fr.nil n0
  refine own_by (fun _ kt => castTop (ef_2 m p0) kt) (R := own_R s (Q_rm_own_ref Z p0 h0 n0) 0 0) ?_
  show own_Go p.tables e below (s₁.setTop (mkF m 0 #[.val (.int p0)] [])) _
  refine own_by (fun _ kt => XS.iloadN X0.here hx rfl (hb hby d_method_2_code_0) rfl kt) ?_
  show own_Go p.tables e below (s₁.setTop (mkF m 1 #[.val (.int p0)] [(.int p0)])) _
  refine own_by (fun _ kt => XS.bipush X0.here hx rfl (hb hby d_method_2_code_1) kt) ?_
  show own_Go p.tables e below (s₁.setTop (mkF m 3 #[.val (.int p0)] [(.int (58 : Int32)), (.int p0)])) _
  by_cases hc3_1 : p0 < (58 : Int32)
  · refine own_by (fun _ kt => XS.icmpYes X0.here hx rfl (pc0 := 3) (pc' := 12) rfl (hb hby d_method_2_code_3) rfl (tlt hc3_1).1 (by decide) (by decide) kt) ?_
    show own_Go p.tables e below (s₁.setTop (mkF m 12 #[.val (.int p0)] [])) _
    refine own_by (fun _ kt => XS.iconst X0.here hx rfl (hb hby d_method_2_code_12) kt) ?_
    show own_Go p.tables e below (s₁.setTop (mkF m 13 #[.val (.int p0)] [(.int (0 : Int32))])) _
    exact own_retN X0 hx (t := .boolean) Bd.returns hlk (by simp) (hb hby d_method_2_code_13) ⟨by rw [own_ref, if_pos hc3_1] <;> rfl, N0, e0⟩ (by decide) (by decide)
  · refine own_by (fun _ kt => XS.icmpNo X0.here hx rfl (hb hby d_method_2_code_3) rfl (flt hc3_1).1 kt) ?_
    show own_Go p.tables e below (s₁.setTop (mkF m 6 #[.val (.int p0)] [])) _
    refine own_by (fun _ kt => XS.iloadN X0.here hx rfl (hb hby d_method_2_code_6) rfl kt) ?_
    show own_Go p.tables e below (s₁.setTop (mkF m 7 #[.val (.int p0)] [(.int p0)])) _
    refine own_by (X0.ldcInt hx hown (mvT hZ (hw _ (List.mem_of_getElem? (i := 7) rfl))) (g := (mkF m 7 #[.val (.int p0)] [(.int p0)])) rfl (hb hby d_method_2_code_7)) ?_
    show own_Go p.tables e below (s₁.setTop (mkF m 9 #[.val (.int p0)] [(.int (983039 : Int32)), (.int p0)])) _
    by_cases hc9_2 : (983039 : Int32) < p0
    · refine own_by (fun _ kt => XS.icmpNo X0.here hx rfl (hb hby d_method_2_code_9) rfl (tlt hc9_2).2.2.2 kt) ?_
      show own_Go p.tables e below (s₁.setTop (mkF m 12 #[.val (.int p0)] [])) _
      refine own_by (fun _ kt => XS.iconst X0.here hx rfl (hb hby d_method_2_code_12) kt) ?_
      show own_Go p.tables e below (s₁.setTop (mkF m 13 #[.val (.int p0)] [(.int (0 : Int32))])) _
      exact own_retN X0 hx (t := .boolean) Bd.returns hlk (by simp) (hb hby d_method_2_code_13) ⟨by rw [own_ref, if_neg hc3_1, if_pos hc9_2] <;> rfl, N0, e0⟩ (by decide) (by decide)
    · refine own_by (fun _ kt => XS.icmpYes X0.here hx rfl (pc0 := 9) (pc' := 14) rfl (hb hby d_method_2_code_9) rfl (flt hc9_2).2.2.2 (by decide) (by decide) kt) ?_
      show own_Go p.tables e below (s₁.setTop (mkF m 14 #[.val (.int p0)] [])) _
      refine own_by (fun _ kt => XS.iloadN X0.here hx rfl (hb hby d_method_2_code_14) rfl kt) ?_
      show own_Go p.tables e below (s₁.setTop (mkF m 15 #[.val (.int p0)] [(.int p0)])) _
      refine own_by (fun _ kt => XS.bipush X0.here hx rfl (hb hby d_method_2_code_15) kt) ?_
      show own_Go p.tables e below (s₁.setTop (mkF m 17 #[.val (.int p0)] [(.int (64 : Int32)), (.int p0)])) _
      by_cases hc17_3 : (64 : Int32) < p0
      · refine own_by (fun _ kt => XS.icmpYes X0.here hx rfl (pc0 := 17) (pc' := 32) rfl (hb hby d_method_2_code_17) rfl (tlt hc17_3).2.2.1 (by decide) (by decide) kt) ?_
        show own_Go p.tables e below (s₁.setTop (mkF m 32 #[.val (.int p0)] [])) _
        refine own_by (fun _ kt => XS.iloadN X0.here hx rfl (hb hby d_method_2_code_32) rfl kt) ?_
        show own_Go p.tables e below (s₁.setTop (mkF m 33 #[.val (.int p0)] [(.int p0)])) _
        refine own_by (fun _ kt => XS.bipush X0.here hx rfl (hb hby d_method_2_code_33) kt) ?_
        show own_Go p.tables e below (s₁.setTop (mkF m 35 #[.val (.int p0)] [(.int (127 : Int32)), (.int p0)])) _
        by_cases hc35_4 : (127 : Int32) < p0
        · refine own_by (fun _ kt => XS.icmpYes X0.here hx rfl (pc0 := 35) (pc' := 82) rfl (hb hby d_method_2_code_35) rfl (tlt hc35_4).2.2.1 (by decide) (by decide) kt) ?_
          show own_Go p.tables e below (s₁.setTop (mkF m 82 #[.val (.int p0)] [])) _
          refine own_by (fun _ kt => XS.iloadN X0.here hx rfl (hb hby d_method_2_code_82) rfl kt) ?_
          show own_Go p.tables e below (s₁.setTop (mkF m 83 #[.val (.int p0)] [(.int p0)])) _
          refine own_by (fun _ kt => XS.sipush X0.here hx rfl (hb hby d_method_2_code_83) kt) ?_
          show own_Go p.tables e below (s₁.setTop (mkF m 86 #[.val (.int p0)] [(.int (191 : Int32)), (.int p0)])) _
          by_cases hc86_5 : (191 : Int32) < p0
          · refine own_by (fun _ kt => XS.icmpYes X0.here hx rfl (pc0 := 86) (pc' := 91) rfl (hb hby d_method_2_code_86) rfl (tlt hc86_5).2.2.1 (by decide) (by decide) kt) ?_
            show own_Go p.tables e below (s₁.setTop (mkF m 91 #[.val (.int p0)] [])) _
            refine own_by (fun _ kt => XS.iloadN X0.here hx rfl (hb hby d_method_2_code_91) rfl kt) ?_
            show own_Go p.tables e below (s₁.setTop (mkF m 92 #[.val (.int p0)] [(.int p0)])) _
            refine own_by (fun _ kt => XS.sipush X0.here hx rfl (hb hby d_method_2_code_92) kt) ?_
            show own_Go p.tables e below (s₁.setTop (mkF m 95 #[.val (.int p0)] [(.int (767 : Int32)), (.int p0)])) _
            by_cases hc95_6 : (767 : Int32) < p0
            · refine own_by (fun _ kt => XS.icmpYes X0.here hx rfl (pc0 := 95) (pc' := 118) rfl (hb hby d_method_2_code_95) rfl (tlt hc95_6).2.2.1 (by decide) (by decide) kt) ?_
              show own_Go p.tables e below (s₁.setTop (mkF m 118 #[.val (.int p0)] [])) _
              refine own_by (fun _ kt => XS.iloadN X0.here hx rfl (hb hby d_method_2_code_118) rfl kt) ?_
              show own_Go p.tables e below (s₁.setTop (mkF m 119 #[.val (.int p0)] [(.int p0)])) _
              refine own_by (fun _ kt => XS.sipush X0.here hx rfl (hb hby d_method_2_code_119) kt) ?_
              show own_Go p.tables e below (s₁.setTop (mkF m 122 #[.val (.int p0)] [(.int (879 : Int32)), (.int p0)])) _
              by_cases hc122_7 : (879 : Int32) < p0
              · refine own_by (fun _ kt => XS.icmpYes X0.here hx rfl (pc0 := 122) (pc' := 127) rfl (hb hby d_method_2_code_122) rfl (tlt hc122_7).2.2.1 (by decide) (by decide) kt) ?_
                show own_Go p.tables e below (s₁.setTop (mkF m 127 #[.val (.int p0)] [])) _
                refine own_by (fun _ kt => XS.iloadN X0.here hx rfl (hb hby d_method_2_code_127) rfl kt) ?_
                show own_Go p.tables e below (s₁.setTop (mkF m 128 #[.val (.int p0)] [(.int p0)])) _
                refine own_by (fun _ kt => XS.sipush X0.here hx rfl (hb hby d_method_2_code_128) kt) ?_
                show own_Go p.tables e below (s₁.setTop (mkF m 131 #[.val (.int p0)] [(.int (8191 : Int32)), (.int p0)])) _
                by_cases hc131_8 : (8191 : Int32) < p0
                · refine own_by (fun _ kt => XS.icmpYes X0.here hx rfl (pc0 := 131) (pc' := 147) rfl (hb hby d_method_2_code_131) rfl (tlt hc131_8).2.2.1 (by decide) (by decide) kt) ?_
                  show own_Go p.tables e below (s₁.setTop (mkF m 147 #[.val (.int p0)] [])) _
                  refine own_by (fun _ kt => XS.iloadN X0.here hx rfl (hb hby d_method_2_code_147) rfl kt) ?_
                  show own_Go p.tables e below (s₁.setTop (mkF m 148 #[.val (.int p0)] [(.int p0)])) _
                  refine own_by (fun _ kt => XS.sipush X0.here hx rfl (hb hby d_method_2_code_148) kt) ?_
                  show own_Go p.tables e below (s₁.setTop (mkF m 151 #[.val (.int p0)] [(.int (8303 : Int32)), (.int p0)])) _
                  by_cases hc151_9 : (8303 : Int32) < p0
                  · refine own_by (fun _ kt => XS.icmpYes X0.here hx rfl (pc0 := 151) (pc' := 174) rfl (hb hby d_method_2_code_151) rfl (tlt hc151_9).2.2.1 (by decide) (by decide) kt) ?_
                    show own_Go p.tables e below (s₁.setTop (mkF m 174 #[.val (.int p0)] [])) _
                    refine own_by (fun _ kt => XS.iloadN X0.here hx rfl (hb hby d_method_2_code_174) rfl kt) ?_
                    show own_Go p.tables e below (s₁.setTop (mkF m 175 #[.val (.int p0)] [(.int p0)])) _
                    refine own_by (fun _ kt => XS.sipush X0.here hx rfl (hb hby d_method_2_code_175) kt) ?_
                    show own_Go p.tables e below (s₁.setTop (mkF m 178 #[.val (.int p0)] [(.int (8591 : Int32)), (.int p0)])) _
                    by_cases hc178_10 : (8591 : Int32) < p0
                    · refine own_by (fun _ kt => XS.icmpYes X0.here hx rfl (pc0 := 178) (pc' := 183) rfl (hb hby d_method_2_code_178) rfl (tlt hc178_10).2.2.1 (by decide) (by decide) kt) ?_
                      show own_Go p.tables e below (s₁.setTop (mkF m 183 #[.val (.int p0)] [])) _
                      refine own_by (fun _ kt => XS.iloadN X0.here hx rfl (hb hby d_method_2_code_183) rfl kt) ?_
                      show own_Go p.tables e below (s₁.setTop (mkF m 184 #[.val (.int p0)] [(.int p0)])) _
                      refine own_by (fun _ kt => XS.sipush X0.here hx rfl (hb hby d_method_2_code_184) kt) ?_
                      show own_Go p.tables e below (s₁.setTop (mkF m 187 #[.val (.int p0)] [(.int (11263 : Int32)), (.int p0)])) _
                      by_cases hc187_11 : (11263 : Int32) < p0
                      · refine own_by (fun _ kt => XS.icmpYes X0.here hx rfl (pc0 := 187) (pc' := 192) rfl (hb hby d_method_2_code_187) rfl (tlt hc187_11).2.2.1 (by decide) (by decide) kt) ?_
                        show own_Go p.tables e below (s₁.setTop (mkF m 192 #[.val (.int p0)] [])) _
                        refine own_by (fun _ kt => XS.iloadN X0.here hx rfl (hb hby d_method_2_code_192) rfl kt) ?_
                        show own_Go p.tables e below (s₁.setTop (mkF m 193 #[.val (.int p0)] [(.int p0)])) _
                        refine own_by (fun _ kt => XS.sipush X0.here hx rfl (hb hby d_method_2_code_193) kt) ?_
                        show own_Go p.tables e below (s₁.setTop (mkF m 196 #[.val (.int p0)] [(.int (12271 : Int32)), (.int p0)])) _
                        by_cases hc196_12 : (12271 : Int32) < p0
                        · refine own_by (fun _ kt => XS.icmpYes X0.here hx rfl (pc0 := 196) (pc' := 201) rfl (hb hby d_method_2_code_196) rfl (tlt hc196_12).2.2.1 (by decide) (by decide) kt) ?_
                          show own_Go p.tables e below (s₁.setTop (mkF m 201 #[.val (.int p0)] [])) _
                          refine own_by (fun _ kt => XS.iloadN X0.here hx rfl (hb hby d_method_2_code_201) rfl kt) ?_
                          show own_Go p.tables e below (s₁.setTop (mkF m 202 #[.val (.int p0)] [(.int p0)])) _
                          refine own_by (fun _ kt => XS.sipush X0.here hx rfl (hb hby d_method_2_code_202) kt) ?_
                          show own_Go p.tables e below (s₁.setTop (mkF m 205 #[.val (.int p0)] [(.int (12288 : Int32)), (.int p0)])) _
                          by_cases hc205_13 : (12288 : Int32) < p0
                          · refine own_by (fun _ kt => XS.icmpYes X0.here hx rfl (pc0 := 205) (pc' := 210) rfl (hb hby d_method_2_code_205) rfl (tlt hc205_13).2.2.1 (by decide) (by decide) kt) ?_
                            show own_Go p.tables e below (s₁.setTop (mkF m 210 #[.val (.int p0)] [])) _
                            refine own_by (fun _ kt => XS.iloadN X0.here hx rfl (hb hby d_method_2_code_210) rfl kt) ?_
                            show own_Go p.tables e below (s₁.setTop (mkF m 211 #[.val (.int p0)] [(.int p0)])) _
                            refine own_by (X0.ldcInt hx hown (mvT hZ (hw _ (List.mem_of_getElem? (i := 1) rfl))) (g := (mkF m 211 #[.val (.int p0)] [(.int p0)])) rfl (hb hby d_method_2_code_211)) ?_
                            show own_Go p.tables e below (s₁.setTop (mkF m 213 #[.val (.int p0)] [(.int (55295 : Int32)), (.int p0)])) _
                            by_cases hc213_14 : (55295 : Int32) < p0
                            · refine own_by (fun _ kt => XS.icmpYes X0.here hx rfl (pc0 := 213) (pc' := 218) rfl (hb hby d_method_2_code_213) rfl (tlt hc213_14).2.2.1 (by decide) (by decide) kt) ?_
                              show own_Go p.tables e below (s₁.setTop (mkF m 218 #[.val (.int p0)] [])) _
                              refine own_by (fun _ kt => XS.iloadN X0.here hx rfl (hb hby d_method_2_code_218) rfl kt) ?_
                              show own_Go p.tables e below (s₁.setTop (mkF m 219 #[.val (.int p0)] [(.int p0)])) _
                              refine own_by (X0.ldcInt hx hown (mvT hZ (hw _ (List.mem_of_getElem? (i := 29) rfl))) (g := (mkF m 219 #[.val (.int p0)] [(.int p0)])) rfl (hb hby d_method_2_code_219)) ?_
                              show own_Go p.tables e below (s₁.setTop (mkF m 221 #[.val (.int p0)] [(.int (63743 : Int32)), (.int p0)])) _
                              by_cases hc221_15 : (63743 : Int32) < p0
                              · refine own_by (fun _ kt => XS.icmpYes X0.here hx rfl (pc0 := 221) (pc' := 226) rfl (hb hby d_method_2_code_221) rfl (tlt hc221_15).2.2.1 (by decide) (by decide) kt) ?_
                                show own_Go p.tables e below (s₁.setTop (mkF m 226 #[.val (.int p0)] [])) _
                                refine own_by (fun _ kt => XS.iloadN X0.here hx rfl (hb hby d_method_2_code_226) rfl kt) ?_
                                show own_Go p.tables e below (s₁.setTop (mkF m 227 #[.val (.int p0)] [(.int p0)])) _
                                refine own_by (X0.ldcInt hx hown (mvT hZ (hw _ (List.mem_of_getElem? (i := 10) rfl))) (g := (mkF m 227 #[.val (.int p0)] [(.int p0)])) rfl (hb hby d_method_2_code_227)) ?_
                                show own_Go p.tables e below (s₁.setTop (mkF m 229 #[.val (.int p0)] [(.int (65535 : Int32)), (.int p0)])) _
                                by_cases hc229_16 : (65535 : Int32) < p0
                                · refine own_by (fun _ kt => XS.icmpYes X0.here hx rfl (pc0 := 229) (pc' := 256) rfl (hb hby d_method_2_code_229) rfl (tlt hc229_16).2.2.1 (by decide) (by decide) kt) ?_
                                  show own_Go p.tables e below (s₁.setTop (mkF m 256 #[.val (.int p0)] [])) _
                                  refine own_by (fun _ kt => XS.iconst X0.here hx rfl (hb hby d_method_2_code_256) kt) ?_
                                  show own_Go p.tables e below (s₁.setTop (mkF m 257 #[.val (.int p0)] [(.int (1 : Int32))])) _
                                  exact own_retN X0 hx (t := .boolean) Bd.returns hlk (by simp) (hb hby d_method_2_code_257) ⟨by rw [own_ref, if_neg hc3_1, if_neg hc9_2, if_pos hc17_3, if_pos hc35_4, if_pos hc86_5, if_pos hc95_6, if_pos hc122_7, if_pos hc131_8, if_pos hc151_9, if_pos hc178_10, if_pos hc187_11, if_pos hc196_12, if_pos hc205_13, if_pos hc213_14, if_pos hc221_15, if_pos hc229_16] <;> rfl, N0, e0⟩ (by decide) (by decide)
                                · refine own_by (fun _ kt => XS.icmpNo X0.here hx rfl (hb hby d_method_2_code_229) rfl (flt hc229_16).2.2.1 kt) ?_
                                  show own_Go p.tables e below (s₁.setTop (mkF m 232 #[.val (.int p0)] [])) _
                                  refine own_by (fun _ kt => XS.iloadN X0.here hx rfl (hb hby d_method_2_code_232) rfl kt) ?_
                                  show own_Go p.tables e below (s₁.setTop (mkF m 233 #[.val (.int p0)] [(.int p0)])) _
                                  refine own_by (X0.ldcInt hx hown (mvT hZ (hw _ (List.mem_of_getElem? (i := 30) rfl))) (g := (mkF m 233 #[.val (.int p0)] [(.int p0)])) rfl (hb hby d_method_2_code_233)) ?_
                                  show own_Go p.tables e below (s₁.setTop (mkF m 235 #[.val (.int p0)] [(.int (64976 : Int32)), (.int p0)])) _
                                  by_cases hc235_17 : p0 < (64976 : Int32)
                                  · refine own_by (fun _ kt => XS.icmpYes X0.here hx rfl (pc0 := 235) (pc' := 244) rfl (hb hby d_method_2_code_235) rfl (tlt hc235_17).1 (by decide) (by decide) kt) ?_
                                    show own_Go p.tables e below (s₁.setTop (mkF m 244 #[.val (.int p0)] [])) _
                                    refine own_by (fun _ kt => XS.iloadN X0.here hx rfl (hb hby d_method_2_code_244) rfl kt) ?_
                                    show own_Go p.tables e below (s₁.setTop (mkF m 245 #[.val (.int p0)] [(.int p0)])) _
                                    refine own_by (X0.ldcInt hx hown (mvT hZ (hw _ (List.mem_of_getElem? (i := 32) rfl))) (g := (mkF m 245 #[.val (.int p0)] [(.int p0)])) rfl (hb hby d_method_2_code_245)) ?_
                                    show own_Go p.tables e below (s₁.setTop (mkF m 247 #[.val (.int p0)] [(.int (65534 : Int32)), (.int p0)])) _
                                    refine own_by (fun _ kt => XS.icmpNo X0.here hx rfl (hb hby d_method_2_code_247) rfl (tlt (own_i1 hc235_17 (by decide) : p0 < (65534 : Int32))).2.1 kt) ?_
                                    show own_Go p.tables e below (s₁.setTop (mkF m 250 #[.val (.int p0)] [])) _
                                    refine own_by (fun _ kt => XS.iconst X0.here hx rfl (hb hby d_method_2_code_250) kt) ?_
                                    show own_Go p.tables e below (s₁.setTop (mkF m 251 #[.val (.int p0)] [(.int (1 : Int32))])) _
                                    refine own_by (fun _ kt => XS.goto X0.here hx rfl (pc0 := 251) (pc' := 255) rfl (hb hby d_method_2_code_251) (by decide) (by decide) kt) ?_
                                    show own_Go p.tables e below (s₁.setTop (mkF m 255 #[.val (.int p0)] [(.int (1 : Int32))])) _
                                    exact own_retN X0 hx (t := .boolean) Bd.returns hlk (by simp) (hb hby d_method_2_code_255) ⟨by rw [own_ref, if_neg hc3_1, if_neg hc9_2, if_pos hc17_3, if_pos hc35_4, if_pos hc86_5, if_pos hc95_6, if_pos hc122_7, if_pos hc131_8, if_pos hc151_9, if_pos hc178_10, if_pos hc187_11, if_pos hc196_12, if_pos hc205_13, if_pos hc213_14, if_pos hc221_15, if_neg hc229_16, if_pos hc235_17] <;> rfl, N0, e0⟩ (by decide) (by decide)
                                  · refine own_by (fun _ kt => XS.icmpNo X0.here hx rfl (hb hby d_method_2_code_235) rfl (flt hc235_17).1 kt) ?_
                                    show own_Go p.tables e below (s₁.setTop (mkF m 238 #[.val (.int p0)] [])) _
                                    refine own_by (fun _ kt => XS.iloadN X0.here hx rfl (hb hby d_method_2_code_238) rfl kt) ?_
                                    show own_Go p.tables e below (s₁.setTop (mkF m 239 #[.val (.int p0)] [(.int p0)])) _
                                    refine own_by (X0.ldcInt hx hown (mvT hZ (hw _ (List.mem_of_getElem? (i := 31) rfl))) (g := (mkF m 239 #[.val (.int p0)] [(.int p0)])) rfl (hb hby d_method_2_code_239)) ?_
                                    show own_Go p.tables e below (s₁.setTop (mkF m 241 #[.val (.int p0)] [(.int (65007 : Int32)), (.int p0)])) _
                                    by_cases hc241_18 : (65007 : Int32) < p0
                                    · refine own_by (fun _ kt => XS.icmpNo X0.here hx rfl (hb hby d_method_2_code_241) rfl (tlt hc241_18).2.2.2 kt) ?_
                                      show own_Go p.tables e below (s₁.setTop (mkF m 244 #[.val (.int p0)] [])) _
                                      refine own_by (fun _ kt => XS.iloadN X0.here hx rfl (hb hby d_method_2_code_244) rfl kt) ?_
                                      show own_Go p.tables e below (s₁.setTop (mkF m 245 #[.val (.int p0)] [(.int p0)])) _
                                      refine own_by (X0.ldcInt hx hown (mvT hZ (hw _ (List.mem_of_getElem? (i := 32) rfl))) (g := (mkF m 245 #[.val (.int p0)] [(.int p0)])) rfl (hb hby d_method_2_code_245)) ?_
                                      show own_Go p.tables e below (s₁.setTop (mkF m 247 #[.val (.int p0)] [(.int (65534 : Int32)), (.int p0)])) _
                                      by_cases hc247_19 : p0 < (65534 : Int32)
                                      · refine own_by (fun _ kt => XS.icmpNo X0.here hx rfl (hb hby d_method_2_code_247) rfl (tlt hc247_19).2.1 kt) ?_
                                        show own_Go p.tables e below (s₁.setTop (mkF m 250 #[.val (.int p0)] [])) _
                                        refine own_by (fun _ kt => XS.iconst X0.here hx rfl (hb hby d_method_2_code_250) kt) ?_
                                        show own_Go p.tables e below (s₁.setTop (mkF m 251 #[.val (.int p0)] [(.int (1 : Int32))])) _
                                        refine own_by (fun _ kt => XS.goto X0.here hx rfl (pc0 := 251) (pc' := 255) rfl (hb hby d_method_2_code_251) (by decide) (by decide) kt) ?_
                                        show own_Go p.tables e below (s₁.setTop (mkF m 255 #[.val (.int p0)] [(.int (1 : Int32))])) _
                                        exact own_retN X0 hx (t := .boolean) Bd.returns hlk (by simp) (hb hby d_method_2_code_255) ⟨by rw [own_ref, if_neg hc3_1, if_neg hc9_2, if_pos hc17_3, if_pos hc35_4, if_pos hc86_5, if_pos hc95_6, if_pos hc122_7, if_pos hc131_8, if_pos hc151_9, if_pos hc178_10, if_pos hc187_11, if_pos hc196_12, if_pos hc205_13, if_pos hc213_14, if_pos hc221_15, if_neg hc229_16, if_neg hc235_17, if_pos hc241_18, if_pos hc247_19] <;> rfl, N0, e0⟩ (by decide) (by decide)
                                      · refine own_by (fun _ kt => XS.icmpYes X0.here hx rfl (pc0 := 247) (pc' := 254) rfl (hb hby d_method_2_code_247) rfl (flt hc247_19).2.1 (by decide) (by decide) kt) ?_
                                        show own_Go p.tables e below (s₁.setTop (mkF m 254 #[.val (.int p0)] [])) _
                                        refine own_by (fun _ kt => XS.iconst X0.here hx rfl (hb hby d_method_2_code_254) kt) ?_
                                        show own_Go p.tables e below (s₁.setTop (mkF m 255 #[.val (.int p0)] [(.int (0 : Int32))])) _
                                        exact own_retN X0 hx (t := .boolean) Bd.returns hlk (by simp) (hb hby d_method_2_code_255) ⟨by rw [own_ref, if_neg hc3_1, if_neg hc9_2, if_pos hc17_3, if_pos hc35_4, if_pos hc86_5, if_pos hc95_6, if_pos hc122_7, if_pos hc131_8, if_pos hc151_9, if_pos hc178_10, if_pos hc187_11, if_pos hc196_12, if_pos hc205_13, if_pos hc213_14, if_pos hc221_15, if_neg hc229_16, if_neg hc235_17, if_pos hc241_18, if_neg hc247_19] <;> rfl, N0, e0⟩ (by decide) (by decide)
                                    · refine own_by (fun _ kt => XS.icmpYes X0.here hx rfl (pc0 := 241) (pc' := 254) rfl (hb hby d_method_2_code_241) rfl (flt hc241_18).2.2.2 (by decide) (by decide) kt) ?_
                                      show own_Go p.tables e below (s₁.setTop (mkF m 254 #[.val (.int p0)] [])) _
                                      refine own_by (fun _ kt => XS.iconst X0.here hx rfl (hb hby d_method_2_code_254) kt) ?_
                                      show own_Go p.tables e below (s₁.setTop (mkF m 255 #[.val (.int p0)] [(.int (0 : Int32))])) _
                                      exact own_retN X0 hx (t := .boolean) Bd.returns hlk (by simp) (hb hby d_method_2_code_255) ⟨by rw [own_ref, if_neg hc3_1, if_neg hc9_2, if_pos hc17_3, if_pos hc35_4, if_pos hc86_5, if_pos hc95_6, if_pos hc122_7, if_pos hc131_8, if_pos hc151_9, if_pos hc178_10, if_pos hc187_11, if_pos hc196_12, if_pos hc205_13, if_pos hc213_14, if_pos hc221_15, if_neg hc229_16, if_neg hc235_17, if_neg hc241_18] <;> rfl, N0, e0⟩ (by decide) (by decide)
                              · refine own_by (fun _ kt => XS.icmpNo X0.here hx rfl (hb hby d_method_2_code_221) rfl (flt hc221_15).2.2.1 kt) ?_
                                show own_Go p.tables e below (s₁.setTop (mkF m 224 #[.val (.int p0)] [])) _
                                refine own_by (fun _ kt => XS.iconst X0.here hx rfl (hb hby d_method_2_code_224) kt) ?_
                                show own_Go p.tables e below (s₁.setTop (mkF m 225 #[.val (.int p0)] [(.int (0 : Int32))])) _
                                exact own_retN X0 hx (t := .boolean) Bd.returns hlk (by simp) (hb hby d_method_2_code_225) ⟨by rw [own_ref, if_neg hc3_1, if_neg hc9_2, if_pos hc17_3, if_pos hc35_4, if_pos hc86_5, if_pos hc95_6, if_pos hc122_7, if_pos hc131_8, if_pos hc151_9, if_pos hc178_10, if_pos hc187_11, if_pos hc196_12, if_pos hc205_13, if_pos hc213_14, if_neg hc221_15] <;> rfl, N0, e0⟩ (by decide) (by decide)
                            · refine own_by (fun _ kt => XS.icmpNo X0.here hx rfl (hb hby d_method_2_code_213) rfl (flt hc213_14).2.2.1 kt) ?_
                              show own_Go p.tables e below (s₁.setTop (mkF m 216 #[.val (.int p0)] [])) _
                              refine own_by (fun _ kt => XS.iconst X0.here hx rfl (hb hby d_method_2_code_216) kt) ?_
                              show own_Go p.tables e below (s₁.setTop (mkF m 217 #[.val (.int p0)] [(.int (1 : Int32))])) _
                              exact own_retN X0 hx (t := .boolean) Bd.returns hlk (by simp) (hb hby d_method_2_code_217) ⟨by rw [own_ref, if_neg hc3_1, if_neg hc9_2, if_pos hc17_3, if_pos hc35_4, if_pos hc86_5, if_pos hc95_6, if_pos hc122_7, if_pos hc131_8, if_pos hc151_9, if_pos hc178_10, if_pos hc187_11, if_pos hc196_12, if_pos hc205_13, if_neg hc213_14] <;> rfl, N0, e0⟩ (by decide) (by decide)
                          · refine own_by (fun _ kt => XS.icmpNo X0.here hx rfl (hb hby d_method_2_code_205) rfl (flt hc205_13).2.2.1 kt) ?_
                            show own_Go p.tables e below (s₁.setTop (mkF m 208 #[.val (.int p0)] [])) _
                            refine own_by (fun _ kt => XS.iconst X0.here hx rfl (hb hby d_method_2_code_208) kt) ?_
                            show own_Go p.tables e below (s₁.setTop (mkF m 209 #[.val (.int p0)] [(.int (0 : Int32))])) _
                            exact own_retN X0 hx (t := .boolean) Bd.returns hlk (by simp) (hb hby d_method_2_code_209) ⟨by rw [own_ref, if_neg hc3_1, if_neg hc9_2, if_pos hc17_3, if_pos hc35_4, if_pos hc86_5, if_pos hc95_6, if_pos hc122_7, if_pos hc131_8, if_pos hc151_9, if_pos hc178_10, if_pos hc187_11, if_pos hc196_12, if_neg hc205_13] <;> rfl, N0, e0⟩ (by decide) (by decide)
                        · refine own_by (fun _ kt => XS.icmpNo X0.here hx rfl (hb hby d_method_2_code_196) rfl (flt hc196_12).2.2.1 kt) ?_
                          show own_Go p.tables e below (s₁.setTop (mkF m 199 #[.val (.int p0)] [])) _
                          refine own_by (fun _ kt => XS.iconst X0.here hx rfl (hb hby d_method_2_code_199) kt) ?_
                          show own_Go p.tables e below (s₁.setTop (mkF m 200 #[.val (.int p0)] [(.int (1 : Int32))])) _
                          exact own_retN X0 hx (t := .boolean) Bd.returns hlk (by simp) (hb hby d_method_2_code_200) ⟨by rw [own_ref, if_neg hc3_1, if_neg hc9_2, if_pos hc17_3, if_pos hc35_4, if_pos hc86_5, if_pos hc95_6, if_pos hc122_7, if_pos hc131_8, if_pos hc151_9, if_pos hc178_10, if_pos hc187_11, if_neg hc196_12] <;> rfl, N0, e0⟩ (by decide) (by decide)
                      · refine own_by (fun _ kt => XS.icmpNo X0.here hx rfl (hb hby d_method_2_code_187) rfl (flt hc187_11).2.2.1 kt) ?_
                        show own_Go p.tables e below (s₁.setTop (mkF m 190 #[.val (.int p0)] [])) _
                        refine own_by (fun _ kt => XS.iconst X0.here hx rfl (hb hby d_method_2_code_190) kt) ?_
                        show own_Go p.tables e below (s₁.setTop (mkF m 191 #[.val (.int p0)] [(.int (0 : Int32))])) _
                        exact own_retN X0 hx (t := .boolean) Bd.returns hlk (by simp) (hb hby d_method_2_code_191) ⟨by rw [own_ref, if_neg hc3_1, if_neg hc9_2, if_pos hc17_3, if_pos hc35_4, if_pos hc86_5, if_pos hc95_6, if_pos hc122_7, if_pos hc131_8, if_pos hc151_9, if_pos hc178_10, if_neg hc187_11] <;> rfl, N0, e0⟩ (by decide) (by decide)
                    · refine own_by (fun _ kt => XS.icmpNo X0.here hx rfl (hb hby d_method_2_code_178) rfl (flt hc178_10).2.2.1 kt) ?_
                      show own_Go p.tables e below (s₁.setTop (mkF m 181 #[.val (.int p0)] [])) _
                      refine own_by (fun _ kt => XS.iconst X0.here hx rfl (hb hby d_method_2_code_181) kt) ?_
                      show own_Go p.tables e below (s₁.setTop (mkF m 182 #[.val (.int p0)] [(.int (1 : Int32))])) _
                      exact own_retN X0 hx (t := .boolean) Bd.returns hlk (by simp) (hb hby d_method_2_code_182) ⟨by rw [own_ref, if_neg hc3_1, if_neg hc9_2, if_pos hc17_3, if_pos hc35_4, if_pos hc86_5, if_pos hc95_6, if_pos hc122_7, if_pos hc131_8, if_pos hc151_9, if_neg hc178_10] <;> rfl, N0, e0⟩ (by decide) (by decide)
                  · refine own_by (fun _ kt => XS.icmpNo X0.here hx rfl (hb hby d_method_2_code_151) rfl (flt hc151_9).2.2.1 kt) ?_
                    show own_Go p.tables e below (s₁.setTop (mkF m 154 #[.val (.int p0)] [])) _
                    refine own_by (fun _ kt => XS.iloadN X0.here hx rfl (hb hby d_method_2_code_154) rfl kt) ?_
                    show own_Go p.tables e below (s₁.setTop (mkF m 155 #[.val (.int p0)] [(.int p0)])) _
                    refine own_by (fun _ kt => XS.sipush X0.here hx rfl (hb hby d_method_2_code_155) kt) ?_
                    show own_Go p.tables e below (s₁.setTop (mkF m 158 #[.val (.int p0)] [(.int (8204 : Int32)), (.int p0)])) _
                    by_cases hc158_20 : p0 = (8204 : Int32)
                    · refine own_by (fun _ kt => XS.icmpYes X0.here hx rfl (pc0 := 158) (pc' := 168) rfl (hb hby d_method_2_code_158) rfl (teq hc158_20).1 (by decide) (by decide) kt) ?_
                      show own_Go p.tables e below (s₁.setTop (mkF m 168 #[.val (.int p0)] [])) _
                      refine own_by (fun _ kt => XS.iconst X0.here hx rfl (hb hby d_method_2_code_168) kt) ?_
                      show own_Go p.tables e below (s₁.setTop (mkF m 169 #[.val (.int p0)] [(.int (1 : Int32))])) _
                      refine own_by (fun _ kt => XS.goto X0.here hx rfl (pc0 := 169) (pc' := 173) rfl (hb hby d_method_2_code_169) (by decide) (by decide) kt) ?_
                      show own_Go p.tables e below (s₁.setTop (mkF m 173 #[.val (.int p0)] [(.int (1 : Int32))])) _
                      exact own_retN X0 hx (t := .boolean) Bd.returns hlk (by simp) (hb hby d_method_2_code_173) ⟨by rw [own_ref, if_neg hc3_1, if_neg hc9_2, if_pos hc17_3, if_pos hc35_4, if_pos hc86_5, if_pos hc95_6, if_pos hc122_7, if_pos hc131_8, if_neg hc151_9, if_pos hc158_20] <;> rfl, N0, e0⟩ (by decide) (by decide)
                    · refine own_by (fun _ kt => XS.icmpNo X0.here hx rfl (hb hby d_method_2_code_158) rfl (feq hc158_20).1 kt) ?_
                      show own_Go p.tables e below (s₁.setTop (mkF m 161 #[.val (.int p0)] [])) _
                      refine own_by (fun _ kt => XS.iloadN X0.here hx rfl (hb hby d_method_2_code_161) rfl kt) ?_
                      show own_Go p.tables e below (s₁.setTop (mkF m 162 #[.val (.int p0)] [(.int p0)])) _
                      refine own_by (fun _ kt => XS.sipush X0.here hx rfl (hb hby d_method_2_code_162) kt) ?_
                      show own_Go p.tables e below (s₁.setTop (mkF m 165 #[.val (.int p0)] [(.int (8205 : Int32)), (.int p0)])) _
                      by_cases hc165_21 : p0 = (8205 : Int32)
                      · refine own_by (fun _ kt => XS.icmpNo X0.here hx rfl (hb hby d_method_2_code_165) rfl (teq hc165_21).2 kt) ?_
                        show own_Go p.tables e below (s₁.setTop (mkF m 168 #[.val (.int p0)] [])) _
                        refine own_by (fun _ kt => XS.iconst X0.here hx rfl (hb hby d_method_2_code_168) kt) ?_
                        show own_Go p.tables e below (s₁.setTop (mkF m 169 #[.val (.int p0)] [(.int (1 : Int32))])) _
                        refine own_by (fun _ kt => XS.goto X0.here hx rfl (pc0 := 169) (pc' := 173) rfl (hb hby d_method_2_code_169) (by decide) (by decide) kt) ?_
                        show own_Go p.tables e below (s₁.setTop (mkF m 173 #[.val (.int p0)] [(.int (1 : Int32))])) _
                        exact own_retN X0 hx (t := .boolean) Bd.returns hlk (by simp) (hb hby d_method_2_code_173) ⟨by rw [own_ref, if_neg hc3_1, if_neg hc9_2, if_pos hc17_3, if_pos hc35_4, if_pos hc86_5, if_pos hc95_6, if_pos hc122_7, if_pos hc131_8, if_neg hc151_9, if_neg hc158_20, if_pos hc165_21] <;> rfl, N0, e0⟩ (by decide) (by decide)
                      · refine own_by (fun _ kt => XS.icmpYes X0.here hx rfl (pc0 := 165) (pc' := 172) rfl (hb hby d_method_2_code_165) rfl (feq hc165_21).2 (by decide) (by decide) kt) ?_
                        show own_Go p.tables e below (s₁.setTop (mkF m 172 #[.val (.int p0)] [])) _
                        refine own_by (fun _ kt => XS.iconst X0.here hx rfl (hb hby d_method_2_code_172) kt) ?_
                        show own_Go p.tables e below (s₁.setTop (mkF m 173 #[.val (.int p0)] [(.int (0 : Int32))])) _
                        exact own_retN X0 hx (t := .boolean) Bd.returns hlk (by simp) (hb hby d_method_2_code_173) ⟨by rw [own_ref, if_neg hc3_1, if_neg hc9_2, if_pos hc17_3, if_pos hc35_4, if_pos hc86_5, if_pos hc95_6, if_pos hc122_7, if_pos hc131_8, if_neg hc151_9, if_neg hc158_20, if_neg hc165_21] <;> rfl, N0, e0⟩ (by decide) (by decide)
                · refine own_by (fun _ kt => XS.icmpNo X0.here hx rfl (hb hby d_method_2_code_131) rfl (flt hc131_8).2.2.1 kt) ?_
                  show own_Go p.tables e below (s₁.setTop (mkF m 134 #[.val (.int p0)] [])) _
                  refine own_by (fun _ kt => XS.iloadN X0.here hx rfl (hb hby d_method_2_code_134) rfl kt) ?_
                  show own_Go p.tables e below (s₁.setTop (mkF m 135 #[.val (.int p0)] [(.int p0)])) _
                  refine own_by (fun _ kt => XS.sipush X0.here hx rfl (hb hby d_method_2_code_135) kt) ?_
                  show own_Go p.tables e below (s₁.setTop (mkF m 138 #[.val (.int p0)] [(.int (894 : Int32)), (.int p0)])) _
                  by_cases hc138_22 : p0 = (894 : Int32)
                  · refine own_by (fun _ kt => XS.icmpYes X0.here hx rfl (pc0 := 138) (pc' := 145) rfl (hb hby d_method_2_code_138) rfl (teq hc138_22).1 (by decide) (by decide) kt) ?_
                    show own_Go p.tables e below (s₁.setTop (mkF m 145 #[.val (.int p0)] [])) _
                    refine own_by (fun _ kt => XS.iconst X0.here hx rfl (hb hby d_method_2_code_145) kt) ?_
                    show own_Go p.tables e below (s₁.setTop (mkF m 146 #[.val (.int p0)] [(.int (0 : Int32))])) _
                    exact own_retN X0 hx (t := .boolean) Bd.returns hlk (by simp) (hb hby d_method_2_code_146) ⟨by rw [own_ref, if_neg hc3_1, if_neg hc9_2, if_pos hc17_3, if_pos hc35_4, if_pos hc86_5, if_pos hc95_6, if_pos hc122_7, if_neg hc131_8, if_pos hc138_22] <;> rfl, N0, e0⟩ (by decide) (by decide)
                  · refine own_by (fun _ kt => XS.icmpNo X0.here hx rfl (hb hby d_method_2_code_138) rfl (feq hc138_22).1 kt) ?_
                    show own_Go p.tables e below (s₁.setTop (mkF m 141 #[.val (.int p0)] [])) _
                    refine own_by (fun _ kt => XS.iconst X0.here hx rfl (hb hby d_method_2_code_141) kt) ?_
                    show own_Go p.tables e below (s₁.setTop (mkF m 142 #[.val (.int p0)] [(.int (1 : Int32))])) _
                    refine own_by (fun _ kt => XS.goto X0.here hx rfl (pc0 := 142) (pc' := 146) rfl (hb hby d_method_2_code_142) (by decide) (by decide) kt) ?_
                    show own_Go p.tables e below (s₁.setTop (mkF m 146 #[.val (.int p0)] [(.int (1 : Int32))])) _
                    exact own_retN X0 hx (t := .boolean) Bd.returns hlk (by simp) (hb hby d_method_2_code_146) ⟨by rw [own_ref, if_neg hc3_1, if_neg hc9_2, if_pos hc17_3, if_pos hc35_4, if_pos hc86_5, if_pos hc95_6, if_pos hc122_7, if_neg hc131_8, if_neg hc138_22] <;> rfl, N0, e0⟩ (by decide) (by decide)
              · refine own_by (fun _ kt => XS.icmpNo X0.here hx rfl (hb hby d_method_2_code_122) rfl (flt hc122_7).2.2.1 kt) ?_
                show own_Go p.tables e below (s₁.setTop (mkF m 125 #[.val (.int p0)] [])) _
                refine own_by (fun _ kt => XS.iconst X0.here hx rfl (hb hby d_method_2_code_125) kt) ?_
                show own_Go p.tables e below (s₁.setTop (mkF m 126 #[.val (.int p0)] [(.int (0 : Int32))])) _
                exact own_retN X0 hx (t := .boolean) Bd.returns hlk (by simp) (hb hby d_method_2_code_126) ⟨by rw [own_ref, if_neg hc3_1, if_neg hc9_2, if_pos hc17_3, if_pos hc35_4, if_pos hc86_5, if_pos hc95_6, if_neg hc122_7] <;> rfl, N0, e0⟩ (by decide) (by decide)
            · refine own_by (fun _ kt => XS.icmpNo X0.here hx rfl (hb hby d_method_2_code_95) rfl (flt hc95_6).2.2.1 kt) ?_
              show own_Go p.tables e below (s₁.setTop (mkF m 98 #[.val (.int p0)] [])) _
              refine own_by (fun _ kt => XS.iloadN X0.here hx rfl (hb hby d_method_2_code_98) rfl kt) ?_
              show own_Go p.tables e below (s₁.setTop (mkF m 99 #[.val (.int p0)] [(.int p0)])) _
              refine own_by (fun _ kt => XS.sipush X0.here hx rfl (hb hby d_method_2_code_99) kt) ?_
              show own_Go p.tables e below (s₁.setTop (mkF m 102 #[.val (.int p0)] [(.int (215 : Int32)), (.int p0)])) _
              by_cases hc102_23 : p0 = (215 : Int32)
              · refine own_by (fun _ kt => XS.icmpYes X0.here hx rfl (pc0 := 102) (pc' := 116) rfl (hb hby d_method_2_code_102) rfl (teq hc102_23).1 (by decide) (by decide) kt) ?_
                show own_Go p.tables e below (s₁.setTop (mkF m 116 #[.val (.int p0)] [])) _
                refine own_by (fun _ kt => XS.iconst X0.here hx rfl (hb hby d_method_2_code_116) kt) ?_
                show own_Go p.tables e below (s₁.setTop (mkF m 117 #[.val (.int p0)] [(.int (0 : Int32))])) _
                exact own_retN X0 hx (t := .boolean) Bd.returns hlk (by simp) (hb hby d_method_2_code_117) ⟨by rw [own_ref, if_neg hc3_1, if_neg hc9_2, if_pos hc17_3, if_pos hc35_4, if_pos hc86_5, if_neg hc95_6, if_pos hc102_23] <;> rfl, N0, e0⟩ (by decide) (by decide)
              · refine own_by (fun _ kt => XS.icmpNo X0.here hx rfl (hb hby d_method_2_code_102) rfl (feq hc102_23).1 kt) ?_
                show own_Go p.tables e below (s₁.setTop (mkF m 105 #[.val (.int p0)] [])) _
                refine own_by (fun _ kt => XS.iloadN X0.here hx rfl (hb hby d_method_2_code_105) rfl kt) ?_
                show own_Go p.tables e below (s₁.setTop (mkF m 106 #[.val (.int p0)] [(.int p0)])) _
                refine own_by (fun _ kt => XS.sipush X0.here hx rfl (hb hby d_method_2_code_106) kt) ?_
                show own_Go p.tables e below (s₁.setTop (mkF m 109 #[.val (.int p0)] [(.int (247 : Int32)), (.int p0)])) _
                by_cases hc109_24 : p0 = (247 : Int32)
                · refine own_by (fun _ kt => XS.icmpYes X0.here hx rfl (pc0 := 109) (pc' := 116) rfl (hb hby d_method_2_code_109) rfl (teq hc109_24).1 (by decide) (by decide) kt) ?_
                  show own_Go p.tables e below (s₁.setTop (mkF m 116 #[.val (.int p0)] [])) _
                  refine own_by (fun _ kt => XS.iconst X0.here hx rfl (hb hby d_method_2_code_116) kt) ?_
                  show own_Go p.tables e below (s₁.setTop (mkF m 117 #[.val (.int p0)] [(.int (0 : Int32))])) _
                  exact own_retN X0 hx (t := .boolean) Bd.returns hlk (by simp) (hb hby d_method_2_code_117) ⟨by rw [own_ref, if_neg hc3_1, if_neg hc9_2, if_pos hc17_3, if_pos hc35_4, if_pos hc86_5, if_neg hc95_6, if_neg hc102_23, if_pos hc109_24] <;> rfl, N0, e0⟩ (by decide) (by decide)
                · refine own_by (fun _ kt => XS.icmpNo X0.here hx rfl (hb hby d_method_2_code_109) rfl (feq hc109_24).1 kt) ?_
                  show own_Go p.tables e below (s₁.setTop (mkF m 112 #[.val (.int p0)] [])) _
                  refine own_by (fun _ kt => XS.iconst X0.here hx rfl (hb hby d_method_2_code_112) kt) ?_
                  show own_Go p.tables e below (s₁.setTop (mkF m 113 #[.val (.int p0)] [(.int (1 : Int32))])) _
                  refine own_by (fun _ kt => XS.goto X0.here hx rfl (pc0 := 113) (pc' := 117) rfl (hb hby d_method_2_code_113) (by decide) (by decide) kt) ?_
                  show own_Go p.tables e below (s₁.setTop (mkF m 117 #[.val (.int p0)] [(.int (1 : Int32))])) _
                  exact own_retN X0 hx (t := .boolean) Bd.returns hlk (by simp) (hb hby d_method_2_code_117) ⟨by rw [own_ref, if_neg hc3_1, if_neg hc9_2, if_pos hc17_3, if_pos hc35_4, if_pos hc86_5, if_neg hc95_6, if_neg hc102_23, if_neg hc109_24] <;> rfl, N0, e0⟩ (by decide) (by decide)
          · refine own_by (fun _ kt => XS.icmpNo X0.here hx rfl (hb hby d_method_2_code_86) rfl (flt hc86_5).2.2.1 kt) ?_
            show own_Go p.tables e below (s₁.setTop (mkF m 89 #[.val (.int p0)] [])) _
            refine own_by (fun _ kt => XS.iconst X0.here hx rfl (hb hby d_method_2_code_89) kt) ?_
            show own_Go p.tables e below (s₁.setTop (mkF m 90 #[.val (.int p0)] [(.int (0 : Int32))])) _
            exact own_retN X0 hx (t := .boolean) Bd.returns hlk (by simp) (hb hby d_method_2_code_90) ⟨by rw [own_ref, if_neg hc3_1, if_neg hc9_2, if_pos hc17_3, if_pos hc35_4, if_neg hc86_5] <;> rfl, N0, e0⟩ (by decide) (by decide)
        · refine own_by (fun _ kt => XS.icmpNo X0.here hx rfl (hb hby d_method_2_code_35) rfl (flt hc35_4).2.2.1 kt) ?_
          show own_Go p.tables e below (s₁.setTop (mkF m 38 #[.val (.int p0)] [])) _
          refine own_by (fun _ kt => XS.iloadN X0.here hx rfl (hb hby d_method_2_code_38) rfl kt) ?_
          show own_Go p.tables e below (s₁.setTop (mkF m 39 #[.val (.int p0)] [(.int p0)])) _
          refine own_by (fun _ kt => XS.bipush X0.here hx rfl (hb hby d_method_2_code_39) kt) ?_
          show own_Go p.tables e below (s₁.setTop (mkF m 41 #[.val (.int p0)] [(.int (90 : Int32)), (.int p0)])) _
          by_cases hc41_25 : (90 : Int32) < p0
          · refine own_by (fun _ kt => XS.icmpYes X0.here hx rfl (pc0 := 41) (pc' := 46) rfl (hb hby d_method_2_code_41) rfl (tlt hc41_25).2.2.1 (by decide) (by decide) kt) ?_
            show own_Go p.tables e below (s₁.setTop (mkF m 46 #[.val (.int p0)] [])) _
            refine own_by (fun _ kt => XS.iloadN X0.here hx rfl (hb hby d_method_2_code_46) rfl kt) ?_
            show own_Go p.tables e below (s₁.setTop (mkF m 47 #[.val (.int p0)] [(.int p0)])) _
            refine own_by (fun _ kt => XS.bipush X0.here hx rfl (hb hby d_method_2_code_47) kt) ?_
            show own_Go p.tables e below (s₁.setTop (mkF m 49 #[.val (.int p0)] [(.int (94 : Int32)), (.int p0)])) _
            by_cases hc49_26 : (94 : Int32) < p0
            · refine own_by (fun _ kt => XS.icmpYes X0.here hx rfl (pc0 := 49) (pc' := 54) rfl (hb hby d_method_2_code_49) rfl (tlt hc49_26).2.2.1 (by decide) (by decide) kt) ?_
              show own_Go p.tables e below (s₁.setTop (mkF m 54 #[.val (.int p0)] [])) _
              refine own_by (fun _ kt => XS.iloadN X0.here hx rfl (hb hby d_method_2_code_54) rfl kt) ?_
              show own_Go p.tables e below (s₁.setTop (mkF m 55 #[.val (.int p0)] [(.int p0)])) _
              refine own_by (fun _ kt => XS.bipush X0.here hx rfl (hb hby d_method_2_code_55) kt) ?_
              show own_Go p.tables e below (s₁.setTop (mkF m 57 #[.val (.int p0)] [(.int (95 : Int32)), (.int p0)])) _
              by_cases hc57_27 : p0 = (95 : Int32)
              · refine own_by (fun _ kt => XS.icmpNo X0.here hx rfl (hb hby d_method_2_code_57) rfl (teq hc57_27).2 kt) ?_
                show own_Go p.tables e below (s₁.setTop (mkF m 60 #[.val (.int p0)] [])) _
                refine own_by (fun _ kt => XS.iconst X0.here hx rfl (hb hby d_method_2_code_60) kt) ?_
                show own_Go p.tables e below (s₁.setTop (mkF m 61 #[.val (.int p0)] [(.int (1 : Int32))])) _
                exact own_retN X0 hx (t := .boolean) Bd.returns hlk (by simp) (hb hby d_method_2_code_61) ⟨by rw [own_ref, if_neg hc3_1, if_neg hc9_2, if_pos hc17_3, if_neg hc35_4, if_pos hc41_25, if_pos hc49_26, if_pos hc57_27] <;> rfl, N0, e0⟩ (by decide) (by decide)
              · refine own_by (fun _ kt => XS.icmpYes X0.here hx rfl (pc0 := 57) (pc' := 62) rfl (hb hby d_method_2_code_57) rfl (feq hc57_27).2 (by decide) (by decide) kt) ?_
                show own_Go p.tables e below (s₁.setTop (mkF m 62 #[.val (.int p0)] [])) _
                refine own_by (fun _ kt => XS.iloadN X0.here hx rfl (hb hby d_method_2_code_62) rfl kt) ?_
                show own_Go p.tables e below (s₁.setTop (mkF m 63 #[.val (.int p0)] [(.int p0)])) _
                refine own_by (fun _ kt => XS.bipush X0.here hx rfl (hb hby d_method_2_code_63) kt) ?_
                show own_Go p.tables e below (s₁.setTop (mkF m 65 #[.val (.int p0)] [(.int (96 : Int32)), (.int p0)])) _
                by_cases hc65_28 : p0 = (96 : Int32)
                · refine own_by (fun _ kt => XS.icmpNo X0.here hx rfl (hb hby d_method_2_code_65) rfl (teq hc65_28).2 kt) ?_
                  show own_Go p.tables e below (s₁.setTop (mkF m 68 #[.val (.int p0)] [])) _
                  refine own_by (fun _ kt => XS.iconst X0.here hx rfl (hb hby d_method_2_code_68) kt) ?_
                  show own_Go p.tables e below (s₁.setTop (mkF m 69 #[.val (.int p0)] [(.int (0 : Int32))])) _
                  exact own_retN X0 hx (t := .boolean) Bd.returns hlk (by simp) (hb hby d_method_2_code_69) ⟨by rw [own_ref, if_neg hc3_1, if_neg hc9_2, if_pos hc17_3, if_neg hc35_4, if_pos hc41_25, if_pos hc49_26, if_neg hc57_27, if_pos hc65_28] <;> rfl, N0, e0⟩ (by decide) (by decide)
                · refine own_by (fun _ kt => XS.icmpYes X0.here hx rfl (pc0 := 65) (pc' := 70) rfl (hb hby d_method_2_code_65) rfl (feq hc65_28).2 (by decide) (by decide) kt) ?_
                  show own_Go p.tables e below (s₁.setTop (mkF m 70 #[.val (.int p0)] [])) _
                  refine own_by (fun _ kt => XS.iloadN X0.here hx rfl (hb hby d_method_2_code_70) rfl kt) ?_
                  show own_Go p.tables e below (s₁.setTop (mkF m 71 #[.val (.int p0)] [(.int p0)])) _
                  refine own_by (fun _ kt => XS.bipush X0.here hx rfl (hb hby d_method_2_code_71) kt) ?_
                  show own_Go p.tables e below (s₁.setTop (mkF m 73 #[.val (.int p0)] [(.int (122 : Int32)), (.int p0)])) _
                  by_cases hc73_29 : (122 : Int32) < p0
                  · refine own_by (fun _ kt => XS.icmpYes X0.here hx rfl (pc0 := 73) (pc' := 80) rfl (hb hby d_method_2_code_73) rfl (tlt hc73_29).2.2.1 (by decide) (by decide) kt) ?_
                    show own_Go p.tables e below (s₁.setTop (mkF m 80 #[.val (.int p0)] [])) _
                    refine own_by (fun _ kt => XS.iconst X0.here hx rfl (hb hby d_method_2_code_80) kt) ?_
                    show own_Go p.tables e below (s₁.setTop (mkF m 81 #[.val (.int p0)] [(.int (0 : Int32))])) _
                    exact own_retN X0 hx (t := .boolean) Bd.returns hlk (by simp) (hb hby d_method_2_code_81) ⟨by rw [own_ref, if_neg hc3_1, if_neg hc9_2, if_pos hc17_3, if_neg hc35_4, if_pos hc41_25, if_pos hc49_26, if_neg hc57_27, if_neg hc65_28, if_pos hc73_29] <;> rfl, N0, e0⟩ (by decide) (by decide)
                  · refine own_by (fun _ kt => XS.icmpNo X0.here hx rfl (hb hby d_method_2_code_73) rfl (flt hc73_29).2.2.1 kt) ?_
                    show own_Go p.tables e below (s₁.setTop (mkF m 76 #[.val (.int p0)] [])) _
                    refine own_by (fun _ kt => XS.iconst X0.here hx rfl (hb hby d_method_2_code_76) kt) ?_
                    show own_Go p.tables e below (s₁.setTop (mkF m 77 #[.val (.int p0)] [(.int (1 : Int32))])) _
                    refine own_by (fun _ kt => XS.goto X0.here hx rfl (pc0 := 77) (pc' := 81) rfl (hb hby d_method_2_code_77) (by decide) (by decide) kt) ?_
                    show own_Go p.tables e below (s₁.setTop (mkF m 81 #[.val (.int p0)] [(.int (1 : Int32))])) _
                    exact own_retN X0 hx (t := .boolean) Bd.returns hlk (by simp) (hb hby d_method_2_code_81) ⟨by rw [own_ref, if_neg hc3_1, if_neg hc9_2, if_pos hc17_3, if_neg hc35_4, if_pos hc41_25, if_pos hc49_26, if_neg hc57_27, if_neg hc65_28, if_neg hc73_29] <;> rfl, N0, e0⟩ (by decide) (by decide)
            · refine own_by (fun _ kt => XS.icmpNo X0.here hx rfl (hb hby d_method_2_code_49) rfl (flt hc49_26).2.2.1 kt) ?_
              show own_Go p.tables e below (s₁.setTop (mkF m 52 #[.val (.int p0)] [])) _
              refine own_by (fun _ kt => XS.iconst X0.here hx rfl (hb hby d_method_2_code_52) kt) ?_
              show own_Go p.tables e below (s₁.setTop (mkF m 53 #[.val (.int p0)] [(.int (0 : Int32))])) _
              exact own_retN X0 hx (t := .boolean) Bd.returns hlk (by simp) (hb hby d_method_2_code_53) ⟨by rw [own_ref, if_neg hc3_1, if_neg hc9_2, if_pos hc17_3, if_neg hc35_4, if_pos hc41_25, if_neg hc49_26] <;> rfl, N0, e0⟩ (by decide) (by decide)
          · refine own_by (fun _ kt => XS.icmpNo X0.here hx rfl (hb hby d_method_2_code_41) rfl (flt hc41_25).2.2.1 kt) ?_
            show own_Go p.tables e below (s₁.setTop (mkF m 44 #[.val (.int p0)] [])) _
            refine own_by (fun _ kt => XS.iconst X0.here hx rfl (hb hby d_method_2_code_44) kt) ?_
            show own_Go p.tables e below (s₁.setTop (mkF m 45 #[.val (.int p0)] [(.int (1 : Int32))])) _
            exact own_retN X0 hx (t := .boolean) Bd.returns hlk (by simp) (hb hby d_method_2_code_45) ⟨by rw [own_ref, if_neg hc3_1, if_neg hc9_2, if_pos hc17_3, if_neg hc35_4, if_neg hc41_25] <;> rfl, N0, e0⟩ (by decide) (by decide)
      · refine own_by (fun _ kt => XS.icmpNo X0.here hx rfl (hb hby d_method_2_code_17) rfl (flt hc17_3).2.2.1 kt) ?_
        show own_Go p.tables e below (s₁.setTop (mkF m 20 #[.val (.int p0)] [])) _
        refine own_by (fun _ kt => XS.iloadN X0.here hx rfl (hb hby d_method_2_code_20) rfl kt) ?_
        show own_Go p.tables e below (s₁.setTop (mkF m 21 #[.val (.int p0)] [(.int p0)])) _
        refine own_by (fun _ kt => XS.bipush X0.here hx rfl (hb hby d_method_2_code_21) kt) ?_
        show own_Go p.tables e below (s₁.setTop (mkF m 23 #[.val (.int p0)] [(.int (58 : Int32)), (.int p0)])) _
        by_cases hc23_30 : p0 = (58 : Int32)
        · refine own_by (fun _ kt => XS.icmpNo X0.here hx rfl (hb hby d_method_2_code_23) rfl (teq hc23_30).2 kt) ?_
          show own_Go p.tables e below (s₁.setTop (mkF m 26 #[.val (.int p0)] [])) _
          refine own_by (fun _ kt => XS.iconst X0.here hx rfl (hb hby d_method_2_code_26) kt) ?_
          show own_Go p.tables e below (s₁.setTop (mkF m 27 #[.val (.int p0)] [(.int (1 : Int32))])) _
          refine own_by (fun _ kt => XS.goto X0.here hx rfl (pc0 := 27) (pc' := 31) rfl (hb hby d_method_2_code_27) (by decide) (by decide) kt) ?_
          show own_Go p.tables e below (s₁.setTop (mkF m 31 #[.val (.int p0)] [(.int (1 : Int32))])) _
          exact own_retN X0 hx (t := .boolean) Bd.returns hlk (by simp) (hb hby d_method_2_code_31) ⟨by rw [own_ref, if_neg hc3_1, if_neg hc9_2, if_neg hc17_3, if_pos hc23_30] <;> rfl, N0, e0⟩ (by decide) (by decide)
        · refine own_by (fun _ kt => XS.icmpYes X0.here hx rfl (pc0 := 23) (pc' := 30) rfl (hb hby d_method_2_code_23) rfl (feq hc23_30).2 (by decide) (by decide) kt) ?_
          show own_Go p.tables e below (s₁.setTop (mkF m 30 #[.val (.int p0)] [])) _
          refine own_by (fun _ kt => XS.iconst X0.here hx rfl (hb hby d_method_2_code_30) kt) ?_
          show own_Go p.tables e below (s₁.setTop (mkF m 31 #[.val (.int p0)] [(.int (0 : Int32))])) _
          exact own_retN X0 hx (t := .boolean) Bd.returns hlk (by simp) (hb hby d_method_2_code_31) ⟨by rw [own_ref, if_neg hc3_1, if_neg hc9_2, if_neg hc17_3, if_neg hc23_30] <;> rfl, N0, e0⟩ (by decide) (by decide)
theorem own_eqk {x k k' : Int32} (h : ¬ x < k) (h' : x < k') (q : k'.toInt = k.toInt + 1) : x = k := by rw [Int32.lt_iff_toInt_lt] at *; rw [← Int32.toInt_inj]; omega
set_option maxHeartbeats 4000000 in
theorem own_same (c : Int32) : own_start c = own_ref c := by
  by_cases h0 : c < (58 : Int32)
  · rw [own_start, if_neg (own_q1 h0 (by decide) : ¬ c = (58 : Int32)), if_pos (own_i1 h0 (by decide) : c < (65 : Int32)), own_ref, if_pos (own_i1 h0 (by decide) : c < (58 : Int32))]
  by_cases h1 : c < (59 : Int32)
  · rw [own_start, if_pos (own_eqk h0 h1 (by decide) : c = (58 : Int32)), own_ref, if_neg (own_i3 h0 (by decide) : ¬ c < (58 : Int32)), if_neg (own_j4 h1 (by decide) : ¬ (983039 : Int32) < c), if_neg (own_j4 h1 (by decide) : ¬ (64 : Int32) < c), if_pos (own_eqk h0 h1 (by decide) : c = (58 : Int32))]
  by_cases h2 : c < (65 : Int32)
  · rw [own_start, if_neg (own_q3 h1 (by decide) : ¬ c = (58 : Int32)), if_pos (own_i1 h2 (by decide) : c < (65 : Int32)), own_ref, if_neg (own_i3 h1 (by decide) : ¬ c < (58 : Int32)), if_neg (own_j4 h2 (by decide) : ¬ (983039 : Int32) < c), if_neg (own_j4 h2 (by decide) : ¬ (64 : Int32) < c), if_neg (own_q3 h1 (by decide) : ¬ c = (58 : Int32))]
  by_cases h3 : c < (91 : Int32)
  · rw [own_start, if_neg (own_q3 h2 (by decide) : ¬ c = (58 : Int32)), if_neg (own_i3 h2 (by decide) : ¬ c < (65 : Int32)), if_neg (own_j4 h3 (by decide) : ¬ (90 : Int32) < c), own_ref, if_neg (own_i3 h2 (by decide) : ¬ c < (58 : Int32)), if_neg (own_j4 h3 (by decide) : ¬ (983039 : Int32) < c), if_pos (own_j2 h2 (by decide) : (64 : Int32) < c), if_neg (own_j4 h3 (by decide) : ¬ (127 : Int32) < c), if_neg (own_j4 h3 (by decide) : ¬ (90 : Int32) < c)]
  by_cases h4 : c < (95 : Int32)
  · rw [own_start, if_neg (own_q3 h3 (by decide) : ¬ c = (58 : Int32)), if_neg (own_i3 h3 (by decide) : ¬ c < (65 : Int32)), if_pos (own_j2 h3 (by decide) : (90 : Int32) < c), if_neg (own_q1 h4 (by decide) : ¬ c = (95 : Int32)), if_pos (own_i1 h4 (by decide) : c < (97 : Int32)), own_ref, if_neg (own_i3 h3 (by decide) : ¬ c < (58 : Int32)), if_neg (own_j4 h4 (by decide) : ¬ (983039 : Int32) < c), if_pos (own_j2 h3 (by decide) : (64 : Int32) < c), if_neg (own_j4 h4 (by decide) : ¬ (127 : Int32) < c), if_pos (own_j2 h3 (by decide) : (90 : Int32) < c), if_neg (own_j4 h4 (by decide) : ¬ (94 : Int32) < c)]
  by_cases h5 : c < (96 : Int32)
  · rw [own_start, if_neg (own_q3 h4 (by decide) : ¬ c = (58 : Int32)), if_neg (own_i3 h4 (by decide) : ¬ c < (65 : Int32)), if_pos (own_j2 h4 (by decide) : (90 : Int32) < c), if_pos (own_eqk h4 h5 (by decide) : c = (95 : Int32)), own_ref, if_neg (own_i3 h4 (by decide) : ¬ c < (58 : Int32)), if_neg (own_j4 h5 (by decide) : ¬ (983039 : Int32) < c), if_pos (own_j2 h4 (by decide) : (64 : Int32) < c), if_neg (own_j4 h5 (by decide) : ¬ (127 : Int32) < c), if_pos (own_j2 h4 (by decide) : (90 : Int32) < c), if_pos (own_j2 h4 (by decide) : (94 : Int32) < c), if_pos (own_eqk h4 h5 (by decide) : c = (95 : Int32))]
  by_cases h6 : c < (97 : Int32)
  · rw [own_start, if_neg (own_q3 h5 (by decide) : ¬ c = (58 : Int32)), if_neg (own_i3 h5 (by decide) : ¬ c < (65 : Int32)), if_pos (own_j2 h5 (by decide) : (90 : Int32) < c), if_neg (own_q3 h5 (by decide) : ¬ c = (95 : Int32)), if_pos (own_i1 h6 (by decide) : c < (97 : Int32)), own_ref, if_neg (own_i3 h5 (by decide) : ¬ c < (58 : Int32)), if_neg (own_j4 h6 (by decide) : ¬ (983039 : Int32) < c), if_pos (own_j2 h5 (by decide) : (64 : Int32) < c), if_neg (own_j4 h6 (by decide) : ¬ (127 : Int32) < c), if_pos (own_j2 h5 (by decide) : (90 : Int32) < c), if_pos (own_j2 h5 (by decide) : (94 : Int32) < c), if_neg (own_q3 h5 (by decide) : ¬ c = (95 : Int32)), if_pos (own_eqk h5 h6 (by decide) : c = (96 : Int32))]
  by_cases h7 : c < (123 : Int32)
  · rw [own_start, if_neg (own_q3 h6 (by decide) : ¬ c = (58 : Int32)), if_neg (own_i3 h6 (by decide) : ¬ c < (65 : Int32)), if_pos (own_j2 h6 (by decide) : (90 : Int32) < c), if_neg (own_q3 h6 (by decide) : ¬ c = (95 : Int32)), if_neg (own_i3 h6 (by decide) : ¬ c < (97 : Int32)), if_neg (own_j4 h7 (by decide) : ¬ (122 : Int32) < c), own_ref, if_neg (own_i3 h6 (by decide) : ¬ c < (58 : Int32)), if_neg (own_j4 h7 (by decide) : ¬ (983039 : Int32) < c), if_pos (own_j2 h6 (by decide) : (64 : Int32) < c), if_neg (own_j4 h7 (by decide) : ¬ (127 : Int32) < c), if_pos (own_j2 h6 (by decide) : (90 : Int32) < c), if_pos (own_j2 h6 (by decide) : (94 : Int32) < c), if_neg (own_q3 h6 (by decide) : ¬ c = (95 : Int32)), if_neg (own_q3 h6 (by decide) : ¬ c = (96 : Int32)), if_neg (own_j4 h7 (by decide) : ¬ (122 : Int32) < c)]
  by_cases h8 : c < (128 : Int32)
  · rw [own_start, if_neg (own_q3 h7 (by decide) : ¬ c = (58 : Int32)), if_neg (own_i3 h7 (by decide) : ¬ c < (65 : Int32)), if_pos (own_j2 h7 (by decide) : (90 : Int32) < c), if_neg (own_q3 h7 (by decide) : ¬ c = (95 : Int32)), if_neg (own_i3 h7 (by decide) : ¬ c < (97 : Int32)), if_pos (own_j2 h7 (by decide) : (122 : Int32) < c), if_pos (own_i1 h8 (by decide) : c < (192 : Int32)), own_ref, if_neg (own_i3 h7 (by decide) : ¬ c < (58 : Int32)), if_neg (own_j4 h8 (by decide) : ¬ (983039 : Int32) < c), if_pos (own_j2 h7 (by decide) : (64 : Int32) < c), if_neg (own_j4 h8 (by decide) : ¬ (127 : Int32) < c), if_pos (own_j2 h7 (by decide) : (90 : Int32) < c), if_pos (own_j2 h7 (by decide) : (94 : Int32) < c), if_neg (own_q3 h7 (by decide) : ¬ c = (95 : Int32)), if_neg (own_q3 h7 (by decide) : ¬ c = (96 : Int32)), if_pos (own_j2 h7 (by decide) : (122 : Int32) < c)]
  by_cases h9 : c < (192 : Int32)
  · rw [own_start, if_neg (own_q3 h8 (by decide) : ¬ c = (58 : Int32)), if_neg (own_i3 h8 (by decide) : ¬ c < (65 : Int32)), if_pos (own_j2 h8 (by decide) : (90 : Int32) < c), if_neg (own_q3 h8 (by decide) : ¬ c = (95 : Int32)), if_neg (own_i3 h8 (by decide) : ¬ c < (97 : Int32)), if_pos (own_j2 h8 (by decide) : (122 : Int32) < c), if_pos (own_i1 h9 (by decide) : c < (192 : Int32)), own_ref, if_neg (own_i3 h8 (by decide) : ¬ c < (58 : Int32)), if_neg (own_j4 h9 (by decide) : ¬ (983039 : Int32) < c), if_pos (own_j2 h8 (by decide) : (64 : Int32) < c), if_pos (own_j2 h8 (by decide) : (127 : Int32) < c), if_neg (own_j4 h9 (by decide) : ¬ (191 : Int32) < c)]
  by_cases h10 : c < (215 : Int32)
  · rw [own_start, if_neg (own_q3 h9 (by decide) : ¬ c = (58 : Int32)), if_neg (own_i3 h9 (by decide) : ¬ c < (65 : Int32)), if_pos (own_j2 h9 (by decide) : (90 : Int32) < c), if_neg (own_q3 h9 (by decide) : ¬ c = (95 : Int32)), if_neg (own_i3 h9 (by decide) : ¬ c < (97 : Int32)), if_pos (own_j2 h9 (by decide) : (122 : Int32) < c), if_neg (own_i3 h9 (by decide) : ¬ c < (192 : Int32)), if_neg (own_j4 h10 (by decide) : ¬ (214 : Int32) < c), own_ref, if_neg (own_i3 h9 (by decide) : ¬ c < (58 : Int32)), if_neg (own_j4 h10 (by decide) : ¬ (983039 : Int32) < c), if_pos (own_j2 h9 (by decide) : (64 : Int32) < c), if_pos (own_j2 h9 (by decide) : (127 : Int32) < c), if_pos (own_j2 h9 (by decide) : (191 : Int32) < c), if_neg (own_j4 h10 (by decide) : ¬ (767 : Int32) < c), if_neg (own_q1 h10 (by decide) : ¬ c = (215 : Int32)), if_neg (own_q1 h10 (by decide) : ¬ c = (247 : Int32))]
  by_cases h11 : c < (216 : Int32)
  · rw [own_start, if_neg (own_q3 h10 (by decide) : ¬ c = (58 : Int32)), if_neg (own_i3 h10 (by decide) : ¬ c < (65 : Int32)), if_pos (own_j2 h10 (by decide) : (90 : Int32) < c), if_neg (own_q3 h10 (by decide) : ¬ c = (95 : Int32)), if_neg (own_i3 h10 (by decide) : ¬ c < (97 : Int32)), if_pos (own_j2 h10 (by decide) : (122 : Int32) < c), if_neg (own_i3 h10 (by decide) : ¬ c < (192 : Int32)), if_pos (own_j2 h10 (by decide) : (214 : Int32) < c), if_pos (own_i1 h11 (by decide) : c < (216 : Int32)), own_ref, if_neg (own_i3 h10 (by decide) : ¬ c < (58 : Int32)), if_neg (own_j4 h11 (by decide) : ¬ (983039 : Int32) < c), if_pos (own_j2 h10 (by decide) : (64 : Int32) < c), if_pos (own_j2 h10 (by decide) : (127 : Int32) < c), if_pos (own_j2 h10 (by decide) : (191 : Int32) < c), if_neg (own_j4 h11 (by decide) : ¬ (767 : Int32) < c), if_pos (own_eqk h10 h11 (by decide) : c = (215 : Int32))]
  by_cases h12 : c < (247 : Int32)
  · rw [own_start, if_neg (own_q3 h11 (by decide) : ¬ c = (58 : Int32)), if_neg (own_i3 h11 (by decide) : ¬ c < (65 : Int32)), if_pos (own_j2 h11 (by decide) : (90 : Int32) < c), if_neg (own_q3 h11 (by decide) : ¬ c = (95 : Int32)), if_neg (own_i3 h11 (by decide) : ¬ c < (97 : Int32)), if_pos (own_j2 h11 (by decide) : (122 : Int32) < c), if_neg (own_i3 h11 (by decide) : ¬ c < (192 : Int32)), if_pos (own_j2 h11 (by decide) : (214 : Int32) < c), if_neg (own_i3 h11 (by decide) : ¬ c < (216 : Int32)), if_neg (own_j4 h12 (by decide) : ¬ (246 : Int32) < c), own_ref, if_neg (own_i3 h11 (by decide) : ¬ c < (58 : Int32)), if_neg (own_j4 h12 (by decide) : ¬ (983039 : Int32) < c), if_pos (own_j2 h11 (by decide) : (64 : Int32) < c), if_pos (own_j2 h11 (by decide) : (127 : Int32) < c), if_pos (own_j2 h11 (by decide) : (191 : Int32) < c), if_neg (own_j4 h12 (by decide) : ¬ (767 : Int32) < c), if_neg (own_q3 h11 (by decide) : ¬ c = (215 : Int32)), if_neg (own_q1 h12 (by decide) : ¬ c = (247 : Int32))]
  by_cases h13 : c < (248 : Int32)
  · rw [own_start, if_neg (own_q3 h12 (by decide) : ¬ c = (58 : Int32)), if_neg (own_i3 h12 (by decide) : ¬ c < (65 : Int32)), if_pos (own_j2 h12 (by decide) : (90 : Int32) < c), if_neg (own_q3 h12 (by decide) : ¬ c = (95 : Int32)), if_neg (own_i3 h12 (by decide) : ¬ c < (97 : Int32)), if_pos (own_j2 h12 (by decide) : (122 : Int32) < c), if_neg (own_i3 h12 (by decide) : ¬ c < (192 : Int32)), if_pos (own_j2 h12 (by decide) : (214 : Int32) < c), if_neg (own_i3 h12 (by decide) : ¬ c < (216 : Int32)), if_pos (own_j2 h12 (by decide) : (246 : Int32) < c), if_pos (own_i1 h13 (by decide) : c < (248 : Int32)), own_ref, if_neg (own_i3 h12 (by decide) : ¬ c < (58 : Int32)), if_neg (own_j4 h13 (by decide) : ¬ (983039 : Int32) < c), if_pos (own_j2 h12 (by decide) : (64 : Int32) < c), if_pos (own_j2 h12 (by decide) : (127 : Int32) < c), if_pos (own_j2 h12 (by decide) : (191 : Int32) < c), if_neg (own_j4 h13 (by decide) : ¬ (767 : Int32) < c), if_neg (own_q3 h12 (by decide) : ¬ c = (215 : Int32)), if_pos (own_eqk h12 h13 (by decide) : c = (247 : Int32))]
  by_cases h14 : c < (768 : Int32)
  · rw [own_start, if_neg (own_q3 h13 (by decide) : ¬ c = (58 : Int32)), if_neg (own_i3 h13 (by decide) : ¬ c < (65 : Int32)), if_pos (own_j2 h13 (by decide) : (90 : Int32) < c), if_neg (own_q3 h13 (by decide) : ¬ c = (95 : Int32)), if_neg (own_i3 h13 (by decide) : ¬ c < (97 : Int32)), if_pos (own_j2 h13 (by decide) : (122 : Int32) < c), if_neg (own_i3 h13 (by decide) : ¬ c < (192 : Int32)), if_pos (own_j2 h13 (by decide) : (214 : Int32) < c), if_neg (own_i3 h13 (by decide) : ¬ c < (216 : Int32)), if_pos (own_j2 h13 (by decide) : (246 : Int32) < c), if_neg (own_i3 h13 (by decide) : ¬ c < (248 : Int32)), if_neg (own_j4 h14 (by decide) : ¬ (767 : Int32) < c), own_ref, if_neg (own_i3 h13 (by decide) : ¬ c < (58 : Int32)), if_neg (own_j4 h14 (by decide) : ¬ (983039 : Int32) < c), if_pos (own_j2 h13 (by decide) : (64 : Int32) < c), if_pos (own_j2 h13 (by decide) : (127 : Int32) < c), if_pos (own_j2 h13 (by decide) : (191 : Int32) < c), if_neg (own_j4 h14 (by decide) : ¬ (767 : Int32) < c), if_neg (own_q3 h13 (by decide) : ¬ c = (215 : Int32)), if_neg (own_q3 h13 (by decide) : ¬ c = (247 : Int32))]
  by_cases h15 : c < (880 : Int32)
  · rw [own_start, if_neg (own_q3 h14 (by decide) : ¬ c = (58 : Int32)), if_neg (own_i3 h14 (by decide) : ¬ c < (65 : Int32)), if_pos (own_j2 h14 (by decide) : (90 : Int32) < c), if_neg (own_q3 h14 (by decide) : ¬ c = (95 : Int32)), if_neg (own_i3 h14 (by decide) : ¬ c < (97 : Int32)), if_pos (own_j2 h14 (by decide) : (122 : Int32) < c), if_neg (own_i3 h14 (by decide) : ¬ c < (192 : Int32)), if_pos (own_j2 h14 (by decide) : (214 : Int32) < c), if_neg (own_i3 h14 (by decide) : ¬ c < (216 : Int32)), if_pos (own_j2 h14 (by decide) : (246 : Int32) < c), if_neg (own_i3 h14 (by decide) : ¬ c < (248 : Int32)), if_pos (own_j2 h14 (by decide) : (767 : Int32) < c), if_pos (own_i1 h15 (by decide) : c < (880 : Int32)), own_ref, if_neg (own_i3 h14 (by decide) : ¬ c < (58 : Int32)), if_neg (own_j4 h15 (by decide) : ¬ (983039 : Int32) < c), if_pos (own_j2 h14 (by decide) : (64 : Int32) < c), if_pos (own_j2 h14 (by decide) : (127 : Int32) < c), if_pos (own_j2 h14 (by decide) : (191 : Int32) < c), if_pos (own_j2 h14 (by decide) : (767 : Int32) < c), if_neg (own_j4 h15 (by decide) : ¬ (879 : Int32) < c)]
  by_cases h16 : c < (894 : Int32)
  · rw [own_start, if_neg (own_q3 h15 (by decide) : ¬ c = (58 : Int32)), if_neg (own_i3 h15 (by decide) : ¬ c < (65 : Int32)), if_pos (own_j2 h15 (by decide) : (90 : Int32) < c), if_neg (own_q3 h15 (by decide) : ¬ c = (95 : Int32)), if_neg (own_i3 h15 (by decide) : ¬ c < (97 : Int32)), if_pos (own_j2 h15 (by decide) : (122 : Int32) < c), if_neg (own_i3 h15 (by decide) : ¬ c < (192 : Int32)), if_pos (own_j2 h15 (by decide) : (214 : Int32) < c), if_neg (own_i3 h15 (by decide) : ¬ c < (216 : Int32)), if_pos (own_j2 h15 (by decide) : (246 : Int32) < c), if_neg (own_i3 h15 (by decide) : ¬ c < (248 : Int32)), if_pos (own_j2 h15 (by decide) : (767 : Int32) < c), if_neg (own_i3 h15 (by decide) : ¬ c < (880 : Int32)), if_neg (own_j4 h16 (by decide) : ¬ (893 : Int32) < c), own_ref, if_neg (own_i3 h15 (by decide) : ¬ c < (58 : Int32)), if_neg (own_j4 h16 (by decide) : ¬ (983039 : Int32) < c), if_pos (own_j2 h15 (by decide) : (64 : Int32) < c), if_pos (own_j2 h15 (by decide) : (127 : Int32) < c), if_pos (own_j2 h15 (by decide) : (191 : Int32) < c), if_pos (own_j2 h15 (by decide) : (767 : Int32) < c), if_pos (own_j2 h15 (by decide) : (879 : Int32) < c), if_neg (own_j4 h16 (by decide) : ¬ (8191 : Int32) < c), if_neg (own_q1 h16 (by decide) : ¬ c = (894 : Int32))]
  by_cases h17 : c < (895 : Int32)
  · rw [own_start, if_neg (own_q3 h16 (by decide) : ¬ c = (58 : Int32)), if_neg (own_i3 h16 (by decide) : ¬ c < (65 : Int32)), if_pos (own_j2 h16 (by decide) : (90 : Int32) < c), if_neg (own_q3 h16 (by decide) : ¬ c = (95 : Int32)), if_neg (own_i3 h16 (by decide) : ¬ c < (97 : Int32)), if_pos (own_j2 h16 (by decide) : (122 : Int32) < c), if_neg (own_i3 h16 (by decide) : ¬ c < (192 : Int32)), if_pos (own_j2 h16 (by decide) : (214 : Int32) < c), if_neg (own_i3 h16 (by decide) : ¬ c < (216 : Int32)), if_pos (own_j2 h16 (by decide) : (246 : Int32) < c), if_neg (own_i3 h16 (by decide) : ¬ c < (248 : Int32)), if_pos (own_j2 h16 (by decide) : (767 : Int32) < c), if_neg (own_i3 h16 (by decide) : ¬ c < (880 : Int32)), if_pos (own_j2 h16 (by decide) : (893 : Int32) < c), if_pos (own_i1 h17 (by decide) : c < (895 : Int32)), own_ref, if_neg (own_i3 h16 (by decide) : ¬ c < (58 : Int32)), if_neg (own_j4 h17 (by decide) : ¬ (983039 : Int32) < c), if_pos (own_j2 h16 (by decide) : (64 : Int32) < c), if_pos (own_j2 h16 (by decide) : (127 : Int32) < c), if_pos (own_j2 h16 (by decide) : (191 : Int32) < c), if_pos (own_j2 h16 (by decide) : (767 : Int32) < c), if_pos (own_j2 h16 (by decide) : (879 : Int32) < c), if_neg (own_j4 h17 (by decide) : ¬ (8191 : Int32) < c), if_pos (own_eqk h16 h17 (by decide) : c = (894 : Int32))]
  by_cases h18 : c < (8192 : Int32)
  · rw [own_start, if_neg (own_q3 h17 (by decide) : ¬ c = (58 : Int32)), if_neg (own_i3 h17 (by decide) : ¬ c < (65 : Int32)), if_pos (own_j2 h17 (by decide) : (90 : Int32) < c), if_neg (own_q3 h17 (by decide) : ¬ c = (95 : Int32)), if_neg (own_i3 h17 (by decide) : ¬ c < (97 : Int32)), if_pos (own_j2 h17 (by decide) : (122 : Int32) < c), if_neg (own_i3 h17 (by decide) : ¬ c < (192 : Int32)), if_pos (own_j2 h17 (by decide) : (214 : Int32) < c), if_neg (own_i3 h17 (by decide) : ¬ c < (216 : Int32)), if_pos (own_j2 h17 (by decide) : (246 : Int32) < c), if_neg (own_i3 h17 (by decide) : ¬ c < (248 : Int32)), if_pos (own_j2 h17 (by decide) : (767 : Int32) < c), if_neg (own_i3 h17 (by decide) : ¬ c < (880 : Int32)), if_pos (own_j2 h17 (by decide) : (893 : Int32) < c), if_neg (own_i3 h17 (by decide) : ¬ c < (895 : Int32)), if_neg (own_j4 h18 (by decide) : ¬ (8191 : Int32) < c), own_ref, if_neg (own_i3 h17 (by decide) : ¬ c < (58 : Int32)), if_neg (own_j4 h18 (by decide) : ¬ (983039 : Int32) < c), if_pos (own_j2 h17 (by decide) : (64 : Int32) < c), if_pos (own_j2 h17 (by decide) : (127 : Int32) < c), if_pos (own_j2 h17 (by decide) : (191 : Int32) < c), if_pos (own_j2 h17 (by decide) : (767 : Int32) < c), if_pos (own_j2 h17 (by decide) : (879 : Int32) < c), if_neg (own_j4 h18 (by decide) : ¬ (8191 : Int32) < c), if_neg (own_q3 h17 (by decide) : ¬ c = (894 : Int32))]
  by_cases h19 : c < (8204 : Int32)
  · rw [own_start, if_neg (own_q3 h18 (by decide) : ¬ c = (58 : Int32)), if_neg (own_i3 h18 (by decide) : ¬ c < (65 : Int32)), if_pos (own_j2 h18 (by decide) : (90 : Int32) < c), if_neg (own_q3 h18 (by decide) : ¬ c = (95 : Int32)), if_neg (own_i3 h18 (by decide) : ¬ c < (97 : Int32)), if_pos (own_j2 h18 (by decide) : (122 : Int32) < c), if_neg (own_i3 h18 (by decide) : ¬ c < (192 : Int32)), if_pos (own_j2 h18 (by decide) : (214 : Int32) < c), if_neg (own_i3 h18 (by decide) : ¬ c < (216 : Int32)), if_pos (own_j2 h18 (by decide) : (246 : Int32) < c), if_neg (own_i3 h18 (by decide) : ¬ c < (248 : Int32)), if_pos (own_j2 h18 (by decide) : (767 : Int32) < c), if_neg (own_i3 h18 (by decide) : ¬ c < (880 : Int32)), if_pos (own_j2 h18 (by decide) : (893 : Int32) < c), if_neg (own_i3 h18 (by decide) : ¬ c < (895 : Int32)), if_pos (own_j2 h18 (by decide) : (8191 : Int32) < c), if_pos (own_i1 h19 (by decide) : c < (8204 : Int32)), own_ref, if_neg (own_i3 h18 (by decide) : ¬ c < (58 : Int32)), if_neg (own_j4 h19 (by decide) : ¬ (983039 : Int32) < c), if_pos (own_j2 h18 (by decide) : (64 : Int32) < c), if_pos (own_j2 h18 (by decide) : (127 : Int32) < c), if_pos (own_j2 h18 (by decide) : (191 : Int32) < c), if_pos (own_j2 h18 (by decide) : (767 : Int32) < c), if_pos (own_j2 h18 (by decide) : (879 : Int32) < c), if_pos (own_j2 h18 (by decide) : (8191 : Int32) < c), if_neg (own_j4 h19 (by decide) : ¬ (8303 : Int32) < c), if_neg (own_q1 h19 (by decide) : ¬ c = (8204 : Int32)), if_neg (own_q1 h19 (by decide) : ¬ c = (8205 : Int32))]
  by_cases h20 : c < (8205 : Int32)
  · rw [own_start, if_neg (own_q3 h19 (by decide) : ¬ c = (58 : Int32)), if_neg (own_i3 h19 (by decide) : ¬ c < (65 : Int32)), if_pos (own_j2 h19 (by decide) : (90 : Int32) < c), if_neg (own_q3 h19 (by decide) : ¬ c = (95 : Int32)), if_neg (own_i3 h19 (by decide) : ¬ c < (97 : Int32)), if_pos (own_j2 h19 (by decide) : (122 : Int32) < c), if_neg (own_i3 h19 (by decide) : ¬ c < (192 : Int32)), if_pos (own_j2 h19 (by decide) : (214 : Int32) < c), if_neg (own_i3 h19 (by decide) : ¬ c < (216 : Int32)), if_pos (own_j2 h19 (by decide) : (246 : Int32) < c), if_neg (own_i3 h19 (by decide) : ¬ c < (248 : Int32)), if_pos (own_j2 h19 (by decide) : (767 : Int32) < c), if_neg (own_i3 h19 (by decide) : ¬ c < (880 : Int32)), if_pos (own_j2 h19 (by decide) : (893 : Int32) < c), if_neg (own_i3 h19 (by decide) : ¬ c < (895 : Int32)), if_pos (own_j2 h19 (by decide) : (8191 : Int32) < c), if_neg (own_i3 h19 (by decide) : ¬ c < (8204 : Int32)), if_neg (own_j4 h20 (by decide) : ¬ (8205 : Int32) < c), own_ref, if_neg (own_i3 h19 (by decide) : ¬ c < (58 : Int32)), if_neg (own_j4 h20 (by decide) : ¬ (983039 : Int32) < c), if_pos (own_j2 h19 (by decide) : (64 : Int32) < c), if_pos (own_j2 h19 (by decide) : (127 : Int32) < c), if_pos (own_j2 h19 (by decide) : (191 : Int32) < c), if_pos (own_j2 h19 (by decide) : (767 : Int32) < c), if_pos (own_j2 h19 (by decide) : (879 : Int32) < c), if_pos (own_j2 h19 (by decide) : (8191 : Int32) < c), if_neg (own_j4 h20 (by decide) : ¬ (8303 : Int32) < c), if_pos (own_eqk h19 h20 (by decide) : c = (8204 : Int32))]
  by_cases h21 : c < (8206 : Int32)
  · rw [own_start, if_neg (own_q3 h20 (by decide) : ¬ c = (58 : Int32)), if_neg (own_i3 h20 (by decide) : ¬ c < (65 : Int32)), if_pos (own_j2 h20 (by decide) : (90 : Int32) < c), if_neg (own_q3 h20 (by decide) : ¬ c = (95 : Int32)), if_neg (own_i3 h20 (by decide) : ¬ c < (97 : Int32)), if_pos (own_j2 h20 (by decide) : (122 : Int32) < c), if_neg (own_i3 h20 (by decide) : ¬ c < (192 : Int32)), if_pos (own_j2 h20 (by decide) : (214 : Int32) < c), if_neg (own_i3 h20 (by decide) : ¬ c < (216 : Int32)), if_pos (own_j2 h20 (by decide) : (246 : Int32) < c), if_neg (own_i3 h20 (by decide) : ¬ c < (248 : Int32)), if_pos (own_j2 h20 (by decide) : (767 : Int32) < c), if_neg (own_i3 h20 (by decide) : ¬ c < (880 : Int32)), if_pos (own_j2 h20 (by decide) : (893 : Int32) < c), if_neg (own_i3 h20 (by decide) : ¬ c < (895 : Int32)), if_pos (own_j2 h20 (by decide) : (8191 : Int32) < c), if_neg (own_i3 h20 (by decide) : ¬ c < (8204 : Int32)), if_neg (own_j4 h21 (by decide) : ¬ (8205 : Int32) < c), own_ref, if_neg (own_i3 h20 (by decide) : ¬ c < (58 : Int32)), if_neg (own_j4 h21 (by decide) : ¬ (983039 : Int32) < c), if_pos (own_j2 h20 (by decide) : (64 : Int32) < c), if_pos (own_j2 h20 (by decide) : (127 : Int32) < c), if_pos (own_j2 h20 (by decide) : (191 : Int32) < c), if_pos (own_j2 h20 (by decide) : (767 : Int32) < c), if_pos (own_j2 h20 (by decide) : (879 : Int32) < c), if_pos (own_j2 h20 (by decide) : (8191 : Int32) < c), if_neg (own_j4 h21 (by decide) : ¬ (8303 : Int32) < c), if_neg (own_q3 h20 (by decide) : ¬ c = (8204 : Int32)), if_pos (own_eqk h20 h21 (by decide) : c = (8205 : Int32))]
  by_cases h22 : c < (8304 : Int32)
  · rw [own_start, if_neg (own_q3 h21 (by decide) : ¬ c = (58 : Int32)), if_neg (own_i3 h21 (by decide) : ¬ c < (65 : Int32)), if_pos (own_j2 h21 (by decide) : (90 : Int32) < c), if_neg (own_q3 h21 (by decide) : ¬ c = (95 : Int32)), if_neg (own_i3 h21 (by decide) : ¬ c < (97 : Int32)), if_pos (own_j2 h21 (by decide) : (122 : Int32) < c), if_neg (own_i3 h21 (by decide) : ¬ c < (192 : Int32)), if_pos (own_j2 h21 (by decide) : (214 : Int32) < c), if_neg (own_i3 h21 (by decide) : ¬ c < (216 : Int32)), if_pos (own_j2 h21 (by decide) : (246 : Int32) < c), if_neg (own_i3 h21 (by decide) : ¬ c < (248 : Int32)), if_pos (own_j2 h21 (by decide) : (767 : Int32) < c), if_neg (own_i3 h21 (by decide) : ¬ c < (880 : Int32)), if_pos (own_j2 h21 (by decide) : (893 : Int32) < c), if_neg (own_i3 h21 (by decide) : ¬ c < (895 : Int32)), if_pos (own_j2 h21 (by decide) : (8191 : Int32) < c), if_neg (own_i3 h21 (by decide) : ¬ c < (8204 : Int32)), if_pos (own_j2 h21 (by decide) : (8205 : Int32) < c), if_pos (own_i1 h22 (by decide) : c < (8304 : Int32)), own_ref, if_neg (own_i3 h21 (by decide) : ¬ c < (58 : Int32)), if_neg (own_j4 h22 (by decide) : ¬ (983039 : Int32) < c), if_pos (own_j2 h21 (by decide) : (64 : Int32) < c), if_pos (own_j2 h21 (by decide) : (127 : Int32) < c), if_pos (own_j2 h21 (by decide) : (191 : Int32) < c), if_pos (own_j2 h21 (by decide) : (767 : Int32) < c), if_pos (own_j2 h21 (by decide) : (879 : Int32) < c), if_pos (own_j2 h21 (by decide) : (8191 : Int32) < c), if_neg (own_j4 h22 (by decide) : ¬ (8303 : Int32) < c), if_neg (own_q3 h21 (by decide) : ¬ c = (8204 : Int32)), if_neg (own_q3 h21 (by decide) : ¬ c = (8205 : Int32))]
  by_cases h23 : c < (8592 : Int32)
  · rw [own_start, if_neg (own_q3 h22 (by decide) : ¬ c = (58 : Int32)), if_neg (own_i3 h22 (by decide) : ¬ c < (65 : Int32)), if_pos (own_j2 h22 (by decide) : (90 : Int32) < c), if_neg (own_q3 h22 (by decide) : ¬ c = (95 : Int32)), if_neg (own_i3 h22 (by decide) : ¬ c < (97 : Int32)), if_pos (own_j2 h22 (by decide) : (122 : Int32) < c), if_neg (own_i3 h22 (by decide) : ¬ c < (192 : Int32)), if_pos (own_j2 h22 (by decide) : (214 : Int32) < c), if_neg (own_i3 h22 (by decide) : ¬ c < (216 : Int32)), if_pos (own_j2 h22 (by decide) : (246 : Int32) < c), if_neg (own_i3 h22 (by decide) : ¬ c < (248 : Int32)), if_pos (own_j2 h22 (by decide) : (767 : Int32) < c), if_neg (own_i3 h22 (by decide) : ¬ c < (880 : Int32)), if_pos (own_j2 h22 (by decide) : (893 : Int32) < c), if_neg (own_i3 h22 (by decide) : ¬ c < (895 : Int32)), if_pos (own_j2 h22 (by decide) : (8191 : Int32) < c), if_neg (own_i3 h22 (by decide) : ¬ c < (8204 : Int32)), if_pos (own_j2 h22 (by decide) : (8205 : Int32) < c), if_neg (own_i3 h22 (by decide) : ¬ c < (8304 : Int32)), if_neg (own_j4 h23 (by decide) : ¬ (8591 : Int32) < c), own_ref, if_neg (own_i3 h22 (by decide) : ¬ c < (58 : Int32)), if_neg (own_j4 h23 (by decide) : ¬ (983039 : Int32) < c), if_pos (own_j2 h22 (by decide) : (64 : Int32) < c), if_pos (own_j2 h22 (by decide) : (127 : Int32) < c), if_pos (own_j2 h22 (by decide) : (191 : Int32) < c), if_pos (own_j2 h22 (by decide) : (767 : Int32) < c), if_pos (own_j2 h22 (by decide) : (879 : Int32) < c), if_pos (own_j2 h22 (by decide) : (8191 : Int32) < c), if_pos (own_j2 h22 (by decide) : (8303 : Int32) < c), if_neg (own_j4 h23 (by decide) : ¬ (8591 : Int32) < c)]
  by_cases h24 : c < (11264 : Int32)
  · rw [own_start, if_neg (own_q3 h23 (by decide) : ¬ c = (58 : Int32)), if_neg (own_i3 h23 (by decide) : ¬ c < (65 : Int32)), if_pos (own_j2 h23 (by decide) : (90 : Int32) < c), if_neg (own_q3 h23 (by decide) : ¬ c = (95 : Int32)), if_neg (own_i3 h23 (by decide) : ¬ c < (97 : Int32)), if_pos (own_j2 h23 (by decide) : (122 : Int32) < c), if_neg (own_i3 h23 (by decide) : ¬ c < (192 : Int32)), if_pos (own_j2 h23 (by decide) : (214 : Int32) < c), if_neg (own_i3 h23 (by decide) : ¬ c < (216 : Int32)), if_pos (own_j2 h23 (by decide) : (246 : Int32) < c), if_neg (own_i3 h23 (by decide) : ¬ c < (248 : Int32)), if_pos (own_j2 h23 (by decide) : (767 : Int32) < c), if_neg (own_i3 h23 (by decide) : ¬ c < (880 : Int32)), if_pos (own_j2 h23 (by decide) : (893 : Int32) < c), if_neg (own_i3 h23 (by decide) : ¬ c < (895 : Int32)), if_pos (own_j2 h23 (by decide) : (8191 : Int32) < c), if_neg (own_i3 h23 (by decide) : ¬ c < (8204 : Int32)), if_pos (own_j2 h23 (by decide) : (8205 : Int32) < c), if_neg (own_i3 h23 (by decide) : ¬ c < (8304 : Int32)), if_pos (own_j2 h23 (by decide) : (8591 : Int32) < c), if_pos (own_i1 h24 (by decide) : c < (11264 : Int32)), own_ref, if_neg (own_i3 h23 (by decide) : ¬ c < (58 : Int32)), if_neg (own_j4 h24 (by decide) : ¬ (983039 : Int32) < c), if_pos (own_j2 h23 (by decide) : (64 : Int32) < c), if_pos (own_j2 h23 (by decide) : (127 : Int32) < c), if_pos (own_j2 h23 (by decide) : (191 : Int32) < c), if_pos (own_j2 h23 (by decide) : (767 : Int32) < c), if_pos (own_j2 h23 (by decide) : (879 : Int32) < c), if_pos (own_j2 h23 (by decide) : (8191 : Int32) < c), if_pos (own_j2 h23 (by decide) : (8303 : Int32) < c), if_pos (own_j2 h23 (by decide) : (8591 : Int32) < c), if_neg (own_j4 h24 (by decide) : ¬ (11263 : Int32) < c)]
  by_cases h25 : c < (12272 : Int32)
  · rw [own_start, if_neg (own_q3 h24 (by decide) : ¬ c = (58 : Int32)), if_neg (own_i3 h24 (by decide) : ¬ c < (65 : Int32)), if_pos (own_j2 h24 (by decide) : (90 : Int32) < c), if_neg (own_q3 h24 (by decide) : ¬ c = (95 : Int32)), if_neg (own_i3 h24 (by decide) : ¬ c < (97 : Int32)), if_pos (own_j2 h24 (by decide) : (122 : Int32) < c), if_neg (own_i3 h24 (by decide) : ¬ c < (192 : Int32)), if_pos (own_j2 h24 (by decide) : (214 : Int32) < c), if_neg (own_i3 h24 (by decide) : ¬ c < (216 : Int32)), if_pos (own_j2 h24 (by decide) : (246 : Int32) < c), if_neg (own_i3 h24 (by decide) : ¬ c < (248 : Int32)), if_pos (own_j2 h24 (by decide) : (767 : Int32) < c), if_neg (own_i3 h24 (by decide) : ¬ c < (880 : Int32)), if_pos (own_j2 h24 (by decide) : (893 : Int32) < c), if_neg (own_i3 h24 (by decide) : ¬ c < (895 : Int32)), if_pos (own_j2 h24 (by decide) : (8191 : Int32) < c), if_neg (own_i3 h24 (by decide) : ¬ c < (8204 : Int32)), if_pos (own_j2 h24 (by decide) : (8205 : Int32) < c), if_neg (own_i3 h24 (by decide) : ¬ c < (8304 : Int32)), if_pos (own_j2 h24 (by decide) : (8591 : Int32) < c), if_neg (own_i3 h24 (by decide) : ¬ c < (11264 : Int32)), if_neg (own_j4 h25 (by decide) : ¬ (12271 : Int32) < c), own_ref, if_neg (own_i3 h24 (by decide) : ¬ c < (58 : Int32)), if_neg (own_j4 h25 (by decide) : ¬ (983039 : Int32) < c), if_pos (own_j2 h24 (by decide) : (64 : Int32) < c), if_pos (own_j2 h24 (by decide) : (127 : Int32) < c), if_pos (own_j2 h24 (by decide) : (191 : Int32) < c), if_pos (own_j2 h24 (by decide) : (767 : Int32) < c), if_pos (own_j2 h24 (by decide) : (879 : Int32) < c), if_pos (own_j2 h24 (by decide) : (8191 : Int32) < c), if_pos (own_j2 h24 (by decide) : (8303 : Int32) < c), if_pos (own_j2 h24 (by decide) : (8591 : Int32) < c), if_pos (own_j2 h24 (by decide) : (11263 : Int32) < c), if_neg (own_j4 h25 (by decide) : ¬ (12271 : Int32) < c)]
  by_cases h26 : c < (12289 : Int32)
  · rw [own_start, if_neg (own_q3 h25 (by decide) : ¬ c = (58 : Int32)), if_neg (own_i3 h25 (by decide) : ¬ c < (65 : Int32)), if_pos (own_j2 h25 (by decide) : (90 : Int32) < c), if_neg (own_q3 h25 (by decide) : ¬ c = (95 : Int32)), if_neg (own_i3 h25 (by decide) : ¬ c < (97 : Int32)), if_pos (own_j2 h25 (by decide) : (122 : Int32) < c), if_neg (own_i3 h25 (by decide) : ¬ c < (192 : Int32)), if_pos (own_j2 h25 (by decide) : (214 : Int32) < c), if_neg (own_i3 h25 (by decide) : ¬ c < (216 : Int32)), if_pos (own_j2 h25 (by decide) : (246 : Int32) < c), if_neg (own_i3 h25 (by decide) : ¬ c < (248 : Int32)), if_pos (own_j2 h25 (by decide) : (767 : Int32) < c), if_neg (own_i3 h25 (by decide) : ¬ c < (880 : Int32)), if_pos (own_j2 h25 (by decide) : (893 : Int32) < c), if_neg (own_i3 h25 (by decide) : ¬ c < (895 : Int32)), if_pos (own_j2 h25 (by decide) : (8191 : Int32) < c), if_neg (own_i3 h25 (by decide) : ¬ c < (8204 : Int32)), if_pos (own_j2 h25 (by decide) : (8205 : Int32) < c), if_neg (own_i3 h25 (by decide) : ¬ c < (8304 : Int32)), if_pos (own_j2 h25 (by decide) : (8591 : Int32) < c), if_neg (own_i3 h25 (by decide) : ¬ c < (11264 : Int32)), if_pos (own_j2 h25 (by decide) : (12271 : Int32) < c), if_pos (own_i1 h26 (by decide) : c < (12289 : Int32)), own_ref, if_neg (own_i3 h25 (by decide) : ¬ c < (58 : Int32)), if_neg (own_j4 h26 (by decide) : ¬ (983039 : Int32) < c), if_pos (own_j2 h25 (by decide) : (64 : Int32) < c), if_pos (own_j2 h25 (by decide) : (127 : Int32) < c), if_pos (own_j2 h25 (by decide) : (191 : Int32) < c), if_pos (own_j2 h25 (by decide) : (767 : Int32) < c), if_pos (own_j2 h25 (by decide) : (879 : Int32) < c), if_pos (own_j2 h25 (by decide) : (8191 : Int32) < c), if_pos (own_j2 h25 (by decide) : (8303 : Int32) < c), if_pos (own_j2 h25 (by decide) : (8591 : Int32) < c), if_pos (own_j2 h25 (by decide) : (11263 : Int32) < c), if_pos (own_j2 h25 (by decide) : (12271 : Int32) < c), if_neg (own_j4 h26 (by decide) : ¬ (12288 : Int32) < c)]
  by_cases h27 : c < (55296 : Int32)
  · rw [own_start, if_neg (own_q3 h26 (by decide) : ¬ c = (58 : Int32)), if_neg (own_i3 h26 (by decide) : ¬ c < (65 : Int32)), if_pos (own_j2 h26 (by decide) : (90 : Int32) < c), if_neg (own_q3 h26 (by decide) : ¬ c = (95 : Int32)), if_neg (own_i3 h26 (by decide) : ¬ c < (97 : Int32)), if_pos (own_j2 h26 (by decide) : (122 : Int32) < c), if_neg (own_i3 h26 (by decide) : ¬ c < (192 : Int32)), if_pos (own_j2 h26 (by decide) : (214 : Int32) < c), if_neg (own_i3 h26 (by decide) : ¬ c < (216 : Int32)), if_pos (own_j2 h26 (by decide) : (246 : Int32) < c), if_neg (own_i3 h26 (by decide) : ¬ c < (248 : Int32)), if_pos (own_j2 h26 (by decide) : (767 : Int32) < c), if_neg (own_i3 h26 (by decide) : ¬ c < (880 : Int32)), if_pos (own_j2 h26 (by decide) : (893 : Int32) < c), if_neg (own_i3 h26 (by decide) : ¬ c < (895 : Int32)), if_pos (own_j2 h26 (by decide) : (8191 : Int32) < c), if_neg (own_i3 h26 (by decide) : ¬ c < (8204 : Int32)), if_pos (own_j2 h26 (by decide) : (8205 : Int32) < c), if_neg (own_i3 h26 (by decide) : ¬ c < (8304 : Int32)), if_pos (own_j2 h26 (by decide) : (8591 : Int32) < c), if_neg (own_i3 h26 (by decide) : ¬ c < (11264 : Int32)), if_pos (own_j2 h26 (by decide) : (12271 : Int32) < c), if_neg (own_i3 h26 (by decide) : ¬ c < (12289 : Int32)), if_neg (own_j4 h27 (by decide) : ¬ (55295 : Int32) < c), own_ref, if_neg (own_i3 h26 (by decide) : ¬ c < (58 : Int32)), if_neg (own_j4 h27 (by decide) : ¬ (983039 : Int32) < c), if_pos (own_j2 h26 (by decide) : (64 : Int32) < c), if_pos (own_j2 h26 (by decide) : (127 : Int32) < c), if_pos (own_j2 h26 (by decide) : (191 : Int32) < c), if_pos (own_j2 h26 (by decide) : (767 : Int32) < c), if_pos (own_j2 h26 (by decide) : (879 : Int32) < c), if_pos (own_j2 h26 (by decide) : (8191 : Int32) < c), if_pos (own_j2 h26 (by decide) : (8303 : Int32) < c), if_pos (own_j2 h26 (by decide) : (8591 : Int32) < c), if_pos (own_j2 h26 (by decide) : (11263 : Int32) < c), if_pos (own_j2 h26 (by decide) : (12271 : Int32) < c), if_pos (own_j2 h26 (by decide) : (12288 : Int32) < c), if_neg (own_j4 h27 (by decide) : ¬ (55295 : Int32) < c)]
  by_cases h28 : c < (63744 : Int32)
  · rw [own_start, if_neg (own_q3 h27 (by decide) : ¬ c = (58 : Int32)), if_neg (own_i3 h27 (by decide) : ¬ c < (65 : Int32)), if_pos (own_j2 h27 (by decide) : (90 : Int32) < c), if_neg (own_q3 h27 (by decide) : ¬ c = (95 : Int32)), if_neg (own_i3 h27 (by decide) : ¬ c < (97 : Int32)), if_pos (own_j2 h27 (by decide) : (122 : Int32) < c), if_neg (own_i3 h27 (by decide) : ¬ c < (192 : Int32)), if_pos (own_j2 h27 (by decide) : (214 : Int32) < c), if_neg (own_i3 h27 (by decide) : ¬ c < (216 : Int32)), if_pos (own_j2 h27 (by decide) : (246 : Int32) < c), if_neg (own_i3 h27 (by decide) : ¬ c < (248 : Int32)), if_pos (own_j2 h27 (by decide) : (767 : Int32) < c), if_neg (own_i3 h27 (by decide) : ¬ c < (880 : Int32)), if_pos (own_j2 h27 (by decide) : (893 : Int32) < c), if_neg (own_i3 h27 (by decide) : ¬ c < (895 : Int32)), if_pos (own_j2 h27 (by decide) : (8191 : Int32) < c), if_neg (own_i3 h27 (by decide) : ¬ c < (8204 : Int32)), if_pos (own_j2 h27 (by decide) : (8205 : Int32) < c), if_neg (own_i3 h27 (by decide) : ¬ c < (8304 : Int32)), if_pos (own_j2 h27 (by decide) : (8591 : Int32) < c), if_neg (own_i3 h27 (by decide) : ¬ c < (11264 : Int32)), if_pos (own_j2 h27 (by decide) : (12271 : Int32) < c), if_neg (own_i3 h27 (by decide) : ¬ c < (12289 : Int32)), if_pos (own_j2 h27 (by decide) : (55295 : Int32) < c), if_pos (own_i1 h28 (by decide) : c < (63744 : Int32)), own_ref, if_neg (own_i3 h27 (by decide) : ¬ c < (58 : Int32)), if_neg (own_j4 h28 (by decide) : ¬ (983039 : Int32) < c), if_pos (own_j2 h27 (by decide) : (64 : Int32) < c), if_pos (own_j2 h27 (by decide) : (127 : Int32) < c), if_pos (own_j2 h27 (by decide) : (191 : Int32) < c), if_pos (own_j2 h27 (by decide) : (767 : Int32) < c), if_pos (own_j2 h27 (by decide) : (879 : Int32) < c), if_pos (own_j2 h27 (by decide) : (8191 : Int32) < c), if_pos (own_j2 h27 (by decide) : (8303 : Int32) < c), if_pos (own_j2 h27 (by decide) : (8591 : Int32) < c), if_pos (own_j2 h27 (by decide) : (11263 : Int32) < c), if_pos (own_j2 h27 (by decide) : (12271 : Int32) < c), if_pos (own_j2 h27 (by decide) : (12288 : Int32) < c), if_pos (own_j2 h27 (by decide) : (55295 : Int32) < c), if_neg (own_j4 h28 (by decide) : ¬ (63743 : Int32) < c)]
  by_cases h29 : c < (64976 : Int32)
  · rw [own_start, if_neg (own_q3 h28 (by decide) : ¬ c = (58 : Int32)), if_neg (own_i3 h28 (by decide) : ¬ c < (65 : Int32)), if_pos (own_j2 h28 (by decide) : (90 : Int32) < c), if_neg (own_q3 h28 (by decide) : ¬ c = (95 : Int32)), if_neg (own_i3 h28 (by decide) : ¬ c < (97 : Int32)), if_pos (own_j2 h28 (by decide) : (122 : Int32) < c), if_neg (own_i3 h28 (by decide) : ¬ c < (192 : Int32)), if_pos (own_j2 h28 (by decide) : (214 : Int32) < c), if_neg (own_i3 h28 (by decide) : ¬ c < (216 : Int32)), if_pos (own_j2 h28 (by decide) : (246 : Int32) < c), if_neg (own_i3 h28 (by decide) : ¬ c < (248 : Int32)), if_pos (own_j2 h28 (by decide) : (767 : Int32) < c), if_neg (own_i3 h28 (by decide) : ¬ c < (880 : Int32)), if_pos (own_j2 h28 (by decide) : (893 : Int32) < c), if_neg (own_i3 h28 (by decide) : ¬ c < (895 : Int32)), if_pos (own_j2 h28 (by decide) : (8191 : Int32) < c), if_neg (own_i3 h28 (by decide) : ¬ c < (8204 : Int32)), if_pos (own_j2 h28 (by decide) : (8205 : Int32) < c), if_neg (own_i3 h28 (by decide) : ¬ c < (8304 : Int32)), if_pos (own_j2 h28 (by decide) : (8591 : Int32) < c), if_neg (own_i3 h28 (by decide) : ¬ c < (11264 : Int32)), if_pos (own_j2 h28 (by decide) : (12271 : Int32) < c), if_neg (own_i3 h28 (by decide) : ¬ c < (12289 : Int32)), if_pos (own_j2 h28 (by decide) : (55295 : Int32) < c), if_neg (own_i3 h28 (by decide) : ¬ c < (63744 : Int32)), if_neg (own_j4 h29 (by decide) : ¬ (64975 : Int32) < c), own_ref, if_neg (own_i3 h28 (by decide) : ¬ c < (58 : Int32)), if_neg (own_j4 h29 (by decide) : ¬ (983039 : Int32) < c), if_pos (own_j2 h28 (by decide) : (64 : Int32) < c), if_pos (own_j2 h28 (by decide) : (127 : Int32) < c), if_pos (own_j2 h28 (by decide) : (191 : Int32) < c), if_pos (own_j2 h28 (by decide) : (767 : Int32) < c), if_pos (own_j2 h28 (by decide) : (879 : Int32) < c), if_pos (own_j2 h28 (by decide) : (8191 : Int32) < c), if_pos (own_j2 h28 (by decide) : (8303 : Int32) < c), if_pos (own_j2 h28 (by decide) : (8591 : Int32) < c), if_pos (own_j2 h28 (by decide) : (11263 : Int32) < c), if_pos (own_j2 h28 (by decide) : (12271 : Int32) < c), if_pos (own_j2 h28 (by decide) : (12288 : Int32) < c), if_pos (own_j2 h28 (by decide) : (55295 : Int32) < c), if_pos (own_j2 h28 (by decide) : (63743 : Int32) < c), if_neg (own_j4 h29 (by decide) : ¬ (65535 : Int32) < c), if_pos (own_i1 h29 (by decide) : c < (64976 : Int32))]
  by_cases h30 : c < (65008 : Int32)
  · rw [own_start, if_neg (own_q3 h29 (by decide) : ¬ c = (58 : Int32)), if_neg (own_i3 h29 (by decide) : ¬ c < (65 : Int32)), if_pos (own_j2 h29 (by decide) : (90 : Int32) < c), if_neg (own_q3 h29 (by decide) : ¬ c = (95 : Int32)), if_neg (own_i3 h29 (by decide) : ¬ c < (97 : Int32)), if_pos (own_j2 h29 (by decide) : (122 : Int32) < c), if_neg (own_i3 h29 (by decide) : ¬ c < (192 : Int32)), if_pos (own_j2 h29 (by decide) : (214 : Int32) < c), if_neg (own_i3 h29 (by decide) : ¬ c < (216 : Int32)), if_pos (own_j2 h29 (by decide) : (246 : Int32) < c), if_neg (own_i3 h29 (by decide) : ¬ c < (248 : Int32)), if_pos (own_j2 h29 (by decide) : (767 : Int32) < c), if_neg (own_i3 h29 (by decide) : ¬ c < (880 : Int32)), if_pos (own_j2 h29 (by decide) : (893 : Int32) < c), if_neg (own_i3 h29 (by decide) : ¬ c < (895 : Int32)), if_pos (own_j2 h29 (by decide) : (8191 : Int32) < c), if_neg (own_i3 h29 (by decide) : ¬ c < (8204 : Int32)), if_pos (own_j2 h29 (by decide) : (8205 : Int32) < c), if_neg (own_i3 h29 (by decide) : ¬ c < (8304 : Int32)), if_pos (own_j2 h29 (by decide) : (8591 : Int32) < c), if_neg (own_i3 h29 (by decide) : ¬ c < (11264 : Int32)), if_pos (own_j2 h29 (by decide) : (12271 : Int32) < c), if_neg (own_i3 h29 (by decide) : ¬ c < (12289 : Int32)), if_pos (own_j2 h29 (by decide) : (55295 : Int32) < c), if_neg (own_i3 h29 (by decide) : ¬ c < (63744 : Int32)), if_pos (own_j2 h29 (by decide) : (64975 : Int32) < c), if_pos (own_i1 h30 (by decide) : c < (65008 : Int32)), own_ref, if_neg (own_i3 h29 (by decide) : ¬ c < (58 : Int32)), if_neg (own_j4 h30 (by decide) : ¬ (983039 : Int32) < c), if_pos (own_j2 h29 (by decide) : (64 : Int32) < c), if_pos (own_j2 h29 (by decide) : (127 : Int32) < c), if_pos (own_j2 h29 (by decide) : (191 : Int32) < c), if_pos (own_j2 h29 (by decide) : (767 : Int32) < c), if_pos (own_j2 h29 (by decide) : (879 : Int32) < c), if_pos (own_j2 h29 (by decide) : (8191 : Int32) < c), if_pos (own_j2 h29 (by decide) : (8303 : Int32) < c), if_pos (own_j2 h29 (by decide) : (8591 : Int32) < c), if_pos (own_j2 h29 (by decide) : (11263 : Int32) < c), if_pos (own_j2 h29 (by decide) : (12271 : Int32) < c), if_pos (own_j2 h29 (by decide) : (12288 : Int32) < c), if_pos (own_j2 h29 (by decide) : (55295 : Int32) < c), if_pos (own_j2 h29 (by decide) : (63743 : Int32) < c), if_neg (own_j4 h30 (by decide) : ¬ (65535 : Int32) < c), if_neg (own_i3 h29 (by decide) : ¬ c < (64976 : Int32)), if_neg (own_j4 h30 (by decide) : ¬ (65007 : Int32) < c)]
  by_cases h31 : c < (65534 : Int32)
  · rw [own_start, if_neg (own_q3 h30 (by decide) : ¬ c = (58 : Int32)), if_neg (own_i3 h30 (by decide) : ¬ c < (65 : Int32)), if_pos (own_j2 h30 (by decide) : (90 : Int32) < c), if_neg (own_q3 h30 (by decide) : ¬ c = (95 : Int32)), if_neg (own_i3 h30 (by decide) : ¬ c < (97 : Int32)), if_pos (own_j2 h30 (by decide) : (122 : Int32) < c), if_neg (own_i3 h30 (by decide) : ¬ c < (192 : Int32)), if_pos (own_j2 h30 (by decide) : (214 : Int32) < c), if_neg (own_i3 h30 (by decide) : ¬ c < (216 : Int32)), if_pos (own_j2 h30 (by decide) : (246 : Int32) < c), if_neg (own_i3 h30 (by decide) : ¬ c < (248 : Int32)), if_pos (own_j2 h30 (by decide) : (767 : Int32) < c), if_neg (own_i3 h30 (by decide) : ¬ c < (880 : Int32)), if_pos (own_j2 h30 (by decide) : (893 : Int32) < c), if_neg (own_i3 h30 (by decide) : ¬ c < (895 : Int32)), if_pos (own_j2 h30 (by decide) : (8191 : Int32) < c), if_neg (own_i3 h30 (by decide) : ¬ c < (8204 : Int32)), if_pos (own_j2 h30 (by decide) : (8205 : Int32) < c), if_neg (own_i3 h30 (by decide) : ¬ c < (8304 : Int32)), if_pos (own_j2 h30 (by decide) : (8591 : Int32) < c), if_neg (own_i3 h30 (by decide) : ¬ c < (11264 : Int32)), if_pos (own_j2 h30 (by decide) : (12271 : Int32) < c), if_neg (own_i3 h30 (by decide) : ¬ c < (12289 : Int32)), if_pos (own_j2 h30 (by decide) : (55295 : Int32) < c), if_neg (own_i3 h30 (by decide) : ¬ c < (63744 : Int32)), if_pos (own_j2 h30 (by decide) : (64975 : Int32) < c), if_neg (own_i3 h30 (by decide) : ¬ c < (65008 : Int32)), if_neg (own_j4 h31 (by decide) : ¬ (65533 : Int32) < c), own_ref, if_neg (own_i3 h30 (by decide) : ¬ c < (58 : Int32)), if_neg (own_j4 h31 (by decide) : ¬ (983039 : Int32) < c), if_pos (own_j2 h30 (by decide) : (64 : Int32) < c), if_pos (own_j2 h30 (by decide) : (127 : Int32) < c), if_pos (own_j2 h30 (by decide) : (191 : Int32) < c), if_pos (own_j2 h30 (by decide) : (767 : Int32) < c), if_pos (own_j2 h30 (by decide) : (879 : Int32) < c), if_pos (own_j2 h30 (by decide) : (8191 : Int32) < c), if_pos (own_j2 h30 (by decide) : (8303 : Int32) < c), if_pos (own_j2 h30 (by decide) : (8591 : Int32) < c), if_pos (own_j2 h30 (by decide) : (11263 : Int32) < c), if_pos (own_j2 h30 (by decide) : (12271 : Int32) < c), if_pos (own_j2 h30 (by decide) : (12288 : Int32) < c), if_pos (own_j2 h30 (by decide) : (55295 : Int32) < c), if_pos (own_j2 h30 (by decide) : (63743 : Int32) < c), if_neg (own_j4 h31 (by decide) : ¬ (65535 : Int32) < c), if_neg (own_i3 h30 (by decide) : ¬ c < (64976 : Int32)), if_pos (own_j2 h30 (by decide) : (65007 : Int32) < c), if_pos (own_i1 h31 (by decide) : c < (65534 : Int32))]
  by_cases h32 : c < (65536 : Int32)
  · rw [own_start, if_neg (own_q3 h31 (by decide) : ¬ c = (58 : Int32)), if_neg (own_i3 h31 (by decide) : ¬ c < (65 : Int32)), if_pos (own_j2 h31 (by decide) : (90 : Int32) < c), if_neg (own_q3 h31 (by decide) : ¬ c = (95 : Int32)), if_neg (own_i3 h31 (by decide) : ¬ c < (97 : Int32)), if_pos (own_j2 h31 (by decide) : (122 : Int32) < c), if_neg (own_i3 h31 (by decide) : ¬ c < (192 : Int32)), if_pos (own_j2 h31 (by decide) : (214 : Int32) < c), if_neg (own_i3 h31 (by decide) : ¬ c < (216 : Int32)), if_pos (own_j2 h31 (by decide) : (246 : Int32) < c), if_neg (own_i3 h31 (by decide) : ¬ c < (248 : Int32)), if_pos (own_j2 h31 (by decide) : (767 : Int32) < c), if_neg (own_i3 h31 (by decide) : ¬ c < (880 : Int32)), if_pos (own_j2 h31 (by decide) : (893 : Int32) < c), if_neg (own_i3 h31 (by decide) : ¬ c < (895 : Int32)), if_pos (own_j2 h31 (by decide) : (8191 : Int32) < c), if_neg (own_i3 h31 (by decide) : ¬ c < (8204 : Int32)), if_pos (own_j2 h31 (by decide) : (8205 : Int32) < c), if_neg (own_i3 h31 (by decide) : ¬ c < (8304 : Int32)), if_pos (own_j2 h31 (by decide) : (8591 : Int32) < c), if_neg (own_i3 h31 (by decide) : ¬ c < (11264 : Int32)), if_pos (own_j2 h31 (by decide) : (12271 : Int32) < c), if_neg (own_i3 h31 (by decide) : ¬ c < (12289 : Int32)), if_pos (own_j2 h31 (by decide) : (55295 : Int32) < c), if_neg (own_i3 h31 (by decide) : ¬ c < (63744 : Int32)), if_pos (own_j2 h31 (by decide) : (64975 : Int32) < c), if_neg (own_i3 h31 (by decide) : ¬ c < (65008 : Int32)), if_pos (own_j2 h31 (by decide) : (65533 : Int32) < c), if_pos (own_i1 h32 (by decide) : c < (65536 : Int32)), own_ref, if_neg (own_i3 h31 (by decide) : ¬ c < (58 : Int32)), if_neg (own_j4 h32 (by decide) : ¬ (983039 : Int32) < c), if_pos (own_j2 h31 (by decide) : (64 : Int32) < c), if_pos (own_j2 h31 (by decide) : (127 : Int32) < c), if_pos (own_j2 h31 (by decide) : (191 : Int32) < c), if_pos (own_j2 h31 (by decide) : (767 : Int32) < c), if_pos (own_j2 h31 (by decide) : (879 : Int32) < c), if_pos (own_j2 h31 (by decide) : (8191 : Int32) < c), if_pos (own_j2 h31 (by decide) : (8303 : Int32) < c), if_pos (own_j2 h31 (by decide) : (8591 : Int32) < c), if_pos (own_j2 h31 (by decide) : (11263 : Int32) < c), if_pos (own_j2 h31 (by decide) : (12271 : Int32) < c), if_pos (own_j2 h31 (by decide) : (12288 : Int32) < c), if_pos (own_j2 h31 (by decide) : (55295 : Int32) < c), if_pos (own_j2 h31 (by decide) : (63743 : Int32) < c), if_neg (own_j4 h32 (by decide) : ¬ (65535 : Int32) < c), if_neg (own_i3 h31 (by decide) : ¬ c < (64976 : Int32)), if_pos (own_j2 h31 (by decide) : (65007 : Int32) < c), if_neg (own_i3 h31 (by decide) : ¬ c < (65534 : Int32))]
  by_cases h33 : c < (983040 : Int32)
  · rw [own_start, if_neg (own_q3 h32 (by decide) : ¬ c = (58 : Int32)), if_neg (own_i3 h32 (by decide) : ¬ c < (65 : Int32)), if_pos (own_j2 h32 (by decide) : (90 : Int32) < c), if_neg (own_q3 h32 (by decide) : ¬ c = (95 : Int32)), if_neg (own_i3 h32 (by decide) : ¬ c < (97 : Int32)), if_pos (own_j2 h32 (by decide) : (122 : Int32) < c), if_neg (own_i3 h32 (by decide) : ¬ c < (192 : Int32)), if_pos (own_j2 h32 (by decide) : (214 : Int32) < c), if_neg (own_i3 h32 (by decide) : ¬ c < (216 : Int32)), if_pos (own_j2 h32 (by decide) : (246 : Int32) < c), if_neg (own_i3 h32 (by decide) : ¬ c < (248 : Int32)), if_pos (own_j2 h32 (by decide) : (767 : Int32) < c), if_neg (own_i3 h32 (by decide) : ¬ c < (880 : Int32)), if_pos (own_j2 h32 (by decide) : (893 : Int32) < c), if_neg (own_i3 h32 (by decide) : ¬ c < (895 : Int32)), if_pos (own_j2 h32 (by decide) : (8191 : Int32) < c), if_neg (own_i3 h32 (by decide) : ¬ c < (8204 : Int32)), if_pos (own_j2 h32 (by decide) : (8205 : Int32) < c), if_neg (own_i3 h32 (by decide) : ¬ c < (8304 : Int32)), if_pos (own_j2 h32 (by decide) : (8591 : Int32) < c), if_neg (own_i3 h32 (by decide) : ¬ c < (11264 : Int32)), if_pos (own_j2 h32 (by decide) : (12271 : Int32) < c), if_neg (own_i3 h32 (by decide) : ¬ c < (12289 : Int32)), if_pos (own_j2 h32 (by decide) : (55295 : Int32) < c), if_neg (own_i3 h32 (by decide) : ¬ c < (63744 : Int32)), if_pos (own_j2 h32 (by decide) : (64975 : Int32) < c), if_neg (own_i3 h32 (by decide) : ¬ c < (65008 : Int32)), if_pos (own_j2 h32 (by decide) : (65533 : Int32) < c), if_neg (own_i3 h32 (by decide) : ¬ c < (65536 : Int32)), if_neg (own_j4 h33 (by decide) : ¬ (983039 : Int32) < c), own_ref, if_neg (own_i3 h32 (by decide) : ¬ c < (58 : Int32)), if_neg (own_j4 h33 (by decide) : ¬ (983039 : Int32) < c), if_pos (own_j2 h32 (by decide) : (64 : Int32) < c), if_pos (own_j2 h32 (by decide) : (127 : Int32) < c), if_pos (own_j2 h32 (by decide) : (191 : Int32) < c), if_pos (own_j2 h32 (by decide) : (767 : Int32) < c), if_pos (own_j2 h32 (by decide) : (879 : Int32) < c), if_pos (own_j2 h32 (by decide) : (8191 : Int32) < c), if_pos (own_j2 h32 (by decide) : (8303 : Int32) < c), if_pos (own_j2 h32 (by decide) : (8591 : Int32) < c), if_pos (own_j2 h32 (by decide) : (11263 : Int32) < c), if_pos (own_j2 h32 (by decide) : (12271 : Int32) < c), if_pos (own_j2 h32 (by decide) : (12288 : Int32) < c), if_pos (own_j2 h32 (by decide) : (55295 : Int32) < c), if_pos (own_j2 h32 (by decide) : (63743 : Int32) < c), if_pos (own_j2 h32 (by decide) : (65535 : Int32) < c)]
  rw [own_start, if_neg (own_q3 h33 (by decide) : ¬ c = (58 : Int32)), if_neg (own_i3 h33 (by decide) : ¬ c < (65 : Int32)), if_pos (own_j2 h33 (by decide) : (90 : Int32) < c), if_neg (own_q3 h33 (by decide) : ¬ c = (95 : Int32)), if_neg (own_i3 h33 (by decide) : ¬ c < (97 : Int32)), if_pos (own_j2 h33 (by decide) : (122 : Int32) < c), if_neg (own_i3 h33 (by decide) : ¬ c < (192 : Int32)), if_pos (own_j2 h33 (by decide) : (214 : Int32) < c), if_neg (own_i3 h33 (by decide) : ¬ c < (216 : Int32)), if_pos (own_j2 h33 (by decide) : (246 : Int32) < c), if_neg (own_i3 h33 (by decide) : ¬ c < (248 : Int32)), if_pos (own_j2 h33 (by decide) : (767 : Int32) < c), if_neg (own_i3 h33 (by decide) : ¬ c < (880 : Int32)), if_pos (own_j2 h33 (by decide) : (893 : Int32) < c), if_neg (own_i3 h33 (by decide) : ¬ c < (895 : Int32)), if_pos (own_j2 h33 (by decide) : (8191 : Int32) < c), if_neg (own_i3 h33 (by decide) : ¬ c < (8204 : Int32)), if_pos (own_j2 h33 (by decide) : (8205 : Int32) < c), if_neg (own_i3 h33 (by decide) : ¬ c < (8304 : Int32)), if_pos (own_j2 h33 (by decide) : (8591 : Int32) < c), if_neg (own_i3 h33 (by decide) : ¬ c < (11264 : Int32)), if_pos (own_j2 h33 (by decide) : (12271 : Int32) < c), if_neg (own_i3 h33 (by decide) : ¬ c < (12289 : Int32)), if_pos (own_j2 h33 (by decide) : (55295 : Int32) < c), if_neg (own_i3 h33 (by decide) : ¬ c < (63744 : Int32)), if_pos (own_j2 h33 (by decide) : (64975 : Int32) < c), if_neg (own_i3 h33 (by decide) : ¬ c < (65008 : Int32)), if_pos (own_j2 h33 (by decide) : (65533 : Int32) < c), if_neg (own_i3 h33 (by decide) : ¬ c < (65536 : Int32)), if_pos (own_j2 h33 (by decide) : (983039 : Int32) < c), own_ref, if_neg (own_i3 h33 (by decide) : ¬ c < (58 : Int32)), if_pos (own_j2 h33 (by decide) : (983039 : Int32) < c)]
theorem d_method_3_code_0 : decode method_3_code 0 = .ok (.iload_n 0, 1) := by decide +kernel
theorem d_method_3_code_1 : decode method_3_code 1 = .ok (.invokestatic 14, 3) := by decide +kernel
theorem pd_0 : parseMethodDescriptor "(I)Z" = some ⟨[.int], some .boolean⟩ := by decide +kernel
theorem d_method_3_code_4 : decode method_3_code 4 = .ok (.iload_n 0, 1) := by decide +kernel
theorem d_method_3_code_5 : decode method_3_code 5 = .ok (.invokestatic 20, 3) := by decide +kernel
theorem d_method_3_code_8 : decode method_3_code 8 = .ok (.if_icmp .ne 7, 3) := by decide +kernel
theorem d_method_3_code_11 : decode method_3_code 11 = .ok (.iconst 1, 1) := by decide +kernel
theorem d_method_3_code_12 : decode method_3_code 12 = .ok (.goto 4, 3) := by decide +kernel
theorem d_method_3_code_16 : decode method_3_code 16 = .ok (.ireturn, 1) := by decide +kernel
theorem ef_3 (m : MethodId) (p0 : Int32) : entryFrame m #[(.int p0)] 1 = mkF m 0 #[.val (.int p0)] [] := by first | (simp [entryFrame, mkF, argsToLocals, Value.category]; done) | rfl
def Q_rm_ok (Z : State) (p0 : Int32)  (h0 : Heap) (n0 : Nat) (v : Option Value) (h : Heap) (L : List Loc) : Prop := v = some (.int (1 : Int32)) ∧ Fr n0 L ∧ h = h0
set_option maxRecDepth 65536 in
set_option maxHeartbeats 40000000 in
theorem rm_ok (l : Launch) (Z : State) (a0 : Array Value) (hw : ∀ d ∈ tables_1, d.before a0 Z = true) (ws : List Jvm.Cond) (p0 : Int32)  (h0 : Heap) (n0 : Nat) (Z0 : n0 ≤ h0.size)  :
    MetFree l (⟨"com/example/ivaldi/ivaldi/model/NameCharactersIsNameStartPinLaw", "ok", "(I)Z"⟩ : MethodName) (head1 (Jvm.Cond.code (⟨"com/example/ivaldi/ivaldi/model/NameCharactersIsNameStartPinLaw", "ok", "(I)Z"⟩ : MethodName) method_3_code 1 (some .boolean) :: ws) ({ frames := 1, cells := 0, slots := 0, locals := 13 } : Room)) (fun av_ U => av_ = #[(.int p0)] ∧ Z.Warmed39 U.vm ∧ U.heap = h0) (fun _ _ _ _ _ => True) (fun _ U o U' => ∃ v L, o = .returned v ∧ Q_rm_ok Z p0 h0 n0 v U'.heap L ∧ FrameEnd U o U' L ({ frames := 1, cells := 0, slots := 0, locals := 13 } : Room).cells ({ frames := 1, cells := 0, slots := 0, locals := 13 } : Room).slots) := by
  refine MetFree.of_bodySF (plainFor_of_name pn_1) hisR ?_
  intro p e s m args below meth c s₁ Bd hml0 hP hK
  obtain ⟨rfl, hZ, hh⟩ := hP
  have hx := Bd.exec
  have hby := Bd.bytes
  have hml : c.maxLocals = 1 := hml0
  have hown : s.vm.findClass "com/example/ivaldi/ivaldi/model/NameCharactersIsNameStartPinLaw" = some m.cls := findClass_of_methodNamed Bd.named
  have hnm := (name_of_methodNamed Bd.named Bd.method).1
  have hlk : meth.locks = false := BodyLoose.notSynchronized Bd
  have X0 : Stand p l e ({ frames := 1, cells := 0, slots := 0, locals := 13 } : Room) s m #[(.int p0)] below meth c s₁ [] 0 0 := Stand.of_body Bd
  have e0 : s₁.heap = h0 := by rw [← hh, Bd.state]; rfl
  have N0 := Fr.nil n0
  refine own_by (fun _ kt => castTop (ef_3 m p0) kt) (R := own_R s (Q_rm_ok Z p0 h0 n0) 0 0) ?_
  show own_Go p.tables e below (s₁.setTop (mkF m 0 #[.val (.int p0)] [])) _
  refine own_by (fun _ kt => XS.iloadN X0.here hx rfl (hb hby d_method_3_code_0) rfl kt) ?_
  show own_Go p.tables e below (s₁.setTop (mkF m 1 #[.val (.int p0)] [(.int p0)])) _
  obtain ⟨_, _, ⟨T1, L1, k1, n1⟩, -, X1, ⟨Lc1, hQ1, l1, y1, z1⟩, st1⟩ := Jvm.LawKit.callS X0 hx (y := (⟨"com/example/ivaldi/ivaldi/model/NameCharacters", "isNameStart", "(I)Z"⟩ : MethodName)) hown (mvT hZ (hw _ (List.mem_of_getElem? (i := 15) rfl))) (mvT hZ (hw _ (List.mem_of_getElem? (i := 16) rfl))) (mvT hZ (hw _ (List.mem_of_getElem? (i := 17) rfl))) (mvT hZ (hw _ (List.mem_of_getElem? (i := 18) rfl))) (by decide) (backOf (W := 0) (rm_own_start l Z a0 hw [] p0 h0 n0 Z0) hZ (hw _ (List.mem_of_getElem? (i := 18) rfl)) (hw _ (List.mem_of_getElem? (i := 17) rfl)) (by decide) (by decide)) (g := (mkF m 1 #[.val (.int p0)] [(.int p0)])) rfl (by rw [hml]; rfl) (argsL := [(.int p0)]) (rest := []) (lenOf pd_0 rfl) rfl (by show 2 * 0 + _ ≤ _; exact Nat.le_of_eq rfl) (hb hby d_method_3_code_1) (fun _ _ => ⟨rfl, e0, (by decide : 0 + 0 ≤ _), (by decide : 0 + 0 ≤ _)⟩)
  dsimp only [Pt.U, Pt.locs, Pt.cells, Pt.slots] at X1 l1 y1 z1 st1 hQ1
  obtain rfl : k1 = 0 := y1
  obtain rfl : n1 = 0 := z1
  obtain ⟨rfl, Nq1, eh1⟩ := hQ1
  have N1 : Fr n0 L1 := by rw [l1]; exact Fr.app N0 Nq1
  refine own_by (st1) ?_
  show own_Go p.tables e below (T1.setTop (mkF m 4 #[.val (.int p0)] [(.int (own_start p0))])) _
  refine own_by (fun _ kt => XS.iloadN X1.here hx rfl (hb hby d_method_3_code_4) rfl kt) ?_
  show own_Go p.tables e below (T1.setTop (mkF m 5 #[.val (.int p0)] [(.int p0), (.int (own_start p0))])) _
  obtain ⟨_, _, ⟨T2, L2, k2, n2⟩, -, X2, ⟨Lc2, hQ2, l2, y2, z2⟩, st2⟩ := Jvm.LawKit.callS X1 hx (y := (⟨"com/example/ivaldi/ivaldi/model/NameCharactersIsNameStartPinLaw", "ref", "(I)Z"⟩ : MethodName)) hown (mvT hZ (hw _ (List.mem_of_getElem? (i := 22) rfl))) (mvT hZ (hw _ (List.mem_of_getElem? (i := 23) rfl))) (mvT hZ (hw _ (List.mem_of_getElem? (i := 13) rfl))) (mvT hZ (hw _ (List.mem_of_getElem? (i := 24) rfl))) (by decide) (backOf (W := 1) (rm_own_ref l Z a0 hw [] p0 h0 n0 Z0) hZ (hw _ (List.mem_of_getElem? (i := 24) rfl)) (hw _ (List.mem_of_getElem? (i := 13) rfl)) (by decide) (by decide)) (g := (mkF m 5 #[.val (.int p0)] [(.int p0), (.int (own_start p0))])) rfl (by rw [hml]; rfl) (argsL := [(.int p0)]) (rest := [(.int (own_start p0))]) (lenOf pd_0 rfl) rfl (by show 2 * 0 + _ ≤ _; exact Nat.le_of_eq rfl) (hb hby d_method_3_code_5) (fun _ _ => ⟨rfl, eh1, (by decide : 0 + 0 ≤ _), (by decide : 0 + 0 ≤ _)⟩)
  dsimp only [Pt.U, Pt.locs, Pt.cells, Pt.slots] at X2 l2 y2 z2 st2 hQ2
  obtain rfl : k2 = 0 := y2
  obtain rfl : n2 = 0 := z2
  obtain ⟨rfl, Nq2, eh2⟩ := hQ2
  have N2 : Fr n0 L2 := by rw [l2]; exact Fr.app N1 Nq2
  refine own_by (st2) ?_
  show own_Go p.tables e below (T2.setTop (mkF m 8 #[.val (.int p0)] [(.int (own_ref p0)), (.int (own_start p0))])) _
  refine own_by (fun _ kt => XS.icmpNo X2.here hx rfl (hb hby d_method_3_code_8) rfl (teq (own_same _ : (own_start p0) = (own_ref p0))).2 kt) ?_
  show own_Go p.tables e below (T2.setTop (mkF m 11 #[.val (.int p0)] [])) _
  refine own_by (fun _ kt => XS.iconst X2.here hx rfl (hb hby d_method_3_code_11) kt) ?_
  show own_Go p.tables e below (T2.setTop (mkF m 12 #[.val (.int p0)] [(.int (1 : Int32))])) _
  refine own_by (fun _ kt => XS.goto X2.here hx rfl (pc0 := 12) (pc' := 16) rfl (hb hby d_method_3_code_12) (by decide) (by decide) kt) ?_
  show own_Go p.tables e below (T2.setTop (mkF m 16 #[.val (.int p0)] [(.int (1 : Int32))])) _
  exact own_retN X2 hx (t := .boolean) Bd.returns hlk (by simp) (hb hby d_method_3_code_16) ⟨rfl, N2, eh2⟩ (by decide) (by decide)
theorem own_bm32 {z : Int} (h1 : -2147483648 ≤ z) (h2 : z < 2147483648) : z.bmod (2 ^ 32) = z := by
  apply Int.bmod_eq_of_le <;> omega
theorem own_pos31 (p : Int32) : 0 ≤ (p &&& 2147483647).toInt := by
  have hn : (p &&& 2147483647).toBitVec.toNat < 2 ^ 31 := by
    show (p.toBitVec &&& (2147483647 : Int32).toBitVec).toNat < 2 ^ 31
    rw [BitVec.toNat_and]
    exact Nat.lt_of_le_of_lt Nat.and_le_right (by decide)
  show 0 ≤ (p &&& 2147483647).toBitVec.toInt
  rw [BitVec.toInt_eq_toNat_cond, if_pos (by omega)]
  omega
theorem own_rem31 (p n : Int32) (hn : 0 < n.toInt) : 0 ≤ ((p &&& 2147483647) % n).toInt ∧ ((p &&& 2147483647) % n).toInt < n.toInt := by
  rw [Int32.toInt_mod, Int.tmod_eq_emod_of_nonneg (own_pos31 p)]
  exact ⟨Int.emod_nonneg _ (by omega), Int.emod_lt_of_pos _ hn⟩
theorem own_and3 (p : Int32) : p &&& 3 = 0 ∨ p &&& 3 = 1 ∨ p &&& 3 = 2 ∨ p &&& 3 = 3 := by
  have hn : (p &&& 3).toBitVec.toNat ≤ 3 := by
    show (p.toBitVec &&& (3 : Int32).toBitVec).toNat ≤ 3
    rw [BitVec.toNat_and]
    exact Nat.and_le_right
  have e : (p &&& 3).toInt = ((p &&& 3).toBitVec.toNat : Int) := by
    show (p &&& 3).toBitVec.toInt = _
    rw [BitVec.toInt_eq_toNat_cond, if_pos (by omega)]
  simp only [← Int32.toInt_inj, e, show (0 : Int32).toInt = 0 from by decide, show (1 : Int32).toInt = 1 from by decide, show (2 : Int32).toInt = 2 from by decide, show (3 : Int32).toInt = 3 from by decide]
  omega
theorem own_ix (p : Int32) : ¬ (p &&& 2147483647) % 33 < 0 ∧ (p &&& 2147483647) % 33 < 33 := by
  have h := own_rem31 p 33 (by decide)
  simp only [Int32.lt_iff_toInt_lt, show (33 : Int32).toInt = 33 from by decide, show (0 : Int32).toInt = 0 from by decide] at h ⊢
  omega
theorem own_getD (L : List Int32) (i : Nat) : (L.map Value.int).getD i (.int 0) = .int (L.getD i 0) := by
  simp only [List.getD_eq_getElem?_getD, List.getElem?_map]
  cases L[i]? <;> rfl
def own_at (i : Nat) : Int32 := [(58 : Int32), (65 : Int32), (90 : Int32), (95 : Int32), (97 : Int32), (122 : Int32), (192 : Int32), (214 : Int32), (216 : Int32), (246 : Int32), (248 : Int32), (767 : Int32), (880 : Int32), (893 : Int32), (895 : Int32), (8191 : Int32), (8204 : Int32), (8205 : Int32), (8304 : Int32), (8591 : Int32), (11264 : Int32), (12271 : Int32), (12289 : Int32), (55295 : Int32), (63744 : Int32), (64975 : Int32), (65008 : Int32), (65533 : Int32), (65536 : Int32), (983039 : Int32), (0 : Int32), (-2147483648 : Int32), (2147483647 : Int32)].getD i (0 : Int32)
theorem own_get33 (i : Nat) : [Value.int (58 : Int32), Value.int (65 : Int32), Value.int (90 : Int32), Value.int (95 : Int32), Value.int (97 : Int32), Value.int (122 : Int32), Value.int (192 : Int32), Value.int (214 : Int32), Value.int (216 : Int32), Value.int (246 : Int32), Value.int (248 : Int32), Value.int (767 : Int32), Value.int (880 : Int32), Value.int (893 : Int32), Value.int (895 : Int32), Value.int (8191 : Int32), Value.int (8204 : Int32), Value.int (8205 : Int32), Value.int (8304 : Int32), Value.int (8591 : Int32), Value.int (11264 : Int32), Value.int (12271 : Int32), Value.int (12289 : Int32), Value.int (55295 : Int32), Value.int (63744 : Int32), Value.int (64975 : Int32), Value.int (65008 : Int32), Value.int (65533 : Int32), Value.int (65536 : Int32), Value.int (983039 : Int32), Value.int (0 : Int32), Value.int (-2147483648 : Int32), Value.int (2147483647 : Int32)].getD i (.int (0 : Int32)) = .int (own_at i) := own_getD [(58 : Int32), (65 : Int32), (90 : Int32), (95 : Int32), (97 : Int32), (122 : Int32), (192 : Int32), (214 : Int32), (216 : Int32), (246 : Int32), (248 : Int32), (767 : Int32), (880 : Int32), (893 : Int32), (895 : Int32), (8191 : Int32), (8204 : Int32), (8205 : Int32), (8304 : Int32), (8591 : Int32), (11264 : Int32), (12271 : Int32), (12289 : Int32), (55295 : Int32), (63744 : Int32), (64975 : Int32), (65008 : Int32), (65533 : Int32), (65536 : Int32), (983039 : Int32), (0 : Int32), (-2147483648 : Int32), (2147483647 : Int32)] i
theorem ef_4 (m : MethodId) (p0 : Int32) (p1 : Int32) (p2 : Int32) (p3 : Int32) : entryFrame m #[(.int p0), (.int p1), (.int p2), (.int p3)] maxLocals = mkF m 0 #[.val (.int p0), .val (.int p1), .val (.int p2), .val (.int p3), .unset, .unset, .unset, .unset, .unset, .unset] [] := by first | (simp [entryFrame, mkF, argsToLocals, Value.category, maxLocals]; done) | rfl
def Q_rm_law (Z : State) (p0 : Int32) (p1 : Int32) (p2 : Int32) (p3 : Int32)  (h0 : Heap) (n0 : Nat) (v : Option Value) (h : Heap) (L : List Loc) : Prop := v = some (.int (1 : Int32)) ∧ Fr n0 L
set_option maxRecDepth 65536 in
set_option maxHeartbeats 40000000 in
theorem rm_law (l : Launch) (Z : State) (a0 : Array Value) (hw : ∀ d ∈ tables_1, d.before a0 Z = true) (ws : List Jvm.Cond) (p0 : Int32) (p1 : Int32) (p2 : Int32) (p3 : Int32)  (h0 : Heap) (n0 : Nat) (Z0 : n0 ≤ h0.size)  :
    MetFree l x (head1 (Jvm.Cond.code x code maxLocals ret :: ws) room_1) (fun av_ U => av_ = #[(.int p0), (.int p1), (.int p2), (.int p3)] ∧ Z.Warmed39 U.vm ∧ U.heap = h0) (fun _ _ _ _ _ => True) (fun _ U o U' => ∃ v L, o = .returned v ∧ Q_rm_law Z p0 p1 p2 p3 h0 n0 v U'.heap L ∧ FrameEnd U o U' L 16 192) := by
  refine MetFree.of_bodySF (plainFor_of_name pn_1) hisR ?_
  intro p e s m args below meth c s₁ Bd hml0 hP hK
  obtain ⟨rfl, hZ, hh⟩ := hP
  have hx := Bd.exec
  have hby := Bd.bytes
  have hml : c.maxLocals = 10 := hml0
  have hown : s.vm.findClass "com/example/ivaldi/ivaldi/model/NameCharactersIsNameStartPinLaw" = some m.cls := findClass_of_methodNamed Bd.named
  have hnm := (name_of_methodNamed Bd.named Bd.method).1
  have hlk : meth.locks = false := BodyLoose.notSynchronized Bd
  have X0 : Stand p l e room_1 s m #[(.int p0), (.int p1), (.int p2), (.int p3)] below meth c s₁ [] 0 0 := Stand.of_body Bd
  have e0 : s₁.heap = h0 := by rw [← hh, Bd.state]; rfl
  have N0 := Fr.nil n0
  refine own_by (fun _ kt => castTop (ef_4 m p0 p1 p2 p3) kt) (R := own_R s (Q_rm_law Z p0 p1 p2 p3 h0 n0) 16 192) ?_
  show own_Go p.tables e below (s₁.setTop (mkF m 0 #[.val (.int p0), .val (.int p1), .val (.int p2), .val (.int p3), .unset, .unset, .unset, .unset, .unset, .unset] [])) _
  refine own_by (fun _ kt => XS.bipush X0.here hx rfl (hb hby at_0) kt) ?_
  show own_Go p.tables e below (s₁.setTop (mkF m 2 #[.val (.int p0), .val (.int p1), .val (.int p2), .val (.int p3), .unset, .unset, .unset, .unset, .unset, .unset] [(.int (33 : Int32))])) _
  obtain ⟨T1, h1, k1, X1, e1, E1, A1, st1⟩ := newP X0 hx hZ (hw _ (List.mem_of_getElem? (i := 0) rfl)) e0 (g := (mkF m 2 #[.val (.int p0), .val (.int p1), .val (.int p2), .val (.int p3), .unset, .unset, .unset, .unset, .unset, .unset] [(.int (33 : Int32))])) rfl (hb hby at_2) rfl (by decide) (cap := 33) (by decide) (by decide) (by decide) (by decide)
  obtain ⟨b1, g1⟩ : ∃ z, z = h0.size := ⟨_, rfl⟩
  rw [← g1] at A1 st1
  have gn_b1 : n0 ≤ b1 := Nat.le_trans Z0 (Nat.le_of_eq g1.symm)
  have Zs1 : n0 ≤ h1.size := Nat.le_trans Z0 E1.1
  have f2 : Arv Z h1 b1 k1 .int (33 : Int32) [(.int (0 : Int32)), (.int (0 : Int32)), (.int (0 : Int32)), (.int (0 : Int32)), (.int (0 : Int32)), (.int (0 : Int32)), (.int (0 : Int32)), (.int (0 : Int32)), (.int (0 : Int32)), (.int (0 : Int32)), (.int (0 : Int32)), (.int (0 : Int32)), (.int (0 : Int32)), (.int (0 : Int32)), (.int (0 : Int32)), (.int (0 : Int32)), (.int (0 : Int32)), (.int (0 : Int32)), (.int (0 : Int32)), (.int (0 : Int32)), (.int (0 : Int32)), (.int (0 : Int32)), (.int (0 : Int32)), (.int (0 : Int32)), (.int (0 : Int32)), (.int (0 : Int32)), (.int (0 : Int32)), (.int (0 : Int32)), (.int (0 : Int32)), (.int (0 : Int32)), (.int (0 : Int32)), (.int (0 : Int32)), (.int (0 : Int32))] (.int (0 : Int32)) := (Arv.new A1 (by decide)).pad (pad_rep [] (.int (0 : Int32)) 33)
  refine own_by st1 ?_
  show own_Go p.tables e below (T1.setTop (mkF m 4 #[.val (.int p0), .val (.int p1), .val (.int p2), .val (.int p3), .unset, .unset, .unset, .unset, .unset, .unset] [(.ref b1)])) _
  refine own_by (fun _ kt => XS.dup X1.here hx rfl (hb hby at_4) rfl rfl kt) ?_
  show own_Go p.tables e below (T1.setTop (mkF m 5 #[.val (.int p0), .val (.int p1), .val (.int p2), .val (.int p3), .unset, .unset, .unset, .unset, .unset, .unset] [(.ref b1), (.ref b1)])) _
  refine own_by (fun _ kt => XS.iconst X1.here hx rfl (hb hby at_5) kt) ?_
  show own_Go p.tables e below (T1.setTop (mkF m 6 #[.val (.int p0), .val (.int p1), .val (.int p2), .val (.int p3), .unset, .unset, .unset, .unset, .unset, .unset] [(.int (0 : Int32)), (.ref b1), (.ref b1)])) _
  refine own_by (fun _ kt => XS.bipush X1.here hx rfl (hb hby at_6) kt) ?_
  show own_Go p.tables e below (T1.setTop (mkF m 8 #[.val (.int p0), .val (.int p1), .val (.int p2), .val (.int p3), .unset, .unset, .unset, .unset, .unset, .unset] [(.int (58 : Int32)), (.int (0 : Int32)), (.ref b1), (.ref b1)])) _
  obtain ⟨cl3, Ar3, q3, S3, M3, H3, G3⟩ := f2
  obtain ⟨T3, h3, X3, e3, W3, st3⟩ := stI X1 hx hZ e1 Ar3 (j := (0 : Int32)) (inb_of S3 ⟨by decide, by decide⟩) (g := (mkF m 8 #[.val (.int p0), .val (.int p1), .val (.int p2), .val (.int p3), .unset, .unset, .unset, .unset, .unset, .unset] [(.int (58 : Int32)), (.int (0 : Int32)), (.ref b1), (.ref b1)])) rfl rfl (hb hby at_8)
  have f4 : Arv Z h3 b1 k1 .int (33 : Int32) [(.int (58 : Int32)), (.int (0 : Int32)), (.int (0 : Int32)), (.int (0 : Int32)), (.int (0 : Int32)), (.int (0 : Int32)), (.int (0 : Int32)), (.int (0 : Int32)), (.int (0 : Int32)), (.int (0 : Int32)), (.int (0 : Int32)), (.int (0 : Int32)), (.int (0 : Int32)), (.int (0 : Int32)), (.int (0 : Int32)), (.int (0 : Int32)), (.int (0 : Int32)), (.int (0 : Int32)), (.int (0 : Int32)), (.int (0 : Int32)), (.int (0 : Int32)), (.int (0 : Int32)), (.int (0 : Int32)), (.int (0 : Int32)), (.int (0 : Int32)), (.int (0 : Int32)), (.int (0 : Int32)), (.int (0 : Int32)), (.int (0 : Int32)), (.int (0 : Int32)), (.int (0 : Int32)), (.int (0 : Int32)), (.int (0 : Int32))] (.int (0 : Int32)) := Arv.set Ar3 q3 S3 M3 H3 G3 rfl W3 0 rfl (Nat.le_of_ble_eq_true rfl)
  have Zs3 : n0 ≤ h3.size := by rw [W3.size]; exact Zs1
  have N3 := Fr.snoc X3 N0 gn_b1
  refine own_by st3 ?_
  show own_Go p.tables e below (T3.setTop (mkF m 9 #[.val (.int p0), .val (.int p1), .val (.int p2), .val (.int p3), .unset, .unset, .unset, .unset, .unset, .unset] [(.ref b1)])) _
  refine own_by (fun _ kt => XS.dup X3.here hx rfl (hb hby at_9) rfl rfl kt) ?_
  show own_Go p.tables e below (T3.setTop (mkF m 10 #[.val (.int p0), .val (.int p1), .val (.int p2), .val (.int p3), .unset, .unset, .unset, .unset, .unset, .unset] [(.ref b1), (.ref b1)])) _
  refine own_by (fun _ kt => XS.iconst X3.here hx rfl (hb hby at_10) kt) ?_
  show own_Go p.tables e below (T3.setTop (mkF m 11 #[.val (.int p0), .val (.int p1), .val (.int p2), .val (.int p3), .unset, .unset, .unset, .unset, .unset, .unset] [(.int (1 : Int32)), (.ref b1), (.ref b1)])) _
  refine own_by (fun _ kt => XS.bipush X3.here hx rfl (hb hby at_11) kt) ?_
  show own_Go p.tables e below (T3.setTop (mkF m 13 #[.val (.int p0), .val (.int p1), .val (.int p2), .val (.int p3), .unset, .unset, .unset, .unset, .unset, .unset] [(.int (65 : Int32)), (.int (1 : Int32)), (.ref b1), (.ref b1)])) _
  obtain ⟨cl5, Ar5, q5, S5, M5, H5, G5⟩ := f4
  obtain ⟨T5, h5, X5, e5, W5, st5⟩ := stI X3 hx hZ e3 Ar5 (j := (1 : Int32)) (inb_of S5 ⟨by decide, by decide⟩) (g := (mkF m 13 #[.val (.int p0), .val (.int p1), .val (.int p2), .val (.int p3), .unset, .unset, .unset, .unset, .unset, .unset] [(.int (65 : Int32)), (.int (1 : Int32)), (.ref b1), (.ref b1)])) rfl rfl (hb hby at_13)
  have f6 : Arv Z h5 b1 k1 .int (33 : Int32) [(.int (58 : Int32)), (.int (65 : Int32)), (.int (0 : Int32)), (.int (0 : Int32)), (.int (0 : Int32)), (.int (0 : Int32)), (.int (0 : Int32)), (.int (0 : Int32)), (.int (0 : Int32)), (.int (0 : Int32)), (.int (0 : Int32)), (.int (0 : Int32)), (.int (0 : Int32)), (.int (0 : Int32)), (.int (0 : Int32)), (.int (0 : Int32)), (.int (0 : Int32)), (.int (0 : Int32)), (.int (0 : Int32)), (.int (0 : Int32)), (.int (0 : Int32)), (.int (0 : Int32)), (.int (0 : Int32)), (.int (0 : Int32)), (.int (0 : Int32)), (.int (0 : Int32)), (.int (0 : Int32)), (.int (0 : Int32)), (.int (0 : Int32)), (.int (0 : Int32)), (.int (0 : Int32)), (.int (0 : Int32)), (.int (0 : Int32))] (.int (0 : Int32)) := Arv.set Ar5 q5 S5 M5 H5 G5 rfl W5 1 rfl (Nat.le_of_ble_eq_true rfl)
  have Zs5 : n0 ≤ h5.size := by rw [W5.size]; exact Zs3
  have N5 := Fr.snoc X5 N3 gn_b1
  refine own_by st5 ?_
  show own_Go p.tables e below (T5.setTop (mkF m 14 #[.val (.int p0), .val (.int p1), .val (.int p2), .val (.int p3), .unset, .unset, .unset, .unset, .unset, .unset] [(.ref b1)])) _
  refine own_by (fun _ kt => XS.dup X5.here hx rfl (hb hby at_14) rfl rfl kt) ?_
  show own_Go p.tables e below (T5.setTop (mkF m 15 #[.val (.int p0), .val (.int p1), .val (.int p2), .val (.int p3), .unset, .unset, .unset, .unset, .unset, .unset] [(.ref b1), (.ref b1)])) _
  refine own_by (fun _ kt => XS.iconst X5.here hx rfl (hb hby at_15) kt) ?_
  show own_Go p.tables e below (T5.setTop (mkF m 16 #[.val (.int p0), .val (.int p1), .val (.int p2), .val (.int p3), .unset, .unset, .unset, .unset, .unset, .unset] [(.int (2 : Int32)), (.ref b1), (.ref b1)])) _
  refine own_by (fun _ kt => XS.bipush X5.here hx rfl (hb hby at_16) kt) ?_
  show own_Go p.tables e below (T5.setTop (mkF m 18 #[.val (.int p0), .val (.int p1), .val (.int p2), .val (.int p3), .unset, .unset, .unset, .unset, .unset, .unset] [(.int (90 : Int32)), (.int (2 : Int32)), (.ref b1), (.ref b1)])) _
  obtain ⟨cl7, Ar7, q7, S7, M7, H7, G7⟩ := f6
  obtain ⟨T7, h7, X7, e7, W7, st7⟩ := stI X5 hx hZ e5 Ar7 (j := (2 : Int32)) (inb_of S7 ⟨by decide, by decide⟩) (g := (mkF m 18 #[.val (.int p0), .val (.int p1), .val (.int p2), .val (.int p3), .unset, .unset, .unset, .unset, .unset, .unset] [(.int (90 : Int32)), (.int (2 : Int32)), (.ref b1), (.ref b1)])) rfl rfl (hb hby at_18)
  have f8 : Arv Z h7 b1 k1 .int (33 : Int32) [(.int (58 : Int32)), (.int (65 : Int32)), (.int (90 : Int32)), (.int (0 : Int32)), (.int (0 : Int32)), (.int (0 : Int32)), (.int (0 : Int32)), (.int (0 : Int32)), (.int (0 : Int32)), (.int (0 : Int32)), (.int (0 : Int32)), (.int (0 : Int32)), (.int (0 : Int32)), (.int (0 : Int32)), (.int (0 : Int32)), (.int (0 : Int32)), (.int (0 : Int32)), (.int (0 : Int32)), (.int (0 : Int32)), (.int (0 : Int32)), (.int (0 : Int32)), (.int (0 : Int32)), (.int (0 : Int32)), (.int (0 : Int32)), (.int (0 : Int32)), (.int (0 : Int32)), (.int (0 : Int32)), (.int (0 : Int32)), (.int (0 : Int32)), (.int (0 : Int32)), (.int (0 : Int32)), (.int (0 : Int32)), (.int (0 : Int32))] (.int (0 : Int32)) := Arv.set Ar7 q7 S7 M7 H7 G7 rfl W7 2 rfl (Nat.le_of_ble_eq_true rfl)
  have Zs7 : n0 ≤ h7.size := by rw [W7.size]; exact Zs5
  have N7 := Fr.snoc X7 N5 gn_b1
  refine own_by st7 ?_
  show own_Go p.tables e below (T7.setTop (mkF m 19 #[.val (.int p0), .val (.int p1), .val (.int p2), .val (.int p3), .unset, .unset, .unset, .unset, .unset, .unset] [(.ref b1)])) _
  refine own_by (fun _ kt => XS.dup X7.here hx rfl (hb hby at_19) rfl rfl kt) ?_
  show own_Go p.tables e below (T7.setTop (mkF m 20 #[.val (.int p0), .val (.int p1), .val (.int p2), .val (.int p3), .unset, .unset, .unset, .unset, .unset, .unset] [(.ref b1), (.ref b1)])) _
  refine own_by (fun _ kt => XS.iconst X7.here hx rfl (hb hby at_20) kt) ?_
  show own_Go p.tables e below (T7.setTop (mkF m 21 #[.val (.int p0), .val (.int p1), .val (.int p2), .val (.int p3), .unset, .unset, .unset, .unset, .unset, .unset] [(.int (3 : Int32)), (.ref b1), (.ref b1)])) _
  refine own_by (fun _ kt => XS.bipush X7.here hx rfl (hb hby at_21) kt) ?_
  show own_Go p.tables e below (T7.setTop (mkF m 23 #[.val (.int p0), .val (.int p1), .val (.int p2), .val (.int p3), .unset, .unset, .unset, .unset, .unset, .unset] [(.int (95 : Int32)), (.int (3 : Int32)), (.ref b1), (.ref b1)])) _
  obtain ⟨cl9, Ar9, q9, S9, M9, H9, G9⟩ := f8
  obtain ⟨T9, h9, X9, e9, W9, st9⟩ := stI X7 hx hZ e7 Ar9 (j := (3 : Int32)) (inb_of S9 ⟨by decide, by decide⟩) (g := (mkF m 23 #[.val (.int p0), .val (.int p1), .val (.int p2), .val (.int p3), .unset, .unset, .unset, .unset, .unset, .unset] [(.int (95 : Int32)), (.int (3 : Int32)), (.ref b1), (.ref b1)])) rfl rfl (hb hby at_23)
  have f10 : Arv Z h9 b1 k1 .int (33 : Int32) [(.int (58 : Int32)), (.int (65 : Int32)), (.int (90 : Int32)), (.int (95 : Int32)), (.int (0 : Int32)), (.int (0 : Int32)), (.int (0 : Int32)), (.int (0 : Int32)), (.int (0 : Int32)), (.int (0 : Int32)), (.int (0 : Int32)), (.int (0 : Int32)), (.int (0 : Int32)), (.int (0 : Int32)), (.int (0 : Int32)), (.int (0 : Int32)), (.int (0 : Int32)), (.int (0 : Int32)), (.int (0 : Int32)), (.int (0 : Int32)), (.int (0 : Int32)), (.int (0 : Int32)), (.int (0 : Int32)), (.int (0 : Int32)), (.int (0 : Int32)), (.int (0 : Int32)), (.int (0 : Int32)), (.int (0 : Int32)), (.int (0 : Int32)), (.int (0 : Int32)), (.int (0 : Int32)), (.int (0 : Int32)), (.int (0 : Int32))] (.int (0 : Int32)) := Arv.set Ar9 q9 S9 M9 H9 G9 rfl W9 3 rfl (Nat.le_of_ble_eq_true rfl)
  have Zs9 : n0 ≤ h9.size := by rw [W9.size]; exact Zs7
  have N9 := Fr.snoc X9 N7 gn_b1
  refine own_by st9 ?_
  show own_Go p.tables e below (T9.setTop (mkF m 24 #[.val (.int p0), .val (.int p1), .val (.int p2), .val (.int p3), .unset, .unset, .unset, .unset, .unset, .unset] [(.ref b1)])) _
  refine own_by (fun _ kt => XS.dup X9.here hx rfl (hb hby at_24) rfl rfl kt) ?_
  show own_Go p.tables e below (T9.setTop (mkF m 25 #[.val (.int p0), .val (.int p1), .val (.int p2), .val (.int p3), .unset, .unset, .unset, .unset, .unset, .unset] [(.ref b1), (.ref b1)])) _
  refine own_by (fun _ kt => XS.iconst X9.here hx rfl (hb hby at_25) kt) ?_
  show own_Go p.tables e below (T9.setTop (mkF m 26 #[.val (.int p0), .val (.int p1), .val (.int p2), .val (.int p3), .unset, .unset, .unset, .unset, .unset, .unset] [(.int (4 : Int32)), (.ref b1), (.ref b1)])) _
  refine own_by (fun _ kt => XS.bipush X9.here hx rfl (hb hby at_26) kt) ?_
  show own_Go p.tables e below (T9.setTop (mkF m 28 #[.val (.int p0), .val (.int p1), .val (.int p2), .val (.int p3), .unset, .unset, .unset, .unset, .unset, .unset] [(.int (97 : Int32)), (.int (4 : Int32)), (.ref b1), (.ref b1)])) _
  obtain ⟨cl11, Ar11, q11, S11, M11, H11, G11⟩ := f10
  obtain ⟨T11, h11, X11, e11, W11, st11⟩ := stI X9 hx hZ e9 Ar11 (j := (4 : Int32)) (inb_of S11 ⟨by decide, by decide⟩) (g := (mkF m 28 #[.val (.int p0), .val (.int p1), .val (.int p2), .val (.int p3), .unset, .unset, .unset, .unset, .unset, .unset] [(.int (97 : Int32)), (.int (4 : Int32)), (.ref b1), (.ref b1)])) rfl rfl (hb hby at_28)
  have f12 : Arv Z h11 b1 k1 .int (33 : Int32) [(.int (58 : Int32)), (.int (65 : Int32)), (.int (90 : Int32)), (.int (95 : Int32)), (.int (97 : Int32)), (.int (0 : Int32)), (.int (0 : Int32)), (.int (0 : Int32)), (.int (0 : Int32)), (.int (0 : Int32)), (.int (0 : Int32)), (.int (0 : Int32)), (.int (0 : Int32)), (.int (0 : Int32)), (.int (0 : Int32)), (.int (0 : Int32)), (.int (0 : Int32)), (.int (0 : Int32)), (.int (0 : Int32)), (.int (0 : Int32)), (.int (0 : Int32)), (.int (0 : Int32)), (.int (0 : Int32)), (.int (0 : Int32)), (.int (0 : Int32)), (.int (0 : Int32)), (.int (0 : Int32)), (.int (0 : Int32)), (.int (0 : Int32)), (.int (0 : Int32)), (.int (0 : Int32)), (.int (0 : Int32)), (.int (0 : Int32))] (.int (0 : Int32)) := Arv.set Ar11 q11 S11 M11 H11 G11 rfl W11 4 rfl (Nat.le_of_ble_eq_true rfl)
  have Zs11 : n0 ≤ h11.size := by rw [W11.size]; exact Zs9
  have N11 := Fr.snoc X11 N9 gn_b1
  refine own_by st11 ?_
  show own_Go p.tables e below (T11.setTop (mkF m 29 #[.val (.int p0), .val (.int p1), .val (.int p2), .val (.int p3), .unset, .unset, .unset, .unset, .unset, .unset] [(.ref b1)])) _
  refine own_by (fun _ kt => XS.dup X11.here hx rfl (hb hby at_29) rfl rfl kt) ?_
  show own_Go p.tables e below (T11.setTop (mkF m 30 #[.val (.int p0), .val (.int p1), .val (.int p2), .val (.int p3), .unset, .unset, .unset, .unset, .unset, .unset] [(.ref b1), (.ref b1)])) _
  refine own_by (fun _ kt => XS.iconst X11.here hx rfl (hb hby at_30) kt) ?_
  show own_Go p.tables e below (T11.setTop (mkF m 31 #[.val (.int p0), .val (.int p1), .val (.int p2), .val (.int p3), .unset, .unset, .unset, .unset, .unset, .unset] [(.int (5 : Int32)), (.ref b1), (.ref b1)])) _
  refine own_by (fun _ kt => XS.bipush X11.here hx rfl (hb hby at_31) kt) ?_
  show own_Go p.tables e below (T11.setTop (mkF m 33 #[.val (.int p0), .val (.int p1), .val (.int p2), .val (.int p3), .unset, .unset, .unset, .unset, .unset, .unset] [(.int (122 : Int32)), (.int (5 : Int32)), (.ref b1), (.ref b1)])) _
  obtain ⟨cl13, Ar13, q13, S13, M13, H13, G13⟩ := f12
  obtain ⟨T13, h13, X13, e13, W13, st13⟩ := stI X11 hx hZ e11 Ar13 (j := (5 : Int32)) (inb_of S13 ⟨by decide, by decide⟩) (g := (mkF m 33 #[.val (.int p0), .val (.int p1), .val (.int p2), .val (.int p3), .unset, .unset, .unset, .unset, .unset, .unset] [(.int (122 : Int32)), (.int (5 : Int32)), (.ref b1), (.ref b1)])) rfl rfl (hb hby at_33)
  have f14 : Arv Z h13 b1 k1 .int (33 : Int32) [(.int (58 : Int32)), (.int (65 : Int32)), (.int (90 : Int32)), (.int (95 : Int32)), (.int (97 : Int32)), (.int (122 : Int32)), (.int (0 : Int32)), (.int (0 : Int32)), (.int (0 : Int32)), (.int (0 : Int32)), (.int (0 : Int32)), (.int (0 : Int32)), (.int (0 : Int32)), (.int (0 : Int32)), (.int (0 : Int32)), (.int (0 : Int32)), (.int (0 : Int32)), (.int (0 : Int32)), (.int (0 : Int32)), (.int (0 : Int32)), (.int (0 : Int32)), (.int (0 : Int32)), (.int (0 : Int32)), (.int (0 : Int32)), (.int (0 : Int32)), (.int (0 : Int32)), (.int (0 : Int32)), (.int (0 : Int32)), (.int (0 : Int32)), (.int (0 : Int32)), (.int (0 : Int32)), (.int (0 : Int32)), (.int (0 : Int32))] (.int (0 : Int32)) := Arv.set Ar13 q13 S13 M13 H13 G13 rfl W13 5 rfl (Nat.le_of_ble_eq_true rfl)
  have Zs13 : n0 ≤ h13.size := by rw [W13.size]; exact Zs11
  have N13 := Fr.snoc X13 N11 gn_b1
  refine own_by st13 ?_
  show own_Go p.tables e below (T13.setTop (mkF m 34 #[.val (.int p0), .val (.int p1), .val (.int p2), .val (.int p3), .unset, .unset, .unset, .unset, .unset, .unset] [(.ref b1)])) _
  refine own_by (fun _ kt => XS.dup X13.here hx rfl (hb hby at_34) rfl rfl kt) ?_
  show own_Go p.tables e below (T13.setTop (mkF m 35 #[.val (.int p0), .val (.int p1), .val (.int p2), .val (.int p3), .unset, .unset, .unset, .unset, .unset, .unset] [(.ref b1), (.ref b1)])) _
  refine own_by (fun _ kt => XS.bipush X13.here hx rfl (hb hby at_35) kt) ?_
  show own_Go p.tables e below (T13.setTop (mkF m 37 #[.val (.int p0), .val (.int p1), .val (.int p2), .val (.int p3), .unset, .unset, .unset, .unset, .unset, .unset] [(.int (6 : Int32)), (.ref b1), (.ref b1)])) _
  refine own_by (fun _ kt => XS.sipush X13.here hx rfl (hb hby at_37) kt) ?_
  show own_Go p.tables e below (T13.setTop (mkF m 40 #[.val (.int p0), .val (.int p1), .val (.int p2), .val (.int p3), .unset, .unset, .unset, .unset, .unset, .unset] [(.int (192 : Int32)), (.int (6 : Int32)), (.ref b1), (.ref b1)])) _
  obtain ⟨cl15, Ar15, q15, S15, M15, H15, G15⟩ := f14
  obtain ⟨T15, h15, X15, e15, W15, st15⟩ := stI X13 hx hZ e13 Ar15 (j := (6 : Int32)) (inb_of S15 ⟨by decide, by decide⟩) (g := (mkF m 40 #[.val (.int p0), .val (.int p1), .val (.int p2), .val (.int p3), .unset, .unset, .unset, .unset, .unset, .unset] [(.int (192 : Int32)), (.int (6 : Int32)), (.ref b1), (.ref b1)])) rfl rfl (hb hby at_40)
  have f16 : Arv Z h15 b1 k1 .int (33 : Int32) [(.int (58 : Int32)), (.int (65 : Int32)), (.int (90 : Int32)), (.int (95 : Int32)), (.int (97 : Int32)), (.int (122 : Int32)), (.int (192 : Int32)), (.int (0 : Int32)), (.int (0 : Int32)), (.int (0 : Int32)), (.int (0 : Int32)), (.int (0 : Int32)), (.int (0 : Int32)), (.int (0 : Int32)), (.int (0 : Int32)), (.int (0 : Int32)), (.int (0 : Int32)), (.int (0 : Int32)), (.int (0 : Int32)), (.int (0 : Int32)), (.int (0 : Int32)), (.int (0 : Int32)), (.int (0 : Int32)), (.int (0 : Int32)), (.int (0 : Int32)), (.int (0 : Int32)), (.int (0 : Int32)), (.int (0 : Int32)), (.int (0 : Int32)), (.int (0 : Int32)), (.int (0 : Int32)), (.int (0 : Int32)), (.int (0 : Int32))] (.int (0 : Int32)) := Arv.set Ar15 q15 S15 M15 H15 G15 rfl W15 6 rfl (Nat.le_of_ble_eq_true rfl)
  have Zs15 : n0 ≤ h15.size := by rw [W15.size]; exact Zs13
  have N15 := Fr.snoc X15 N13 gn_b1
  refine own_by st15 ?_
  show own_Go p.tables e below (T15.setTop (mkF m 41 #[.val (.int p0), .val (.int p1), .val (.int p2), .val (.int p3), .unset, .unset, .unset, .unset, .unset, .unset] [(.ref b1)])) _
  refine own_by (fun _ kt => XS.dup X15.here hx rfl (hb hby at_41) rfl rfl kt) ?_
  show own_Go p.tables e below (T15.setTop (mkF m 42 #[.val (.int p0), .val (.int p1), .val (.int p2), .val (.int p3), .unset, .unset, .unset, .unset, .unset, .unset] [(.ref b1), (.ref b1)])) _
  refine own_by (fun _ kt => XS.bipush X15.here hx rfl (hb hby at_42) kt) ?_
  show own_Go p.tables e below (T15.setTop (mkF m 44 #[.val (.int p0), .val (.int p1), .val (.int p2), .val (.int p3), .unset, .unset, .unset, .unset, .unset, .unset] [(.int (7 : Int32)), (.ref b1), (.ref b1)])) _
  refine own_by (fun _ kt => XS.sipush X15.here hx rfl (hb hby at_44) kt) ?_
  show own_Go p.tables e below (T15.setTop (mkF m 47 #[.val (.int p0), .val (.int p1), .val (.int p2), .val (.int p3), .unset, .unset, .unset, .unset, .unset, .unset] [(.int (214 : Int32)), (.int (7 : Int32)), (.ref b1), (.ref b1)])) _
  obtain ⟨cl17, Ar17, q17, S17, M17, H17, G17⟩ := f16
  obtain ⟨T17, h17, X17, e17, W17, st17⟩ := stI X15 hx hZ e15 Ar17 (j := (7 : Int32)) (inb_of S17 ⟨by decide, by decide⟩) (g := (mkF m 47 #[.val (.int p0), .val (.int p1), .val (.int p2), .val (.int p3), .unset, .unset, .unset, .unset, .unset, .unset] [(.int (214 : Int32)), (.int (7 : Int32)), (.ref b1), (.ref b1)])) rfl rfl (hb hby at_47)
  have f18 : Arv Z h17 b1 k1 .int (33 : Int32) [(.int (58 : Int32)), (.int (65 : Int32)), (.int (90 : Int32)), (.int (95 : Int32)), (.int (97 : Int32)), (.int (122 : Int32)), (.int (192 : Int32)), (.int (214 : Int32)), (.int (0 : Int32)), (.int (0 : Int32)), (.int (0 : Int32)), (.int (0 : Int32)), (.int (0 : Int32)), (.int (0 : Int32)), (.int (0 : Int32)), (.int (0 : Int32)), (.int (0 : Int32)), (.int (0 : Int32)), (.int (0 : Int32)), (.int (0 : Int32)), (.int (0 : Int32)), (.int (0 : Int32)), (.int (0 : Int32)), (.int (0 : Int32)), (.int (0 : Int32)), (.int (0 : Int32)), (.int (0 : Int32)), (.int (0 : Int32)), (.int (0 : Int32)), (.int (0 : Int32)), (.int (0 : Int32)), (.int (0 : Int32)), (.int (0 : Int32))] (.int (0 : Int32)) := Arv.set Ar17 q17 S17 M17 H17 G17 rfl W17 7 rfl (Nat.le_of_ble_eq_true rfl)
  have Zs17 : n0 ≤ h17.size := by rw [W17.size]; exact Zs15
  have N17 := Fr.snoc X17 N15 gn_b1
  refine own_by st17 ?_
  show own_Go p.tables e below (T17.setTop (mkF m 48 #[.val (.int p0), .val (.int p1), .val (.int p2), .val (.int p3), .unset, .unset, .unset, .unset, .unset, .unset] [(.ref b1)])) _
  refine own_by (fun _ kt => XS.dup X17.here hx rfl (hb hby at_48) rfl rfl kt) ?_
  show own_Go p.tables e below (T17.setTop (mkF m 49 #[.val (.int p0), .val (.int p1), .val (.int p2), .val (.int p3), .unset, .unset, .unset, .unset, .unset, .unset] [(.ref b1), (.ref b1)])) _
  refine own_by (fun _ kt => XS.bipush X17.here hx rfl (hb hby at_49) kt) ?_
  show own_Go p.tables e below (T17.setTop (mkF m 51 #[.val (.int p0), .val (.int p1), .val (.int p2), .val (.int p3), .unset, .unset, .unset, .unset, .unset, .unset] [(.int (8 : Int32)), (.ref b1), (.ref b1)])) _
  refine own_by (fun _ kt => XS.sipush X17.here hx rfl (hb hby at_51) kt) ?_
  show own_Go p.tables e below (T17.setTop (mkF m 54 #[.val (.int p0), .val (.int p1), .val (.int p2), .val (.int p3), .unset, .unset, .unset, .unset, .unset, .unset] [(.int (216 : Int32)), (.int (8 : Int32)), (.ref b1), (.ref b1)])) _
  obtain ⟨cl19, Ar19, q19, S19, M19, H19, G19⟩ := f18
  obtain ⟨T19, h19, X19, e19, W19, st19⟩ := stI X17 hx hZ e17 Ar19 (j := (8 : Int32)) (inb_of S19 ⟨by decide, by decide⟩) (g := (mkF m 54 #[.val (.int p0), .val (.int p1), .val (.int p2), .val (.int p3), .unset, .unset, .unset, .unset, .unset, .unset] [(.int (216 : Int32)), (.int (8 : Int32)), (.ref b1), (.ref b1)])) rfl rfl (hb hby at_54)
  have f20 : Arv Z h19 b1 k1 .int (33 : Int32) [(.int (58 : Int32)), (.int (65 : Int32)), (.int (90 : Int32)), (.int (95 : Int32)), (.int (97 : Int32)), (.int (122 : Int32)), (.int (192 : Int32)), (.int (214 : Int32)), (.int (216 : Int32)), (.int (0 : Int32)), (.int (0 : Int32)), (.int (0 : Int32)), (.int (0 : Int32)), (.int (0 : Int32)), (.int (0 : Int32)), (.int (0 : Int32)), (.int (0 : Int32)), (.int (0 : Int32)), (.int (0 : Int32)), (.int (0 : Int32)), (.int (0 : Int32)), (.int (0 : Int32)), (.int (0 : Int32)), (.int (0 : Int32)), (.int (0 : Int32)), (.int (0 : Int32)), (.int (0 : Int32)), (.int (0 : Int32)), (.int (0 : Int32)), (.int (0 : Int32)), (.int (0 : Int32)), (.int (0 : Int32)), (.int (0 : Int32))] (.int (0 : Int32)) := Arv.set Ar19 q19 S19 M19 H19 G19 rfl W19 8 rfl (Nat.le_of_ble_eq_true rfl)
  have Zs19 : n0 ≤ h19.size := by rw [W19.size]; exact Zs17
  have N19 := Fr.snoc X19 N17 gn_b1
  refine own_by st19 ?_
  show own_Go p.tables e below (T19.setTop (mkF m 55 #[.val (.int p0), .val (.int p1), .val (.int p2), .val (.int p3), .unset, .unset, .unset, .unset, .unset, .unset] [(.ref b1)])) _
  refine own_by (fun _ kt => XS.dup X19.here hx rfl (hb hby at_55) rfl rfl kt) ?_
  show own_Go p.tables e below (T19.setTop (mkF m 56 #[.val (.int p0), .val (.int p1), .val (.int p2), .val (.int p3), .unset, .unset, .unset, .unset, .unset, .unset] [(.ref b1), (.ref b1)])) _
  refine own_by (fun _ kt => XS.bipush X19.here hx rfl (hb hby at_56) kt) ?_
  show own_Go p.tables e below (T19.setTop (mkF m 58 #[.val (.int p0), .val (.int p1), .val (.int p2), .val (.int p3), .unset, .unset, .unset, .unset, .unset, .unset] [(.int (9 : Int32)), (.ref b1), (.ref b1)])) _
  refine own_by (fun _ kt => XS.sipush X19.here hx rfl (hb hby at_58) kt) ?_
  show own_Go p.tables e below (T19.setTop (mkF m 61 #[.val (.int p0), .val (.int p1), .val (.int p2), .val (.int p3), .unset, .unset, .unset, .unset, .unset, .unset] [(.int (246 : Int32)), (.int (9 : Int32)), (.ref b1), (.ref b1)])) _
  obtain ⟨cl21, Ar21, q21, S21, M21, H21, G21⟩ := f20
  obtain ⟨T21, h21, X21, e21, W21, st21⟩ := stI X19 hx hZ e19 Ar21 (j := (9 : Int32)) (inb_of S21 ⟨by decide, by decide⟩) (g := (mkF m 61 #[.val (.int p0), .val (.int p1), .val (.int p2), .val (.int p3), .unset, .unset, .unset, .unset, .unset, .unset] [(.int (246 : Int32)), (.int (9 : Int32)), (.ref b1), (.ref b1)])) rfl rfl (hb hby at_61)
  have f22 : Arv Z h21 b1 k1 .int (33 : Int32) [(.int (58 : Int32)), (.int (65 : Int32)), (.int (90 : Int32)), (.int (95 : Int32)), (.int (97 : Int32)), (.int (122 : Int32)), (.int (192 : Int32)), (.int (214 : Int32)), (.int (216 : Int32)), (.int (246 : Int32)), (.int (0 : Int32)), (.int (0 : Int32)), (.int (0 : Int32)), (.int (0 : Int32)), (.int (0 : Int32)), (.int (0 : Int32)), (.int (0 : Int32)), (.int (0 : Int32)), (.int (0 : Int32)), (.int (0 : Int32)), (.int (0 : Int32)), (.int (0 : Int32)), (.int (0 : Int32)), (.int (0 : Int32)), (.int (0 : Int32)), (.int (0 : Int32)), (.int (0 : Int32)), (.int (0 : Int32)), (.int (0 : Int32)), (.int (0 : Int32)), (.int (0 : Int32)), (.int (0 : Int32)), (.int (0 : Int32))] (.int (0 : Int32)) := Arv.set Ar21 q21 S21 M21 H21 G21 rfl W21 9 rfl (Nat.le_of_ble_eq_true rfl)
  have Zs21 : n0 ≤ h21.size := by rw [W21.size]; exact Zs19
  have N21 := Fr.snoc X21 N19 gn_b1
  refine own_by st21 ?_
  show own_Go p.tables e below (T21.setTop (mkF m 62 #[.val (.int p0), .val (.int p1), .val (.int p2), .val (.int p3), .unset, .unset, .unset, .unset, .unset, .unset] [(.ref b1)])) _
  refine own_by (fun _ kt => XS.dup X21.here hx rfl (hb hby at_62) rfl rfl kt) ?_
  show own_Go p.tables e below (T21.setTop (mkF m 63 #[.val (.int p0), .val (.int p1), .val (.int p2), .val (.int p3), .unset, .unset, .unset, .unset, .unset, .unset] [(.ref b1), (.ref b1)])) _
  refine own_by (fun _ kt => XS.bipush X21.here hx rfl (hb hby at_63) kt) ?_
  show own_Go p.tables e below (T21.setTop (mkF m 65 #[.val (.int p0), .val (.int p1), .val (.int p2), .val (.int p3), .unset, .unset, .unset, .unset, .unset, .unset] [(.int (10 : Int32)), (.ref b1), (.ref b1)])) _
  refine own_by (fun _ kt => XS.sipush X21.here hx rfl (hb hby at_65) kt) ?_
  show own_Go p.tables e below (T21.setTop (mkF m 68 #[.val (.int p0), .val (.int p1), .val (.int p2), .val (.int p3), .unset, .unset, .unset, .unset, .unset, .unset] [(.int (248 : Int32)), (.int (10 : Int32)), (.ref b1), (.ref b1)])) _
  obtain ⟨cl23, Ar23, q23, S23, M23, H23, G23⟩ := f22
  obtain ⟨T23, h23, X23, e23, W23, st23⟩ := stI X21 hx hZ e21 Ar23 (j := (10 : Int32)) (inb_of S23 ⟨by decide, by decide⟩) (g := (mkF m 68 #[.val (.int p0), .val (.int p1), .val (.int p2), .val (.int p3), .unset, .unset, .unset, .unset, .unset, .unset] [(.int (248 : Int32)), (.int (10 : Int32)), (.ref b1), (.ref b1)])) rfl rfl (hb hby at_68)
  have f24 : Arv Z h23 b1 k1 .int (33 : Int32) [(.int (58 : Int32)), (.int (65 : Int32)), (.int (90 : Int32)), (.int (95 : Int32)), (.int (97 : Int32)), (.int (122 : Int32)), (.int (192 : Int32)), (.int (214 : Int32)), (.int (216 : Int32)), (.int (246 : Int32)), (.int (248 : Int32)), (.int (0 : Int32)), (.int (0 : Int32)), (.int (0 : Int32)), (.int (0 : Int32)), (.int (0 : Int32)), (.int (0 : Int32)), (.int (0 : Int32)), (.int (0 : Int32)), (.int (0 : Int32)), (.int (0 : Int32)), (.int (0 : Int32)), (.int (0 : Int32)), (.int (0 : Int32)), (.int (0 : Int32)), (.int (0 : Int32)), (.int (0 : Int32)), (.int (0 : Int32)), (.int (0 : Int32)), (.int (0 : Int32)), (.int (0 : Int32)), (.int (0 : Int32)), (.int (0 : Int32))] (.int (0 : Int32)) := Arv.set Ar23 q23 S23 M23 H23 G23 rfl W23 10 rfl (Nat.le_of_ble_eq_true rfl)
  have Zs23 : n0 ≤ h23.size := by rw [W23.size]; exact Zs21
  have N23 := Fr.snoc X23 N21 gn_b1
  refine own_by st23 ?_
  show own_Go p.tables e below (T23.setTop (mkF m 69 #[.val (.int p0), .val (.int p1), .val (.int p2), .val (.int p3), .unset, .unset, .unset, .unset, .unset, .unset] [(.ref b1)])) _
  refine own_by (fun _ kt => XS.dup X23.here hx rfl (hb hby at_69) rfl rfl kt) ?_
  show own_Go p.tables e below (T23.setTop (mkF m 70 #[.val (.int p0), .val (.int p1), .val (.int p2), .val (.int p3), .unset, .unset, .unset, .unset, .unset, .unset] [(.ref b1), (.ref b1)])) _
  refine own_by (fun _ kt => XS.bipush X23.here hx rfl (hb hby at_70) kt) ?_
  show own_Go p.tables e below (T23.setTop (mkF m 72 #[.val (.int p0), .val (.int p1), .val (.int p2), .val (.int p3), .unset, .unset, .unset, .unset, .unset, .unset] [(.int (11 : Int32)), (.ref b1), (.ref b1)])) _
  refine own_by (fun _ kt => XS.sipush X23.here hx rfl (hb hby at_72) kt) ?_
  show own_Go p.tables e below (T23.setTop (mkF m 75 #[.val (.int p0), .val (.int p1), .val (.int p2), .val (.int p3), .unset, .unset, .unset, .unset, .unset, .unset] [(.int (767 : Int32)), (.int (11 : Int32)), (.ref b1), (.ref b1)])) _
  obtain ⟨cl25, Ar25, q25, S25, M25, H25, G25⟩ := f24
  obtain ⟨T25, h25, X25, e25, W25, st25⟩ := stI X23 hx hZ e23 Ar25 (j := (11 : Int32)) (inb_of S25 ⟨by decide, by decide⟩) (g := (mkF m 75 #[.val (.int p0), .val (.int p1), .val (.int p2), .val (.int p3), .unset, .unset, .unset, .unset, .unset, .unset] [(.int (767 : Int32)), (.int (11 : Int32)), (.ref b1), (.ref b1)])) rfl rfl (hb hby at_75)
  have f26 : Arv Z h25 b1 k1 .int (33 : Int32) [(.int (58 : Int32)), (.int (65 : Int32)), (.int (90 : Int32)), (.int (95 : Int32)), (.int (97 : Int32)), (.int (122 : Int32)), (.int (192 : Int32)), (.int (214 : Int32)), (.int (216 : Int32)), (.int (246 : Int32)), (.int (248 : Int32)), (.int (767 : Int32)), (.int (0 : Int32)), (.int (0 : Int32)), (.int (0 : Int32)), (.int (0 : Int32)), (.int (0 : Int32)), (.int (0 : Int32)), (.int (0 : Int32)), (.int (0 : Int32)), (.int (0 : Int32)), (.int (0 : Int32)), (.int (0 : Int32)), (.int (0 : Int32)), (.int (0 : Int32)), (.int (0 : Int32)), (.int (0 : Int32)), (.int (0 : Int32)), (.int (0 : Int32)), (.int (0 : Int32)), (.int (0 : Int32)), (.int (0 : Int32)), (.int (0 : Int32))] (.int (0 : Int32)) := Arv.set Ar25 q25 S25 M25 H25 G25 rfl W25 11 rfl (Nat.le_of_ble_eq_true rfl)
  have Zs25 : n0 ≤ h25.size := by rw [W25.size]; exact Zs23
  have N25 := Fr.snoc X25 N23 gn_b1
  refine own_by st25 ?_
  show own_Go p.tables e below (T25.setTop (mkF m 76 #[.val (.int p0), .val (.int p1), .val (.int p2), .val (.int p3), .unset, .unset, .unset, .unset, .unset, .unset] [(.ref b1)])) _
  refine own_by (fun _ kt => XS.dup X25.here hx rfl (hb hby at_76) rfl rfl kt) ?_
  show own_Go p.tables e below (T25.setTop (mkF m 77 #[.val (.int p0), .val (.int p1), .val (.int p2), .val (.int p3), .unset, .unset, .unset, .unset, .unset, .unset] [(.ref b1), (.ref b1)])) _
  refine own_by (fun _ kt => XS.bipush X25.here hx rfl (hb hby at_77) kt) ?_
  show own_Go p.tables e below (T25.setTop (mkF m 79 #[.val (.int p0), .val (.int p1), .val (.int p2), .val (.int p3), .unset, .unset, .unset, .unset, .unset, .unset] [(.int (12 : Int32)), (.ref b1), (.ref b1)])) _
  refine own_by (fun _ kt => XS.sipush X25.here hx rfl (hb hby at_79) kt) ?_
  show own_Go p.tables e below (T25.setTop (mkF m 82 #[.val (.int p0), .val (.int p1), .val (.int p2), .val (.int p3), .unset, .unset, .unset, .unset, .unset, .unset] [(.int (880 : Int32)), (.int (12 : Int32)), (.ref b1), (.ref b1)])) _
  obtain ⟨cl27, Ar27, q27, S27, M27, H27, G27⟩ := f26
  obtain ⟨T27, h27, X27, e27, W27, st27⟩ := stI X25 hx hZ e25 Ar27 (j := (12 : Int32)) (inb_of S27 ⟨by decide, by decide⟩) (g := (mkF m 82 #[.val (.int p0), .val (.int p1), .val (.int p2), .val (.int p3), .unset, .unset, .unset, .unset, .unset, .unset] [(.int (880 : Int32)), (.int (12 : Int32)), (.ref b1), (.ref b1)])) rfl rfl (hb hby at_82)
  have f28 : Arv Z h27 b1 k1 .int (33 : Int32) [(.int (58 : Int32)), (.int (65 : Int32)), (.int (90 : Int32)), (.int (95 : Int32)), (.int (97 : Int32)), (.int (122 : Int32)), (.int (192 : Int32)), (.int (214 : Int32)), (.int (216 : Int32)), (.int (246 : Int32)), (.int (248 : Int32)), (.int (767 : Int32)), (.int (880 : Int32)), (.int (0 : Int32)), (.int (0 : Int32)), (.int (0 : Int32)), (.int (0 : Int32)), (.int (0 : Int32)), (.int (0 : Int32)), (.int (0 : Int32)), (.int (0 : Int32)), (.int (0 : Int32)), (.int (0 : Int32)), (.int (0 : Int32)), (.int (0 : Int32)), (.int (0 : Int32)), (.int (0 : Int32)), (.int (0 : Int32)), (.int (0 : Int32)), (.int (0 : Int32)), (.int (0 : Int32)), (.int (0 : Int32)), (.int (0 : Int32))] (.int (0 : Int32)) := Arv.set Ar27 q27 S27 M27 H27 G27 rfl W27 12 rfl (Nat.le_of_ble_eq_true rfl)
  have Zs27 : n0 ≤ h27.size := by rw [W27.size]; exact Zs25
  have N27 := Fr.snoc X27 N25 gn_b1
  refine own_by st27 ?_
  show own_Go p.tables e below (T27.setTop (mkF m 83 #[.val (.int p0), .val (.int p1), .val (.int p2), .val (.int p3), .unset, .unset, .unset, .unset, .unset, .unset] [(.ref b1)])) _
  refine own_by (fun _ kt => XS.dup X27.here hx rfl (hb hby at_83) rfl rfl kt) ?_
  show own_Go p.tables e below (T27.setTop (mkF m 84 #[.val (.int p0), .val (.int p1), .val (.int p2), .val (.int p3), .unset, .unset, .unset, .unset, .unset, .unset] [(.ref b1), (.ref b1)])) _
  refine own_by (fun _ kt => XS.bipush X27.here hx rfl (hb hby at_84) kt) ?_
  show own_Go p.tables e below (T27.setTop (mkF m 86 #[.val (.int p0), .val (.int p1), .val (.int p2), .val (.int p3), .unset, .unset, .unset, .unset, .unset, .unset] [(.int (13 : Int32)), (.ref b1), (.ref b1)])) _
  refine own_by (fun _ kt => XS.sipush X27.here hx rfl (hb hby at_86) kt) ?_
  show own_Go p.tables e below (T27.setTop (mkF m 89 #[.val (.int p0), .val (.int p1), .val (.int p2), .val (.int p3), .unset, .unset, .unset, .unset, .unset, .unset] [(.int (893 : Int32)), (.int (13 : Int32)), (.ref b1), (.ref b1)])) _
  obtain ⟨cl29, Ar29, q29, S29, M29, H29, G29⟩ := f28
  obtain ⟨T29, h29, X29, e29, W29, st29⟩ := stI X27 hx hZ e27 Ar29 (j := (13 : Int32)) (inb_of S29 ⟨by decide, by decide⟩) (g := (mkF m 89 #[.val (.int p0), .val (.int p1), .val (.int p2), .val (.int p3), .unset, .unset, .unset, .unset, .unset, .unset] [(.int (893 : Int32)), (.int (13 : Int32)), (.ref b1), (.ref b1)])) rfl rfl (hb hby at_89)
  have f30 : Arv Z h29 b1 k1 .int (33 : Int32) [(.int (58 : Int32)), (.int (65 : Int32)), (.int (90 : Int32)), (.int (95 : Int32)), (.int (97 : Int32)), (.int (122 : Int32)), (.int (192 : Int32)), (.int (214 : Int32)), (.int (216 : Int32)), (.int (246 : Int32)), (.int (248 : Int32)), (.int (767 : Int32)), (.int (880 : Int32)), (.int (893 : Int32)), (.int (0 : Int32)), (.int (0 : Int32)), (.int (0 : Int32)), (.int (0 : Int32)), (.int (0 : Int32)), (.int (0 : Int32)), (.int (0 : Int32)), (.int (0 : Int32)), (.int (0 : Int32)), (.int (0 : Int32)), (.int (0 : Int32)), (.int (0 : Int32)), (.int (0 : Int32)), (.int (0 : Int32)), (.int (0 : Int32)), (.int (0 : Int32)), (.int (0 : Int32)), (.int (0 : Int32)), (.int (0 : Int32))] (.int (0 : Int32)) := Arv.set Ar29 q29 S29 M29 H29 G29 rfl W29 13 rfl (Nat.le_of_ble_eq_true rfl)
  have Zs29 : n0 ≤ h29.size := by rw [W29.size]; exact Zs27
  have N29 := Fr.snoc X29 N27 gn_b1
  refine own_by st29 ?_
  show own_Go p.tables e below (T29.setTop (mkF m 90 #[.val (.int p0), .val (.int p1), .val (.int p2), .val (.int p3), .unset, .unset, .unset, .unset, .unset, .unset] [(.ref b1)])) _
  refine own_by (fun _ kt => XS.dup X29.here hx rfl (hb hby at_90) rfl rfl kt) ?_
  show own_Go p.tables e below (T29.setTop (mkF m 91 #[.val (.int p0), .val (.int p1), .val (.int p2), .val (.int p3), .unset, .unset, .unset, .unset, .unset, .unset] [(.ref b1), (.ref b1)])) _
  refine own_by (fun _ kt => XS.bipush X29.here hx rfl (hb hby at_91) kt) ?_
  show own_Go p.tables e below (T29.setTop (mkF m 93 #[.val (.int p0), .val (.int p1), .val (.int p2), .val (.int p3), .unset, .unset, .unset, .unset, .unset, .unset] [(.int (14 : Int32)), (.ref b1), (.ref b1)])) _
  refine own_by (fun _ kt => XS.sipush X29.here hx rfl (hb hby at_93) kt) ?_
  show own_Go p.tables e below (T29.setTop (mkF m 96 #[.val (.int p0), .val (.int p1), .val (.int p2), .val (.int p3), .unset, .unset, .unset, .unset, .unset, .unset] [(.int (895 : Int32)), (.int (14 : Int32)), (.ref b1), (.ref b1)])) _
  obtain ⟨cl31, Ar31, q31, S31, M31, H31, G31⟩ := f30
  obtain ⟨T31, h31, X31, e31, W31, st31⟩ := stI X29 hx hZ e29 Ar31 (j := (14 : Int32)) (inb_of S31 ⟨by decide, by decide⟩) (g := (mkF m 96 #[.val (.int p0), .val (.int p1), .val (.int p2), .val (.int p3), .unset, .unset, .unset, .unset, .unset, .unset] [(.int (895 : Int32)), (.int (14 : Int32)), (.ref b1), (.ref b1)])) rfl rfl (hb hby at_96)
  have f32 : Arv Z h31 b1 k1 .int (33 : Int32) [(.int (58 : Int32)), (.int (65 : Int32)), (.int (90 : Int32)), (.int (95 : Int32)), (.int (97 : Int32)), (.int (122 : Int32)), (.int (192 : Int32)), (.int (214 : Int32)), (.int (216 : Int32)), (.int (246 : Int32)), (.int (248 : Int32)), (.int (767 : Int32)), (.int (880 : Int32)), (.int (893 : Int32)), (.int (895 : Int32)), (.int (0 : Int32)), (.int (0 : Int32)), (.int (0 : Int32)), (.int (0 : Int32)), (.int (0 : Int32)), (.int (0 : Int32)), (.int (0 : Int32)), (.int (0 : Int32)), (.int (0 : Int32)), (.int (0 : Int32)), (.int (0 : Int32)), (.int (0 : Int32)), (.int (0 : Int32)), (.int (0 : Int32)), (.int (0 : Int32)), (.int (0 : Int32)), (.int (0 : Int32)), (.int (0 : Int32))] (.int (0 : Int32)) := Arv.set Ar31 q31 S31 M31 H31 G31 rfl W31 14 rfl (Nat.le_of_ble_eq_true rfl)
  have Zs31 : n0 ≤ h31.size := by rw [W31.size]; exact Zs29
  have N31 := Fr.snoc X31 N29 gn_b1
  refine own_by st31 ?_
  show own_Go p.tables e below (T31.setTop (mkF m 97 #[.val (.int p0), .val (.int p1), .val (.int p2), .val (.int p3), .unset, .unset, .unset, .unset, .unset, .unset] [(.ref b1)])) _
  refine own_by (fun _ kt => XS.dup X31.here hx rfl (hb hby at_97) rfl rfl kt) ?_
  show own_Go p.tables e below (T31.setTop (mkF m 98 #[.val (.int p0), .val (.int p1), .val (.int p2), .val (.int p3), .unset, .unset, .unset, .unset, .unset, .unset] [(.ref b1), (.ref b1)])) _
  refine own_by (fun _ kt => XS.bipush X31.here hx rfl (hb hby at_98) kt) ?_
  show own_Go p.tables e below (T31.setTop (mkF m 100 #[.val (.int p0), .val (.int p1), .val (.int p2), .val (.int p3), .unset, .unset, .unset, .unset, .unset, .unset] [(.int (15 : Int32)), (.ref b1), (.ref b1)])) _
  refine own_by (fun _ kt => XS.sipush X31.here hx rfl (hb hby at_100) kt) ?_
  show own_Go p.tables e below (T31.setTop (mkF m 103 #[.val (.int p0), .val (.int p1), .val (.int p2), .val (.int p3), .unset, .unset, .unset, .unset, .unset, .unset] [(.int (8191 : Int32)), (.int (15 : Int32)), (.ref b1), (.ref b1)])) _
  obtain ⟨cl33, Ar33, q33, S33, M33, H33, G33⟩ := f32
  obtain ⟨T33, h33, X33, e33, W33, st33⟩ := stI X31 hx hZ e31 Ar33 (j := (15 : Int32)) (inb_of S33 ⟨by decide, by decide⟩) (g := (mkF m 103 #[.val (.int p0), .val (.int p1), .val (.int p2), .val (.int p3), .unset, .unset, .unset, .unset, .unset, .unset] [(.int (8191 : Int32)), (.int (15 : Int32)), (.ref b1), (.ref b1)])) rfl rfl (hb hby at_103)
  have f34 : Arv Z h33 b1 k1 .int (33 : Int32) [(.int (58 : Int32)), (.int (65 : Int32)), (.int (90 : Int32)), (.int (95 : Int32)), (.int (97 : Int32)), (.int (122 : Int32)), (.int (192 : Int32)), (.int (214 : Int32)), (.int (216 : Int32)), (.int (246 : Int32)), (.int (248 : Int32)), (.int (767 : Int32)), (.int (880 : Int32)), (.int (893 : Int32)), (.int (895 : Int32)), (.int (8191 : Int32)), (.int (0 : Int32)), (.int (0 : Int32)), (.int (0 : Int32)), (.int (0 : Int32)), (.int (0 : Int32)), (.int (0 : Int32)), (.int (0 : Int32)), (.int (0 : Int32)), (.int (0 : Int32)), (.int (0 : Int32)), (.int (0 : Int32)), (.int (0 : Int32)), (.int (0 : Int32)), (.int (0 : Int32)), (.int (0 : Int32)), (.int (0 : Int32)), (.int (0 : Int32))] (.int (0 : Int32)) := Arv.set Ar33 q33 S33 M33 H33 G33 rfl W33 15 rfl (Nat.le_of_ble_eq_true rfl)
  have Zs33 : n0 ≤ h33.size := by rw [W33.size]; exact Zs31
  have N33 := Fr.snoc X33 N31 gn_b1
  refine own_by st33 ?_
  show own_Go p.tables e below (T33.setTop (mkF m 104 #[.val (.int p0), .val (.int p1), .val (.int p2), .val (.int p3), .unset, .unset, .unset, .unset, .unset, .unset] [(.ref b1)])) _
  refine own_by (fun _ kt => XS.dup X33.here hx rfl (hb hby at_104) rfl rfl kt) ?_
  show own_Go p.tables e below (T33.setTop (mkF m 105 #[.val (.int p0), .val (.int p1), .val (.int p2), .val (.int p3), .unset, .unset, .unset, .unset, .unset, .unset] [(.ref b1), (.ref b1)])) _
  refine own_by (fun _ kt => XS.bipush X33.here hx rfl (hb hby at_105) kt) ?_
  show own_Go p.tables e below (T33.setTop (mkF m 107 #[.val (.int p0), .val (.int p1), .val (.int p2), .val (.int p3), .unset, .unset, .unset, .unset, .unset, .unset] [(.int (16 : Int32)), (.ref b1), (.ref b1)])) _
  refine own_by (fun _ kt => XS.sipush X33.here hx rfl (hb hby at_107) kt) ?_
  show own_Go p.tables e below (T33.setTop (mkF m 110 #[.val (.int p0), .val (.int p1), .val (.int p2), .val (.int p3), .unset, .unset, .unset, .unset, .unset, .unset] [(.int (8204 : Int32)), (.int (16 : Int32)), (.ref b1), (.ref b1)])) _
  obtain ⟨cl35, Ar35, q35, S35, M35, H35, G35⟩ := f34
  obtain ⟨T35, h35, X35, e35, W35, st35⟩ := stI X33 hx hZ e33 Ar35 (j := (16 : Int32)) (inb_of S35 ⟨by decide, by decide⟩) (g := (mkF m 110 #[.val (.int p0), .val (.int p1), .val (.int p2), .val (.int p3), .unset, .unset, .unset, .unset, .unset, .unset] [(.int (8204 : Int32)), (.int (16 : Int32)), (.ref b1), (.ref b1)])) rfl rfl (hb hby at_110)
  have f36 : Arv Z h35 b1 k1 .int (33 : Int32) [(.int (58 : Int32)), (.int (65 : Int32)), (.int (90 : Int32)), (.int (95 : Int32)), (.int (97 : Int32)), (.int (122 : Int32)), (.int (192 : Int32)), (.int (214 : Int32)), (.int (216 : Int32)), (.int (246 : Int32)), (.int (248 : Int32)), (.int (767 : Int32)), (.int (880 : Int32)), (.int (893 : Int32)), (.int (895 : Int32)), (.int (8191 : Int32)), (.int (8204 : Int32)), (.int (0 : Int32)), (.int (0 : Int32)), (.int (0 : Int32)), (.int (0 : Int32)), (.int (0 : Int32)), (.int (0 : Int32)), (.int (0 : Int32)), (.int (0 : Int32)), (.int (0 : Int32)), (.int (0 : Int32)), (.int (0 : Int32)), (.int (0 : Int32)), (.int (0 : Int32)), (.int (0 : Int32)), (.int (0 : Int32)), (.int (0 : Int32))] (.int (0 : Int32)) := Arv.set Ar35 q35 S35 M35 H35 G35 rfl W35 16 rfl (Nat.le_of_ble_eq_true rfl)
  have Zs35 : n0 ≤ h35.size := by rw [W35.size]; exact Zs33
  have N35 := Fr.snoc X35 N33 gn_b1
  refine own_by st35 ?_
  show own_Go p.tables e below (T35.setTop (mkF m 111 #[.val (.int p0), .val (.int p1), .val (.int p2), .val (.int p3), .unset, .unset, .unset, .unset, .unset, .unset] [(.ref b1)])) _
  refine own_by (fun _ kt => XS.dup X35.here hx rfl (hb hby at_111) rfl rfl kt) ?_
  show own_Go p.tables e below (T35.setTop (mkF m 112 #[.val (.int p0), .val (.int p1), .val (.int p2), .val (.int p3), .unset, .unset, .unset, .unset, .unset, .unset] [(.ref b1), (.ref b1)])) _
  refine own_by (fun _ kt => XS.bipush X35.here hx rfl (hb hby at_112) kt) ?_
  show own_Go p.tables e below (T35.setTop (mkF m 114 #[.val (.int p0), .val (.int p1), .val (.int p2), .val (.int p3), .unset, .unset, .unset, .unset, .unset, .unset] [(.int (17 : Int32)), (.ref b1), (.ref b1)])) _
  refine own_by (fun _ kt => XS.sipush X35.here hx rfl (hb hby at_114) kt) ?_
  show own_Go p.tables e below (T35.setTop (mkF m 117 #[.val (.int p0), .val (.int p1), .val (.int p2), .val (.int p3), .unset, .unset, .unset, .unset, .unset, .unset] [(.int (8205 : Int32)), (.int (17 : Int32)), (.ref b1), (.ref b1)])) _
  obtain ⟨cl37, Ar37, q37, S37, M37, H37, G37⟩ := f36
  obtain ⟨T37, h37, X37, e37, W37, st37⟩ := stI X35 hx hZ e35 Ar37 (j := (17 : Int32)) (inb_of S37 ⟨by decide, by decide⟩) (g := (mkF m 117 #[.val (.int p0), .val (.int p1), .val (.int p2), .val (.int p3), .unset, .unset, .unset, .unset, .unset, .unset] [(.int (8205 : Int32)), (.int (17 : Int32)), (.ref b1), (.ref b1)])) rfl rfl (hb hby at_117)
  have f38 : Arv Z h37 b1 k1 .int (33 : Int32) [(.int (58 : Int32)), (.int (65 : Int32)), (.int (90 : Int32)), (.int (95 : Int32)), (.int (97 : Int32)), (.int (122 : Int32)), (.int (192 : Int32)), (.int (214 : Int32)), (.int (216 : Int32)), (.int (246 : Int32)), (.int (248 : Int32)), (.int (767 : Int32)), (.int (880 : Int32)), (.int (893 : Int32)), (.int (895 : Int32)), (.int (8191 : Int32)), (.int (8204 : Int32)), (.int (8205 : Int32)), (.int (0 : Int32)), (.int (0 : Int32)), (.int (0 : Int32)), (.int (0 : Int32)), (.int (0 : Int32)), (.int (0 : Int32)), (.int (0 : Int32)), (.int (0 : Int32)), (.int (0 : Int32)), (.int (0 : Int32)), (.int (0 : Int32)), (.int (0 : Int32)), (.int (0 : Int32)), (.int (0 : Int32)), (.int (0 : Int32))] (.int (0 : Int32)) := Arv.set Ar37 q37 S37 M37 H37 G37 rfl W37 17 rfl (Nat.le_of_ble_eq_true rfl)
  have Zs37 : n0 ≤ h37.size := by rw [W37.size]; exact Zs35
  have N37 := Fr.snoc X37 N35 gn_b1
  refine own_by st37 ?_
  show own_Go p.tables e below (T37.setTop (mkF m 118 #[.val (.int p0), .val (.int p1), .val (.int p2), .val (.int p3), .unset, .unset, .unset, .unset, .unset, .unset] [(.ref b1)])) _
  refine own_by (fun _ kt => XS.dup X37.here hx rfl (hb hby at_118) rfl rfl kt) ?_
  show own_Go p.tables e below (T37.setTop (mkF m 119 #[.val (.int p0), .val (.int p1), .val (.int p2), .val (.int p3), .unset, .unset, .unset, .unset, .unset, .unset] [(.ref b1), (.ref b1)])) _
  refine own_by (fun _ kt => XS.bipush X37.here hx rfl (hb hby at_119) kt) ?_
  show own_Go p.tables e below (T37.setTop (mkF m 121 #[.val (.int p0), .val (.int p1), .val (.int p2), .val (.int p3), .unset, .unset, .unset, .unset, .unset, .unset] [(.int (18 : Int32)), (.ref b1), (.ref b1)])) _
  refine own_by (fun _ kt => XS.sipush X37.here hx rfl (hb hby at_121) kt) ?_
  show own_Go p.tables e below (T37.setTop (mkF m 124 #[.val (.int p0), .val (.int p1), .val (.int p2), .val (.int p3), .unset, .unset, .unset, .unset, .unset, .unset] [(.int (8304 : Int32)), (.int (18 : Int32)), (.ref b1), (.ref b1)])) _
  obtain ⟨cl39, Ar39, q39, S39, M39, H39, G39⟩ := f38
  obtain ⟨T39, h39, X39, e39, W39, st39⟩ := stI X37 hx hZ e37 Ar39 (j := (18 : Int32)) (inb_of S39 ⟨by decide, by decide⟩) (g := (mkF m 124 #[.val (.int p0), .val (.int p1), .val (.int p2), .val (.int p3), .unset, .unset, .unset, .unset, .unset, .unset] [(.int (8304 : Int32)), (.int (18 : Int32)), (.ref b1), (.ref b1)])) rfl rfl (hb hby at_124)
  have f40 : Arv Z h39 b1 k1 .int (33 : Int32) [(.int (58 : Int32)), (.int (65 : Int32)), (.int (90 : Int32)), (.int (95 : Int32)), (.int (97 : Int32)), (.int (122 : Int32)), (.int (192 : Int32)), (.int (214 : Int32)), (.int (216 : Int32)), (.int (246 : Int32)), (.int (248 : Int32)), (.int (767 : Int32)), (.int (880 : Int32)), (.int (893 : Int32)), (.int (895 : Int32)), (.int (8191 : Int32)), (.int (8204 : Int32)), (.int (8205 : Int32)), (.int (8304 : Int32)), (.int (0 : Int32)), (.int (0 : Int32)), (.int (0 : Int32)), (.int (0 : Int32)), (.int (0 : Int32)), (.int (0 : Int32)), (.int (0 : Int32)), (.int (0 : Int32)), (.int (0 : Int32)), (.int (0 : Int32)), (.int (0 : Int32)), (.int (0 : Int32)), (.int (0 : Int32)), (.int (0 : Int32))] (.int (0 : Int32)) := Arv.set Ar39 q39 S39 M39 H39 G39 rfl W39 18 rfl (Nat.le_of_ble_eq_true rfl)
  have Zs39 : n0 ≤ h39.size := by rw [W39.size]; exact Zs37
  have N39 := Fr.snoc X39 N37 gn_b1
  refine own_by st39 ?_
  show own_Go p.tables e below (T39.setTop (mkF m 125 #[.val (.int p0), .val (.int p1), .val (.int p2), .val (.int p3), .unset, .unset, .unset, .unset, .unset, .unset] [(.ref b1)])) _
  refine own_by (fun _ kt => XS.dup X39.here hx rfl (hb hby at_125) rfl rfl kt) ?_
  show own_Go p.tables e below (T39.setTop (mkF m 126 #[.val (.int p0), .val (.int p1), .val (.int p2), .val (.int p3), .unset, .unset, .unset, .unset, .unset, .unset] [(.ref b1), (.ref b1)])) _
  refine own_by (fun _ kt => XS.bipush X39.here hx rfl (hb hby at_126) kt) ?_
  show own_Go p.tables e below (T39.setTop (mkF m 128 #[.val (.int p0), .val (.int p1), .val (.int p2), .val (.int p3), .unset, .unset, .unset, .unset, .unset, .unset] [(.int (19 : Int32)), (.ref b1), (.ref b1)])) _
  refine own_by (fun _ kt => XS.sipush X39.here hx rfl (hb hby at_128) kt) ?_
  show own_Go p.tables e below (T39.setTop (mkF m 131 #[.val (.int p0), .val (.int p1), .val (.int p2), .val (.int p3), .unset, .unset, .unset, .unset, .unset, .unset] [(.int (8591 : Int32)), (.int (19 : Int32)), (.ref b1), (.ref b1)])) _
  obtain ⟨cl41, Ar41, q41, S41, M41, H41, G41⟩ := f40
  obtain ⟨T41, h41, X41, e41, W41, st41⟩ := stI X39 hx hZ e39 Ar41 (j := (19 : Int32)) (inb_of S41 ⟨by decide, by decide⟩) (g := (mkF m 131 #[.val (.int p0), .val (.int p1), .val (.int p2), .val (.int p3), .unset, .unset, .unset, .unset, .unset, .unset] [(.int (8591 : Int32)), (.int (19 : Int32)), (.ref b1), (.ref b1)])) rfl rfl (hb hby at_131)
  have f42 : Arv Z h41 b1 k1 .int (33 : Int32) [(.int (58 : Int32)), (.int (65 : Int32)), (.int (90 : Int32)), (.int (95 : Int32)), (.int (97 : Int32)), (.int (122 : Int32)), (.int (192 : Int32)), (.int (214 : Int32)), (.int (216 : Int32)), (.int (246 : Int32)), (.int (248 : Int32)), (.int (767 : Int32)), (.int (880 : Int32)), (.int (893 : Int32)), (.int (895 : Int32)), (.int (8191 : Int32)), (.int (8204 : Int32)), (.int (8205 : Int32)), (.int (8304 : Int32)), (.int (8591 : Int32)), (.int (0 : Int32)), (.int (0 : Int32)), (.int (0 : Int32)), (.int (0 : Int32)), (.int (0 : Int32)), (.int (0 : Int32)), (.int (0 : Int32)), (.int (0 : Int32)), (.int (0 : Int32)), (.int (0 : Int32)), (.int (0 : Int32)), (.int (0 : Int32)), (.int (0 : Int32))] (.int (0 : Int32)) := Arv.set Ar41 q41 S41 M41 H41 G41 rfl W41 19 rfl (Nat.le_of_ble_eq_true rfl)
  have Zs41 : n0 ≤ h41.size := by rw [W41.size]; exact Zs39
  have N41 := Fr.snoc X41 N39 gn_b1
  refine own_by st41 ?_
  show own_Go p.tables e below (T41.setTop (mkF m 132 #[.val (.int p0), .val (.int p1), .val (.int p2), .val (.int p3), .unset, .unset, .unset, .unset, .unset, .unset] [(.ref b1)])) _
  refine own_by (fun _ kt => XS.dup X41.here hx rfl (hb hby at_132) rfl rfl kt) ?_
  show own_Go p.tables e below (T41.setTop (mkF m 133 #[.val (.int p0), .val (.int p1), .val (.int p2), .val (.int p3), .unset, .unset, .unset, .unset, .unset, .unset] [(.ref b1), (.ref b1)])) _
  refine own_by (fun _ kt => XS.bipush X41.here hx rfl (hb hby at_133) kt) ?_
  show own_Go p.tables e below (T41.setTop (mkF m 135 #[.val (.int p0), .val (.int p1), .val (.int p2), .val (.int p3), .unset, .unset, .unset, .unset, .unset, .unset] [(.int (20 : Int32)), (.ref b1), (.ref b1)])) _
  refine own_by (fun _ kt => XS.sipush X41.here hx rfl (hb hby at_135) kt) ?_
  show own_Go p.tables e below (T41.setTop (mkF m 138 #[.val (.int p0), .val (.int p1), .val (.int p2), .val (.int p3), .unset, .unset, .unset, .unset, .unset, .unset] [(.int (11264 : Int32)), (.int (20 : Int32)), (.ref b1), (.ref b1)])) _
  obtain ⟨cl43, Ar43, q43, S43, M43, H43, G43⟩ := f42
  obtain ⟨T43, h43, X43, e43, W43, st43⟩ := stI X41 hx hZ e41 Ar43 (j := (20 : Int32)) (inb_of S43 ⟨by decide, by decide⟩) (g := (mkF m 138 #[.val (.int p0), .val (.int p1), .val (.int p2), .val (.int p3), .unset, .unset, .unset, .unset, .unset, .unset] [(.int (11264 : Int32)), (.int (20 : Int32)), (.ref b1), (.ref b1)])) rfl rfl (hb hby at_138)
  have f44 : Arv Z h43 b1 k1 .int (33 : Int32) [(.int (58 : Int32)), (.int (65 : Int32)), (.int (90 : Int32)), (.int (95 : Int32)), (.int (97 : Int32)), (.int (122 : Int32)), (.int (192 : Int32)), (.int (214 : Int32)), (.int (216 : Int32)), (.int (246 : Int32)), (.int (248 : Int32)), (.int (767 : Int32)), (.int (880 : Int32)), (.int (893 : Int32)), (.int (895 : Int32)), (.int (8191 : Int32)), (.int (8204 : Int32)), (.int (8205 : Int32)), (.int (8304 : Int32)), (.int (8591 : Int32)), (.int (11264 : Int32)), (.int (0 : Int32)), (.int (0 : Int32)), (.int (0 : Int32)), (.int (0 : Int32)), (.int (0 : Int32)), (.int (0 : Int32)), (.int (0 : Int32)), (.int (0 : Int32)), (.int (0 : Int32)), (.int (0 : Int32)), (.int (0 : Int32)), (.int (0 : Int32))] (.int (0 : Int32)) := Arv.set Ar43 q43 S43 M43 H43 G43 rfl W43 20 rfl (Nat.le_of_ble_eq_true rfl)
  have Zs43 : n0 ≤ h43.size := by rw [W43.size]; exact Zs41
  have N43 := Fr.snoc X43 N41 gn_b1
  refine own_by st43 ?_
  show own_Go p.tables e below (T43.setTop (mkF m 139 #[.val (.int p0), .val (.int p1), .val (.int p2), .val (.int p3), .unset, .unset, .unset, .unset, .unset, .unset] [(.ref b1)])) _
  refine own_by (fun _ kt => XS.dup X43.here hx rfl (hb hby at_139) rfl rfl kt) ?_
  show own_Go p.tables e below (T43.setTop (mkF m 140 #[.val (.int p0), .val (.int p1), .val (.int p2), .val (.int p3), .unset, .unset, .unset, .unset, .unset, .unset] [(.ref b1), (.ref b1)])) _
  refine own_by (fun _ kt => XS.bipush X43.here hx rfl (hb hby at_140) kt) ?_
  show own_Go p.tables e below (T43.setTop (mkF m 142 #[.val (.int p0), .val (.int p1), .val (.int p2), .val (.int p3), .unset, .unset, .unset, .unset, .unset, .unset] [(.int (21 : Int32)), (.ref b1), (.ref b1)])) _
  refine own_by (fun _ kt => XS.sipush X43.here hx rfl (hb hby at_142) kt) ?_
  show own_Go p.tables e below (T43.setTop (mkF m 145 #[.val (.int p0), .val (.int p1), .val (.int p2), .val (.int p3), .unset, .unset, .unset, .unset, .unset, .unset] [(.int (12271 : Int32)), (.int (21 : Int32)), (.ref b1), (.ref b1)])) _
  obtain ⟨cl45, Ar45, q45, S45, M45, H45, G45⟩ := f44
  obtain ⟨T45, h45, X45, e45, W45, st45⟩ := stI X43 hx hZ e43 Ar45 (j := (21 : Int32)) (inb_of S45 ⟨by decide, by decide⟩) (g := (mkF m 145 #[.val (.int p0), .val (.int p1), .val (.int p2), .val (.int p3), .unset, .unset, .unset, .unset, .unset, .unset] [(.int (12271 : Int32)), (.int (21 : Int32)), (.ref b1), (.ref b1)])) rfl rfl (hb hby at_145)
  have f46 : Arv Z h45 b1 k1 .int (33 : Int32) [(.int (58 : Int32)), (.int (65 : Int32)), (.int (90 : Int32)), (.int (95 : Int32)), (.int (97 : Int32)), (.int (122 : Int32)), (.int (192 : Int32)), (.int (214 : Int32)), (.int (216 : Int32)), (.int (246 : Int32)), (.int (248 : Int32)), (.int (767 : Int32)), (.int (880 : Int32)), (.int (893 : Int32)), (.int (895 : Int32)), (.int (8191 : Int32)), (.int (8204 : Int32)), (.int (8205 : Int32)), (.int (8304 : Int32)), (.int (8591 : Int32)), (.int (11264 : Int32)), (.int (12271 : Int32)), (.int (0 : Int32)), (.int (0 : Int32)), (.int (0 : Int32)), (.int (0 : Int32)), (.int (0 : Int32)), (.int (0 : Int32)), (.int (0 : Int32)), (.int (0 : Int32)), (.int (0 : Int32)), (.int (0 : Int32)), (.int (0 : Int32))] (.int (0 : Int32)) := Arv.set Ar45 q45 S45 M45 H45 G45 rfl W45 21 rfl (Nat.le_of_ble_eq_true rfl)
  have Zs45 : n0 ≤ h45.size := by rw [W45.size]; exact Zs43
  have N45 := Fr.snoc X45 N43 gn_b1
  refine own_by st45 ?_
  show own_Go p.tables e below (T45.setTop (mkF m 146 #[.val (.int p0), .val (.int p1), .val (.int p2), .val (.int p3), .unset, .unset, .unset, .unset, .unset, .unset] [(.ref b1)])) _
  refine own_by (fun _ kt => XS.dup X45.here hx rfl (hb hby at_146) rfl rfl kt) ?_
  show own_Go p.tables e below (T45.setTop (mkF m 147 #[.val (.int p0), .val (.int p1), .val (.int p2), .val (.int p3), .unset, .unset, .unset, .unset, .unset, .unset] [(.ref b1), (.ref b1)])) _
  refine own_by (fun _ kt => XS.bipush X45.here hx rfl (hb hby at_147) kt) ?_
  show own_Go p.tables e below (T45.setTop (mkF m 149 #[.val (.int p0), .val (.int p1), .val (.int p2), .val (.int p3), .unset, .unset, .unset, .unset, .unset, .unset] [(.int (22 : Int32)), (.ref b1), (.ref b1)])) _
  refine own_by (fun _ kt => XS.sipush X45.here hx rfl (hb hby at_149) kt) ?_
  show own_Go p.tables e below (T45.setTop (mkF m 152 #[.val (.int p0), .val (.int p1), .val (.int p2), .val (.int p3), .unset, .unset, .unset, .unset, .unset, .unset] [(.int (12289 : Int32)), (.int (22 : Int32)), (.ref b1), (.ref b1)])) _
  obtain ⟨cl47, Ar47, q47, S47, M47, H47, G47⟩ := f46
  obtain ⟨T47, h47, X47, e47, W47, st47⟩ := stI X45 hx hZ e45 Ar47 (j := (22 : Int32)) (inb_of S47 ⟨by decide, by decide⟩) (g := (mkF m 152 #[.val (.int p0), .val (.int p1), .val (.int p2), .val (.int p3), .unset, .unset, .unset, .unset, .unset, .unset] [(.int (12289 : Int32)), (.int (22 : Int32)), (.ref b1), (.ref b1)])) rfl rfl (hb hby at_152)
  have f48 : Arv Z h47 b1 k1 .int (33 : Int32) [(.int (58 : Int32)), (.int (65 : Int32)), (.int (90 : Int32)), (.int (95 : Int32)), (.int (97 : Int32)), (.int (122 : Int32)), (.int (192 : Int32)), (.int (214 : Int32)), (.int (216 : Int32)), (.int (246 : Int32)), (.int (248 : Int32)), (.int (767 : Int32)), (.int (880 : Int32)), (.int (893 : Int32)), (.int (895 : Int32)), (.int (8191 : Int32)), (.int (8204 : Int32)), (.int (8205 : Int32)), (.int (8304 : Int32)), (.int (8591 : Int32)), (.int (11264 : Int32)), (.int (12271 : Int32)), (.int (12289 : Int32)), (.int (0 : Int32)), (.int (0 : Int32)), (.int (0 : Int32)), (.int (0 : Int32)), (.int (0 : Int32)), (.int (0 : Int32)), (.int (0 : Int32)), (.int (0 : Int32)), (.int (0 : Int32)), (.int (0 : Int32))] (.int (0 : Int32)) := Arv.set Ar47 q47 S47 M47 H47 G47 rfl W47 22 rfl (Nat.le_of_ble_eq_true rfl)
  have Zs47 : n0 ≤ h47.size := by rw [W47.size]; exact Zs45
  have N47 := Fr.snoc X47 N45 gn_b1
  refine own_by st47 ?_
  show own_Go p.tables e below (T47.setTop (mkF m 153 #[.val (.int p0), .val (.int p1), .val (.int p2), .val (.int p3), .unset, .unset, .unset, .unset, .unset, .unset] [(.ref b1)])) _
  refine own_by (fun _ kt => XS.dup X47.here hx rfl (hb hby at_153) rfl rfl kt) ?_
  show own_Go p.tables e below (T47.setTop (mkF m 154 #[.val (.int p0), .val (.int p1), .val (.int p2), .val (.int p3), .unset, .unset, .unset, .unset, .unset, .unset] [(.ref b1), (.ref b1)])) _
  refine own_by (fun _ kt => XS.bipush X47.here hx rfl (hb hby at_154) kt) ?_
  show own_Go p.tables e below (T47.setTop (mkF m 156 #[.val (.int p0), .val (.int p1), .val (.int p2), .val (.int p3), .unset, .unset, .unset, .unset, .unset, .unset] [(.int (23 : Int32)), (.ref b1), (.ref b1)])) _
  refine own_by (X47.ldcInt hx hown (mvT hZ (hw _ (List.mem_of_getElem? (i := 1) rfl))) (g := (mkF m 156 #[.val (.int p0), .val (.int p1), .val (.int p2), .val (.int p3), .unset, .unset, .unset, .unset, .unset, .unset] [(.int (23 : Int32)), (.ref b1), (.ref b1)])) rfl (hb hby at_156)) ?_
  show own_Go p.tables e below (T47.setTop (mkF m 158 #[.val (.int p0), .val (.int p1), .val (.int p2), .val (.int p3), .unset, .unset, .unset, .unset, .unset, .unset] [(.int (55295 : Int32)), (.int (23 : Int32)), (.ref b1), (.ref b1)])) _
  obtain ⟨cl49, Ar49, q49, S49, M49, H49, G49⟩ := f48
  obtain ⟨T49, h49, X49, e49, W49, st49⟩ := stI X47 hx hZ e47 Ar49 (j := (23 : Int32)) (inb_of S49 ⟨by decide, by decide⟩) (g := (mkF m 158 #[.val (.int p0), .val (.int p1), .val (.int p2), .val (.int p3), .unset, .unset, .unset, .unset, .unset, .unset] [(.int (55295 : Int32)), (.int (23 : Int32)), (.ref b1), (.ref b1)])) rfl rfl (hb hby at_158)
  have f50 : Arv Z h49 b1 k1 .int (33 : Int32) [(.int (58 : Int32)), (.int (65 : Int32)), (.int (90 : Int32)), (.int (95 : Int32)), (.int (97 : Int32)), (.int (122 : Int32)), (.int (192 : Int32)), (.int (214 : Int32)), (.int (216 : Int32)), (.int (246 : Int32)), (.int (248 : Int32)), (.int (767 : Int32)), (.int (880 : Int32)), (.int (893 : Int32)), (.int (895 : Int32)), (.int (8191 : Int32)), (.int (8204 : Int32)), (.int (8205 : Int32)), (.int (8304 : Int32)), (.int (8591 : Int32)), (.int (11264 : Int32)), (.int (12271 : Int32)), (.int (12289 : Int32)), (.int (55295 : Int32)), (.int (0 : Int32)), (.int (0 : Int32)), (.int (0 : Int32)), (.int (0 : Int32)), (.int (0 : Int32)), (.int (0 : Int32)), (.int (0 : Int32)), (.int (0 : Int32)), (.int (0 : Int32))] (.int (0 : Int32)) := Arv.set Ar49 q49 S49 M49 H49 G49 rfl W49 23 rfl (Nat.le_of_ble_eq_true rfl)
  have Zs49 : n0 ≤ h49.size := by rw [W49.size]; exact Zs47
  have N49 := Fr.snoc X49 N47 gn_b1
  refine own_by st49 ?_
  show own_Go p.tables e below (T49.setTop (mkF m 159 #[.val (.int p0), .val (.int p1), .val (.int p2), .val (.int p3), .unset, .unset, .unset, .unset, .unset, .unset] [(.ref b1)])) _
  refine own_by (fun _ kt => XS.dup X49.here hx rfl (hb hby at_159) rfl rfl kt) ?_
  show own_Go p.tables e below (T49.setTop (mkF m 160 #[.val (.int p0), .val (.int p1), .val (.int p2), .val (.int p3), .unset, .unset, .unset, .unset, .unset, .unset] [(.ref b1), (.ref b1)])) _
  refine own_by (fun _ kt => XS.bipush X49.here hx rfl (hb hby at_160) kt) ?_
  show own_Go p.tables e below (T49.setTop (mkF m 162 #[.val (.int p0), .val (.int p1), .val (.int p2), .val (.int p3), .unset, .unset, .unset, .unset, .unset, .unset] [(.int (24 : Int32)), (.ref b1), (.ref b1)])) _
  refine own_by (X49.ldcInt hx hown (mvT hZ (hw _ (List.mem_of_getElem? (i := 2) rfl))) (g := (mkF m 162 #[.val (.int p0), .val (.int p1), .val (.int p2), .val (.int p3), .unset, .unset, .unset, .unset, .unset, .unset] [(.int (24 : Int32)), (.ref b1), (.ref b1)])) rfl (hb hby at_162)) ?_
  show own_Go p.tables e below (T49.setTop (mkF m 164 #[.val (.int p0), .val (.int p1), .val (.int p2), .val (.int p3), .unset, .unset, .unset, .unset, .unset, .unset] [(.int (63744 : Int32)), (.int (24 : Int32)), (.ref b1), (.ref b1)])) _
  obtain ⟨cl51, Ar51, q51, S51, M51, H51, G51⟩ := f50
  obtain ⟨T51, h51, X51, e51, W51, st51⟩ := stI X49 hx hZ e49 Ar51 (j := (24 : Int32)) (inb_of S51 ⟨by decide, by decide⟩) (g := (mkF m 164 #[.val (.int p0), .val (.int p1), .val (.int p2), .val (.int p3), .unset, .unset, .unset, .unset, .unset, .unset] [(.int (63744 : Int32)), (.int (24 : Int32)), (.ref b1), (.ref b1)])) rfl rfl (hb hby at_164)
  have f52 : Arv Z h51 b1 k1 .int (33 : Int32) [(.int (58 : Int32)), (.int (65 : Int32)), (.int (90 : Int32)), (.int (95 : Int32)), (.int (97 : Int32)), (.int (122 : Int32)), (.int (192 : Int32)), (.int (214 : Int32)), (.int (216 : Int32)), (.int (246 : Int32)), (.int (248 : Int32)), (.int (767 : Int32)), (.int (880 : Int32)), (.int (893 : Int32)), (.int (895 : Int32)), (.int (8191 : Int32)), (.int (8204 : Int32)), (.int (8205 : Int32)), (.int (8304 : Int32)), (.int (8591 : Int32)), (.int (11264 : Int32)), (.int (12271 : Int32)), (.int (12289 : Int32)), (.int (55295 : Int32)), (.int (63744 : Int32)), (.int (0 : Int32)), (.int (0 : Int32)), (.int (0 : Int32)), (.int (0 : Int32)), (.int (0 : Int32)), (.int (0 : Int32)), (.int (0 : Int32)), (.int (0 : Int32))] (.int (0 : Int32)) := Arv.set Ar51 q51 S51 M51 H51 G51 rfl W51 24 rfl (Nat.le_of_ble_eq_true rfl)
  have Zs51 : n0 ≤ h51.size := by rw [W51.size]; exact Zs49
  have N51 := Fr.snoc X51 N49 gn_b1
  refine own_by st51 ?_
  show own_Go p.tables e below (T51.setTop (mkF m 165 #[.val (.int p0), .val (.int p1), .val (.int p2), .val (.int p3), .unset, .unset, .unset, .unset, .unset, .unset] [(.ref b1)])) _
  refine own_by (fun _ kt => XS.dup X51.here hx rfl (hb hby at_165) rfl rfl kt) ?_
  show own_Go p.tables e below (T51.setTop (mkF m 166 #[.val (.int p0), .val (.int p1), .val (.int p2), .val (.int p3), .unset, .unset, .unset, .unset, .unset, .unset] [(.ref b1), (.ref b1)])) _
  refine own_by (fun _ kt => XS.bipush X51.here hx rfl (hb hby at_166) kt) ?_
  show own_Go p.tables e below (T51.setTop (mkF m 168 #[.val (.int p0), .val (.int p1), .val (.int p2), .val (.int p3), .unset, .unset, .unset, .unset, .unset, .unset] [(.int (25 : Int32)), (.ref b1), (.ref b1)])) _
  refine own_by (X51.ldcInt hx hown (mvT hZ (hw _ (List.mem_of_getElem? (i := 3) rfl))) (g := (mkF m 168 #[.val (.int p0), .val (.int p1), .val (.int p2), .val (.int p3), .unset, .unset, .unset, .unset, .unset, .unset] [(.int (25 : Int32)), (.ref b1), (.ref b1)])) rfl (hb hby at_168)) ?_
  show own_Go p.tables e below (T51.setTop (mkF m 170 #[.val (.int p0), .val (.int p1), .val (.int p2), .val (.int p3), .unset, .unset, .unset, .unset, .unset, .unset] [(.int (64975 : Int32)), (.int (25 : Int32)), (.ref b1), (.ref b1)])) _
  obtain ⟨cl53, Ar53, q53, S53, M53, H53, G53⟩ := f52
  obtain ⟨T53, h53, X53, e53, W53, st53⟩ := stI X51 hx hZ e51 Ar53 (j := (25 : Int32)) (inb_of S53 ⟨by decide, by decide⟩) (g := (mkF m 170 #[.val (.int p0), .val (.int p1), .val (.int p2), .val (.int p3), .unset, .unset, .unset, .unset, .unset, .unset] [(.int (64975 : Int32)), (.int (25 : Int32)), (.ref b1), (.ref b1)])) rfl rfl (hb hby at_170)
  have f54 : Arv Z h53 b1 k1 .int (33 : Int32) [(.int (58 : Int32)), (.int (65 : Int32)), (.int (90 : Int32)), (.int (95 : Int32)), (.int (97 : Int32)), (.int (122 : Int32)), (.int (192 : Int32)), (.int (214 : Int32)), (.int (216 : Int32)), (.int (246 : Int32)), (.int (248 : Int32)), (.int (767 : Int32)), (.int (880 : Int32)), (.int (893 : Int32)), (.int (895 : Int32)), (.int (8191 : Int32)), (.int (8204 : Int32)), (.int (8205 : Int32)), (.int (8304 : Int32)), (.int (8591 : Int32)), (.int (11264 : Int32)), (.int (12271 : Int32)), (.int (12289 : Int32)), (.int (55295 : Int32)), (.int (63744 : Int32)), (.int (64975 : Int32)), (.int (0 : Int32)), (.int (0 : Int32)), (.int (0 : Int32)), (.int (0 : Int32)), (.int (0 : Int32)), (.int (0 : Int32)), (.int (0 : Int32))] (.int (0 : Int32)) := Arv.set Ar53 q53 S53 M53 H53 G53 rfl W53 25 rfl (Nat.le_of_ble_eq_true rfl)
  have Zs53 : n0 ≤ h53.size := by rw [W53.size]; exact Zs51
  have N53 := Fr.snoc X53 N51 gn_b1
  refine own_by st53 ?_
  show own_Go p.tables e below (T53.setTop (mkF m 171 #[.val (.int p0), .val (.int p1), .val (.int p2), .val (.int p3), .unset, .unset, .unset, .unset, .unset, .unset] [(.ref b1)])) _
  refine own_by (fun _ kt => XS.dup X53.here hx rfl (hb hby at_171) rfl rfl kt) ?_
  show own_Go p.tables e below (T53.setTop (mkF m 172 #[.val (.int p0), .val (.int p1), .val (.int p2), .val (.int p3), .unset, .unset, .unset, .unset, .unset, .unset] [(.ref b1), (.ref b1)])) _
  refine own_by (fun _ kt => XS.bipush X53.here hx rfl (hb hby at_172) kt) ?_
  show own_Go p.tables e below (T53.setTop (mkF m 174 #[.val (.int p0), .val (.int p1), .val (.int p2), .val (.int p3), .unset, .unset, .unset, .unset, .unset, .unset] [(.int (26 : Int32)), (.ref b1), (.ref b1)])) _
  refine own_by (X53.ldcInt hx hown (mvT hZ (hw _ (List.mem_of_getElem? (i := 4) rfl))) (g := (mkF m 174 #[.val (.int p0), .val (.int p1), .val (.int p2), .val (.int p3), .unset, .unset, .unset, .unset, .unset, .unset] [(.int (26 : Int32)), (.ref b1), (.ref b1)])) rfl (hb hby at_174)) ?_
  show own_Go p.tables e below (T53.setTop (mkF m 176 #[.val (.int p0), .val (.int p1), .val (.int p2), .val (.int p3), .unset, .unset, .unset, .unset, .unset, .unset] [(.int (65008 : Int32)), (.int (26 : Int32)), (.ref b1), (.ref b1)])) _
  obtain ⟨cl55, Ar55, q55, S55, M55, H55, G55⟩ := f54
  obtain ⟨T55, h55, X55, e55, W55, st55⟩ := stI X53 hx hZ e53 Ar55 (j := (26 : Int32)) (inb_of S55 ⟨by decide, by decide⟩) (g := (mkF m 176 #[.val (.int p0), .val (.int p1), .val (.int p2), .val (.int p3), .unset, .unset, .unset, .unset, .unset, .unset] [(.int (65008 : Int32)), (.int (26 : Int32)), (.ref b1), (.ref b1)])) rfl rfl (hb hby at_176)
  have f56 : Arv Z h55 b1 k1 .int (33 : Int32) [(.int (58 : Int32)), (.int (65 : Int32)), (.int (90 : Int32)), (.int (95 : Int32)), (.int (97 : Int32)), (.int (122 : Int32)), (.int (192 : Int32)), (.int (214 : Int32)), (.int (216 : Int32)), (.int (246 : Int32)), (.int (248 : Int32)), (.int (767 : Int32)), (.int (880 : Int32)), (.int (893 : Int32)), (.int (895 : Int32)), (.int (8191 : Int32)), (.int (8204 : Int32)), (.int (8205 : Int32)), (.int (8304 : Int32)), (.int (8591 : Int32)), (.int (11264 : Int32)), (.int (12271 : Int32)), (.int (12289 : Int32)), (.int (55295 : Int32)), (.int (63744 : Int32)), (.int (64975 : Int32)), (.int (65008 : Int32)), (.int (0 : Int32)), (.int (0 : Int32)), (.int (0 : Int32)), (.int (0 : Int32)), (.int (0 : Int32)), (.int (0 : Int32))] (.int (0 : Int32)) := Arv.set Ar55 q55 S55 M55 H55 G55 rfl W55 26 rfl (Nat.le_of_ble_eq_true rfl)
  have Zs55 : n0 ≤ h55.size := by rw [W55.size]; exact Zs53
  have N55 := Fr.snoc X55 N53 gn_b1
  refine own_by st55 ?_
  show own_Go p.tables e below (T55.setTop (mkF m 177 #[.val (.int p0), .val (.int p1), .val (.int p2), .val (.int p3), .unset, .unset, .unset, .unset, .unset, .unset] [(.ref b1)])) _
  refine own_by (fun _ kt => XS.dup X55.here hx rfl (hb hby at_177) rfl rfl kt) ?_
  show own_Go p.tables e below (T55.setTop (mkF m 178 #[.val (.int p0), .val (.int p1), .val (.int p2), .val (.int p3), .unset, .unset, .unset, .unset, .unset, .unset] [(.ref b1), (.ref b1)])) _
  refine own_by (fun _ kt => XS.bipush X55.here hx rfl (hb hby at_178) kt) ?_
  show own_Go p.tables e below (T55.setTop (mkF m 180 #[.val (.int p0), .val (.int p1), .val (.int p2), .val (.int p3), .unset, .unset, .unset, .unset, .unset, .unset] [(.int (27 : Int32)), (.ref b1), (.ref b1)])) _
  refine own_by (X55.ldcInt hx hown (mvT hZ (hw _ (List.mem_of_getElem? (i := 5) rfl))) (g := (mkF m 180 #[.val (.int p0), .val (.int p1), .val (.int p2), .val (.int p3), .unset, .unset, .unset, .unset, .unset, .unset] [(.int (27 : Int32)), (.ref b1), (.ref b1)])) rfl (hb hby at_180)) ?_
  show own_Go p.tables e below (T55.setTop (mkF m 182 #[.val (.int p0), .val (.int p1), .val (.int p2), .val (.int p3), .unset, .unset, .unset, .unset, .unset, .unset] [(.int (65533 : Int32)), (.int (27 : Int32)), (.ref b1), (.ref b1)])) _
  obtain ⟨cl57, Ar57, q57, S57, M57, H57, G57⟩ := f56
  obtain ⟨T57, h57, X57, e57, W57, st57⟩ := stI X55 hx hZ e55 Ar57 (j := (27 : Int32)) (inb_of S57 ⟨by decide, by decide⟩) (g := (mkF m 182 #[.val (.int p0), .val (.int p1), .val (.int p2), .val (.int p3), .unset, .unset, .unset, .unset, .unset, .unset] [(.int (65533 : Int32)), (.int (27 : Int32)), (.ref b1), (.ref b1)])) rfl rfl (hb hby at_182)
  have f58 : Arv Z h57 b1 k1 .int (33 : Int32) [(.int (58 : Int32)), (.int (65 : Int32)), (.int (90 : Int32)), (.int (95 : Int32)), (.int (97 : Int32)), (.int (122 : Int32)), (.int (192 : Int32)), (.int (214 : Int32)), (.int (216 : Int32)), (.int (246 : Int32)), (.int (248 : Int32)), (.int (767 : Int32)), (.int (880 : Int32)), (.int (893 : Int32)), (.int (895 : Int32)), (.int (8191 : Int32)), (.int (8204 : Int32)), (.int (8205 : Int32)), (.int (8304 : Int32)), (.int (8591 : Int32)), (.int (11264 : Int32)), (.int (12271 : Int32)), (.int (12289 : Int32)), (.int (55295 : Int32)), (.int (63744 : Int32)), (.int (64975 : Int32)), (.int (65008 : Int32)), (.int (65533 : Int32)), (.int (0 : Int32)), (.int (0 : Int32)), (.int (0 : Int32)), (.int (0 : Int32)), (.int (0 : Int32))] (.int (0 : Int32)) := Arv.set Ar57 q57 S57 M57 H57 G57 rfl W57 27 rfl (Nat.le_of_ble_eq_true rfl)
  have Zs57 : n0 ≤ h57.size := by rw [W57.size]; exact Zs55
  have N57 := Fr.snoc X57 N55 gn_b1
  refine own_by st57 ?_
  show own_Go p.tables e below (T57.setTop (mkF m 183 #[.val (.int p0), .val (.int p1), .val (.int p2), .val (.int p3), .unset, .unset, .unset, .unset, .unset, .unset] [(.ref b1)])) _
  refine own_by (fun _ kt => XS.dup X57.here hx rfl (hb hby at_183) rfl rfl kt) ?_
  show own_Go p.tables e below (T57.setTop (mkF m 184 #[.val (.int p0), .val (.int p1), .val (.int p2), .val (.int p3), .unset, .unset, .unset, .unset, .unset, .unset] [(.ref b1), (.ref b1)])) _
  refine own_by (fun _ kt => XS.bipush X57.here hx rfl (hb hby at_184) kt) ?_
  show own_Go p.tables e below (T57.setTop (mkF m 186 #[.val (.int p0), .val (.int p1), .val (.int p2), .val (.int p3), .unset, .unset, .unset, .unset, .unset, .unset] [(.int (28 : Int32)), (.ref b1), (.ref b1)])) _
  refine own_by (X57.ldcInt hx hown (mvT hZ (hw _ (List.mem_of_getElem? (i := 6) rfl))) (g := (mkF m 186 #[.val (.int p0), .val (.int p1), .val (.int p2), .val (.int p3), .unset, .unset, .unset, .unset, .unset, .unset] [(.int (28 : Int32)), (.ref b1), (.ref b1)])) rfl (hb hby at_186)) ?_
  show own_Go p.tables e below (T57.setTop (mkF m 188 #[.val (.int p0), .val (.int p1), .val (.int p2), .val (.int p3), .unset, .unset, .unset, .unset, .unset, .unset] [(.int (65536 : Int32)), (.int (28 : Int32)), (.ref b1), (.ref b1)])) _
  obtain ⟨cl59, Ar59, q59, S59, M59, H59, G59⟩ := f58
  obtain ⟨T59, h59, X59, e59, W59, st59⟩ := stI X57 hx hZ e57 Ar59 (j := (28 : Int32)) (inb_of S59 ⟨by decide, by decide⟩) (g := (mkF m 188 #[.val (.int p0), .val (.int p1), .val (.int p2), .val (.int p3), .unset, .unset, .unset, .unset, .unset, .unset] [(.int (65536 : Int32)), (.int (28 : Int32)), (.ref b1), (.ref b1)])) rfl rfl (hb hby at_188)
  have f60 : Arv Z h59 b1 k1 .int (33 : Int32) [(.int (58 : Int32)), (.int (65 : Int32)), (.int (90 : Int32)), (.int (95 : Int32)), (.int (97 : Int32)), (.int (122 : Int32)), (.int (192 : Int32)), (.int (214 : Int32)), (.int (216 : Int32)), (.int (246 : Int32)), (.int (248 : Int32)), (.int (767 : Int32)), (.int (880 : Int32)), (.int (893 : Int32)), (.int (895 : Int32)), (.int (8191 : Int32)), (.int (8204 : Int32)), (.int (8205 : Int32)), (.int (8304 : Int32)), (.int (8591 : Int32)), (.int (11264 : Int32)), (.int (12271 : Int32)), (.int (12289 : Int32)), (.int (55295 : Int32)), (.int (63744 : Int32)), (.int (64975 : Int32)), (.int (65008 : Int32)), (.int (65533 : Int32)), (.int (65536 : Int32)), (.int (0 : Int32)), (.int (0 : Int32)), (.int (0 : Int32)), (.int (0 : Int32))] (.int (0 : Int32)) := Arv.set Ar59 q59 S59 M59 H59 G59 rfl W59 28 rfl (Nat.le_of_ble_eq_true rfl)
  have Zs59 : n0 ≤ h59.size := by rw [W59.size]; exact Zs57
  have N59 := Fr.snoc X59 N57 gn_b1
  refine own_by st59 ?_
  show own_Go p.tables e below (T59.setTop (mkF m 189 #[.val (.int p0), .val (.int p1), .val (.int p2), .val (.int p3), .unset, .unset, .unset, .unset, .unset, .unset] [(.ref b1)])) _
  refine own_by (fun _ kt => XS.dup X59.here hx rfl (hb hby at_189) rfl rfl kt) ?_
  show own_Go p.tables e below (T59.setTop (mkF m 190 #[.val (.int p0), .val (.int p1), .val (.int p2), .val (.int p3), .unset, .unset, .unset, .unset, .unset, .unset] [(.ref b1), (.ref b1)])) _
  refine own_by (fun _ kt => XS.bipush X59.here hx rfl (hb hby at_190) kt) ?_
  show own_Go p.tables e below (T59.setTop (mkF m 192 #[.val (.int p0), .val (.int p1), .val (.int p2), .val (.int p3), .unset, .unset, .unset, .unset, .unset, .unset] [(.int (29 : Int32)), (.ref b1), (.ref b1)])) _
  refine own_by (X59.ldcInt hx hown (mvT hZ (hw _ (List.mem_of_getElem? (i := 7) rfl))) (g := (mkF m 192 #[.val (.int p0), .val (.int p1), .val (.int p2), .val (.int p3), .unset, .unset, .unset, .unset, .unset, .unset] [(.int (29 : Int32)), (.ref b1), (.ref b1)])) rfl (hb hby at_192)) ?_
  show own_Go p.tables e below (T59.setTop (mkF m 194 #[.val (.int p0), .val (.int p1), .val (.int p2), .val (.int p3), .unset, .unset, .unset, .unset, .unset, .unset] [(.int (983039 : Int32)), (.int (29 : Int32)), (.ref b1), (.ref b1)])) _
  obtain ⟨cl61, Ar61, q61, S61, M61, H61, G61⟩ := f60
  obtain ⟨T61, h61, X61, e61, W61, st61⟩ := stI X59 hx hZ e59 Ar61 (j := (29 : Int32)) (inb_of S61 ⟨by decide, by decide⟩) (g := (mkF m 194 #[.val (.int p0), .val (.int p1), .val (.int p2), .val (.int p3), .unset, .unset, .unset, .unset, .unset, .unset] [(.int (983039 : Int32)), (.int (29 : Int32)), (.ref b1), (.ref b1)])) rfl rfl (hb hby at_194)
  have f62 : Arv Z h61 b1 k1 .int (33 : Int32) [(.int (58 : Int32)), (.int (65 : Int32)), (.int (90 : Int32)), (.int (95 : Int32)), (.int (97 : Int32)), (.int (122 : Int32)), (.int (192 : Int32)), (.int (214 : Int32)), (.int (216 : Int32)), (.int (246 : Int32)), (.int (248 : Int32)), (.int (767 : Int32)), (.int (880 : Int32)), (.int (893 : Int32)), (.int (895 : Int32)), (.int (8191 : Int32)), (.int (8204 : Int32)), (.int (8205 : Int32)), (.int (8304 : Int32)), (.int (8591 : Int32)), (.int (11264 : Int32)), (.int (12271 : Int32)), (.int (12289 : Int32)), (.int (55295 : Int32)), (.int (63744 : Int32)), (.int (64975 : Int32)), (.int (65008 : Int32)), (.int (65533 : Int32)), (.int (65536 : Int32)), (.int (983039 : Int32)), (.int (0 : Int32)), (.int (0 : Int32)), (.int (0 : Int32))] (.int (0 : Int32)) := Arv.set Ar61 q61 S61 M61 H61 G61 rfl W61 29 rfl (Nat.le_of_ble_eq_true rfl)
  have Zs61 : n0 ≤ h61.size := by rw [W61.size]; exact Zs59
  have N61 := Fr.snoc X61 N59 gn_b1
  refine own_by st61 ?_
  show own_Go p.tables e below (T61.setTop (mkF m 195 #[.val (.int p0), .val (.int p1), .val (.int p2), .val (.int p3), .unset, .unset, .unset, .unset, .unset, .unset] [(.ref b1)])) _
  refine own_by (fun _ kt => XS.dup X61.here hx rfl (hb hby at_195) rfl rfl kt) ?_
  show own_Go p.tables e below (T61.setTop (mkF m 196 #[.val (.int p0), .val (.int p1), .val (.int p2), .val (.int p3), .unset, .unset, .unset, .unset, .unset, .unset] [(.ref b1), (.ref b1)])) _
  refine own_by (fun _ kt => XS.bipush X61.here hx rfl (hb hby at_196) kt) ?_
  show own_Go p.tables e below (T61.setTop (mkF m 198 #[.val (.int p0), .val (.int p1), .val (.int p2), .val (.int p3), .unset, .unset, .unset, .unset, .unset, .unset] [(.int (30 : Int32)), (.ref b1), (.ref b1)])) _
  refine own_by (fun _ kt => XS.iconst X61.here hx rfl (hb hby at_198) kt) ?_
  show own_Go p.tables e below (T61.setTop (mkF m 199 #[.val (.int p0), .val (.int p1), .val (.int p2), .val (.int p3), .unset, .unset, .unset, .unset, .unset, .unset] [(.int (0 : Int32)), (.int (30 : Int32)), (.ref b1), (.ref b1)])) _
  obtain ⟨cl63, Ar63, q63, S63, M63, H63, G63⟩ := f62
  obtain ⟨T63, h63, X63, e63, W63, st63⟩ := stI X61 hx hZ e61 Ar63 (j := (30 : Int32)) (inb_of S63 ⟨by decide, by decide⟩) (g := (mkF m 199 #[.val (.int p0), .val (.int p1), .val (.int p2), .val (.int p3), .unset, .unset, .unset, .unset, .unset, .unset] [(.int (0 : Int32)), (.int (30 : Int32)), (.ref b1), (.ref b1)])) rfl rfl (hb hby at_199)
  have f64 : Arv Z h63 b1 k1 .int (33 : Int32) [(.int (58 : Int32)), (.int (65 : Int32)), (.int (90 : Int32)), (.int (95 : Int32)), (.int (97 : Int32)), (.int (122 : Int32)), (.int (192 : Int32)), (.int (214 : Int32)), (.int (216 : Int32)), (.int (246 : Int32)), (.int (248 : Int32)), (.int (767 : Int32)), (.int (880 : Int32)), (.int (893 : Int32)), (.int (895 : Int32)), (.int (8191 : Int32)), (.int (8204 : Int32)), (.int (8205 : Int32)), (.int (8304 : Int32)), (.int (8591 : Int32)), (.int (11264 : Int32)), (.int (12271 : Int32)), (.int (12289 : Int32)), (.int (55295 : Int32)), (.int (63744 : Int32)), (.int (64975 : Int32)), (.int (65008 : Int32)), (.int (65533 : Int32)), (.int (65536 : Int32)), (.int (983039 : Int32)), (.int (0 : Int32)), (.int (0 : Int32)), (.int (0 : Int32))] (.int (0 : Int32)) := Arv.set Ar63 q63 S63 M63 H63 G63 rfl W63 30 rfl (Nat.le_of_ble_eq_true rfl)
  have Zs63 : n0 ≤ h63.size := by rw [W63.size]; exact Zs61
  have N63 := Fr.snoc X63 N61 gn_b1
  refine own_by st63 ?_
  show own_Go p.tables e below (T63.setTop (mkF m 200 #[.val (.int p0), .val (.int p1), .val (.int p2), .val (.int p3), .unset, .unset, .unset, .unset, .unset, .unset] [(.ref b1)])) _
  refine own_by (fun _ kt => XS.dup X63.here hx rfl (hb hby at_200) rfl rfl kt) ?_
  show own_Go p.tables e below (T63.setTop (mkF m 201 #[.val (.int p0), .val (.int p1), .val (.int p2), .val (.int p3), .unset, .unset, .unset, .unset, .unset, .unset] [(.ref b1), (.ref b1)])) _
  refine own_by (fun _ kt => XS.bipush X63.here hx rfl (hb hby at_201) kt) ?_
  show own_Go p.tables e below (T63.setTop (mkF m 203 #[.val (.int p0), .val (.int p1), .val (.int p2), .val (.int p3), .unset, .unset, .unset, .unset, .unset, .unset] [(.int (31 : Int32)), (.ref b1), (.ref b1)])) _
  refine own_by (X63.ldcInt hx hown (mvT hZ (hw _ (List.mem_of_getElem? (i := 8) rfl))) (g := (mkF m 203 #[.val (.int p0), .val (.int p1), .val (.int p2), .val (.int p3), .unset, .unset, .unset, .unset, .unset, .unset] [(.int (31 : Int32)), (.ref b1), (.ref b1)])) rfl (hb hby at_203)) ?_
  show own_Go p.tables e below (T63.setTop (mkF m 205 #[.val (.int p0), .val (.int p1), .val (.int p2), .val (.int p3), .unset, .unset, .unset, .unset, .unset, .unset] [(.int (-2147483648 : Int32)), (.int (31 : Int32)), (.ref b1), (.ref b1)])) _
  obtain ⟨cl65, Ar65, q65, S65, M65, H65, G65⟩ := f64
  obtain ⟨T65, h65, X65, e65, W65, st65⟩ := stI X63 hx hZ e63 Ar65 (j := (31 : Int32)) (inb_of S65 ⟨by decide, by decide⟩) (g := (mkF m 205 #[.val (.int p0), .val (.int p1), .val (.int p2), .val (.int p3), .unset, .unset, .unset, .unset, .unset, .unset] [(.int (-2147483648 : Int32)), (.int (31 : Int32)), (.ref b1), (.ref b1)])) rfl rfl (hb hby at_205)
  have f66 : Arv Z h65 b1 k1 .int (33 : Int32) [(.int (58 : Int32)), (.int (65 : Int32)), (.int (90 : Int32)), (.int (95 : Int32)), (.int (97 : Int32)), (.int (122 : Int32)), (.int (192 : Int32)), (.int (214 : Int32)), (.int (216 : Int32)), (.int (246 : Int32)), (.int (248 : Int32)), (.int (767 : Int32)), (.int (880 : Int32)), (.int (893 : Int32)), (.int (895 : Int32)), (.int (8191 : Int32)), (.int (8204 : Int32)), (.int (8205 : Int32)), (.int (8304 : Int32)), (.int (8591 : Int32)), (.int (11264 : Int32)), (.int (12271 : Int32)), (.int (12289 : Int32)), (.int (55295 : Int32)), (.int (63744 : Int32)), (.int (64975 : Int32)), (.int (65008 : Int32)), (.int (65533 : Int32)), (.int (65536 : Int32)), (.int (983039 : Int32)), (.int (0 : Int32)), (.int (-2147483648 : Int32)), (.int (0 : Int32))] (.int (0 : Int32)) := Arv.set Ar65 q65 S65 M65 H65 G65 rfl W65 31 rfl (Nat.le_of_ble_eq_true rfl)
  have Zs65 : n0 ≤ h65.size := by rw [W65.size]; exact Zs63
  have N65 := Fr.snoc X65 N63 gn_b1
  refine own_by st65 ?_
  show own_Go p.tables e below (T65.setTop (mkF m 206 #[.val (.int p0), .val (.int p1), .val (.int p2), .val (.int p3), .unset, .unset, .unset, .unset, .unset, .unset] [(.ref b1)])) _
  refine own_by (fun _ kt => XS.dup X65.here hx rfl (hb hby at_206) rfl rfl kt) ?_
  show own_Go p.tables e below (T65.setTop (mkF m 207 #[.val (.int p0), .val (.int p1), .val (.int p2), .val (.int p3), .unset, .unset, .unset, .unset, .unset, .unset] [(.ref b1), (.ref b1)])) _
  refine own_by (fun _ kt => XS.bipush X65.here hx rfl (hb hby at_207) kt) ?_
  show own_Go p.tables e below (T65.setTop (mkF m 209 #[.val (.int p0), .val (.int p1), .val (.int p2), .val (.int p3), .unset, .unset, .unset, .unset, .unset, .unset] [(.int (32 : Int32)), (.ref b1), (.ref b1)])) _
  refine own_by (X65.ldcInt hx hown (mvT hZ (hw _ (List.mem_of_getElem? (i := 9) rfl))) (g := (mkF m 209 #[.val (.int p0), .val (.int p1), .val (.int p2), .val (.int p3), .unset, .unset, .unset, .unset, .unset, .unset] [(.int (32 : Int32)), (.ref b1), (.ref b1)])) rfl (hb hby at_209)) ?_
  show own_Go p.tables e below (T65.setTop (mkF m 211 #[.val (.int p0), .val (.int p1), .val (.int p2), .val (.int p3), .unset, .unset, .unset, .unset, .unset, .unset] [(.int (2147483647 : Int32)), (.int (32 : Int32)), (.ref b1), (.ref b1)])) _
  obtain ⟨cl67, Ar67, q67, S67, M67, H67, G67⟩ := f66
  obtain ⟨T67, h67, X67, e67, W67, st67⟩ := stI X65 hx hZ e65 Ar67 (j := (32 : Int32)) (inb_of S67 ⟨by decide, by decide⟩) (g := (mkF m 211 #[.val (.int p0), .val (.int p1), .val (.int p2), .val (.int p3), .unset, .unset, .unset, .unset, .unset, .unset] [(.int (2147483647 : Int32)), (.int (32 : Int32)), (.ref b1), (.ref b1)])) rfl rfl (hb hby at_211)
  have f68 : Arv Z h67 b1 k1 .int (33 : Int32) [(.int (58 : Int32)), (.int (65 : Int32)), (.int (90 : Int32)), (.int (95 : Int32)), (.int (97 : Int32)), (.int (122 : Int32)), (.int (192 : Int32)), (.int (214 : Int32)), (.int (216 : Int32)), (.int (246 : Int32)), (.int (248 : Int32)), (.int (767 : Int32)), (.int (880 : Int32)), (.int (893 : Int32)), (.int (895 : Int32)), (.int (8191 : Int32)), (.int (8204 : Int32)), (.int (8205 : Int32)), (.int (8304 : Int32)), (.int (8591 : Int32)), (.int (11264 : Int32)), (.int (12271 : Int32)), (.int (12289 : Int32)), (.int (55295 : Int32)), (.int (63744 : Int32)), (.int (64975 : Int32)), (.int (65008 : Int32)), (.int (65533 : Int32)), (.int (65536 : Int32)), (.int (983039 : Int32)), (.int (0 : Int32)), (.int (-2147483648 : Int32)), (.int (2147483647 : Int32))] (.int (0 : Int32)) := Arv.set Ar67 q67 S67 M67 H67 G67 rfl W67 32 rfl (Nat.le_of_ble_eq_true rfl)
  have Zs67 : n0 ≤ h67.size := by rw [W67.size]; exact Zs65
  have N67 := Fr.snoc X67 N65 gn_b1
  refine own_by st67 ?_
  show own_Go p.tables e below (T67.setTop (mkF m 212 #[.val (.int p0), .val (.int p1), .val (.int p2), .val (.int p3), .unset, .unset, .unset, .unset, .unset, .unset] [(.ref b1)])) _
  refine own_by (fun _ kt => XS.astore X67.here hx rfl (hb hby at_212) rfl rfl (l' := #[.val (.int p0), .val (.int p1), .val (.int p2), .val (.int p3), .val (.ref b1), .unset, .unset, .unset, .unset, .unset]) rfl kt) ?_
  show own_Go p.tables e below (T67.setTop (mkF m 214 #[.val (.int p0), .val (.int p1), .val (.int p2), .val (.int p3), .val (.ref b1), .unset, .unset, .unset, .unset, .unset] [])) _
  refine own_by (fun _ kt => XS.iloadN X67.here hx rfl (hb hby at_214) rfl kt) ?_
  show own_Go p.tables e below (T67.setTop (mkF m 215 #[.val (.int p0), .val (.int p1), .val (.int p2), .val (.int p3), .val (.ref b1), .unset, .unset, .unset, .unset, .unset] [(.int p2)])) _
  refine own_by (X67.ldcInt hx hown (mvT hZ (hw _ (List.mem_of_getElem? (i := 9) rfl))) (g := (mkF m 215 #[.val (.int p0), .val (.int p1), .val (.int p2), .val (.int p3), .val (.ref b1), .unset, .unset, .unset, .unset, .unset] [(.int p2)])) rfl (hb hby at_215)) ?_
  show own_Go p.tables e below (T67.setTop (mkF m 217 #[.val (.int p0), .val (.int p1), .val (.int p2), .val (.int p3), .val (.ref b1), .unset, .unset, .unset, .unset, .unset] [(.int (2147483647 : Int32)), (.int p2)])) _
  refine own_by (fun _ kt => XS.iand X67.here hx rfl (hb hby at_217) rfl kt) ?_
  show own_Go p.tables e below (T67.setTop (mkF m 218 #[.val (.int p0), .val (.int p1), .val (.int p2), .val (.int p3), .val (.ref b1), .unset, .unset, .unset, .unset, .unset] [(.int (p2 &&& (2147483647 : Int32)))])) _
  refine own_by (fun _ kt => XS.bipush X67.here hx rfl (hb hby at_218) kt) ?_
  show own_Go p.tables e below (T67.setTop (mkF m 220 #[.val (.int p0), .val (.int p1), .val (.int p2), .val (.int p3), .val (.ref b1), .unset, .unset, .unset, .unset, .unset] [(.int (33 : Int32)), (.int (p2 &&& (2147483647 : Int32)))])) _
  refine own_by (fun _ kt => iremM X67 hx rfl (hb hby at_220) rfl (by decide) kt) ?_
  show own_Go p.tables e below (T67.setTop (mkF m 221 #[.val (.int p0), .val (.int p1), .val (.int p2), .val (.int p3), .val (.ref b1), .unset, .unset, .unset, .unset, .unset] [(.int ((p2 &&& (2147483647 : Int32)) % (33 : Int32)))])) _
  refine own_by (fun _ kt => XS.istore X67.here hx rfl (hb hby at_221) rfl (l' := #[.val (.int p0), .val (.int p1), .val (.int p2), .val (.int p3), .val (.ref b1), .val (.int ((p2 &&& (2147483647 : Int32)) % (33 : Int32))), .unset, .unset, .unset, .unset]) rfl kt) ?_
  show own_Go p.tables e below (T67.setTop (mkF m 223 #[.val (.int p0), .val (.int p1), .val (.int p2), .val (.int p3), .val (.ref b1), .val (.int ((p2 &&& (2147483647 : Int32)) % (33 : Int32))), .unset, .unset, .unset, .unset] [])) _
  refine own_by (fun _ kt => XS.iloadN X67.here hx rfl (hb hby at_223) rfl kt) ?_
  show own_Go p.tables e below (T67.setTop (mkF m 224 #[.val (.int p0), .val (.int p1), .val (.int p2), .val (.int p3), .val (.ref b1), .val (.int ((p2 &&& (2147483647 : Int32)) % (33 : Int32))), .unset, .unset, .unset, .unset] [(.int p3)])) _
  refine own_by (X67.ldcInt hx hown (mvT hZ (hw _ (List.mem_of_getElem? (i := 9) rfl))) (g := (mkF m 224 #[.val (.int p0), .val (.int p1), .val (.int p2), .val (.int p3), .val (.ref b1), .val (.int ((p2 &&& (2147483647 : Int32)) % (33 : Int32))), .unset, .unset, .unset, .unset] [(.int p3)])) rfl (hb hby at_224)) ?_
  show own_Go p.tables e below (T67.setTop (mkF m 226 #[.val (.int p0), .val (.int p1), .val (.int p2), .val (.int p3), .val (.ref b1), .val (.int ((p2 &&& (2147483647 : Int32)) % (33 : Int32))), .unset, .unset, .unset, .unset] [(.int (2147483647 : Int32)), (.int p3)])) _
  refine own_by (fun _ kt => XS.iand X67.here hx rfl (hb hby at_226) rfl kt) ?_
  show own_Go p.tables e below (T67.setTop (mkF m 227 #[.val (.int p0), .val (.int p1), .val (.int p2), .val (.int p3), .val (.ref b1), .val (.int ((p2 &&& (2147483647 : Int32)) % (33 : Int32))), .unset, .unset, .unset, .unset] [(.int (p3 &&& (2147483647 : Int32)))])) _
  refine own_by (fun _ kt => XS.iconst X67.here hx rfl (hb hby at_227) kt) ?_
  show own_Go p.tables e below (T67.setTop (mkF m 228 #[.val (.int p0), .val (.int p1), .val (.int p2), .val (.int p3), .val (.ref b1), .val (.int ((p2 &&& (2147483647 : Int32)) % (33 : Int32))), .unset, .unset, .unset, .unset] [(.int (5 : Int32)), (.int (p3 &&& (2147483647 : Int32)))])) _
  refine own_by (fun _ kt => iremM X67 hx rfl (hb hby at_228) rfl (by decide) kt) ?_
  show own_Go p.tables e below (T67.setTop (mkF m 229 #[.val (.int p0), .val (.int p1), .val (.int p2), .val (.int p3), .val (.ref b1), .val (.int ((p2 &&& (2147483647 : Int32)) % (33 : Int32))), .unset, .unset, .unset, .unset] [(.int ((p3 &&& (2147483647 : Int32)) % (5 : Int32)))])) _
  refine own_by (fun _ kt => XS.iconst X67.here hx rfl (hb hby at_229) kt) ?_
  show own_Go p.tables e below (T67.setTop (mkF m 230 #[.val (.int p0), .val (.int p1), .val (.int p2), .val (.int p3), .val (.ref b1), .val (.int ((p2 &&& (2147483647 : Int32)) % (33 : Int32))), .unset, .unset, .unset, .unset] [(.int (2 : Int32)), (.int ((p3 &&& (2147483647 : Int32)) % (5 : Int32)))])) _
  refine own_by (fun _ kt => XS.isub X67.here hx rfl (hb hby at_230) rfl kt) ?_
  show own_Go p.tables e below (T67.setTop (mkF m 231 #[.val (.int p0), .val (.int p1), .val (.int p2), .val (.int p3), .val (.ref b1), .val (.int ((p2 &&& (2147483647 : Int32)) % (33 : Int32))), .unset, .unset, .unset, .unset] [(.int (((p3 &&& (2147483647 : Int32)) % (5 : Int32)) - (2 : Int32)))])) _
  refine own_by (fun _ kt => XS.istore X67.here hx rfl (hb hby at_231) rfl (l' := #[.val (.int p0), .val (.int p1), .val (.int p2), .val (.int p3), .val (.ref b1), .val (.int ((p2 &&& (2147483647 : Int32)) % (33 : Int32))), .val (.int (((p3 &&& (2147483647 : Int32)) % (5 : Int32)) - (2 : Int32))), .unset, .unset, .unset]) rfl kt) ?_
  show own_Go p.tables e below (T67.setTop (mkF m 233 #[.val (.int p0), .val (.int p1), .val (.int p2), .val (.int p3), .val (.ref b1), .val (.int ((p2 &&& (2147483647 : Int32)) % (33 : Int32))), .val (.int (((p3 &&& (2147483647 : Int32)) % (5 : Int32)) - (2 : Int32))), .unset, .unset, .unset] [])) _
  refine own_by (fun _ kt => XS.aload X67.here hx rfl (hb hby at_233) rfl rfl kt) ?_
  show own_Go p.tables e below (T67.setTop (mkF m 235 #[.val (.int p0), .val (.int p1), .val (.int p2), .val (.int p3), .val (.ref b1), .val (.int ((p2 &&& (2147483647 : Int32)) % (33 : Int32))), .val (.int (((p3 &&& (2147483647 : Int32)) % (5 : Int32)) - (2 : Int32))), .unset, .unset, .unset] [(.ref b1)])) _
  refine own_by (fun _ kt => XS.iload X67.here hx rfl (hb hby at_235) rfl kt) ?_
  show own_Go p.tables e below (T67.setTop (mkF m 237 #[.val (.int p0), .val (.int p1), .val (.int p2), .val (.int p3), .val (.ref b1), .val (.int ((p2 &&& (2147483647 : Int32)) % (33 : Int32))), .val (.int (((p3 &&& (2147483647 : Int32)) % (5 : Int32)) - (2 : Int32))), .unset, .unset, .unset] [(.int ((p2 &&& (2147483647 : Int32)) % (33 : Int32))), (.ref b1)])) _
  refine own_by (own_iaload X67 hx hZ e67 f68 (j := ((p2 &&& (2147483647 : Int32)) % (33 : Int32))) (v := (.int (own_at ((p2 &&& (2147483647 : Int32)) % (33 : Int32)).toNatClampNeg))) (own_ix p2) (own_get33 _) (g := (mkF m 237 #[.val (.int p0), .val (.int p1), .val (.int p2), .val (.int p3), .val (.ref b1), .val (.int ((p2 &&& (2147483647 : Int32)) % (33 : Int32))), .val (.int (((p3 &&& (2147483647 : Int32)) % (5 : Int32)) - (2 : Int32))), .unset, .unset, .unset] [(.int ((p2 &&& (2147483647 : Int32)) % (33 : Int32))), (.ref b1)])) rfl rfl (hb hby at_237)) ?_
  show own_Go p.tables e below (T67.setTop (mkF m 238 #[.val (.int p0), .val (.int p1), .val (.int p2), .val (.int p3), .val (.ref b1), .val (.int ((p2 &&& (2147483647 : Int32)) % (33 : Int32))), .val (.int (((p3 &&& (2147483647 : Int32)) % (5 : Int32)) - (2 : Int32))), .unset, .unset, .unset] [(.int (own_at ((p2 &&& (2147483647 : Int32)) % (33 : Int32)).toNatClampNeg))])) _
  generalize (own_at ((p2 &&& (2147483647 : Int32)) % (33 : Int32)).toNatClampNeg) = c1
  show own_Go p.tables e below (T67.setTop (mkF m 238 #[.val (.int p0), .val (.int p1), .val (.int p2), .val (.int p3), .val (.ref b1), .val (.int ((p2 &&& (2147483647 : Int32)) % (33 : Int32))), .val (.int (((p3 &&& (2147483647 : Int32)) % (5 : Int32)) - (2 : Int32))), .unset, .unset, .unset] [(.int c1)])) _
  refine own_by (fun _ kt => XS.iload X67.here hx rfl (hb hby at_238) rfl kt) ?_
  show own_Go p.tables e below (T67.setTop (mkF m 240 #[.val (.int p0), .val (.int p1), .val (.int p2), .val (.int p3), .val (.ref b1), .val (.int ((p2 &&& (2147483647 : Int32)) % (33 : Int32))), .val (.int (((p3 &&& (2147483647 : Int32)) % (5 : Int32)) - (2 : Int32))), .unset, .unset, .unset] [(.int (((p3 &&& (2147483647 : Int32)) % (5 : Int32)) - (2 : Int32))), (.int c1)])) _
  refine own_by (fun _ kt => XS.iadd X67.here hx rfl (hb hby at_240) rfl kt) ?_
  show own_Go p.tables e below (T67.setTop (mkF m 241 #[.val (.int p0), .val (.int p1), .val (.int p2), .val (.int p3), .val (.ref b1), .val (.int ((p2 &&& (2147483647 : Int32)) % (33 : Int32))), .val (.int (((p3 &&& (2147483647 : Int32)) % (5 : Int32)) - (2 : Int32))), .unset, .unset, .unset] [(.int (c1 + (((p3 &&& (2147483647 : Int32)) % (5 : Int32)) - (2 : Int32))))])) _
  refine own_by (fun _ kt => XS.istore X67.here hx rfl (hb hby at_241) rfl (l' := #[.val (.int p0), .val (.int p1), .val (.int p2), .val (.int p3), .val (.ref b1), .val (.int ((p2 &&& (2147483647 : Int32)) % (33 : Int32))), .val (.int (((p3 &&& (2147483647 : Int32)) % (5 : Int32)) - (2 : Int32))), .val (.int (c1 + (((p3 &&& (2147483647 : Int32)) % (5 : Int32)) - (2 : Int32)))), .unset, .unset]) rfl kt) ?_
  show own_Go p.tables e below (T67.setTop (mkF m 243 #[.val (.int p0), .val (.int p1), .val (.int p2), .val (.int p3), .val (.ref b1), .val (.int ((p2 &&& (2147483647 : Int32)) % (33 : Int32))), .val (.int (((p3 &&& (2147483647 : Int32)) % (5 : Int32)) - (2 : Int32))), .val (.int (c1 + (((p3 &&& (2147483647 : Int32)) % (5 : Int32)) - (2 : Int32)))), .unset, .unset] [])) _
  refine own_by (fun _ kt => XS.iloadN X67.here hx rfl (hb hby at_243) rfl kt) ?_
  show own_Go p.tables e below (T67.setTop (mkF m 244 #[.val (.int p0), .val (.int p1), .val (.int p2), .val (.int p3), .val (.ref b1), .val (.int ((p2 &&& (2147483647 : Int32)) % (33 : Int32))), .val (.int (((p3 &&& (2147483647 : Int32)) % (5 : Int32)) - (2 : Int32))), .val (.int (c1 + (((p3 &&& (2147483647 : Int32)) % (5 : Int32)) - (2 : Int32)))), .unset, .unset] [(.int p1)])) _
  refine own_by (X67.ldcInt hx hown (mvT hZ (hw _ (List.mem_of_getElem? (i := 10) rfl))) (g := (mkF m 244 #[.val (.int p0), .val (.int p1), .val (.int p2), .val (.int p3), .val (.ref b1), .val (.int ((p2 &&& (2147483647 : Int32)) % (33 : Int32))), .val (.int (((p3 &&& (2147483647 : Int32)) % (5 : Int32)) - (2 : Int32))), .val (.int (c1 + (((p3 &&& (2147483647 : Int32)) % (5 : Int32)) - (2 : Int32)))), .unset, .unset] [(.int p1)])) rfl (hb hby at_244)) ?_
  show own_Go p.tables e below (T67.setTop (mkF m 246 #[.val (.int p0), .val (.int p1), .val (.int p2), .val (.int p3), .val (.ref b1), .val (.int ((p2 &&& (2147483647 : Int32)) % (33 : Int32))), .val (.int (((p3 &&& (2147483647 : Int32)) % (5 : Int32)) - (2 : Int32))), .val (.int (c1 + (((p3 &&& (2147483647 : Int32)) % (5 : Int32)) - (2 : Int32)))), .unset, .unset] [(.int (65535 : Int32)), (.int p1)])) _
  refine own_by (fun _ kt => XS.iand X67.here hx rfl (hb hby at_246) rfl kt) ?_
  show own_Go p.tables e below (T67.setTop (mkF m 247 #[.val (.int p0), .val (.int p1), .val (.int p2), .val (.int p3), .val (.ref b1), .val (.int ((p2 &&& (2147483647 : Int32)) % (33 : Int32))), .val (.int (((p3 &&& (2147483647 : Int32)) % (5 : Int32)) - (2 : Int32))), .val (.int (c1 + (((p3 &&& (2147483647 : Int32)) % (5 : Int32)) - (2 : Int32)))), .unset, .unset] [(.int (p1 &&& (65535 : Int32)))])) _
  refine own_by (fun _ kt => XS.istore X67.here hx rfl (hb hby at_247) rfl (l' := #[.val (.int p0), .val (.int p1), .val (.int p2), .val (.int p3), .val (.ref b1), .val (.int ((p2 &&& (2147483647 : Int32)) % (33 : Int32))), .val (.int (((p3 &&& (2147483647 : Int32)) % (5 : Int32)) - (2 : Int32))), .val (.int (c1 + (((p3 &&& (2147483647 : Int32)) % (5 : Int32)) - (2 : Int32)))), .val (.int (p1 &&& (65535 : Int32))), .unset]) rfl kt) ?_
  show own_Go p.tables e below (T67.setTop (mkF m 249 #[.val (.int p0), .val (.int p1), .val (.int p2), .val (.int p3), .val (.ref b1), .val (.int ((p2 &&& (2147483647 : Int32)) % (33 : Int32))), .val (.int (((p3 &&& (2147483647 : Int32)) % (5 : Int32)) - (2 : Int32))), .val (.int (c1 + (((p3 &&& (2147483647 : Int32)) % (5 : Int32)) - (2 : Int32)))), .val (.int (p1 &&& (65535 : Int32))), .unset] [])) _
  refine own_by (fun _ kt => XS.iloadN X67.here hx rfl (hb hby at_249) rfl kt) ?_
  show own_Go p.tables e below (T67.setTop (mkF m 250 #[.val (.int p0), .val (.int p1), .val (.int p2), .val (.int p3), .val (.ref b1), .val (.int ((p2 &&& (2147483647 : Int32)) % (33 : Int32))), .val (.int (((p3 &&& (2147483647 : Int32)) % (5 : Int32)) - (2 : Int32))), .val (.int (c1 + (((p3 &&& (2147483647 : Int32)) % (5 : Int32)) - (2 : Int32)))), .val (.int (p1 &&& (65535 : Int32))), .unset] [(.int p1)])) _
  refine own_by (fun _ kt => XS.bipush X67.here hx rfl (hb hby at_250) kt) ?_
  show own_Go p.tables e below (T67.setTop (mkF m 252 #[.val (.int p0), .val (.int p1), .val (.int p2), .val (.int p3), .val (.ref b1), .val (.int ((p2 &&& (2147483647 : Int32)) % (33 : Int32))), .val (.int (((p3 &&& (2147483647 : Int32)) % (5 : Int32)) - (2 : Int32))), .val (.int (c1 + (((p3 &&& (2147483647 : Int32)) % (5 : Int32)) - (2 : Int32)))), .val (.int (p1 &&& (65535 : Int32))), .unset] [(.int (11 : Int32)), (.int p1)])) _
  refine own_by (fun _ kt => XS.iushr X67.here hx rfl (hb hby at_252) rfl kt) ?_
  show own_Go p.tables e below (T67.setTop (mkF m 253 #[.val (.int p0), .val (.int p1), .val (.int p2), .val (.int p3), .val (.ref b1), .val (.int ((p2 &&& (2147483647 : Int32)) % (33 : Int32))), .val (.int (((p3 &&& (2147483647 : Int32)) % (5 : Int32)) - (2 : Int32))), .val (.int (c1 + (((p3 &&& (2147483647 : Int32)) % (5 : Int32)) - (2 : Int32)))), .val (.int (p1 &&& (65535 : Int32))), .unset] [(.int ((p1.toUInt32 >>> ((11 : Int32) &&& 31).toUInt32).toInt32))])) _
  refine own_by (fun _ kt => XS.istore X67.here hx rfl (hb hby at_253) rfl (l' := #[.val (.int p0), .val (.int p1), .val (.int p2), .val (.int p3), .val (.ref b1), .val (.int ((p2 &&& (2147483647 : Int32)) % (33 : Int32))), .val (.int (((p3 &&& (2147483647 : Int32)) % (5 : Int32)) - (2 : Int32))), .val (.int (c1 + (((p3 &&& (2147483647 : Int32)) % (5 : Int32)) - (2 : Int32)))), .val (.int (p1 &&& (65535 : Int32))), .val (.int ((p1.toUInt32 >>> ((11 : Int32) &&& 31).toUInt32).toInt32))]) rfl kt) ?_
  show own_Go p.tables e below (T67.setTop (mkF m 255 #[.val (.int p0), .val (.int p1), .val (.int p2), .val (.int p3), .val (.ref b1), .val (.int ((p2 &&& (2147483647 : Int32)) % (33 : Int32))), .val (.int (((p3 &&& (2147483647 : Int32)) % (5 : Int32)) - (2 : Int32))), .val (.int (c1 + (((p3 &&& (2147483647 : Int32)) % (5 : Int32)) - (2 : Int32)))), .val (.int (p1 &&& (65535 : Int32))), .val (.int ((p1.toUInt32 >>> ((11 : Int32) &&& 31).toUInt32).toInt32))] [])) _
  refine own_by (fun _ kt => XS.iloadN X67.here hx rfl (hb hby at_255) rfl kt) ?_
  show own_Go p.tables e below (T67.setTop (mkF m 256 #[.val (.int p0), .val (.int p1), .val (.int p2), .val (.int p3), .val (.ref b1), .val (.int ((p2 &&& (2147483647 : Int32)) % (33 : Int32))), .val (.int (((p3 &&& (2147483647 : Int32)) % (5 : Int32)) - (2 : Int32))), .val (.int (c1 + (((p3 &&& (2147483647 : Int32)) % (5 : Int32)) - (2 : Int32)))), .val (.int (p1 &&& (65535 : Int32))), .val (.int ((p1.toUInt32 >>> ((11 : Int32) &&& 31).toUInt32).toInt32))] [(.int p0)])) _
  obtain ⟨_, _, ⟨T69, L69, k69, n69⟩, -, X69, ⟨Lc69, hQ69, l69, y69, z69⟩, st69⟩ := Jvm.LawKit.callS X67 hx (y := (⟨"com/example/ivaldi/ivaldi/model/NameCharactersIsNameStartPinLaw", "ok", "(I)Z"⟩ : MethodName)) hown (mvT hZ (hw _ (List.mem_of_getElem? (i := 11) rfl))) (mvT hZ (hw _ (List.mem_of_getElem? (i := 12) rfl))) (mvT hZ (hw _ (List.mem_of_getElem? (i := 13) rfl))) (mvT hZ (hw _ (List.mem_of_getElem? (i := 14) rfl))) (by decide) (backOf (W := 0) (rm_ok l Z a0 hw [] p0  h67 n0 Zs67 ) hZ (hw _ (List.mem_of_getElem? (i := 14) rfl)) (hw _ (List.mem_of_getElem? (i := 13) rfl)) (by decide) (by decide)) (g := (mkF m 256 #[.val (.int p0), .val (.int p1), .val (.int p2), .val (.int p3), .val (.ref b1), .val (.int ((p2 &&& (2147483647 : Int32)) % (33 : Int32))), .val (.int (((p3 &&& (2147483647 : Int32)) % (5 : Int32)) - (2 : Int32))), .val (.int (c1 + (((p3 &&& (2147483647 : Int32)) % (5 : Int32)) - (2 : Int32)))), .val (.int (p1 &&& (65535 : Int32))), .val (.int ((p1.toUInt32 >>> ((11 : Int32) &&& 31).toUInt32).toInt32))] [(.int p0)])) rfl (by rw [hml]; rfl) (argsL := [(.int p0)]) (rest := []) (lenOf pd_0 rfl) rfl (by show 2 * 0 + _ ≤ _; exact Nat.le_of_eq rfl) (hb hby at_256) (fun _ _ => ⟨rfl, e67, (by decide : 1 + 0 ≤ _), (by decide : 33 + 0 ≤ _)⟩)
  dsimp only [Pt.U, Pt.locs, Pt.cells, Pt.slots] at X69 l69 y69 z69 st69 hQ69
  obtain rfl : k69 = 1 := y69
  obtain rfl : n69 = 33 := z69
  obtain ⟨rfl, Nq69, eh69⟩ := hQ69
  have N69 : Fr n0 L69 := by rw [l69]; exact Fr.app N67 Nq69
  refine own_by (st69) ?_
  show own_Go p.tables e below (T69.setTop (mkF m 259 #[.val (.int p0), .val (.int p1), .val (.int p2), .val (.int p3), .val (.ref b1), .val (.int ((p2 &&& (2147483647 : Int32)) % (33 : Int32))), .val (.int (((p3 &&& (2147483647 : Int32)) % (5 : Int32)) - (2 : Int32))), .val (.int (c1 + (((p3 &&& (2147483647 : Int32)) % (5 : Int32)) - (2 : Int32)))), .val (.int (p1 &&& (65535 : Int32))), .val (.int ((p1.toUInt32 >>> ((11 : Int32) &&& 31).toUInt32).toInt32))] [(.int (1 : Int32))])) _
  refine own_by (fun _ kt => XS.ifNo X69.here hx rfl (hb hby at_259) rfl ((if0 _ _).trans (feq (by decide : ¬ ((1 : Int32) = (0 : Int32)))).1) kt) ?_
  show own_Go p.tables e below (T69.setTop (mkF m 262 #[.val (.int p0), .val (.int p1), .val (.int p2), .val (.int p3), .val (.ref b1), .val (.int ((p2 &&& (2147483647 : Int32)) % (33 : Int32))), .val (.int (((p3 &&& (2147483647 : Int32)) % (5 : Int32)) - (2 : Int32))), .val (.int (c1 + (((p3 &&& (2147483647 : Int32)) % (5 : Int32)) - (2 : Int32)))), .val (.int (p1 &&& (65535 : Int32))), .val (.int ((p1.toUInt32 >>> ((11 : Int32) &&& 31).toUInt32).toInt32))] [])) _
  refine own_by (fun _ kt => XS.iload X69.here hx rfl (hb hby at_262) rfl kt) ?_
  show own_Go p.tables e below (T69.setTop (mkF m 264 #[.val (.int p0), .val (.int p1), .val (.int p2), .val (.int p3), .val (.ref b1), .val (.int ((p2 &&& (2147483647 : Int32)) % (33 : Int32))), .val (.int (((p3 &&& (2147483647 : Int32)) % (5 : Int32)) - (2 : Int32))), .val (.int (c1 + (((p3 &&& (2147483647 : Int32)) % (5 : Int32)) - (2 : Int32)))), .val (.int (p1 &&& (65535 : Int32))), .val (.int ((p1.toUInt32 >>> ((11 : Int32) &&& 31).toUInt32).toInt32))] [(.int (c1 + (((p3 &&& (2147483647 : Int32)) % (5 : Int32)) - (2 : Int32))))])) _
  obtain ⟨_, _, ⟨T70, L70, k70, n70⟩, -, X70, ⟨Lc70, hQ70, l70, y70, z70⟩, st70⟩ := Jvm.LawKit.callS X69 hx (y := (⟨"com/example/ivaldi/ivaldi/model/NameCharactersIsNameStartPinLaw", "ok", "(I)Z"⟩ : MethodName)) hown (mvT hZ (hw _ (List.mem_of_getElem? (i := 11) rfl))) (mvT hZ (hw _ (List.mem_of_getElem? (i := 12) rfl))) (mvT hZ (hw _ (List.mem_of_getElem? (i := 13) rfl))) (mvT hZ (hw _ (List.mem_of_getElem? (i := 14) rfl))) (by decide) (backOf (W := 0) (rm_ok l Z a0 hw [] (c1 + (((p3 &&& (2147483647 : Int32)) % (5 : Int32)) - (2 : Int32)))  h67 n0 Zs67 ) hZ (hw _ (List.mem_of_getElem? (i := 14) rfl)) (hw _ (List.mem_of_getElem? (i := 13) rfl)) (by decide) (by decide)) (g := (mkF m 264 #[.val (.int p0), .val (.int p1), .val (.int p2), .val (.int p3), .val (.ref b1), .val (.int ((p2 &&& (2147483647 : Int32)) % (33 : Int32))), .val (.int (((p3 &&& (2147483647 : Int32)) % (5 : Int32)) - (2 : Int32))), .val (.int (c1 + (((p3 &&& (2147483647 : Int32)) % (5 : Int32)) - (2 : Int32)))), .val (.int (p1 &&& (65535 : Int32))), .val (.int ((p1.toUInt32 >>> ((11 : Int32) &&& 31).toUInt32).toInt32))] [(.int (c1 + (((p3 &&& (2147483647 : Int32)) % (5 : Int32)) - (2 : Int32))))])) rfl (by rw [hml]; rfl) (argsL := [(.int (c1 + (((p3 &&& (2147483647 : Int32)) % (5 : Int32)) - (2 : Int32))))]) (rest := []) (lenOf pd_0 rfl) rfl (by show 2 * 0 + _ ≤ _; exact Nat.le_of_eq rfl) (hb hby at_264) (fun _ _ => ⟨rfl, eh69, (by decide : 1 + 0 ≤ _), (by decide : 33 + 0 ≤ _)⟩)
  dsimp only [Pt.U, Pt.locs, Pt.cells, Pt.slots] at X70 l70 y70 z70 st70 hQ70
  obtain rfl : k70 = 1 := y70
  obtain rfl : n70 = 33 := z70
  obtain ⟨rfl, Nq70, eh70⟩ := hQ70
  have N70 : Fr n0 L70 := by rw [l70]; exact Fr.app N69 Nq70
  refine own_by (st70) ?_
  show own_Go p.tables e below (T70.setTop (mkF m 267 #[.val (.int p0), .val (.int p1), .val (.int p2), .val (.int p3), .val (.ref b1), .val (.int ((p2 &&& (2147483647 : Int32)) % (33 : Int32))), .val (.int (((p3 &&& (2147483647 : Int32)) % (5 : Int32)) - (2 : Int32))), .val (.int (c1 + (((p3 &&& (2147483647 : Int32)) % (5 : Int32)) - (2 : Int32)))), .val (.int (p1 &&& (65535 : Int32))), .val (.int ((p1.toUInt32 >>> ((11 : Int32) &&& 31).toUInt32).toInt32))] [(.int (1 : Int32))])) _
  refine own_by (fun _ kt => XS.ifNo X70.here hx rfl (hb hby at_267) rfl ((if0 _ _).trans (feq (by decide : ¬ ((1 : Int32) = (0 : Int32)))).1) kt) ?_
  show own_Go p.tables e below (T70.setTop (mkF m 270 #[.val (.int p0), .val (.int p1), .val (.int p2), .val (.int p3), .val (.ref b1), .val (.int ((p2 &&& (2147483647 : Int32)) % (33 : Int32))), .val (.int (((p3 &&& (2147483647 : Int32)) % (5 : Int32)) - (2 : Int32))), .val (.int (c1 + (((p3 &&& (2147483647 : Int32)) % (5 : Int32)) - (2 : Int32)))), .val (.int (p1 &&& (65535 : Int32))), .val (.int ((p1.toUInt32 >>> ((11 : Int32) &&& 31).toUInt32).toInt32))] [])) _
  refine own_by (fun _ kt => XS.iload X70.here hx rfl (hb hby at_270) rfl kt) ?_
  show own_Go p.tables e below (T70.setTop (mkF m 272 #[.val (.int p0), .val (.int p1), .val (.int p2), .val (.int p3), .val (.ref b1), .val (.int ((p2 &&& (2147483647 : Int32)) % (33 : Int32))), .val (.int (((p3 &&& (2147483647 : Int32)) % (5 : Int32)) - (2 : Int32))), .val (.int (c1 + (((p3 &&& (2147483647 : Int32)) % (5 : Int32)) - (2 : Int32)))), .val (.int (p1 &&& (65535 : Int32))), .val (.int ((p1.toUInt32 >>> ((11 : Int32) &&& 31).toUInt32).toInt32))] [(.int (p1 &&& (65535 : Int32)))])) _
  obtain ⟨_, _, ⟨T71, L71, k71, n71⟩, -, X71, ⟨Lc71, hQ71, l71, y71, z71⟩, st71⟩ := Jvm.LawKit.callS X70 hx (y := (⟨"com/example/ivaldi/ivaldi/model/NameCharactersIsNameStartPinLaw", "ok", "(I)Z"⟩ : MethodName)) hown (mvT hZ (hw _ (List.mem_of_getElem? (i := 11) rfl))) (mvT hZ (hw _ (List.mem_of_getElem? (i := 12) rfl))) (mvT hZ (hw _ (List.mem_of_getElem? (i := 13) rfl))) (mvT hZ (hw _ (List.mem_of_getElem? (i := 14) rfl))) (by decide) (backOf (W := 0) (rm_ok l Z a0 hw [] (p1 &&& (65535 : Int32))  h67 n0 Zs67 ) hZ (hw _ (List.mem_of_getElem? (i := 14) rfl)) (hw _ (List.mem_of_getElem? (i := 13) rfl)) (by decide) (by decide)) (g := (mkF m 272 #[.val (.int p0), .val (.int p1), .val (.int p2), .val (.int p3), .val (.ref b1), .val (.int ((p2 &&& (2147483647 : Int32)) % (33 : Int32))), .val (.int (((p3 &&& (2147483647 : Int32)) % (5 : Int32)) - (2 : Int32))), .val (.int (c1 + (((p3 &&& (2147483647 : Int32)) % (5 : Int32)) - (2 : Int32)))), .val (.int (p1 &&& (65535 : Int32))), .val (.int ((p1.toUInt32 >>> ((11 : Int32) &&& 31).toUInt32).toInt32))] [(.int (p1 &&& (65535 : Int32)))])) rfl (by rw [hml]; rfl) (argsL := [(.int (p1 &&& (65535 : Int32)))]) (rest := []) (lenOf pd_0 rfl) rfl (by show 2 * 0 + _ ≤ _; exact Nat.le_of_eq rfl) (hb hby at_272) (fun _ _ => ⟨rfl, eh70, (by decide : 1 + 0 ≤ _), (by decide : 33 + 0 ≤ _)⟩)
  dsimp only [Pt.U, Pt.locs, Pt.cells, Pt.slots] at X71 l71 y71 z71 st71 hQ71
  obtain rfl : k71 = 1 := y71
  obtain rfl : n71 = 33 := z71
  obtain ⟨rfl, Nq71, eh71⟩ := hQ71
  have N71 : Fr n0 L71 := by rw [l71]; exact Fr.app N70 Nq71
  refine own_by (st71) ?_
  show own_Go p.tables e below (T71.setTop (mkF m 275 #[.val (.int p0), .val (.int p1), .val (.int p2), .val (.int p3), .val (.ref b1), .val (.int ((p2 &&& (2147483647 : Int32)) % (33 : Int32))), .val (.int (((p3 &&& (2147483647 : Int32)) % (5 : Int32)) - (2 : Int32))), .val (.int (c1 + (((p3 &&& (2147483647 : Int32)) % (5 : Int32)) - (2 : Int32)))), .val (.int (p1 &&& (65535 : Int32))), .val (.int ((p1.toUInt32 >>> ((11 : Int32) &&& 31).toUInt32).toInt32))] [(.int (1 : Int32))])) _
  refine own_by (fun _ kt => XS.ifNo X71.here hx rfl (hb hby at_275) rfl ((if0 _ _).trans (feq (by decide : ¬ ((1 : Int32) = (0 : Int32)))).1) kt) ?_
  show own_Go p.tables e below (T71.setTop (mkF m 278 #[.val (.int p0), .val (.int p1), .val (.int p2), .val (.int p3), .val (.ref b1), .val (.int ((p2 &&& (2147483647 : Int32)) % (33 : Int32))), .val (.int (((p3 &&& (2147483647 : Int32)) % (5 : Int32)) - (2 : Int32))), .val (.int (c1 + (((p3 &&& (2147483647 : Int32)) % (5 : Int32)) - (2 : Int32)))), .val (.int (p1 &&& (65535 : Int32))), .val (.int ((p1.toUInt32 >>> ((11 : Int32) &&& 31).toUInt32).toInt32))] [])) _
  refine own_by (fun _ kt => XS.iload X71.here hx rfl (hb hby at_278) rfl kt) ?_
  show own_Go p.tables e below (T71.setTop (mkF m 280 #[.val (.int p0), .val (.int p1), .val (.int p2), .val (.int p3), .val (.ref b1), .val (.int ((p2 &&& (2147483647 : Int32)) % (33 : Int32))), .val (.int (((p3 &&& (2147483647 : Int32)) % (5 : Int32)) - (2 : Int32))), .val (.int (c1 + (((p3 &&& (2147483647 : Int32)) % (5 : Int32)) - (2 : Int32)))), .val (.int (p1 &&& (65535 : Int32))), .val (.int ((p1.toUInt32 >>> ((11 : Int32) &&& 31).toUInt32).toInt32))] [(.int ((p1.toUInt32 >>> ((11 : Int32) &&& 31).toUInt32).toInt32))])) _
  obtain ⟨_, _, ⟨T72, L72, k72, n72⟩, -, X72, ⟨Lc72, hQ72, l72, y72, z72⟩, st72⟩ := Jvm.LawKit.callS X71 hx (y := (⟨"com/example/ivaldi/ivaldi/model/NameCharactersIsNameStartPinLaw", "ok", "(I)Z"⟩ : MethodName)) hown (mvT hZ (hw _ (List.mem_of_getElem? (i := 11) rfl))) (mvT hZ (hw _ (List.mem_of_getElem? (i := 12) rfl))) (mvT hZ (hw _ (List.mem_of_getElem? (i := 13) rfl))) (mvT hZ (hw _ (List.mem_of_getElem? (i := 14) rfl))) (by decide) (backOf (W := 0) (rm_ok l Z a0 hw [] ((p1.toUInt32 >>> ((11 : Int32) &&& 31).toUInt32).toInt32)  h67 n0 Zs67 ) hZ (hw _ (List.mem_of_getElem? (i := 14) rfl)) (hw _ (List.mem_of_getElem? (i := 13) rfl)) (by decide) (by decide)) (g := (mkF m 280 #[.val (.int p0), .val (.int p1), .val (.int p2), .val (.int p3), .val (.ref b1), .val (.int ((p2 &&& (2147483647 : Int32)) % (33 : Int32))), .val (.int (((p3 &&& (2147483647 : Int32)) % (5 : Int32)) - (2 : Int32))), .val (.int (c1 + (((p3 &&& (2147483647 : Int32)) % (5 : Int32)) - (2 : Int32)))), .val (.int (p1 &&& (65535 : Int32))), .val (.int ((p1.toUInt32 >>> ((11 : Int32) &&& 31).toUInt32).toInt32))] [(.int ((p1.toUInt32 >>> ((11 : Int32) &&& 31).toUInt32).toInt32))])) rfl (by rw [hml]; rfl) (argsL := [(.int ((p1.toUInt32 >>> ((11 : Int32) &&& 31).toUInt32).toInt32))]) (rest := []) (lenOf pd_0 rfl) rfl (by show 2 * 0 + _ ≤ _; exact Nat.le_of_eq rfl) (hb hby at_280) (fun _ _ => ⟨rfl, eh71, (by decide : 1 + 0 ≤ _), (by decide : 33 + 0 ≤ _)⟩)
  dsimp only [Pt.U, Pt.locs, Pt.cells, Pt.slots] at X72 l72 y72 z72 st72 hQ72
  obtain rfl : k72 = 1 := y72
  obtain rfl : n72 = 33 := z72
  obtain ⟨rfl, Nq72, eh72⟩ := hQ72
  have N72 : Fr n0 L72 := by rw [l72]; exact Fr.app N71 Nq72
  refine own_by (st72) ?_
  show own_Go p.tables e below (T72.setTop (mkF m 283 #[.val (.int p0), .val (.int p1), .val (.int p2), .val (.int p3), .val (.ref b1), .val (.int ((p2 &&& (2147483647 : Int32)) % (33 : Int32))), .val (.int (((p3 &&& (2147483647 : Int32)) % (5 : Int32)) - (2 : Int32))), .val (.int (c1 + (((p3 &&& (2147483647 : Int32)) % (5 : Int32)) - (2 : Int32)))), .val (.int (p1 &&& (65535 : Int32))), .val (.int ((p1.toUInt32 >>> ((11 : Int32) &&& 31).toUInt32).toInt32))] [(.int (1 : Int32))])) _
  refine own_by (fun _ kt => XS.ifNo X72.here hx rfl (hb hby at_283) rfl ((if0 _ _).trans (feq (by decide : ¬ ((1 : Int32) = (0 : Int32)))).1) kt) ?_
  show own_Go p.tables e below (T72.setTop (mkF m 286 #[.val (.int p0), .val (.int p1), .val (.int p2), .val (.int p3), .val (.ref b1), .val (.int ((p2 &&& (2147483647 : Int32)) % (33 : Int32))), .val (.int (((p3 &&& (2147483647 : Int32)) % (5 : Int32)) - (2 : Int32))), .val (.int (c1 + (((p3 &&& (2147483647 : Int32)) % (5 : Int32)) - (2 : Int32)))), .val (.int (p1 &&& (65535 : Int32))), .val (.int ((p1.toUInt32 >>> ((11 : Int32) &&& 31).toUInt32).toInt32))] [])) _
  refine own_by (fun _ kt => XS.iconst X72.here hx rfl (hb hby at_286) kt) ?_
  show own_Go p.tables e below (T72.setTop (mkF m 287 #[.val (.int p0), .val (.int p1), .val (.int p2), .val (.int p3), .val (.ref b1), .val (.int ((p2 &&& (2147483647 : Int32)) % (33 : Int32))), .val (.int (((p3 &&& (2147483647 : Int32)) % (5 : Int32)) - (2 : Int32))), .val (.int (c1 + (((p3 &&& (2147483647 : Int32)) % (5 : Int32)) - (2 : Int32)))), .val (.int (p1 &&& (65535 : Int32))), .val (.int ((p1.toUInt32 >>> ((11 : Int32) &&& 31).toUInt32).toInt32))] [(.int (1 : Int32))])) _
  refine own_by (fun _ kt => XS.goto X72.here hx rfl (pc0 := 287) (pc' := 291) rfl (hb hby at_287) (by decide) (by decide) kt) ?_
  show own_Go p.tables e below (T72.setTop (mkF m 291 #[.val (.int p0), .val (.int p1), .val (.int p2), .val (.int p3), .val (.ref b1), .val (.int ((p2 &&& (2147483647 : Int32)) % (33 : Int32))), .val (.int (((p3 &&& (2147483647 : Int32)) % (5 : Int32)) - (2 : Int32))), .val (.int (c1 + (((p3 &&& (2147483647 : Int32)) % (5 : Int32)) - (2 : Int32)))), .val (.int (p1 &&& (65535 : Int32))), .val (.int ((p1.toUInt32 >>> ((11 : Int32) &&& 31).toUInt32).toInt32))] [(.int (1 : Int32))])) _
  exact own_retN X72 hx (t := .boolean) Bd.returns hlk (by simp) (hb hby at_291) ⟨rfl, N72⟩ (by decide) (by decide)
set_option maxRecDepth 65536 in
set_option maxHeartbeats 40000000 in
theorem comes_1 {Post : Tables → Env → Array Value → State → Outcome → State → Prop} (hpost : ∀ tb e args s v u, (limb_1_1.after args s (.returned v) u = true ∧ limb_1_2.after args s (.returned v) u = true ∧ True) → FrameEnd s (.returned v) u (Jvm.fieldLocs frame_1_writes args s ++ Jvm.arrayLocs frame_1_arrays args s ++ Jvm.staticLocs frame_1_statics s) 16 192 → Post tb e args s (.returned v) u) :
    ArmFor flags0 classFile x code maxLocals ret World_1 tables_1 room_1 Calls_1 rest_1 Pre_1 Post := by
  intro l hfl _ _ p e ha hc hk s m args below hf hA hF happ hP
  obtain ⟨hcalls, hrest, hpre⟩ := hP
  obtain ⟨-, -, -, hnamed, -, -, -, hat⟩ := (Spec.applies_iff hf).mp happ
  obtain ⟨hg, hn⟩ := and_e (Cond.before_iff.mp (show (Jvm.Cond.and given_1 narrow_1).before args s = true from hpre))
  obtain ⟨hcnt, g0⟩ := and_e hg
  obtain ⟨i0, g1⟩ := and_e g0
  obtain ⟨i1, g2⟩ := and_e g1
  obtain ⟨i2, g3⟩ := and_e g2
  obtain ⟨w0, w1, w2, w3, rfl⟩ : ∃ w0 w1 w2 w3 : Value, args = #[w0, w1, w2, w3] := by
    have hs : args.size = 4 := by simpa [Cond.value, given_1] using hcnt
    obtain ⟨L⟩ := args
    match L, hs with
    | [w0, w1, w2, w3], _ => exact ⟨w0, w1, w2, w3, rfl⟩
  have hw := fun d (hd : d ∈ tables_1) => atoms_spec (ws := Jvm.Cond.code x code maxLocals ret :: tables_1) hat d (List.mem_cons_of_mem _ hd)
  obtain ⟨v0, ev0⟩ := is_v i0
  obtain rfl : w0 = (.int v0) := Option.some.inj ev0
  obtain ⟨v1, ev1⟩ := is_v i1
  obtain rfl : w1 = (.int v1) := Option.some.inj ev1
  obtain ⟨v2, ev2⟩ := is_v i2
  obtain rfl : w2 = (.int v2) := Option.some.inj ev2
  obtain ⟨v3, ev3⟩ := is_v g3
  obtain rfl : w3 = (.int v3) := Option.some.inj ev3
  obtain ⟨n, o, h1, h2, h3, _, L, rfl, ⟨rfl, N⟩, hq⟩ := rm_law l s _ hw tables_1 v0 v1 v2 v3  s.heap s.heap.size (Nat.le_refl _)  p e ha hc hk s m _ below hf ((Spec.applies_iff_loose hf).mp happ).1 ⟨rfl, State.Warmed39.refl s, rfl⟩ trivial
  refine ⟨n, _, h1, h2, h3, hpost _ _ _ _ _ _ ⟨Cond.after_iff.mpr rfl, Cond.after_iff.mpr (eq_i res_at (Term.int_eval (1)) rfl), trivial⟩ ⟨hq.1, hq.2.1, (hq.2.2.sift fun y hy => Or.inr (N y hy)).mono (by decide) (by decide)⟩⟩
theorem main_1_1 : Claimed_1_1 := comes_1 fun _ _ _ _ _ _ h hF => ⟨h.1, hF⟩
theorem main_1_2 : Claimed_1_2 := comes_1 fun _ _ _ _ _ _ h hF => ⟨h.2.1, hF⟩
end Jvm.Pilot.@@N@@
namespace Jvm.Pilot.@@N@@
open Jvm Jvm.ClassFile Sem Op Lib Jvm.Free Jvm.Stand Jvm.Pilot.@@N@@.Jvm.D
/-! MADE BY PROGRAM (witnessworld.py) out of the Statement's table words and the real class files: 9 classes; the members and pool entries that the words name. The judged class is class 1, her method 3. -/
namespace start1
open Jvm.ClassFile
def u (s : String) : CpInfo := .utf8 (stringToUtf16 s)
/-- a pool by its gaps: so many unusable entries, then the entry; so many at the end -/
def gap : Nat → List CpInfo → List CpInfo
  | 0, r => r
  | n + 1, r => .unusable :: gap n r
def poolList (es : List (Nat × CpInfo)) (last : Nat) : List CpInfo := es.foldr (fun e r => gap e.1 (e.2 :: r)) (gap last [])
def pool (es : List (Nat × CpInfo)) (last : Nat) : Array CpInfo := ⟨poolList es last⟩
def fileOf (pool : Array CpInfo) (this : Nat) (attrs : Array Attribute := #[]) (ms : Array MethodInfo := #[]) (fl : Nat := 33) (sup : Nat := 0) (ifs : Array Nat := #[]) (fds : Array FieldInfo := #[]) : ClassFile where
  minorVersion := 0
  majorVersion := 65
  constantPool := pool
  accessFlags := fl
  thisClass := this
  superClass := sup
  interfaces := ifs
  fields := fds
  methods := ms
  attributes := attrs
def plain (name : String) (sup : Option ClassId) : Class where
  name := name
  kind := .ordinary
  loader := none
  accessFlags := 33
  super := sup
  interfaces := #[]
  cf := none
  fields := #[]
  methods := #[]
  instanceTypes := #[]
  staticTypes := #[]
  resolved := #[]
  callSites := []
  init := .initialized
  statics := none
  mirror := none

def pool0 : Array CpInfo := pool [(5, u "<init>"), (0, u "()V"), (1, .class_ 10), (1, u "java/lang/Object")] 113

def k0m0 : Method := { name := "<init>", desc := "()V", sig := { parameters := [], returnType := none }, accessFlags := 1, code := none }
/-- java/lang/Object -/
def k0 : Class := { plain "java/lang/Object" none with
  accessFlags := 33
  interfaces := #[]
  cf := some (fileOf pool0 8 #[] #[{ accessFlags := 1, nameIndex := 5, descriptorIndex := 6, attributes := #[] }] 33 0 #[] #[])
  fields := #[]
  methods := #[k0m0]
  instanceTypes := #[]
  staticTypes := #[]
  resolved := Array.replicate 124 none
  statics := none }

def pool1 : Array CpInfo := pool [(2, .class_ 4), (1, u "java/lang/Object"), (0, u "<init>"), (0, u "()V"), (0, .integer 983039), (0, .integer 55295), (0, .integer 63743), (0, .integer 65535), (0, .integer 64976), (0, .integer 65007), (0, .integer 65534), (0, .methodref 15 16), (0, .class_ 17), (0, .nameAndType 18 19), (0, u "com/example/ivaldi/ivaldi/model/NameCharacters"), (0, u "isNameStart"), (0, u "(I)Z"), (0, .methodref 21 22), (0, .class_ 23), (0, .nameAndType 24 19), (0, u "com/example/ivaldi/ivaldi/model/NameCharactersIsNameStartPinLaw"), (0, u "ref"), (0, .integer 63744), (0, .integer 64975), (0, .integer 65008), (0, .integer 65533), (0, .integer 65536), (2, .integer 2147483648), (0, .integer 2147483647), (0, .methodref 21 35), (0, .nameAndType 36 19), (0, u "ok"), (3, u "law"), (0, u "(IIII)Z")] 4

def k1m0 : Method := { name := "<init>", desc := "()V", sig := { parameters := [], returnType := none }, accessFlags := 2, code := none }
def k1c1 : Code := { maxStack := 2, maxLocals := 1, code := method_2_code, exceptionTable := #[], attributes := #[] }
def k1m1 : Method := { name := "ref", desc := "(I)Z", sig := { parameters := [.int], returnType := some .boolean }, accessFlags := 10, code := some k1c1 }
def k1c2 : Code := { maxStack := 2, maxLocals := 1, code := method_3_code, exceptionTable := #[], attributes := #[] }
def k1m2 : Method := { name := "ok", desc := "(I)Z", sig := { parameters := [.int], returnType := some .boolean }, accessFlags := 10, code := some k1c2 }
def k1c3 : Code := { maxStack := 4, maxLocals := 10, code := code, exceptionTable := #[], attributes := #[] }
def k1m3 : Method := { name := "law", desc := "(IIII)Z", sig := { parameters := [.int, .int, .int, .int], returnType := some .boolean }, accessFlags := 9, code := some k1c3 }
/-- com/example/ivaldi/ivaldi/model/NameCharactersIsNameStartPinLaw -/
def k1 : Class := { plain "com/example/ivaldi/ivaldi/model/NameCharactersIsNameStartPinLaw" (some 0) with
  accessFlags := 49
  interfaces := #[]
  cf := some (fileOf pool1 21 #[] #[{ accessFlags := 2, nameIndex := 5, descriptorIndex := 6, attributes := #[] }, { accessFlags := 10, nameIndex := 24, descriptorIndex := 19, attributes := #[] }, { accessFlags := 10, nameIndex := 36, descriptorIndex := 19, attributes := #[] }, { accessFlags := 9, nameIndex := 40, descriptorIndex := 41, attributes := #[] }] 49 2 #[] #[])
  fields := #[]
  methods := #[k1m0, k1m1, k1m2, k1m3]
  instanceTypes := #[]
  staticTypes := #[]
  resolved := Array.replicate 46 none
  statics := none }

def pool2 : Array CpInfo := pool [(2, .class_ 4), (1, u "java/lang/Object"), (0, u "<init>"), (0, u "()V"), (0, .integer 55295), (0, .integer 63744), (0, .integer 64975), (0, .integer 65008), (0, .integer 65533), (0, .integer 65536), (0, .integer 983039), (1, .class_ 17), (1, u "com/example/ivaldi/ivaldi/model/NameCharacters"), (0, u "isNameStart"), (0, u "(I)Z")] 6

def k2m0 : Method := { name := "<init>", desc := "()V", sig := { parameters := [], returnType := none }, accessFlags := 2, code := none }
def k2c1 : Code := { maxStack := 2, maxLocals := 1, code := prog_85_method_2_code, exceptionTable := #[], attributes := #[] }
def k2m1 : Method := { name := "isNameStart", desc := "(I)Z", sig := { parameters := [.int], returnType := some .boolean }, accessFlags := 9, code := some k2c1 }
/-- com/example/ivaldi/ivaldi/model/NameCharacters -/
def k2 : Class := { plain "com/example/ivaldi/ivaldi/model/NameCharacters" (some 0) with
  accessFlags := 33
  interfaces := #[]
  cf := some (fileOf pool2 15 #[] #[{ accessFlags := 2, nameIndex := 5, descriptorIndex := 6, attributes := #[] }, { accessFlags := 9, nameIndex := 18, descriptorIndex := 19, attributes := #[] }] 33 2 #[] #[])
  fields := #[]
  methods := #[k2m0, k2m1]
  instanceTypes := #[]
  staticTypes := #[]
  resolved := Array.replicate 26 none
  statics := none }

def pool3 : Array CpInfo := pool [(1, u "java/lang/Cloneable"), (0, .class_ 1), (0, u "java/lang/Object"), (0, .class_ 3)] 3

/-- java/lang/Cloneable -/
def k3 : Class := { plain "java/lang/Cloneable" (some 0) with
  accessFlags := 1537
  interfaces := #[]
  cf := some (fileOf pool3 2 #[] #[] 1537 4 #[] #[])
  fields := #[]
  methods := #[]
  instanceTypes := #[]
  staticTypes := #[]
  resolved := Array.replicate 8 none
  statics := none }

def pool4 : Array CpInfo := pool [(1, u "java/io/Serializable"), (0, .class_ 1), (0, u "java/lang/Object"), (0, .class_ 3)] 3

/-- java/io/Serializable -/
def k4 : Class := { plain "java/io/Serializable" (some 0) with
  accessFlags := 1537
  interfaces := #[]
  cf := some (fileOf pool4 2 #[] #[] 1537 4 #[] #[])
  fields := #[]
  methods := #[]
  instanceTypes := #[]
  staticTypes := #[]
  resolved := Array.replicate 8 none
  statics := none }

/-- the primitive byte -/
def k5 : Class := { plain "byte" none with kind := .primitive 'B', accessFlags := 0x411 }
/-- [B -/
def k6 : Class := { plain "[B" (some 0) with kind := .array 5 .byte, interfaces := #[3, 4], accessFlags := 1041 }

/-- the primitive int -/
def k7 : Class := { plain "int" none with kind := .primitive 'I', accessFlags := 0x411 }
/-- [I -/
def k8 : Class := { plain "[I" (some 0) with kind := .array 7 .int, interfaces := #[3, 4], accessFlags := 1041 }

def heap : Heap := #[]
def classes : Array Class := #[k0, k1, k2, k3, k4, k5, k6, k7, k8]
def interned : List (Array UInt16 × Addr) := []
def slotsUsed : Nat := 0
def theMethod : MethodId := ⟨1, 3⟩
def args0 : Array Value := #[.int 3, .int 4, .int 5, .int 6]
def aboutOver (below : List Frame) : State where
  vm := { classes := classes, interned := interned.toArray }
  heap := heap
  slotsUsed := slotsUsed
  threads := #[{ frames := .invoking theMethod args0 :: below }]
def below0 : List Frame := [.native { method := ⟨0, 0⟩, args := #[] }]
def about1 : State := aboutOver below0
def p0 : Program := .bare "" "" ""
def e0 : Env := launch0.env 0 0 0
theorem w_frames : about1.frames = Frame.invoking theMethod args0 :: below0 := rfl
set_option maxRecDepth 65536 in
theorem w_args : argsFit about1.vm theMethod args0 = true := by decide +kernel
set_option maxRecDepth 65536 in
theorem w_heap : heapFits about1 = true := by decide +kernel
set_option maxRecDepth 65536 in
theorem w_runnable : about1.curStatus? = some .runnable := by decide +kernel
set_option maxRecDepth 65536 in
theorem w_alone : about1.alone = true := by decide +kernel
set_option maxRecDepth 65536 in
theorem w_named : about1.methodNamed? x = some theMethod := by decide +kernel
set_option maxRecDepth 65536 in
theorem w_hears : about1.hears theMethod below0 = true := by decide +kernel
set_option maxRecDepth 65536 in
theorem w_ripe : about1.ripe theMethod args0 below0 = true := by decide +kernel
theorem w_running : about1.status = .running := rfl
set_option maxRecDepth 65536 in
theorem w_room : about1.hasRoom e0.platform room_1 = true :=
  launch0.hasRoom_least _ room_1 (by decide +kernel) (by decide +kernel) (by decide +kernel) (by decide +kernel) (by decide +kernel) (by decide +kernel)
theorem allAtoms_all (ts : List Jvm.Cond) (a : Array Jvm.Value) (st : Jvm.State) : (allAtoms ts).before a st = ts.all (fun c => c.before a st) := by
  induction ts with
  | nil => rfl
  | cons c t ih =>
    show (Jvm.Cond.and c (allAtoms t)).before a st = _
    rw [Jvm.Cond.before_and, ih, List.all_cons]
def words1 : List Jvm.Cond := Jvm.Cond.code x code maxLocals ret :: tables_1
/-- a 'code' word, met by the world's own term for the bytes: nothing is compared byte by byte -/
theorem code_word {y : MethodName} {bytes : ByteArray} {mx : Nat} {rt : Option FieldType} {a : Array Value} {s : State} {m : MethodId} {meth : Method} {c : Code} (h1 : s.methodNamed? y = some m) (h2 : s.vm.method? m = some meth) (h3 : meth.code = some c) (h4 : c.code = bytes)
    (h5 : (c.maxLocals == mx && c.exceptionTable.isEmpty && decide (c.maxStack ≤ mostOperands) && decide (meth.sig.returnType = rt) && !meth.locks && decide (parseMethodDescriptor y.desc = some meth.sig)) = true) : (Jvm.Cond.code y bytes mx rt).before a s = true := by
  simp only [Bool.and_eq_true, beq_iff_eq, Bool.not_eq_true', decide_eq_true_eq] at h5
  obtain ⟨⟨⟨⟨⟨g1, g2⟩, g3⟩, g4⟩, g5⟩, g6⟩ := h5
  simp [Cond.before, Cond.holds, Cond.value, h1, h2, h3, h4, g1, g2, g3, g4, g5, g6]
def isCode : Jvm.Cond → Bool
  | .code _ _ _ _ => true
  | _ => false
theorem all_split {L : List Jvm.Cond} {P : Jvm.Cond → Bool} (h1 : L.all (fun c => isCode c || P c) = true) (h2 : ∀ c ∈ L.filter isCode, P c = true) : L.all P = true := by
  refine List.all_eq_true.mpr fun c hc => ?_
  have h := List.all_eq_true.mp h1 c hc
  rcases Bool.eq_false_or_eq_true (isCode c) with hi | hi
  · exact h2 c (List.mem_filter.mpr ⟨hc, hi⟩)
  · simpa [hi] using h
set_option maxRecDepth 65536 in
theorem w_c0 : (Jvm.Cond.code x code maxLocals ret).before args0 about1 = true := code_word (m := ⟨1, 3⟩) (meth := k1m3) (c := k1c3) (by decide +kernel) rfl rfl rfl (by decide +kernel)
set_option maxRecDepth 65536 in
theorem w_c1 : (Jvm.Cond.code ({ cls := "com/example/ivaldi/ivaldi/model/NameCharactersIsNameStartPinLaw", name := "ok", desc := "(I)Z" } : Jvm.MethodName) method_3_code (1 : Nat) (Option.some Jvm.ClassFile.FieldType.boolean)).before args0 about1 = true := code_word (m := ⟨1, 2⟩) (meth := k1m2) (c := k1c2) (by decide +kernel) rfl rfl rfl (by decide +kernel)
set_option maxRecDepth 65536 in
theorem w_c2 : (Jvm.Cond.code ({ cls := "com/example/ivaldi/ivaldi/model/NameCharacters", name := "isNameStart", desc := "(I)Z" } : Jvm.MethodName) prog_85_method_2_code (1 : Nat) (Option.some Jvm.ClassFile.FieldType.boolean)).before args0 about1 = true := code_word (m := ⟨2, 1⟩) (meth := k2m1) (c := k2c1) (by decide +kernel) rfl rfl rfl (by decide +kernel)
set_option maxRecDepth 65536 in
theorem w_c3 : (Jvm.Cond.code ({ cls := "com/example/ivaldi/ivaldi/model/NameCharactersIsNameStartPinLaw", name := "ref", desc := "(I)Z" } : Jvm.MethodName) method_2_code (1 : Nat) (Option.some Jvm.ClassFile.FieldType.boolean)).before args0 about1 = true := code_word (m := ⟨1, 1⟩) (meth := k1m1) (c := k1c1) (by decide +kernel) rfl rfl rfl (by decide +kernel)
def codes1 : List Jvm.Cond := [Jvm.Cond.code x code maxLocals ret, Jvm.Cond.code ({ cls := "com/example/ivaldi/ivaldi/model/NameCharactersIsNameStartPinLaw", name := "ok", desc := "(I)Z" } : Jvm.MethodName) method_3_code (1 : Nat) (Option.some Jvm.ClassFile.FieldType.boolean), Jvm.Cond.code ({ cls := "com/example/ivaldi/ivaldi/model/NameCharacters", name := "isNameStart", desc := "(I)Z" } : Jvm.MethodName) prog_85_method_2_code (1 : Nat) (Option.some Jvm.ClassFile.FieldType.boolean), Jvm.Cond.code ({ cls := "com/example/ivaldi/ivaldi/model/NameCharactersIsNameStartPinLaw", name := "ref", desc := "(I)Z" } : Jvm.MethodName) method_2_code (1 : Nat) (Option.some Jvm.ClassFile.FieldType.boolean)]
set_option maxRecDepth 65536 in
theorem codes_eq : words1.filter isCode = codes1 := rfl
theorem w_codes : ∀ c ∈ words1.filter isCode, c.before args0 about1 = true := by
  rw [codes_eq]
  intro c hc
  simp only [codes1, List.mem_cons, List.not_mem_nil, or_false] at hc
  rcases hc with rfl | rfl | rfl | rfl
  · exact w_c0
  · exact w_c1
  · exact w_c2
  · exact w_c3
set_option maxRecDepth 65536 in
theorem w_t1 : (words1.take 24).all (fun c => isCode c || c.before args0 about1) = true := by decide +kernel
set_option maxRecDepth 65536 in
theorem w_t2 : (words1.drop 24).all (fun c => isCode c || c.before args0 about1) = true := by decide +kernel
theorem w_tables : (allAtoms (Jvm.Cond.code x code maxLocals ret :: tables_1)).before args0 about1 = true := by
  rw [allAtoms_all]
  show words1.all (fun c => c.before args0 about1) = true
  refine all_split ?_ w_codes
  rw [← List.take_append_drop 24 words1, List.all_append, w_t1, w_t2]
  rfl
set_option maxRecDepth 65536 in
theorem w_case : (Jvm.Cond.and given_1 narrow_1).before args0 about1 = true := by decide +kernel
theorem w_applies : (headSpec (Jvm.Cond.code x code maxLocals ret :: tables_1) room_1).applies x e0.platform about1 = true :=
  (Spec.applies_iff w_frames).mpr ⟨w_running, w_runnable, w_alone, w_named, w_hears, w_ripe, w_room, w_tables⟩
theorem atStart : AtStart classFile x code maxLocals ret World_1 tables_1 room_1 Calls_1 rest_1 Pre_1 launch0 p0 e0 about1 theMethod args0 below0 :=
  ⟨lists_1, trivial, launch0.admits_env _ _ _, launch0.least_env, fairChoices_fair.cas, fairChoices_fair.clock, w_frames, w_args, w_heap, w_applies, trivial, trivial, w_case⟩
end start1
theorem witness_1 : WitnessClaimed_1 := ⟨start1.p0, start1.e0, start1.about1, start1.theMethod, start1.args0, start1.below0, start1.atStart⟩
end Jvm.Pilot.@@N@@
