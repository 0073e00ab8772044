import JvmDerived
import JvmDerived.Pilot.@@N@@Statement
import JvmDerived.Pilot.@@N@@Code
set_option linter.unusedVariables false
set_option linter.unusedSimpArgs false
namespace Jvm.Pilot.@@N@@
open Jvm Jvm.ClassFile Sem Op Lib Jvm.Free Jvm.Stand Jvm.LawKit Jvm.RoadKit Bundle Jvm.Pilot.@@N@@.Jvm.D
section Own
variable {p : Program} {l : Launch} {e : Env} {R : Room} {s : State} {m : MethodId} {args : Array Value} {below : List Frame} {meth : Method} {c : Code} {T : State} {locs : List Loc} {cells slots : Nat} {Z : State} {h h' : Heap} {a b : Addr} {G : State → Outcome → Prop} {Q : Option Value → Heap → List Loc → Prop} {C K : Nat}
/-- the run comes to an end of which G holds -/
def own_Goes (p : Program) (e : Env) (below : List Frame) (G : State → Outcome → Prop) (S : State) : Prop := ∃ s₂ o, Steps p.tables e below S s₂ ∧ s₂.status = .running ∧ Ended s₂ below o ∧ G s₂ o
theorem own_step {S S' : State} (k : ∀ t, Steps p.tables e below S' t → Steps p.tables e below S t) (h : own_Goes p e below G S') : own_Goes p e below G S := by
  obtain ⟨s₂, o, h1, h2⟩ := h
  exact ⟨s₂, o, k _ h1, h2⟩
theorem own_jump {S S' : State} (k : Steps p.tables e below S S') (h : own_Goes p e below G S') : own_Goes p e below G S := own_step (fun _ q => k.trans q) h
def own_Fin (s : State) (Q : Option Value → Heap → List Loc → Prop) (C K : Nat) : State → Outcome → Prop := fun U o => ∃ v L, o = .returned v ∧ Q v U.heap L ∧ FrameEnd s o U L C K
theorem own_ret0 (X : Stand p l e R s m args below meth c T locs cells slots) (hx : p.tables.exec = Jvm.exec) (hlk : meth.locks = false) (hret : meth.sig.returnType = none) {pc : Nat} {Ls : Array Slot} (hd : decode c.code pc = .ok (.return_, 1)) (hq : Q none T.heap locs) (hc : cells ≤ C) (hk : slots ≤ K) :
    own_Goes p e below (own_Fin s Q C K) (T.setTop (mkF m pc Ls [])) := by
  obtain ⟨fs, hr, hrun, hended, hW, hsame⟩ := X.leave (v := none) (fun _ => rfl)
  exact ⟨_, _, X.returnOut hx hret hd hr, hrun, hended, _, _, rfl, hq, ⟨_, rfl⟩, hW, hsame.mono hc hk⟩
theorem own_retV (X : Stand p l e R s m args below meth c T locs cells slots) (hx : p.tables.exec = Jvm.exec) (hlk : meth.locks = false) {t : FieldType} (hret : meth.sig.returnType = some t) {w : Value} (hn : narrow t w = w) {i : Instr}
    (hi : (i = .ireturn ∧ (t = .int ∨ t = .boolean ∨ t = .byte ∨ t = .char ∨ t = .short) ∧ ∃ z, w = .int z) ∨ (i = .lreturn ∧ t = .long ∧ ∃ z, w = .long z) ∨ (i = .dreturn ∧ t = .double ∧ ∃ z, w = .double z) ∨ (i = .freturn ∧ t = .float ∧ ∃ z, w = .float z) ∨ (i = .areturn ∧ t.isReference = true ∧ w.isRef = true))
    {pc : Nat} {Ls : Array Slot} {rest : List Value} (hd : decode c.code pc = .ok (i, 1)) (hq : Q (some w) T.heap locs) (hc : cells ≤ C) (hk : slots ≤ K) :
    own_Goes p e below (own_Fin s Q C K) (T.setTop (mkF m pc Ls (w :: rest))) := by
  obtain ⟨fs, hr, hrun, hended, hW, hsame⟩ := X.leave (v := some w) (fun h => by rw [hret] at h; cases h)
  exact ⟨_, _, retOut X hx hret hn hi hd hr, hrun, hended, _, _, rfl, hq, ⟨_, rfl⟩, hW, hsame.mono hc hk⟩
theorem own_nb {z : Int32} (h : z = 0 ∨ z = 1) : narrow .boolean (.int z) = .int z := by
  rcases h with rfl | rfl <;> rfl
theorem own_01 {q : Prop} [Decidable q] {x y : Int32} (hx : x = 0 ∨ x = 1) (hy : y = 0 ∨ y = 1) : (if q then x else y) = 0 ∨ (if q then x else y) = 1 := by
  split
  · exact hx
  · exact hy
/-- the law's own promise -/
def own_Q0 (n0 : Nat) (v : Option Value) (h : Heap) (L : List Loc) : Prop := v = some (.int 1) ∧ Fr n0 L
theorem own_retL {n0 : Nat} (X : Stand p l e R s m args below meth c T locs cells slots) (hx : p.tables.exec = Jvm.exec) (hlk : meth.locks = false) (hret : meth.sig.returnType = some .boolean) {pc : Nat} {Ls : Array Slot} {z : Int32} {rest : List Value} (hd : decode c.code pc = .ok (.ireturn, 1)) (hz : z = 1) (N : Fr n0 locs) (hc : cells ≤ C) (hk : slots ≤ K) :
    own_Goes p e below (own_Fin s (own_Q0 n0) C K) (T.setTop (mkF m pc Ls (.int z :: rest))) := by
  subst hz
  exact own_retV X hx hlk hret (own_nb (Or.inr rfl)) (Or.inl ⟨rfl, Or.inr (Or.inl rfl), _, rfl⟩) hd ⟨rfl, N⟩ hc hk
/-! arrays of ints and of longs, by their lists -/
theorem own_getI (xs : List Int32) (n : Nat) : (xs.map Value.int).getD n (Value.int 0) = Value.int (xs.getD n 0) := by
  simp only [List.getD_eq_getElem?_getD, List.getElem?_map]
  cases xs[n]? <;> rfl
theorem own_getJ (xs : List Int64) (n : Nat) : (xs.map Value.long).getD n (Value.long 0) = Value.long (xs.getD n 0) := by
  simp only [List.getD_eq_getElem?_getD, List.getElem?_map]
  cases xs[n]? <;> rfl
theorem own_newI {k : ClassId} {z : Int32} (A : Arr Z h a (newA k .int z) .int) (q : ¬ z < 0) (n : Nat) : Arv Z h a k .int z ((List.replicate n (0 : Int32)).map Value.int) (Value.int 0) :=
  (Arv.new A q).pad fun i => by rw [List.map_replicate]; exact pad_rep [] (Value.int 0) n i
theorem own_newJ {k : ClassId} {z : Int32} (A : Arr Z h a (newA k .long z) .long) (q : ¬ z < 0) (n : Nat) : Arv Z h a k .long z ((List.replicate n (0 : Int64)).map Value.long) (Value.long 0) :=
  (Arv.new A q).pad fun i => by rw [List.map_replicate]; exact pad_rep [] (Value.long 0) n i
theorem own_ial (X : Stand p l e R s m args below meth c T locs cells slots) (hx : p.tables.exec = Jvm.exec) (hZ : Z.Warmed39 s.vm) (eT : T.heap = h) {k : ClassId} {z j : Int32} {xs : List Int32} (F : Arv Z h a k .int z (xs.map Value.int) (Value.int 0)) (hj : ¬ j < 0 ∧ j < z)
    {g : JFrame} (hg : g.method = m) {rest : List Value} (hs : g.stack = .int j :: .ref a :: rest) (hd : decode c.code g.pc = .ok (.iaload, 1)) (t : State) (kk : Steps p.tables e below (T.setTop { g with pc := g.pc + 1, stack := .int (xs.getD j.toNatClampNeg 0) :: rest }) t) : Steps p.tables e below (T.setTop g) t := by
  obtain ⟨cl, Ar, -, S, -, H, -⟩ := F
  have hin := inb_of S hj
  exact X.iaload hx (j := j) (by rw [eT]; exact Ar.1) (State.isArrayOf_alike hZ.alike Ar.2.1) Ar.2.2 hin (H.at hin (own_getI _ _)) hg hs hd t kk
theorem own_lal (X : Stand p l e R s m args below meth c T locs cells slots) (hx : p.tables.exec = Jvm.exec) (hZ : Z.Warmed39 s.vm) (eT : T.heap = h) {k : ClassId} {z j : Int32} {xs : List Int64} (F : Arv Z h a k .long z (xs.map Value.long) (Value.long 0)) (hj : ¬ j < 0 ∧ j < z)
    {g : JFrame} (hg : g.method = m) {rest : List Value} (hs : g.stack = .int j :: .ref a :: rest) (hd : decode c.code g.pc = .ok (.laload, 1)) (t : State) (kk : Steps p.tables e below (T.setTop { g with pc := g.pc + 1, stack := .long (xs.getD j.toNatClampNeg 0) :: rest }) t) : Steps p.tables e below (T.setTop g) t := by
  obtain ⟨cl, Ar, -, S, -, H, -⟩ := F
  have hin := inb_of S hj
  exact X.laload hx (j := j) (by rw [eT]; exact Ar.1) (State.isArrayOf_alike hZ.alike Ar.2.1) Ar.2.2 hin (H.at hin (own_getJ _ _)) hg hs hd t kk
theorem own_len (X : Stand p l e R s m args below meth c T locs cells slots) (hx : p.tables.exec = Jvm.exec) (hZ : Z.Warmed39 s.vm) (eT : T.heap = h) {k : ClassId} {ty : FieldType} {z : Int32} {vs : List Value} {dv : Value} (F : Arv Z h a k ty z vs dv)
    {g : JFrame} (hg : g.method = m) {rest : List Value} (hs : g.stack = .ref a :: rest) (hd : decode c.code g.pc = .ok (.arraylength, 1)) (t : State) (kk : Steps p.tables e below (T.setTop { g with pc := g.pc + 1, stack := .int z :: rest }) t) : Steps p.tables e below (T.setTop g) t := by
  obtain ⟨cl, Ar, -, S, N, -, -⟩ := F
  refine X.arraylength hx (by rw [eT]; exact Ar.1) (State.isArrayOf_alike hZ.alike Ar.2.1) hg hs hd t ?_
  rw [len_of S N]
  exact kk
theorem own_ist (X : Stand p l e R s m args below meth c T locs cells slots) (hx : p.tables.exec = Jvm.exec) (hZ : Z.Warmed39 s.vm) (eT : T.heap = h) {k : ClassId} {z j y : Int32} {xs : List Int32} (F : Arv Z h a k .int z (xs.map Value.int) (Value.int 0)) (hj : ¬ j < 0 ∧ j < z) (n : Nat) (hn : j.toNatClampNeg = n) (hl : n < xs.length)
    {g : JFrame} (hg : g.method = m) {rest : List Value} (hs : g.stack = .int y :: .int j :: .ref a :: rest) (hd : decode c.code g.pc = .ok (.iastore, 1)) :
    ∃ T' h', Stand p l e R s m args below meth c T' (locs ++ [⟨a, j.toNatClampNeg⟩]) cells slots ∧ T'.heap = h' ∧ Wr h h' a j.toNatClampNeg (.int y) ∧ Arv Z h' a k .int z ((xs.set n y).map Value.int) (Value.int 0) ∧ ∀ t, Steps p.tables e below (T'.setTop { g with pc := g.pc + 1, stack := rest }) t → Steps p.tables e below (T.setTop g) t := by
  obtain ⟨cl, Ar, q, S, N, H, I⟩ := F
  obtain ⟨T', h', X', e', W, st⟩ := stI X hx hZ eT Ar (inb_of S hj) hg hs hd
  refine ⟨T', h', X', e', W, ?_, st⟩
  rw [List.map_set]
  exact Arv.set Ar q S N H I rfl W n hn (by rw [List.length_map]; exact hl)
theorem own_lst (X : Stand p l e R s m args below meth c T locs cells slots) (hx : p.tables.exec = Jvm.exec) (hZ : Z.Warmed39 s.vm) (eT : T.heap = h) {k : ClassId} {z j : Int32} {y : Int64} {xs : List Int64} (F : Arv Z h a k .long z (xs.map Value.long) (Value.long 0)) (hj : ¬ j < 0 ∧ j < z) (n : Nat) (hn : j.toNatClampNeg = n) (hl : n < xs.length)
    {g : JFrame} (hg : g.method = m) {rest : List Value} (hs : g.stack = .long y :: .int j :: .ref a :: rest) (hd : decode c.code g.pc = .ok (.lastore, 1)) :
    ∃ T' h', Stand p l e R s m args below meth c T' (locs ++ [⟨a, j.toNatClampNeg⟩]) cells slots ∧ T'.heap = h' ∧ Wr h h' a j.toNatClampNeg (.long y) ∧ Arv Z h' a k .long z ((xs.set n y).map Value.long) (Value.long 0) ∧ ∀ t, Steps p.tables e below (T'.setTop { g with pc := g.pc + 1, stack := rest }) t → Steps p.tables e below (T.setTop g) t := by
  obtain ⟨cl, Ar, q, S, N, H, I⟩ := F
  obtain ⟨T', h', X', e', W, st⟩ := stJ X hx hZ eT Ar (inb_of S hj) hg hs hd
  refine ⟨T', h', X', e', W, ?_, st⟩
  rw [List.map_set]
  exact Arv.set Ar q S N H I rfl W n hn (by rw [List.length_map]; exact hl)
end Own
def own_n (c v : Int64) : Int64 := v * ((2 : Int64) - (c * v))
def own_inv (c : Int64) : Int64 := own_n c (own_n c (own_n c (own_n c (own_n c (own_n c c)))))
def own_sh (n : Int32) (y : Int64) : Int64 := ((y.toUInt64 >>> (n &&& 0x3f).toInt64.toUInt64).toInt64)
def own_x1 (n : Int32) (y : Int64) : Int64 := y ^^^ own_sh n y
def own_x2 (n k : Int32) (y : Int64) : Int64 := (y ^^^ own_sh n y) ^^^ own_sh k y
def own_mix (z : Int64) : Int64 := own_x1 31 (own_x1 27 (own_x1 30 z * (-4658895280553007687 : Int64)) * (-7723592293110705685 : Int64))
def own_unmix (y : Int64) : Int64 := own_x2 30 60 (own_x2 27 54 (own_x2 31 62 y * own_inv (-7723592293110705685 : Int64)) * own_inv (-4658895280553007687 : Int64))
theorem own_bv (x : BitVec 64) (a b c : Nat) (h1 : a + a = b) (h2 : 64 ≤ a + b) : ((x ^^^ x >>> a) ^^^ (x ^^^ x >>> a) >>> a) ^^^ (x ^^^ x >>> a) >>> b = x := by
  apply BitVec.eq_of_getLsbD_eq
  intro i hi
  simp only [BitVec.getLsbD_xor, BitVec.getLsbD_ushiftRight]
  have e1 : a + (a + i) = b + i := by omega
  have e2 : x.getLsbD (a + (b + i)) = false := BitVec.getLsbD_of_ge _ _ (by omega)
  rw [e1, e2]
  generalize x.getLsbD i = u
  generalize x.getLsbD (a + i) = v
  generalize x.getLsbD (b + i) = w
  cases u <;> cases v <;> cases w <;> rfl
theorem own_sh31 (y : Int64) : (own_sh 31 y).toBitVec = y.toBitVec >>> 31 := rfl
theorem own_sh62 (y : Int64) : (own_sh 62 y).toBitVec = y.toBitVec >>> 62 := rfl
theorem own_sh27 (y : Int64) : (own_sh 27 y).toBitVec = y.toBitVec >>> 27 := rfl
theorem own_sh54 (y : Int64) : (own_sh 54 y).toBitVec = y.toBitVec >>> 54 := rfl
theorem own_sh30 (y : Int64) : (own_sh 30 y).toBitVec = y.toBitVec >>> 30 := rfl
theorem own_sh60 (y : Int64) : (own_sh 60 y).toBitVec = y.toBitVec >>> 60 := rfl
theorem own_u31 (y : Int64) : own_x2 31 62 (own_x1 31 y) = y := by
  apply Int64.toBitVec_inj.mp
  simp only [own_x2, own_x1, Int64.toBitVec_xor, own_sh31, own_sh62]
  exact own_bv _ 31 62 0 (by decide) (by decide)
theorem own_u27 (y : Int64) : own_x2 27 54 (own_x1 27 y) = y := by
  apply Int64.toBitVec_inj.mp
  simp only [own_x2, own_x1, Int64.toBitVec_xor, own_sh27, own_sh54]
  exact own_bv _ 27 54 0 (by decide) (by decide)
theorem own_u30 (y : Int64) : own_x2 30 60 (own_x1 30 y) = y := by
  apply Int64.toBitVec_inj.mp
  simp only [own_x2, own_x1, Int64.toBitVec_xor, own_sh30, own_sh60]
  exact own_bv _ 30 60 0 (by decide) (by decide)
theorem own_i2 : (-7723592293110705685 : Int64) * own_inv (-7723592293110705685 : Int64) = 1 := by decide +kernel
theorem own_i1 : (-4658895280553007687 : Int64) * own_inv (-4658895280553007687 : Int64) = 1 := by decide +kernel
theorem own_back (z : Int64) : own_unmix (own_mix z) = z := by
  unfold own_unmix own_mix
  rw [own_u31, Int64.mul_assoc, own_i2, Int64.mul_one, own_u27, Int64.mul_assoc, own_i1, Int64.mul_one, own_u30]
theorem own_e1 (z : Int64) : own_unmix (own_mix (z + (-7046029254386353131 : Int64))) = z + (-7046029254386353131 : Int64) := own_back _
theorem own_e2 (z : Int64) : own_unmix (own_mix ((z + (-7046029254386353131 : Int64)) + (-7046029254386353131 : Int64))) = z + ((2 : Int64) * (-7046029254386353131 : Int64)) := by
  rw [own_back, Int64.add_assoc]
  rfl
theorem own_e3 (z : Int64) : own_unmix (own_mix (((z + (-7046029254386353131 : Int64)) + (-7046029254386353131 : Int64)) + (-7046029254386353131 : Int64))) = z + ((3 : Int64) * (-7046029254386353131 : Int64)) := by
  rw [own_back, Int64.add_assoc, Int64.add_assoc]
  rfl
theorem own_pn0 : plainName "com/example/waysmith/waysmith/solver/SeededRandom" = true := by first | (simp [plainName, overriddenIn]; done) | decide +kernel
theorem own_dprog_53_method_1_code_0 : decode prog_53_method_1_code 0 = .ok (.aload_n 0, 1) := by decide +kernel
theorem own_dprog_53_method_1_code_1 : decode prog_53_method_1_code 1 = .ok (.invokespecial 1, 3) := by decide +kernel
theorem own_dprog_53_method_1_code_4 : decode prog_53_method_1_code 4 = .ok (.aload_n 0, 1) := by decide +kernel
theorem own_dprog_53_method_1_code_5 : decode prog_53_method_1_code 5 = .ok (.lload_n 1, 1) := by decide +kernel
theorem own_dprog_53_method_1_code_6 : decode prog_53_method_1_code 6 = .ok (.putfield 7, 3) := by decide +kernel
theorem own_dprog_53_method_1_code_9 : decode prog_53_method_1_code 9 = .ok (.return_, 1) := by decide +kernel
theorem own_b1_ef (m : MethodId) (a1 : Addr) (q1 : Int64) : entryFrame m #[(.ref a1), (.long q1)] 3 = mkF m 0 #[.val (.ref a1), .val (.long q1), .second] [] := by first | (simp [entryFrame, mkF, argsToLocals, Value.category]; done) | rfl
def own_b1_Q (Z : State) (a1 : Addr) (q1 : Int64) (u : Value) (h0 : Heap) (n0 : Nat) (v : Option Value) (h : Heap) (L : List Loc) : Prop := v = none ∧ Fr n0 L ∧ Keep h0 h [a1] ∧ Exa Z h a1 "com/example/waysmith/waysmith/solver/SeededRandom" ∧ Fld Z h a1 "com/example/waysmith/waysmith/solver/SeededRandom" "state" "J" (.long q1)
set_option maxRecDepth 65536 in
set_option maxHeartbeats 40000000 in
theorem own_b1 (l : Launch) (Z : State) (a0 : Array Value) (hw : ∀ d ∈ tables_1, d.before a0 Z = true) (ws : List Jvm.Cond) (a1 : Addr) (q1 : Int64) (u : Value) (h0 : Heap) (n0 : Nat) (Z0 : n0 ≤ h0.size) (F_state_a1 : Fld Z h0 a1 "com/example/waysmith/waysmith/solver/SeededRandom" "state" "J" u) (E_a1 : Exa Z h0 a1 "com/example/waysmith/waysmith/solver/SeededRandom") (g_a1 : n0 ≤ a1) :
    MetFree l (⟨"com/example/waysmith/waysmith/solver/SeededRandom", "<init>", "(J)V"⟩ : MethodName) (head1 (Jvm.Cond.code (⟨"com/example/waysmith/waysmith/solver/SeededRandom", "<init>", "(J)V"⟩ : MethodName) prog_53_method_1_code 3 none :: ws) ({ frames := 1, cells := 0, slots := 0, locals := 12 } : Room)) (fun aa U => aa = #[(.ref a1), (.long q1)] ∧ Z.Warmed39 U.vm ∧ U.heap = h0) (fun _ _ _ _ _ => True) (fun _ U o U' => ∃ v L, o = .returned v ∧ own_b1_Q Z a1 q1 u h0 n0 v U'.heap L ∧ FrameEnd U o U' L ({ frames := 1, cells := 0, slots := 0, locals := 12 } : Room).cells ({ frames := 1, cells := 0, slots := 0, locals := 12 } : Room).slots) := by
  refine MetFree.of_bodySF (plainFor_of_name own_pn0) hisR ?_
  have w2 := hw _ (List.mem_of_getElem? (i := 2) rfl)
  have w7 := hw _ (List.mem_of_getElem? (i := 7) rfl)
  have w8 := hw _ (List.mem_of_getElem? (i := 8) rfl)
  have w9 := hw _ (List.mem_of_getElem? (i := 9) rfl)
  have w10 := hw _ (List.mem_of_getElem? (i := 10) rfl)
  have w11 := hw _ (List.mem_of_getElem? (i := 11) rfl)
  intro p e s m args below meth c s₁ Bd hml0 hP hK
  obtain ⟨rfl, hZ, hh⟩ := hP
  have hx := Bd.exec
  have hby := Bd.bytes
  have hlk := Bd.notSynchronized
  have hml : c.maxLocals = 3 := hml0
  have hown : s.vm.findClass "com/example/waysmith/waysmith/solver/SeededRandom" = some m.cls := findClass_of_methodNamed Bd.named
  have hnm := (name_of_methodNamed Bd.named Bd.method).1
  have X0 : Stand p l e ({ frames := 1, cells := 0, slots := 0, locals := 12 } : Room) s m #[(.ref a1), (.long q1)] below meth c s₁ [] 0 0 := Stand.of_body Bd
  have e0 : s₁.heap = h0 := by rw [← hh, Bd.state]; rfl
  have N0 := Fr.nil n0
  have K0 : Keep h0 h0 [a1] := Keep.refl h0 _
  show own_Goes p e below (own_Fin s (own_b1_Q Z a1 q1 u h0 n0) ({ frames := 1, cells := 0, slots := 0, locals := 12 } : Room).cells ({ frames := 1, cells := 0, slots := 0, locals := 12 } : Room).slots) _
  refine own_step (fun t k => castTop (own_b1_ef m a1 q1) k) ?_
  show own_Goes p e below _ (s₁.setTop (mkF m 0 #[.val (.ref a1), .val (.long q1), .second] []))
  refine own_step (fun t k => XS.aloadN X0.here hx rfl (hb hby own_dprog_53_method_1_code_0) rfl rfl k) ?_
  show own_Goes p e below _ (s₁.setTop (mkF m 1 #[.val (.ref a1), .val (.long q1), .second] [(.ref a1)]))
  obtain ⟨T4, X4, e4, st4⟩ := initO X0 hx hZ hown w7 w8 w9 e0 (g := (mkF m 1 #[.val (.ref a1), .val (.long q1), .second] [(.ref a1)])) rfl (by rw [hml]; rfl) rfl (hb hby own_dprog_53_method_1_code_1) (by decide) (W := 0) (by show 2 * 0 + _ ≤ _; exact Nat.le_of_eq rfl) (by decide)
  refine own_step st4 ?_
  show own_Goes p e below _ (T4.setTop (mkF m 4 #[.val (.ref a1), .val (.long q1), .second] []))
  refine own_step (fun t k => XS.aloadN X4.here hx rfl (hb hby own_dprog_53_method_1_code_4) rfl rfl k) ?_
  show own_Goes p e below _ (T4.setTop (mkF m 5 #[.val (.ref a1), .val (.long q1), .second] [(.ref a1)]))
  refine own_step (fun t k => XS.lloadN X4.here hx rfl (hb hby own_dprog_53_method_1_code_5) rfl k) ?_
  show own_Goes p e below _ (T4.setTop (mkF m 6 #[.val (.ref a1), .val (.long q1), .second] [(.long q1), (.ref a1)]))
  obtain ⟨T5, h5, X5, e5, W5, st5⟩ := putF X4 hx hZ hown (host := "") (Or.inl w10) Via.refl e4 F_state_a1 E_a1 (Or.inl w11) w2 (ty := .long) (by decide) rfl rfl (g := (mkF m 6 #[.val (.ref a1), .val (.long q1), .second] [(.long q1), (.ref a1)])) rfl rfl (hb hby own_dprog_53_method_1_code_6)
  have Fw5 := F_state_a1.same W5
  have N5 := Fr.snoc X5 N0 g_a1
  have K6 : Keep h0 h5 [a1] := K0.wr W5 (Or.inl (List.mem_of_getElem? (i := 0) rfl))
  refine own_step st5 ?_
  show own_Goes p e below _ (T5.setTop (mkF m 9 #[.val (.ref a1), .val (.long q1), .second] []))
  refine own_ret0 X5 hx hlk Bd.returns (hb hby own_dprog_53_method_1_code_9) ?_ (by decide) (by decide)
  show own_b1_Q Z a1 q1 u h0 n0 _ T5.heap _
  rw [e5]
  exact ⟨rfl, N5, K6, (E_a1.wr W5), Fw5⟩
theorem own_dprog_53_method_2_code_0 : decode prog_53_method_2_code 0 = .ok (.aload_n 0, 1) := by decide +kernel
theorem own_dprog_53_method_2_code_1 : decode prog_53_method_2_code 1 = .ok (.dup, 1) := by decide +kernel
theorem own_dprog_53_method_2_code_2 : decode prog_53_method_2_code 2 = .ok (.getfield 7, 3) := by decide +kernel
theorem own_dprog_53_method_2_code_5 : decode prog_53_method_2_code 5 = .ok (.ldc2_w 13, 3) := by decide +kernel
theorem own_dprog_53_method_2_code_8 : decode prog_53_method_2_code 8 = .ok (.ladd, 1) := by decide +kernel
theorem own_dprog_53_method_2_code_9 : decode prog_53_method_2_code 9 = .ok (.putfield 7, 3) := by decide +kernel
theorem own_dprog_53_method_2_code_12 : decode prog_53_method_2_code 12 = .ok (.aload_n 0, 1) := by decide +kernel
theorem own_dprog_53_method_2_code_13 : decode prog_53_method_2_code 13 = .ok (.getfield 7, 3) := by decide +kernel
theorem own_dprog_53_method_2_code_16 : decode prog_53_method_2_code 16 = .ok (.lstore_n 1, 1) := by decide +kernel
theorem own_dprog_53_method_2_code_17 : decode prog_53_method_2_code 17 = .ok (.lload_n 1, 1) := by decide +kernel
theorem own_dprog_53_method_2_code_18 : decode prog_53_method_2_code 18 = .ok (.lload_n 1, 1) := by decide +kernel
theorem own_dprog_53_method_2_code_19 : decode prog_53_method_2_code 19 = .ok (.bipush 30, 2) := by decide +kernel
theorem own_dprog_53_method_2_code_21 : decode prog_53_method_2_code 21 = .ok (.lushr, 1) := by decide +kernel
theorem own_dprog_53_method_2_code_22 : decode prog_53_method_2_code 22 = .ok (.lxor, 1) := by decide +kernel
theorem own_dprog_53_method_2_code_23 : decode prog_53_method_2_code 23 = .ok (.ldc2_w 15, 3) := by decide +kernel
theorem own_dprog_53_method_2_code_26 : decode prog_53_method_2_code 26 = .ok (.lmul, 1) := by decide +kernel
theorem own_dprog_53_method_2_code_27 : decode prog_53_method_2_code 27 = .ok (.lstore_n 1, 1) := by decide +kernel
theorem own_dprog_53_method_2_code_28 : decode prog_53_method_2_code 28 = .ok (.lload_n 1, 1) := by decide +kernel
theorem own_dprog_53_method_2_code_29 : decode prog_53_method_2_code 29 = .ok (.lload_n 1, 1) := by decide +kernel
theorem own_dprog_53_method_2_code_30 : decode prog_53_method_2_code 30 = .ok (.bipush 27, 2) := by decide +kernel
theorem own_dprog_53_method_2_code_32 : decode prog_53_method_2_code 32 = .ok (.lushr, 1) := by decide +kernel
theorem own_dprog_53_method_2_code_33 : decode prog_53_method_2_code 33 = .ok (.lxor, 1) := by decide +kernel
theorem own_dprog_53_method_2_code_34 : decode prog_53_method_2_code 34 = .ok (.ldc2_w 17, 3) := by decide +kernel
theorem own_dprog_53_method_2_code_37 : decode prog_53_method_2_code 37 = .ok (.lmul, 1) := by decide +kernel
theorem own_dprog_53_method_2_code_38 : decode prog_53_method_2_code 38 = .ok (.lstore_n 1, 1) := by decide +kernel
theorem own_dprog_53_method_2_code_39 : decode prog_53_method_2_code 39 = .ok (.lload_n 1, 1) := by decide +kernel
theorem own_dprog_53_method_2_code_40 : decode prog_53_method_2_code 40 = .ok (.lload_n 1, 1) := by decide +kernel
theorem own_dprog_53_method_2_code_41 : decode prog_53_method_2_code 41 = .ok (.bipush 31, 2) := by decide +kernel
theorem own_dprog_53_method_2_code_43 : decode prog_53_method_2_code 43 = .ok (.lushr, 1) := by decide +kernel
theorem own_dprog_53_method_2_code_44 : decode prog_53_method_2_code 44 = .ok (.lxor, 1) := by decide +kernel
theorem own_dprog_53_method_2_code_45 : decode prog_53_method_2_code 45 = .ok (.lreturn, 1) := by decide +kernel
theorem own_b2_ef (m : MethodId) (a1 : Addr) : entryFrame m #[(.ref a1)] 3 = mkF m 0 #[.val (.ref a1), .unset, .unset] [] := by first | (simp [entryFrame, mkF, argsToLocals, Value.category]; done) | rfl
def own_b2_Q (Z : State) (a1 : Addr) (w3 : Int64) (h0 : Heap) (n0 : Nat) (v : Option Value) (h : Heap) (L : List Loc) : Prop := v = some (.long (own_mix (w3 + (-7046029254386353131 : Int64)))) ∧ Fr n0 L ∧ Keep h0 h [a1] ∧ Exa Z h a1 "com/example/waysmith/waysmith/solver/SeededRandom" ∧ Fld Z h a1 "com/example/waysmith/waysmith/solver/SeededRandom" "state" "J" (.long (w3 + (-7046029254386353131 : Int64)))
set_option maxRecDepth 65536 in
set_option maxHeartbeats 40000000 in
theorem own_b2 (l : Launch) (Z : State) (a0 : Array Value) (hw : ∀ d ∈ tables_1, d.before a0 Z = true) (ws : List Jvm.Cond) (a1 : Addr) (w3 : Int64) (h0 : Heap) (n0 : Nat) (Z0 : n0 ≤ h0.size) (F_state_a1 : Fld Z h0 a1 "com/example/waysmith/waysmith/solver/SeededRandom" "state" "J" (.long w3)) (E_a1 : Exa Z h0 a1 "com/example/waysmith/waysmith/solver/SeededRandom") (g_a1 : n0 ≤ a1) :
    MetFree l (⟨"com/example/waysmith/waysmith/solver/SeededRandom", "nextLong", "()J"⟩ : MethodName) (head1 (Jvm.Cond.code (⟨"com/example/waysmith/waysmith/solver/SeededRandom", "nextLong", "()J"⟩ : MethodName) prog_53_method_2_code 3 (some .long) :: ws) ({ frames := 0, cells := 0, slots := 0, locals := 0 } : Room)) (fun aa U => aa = #[(.ref a1)] ∧ Z.Warmed39 U.vm ∧ U.heap = h0) (fun _ _ _ _ _ => True) (fun _ U o U' => ∃ v L, o = .returned v ∧ own_b2_Q Z a1 w3 h0 n0 v U'.heap L ∧ FrameEnd U o U' L ({ frames := 0, cells := 0, slots := 0, locals := 0 } : Room).cells ({ frames := 0, cells := 0, slots := 0, locals := 0 } : Room).slots) := by
  refine MetFree.of_bodySF (plainFor_of_name own_pn0) hisR ?_
  have w2 := hw _ (List.mem_of_getElem? (i := 2) rfl)
  have w10 := hw _ (List.mem_of_getElem? (i := 10) rfl)
  have w11 := hw _ (List.mem_of_getElem? (i := 11) rfl)
  have w17 := hw _ (List.mem_of_getElem? (i := 17) rfl)
  have w18 := hw _ (List.mem_of_getElem? (i := 18) rfl)
  have w19 := hw _ (List.mem_of_getElem? (i := 19) rfl)
  intro p e s m args below meth c s₁ Bd hml0 hP hK
  obtain ⟨rfl, hZ, hh⟩ := hP
  have hx := Bd.exec
  have hby := Bd.bytes
  have hlk := Bd.notSynchronized
  have hml : c.maxLocals = 3 := hml0
  have hown : s.vm.findClass "com/example/waysmith/waysmith/solver/SeededRandom" = some m.cls := findClass_of_methodNamed Bd.named
  have hnm := (name_of_methodNamed Bd.named Bd.method).1
  have X0 : Stand p l e ({ frames := 0, cells := 0, slots := 0, locals := 0 } : Room) s m #[(.ref a1)] below meth c s₁ [] 0 0 := Stand.of_body Bd
  have e0 : s₁.heap = h0 := by rw [← hh, Bd.state]; rfl
  have N0 := Fr.nil n0
  have K0 : Keep h0 h0 [a1] := Keep.refl h0 _
  show own_Goes p e below (own_Fin s (own_b2_Q Z a1 w3 h0 n0) ({ frames := 0, cells := 0, slots := 0, locals := 0 } : Room).cells ({ frames := 0, cells := 0, slots := 0, locals := 0 } : Room).slots) _
  refine own_step (fun t k => castTop (own_b2_ef m a1) k) ?_
  show own_Goes p e below _ (s₁.setTop (mkF m 0 #[.val (.ref a1), .unset, .unset] []))
  refine own_step (fun t k => XS.aloadN X0.here hx rfl (hb hby own_dprog_53_method_2_code_0) rfl rfl k) ?_
  show own_Goes p e below _ (s₁.setTop (mkF m 1 #[.val (.ref a1), .unset, .unset] [(.ref a1)]))
  refine own_step (fun t k => XS.dup X0.here hx rfl (hb hby own_dprog_53_method_2_code_1) rfl rfl k) ?_
  show own_Goes p e below _ (s₁.setTop (mkF m 2 #[.val (.ref a1), .unset, .unset] [(.ref a1), (.ref a1)]))
  obtain ⟨T11, X11, e11, st11⟩ := getF X0 hx hZ hown (host := "") (Or.inl w10) Via.refl e0 F_state_a1 (g := (mkF m 2 #[.val (.ref a1), .unset, .unset] [(.ref a1), (.ref a1)])) rfl rfl (hb hby own_dprog_53_method_2_code_2)
  refine own_step st11 ?_
  show own_Goes p e below _ (T11.setTop (mkF m 5 #[.val (.ref a1), .unset, .unset] [(.long w3), (.ref a1)]))
  refine own_step (fun t k => X11.ldc2Long hx hown (mvT hZ w17) (g := (mkF m 5 #[.val (.ref a1), .unset, .unset] [(.long w3), (.ref a1)])) rfl (hb hby own_dprog_53_method_2_code_5) _ k) ?_
  show own_Goes p e below _ (T11.setTop (mkF m 8 #[.val (.ref a1), .unset, .unset] [(.long (-7046029254386353131 : Int64)), (.long w3), (.ref a1)]))
  refine own_step (fun t k => XS.ladd X11.here hx rfl (hb hby own_dprog_53_method_2_code_8) rfl k) ?_
  show own_Goes p e below _ (T11.setTop (mkF m 9 #[.val (.ref a1), .unset, .unset] [(.long (w3 + (-7046029254386353131 : Int64))), (.ref a1)]))
  obtain ⟨T12, h12, X12, e12, W12, st12⟩ := putF X11 hx hZ hown (host := "") (Or.inl w10) Via.refl e11 F_state_a1 E_a1 (Or.inl w11) w2 (ty := .long) (by decide) rfl rfl (g := (mkF m 9 #[.val (.ref a1), .unset, .unset] [(.long (w3 + (-7046029254386353131 : Int64))), (.ref a1)])) rfl rfl (hb hby own_dprog_53_method_2_code_9)
  have Fw12 := F_state_a1.same W12
  have N12 := Fr.snoc X12 N0 g_a1
  have K13 : Keep h0 h12 [a1] := K0.wr W12 (Or.inl (List.mem_of_getElem? (i := 0) rfl))
  refine own_step st12 ?_
  show own_Goes p e below _ (T12.setTop (mkF m 12 #[.val (.ref a1), .unset, .unset] []))
  refine own_step (fun t k => XS.aloadN X12.here hx rfl (hb hby own_dprog_53_method_2_code_12) rfl rfl k) ?_
  show own_Goes p e below _ (T12.setTop (mkF m 13 #[.val (.ref a1), .unset, .unset] [(.ref a1)]))
  obtain ⟨T14, X14, e14, st14⟩ := getF X12 hx hZ hown (host := "") (Or.inl w10) Via.refl e12 Fw12 (g := (mkF m 13 #[.val (.ref a1), .unset, .unset] [(.ref a1)])) rfl rfl (hb hby own_dprog_53_method_2_code_13)
  refine own_step st14 ?_
  show own_Goes p e below _ (T14.setTop (mkF m 16 #[.val (.ref a1), .unset, .unset] [(.long (w3 + (-7046029254386353131 : Int64)))]))
  refine own_step (fun t k => XS.lstoreN X14.here hx rfl (hb hby own_dprog_53_method_2_code_16) rfl (l' := #[.val (.ref a1), .val (.long (w3 + (-7046029254386353131 : Int64))), .second]) rfl k) ?_
  show own_Goes p e below _ (T14.setTop (mkF m 17 #[.val (.ref a1), .val (.long (w3 + (-7046029254386353131 : Int64))), .second] []))
  generalize hv_z0 : (w3 + (-7046029254386353131 : Int64)) = z0
  refine own_step (fun t k => XS.lloadN X14.here hx rfl (hb hby own_dprog_53_method_2_code_17) rfl k) ?_
  show own_Goes p e below _ (T14.setTop (mkF m 18 #[.val (.ref a1), .val (.long z0), .second] [(.long z0)]))
  refine own_step (fun t k => XS.lloadN X14.here hx rfl (hb hby own_dprog_53_method_2_code_18) rfl k) ?_
  show own_Goes p e below _ (T14.setTop (mkF m 19 #[.val (.ref a1), .val (.long z0), .second] [(.long z0), (.long z0)]))
  refine own_step (fun t k => XS.bipush X14.here hx rfl (hb hby own_dprog_53_method_2_code_19) k) ?_
  show own_Goes p e below _ (T14.setTop (mkF m 21 #[.val (.ref a1), .val (.long z0), .second] [(.int (30 : Int32)), (.long z0), (.long z0)]))
  refine own_step (fun t k => XS.lushr X14.here hx rfl (hb hby own_dprog_53_method_2_code_21) rfl k) ?_
  show own_Goes p e below _ (T14.setTop (mkF m 22 #[.val (.ref a1), .val (.long z0), .second] [(.long ((z0.toUInt64 >>> ((30 : Int32) &&& 0x3f).toInt64.toUInt64).toInt64)), (.long z0)]))
  refine own_step (fun t k => XS.lxor X14.here hx rfl (hb hby own_dprog_53_method_2_code_22) rfl k) ?_
  show own_Goes p e below _ (T14.setTop (mkF m 23 #[.val (.ref a1), .val (.long z0), .second] [(.long (z0 ^^^ ((z0.toUInt64 >>> ((30 : Int32) &&& 0x3f).toInt64.toUInt64).toInt64)))]))
  refine own_step (fun t k => X14.ldc2Long hx hown (mvT hZ w18) (g := (mkF m 23 #[.val (.ref a1), .val (.long z0), .second] [(.long (z0 ^^^ ((z0.toUInt64 >>> ((30 : Int32) &&& 0x3f).toInt64.toUInt64).toInt64)))])) rfl (hb hby own_dprog_53_method_2_code_23) _ k) ?_
  show own_Goes p e below _ (T14.setTop (mkF m 26 #[.val (.ref a1), .val (.long z0), .second] [(.long (-4658895280553007687 : Int64)), (.long (z0 ^^^ ((z0.toUInt64 >>> ((30 : Int32) &&& 0x3f).toInt64.toUInt64).toInt64)))]))
  refine own_step (fun t k => XS.lmul X14.here hx rfl (hb hby own_dprog_53_method_2_code_26) rfl k) ?_
  show own_Goes p e below _ (T14.setTop (mkF m 27 #[.val (.ref a1), .val (.long z0), .second] [(.long ((z0 ^^^ ((z0.toUInt64 >>> ((30 : Int32) &&& 0x3f).toInt64.toUInt64).toInt64)) * (-4658895280553007687 : Int64)))]))
  refine own_step (fun t k => XS.lstoreN X14.here hx rfl (hb hby own_dprog_53_method_2_code_27) rfl (l' := #[.val (.ref a1), .val (.long ((z0 ^^^ ((z0.toUInt64 >>> ((30 : Int32) &&& 0x3f).toInt64.toUInt64).toInt64)) * (-4658895280553007687 : Int64))), .second]) rfl k) ?_
  show own_Goes p e below _ (T14.setTop (mkF m 28 #[.val (.ref a1), .val (.long ((z0 ^^^ ((z0.toUInt64 >>> ((30 : Int32) &&& 0x3f).toInt64.toUInt64).toInt64)) * (-4658895280553007687 : Int64))), .second] []))
  generalize hv_z1 : ((z0 ^^^ ((z0.toUInt64 >>> ((30 : Int32) &&& 0x3f).toInt64.toUInt64).toInt64)) * (-4658895280553007687 : Int64)) = z1
  refine own_step (fun t k => XS.lloadN X14.here hx rfl (hb hby own_dprog_53_method_2_code_28) rfl k) ?_
  show own_Goes p e below _ (T14.setTop (mkF m 29 #[.val (.ref a1), .val (.long z1), .second] [(.long z1)]))
  refine own_step (fun t k => XS.lloadN X14.here hx rfl (hb hby own_dprog_53_method_2_code_29) rfl k) ?_
  show own_Goes p e below _ (T14.setTop (mkF m 30 #[.val (.ref a1), .val (.long z1), .second] [(.long z1), (.long z1)]))
  refine own_step (fun t k => XS.bipush X14.here hx rfl (hb hby own_dprog_53_method_2_code_30) k) ?_
  show own_Goes p e below _ (T14.setTop (mkF m 32 #[.val (.ref a1), .val (.long z1), .second] [(.int (27 : Int32)), (.long z1), (.long z1)]))
  refine own_step (fun t k => XS.lushr X14.here hx rfl (hb hby own_dprog_53_method_2_code_32) rfl k) ?_
  show own_Goes p e below _ (T14.setTop (mkF m 33 #[.val (.ref a1), .val (.long z1), .second] [(.long ((z1.toUInt64 >>> ((27 : Int32) &&& 0x3f).toInt64.toUInt64).toInt64)), (.long z1)]))
  refine own_step (fun t k => XS.lxor X14.here hx rfl (hb hby own_dprog_53_method_2_code_33) rfl k) ?_
  show own_Goes p e below _ (T14.setTop (mkF m 34 #[.val (.ref a1), .val (.long z1), .second] [(.long (z1 ^^^ ((z1.toUInt64 >>> ((27 : Int32) &&& 0x3f).toInt64.toUInt64).toInt64)))]))
  refine own_step (fun t k => X14.ldc2Long hx hown (mvT hZ w19) (g := (mkF m 34 #[.val (.ref a1), .val (.long z1), .second] [(.long (z1 ^^^ ((z1.toUInt64 >>> ((27 : Int32) &&& 0x3f).toInt64.toUInt64).toInt64)))])) rfl (hb hby own_dprog_53_method_2_code_34) _ k) ?_
  show own_Goes p e below _ (T14.setTop (mkF m 37 #[.val (.ref a1), .val (.long z1), .second] [(.long (-7723592293110705685 : Int64)), (.long (z1 ^^^ ((z1.toUInt64 >>> ((27 : Int32) &&& 0x3f).toInt64.toUInt64).toInt64)))]))
  refine own_step (fun t k => XS.lmul X14.here hx rfl (hb hby own_dprog_53_method_2_code_37) rfl k) ?_
  show own_Goes p e below _ (T14.setTop (mkF m 38 #[.val (.ref a1), .val (.long z1), .second] [(.long ((z1 ^^^ ((z1.toUInt64 >>> ((27 : Int32) &&& 0x3f).toInt64.toUInt64).toInt64)) * (-7723592293110705685 : Int64)))]))
  refine own_step (fun t k => XS.lstoreN X14.here hx rfl (hb hby own_dprog_53_method_2_code_38) rfl (l' := #[.val (.ref a1), .val (.long ((z1 ^^^ ((z1.toUInt64 >>> ((27 : Int32) &&& 0x3f).toInt64.toUInt64).toInt64)) * (-7723592293110705685 : Int64))), .second]) rfl k) ?_
  show own_Goes p e below _ (T14.setTop (mkF m 39 #[.val (.ref a1), .val (.long ((z1 ^^^ ((z1.toUInt64 >>> ((27 : Int32) &&& 0x3f).toInt64.toUInt64).toInt64)) * (-7723592293110705685 : Int64))), .second] []))
  generalize hv_z2 : ((z1 ^^^ ((z1.toUInt64 >>> ((27 : Int32) &&& 0x3f).toInt64.toUInt64).toInt64)) * (-7723592293110705685 : Int64)) = z2
  refine own_step (fun t k => XS.lloadN X14.here hx rfl (hb hby own_dprog_53_method_2_code_39) rfl k) ?_
  show own_Goes p e below _ (T14.setTop (mkF m 40 #[.val (.ref a1), .val (.long z2), .second] [(.long z2)]))
  refine own_step (fun t k => XS.lloadN X14.here hx rfl (hb hby own_dprog_53_method_2_code_40) rfl k) ?_
  show own_Goes p e below _ (T14.setTop (mkF m 41 #[.val (.ref a1), .val (.long z2), .second] [(.long z2), (.long z2)]))
  refine own_step (fun t k => XS.bipush X14.here hx rfl (hb hby own_dprog_53_method_2_code_41) k) ?_
  show own_Goes p e below _ (T14.setTop (mkF m 43 #[.val (.ref a1), .val (.long z2), .second] [(.int (31 : Int32)), (.long z2), (.long z2)]))
  refine own_step (fun t k => XS.lushr X14.here hx rfl (hb hby own_dprog_53_method_2_code_43) rfl k) ?_
  show own_Goes p e below _ (T14.setTop (mkF m 44 #[.val (.ref a1), .val (.long z2), .second] [(.long ((z2.toUInt64 >>> ((31 : Int32) &&& 0x3f).toInt64.toUInt64).toInt64)), (.long z2)]))
  refine own_step (fun t k => XS.lxor X14.here hx rfl (hb hby own_dprog_53_method_2_code_44) rfl k) ?_
  show own_Goes p e below _ (T14.setTop (mkF m 45 #[.val (.ref a1), .val (.long z2), .second] [(.long (z2 ^^^ ((z2.toUInt64 >>> ((31 : Int32) &&& 0x3f).toInt64.toUInt64).toInt64)))]))
  refine own_retV X14 hx hlk Bd.returns (w := (.long (z2 ^^^ ((z2.toUInt64 >>> ((31 : Int32) &&& 0x3f).toInt64.toUInt64).toInt64)))) rfl (Or.inr (Or.inl ⟨rfl, rfl, _, rfl⟩)) (hb hby own_dprog_53_method_2_code_45) ?_ (by decide) (by decide)
  show own_b2_Q Z a1 w3 h0 n0 _ T14.heap _
  rw [e14]
  exact ⟨(by subst hv_z2 hv_z1 hv_z0; rfl), N12, K13, (E_a1.wr W12), Fw12⟩
theorem own_pn1 : plainName "com/example/waysmith/waysmith/solver/SeededRandomNextLongPinLaw" = true := by first | (simp [plainName, overriddenIn]; done) | decide +kernel
theorem own_dmethod_2_code_0 : decode method_2_code 0 = .ok (.lload_n 0, 1) := by decide +kernel
theorem own_dmethod_2_code_1 : decode method_2_code 1 = .ok (.lstore_n 2, 1) := by decide +kernel
theorem own_dmethod_2_code_2 : decode method_2_code 2 = .ok (.lload_n 2, 1) := by decide +kernel
theorem own_dmethod_2_code_3 : decode method_2_code 3 = .ok (.ldc2_w 7, 3) := by decide +kernel
theorem own_dmethod_2_code_6 : decode method_2_code 6 = .ok (.lload_n 0, 1) := by decide +kernel
theorem own_dmethod_2_code_7 : decode method_2_code 7 = .ok (.lload_n 2, 1) := by decide +kernel
theorem own_dmethod_2_code_8 : decode method_2_code 8 = .ok (.lmul, 1) := by decide +kernel
theorem own_dmethod_2_code_9 : decode method_2_code 9 = .ok (.lsub, 1) := by decide +kernel
theorem own_dmethod_2_code_10 : decode method_2_code 10 = .ok (.lmul, 1) := by decide +kernel
theorem own_dmethod_2_code_11 : decode method_2_code 11 = .ok (.lstore_n 2, 1) := by decide +kernel
theorem own_dmethod_2_code_12 : decode method_2_code 12 = .ok (.lload_n 2, 1) := by decide +kernel
theorem own_dmethod_2_code_13 : decode method_2_code 13 = .ok (.ldc2_w 7, 3) := by decide +kernel
theorem own_dmethod_2_code_16 : decode method_2_code 16 = .ok (.lload_n 0, 1) := by decide +kernel
theorem own_dmethod_2_code_17 : decode method_2_code 17 = .ok (.lload_n 2, 1) := by decide +kernel
theorem own_dmethod_2_code_18 : decode method_2_code 18 = .ok (.lmul, 1) := by decide +kernel
theorem own_dmethod_2_code_19 : decode method_2_code 19 = .ok (.lsub, 1) := by decide +kernel
theorem own_dmethod_2_code_20 : decode method_2_code 20 = .ok (.lmul, 1) := by decide +kernel
theorem own_dmethod_2_code_21 : decode method_2_code 21 = .ok (.lstore_n 2, 1) := by decide +kernel
theorem own_dmethod_2_code_22 : decode method_2_code 22 = .ok (.lload_n 2, 1) := by decide +kernel
theorem own_dmethod_2_code_23 : decode method_2_code 23 = .ok (.ldc2_w 7, 3) := by decide +kernel
theorem own_dmethod_2_code_26 : decode method_2_code 26 = .ok (.lload_n 0, 1) := by decide +kernel
theorem own_dmethod_2_code_27 : decode method_2_code 27 = .ok (.lload_n 2, 1) := by decide +kernel
theorem own_dmethod_2_code_28 : decode method_2_code 28 = .ok (.lmul, 1) := by decide +kernel
theorem own_dmethod_2_code_29 : decode method_2_code 29 = .ok (.lsub, 1) := by decide +kernel
theorem own_dmethod_2_code_30 : decode method_2_code 30 = .ok (.lmul, 1) := by decide +kernel
theorem own_dmethod_2_code_31 : decode method_2_code 31 = .ok (.lstore_n 2, 1) := by decide +kernel
theorem own_dmethod_2_code_32 : decode method_2_code 32 = .ok (.lload_n 2, 1) := by decide +kernel
theorem own_dmethod_2_code_33 : decode method_2_code 33 = .ok (.ldc2_w 7, 3) := by decide +kernel
theorem own_dmethod_2_code_36 : decode method_2_code 36 = .ok (.lload_n 0, 1) := by decide +kernel
theorem own_dmethod_2_code_37 : decode method_2_code 37 = .ok (.lload_n 2, 1) := by decide +kernel
theorem own_dmethod_2_code_38 : decode method_2_code 38 = .ok (.lmul, 1) := by decide +kernel
theorem own_dmethod_2_code_39 : decode method_2_code 39 = .ok (.lsub, 1) := by decide +kernel
theorem own_dmethod_2_code_40 : decode method_2_code 40 = .ok (.lmul, 1) := by decide +kernel
theorem own_dmethod_2_code_41 : decode method_2_code 41 = .ok (.lstore_n 2, 1) := by decide +kernel
theorem own_dmethod_2_code_42 : decode method_2_code 42 = .ok (.lload_n 2, 1) := by decide +kernel
theorem own_dmethod_2_code_43 : decode method_2_code 43 = .ok (.ldc2_w 7, 3) := by decide +kernel
theorem own_dmethod_2_code_46 : decode method_2_code 46 = .ok (.lload_n 0, 1) := by decide +kernel
theorem own_dmethod_2_code_47 : decode method_2_code 47 = .ok (.lload_n 2, 1) := by decide +kernel
theorem own_dmethod_2_code_48 : decode method_2_code 48 = .ok (.lmul, 1) := by decide +kernel
theorem own_dmethod_2_code_49 : decode method_2_code 49 = .ok (.lsub, 1) := by decide +kernel
theorem own_dmethod_2_code_50 : decode method_2_code 50 = .ok (.lmul, 1) := by decide +kernel
theorem own_dmethod_2_code_51 : decode method_2_code 51 = .ok (.lstore_n 2, 1) := by decide +kernel
theorem own_dmethod_2_code_52 : decode method_2_code 52 = .ok (.lload_n 2, 1) := by decide +kernel
theorem own_dmethod_2_code_53 : decode method_2_code 53 = .ok (.ldc2_w 7, 3) := by decide +kernel
theorem own_dmethod_2_code_56 : decode method_2_code 56 = .ok (.lload_n 0, 1) := by decide +kernel
theorem own_dmethod_2_code_57 : decode method_2_code 57 = .ok (.lload_n 2, 1) := by decide +kernel
theorem own_dmethod_2_code_58 : decode method_2_code 58 = .ok (.lmul, 1) := by decide +kernel
theorem own_dmethod_2_code_59 : decode method_2_code 59 = .ok (.lsub, 1) := by decide +kernel
theorem own_dmethod_2_code_60 : decode method_2_code 60 = .ok (.lmul, 1) := by decide +kernel
theorem own_dmethod_2_code_61 : decode method_2_code 61 = .ok (.lstore_n 2, 1) := by decide +kernel
theorem own_dmethod_2_code_62 : decode method_2_code 62 = .ok (.lload_n 2, 1) := by decide +kernel
theorem own_dmethod_2_code_63 : decode method_2_code 63 = .ok (.lreturn, 1) := by decide +kernel
theorem own_b3_ef (m : MethodId) (q1 : Int64) : entryFrame m #[(.long q1)] 4 = mkF m 0 #[.val (.long q1), .second, .unset, .unset] [] := by first | (simp [entryFrame, mkF, argsToLocals, Value.category]; done) | rfl
def own_b3_Q (Z : State) (q1 : Int64) (h0 : Heap) (n0 : Nat) (v : Option Value) (h : Heap) (L : List Loc) : Prop := v = some (.long (own_inv q1)) ∧ Fr n0 L ∧ h = h0
set_option maxRecDepth 65536 in
set_option maxHeartbeats 40000000 in
theorem own_b3 (l : Launch) (Z : State) (a0 : Array Value) (hw : ∀ d ∈ tables_1, d.before a0 Z = true) (ws : List Jvm.Cond) (q1 : Int64) (h0 : Heap) (n0 : Nat) (Z0 : n0 ≤ h0.size) :
    MetFree l (⟨"com/example/waysmith/waysmith/solver/SeededRandomNextLongPinLaw", "inverse", "(J)J"⟩ : MethodName) (head1 (Jvm.Cond.code (⟨"com/example/waysmith/waysmith/solver/SeededRandomNextLongPinLaw", "inverse", "(J)J"⟩ : MethodName) method_2_code 4 (some .long) :: ws) ({ frames := 0, cells := 0, slots := 0, locals := 0 } : Room)) (fun aa U => aa = #[(.long q1)] ∧ Z.Warmed39 U.vm ∧ U.heap = h0) (fun _ _ _ _ _ => True) (fun _ U o U' => ∃ v L, o = .returned v ∧ own_b3_Q Z q1 h0 n0 v U'.heap L ∧ FrameEnd U o U' L ({ frames := 0, cells := 0, slots := 0, locals := 0 } : Room).cells ({ frames := 0, cells := 0, slots := 0, locals := 0 } : Room).slots) := by
  refine MetFree.of_bodySF (plainFor_of_name own_pn1) hisR ?_
  have w28 := hw _ (List.mem_of_getElem? (i := 28) rfl)
  intro p e s m args below meth c s₁ Bd hml0 hP hK
  obtain ⟨rfl, hZ, hh⟩ := hP
  have hx := Bd.exec
  have hby := Bd.bytes
  have hlk := Bd.notSynchronized
  have hml : c.maxLocals = 4 := hml0
  have hown : s.vm.findClass "com/example/waysmith/waysmith/solver/SeededRandomNextLongPinLaw" = some m.cls := findClass_of_methodNamed Bd.named
  have hnm := (name_of_methodNamed Bd.named Bd.method).1
  have X0 : Stand p l e ({ frames := 0, cells := 0, slots := 0, locals := 0 } : Room) s m #[(.long q1)] below meth c s₁ [] 0 0 := Stand.of_body Bd
  have e0 : s₁.heap = h0 := by rw [← hh, Bd.state]; rfl
  have N0 := Fr.nil n0
  have K0 : Keep h0 h0 [] := Keep.refl h0 _
  show own_Goes p e below (own_Fin s (own_b3_Q Z q1 h0 n0) ({ frames := 0, cells := 0, slots := 0, locals := 0 } : Room).cells ({ frames := 0, cells := 0, slots := 0, locals := 0 } : Room).slots) _
  refine own_step (fun t k => castTop (own_b3_ef m q1) k) ?_
  show own_Goes p e below _ (s₁.setTop (mkF m 0 #[.val (.long q1), .second, .unset, .unset] []))
  refine own_step (fun t k => XS.lloadN X0.here hx rfl (hb hby own_dmethod_2_code_0) rfl k) ?_
  show own_Goes p e below _ (s₁.setTop (mkF m 1 #[.val (.long q1), .second, .unset, .unset] [(.long q1)]))
  refine own_step (fun t k => XS.lstoreN X0.here hx rfl (hb hby own_dmethod_2_code_1) rfl (l' := #[.val (.long q1), .second, .val (.long q1), .second]) rfl k) ?_
  show own_Goes p e below _ (s₁.setTop (mkF m 2 #[.val (.long q1), .second, .val (.long q1), .second] []))
  refine own_step (fun t k => XS.lloadN X0.here hx rfl (hb hby own_dmethod_2_code_2) rfl k) ?_
  show own_Goes p e below _ (s₁.setTop (mkF m 3 #[.val (.long q1), .second, .val (.long q1), .second] [(.long q1)]))
  refine own_step (fun t k => X0.ldc2Long hx hown (mvT hZ w28) (g := (mkF m 3 #[.val (.long q1), .second, .val (.long q1), .second] [(.long q1)])) rfl (hb hby own_dmethod_2_code_3) _ k) ?_
  show own_Goes p e below _ (s₁.setTop (mkF m 6 #[.val (.long q1), .second, .val (.long q1), .second] [(.long (2 : Int64)), (.long q1)]))
  refine own_step (fun t k => XS.lloadN X0.here hx rfl (hb hby own_dmethod_2_code_6) rfl k) ?_
  show own_Goes p e below _ (s₁.setTop (mkF m 7 #[.val (.long q1), .second, .val (.long q1), .second] [(.long q1), (.long (2 : Int64)), (.long q1)]))
  refine own_step (fun t k => XS.lloadN X0.here hx rfl (hb hby own_dmethod_2_code_7) rfl k) ?_
  show own_Goes p e below _ (s₁.setTop (mkF m 8 #[.val (.long q1), .second, .val (.long q1), .second] [(.long q1), (.long q1), (.long (2 : Int64)), (.long q1)]))
  refine own_step (fun t k => XS.lmul X0.here hx rfl (hb hby own_dmethod_2_code_8) rfl k) ?_
  show own_Goes p e below _ (s₁.setTop (mkF m 9 #[.val (.long q1), .second, .val (.long q1), .second] [(.long (q1 * q1)), (.long (2 : Int64)), (.long q1)]))
  refine own_step (fun t k => XS.lsub X0.here hx rfl (hb hby own_dmethod_2_code_9) rfl k) ?_
  show own_Goes p e below _ (s₁.setTop (mkF m 10 #[.val (.long q1), .second, .val (.long q1), .second] [(.long ((2 : Int64) - (q1 * q1))), (.long q1)]))
  refine own_step (fun t k => XS.lmul X0.here hx rfl (hb hby own_dmethod_2_code_10) rfl k) ?_
  show own_Goes p e below _ (s₁.setTop (mkF m 11 #[.val (.long q1), .second, .val (.long q1), .second] [(.long (q1 * ((2 : Int64) - (q1 * q1))))]))
  refine own_step (fun t k => XS.lstoreN X0.here hx rfl (hb hby own_dmethod_2_code_11) rfl (l' := #[.val (.long q1), .second, .val (.long (q1 * ((2 : Int64) - (q1 * q1)))), .second]) rfl k) ?_
  show own_Goes p e below _ (s₁.setTop (mkF m 12 #[.val (.long q1), .second, .val (.long (q1 * ((2 : Int64) - (q1 * q1)))), .second] []))
  generalize hv_v0 : (q1 * ((2 : Int64) - (q1 * q1))) = v0
  refine own_step (fun t k => XS.lloadN X0.here hx rfl (hb hby own_dmethod_2_code_12) rfl k) ?_
  show own_Goes p e below _ (s₁.setTop (mkF m 13 #[.val (.long q1), .second, .val (.long v0), .second] [(.long v0)]))
  refine own_step (fun t k => X0.ldc2Long hx hown (mvT hZ w28) (g := (mkF m 13 #[.val (.long q1), .second, .val (.long v0), .second] [(.long v0)])) rfl (hb hby own_dmethod_2_code_13) _ k) ?_
  show own_Goes p e below _ (s₁.setTop (mkF m 16 #[.val (.long q1), .second, .val (.long v0), .second] [(.long (2 : Int64)), (.long v0)]))
  refine own_step (fun t k => XS.lloadN X0.here hx rfl (hb hby own_dmethod_2_code_16) rfl k) ?_
  show own_Goes p e below _ (s₁.setTop (mkF m 17 #[.val (.long q1), .second, .val (.long v0), .second] [(.long q1), (.long (2 : Int64)), (.long v0)]))
  refine own_step (fun t k => XS.lloadN X0.here hx rfl (hb hby own_dmethod_2_code_17) rfl k) ?_
  show own_Goes p e below _ (s₁.setTop (mkF m 18 #[.val (.long q1), .second, .val (.long v0), .second] [(.long v0), (.long q1), (.long (2 : Int64)), (.long v0)]))
  refine own_step (fun t k => XS.lmul X0.here hx rfl (hb hby own_dmethod_2_code_18) rfl k) ?_
  show own_Goes p e below _ (s₁.setTop (mkF m 19 #[.val (.long q1), .second, .val (.long v0), .second] [(.long (q1 * v0)), (.long (2 : Int64)), (.long v0)]))
  refine own_step (fun t k => XS.lsub X0.here hx rfl (hb hby own_dmethod_2_code_19) rfl k) ?_
  show own_Goes p e below _ (s₁.setTop (mkF m 20 #[.val (.long q1), .second, .val (.long v0), .second] [(.long ((2 : Int64) - (q1 * v0))), (.long v0)]))
  refine own_step (fun t k => XS.lmul X0.here hx rfl (hb hby own_dmethod_2_code_20) rfl k) ?_
  show own_Goes p e below _ (s₁.setTop (mkF m 21 #[.val (.long q1), .second, .val (.long v0), .second] [(.long (v0 * ((2 : Int64) - (q1 * v0))))]))
  refine own_step (fun t k => XS.lstoreN X0.here hx rfl (hb hby own_dmethod_2_code_21) rfl (l' := #[.val (.long q1), .second, .val (.long (v0 * ((2 : Int64) - (q1 * v0)))), .second]) rfl k) ?_
  show own_Goes p e below _ (s₁.setTop (mkF m 22 #[.val (.long q1), .second, .val (.long (v0 * ((2 : Int64) - (q1 * v0)))), .second] []))
  generalize hv_v1 : (v0 * ((2 : Int64) - (q1 * v0))) = v1
  refine own_step (fun t k => XS.lloadN X0.here hx rfl (hb hby own_dmethod_2_code_22) rfl k) ?_
  show own_Goes p e below _ (s₁.setTop (mkF m 23 #[.val (.long q1), .second, .val (.long v1), .second] [(.long v1)]))
  refine own_step (fun t k => X0.ldc2Long hx hown (mvT hZ w28) (g := (mkF m 23 #[.val (.long q1), .second, .val (.long v1), .second] [(.long v1)])) rfl (hb hby own_dmethod_2_code_23) _ k) ?_
  show own_Goes p e below _ (s₁.setTop (mkF m 26 #[.val (.long q1), .second, .val (.long v1), .second] [(.long (2 : Int64)), (.long v1)]))
  refine own_step (fun t k => XS.lloadN X0.here hx rfl (hb hby own_dmethod_2_code_26) rfl k) ?_
  show own_Goes p e below _ (s₁.setTop (mkF m 27 #[.val (.long q1), .second, .val (.long v1), .second] [(.long q1), (.long (2 : Int64)), (.long v1)]))
  refine own_step (fun t k => XS.lloadN X0.here hx rfl (hb hby own_dmethod_2_code_27) rfl k) ?_
  show own_Goes p e below _ (s₁.setTop (mkF m 28 #[.val (.long q1), .second, .val (.long v1), .second] [(.long v1), (.long q1), (.long (2 : Int64)), (.long v1)]))
  refine own_step (fun t k => XS.lmul X0.here hx rfl (hb hby own_dmethod_2_code_28) rfl k) ?_
  show own_Goes p e below _ (s₁.setTop (mkF m 29 #[.val (.long q1), .second, .val (.long v1), .second] [(.long (q1 * v1)), (.long (2 : Int64)), (.long v1)]))
  refine own_step (fun t k => XS.lsub X0.here hx rfl (hb hby own_dmethod_2_code_29) rfl k) ?_
  show own_Goes p e below _ (s₁.setTop (mkF m 30 #[.val (.long q1), .second, .val (.long v1), .second] [(.long ((2 : Int64) - (q1 * v1))), (.long v1)]))
  refine own_step (fun t k => XS.lmul X0.here hx rfl (hb hby own_dmethod_2_code_30) rfl k) ?_
  show own_Goes p e below _ (s₁.setTop (mkF m 31 #[.val (.long q1), .second, .val (.long v1), .second] [(.long (v1 * ((2 : Int64) - (q1 * v1))))]))
  refine own_step (fun t k => XS.lstoreN X0.here hx rfl (hb hby own_dmethod_2_code_31) rfl (l' := #[.val (.long q1), .second, .val (.long (v1 * ((2 : Int64) - (q1 * v1)))), .second]) rfl k) ?_
  show own_Goes p e below _ (s₁.setTop (mkF m 32 #[.val (.long q1), .second, .val (.long (v1 * ((2 : Int64) - (q1 * v1)))), .second] []))
  generalize hv_v2 : (v1 * ((2 : Int64) - (q1 * v1))) = v2
  refine own_step (fun t k => XS.lloadN X0.here hx rfl (hb hby own_dmethod_2_code_32) rfl k) ?_
  show own_Goes p e below _ (s₁.setTop (mkF m 33 #[.val (.long q1), .second, .val (.long v2), .second] [(.long v2)]))
  refine own_step (fun t k => X0.ldc2Long hx hown (mvT hZ w28) (g := (mkF m 33 #[.val (.long q1), .second, .val (.long v2), .second] [(.long v2)])) rfl (hb hby own_dmethod_2_code_33) _ k) ?_
  show own_Goes p e below _ (s₁.setTop (mkF m 36 #[.val (.long q1), .second, .val (.long v2), .second] [(.long (2 : Int64)), (.long v2)]))
  refine own_step (fun t k => XS.lloadN X0.here hx rfl (hb hby own_dmethod_2_code_36) rfl k) ?_
  show own_Goes p e below _ (s₁.setTop (mkF m 37 #[.val (.long q1), .second, .val (.long v2), .second] [(.long q1), (.long (2 : Int64)), (.long v2)]))
  refine own_step (fun t k => XS.lloadN X0.here hx rfl (hb hby own_dmethod_2_code_37) rfl k) ?_
  show own_Goes p e below _ (s₁.setTop (mkF m 38 #[.val (.long q1), .second, .val (.long v2), .second] [(.long v2), (.long q1), (.long (2 : Int64)), (.long v2)]))
  refine own_step (fun t k => XS.lmul X0.here hx rfl (hb hby own_dmethod_2_code_38) rfl k) ?_
  show own_Goes p e below _ (s₁.setTop (mkF m 39 #[.val (.long q1), .second, .val (.long v2), .second] [(.long (q1 * v2)), (.long (2 : Int64)), (.long v2)]))
  refine own_step (fun t k => XS.lsub X0.here hx rfl (hb hby own_dmethod_2_code_39) rfl k) ?_
  show own_Goes p e below _ (s₁.setTop (mkF m 40 #[.val (.long q1), .second, .val (.long v2), .second] [(.long ((2 : Int64) - (q1 * v2))), (.long v2)]))
  refine own_step (fun t k => XS.lmul X0.here hx rfl (hb hby own_dmethod_2_code_40) rfl k) ?_
  show own_Goes p e below _ (s₁.setTop (mkF m 41 #[.val (.long q1), .second, .val (.long v2), .second] [(.long (v2 * ((2 : Int64) - (q1 * v2))))]))
  refine own_step (fun t k => XS.lstoreN X0.here hx rfl (hb hby own_dmethod_2_code_41) rfl (l' := #[.val (.long q1), .second, .val (.long (v2 * ((2 : Int64) - (q1 * v2)))), .second]) rfl k) ?_
  show own_Goes p e below _ (s₁.setTop (mkF m 42 #[.val (.long q1), .second, .val (.long (v2 * ((2 : Int64) - (q1 * v2)))), .second] []))
  generalize hv_v3 : (v2 * ((2 : Int64) - (q1 * v2))) = v3
  refine own_step (fun t k => XS.lloadN X0.here hx rfl (hb hby own_dmethod_2_code_42) rfl k) ?_
  show own_Goes p e below _ (s₁.setTop (mkF m 43 #[.val (.long q1), .second, .val (.long v3), .second] [(.long v3)]))
  refine own_step (fun t k => X0.ldc2Long hx hown (mvT hZ w28) (g := (mkF m 43 #[.val (.long q1), .second, .val (.long v3), .second] [(.long v3)])) rfl (hb hby own_dmethod_2_code_43) _ k) ?_
  show own_Goes p e below _ (s₁.setTop (mkF m 46 #[.val (.long q1), .second, .val (.long v3), .second] [(.long (2 : Int64)), (.long v3)]))
  refine own_step (fun t k => XS.lloadN X0.here hx rfl (hb hby own_dmethod_2_code_46) rfl k) ?_
  show own_Goes p e below _ (s₁.setTop (mkF m 47 #[.val (.long q1), .second, .val (.long v3), .second] [(.long q1), (.long (2 : Int64)), (.long v3)]))
  refine own_step (fun t k => XS.lloadN X0.here hx rfl (hb hby own_dmethod_2_code_47) rfl k) ?_
  show own_Goes p e below _ (s₁.setTop (mkF m 48 #[.val (.long q1), .second, .val (.long v3), .second] [(.long v3), (.long q1), (.long (2 : Int64)), (.long v3)]))
  refine own_step (fun t k => XS.lmul X0.here hx rfl (hb hby own_dmethod_2_code_48) rfl k) ?_
  show own_Goes p e below _ (s₁.setTop (mkF m 49 #[.val (.long q1), .second, .val (.long v3), .second] [(.long (q1 * v3)), (.long (2 : Int64)), (.long v3)]))
  refine own_step (fun t k => XS.lsub X0.here hx rfl (hb hby own_dmethod_2_code_49) rfl k) ?_
  show own_Goes p e below _ (s₁.setTop (mkF m 50 #[.val (.long q1), .second, .val (.long v3), .second] [(.long ((2 : Int64) - (q1 * v3))), (.long v3)]))
  refine own_step (fun t k => XS.lmul X0.here hx rfl (hb hby own_dmethod_2_code_50) rfl k) ?_
  show own_Goes p e below _ (s₁.setTop (mkF m 51 #[.val (.long q1), .second, .val (.long v3), .second] [(.long (v3 * ((2 : Int64) - (q1 * v3))))]))
  refine own_step (fun t k => XS.lstoreN X0.here hx rfl (hb hby own_dmethod_2_code_51) rfl (l' := #[.val (.long q1), .second, .val (.long (v3 * ((2 : Int64) - (q1 * v3)))), .second]) rfl k) ?_
  show own_Goes p e below _ (s₁.setTop (mkF m 52 #[.val (.long q1), .second, .val (.long (v3 * ((2 : Int64) - (q1 * v3)))), .second] []))
  generalize hv_v4 : (v3 * ((2 : Int64) - (q1 * v3))) = v4
  refine own_step (fun t k => XS.lloadN X0.here hx rfl (hb hby own_dmethod_2_code_52) rfl k) ?_
  show own_Goes p e below _ (s₁.setTop (mkF m 53 #[.val (.long q1), .second, .val (.long v4), .second] [(.long v4)]))
  refine own_step (fun t k => X0.ldc2Long hx hown (mvT hZ w28) (g := (mkF m 53 #[.val (.long q1), .second, .val (.long v4), .second] [(.long v4)])) rfl (hb hby own_dmethod_2_code_53) _ k) ?_
  show own_Goes p e below _ (s₁.setTop (mkF m 56 #[.val (.long q1), .second, .val (.long v4), .second] [(.long (2 : Int64)), (.long v4)]))
  refine own_step (fun t k => XS.lloadN X0.here hx rfl (hb hby own_dmethod_2_code_56) rfl k) ?_
  show own_Goes p e below _ (s₁.setTop (mkF m 57 #[.val (.long q1), .second, .val (.long v4), .second] [(.long q1), (.long (2 : Int64)), (.long v4)]))
  refine own_step (fun t k => XS.lloadN X0.here hx rfl (hb hby own_dmethod_2_code_57) rfl k) ?_
  show own_Goes p e below _ (s₁.setTop (mkF m 58 #[.val (.long q1), .second, .val (.long v4), .second] [(.long v4), (.long q1), (.long (2 : Int64)), (.long v4)]))
  refine own_step (fun t k => XS.lmul X0.here hx rfl (hb hby own_dmethod_2_code_58) rfl k) ?_
  show own_Goes p e below _ (s₁.setTop (mkF m 59 #[.val (.long q1), .second, .val (.long v4), .second] [(.long (q1 * v4)), (.long (2 : Int64)), (.long v4)]))
  refine own_step (fun t k => XS.lsub X0.here hx rfl (hb hby own_dmethod_2_code_59) rfl k) ?_
  show own_Goes p e below _ (s₁.setTop (mkF m 60 #[.val (.long q1), .second, .val (.long v4), .second] [(.long ((2 : Int64) - (q1 * v4))), (.long v4)]))
  refine own_step (fun t k => XS.lmul X0.here hx rfl (hb hby own_dmethod_2_code_60) rfl k) ?_
  show own_Goes p e below _ (s₁.setTop (mkF m 61 #[.val (.long q1), .second, .val (.long v4), .second] [(.long (v4 * ((2 : Int64) - (q1 * v4))))]))
  refine own_step (fun t k => XS.lstoreN X0.here hx rfl (hb hby own_dmethod_2_code_61) rfl (l' := #[.val (.long q1), .second, .val (.long (v4 * ((2 : Int64) - (q1 * v4)))), .second]) rfl k) ?_
  show own_Goes p e below _ (s₁.setTop (mkF m 62 #[.val (.long q1), .second, .val (.long (v4 * ((2 : Int64) - (q1 * v4)))), .second] []))
  generalize hv_v5 : (v4 * ((2 : Int64) - (q1 * v4))) = v5
  refine own_step (fun t k => XS.lloadN X0.here hx rfl (hb hby own_dmethod_2_code_62) rfl k) ?_
  show own_Goes p e below _ (s₁.setTop (mkF m 63 #[.val (.long q1), .second, .val (.long v5), .second] [(.long v5)]))
  refine own_retV X0 hx hlk Bd.returns (w := (.long v5)) rfl (Or.inr (Or.inl ⟨rfl, rfl, _, rfl⟩)) (hb hby own_dmethod_2_code_63) ?_ (by decide) (by decide)
  show own_b3_Q Z q1 h0 n0 _ s₁.heap _
  rw [e0]
  exact ⟨(by subst hv_v5 hv_v4 hv_v3 hv_v2 hv_v1 hv_v0; rfl), N0, rfl⟩
theorem own_dmethod_3_code_0 : decode method_3_code 0 = .ok (.ldc2_w 9, 3) := by decide +kernel
theorem own_pd0 : parseMethodDescriptor "(J)J" = some ⟨[.long], some .long⟩ := by decide +kernel
theorem own_dmethod_3_code_3 : decode method_3_code 3 = .ok (.invokestatic 11, 3) := by decide +kernel
theorem own_dmethod_3_code_6 : decode method_3_code 6 = .ok (.lstore_n 2, 1) := by decide +kernel
theorem own_dmethod_3_code_7 : decode method_3_code 7 = .ok (.ldc2_w 17, 3) := by decide +kernel
theorem own_dmethod_3_code_10 : decode method_3_code 10 = .ok (.invokestatic 11, 3) := by decide +kernel
theorem own_dmethod_3_code_13 : decode method_3_code 13 = .ok (.lstore 4, 2) := by decide +kernel
theorem own_dmethod_3_code_15 : decode method_3_code 15 = .ok (.lload_n 0, 1) := by decide +kernel
theorem own_dmethod_3_code_16 : decode method_3_code 16 = .ok (.lload_n 0, 1) := by decide +kernel
theorem own_dmethod_3_code_17 : decode method_3_code 17 = .ok (.bipush 31, 2) := by decide +kernel
theorem own_dmethod_3_code_19 : decode method_3_code 19 = .ok (.lushr, 1) := by decide +kernel
theorem own_dmethod_3_code_20 : decode method_3_code 20 = .ok (.lxor, 1) := by decide +kernel
theorem own_dmethod_3_code_21 : decode method_3_code 21 = .ok (.lload_n 0, 1) := by decide +kernel
theorem own_dmethod_3_code_22 : decode method_3_code 22 = .ok (.bipush 62, 2) := by decide +kernel
theorem own_dmethod_3_code_24 : decode method_3_code 24 = .ok (.lushr, 1) := by decide +kernel
theorem own_dmethod_3_code_25 : decode method_3_code 25 = .ok (.lxor, 1) := by decide +kernel
theorem own_dmethod_3_code_26 : decode method_3_code 26 = .ok (.lstore_n 0, 1) := by decide +kernel
theorem own_dmethod_3_code_27 : decode method_3_code 27 = .ok (.lload_n 0, 1) := by decide +kernel
theorem own_dmethod_3_code_28 : decode method_3_code 28 = .ok (.lload 4, 2) := by decide +kernel
theorem own_dmethod_3_code_30 : decode method_3_code 30 = .ok (.lmul, 1) := by decide +kernel
theorem own_dmethod_3_code_31 : decode method_3_code 31 = .ok (.lstore_n 0, 1) := by decide +kernel
theorem own_dmethod_3_code_32 : decode method_3_code 32 = .ok (.lload_n 0, 1) := by decide +kernel
theorem own_dmethod_3_code_33 : decode method_3_code 33 = .ok (.lload_n 0, 1) := by decide +kernel
theorem own_dmethod_3_code_34 : decode method_3_code 34 = .ok (.bipush 27, 2) := by decide +kernel
theorem own_dmethod_3_code_36 : decode method_3_code 36 = .ok (.lushr, 1) := by decide +kernel
theorem own_dmethod_3_code_37 : decode method_3_code 37 = .ok (.lxor, 1) := by decide +kernel
theorem own_dmethod_3_code_38 : decode method_3_code 38 = .ok (.lload_n 0, 1) := by decide +kernel
theorem own_dmethod_3_code_39 : decode method_3_code 39 = .ok (.bipush 54, 2) := by decide +kernel
theorem own_dmethod_3_code_41 : decode method_3_code 41 = .ok (.lushr, 1) := by decide +kernel
theorem own_dmethod_3_code_42 : decode method_3_code 42 = .ok (.lxor, 1) := by decide +kernel
theorem own_dmethod_3_code_43 : decode method_3_code 43 = .ok (.lstore_n 0, 1) := by decide +kernel
theorem own_dmethod_3_code_44 : decode method_3_code 44 = .ok (.lload_n 0, 1) := by decide +kernel
theorem own_dmethod_3_code_45 : decode method_3_code 45 = .ok (.lload_n 2, 1) := by decide +kernel
theorem own_dmethod_3_code_46 : decode method_3_code 46 = .ok (.lmul, 1) := by decide +kernel
theorem own_dmethod_3_code_47 : decode method_3_code 47 = .ok (.lstore_n 0, 1) := by decide +kernel
theorem own_dmethod_3_code_48 : decode method_3_code 48 = .ok (.lload_n 0, 1) := by decide +kernel
theorem own_dmethod_3_code_49 : decode method_3_code 49 = .ok (.lload_n 0, 1) := by decide +kernel
theorem own_dmethod_3_code_50 : decode method_3_code 50 = .ok (.bipush 30, 2) := by decide +kernel
theorem own_dmethod_3_code_52 : decode method_3_code 52 = .ok (.lushr, 1) := by decide +kernel
theorem own_dmethod_3_code_53 : decode method_3_code 53 = .ok (.lxor, 1) := by decide +kernel
theorem own_dmethod_3_code_54 : decode method_3_code 54 = .ok (.lload_n 0, 1) := by decide +kernel
theorem own_dmethod_3_code_55 : decode method_3_code 55 = .ok (.bipush 60, 2) := by decide +kernel
theorem own_dmethod_3_code_57 : decode method_3_code 57 = .ok (.lushr, 1) := by decide +kernel
theorem own_dmethod_3_code_58 : decode method_3_code 58 = .ok (.lxor, 1) := by decide +kernel
theorem own_dmethod_3_code_59 : decode method_3_code 59 = .ok (.lstore_n 0, 1) := by decide +kernel
theorem own_dmethod_3_code_60 : decode method_3_code 60 = .ok (.lload_n 0, 1) := by decide +kernel
theorem own_dmethod_3_code_61 : decode method_3_code 61 = .ok (.lreturn, 1) := by decide +kernel
theorem own_b4_ef (m : MethodId) (q1 : Int64) : entryFrame m #[(.long q1)] 6 = mkF m 0 #[.val (.long q1), .second, .unset, .unset, .unset, .unset] [] := by first | (simp [entryFrame, mkF, argsToLocals, Value.category]; done) | rfl
def own_b4_Q (Z : State) (q1 : Int64) (h0 : Heap) (n0 : Nat) (v : Option Value) (h : Heap) (L : List Loc) : Prop := v = some (.long (own_unmix q1)) ∧ Fr n0 L ∧ h = h0
set_option maxRecDepth 65536 in
set_option maxHeartbeats 40000000 in
theorem own_b4 (l : Launch) (Z : State) (a0 : Array Value) (hw : ∀ d ∈ tables_1, d.before a0 Z = true) (ws : List Jvm.Cond) (q1 : Int64) (h0 : Heap) (n0 : Nat) (Z0 : n0 ≤ h0.size) :
    MetFree l (⟨"com/example/waysmith/waysmith/solver/SeededRandomNextLongPinLaw", "unmix", "(J)J"⟩ : MethodName) (head1 (Jvm.Cond.code (⟨"com/example/waysmith/waysmith/solver/SeededRandomNextLongPinLaw", "unmix", "(J)J"⟩ : MethodName) method_3_code 6 (some .long) :: ws) ({ frames := 1, cells := 0, slots := 0, locals := 15 } : Room)) (fun aa U => aa = #[(.long q1)] ∧ Z.Warmed39 U.vm ∧ U.heap = h0) (fun _ _ _ _ _ => True) (fun _ U o U' => ∃ v L, o = .returned v ∧ own_b4_Q Z q1 h0 n0 v U'.heap L ∧ FrameEnd U o U' L ({ frames := 1, cells := 0, slots := 0, locals := 15 } : Room).cells ({ frames := 1, cells := 0, slots := 0, locals := 15 } : Room).slots) := by
  refine MetFree.of_bodySF (plainFor_of_name own_pn1) hisR ?_
  have w22 := hw _ (List.mem_of_getElem? (i := 22) rfl)
  have w24 := hw _ (List.mem_of_getElem? (i := 24) rfl)
  have w25 := hw _ (List.mem_of_getElem? (i := 25) rfl)
  have w26 := hw _ (List.mem_of_getElem? (i := 26) rfl)
  have w27 := hw _ (List.mem_of_getElem? (i := 27) rfl)
  have w29 := hw _ (List.mem_of_getElem? (i := 29) rfl)
  intro p e s m args below meth c s₁ Bd hml0 hP hK
  obtain ⟨rfl, hZ, hh⟩ := hP
  have hx := Bd.exec
  have hby := Bd.bytes
  have hlk := Bd.notSynchronized
  have hml : c.maxLocals = 6 := hml0
  have hown : s.vm.findClass "com/example/waysmith/waysmith/solver/SeededRandomNextLongPinLaw" = some m.cls := findClass_of_methodNamed Bd.named
  have hnm := (name_of_methodNamed Bd.named Bd.method).1
  have X0 : Stand p l e ({ frames := 1, cells := 0, slots := 0, locals := 15 } : Room) s m #[(.long q1)] below meth c s₁ [] 0 0 := Stand.of_body Bd
  have e0 : s₁.heap = h0 := by rw [← hh, Bd.state]; rfl
  have N0 := Fr.nil n0
  have K0 : Keep h0 h0 [] := Keep.refl h0 _
  show own_Goes p e below (own_Fin s (own_b4_Q Z q1 h0 n0) ({ frames := 1, cells := 0, slots := 0, locals := 15 } : Room).cells ({ frames := 1, cells := 0, slots := 0, locals := 15 } : Room).slots) _
  refine own_step (fun t k => castTop (own_b4_ef m q1) k) ?_
  show own_Goes p e below _ (s₁.setTop (mkF m 0 #[.val (.long q1), .second, .unset, .unset, .unset, .unset] []))
  refine own_step (fun t k => X0.ldc2Long hx hown (mvT hZ w24) (g := (mkF m 0 #[.val (.long q1), .second, .unset, .unset, .unset, .unset] [])) rfl (hb hby own_dmethod_3_code_0) _ k) ?_
  show own_Goes p e below _ (s₁.setTop (mkF m 3 #[.val (.long q1), .second, .unset, .unset, .unset, .unset] [(.long (-4658895280553007687 : Int64))]))
  obtain ⟨_, _, ⟨T17, L17, k17, n17⟩, -, X17, ⟨Lc17, hQ17, l17, y17, z17⟩, st17⟩ := Jvm.LawKit.callS X0 hx (y := (⟨"com/example/waysmith/waysmith/solver/SeededRandomNextLongPinLaw", "inverse", "(J)J"⟩ : MethodName)) hown (mvT hZ w25) (mvT hZ w26) (mvT hZ w22) (mvT hZ w27) (by decide) (backOf (W := 0) (own_b3 l Z a0 hw [] (-4658895280553007687 : Int64)  h0 n0 Z0 ) hZ w27 w22 (by decide) (by decide)) (g := (mkF m 3 #[.val (.long q1), .second, .unset, .unset, .unset, .unset] [(.long (-4658895280553007687 : Int64))])) rfl (by rw [hml]; rfl) (argsL := [(.long (-4658895280553007687 : Int64))]) (rest := []) (lenOf own_pd0 rfl) rfl (by show 2 * 0 + _ ≤ _; exact Nat.le_of_eq rfl) (hb hby own_dmethod_3_code_3) (fun _ _ => ⟨rfl, e0, (by decide : 0 + 0 ≤ _), (by decide : 0 + 0 ≤ _)⟩)
  dsimp only [Pt.U, Pt.locs, Pt.cells, Pt.slots] at X17 l17 y17 z17 st17 hQ17
  subst l17 y17 z17
  obtain ⟨rfl, N17q, eh17⟩ := hQ17
  have N17 := Fr.app N0 N17q
  refine own_step st17 ?_
  show own_Goes p e below _ (T17.setTop (mkF m 6 #[.val (.long q1), .second, .unset, .unset, .unset, .unset] [(.long (own_inv (-4658895280553007687 : Int64)))]))
  refine own_step (fun t k => XS.lstoreN X17.here hx rfl (hb hby own_dmethod_3_code_6) rfl (l' := #[.val (.long q1), .second, .val (.long (own_inv (-4658895280553007687 : Int64))), .second, .unset, .unset]) rfl k) ?_
  show own_Goes p e below _ (T17.setTop (mkF m 7 #[.val (.long q1), .second, .val (.long (own_inv (-4658895280553007687 : Int64))), .second, .unset, .unset] []))
  refine own_step (fun t k => X17.ldc2Long hx hown (mvT hZ w29) (g := (mkF m 7 #[.val (.long q1), .second, .val (.long (own_inv (-4658895280553007687 : Int64))), .second, .unset, .unset] [])) rfl (hb hby own_dmethod_3_code_7) _ k) ?_
  show own_Goes p e below _ (T17.setTop (mkF m 10 #[.val (.long q1), .second, .val (.long (own_inv (-4658895280553007687 : Int64))), .second, .unset, .unset] [(.long (-7723592293110705685 : Int64))]))
  obtain ⟨_, _, ⟨T18, L18, k18, n18⟩, -, X18, ⟨Lc18, hQ18, l18, y18, z18⟩, st18⟩ := Jvm.LawKit.callS X17 hx (y := (⟨"com/example/waysmith/waysmith/solver/SeededRandomNextLongPinLaw", "inverse", "(J)J"⟩ : MethodName)) hown (mvT hZ w25) (mvT hZ w26) (mvT hZ w22) (mvT hZ w27) (by decide) (backOf (W := 0) (own_b3 l Z a0 hw [] (-7723592293110705685 : Int64)  h0 n0 Z0 ) hZ w27 w22 (by decide) (by decide)) (g := (mkF m 10 #[.val (.long q1), .second, .val (.long (own_inv (-4658895280553007687 : Int64))), .second, .unset, .unset] [(.long (-7723592293110705685 : Int64))])) rfl (by rw [hml]; rfl) (argsL := [(.long (-7723592293110705685 : Int64))]) (rest := []) (lenOf own_pd0 rfl) rfl (by show 2 * 0 + _ ≤ _; exact Nat.le_of_eq rfl) (hb hby own_dmethod_3_code_10) (fun _ _ => ⟨rfl, eh17, (by decide : 0 + 0 ≤ _), (by decide : 0 + 0 ≤ _)⟩)
  dsimp only [Pt.U, Pt.locs, Pt.cells, Pt.slots] at X18 l18 y18 z18 st18 hQ18
  subst l18 y18 z18
  obtain ⟨rfl, N18q, eh18⟩ := hQ18
  have N18 := Fr.app N17 N18q
  refine own_step st18 ?_
  show own_Goes p e below _ (T18.setTop (mkF m 13 #[.val (.long q1), .second, .val (.long (own_inv (-4658895280553007687 : Int64))), .second, .unset, .unset] [(.long (own_inv (-7723592293110705685 : Int64)))]))
  refine own_step (fun t k => XS.lstore X18.here hx rfl (hb hby own_dmethod_3_code_13) rfl (l' := #[.val (.long q1), .second, .val (.long (own_inv (-4658895280553007687 : Int64))), .second, .val (.long (own_inv (-7723592293110705685 : Int64))), .second]) rfl k) ?_
  show own_Goes p e below _ (T18.setTop (mkF m 15 #[.val (.long q1), .second, .val (.long (own_inv (-4658895280553007687 : Int64))), .second, .val (.long (own_inv (-7723592293110705685 : Int64))), .second] []))
  refine own_step (fun t k => XS.lloadN X18.here hx rfl (hb hby own_dmethod_3_code_15) rfl k) ?_
  show own_Goes p e below _ (T18.setTop (mkF m 16 #[.val (.long q1), .second, .val (.long (own_inv (-4658895280553007687 : Int64))), .second, .val (.long (own_inv (-7723592293110705685 : Int64))), .second] [(.long q1)]))
  refine own_step (fun t k => XS.lloadN X18.here hx rfl (hb hby own_dmethod_3_code_16) rfl k) ?_
  show own_Goes p e below _ (T18.setTop (mkF m 17 #[.val (.long q1), .second, .val (.long (own_inv (-4658895280553007687 : Int64))), .second, .val (.long (own_inv (-7723592293110705685 : Int64))), .second] [(.long q1), (.long q1)]))
  refine own_step (fun t k => XS.bipush X18.here hx rfl (hb hby own_dmethod_3_code_17) k) ?_
  show own_Goes p e below _ (T18.setTop (mkF m 19 #[.val (.long q1), .second, .val (.long (own_inv (-4658895280553007687 : Int64))), .second, .val (.long (own_inv (-7723592293110705685 : Int64))), .second] [(.int (31 : Int32)), (.long q1), (.long q1)]))
  refine own_step (fun t k => XS.lushr X18.here hx rfl (hb hby own_dmethod_3_code_19) rfl k) ?_
  show own_Goes p e below _ (T18.setTop (mkF m 20 #[.val (.long q1), .second, .val (.long (own_inv (-4658895280553007687 : Int64))), .second, .val (.long (own_inv (-7723592293110705685 : Int64))), .second] [(.long ((q1.toUInt64 >>> ((31 : Int32) &&& 0x3f).toInt64.toUInt64).toInt64)), (.long q1)]))
  refine own_step (fun t k => XS.lxor X18.here hx rfl (hb hby own_dmethod_3_code_20) rfl k) ?_
  show own_Goes p e below _ (T18.setTop (mkF m 21 #[.val (.long q1), .second, .val (.long (own_inv (-4658895280553007687 : Int64))), .second, .val (.long (own_inv (-7723592293110705685 : Int64))), .second] [(.long (q1 ^^^ ((q1.toUInt64 >>> ((31 : Int32) &&& 0x3f).toInt64.toUInt64).toInt64)))]))
  refine own_step (fun t k => XS.lloadN X18.here hx rfl (hb hby own_dmethod_3_code_21) rfl k) ?_
  show own_Goes p e below _ (T18.setTop (mkF m 22 #[.val (.long q1), .second, .val (.long (own_inv (-4658895280553007687 : Int64))), .second, .val (.long (own_inv (-7723592293110705685 : Int64))), .second] [(.long q1), (.long (q1 ^^^ ((q1.toUInt64 >>> ((31 : Int32) &&& 0x3f).toInt64.toUInt64).toInt64)))]))
  refine own_step (fun t k => XS.bipush X18.here hx rfl (hb hby own_dmethod_3_code_22) k) ?_
  show own_Goes p e below _ (T18.setTop (mkF m 24 #[.val (.long q1), .second, .val (.long (own_inv (-4658895280553007687 : Int64))), .second, .val (.long (own_inv (-7723592293110705685 : Int64))), .second] [(.int (62 : Int32)), (.long q1), (.long (q1 ^^^ ((q1.toUInt64 >>> ((31 : Int32) &&& 0x3f).toInt64.toUInt64).toInt64)))]))
  refine own_step (fun t k => XS.lushr X18.here hx rfl (hb hby own_dmethod_3_code_24) rfl k) ?_
  show own_Goes p e below _ (T18.setTop (mkF m 25 #[.val (.long q1), .second, .val (.long (own_inv (-4658895280553007687 : Int64))), .second, .val (.long (own_inv (-7723592293110705685 : Int64))), .second] [(.long ((q1.toUInt64 >>> ((62 : Int32) &&& 0x3f).toInt64.toUInt64).toInt64)), (.long (q1 ^^^ ((q1.toUInt64 >>> ((31 : Int32) &&& 0x3f).toInt64.toUInt64).toInt64)))]))
  refine own_step (fun t k => XS.lxor X18.here hx rfl (hb hby own_dmethod_3_code_25) rfl k) ?_
  show own_Goes p e below _ (T18.setTop (mkF m 26 #[.val (.long q1), .second, .val (.long (own_inv (-4658895280553007687 : Int64))), .second, .val (.long (own_inv (-7723592293110705685 : Int64))), .second] [(.long ((q1 ^^^ ((q1.toUInt64 >>> ((31 : Int32) &&& 0x3f).toInt64.toUInt64).toInt64)) ^^^ ((q1.toUInt64 >>> ((62 : Int32) &&& 0x3f).toInt64.toUInt64).toInt64)))]))
  refine own_step (fun t k => XS.lstoreN X18.here hx rfl (hb hby own_dmethod_3_code_26) rfl (l' := #[.val (.long ((q1 ^^^ ((q1.toUInt64 >>> ((31 : Int32) &&& 0x3f).toInt64.toUInt64).toInt64)) ^^^ ((q1.toUInt64 >>> ((62 : Int32) &&& 0x3f).toInt64.toUInt64).toInt64))), .second, .val (.long (own_inv (-4658895280553007687 : Int64))), .second, .val (.long (own_inv (-7723592293110705685 : Int64))), .second]) rfl k) ?_
  show own_Goes p e below _ (T18.setTop (mkF m 27 #[.val (.long ((q1 ^^^ ((q1.toUInt64 >>> ((31 : Int32) &&& 0x3f).toInt64.toUInt64).toInt64)) ^^^ ((q1.toUInt64 >>> ((62 : Int32) &&& 0x3f).toInt64.toUInt64).toInt64))), .second, .val (.long (own_inv (-4658895280553007687 : Int64))), .second, .val (.long (own_inv (-7723592293110705685 : Int64))), .second] []))
  generalize hv_y1 : ((q1 ^^^ ((q1.toUInt64 >>> ((31 : Int32) &&& 0x3f).toInt64.toUInt64).toInt64)) ^^^ ((q1.toUInt64 >>> ((62 : Int32) &&& 0x3f).toInt64.toUInt64).toInt64)) = y1
  refine own_step (fun t k => XS.lloadN X18.here hx rfl (hb hby own_dmethod_3_code_27) rfl k) ?_
  show own_Goes p e below _ (T18.setTop (mkF m 28 #[.val (.long y1), .second, .val (.long (own_inv (-4658895280553007687 : Int64))), .second, .val (.long (own_inv (-7723592293110705685 : Int64))), .second] [(.long y1)]))
  refine own_step (fun t k => XS.lload X18.here hx rfl (hb hby own_dmethod_3_code_28) rfl k) ?_
  show own_Goes p e below _ (T18.setTop (mkF m 30 #[.val (.long y1), .second, .val (.long (own_inv (-4658895280553007687 : Int64))), .second, .val (.long (own_inv (-7723592293110705685 : Int64))), .second] [(.long (own_inv (-7723592293110705685 : Int64))), (.long y1)]))
  refine own_step (fun t k => XS.lmul X18.here hx rfl (hb hby own_dmethod_3_code_30) rfl k) ?_
  show own_Goes p e below _ (T18.setTop (mkF m 31 #[.val (.long y1), .second, .val (.long (own_inv (-4658895280553007687 : Int64))), .second, .val (.long (own_inv (-7723592293110705685 : Int64))), .second] [(.long (y1 * (own_inv (-7723592293110705685 : Int64))))]))
  refine own_step (fun t k => XS.lstoreN X18.here hx rfl (hb hby own_dmethod_3_code_31) rfl (l' := #[.val (.long (y1 * (own_inv (-7723592293110705685 : Int64)))), .second, .val (.long (own_inv (-4658895280553007687 : Int64))), .second, .val (.long (own_inv (-7723592293110705685 : Int64))), .second]) rfl k) ?_
  show own_Goes p e below _ (T18.setTop (mkF m 32 #[.val (.long (y1 * (own_inv (-7723592293110705685 : Int64)))), .second, .val (.long (own_inv (-4658895280553007687 : Int64))), .second, .val (.long (own_inv (-7723592293110705685 : Int64))), .second] []))
  generalize hv_y2 : (y1 * (own_inv (-7723592293110705685 : Int64))) = y2
  refine own_step (fun t k => XS.lloadN X18.here hx rfl (hb hby own_dmethod_3_code_32) rfl k) ?_
  show own_Goes p e below _ (T18.setTop (mkF m 33 #[.val (.long y2), .second, .val (.long (own_inv (-4658895280553007687 : Int64))), .second, .val (.long (own_inv (-7723592293110705685 : Int64))), .second] [(.long y2)]))
  refine own_step (fun t k => XS.lloadN X18.here hx rfl (hb hby own_dmethod_3_code_33) rfl k) ?_
  show own_Goes p e below _ (T18.setTop (mkF m 34 #[.val (.long y2), .second, .val (.long (own_inv (-4658895280553007687 : Int64))), .second, .val (.long (own_inv (-7723592293110705685 : Int64))), .second] [(.long y2), (.long y2)]))
  refine own_step (fun t k => XS.bipush X18.here hx rfl (hb hby own_dmethod_3_code_34) k) ?_
  show own_Goes p e below _ (T18.setTop (mkF m 36 #[.val (.long y2), .second, .val (.long (own_inv (-4658895280553007687 : Int64))), .second, .val (.long (own_inv (-7723592293110705685 : Int64))), .second] [(.int (27 : Int32)), (.long y2), (.long y2)]))
  refine own_step (fun t k => XS.lushr X18.here hx rfl (hb hby own_dmethod_3_code_36) rfl k) ?_
  show own_Goes p e below _ (T18.setTop (mkF m 37 #[.val (.long y2), .second, .val (.long (own_inv (-4658895280553007687 : Int64))), .second, .val (.long (own_inv (-7723592293110705685 : Int64))), .second] [(.long ((y2.toUInt64 >>> ((27 : Int32) &&& 0x3f).toInt64.toUInt64).toInt64)), (.long y2)]))
  refine own_step (fun t k => XS.lxor X18.here hx rfl (hb hby own_dmethod_3_code_37) rfl k) ?_
  show own_Goes p e below _ (T18.setTop (mkF m 38 #[.val (.long y2), .second, .val (.long (own_inv (-4658895280553007687 : Int64))), .second, .val (.long (own_inv (-7723592293110705685 : Int64))), .second] [(.long (y2 ^^^ ((y2.toUInt64 >>> ((27 : Int32) &&& 0x3f).toInt64.toUInt64).toInt64)))]))
  refine own_step (fun t k => XS.lloadN X18.here hx rfl (hb hby own_dmethod_3_code_38) rfl k) ?_
  show own_Goes p e below _ (T18.setTop (mkF m 39 #[.val (.long y2), .second, .val (.long (own_inv (-4658895280553007687 : Int64))), .second, .val (.long (own_inv (-7723592293110705685 : Int64))), .second] [(.long y2), (.long (y2 ^^^ ((y2.toUInt64 >>> ((27 : Int32) &&& 0x3f).toInt64.toUInt64).toInt64)))]))
  refine own_step (fun t k => XS.bipush X18.here hx rfl (hb hby own_dmethod_3_code_39) k) ?_
  show own_Goes p e below _ (T18.setTop (mkF m 41 #[.val (.long y2), .second, .val (.long (own_inv (-4658895280553007687 : Int64))), .second, .val (.long (own_inv (-7723592293110705685 : Int64))), .second] [(.int (54 : Int32)), (.long y2), (.long (y2 ^^^ ((y2.toUInt64 >>> ((27 : Int32) &&& 0x3f).toInt64.toUInt64).toInt64)))]))
  refine own_step (fun t k => XS.lushr X18.here hx rfl (hb hby own_dmethod_3_code_41) rfl k) ?_
  show own_Goes p e below _ (T18.setTop (mkF m 42 #[.val (.long y2), .second, .val (.long (own_inv (-4658895280553007687 : Int64))), .second, .val (.long (own_inv (-7723592293110705685 : Int64))), .second] [(.long ((y2.toUInt64 >>> ((54 : Int32) &&& 0x3f).toInt64.toUInt64).toInt64)), (.long (y2 ^^^ ((y2.toUInt64 >>> ((27 : Int32) &&& 0x3f).toInt64.toUInt64).toInt64)))]))
  refine own_step (fun t k => XS.lxor X18.here hx rfl (hb hby own_dmethod_3_code_42) rfl k) ?_
  show own_Goes p e below _ (T18.setTop (mkF m 43 #[.val (.long y2), .second, .val (.long (own_inv (-4658895280553007687 : Int64))), .second, .val (.long (own_inv (-7723592293110705685 : Int64))), .second] [(.long ((y2 ^^^ ((y2.toUInt64 >>> ((27 : Int32) &&& 0x3f).toInt64.toUInt64).toInt64)) ^^^ ((y2.toUInt64 >>> ((54 : Int32) &&& 0x3f).toInt64.toUInt64).toInt64)))]))
  refine own_step (fun t k => XS.lstoreN X18.here hx rfl (hb hby own_dmethod_3_code_43) rfl (l' := #[.val (.long ((y2 ^^^ ((y2.toUInt64 >>> ((27 : Int32) &&& 0x3f).toInt64.toUInt64).toInt64)) ^^^ ((y2.toUInt64 >>> ((54 : Int32) &&& 0x3f).toInt64.toUInt64).toInt64))), .second, .val (.long (own_inv (-4658895280553007687 : Int64))), .second, .val (.long (own_inv (-7723592293110705685 : Int64))), .second]) rfl k) ?_
  show own_Goes p e below _ (T18.setTop (mkF m 44 #[.val (.long ((y2 ^^^ ((y2.toUInt64 >>> ((27 : Int32) &&& 0x3f).toInt64.toUInt64).toInt64)) ^^^ ((y2.toUInt64 >>> ((54 : Int32) &&& 0x3f).toInt64.toUInt64).toInt64))), .second, .val (.long (own_inv (-4658895280553007687 : Int64))), .second, .val (.long (own_inv (-7723592293110705685 : Int64))), .second] []))
  generalize hv_y3 : ((y2 ^^^ ((y2.toUInt64 >>> ((27 : Int32) &&& 0x3f).toInt64.toUInt64).toInt64)) ^^^ ((y2.toUInt64 >>> ((54 : Int32) &&& 0x3f).toInt64.toUInt64).toInt64)) = y3
  refine own_step (fun t k => XS.lloadN X18.here hx rfl (hb hby own_dmethod_3_code_44) rfl k) ?_
  show own_Goes p e below _ (T18.setTop (mkF m 45 #[.val (.long y3), .second, .val (.long (own_inv (-4658895280553007687 : Int64))), .second, .val (.long (own_inv (-7723592293110705685 : Int64))), .second] [(.long y3)]))
  refine own_step (fun t k => XS.lloadN X18.here hx rfl (hb hby own_dmethod_3_code_45) rfl k) ?_
  show own_Goes p e below _ (T18.setTop (mkF m 46 #[.val (.long y3), .second, .val (.long (own_inv (-4658895280553007687 : Int64))), .second, .val (.long (own_inv (-7723592293110705685 : Int64))), .second] [(.long (own_inv (-4658895280553007687 : Int64))), (.long y3)]))
  refine own_step (fun t k => XS.lmul X18.here hx rfl (hb hby own_dmethod_3_code_46) rfl k) ?_
  show own_Goes p e below _ (T18.setTop (mkF m 47 #[.val (.long y3), .second, .val (.long (own_inv (-4658895280553007687 : Int64))), .second, .val (.long (own_inv (-7723592293110705685 : Int64))), .second] [(.long (y3 * (own_inv (-4658895280553007687 : Int64))))]))
  refine own_step (fun t k => XS.lstoreN X18.here hx rfl (hb hby own_dmethod_3_code_47) rfl (l' := #[.val (.long (y3 * (own_inv (-4658895280553007687 : Int64)))), .second, .val (.long (own_inv (-4658895280553007687 : Int64))), .second, .val (.long (own_inv (-7723592293110705685 : Int64))), .second]) rfl k) ?_
  show own_Goes p e below _ (T18.setTop (mkF m 48 #[.val (.long (y3 * (own_inv (-4658895280553007687 : Int64)))), .second, .val (.long (own_inv (-4658895280553007687 : Int64))), .second, .val (.long (own_inv (-7723592293110705685 : Int64))), .second] []))
  generalize hv_y4 : (y3 * (own_inv (-4658895280553007687 : Int64))) = y4
  refine own_step (fun t k => XS.lloadN X18.here hx rfl (hb hby own_dmethod_3_code_48) rfl k) ?_
  show own_Goes p e below _ (T18.setTop (mkF m 49 #[.val (.long y4), .second, .val (.long (own_inv (-4658895280553007687 : Int64))), .second, .val (.long (own_inv (-7723592293110705685 : Int64))), .second] [(.long y4)]))
  refine own_step (fun t k => XS.lloadN X18.here hx rfl (hb hby own_dmethod_3_code_49) rfl k) ?_
  show own_Goes p e below _ (T18.setTop (mkF m 50 #[.val (.long y4), .second, .val (.long (own_inv (-4658895280553007687 : Int64))), .second, .val (.long (own_inv (-7723592293110705685 : Int64))), .second] [(.long y4), (.long y4)]))
  refine own_step (fun t k => XS.bipush X18.here hx rfl (hb hby own_dmethod_3_code_50) k) ?_
  show own_Goes p e below _ (T18.setTop (mkF m 52 #[.val (.long y4), .second, .val (.long (own_inv (-4658895280553007687 : Int64))), .second, .val (.long (own_inv (-7723592293110705685 : Int64))), .second] [(.int (30 : Int32)), (.long y4), (.long y4)]))
  refine own_step (fun t k => XS.lushr X18.here hx rfl (hb hby own_dmethod_3_code_52) rfl k) ?_
  show own_Goes p e below _ (T18.setTop (mkF m 53 #[.val (.long y4), .second, .val (.long (own_inv (-4658895280553007687 : Int64))), .second, .val (.long (own_inv (-7723592293110705685 : Int64))), .second] [(.long ((y4.toUInt64 >>> ((30 : Int32) &&& 0x3f).toInt64.toUInt64).toInt64)), (.long y4)]))
  refine own_step (fun t k => XS.lxor X18.here hx rfl (hb hby own_dmethod_3_code_53) rfl k) ?_
  show own_Goes p e below _ (T18.setTop (mkF m 54 #[.val (.long y4), .second, .val (.long (own_inv (-4658895280553007687 : Int64))), .second, .val (.long (own_inv (-7723592293110705685 : Int64))), .second] [(.long (y4 ^^^ ((y4.toUInt64 >>> ((30 : Int32) &&& 0x3f).toInt64.toUInt64).toInt64)))]))
  refine own_step (fun t k => XS.lloadN X18.here hx rfl (hb hby own_dmethod_3_code_54) rfl k) ?_
  show own_Goes p e below _ (T18.setTop (mkF m 55 #[.val (.long y4), .second, .val (.long (own_inv (-4658895280553007687 : Int64))), .second, .val (.long (own_inv (-7723592293110705685 : Int64))), .second] [(.long y4), (.long (y4 ^^^ ((y4.toUInt64 >>> ((30 : Int32) &&& 0x3f).toInt64.toUInt64).toInt64)))]))
  refine own_step (fun t k => XS.bipush X18.here hx rfl (hb hby own_dmethod_3_code_55) k) ?_
  show own_Goes p e below _ (T18.setTop (mkF m 57 #[.val (.long y4), .second, .val (.long (own_inv (-4658895280553007687 : Int64))), .second, .val (.long (own_inv (-7723592293110705685 : Int64))), .second] [(.int (60 : Int32)), (.long y4), (.long (y4 ^^^ ((y4.toUInt64 >>> ((30 : Int32) &&& 0x3f).toInt64.toUInt64).toInt64)))]))
  refine own_step (fun t k => XS.lushr X18.here hx rfl (hb hby own_dmethod_3_code_57) rfl k) ?_
  show own_Goes p e below _ (T18.setTop (mkF m 58 #[.val (.long y4), .second, .val (.long (own_inv (-4658895280553007687 : Int64))), .second, .val (.long (own_inv (-7723592293110705685 : Int64))), .second] [(.long ((y4.toUInt64 >>> ((60 : Int32) &&& 0x3f).toInt64.toUInt64).toInt64)), (.long (y4 ^^^ ((y4.toUInt64 >>> ((30 : Int32) &&& 0x3f).toInt64.toUInt64).toInt64)))]))
  refine own_step (fun t k => XS.lxor X18.here hx rfl (hb hby own_dmethod_3_code_58) rfl k) ?_
  show own_Goes p e below _ (T18.setTop (mkF m 59 #[.val (.long y4), .second, .val (.long (own_inv (-4658895280553007687 : Int64))), .second, .val (.long (own_inv (-7723592293110705685 : Int64))), .second] [(.long ((y4 ^^^ ((y4.toUInt64 >>> ((30 : Int32) &&& 0x3f).toInt64.toUInt64).toInt64)) ^^^ ((y4.toUInt64 >>> ((60 : Int32) &&& 0x3f).toInt64.toUInt64).toInt64)))]))
  refine own_step (fun t k => XS.lstoreN X18.here hx rfl (hb hby own_dmethod_3_code_59) rfl (l' := #[.val (.long ((y4 ^^^ ((y4.toUInt64 >>> ((30 : Int32) &&& 0x3f).toInt64.toUInt64).toInt64)) ^^^ ((y4.toUInt64 >>> ((60 : Int32) &&& 0x3f).toInt64.toUInt64).toInt64))), .second, .val (.long (own_inv (-4658895280553007687 : Int64))), .second, .val (.long (own_inv (-7723592293110705685 : Int64))), .second]) rfl k) ?_
  show own_Goes p e below _ (T18.setTop (mkF m 60 #[.val (.long ((y4 ^^^ ((y4.toUInt64 >>> ((30 : Int32) &&& 0x3f).toInt64.toUInt64).toInt64)) ^^^ ((y4.toUInt64 >>> ((60 : Int32) &&& 0x3f).toInt64.toUInt64).toInt64))), .second, .val (.long (own_inv (-4658895280553007687 : Int64))), .second, .val (.long (own_inv (-7723592293110705685 : Int64))), .second] []))
  generalize hv_y5 : ((y4 ^^^ ((y4.toUInt64 >>> ((30 : Int32) &&& 0x3f).toInt64.toUInt64).toInt64)) ^^^ ((y4.toUInt64 >>> ((60 : Int32) &&& 0x3f).toInt64.toUInt64).toInt64)) = y5
  refine own_step (fun t k => XS.lloadN X18.here hx rfl (hb hby own_dmethod_3_code_60) rfl k) ?_
  show own_Goes p e below _ (T18.setTop (mkF m 61 #[.val (.long y5), .second, .val (.long (own_inv (-4658895280553007687 : Int64))), .second, .val (.long (own_inv (-7723592293110705685 : Int64))), .second] [(.long y5)]))
  refine own_retV X18 hx hlk Bd.returns (w := (.long y5)) rfl (Or.inr (Or.inl ⟨rfl, rfl, _, rfl⟩)) (hb hby own_dmethod_3_code_61) ?_ (by decide) (by decide)
  show own_b4_Q Z q1 h0 n0 _ T18.heap _
  rw [eh18]
  exact ⟨(by subst hv_y5 hv_y4 hv_y3 hv_y2 hv_y1; rfl), N18, rfl⟩
theorem own_pd1 : parseMethodDescriptor "(J)V" = some ⟨[.long], none⟩ := by decide +kernel
theorem own_pd2 : parseMethodDescriptor "()J" = some ⟨[], some .long⟩ := by decide +kernel
theorem own_law_ef (m : MethodId) (p1 : Int64) : entryFrame m #[(.long p1)] maxLocals = mkF m 0 #[.val (.long p1), .second, .unset, .unset, .unset, .unset, .unset, .unset, .unset, .unset, .unset] [] := by first | (simp [entryFrame, mkF, argsToLocals, Value.category, maxLocals]; done) | rfl
set_option maxRecDepth 65536 in
set_option maxHeartbeats 40000000 in
theorem own_law (l : Launch) (Z : State) (a0 : Array Value) (hw : ∀ d ∈ tables_1, d.before a0 Z = true) (ws : List Jvm.Cond) (p1 : Int64) (h0 : Heap) (n0 : Nat) (Z0 : n0 ≤ h0.size) :
    MetFree l x (head1 (Jvm.Cond.code x code maxLocals ret :: ws) room_1) (fun aa U => aa = #[(.long p1)] ∧ Z.Warmed39 U.vm ∧ U.heap = h0) (fun _ _ _ _ _ => True) (fun _ U o U' => ∃ v L, o = .returned v ∧ own_Q0 n0 v U'.heap L ∧ FrameEnd U o U' L 16 128) := by
  refine MetFree.of_bodySF (plainFor_of_name own_pn1) hisR ?_
  have w0 := hw _ (List.mem_of_getElem? (i := 0) rfl)
  have w1 := hw _ (List.mem_of_getElem? (i := 1) rfl)
  have w2 := hw _ (List.mem_of_getElem? (i := 2) rfl)
  have w3 := hw _ (List.mem_of_getElem? (i := 3) rfl)
  have w4 := hw _ (List.mem_of_getElem? (i := 4) rfl)
  have w5 := hw _ (List.mem_of_getElem? (i := 5) rfl)
  have w6 := hw _ (List.mem_of_getElem? (i := 6) rfl)
  have w11 := hw _ (List.mem_of_getElem? (i := 11) rfl)
  have w12 := hw _ (List.mem_of_getElem? (i := 12) rfl)
  have w13 := hw _ (List.mem_of_getElem? (i := 13) rfl)
  have w14 := hw _ (List.mem_of_getElem? (i := 14) rfl)
  have w15 := hw _ (List.mem_of_getElem? (i := 15) rfl)
  have w16 := hw _ (List.mem_of_getElem? (i := 16) rfl)
  have w20 := hw _ (List.mem_of_getElem? (i := 20) rfl)
  have w21 := hw _ (List.mem_of_getElem? (i := 21) rfl)
  have w22 := hw _ (List.mem_of_getElem? (i := 22) rfl)
  have w23 := hw _ (List.mem_of_getElem? (i := 23) rfl)
  have w28 := hw _ (List.mem_of_getElem? (i := 28) rfl)
  have w30 := hw _ (List.mem_of_getElem? (i := 30) rfl)
  intro p e s m args below meth c s₁ Bd hml0 hP hK
  obtain ⟨rfl, hZ, hh⟩ := hP
  have hx := Bd.exec
  have hby := Bd.bytes
  have hlk := Bd.notSynchronized
  have hml : c.maxLocals = 11 := hml0
  have hown : s.vm.findClass "com/example/waysmith/waysmith/solver/SeededRandomNextLongPinLaw" = some m.cls := findClass_of_methodNamed Bd.named
  have hnm := (name_of_methodNamed Bd.named Bd.method).1
  have X0 : Stand p l e room_1 s m #[(.long p1)] below meth c s₁ [] 0 0 := Stand.of_body Bd
  have e0 : s₁.heap = h0 := by rw [← hh, Bd.state]; rfl
  have N0 := Fr.nil n0
  have K0 : Keep h0 h0 [] := Keep.refl h0 _
  show own_Goes p e below (own_Fin s (own_Q0 n0) 16 128) _
  refine own_step (fun t k => castTop (own_law_ef m p1) k) ?_
  show own_Goes p e below _ (s₁.setTop (mkF m 0 #[.val (.long p1), .second, .unset, .unset, .unset, .unset, .unset, .unset, .unset, .unset, .unset] []))
  refine own_step (fun t k => X0.ldc2Long hx hown (mvT hZ w0) (g := (mkF m 0 #[.val (.long p1), .second, .unset, .unset, .unset, .unset, .unset, .unset, .unset, .unset, .unset] [])) rfl (hb hby at_0) _ k) ?_
  show own_Goes p e below _ (s₁.setTop (mkF m 3 #[.val (.long p1), .second, .unset, .unset, .unset, .unset, .unset, .unset, .unset, .unset, .unset] [(.long (-7046029254386353131 : Int64))]))
  refine own_step (fun t k => XS.lstoreN X0.here hx rfl (hb hby at_3) rfl (l' := #[.val (.long p1), .second, .val (.long (-7046029254386353131 : Int64)), .second, .unset, .unset, .unset, .unset, .unset, .unset, .unset]) rfl k) ?_
  show own_Goes p e below _ (s₁.setTop (mkF m 4 #[.val (.long p1), .second, .val (.long (-7046029254386353131 : Int64)), .second, .unset, .unset, .unset, .unset, .unset, .unset, .unset] []))
  obtain ⟨T19, h19, X19, e19, E19, A19, D19, -, st19⟩ := newO X0 hx hZ hown w1 w2 w3 e0 (g := (mkF m 4 #[.val (.long p1), .second, .val (.long (-7046029254386353131 : Int64)), .second, .unset, .unset, .unset, .unset, .unset, .unset, .unset] [])) rfl (hb hby at_4) (by decide) (by decide)
  obtain ⟨b19, g19⟩ : ∃ z, z = h0.size := ⟨_, rfl⟩
  rw [← g19] at A19 D19 st19
  have g_b19 : n0 ≤ b19 := Nat.le_trans Z0 (Nat.le_of_eq g19.symm)
  have sz_b19 : h0.size ≤ b19 := Nat.le_trans K0.1 (Nat.le_of_eq g19.symm)
  have K20 : Keep h0 h19 [] := K0.ext E19
  have F_state_b19 : Fld Z h19 b19 "com/example/waysmith/waysmith/solver/SeededRandom" "state" "J" (.long (0 : Int64)) := D19 (Or.inl w11) (ty := .long) (by decide)
  refine own_step st19 ?_
  show own_Goes p e below _ (T19.setTop (mkF m 7 #[.val (.long p1), .second, .val (.long (-7046029254386353131 : Int64)), .second, .unset, .unset, .unset, .unset, .unset, .unset, .unset] [(.ref b19)]))
  refine own_step (fun t k => XS.dup X19.here hx rfl (hb hby at_7) rfl rfl k) ?_
  show own_Goes p e below _ (T19.setTop (mkF m 8 #[.val (.long p1), .second, .val (.long (-7046029254386353131 : Int64)), .second, .unset, .unset, .unset, .unset, .unset, .unset, .unset] [(.ref b19), (.ref b19)]))
  refine own_step (fun t k => XS.lloadN X19.here hx rfl (hb hby at_8) rfl k) ?_
  show own_Goes p e below _ (T19.setTop (mkF m 9 #[.val (.long p1), .second, .val (.long (-7046029254386353131 : Int64)), .second, .unset, .unset, .unset, .unset, .unset, .unset, .unset] [(.long p1), (.ref b19), (.ref b19)]))
  obtain ⟨_, _, ⟨T21, L21, k21, n21⟩, -, X21, ⟨Lc21, hQ21, l21, y21, z21⟩, st21⟩ := X19.specialBack hx (y := (⟨"com/example/waysmith/waysmith/solver/SeededRandom", "<init>", "(J)V"⟩ : MethodName)) rfl hown (mvT hZ w4) (mvT hZ w5) (mvT hZ w6) (by decide) (backOf (W := 1) (own_b1 l Z a0 hw [] b19 p1 ((.long (0 : Int64))) h19 n0 (Nat.le_trans Z0 E19.1) F_state_b19 A19 g_b19) hZ w6 w3 (by decide) (by decide)) (g := (mkF m 9 #[.val (.long p1), .second, .val (.long (-7046029254386353131 : Int64)), .second, .unset, .unset, .unset, .unset, .unset, .unset, .unset] [(.long p1), (.ref b19), (.ref b19)])) rfl (by rw [hml]; rfl) (Steps.refl _) (a := b19) (argsL := [(.long p1)]) (rest := [(.ref b19)]) (lenOf own_pd1 rfl) rfl (by show 2 * 0 + _ ≤ _; exact Nat.le_of_eq rfl) (hb hby at_9) (fun _ _ => ⟨rfl, e19, (by decide : 1 + 0 ≤ _), (by decide : 1 + 0 ≤ _)⟩)
  dsimp only [Pt.U, Pt.locs, Pt.cells, Pt.slots] at X21 l21 y21 z21 st21 hQ21
  subst l21 y21 z21
  obtain ⟨rfl, N21q, K21c, f21_0, f21_1⟩ := hQ21
  have N21 := Fr.app N0 N21q
  refine own_jump st21 ?_
  have K22 : Keep h0 T21.heap [] := K20.trans K21c (allS (Or.inr sz_b19) all0)
  show own_Goes p e below _ (T21.setTop (mkF m 12 #[.val (.long p1), .second, .val (.long (-7046029254386353131 : Int64)), .second, .unset, .unset, .unset, .unset, .unset, .unset, .unset] [(.ref b19)]))
  refine own_step (fun t k => XS.astore X21.here hx rfl (hb hby at_12) rfl rfl (l' := #[.val (.long p1), .second, .val (.long (-7046029254386353131 : Int64)), .second, .val (.ref b19), .unset, .unset, .unset, .unset, .unset, .unset]) rfl k) ?_
  show own_Goes p e below _ (T21.setTop (mkF m 14 #[.val (.long p1), .second, .val (.long (-7046029254386353131 : Int64)), .second, .val (.ref b19), .unset, .unset, .unset, .unset, .unset, .unset] []))
  refine own_step (fun t k => XS.aload X21.here hx rfl (hb hby at_14) rfl rfl k) ?_
  show own_Goes p e below _ (T21.setTop (mkF m 16 #[.val (.long p1), .second, .val (.long (-7046029254386353131 : Int64)), .second, .val (.ref b19), .unset, .unset, .unset, .unset, .unset, .unset] [(.ref b19)]))
  obtain ⟨cq23, kq23, q23a, q23b, q23c⟩ := isOf hZ rfl f21_0
  obtain ⟨_, _, ⟨T23, L23, k23, n23⟩, -, X23, ⟨Lc23, hQ23, l23, y23, z23⟩, st23⟩ := X21.virtualBack hx (y := (⟨"com/example/waysmith/waysmith/solver/SeededRandom", "nextLong", "()J"⟩ : MethodName)) (z := (⟨"com/example/waysmith/waysmith/solver/SeededRandom", "nextLong", "()J"⟩ : MethodName)) hown (mvT hZ w12) (mvT hZ w13) (notFace_of_selects (args := #[]) (mvT hZ w15)) (mvT hZ w15) (mvT hZ w14) (by decide) (backOf (W := 0) (own_b2 l Z a0 hw [] b19 (p1) T21.heap n0 (Nat.le_trans (Nat.le_trans Z0 E19.1) K21c.1) f21_1 f21_0 g_b19) hZ w16 w3 (by decide) (by decide)) q23a q23c (g := (mkF m 16 #[.val (.long p1), .second, .val (.long (-7046029254386353131 : Int64)), .second, .val (.ref b19), .unset, .unset, .unset, .unset, .unset, .unset] [(.ref b19)])) rfl (by rw [hml]; rfl) (Steps.refl _) (argsL := []) (rest := []) (lenOf own_pd2 rfl) rfl (by show 2 * 0 + _ ≤ _; exact Nat.le_of_eq rfl) (hb hby at_16) (fun _ _ => ⟨rfl, rfl, (by decide : 1 + 0 ≤ _), (by decide : 1 + 0 ≤ _)⟩)
  dsimp only [Pt.U, Pt.locs, Pt.cells, Pt.slots] at X23 l23 y23 z23 st23 hQ23
  subst l23 y23 z23
  obtain ⟨rfl, N23q, K23c, f23_0, f23_1⟩ := hQ23
  have N23 := Fr.app N21 N23q
  refine own_jump st23 ?_
  have K24 : Keep h0 T23.heap [] := K22.trans K23c (allS (Or.inr sz_b19) all0)
  show own_Goes p e below _ (T23.setTop (mkF m 19 #[.val (.long p1), .second, .val (.long (-7046029254386353131 : Int64)), .second, .val (.ref b19), .unset, .unset, .unset, .unset, .unset, .unset] [(.long (own_mix (p1 + (-7046029254386353131 : Int64))))]))
  refine own_step (fun t k => XS.lstore X23.here hx rfl (hb hby at_19) rfl (l' := #[.val (.long p1), .second, .val (.long (-7046029254386353131 : Int64)), .second, .val (.ref b19), .val (.long (own_mix (p1 + (-7046029254386353131 : Int64)))), .second, .unset, .unset, .unset, .unset]) rfl k) ?_
  show own_Goes p e below _ (T23.setTop (mkF m 21 #[.val (.long p1), .second, .val (.long (-7046029254386353131 : Int64)), .second, .val (.ref b19), .val (.long (own_mix (p1 + (-7046029254386353131 : Int64)))), .second, .unset, .unset, .unset, .unset] []))
  refine own_step (fun t k => XS.aload X23.here hx rfl (hb hby at_21) rfl rfl k) ?_
  show own_Goes p e below _ (T23.setTop (mkF m 23 #[.val (.long p1), .second, .val (.long (-7046029254386353131 : Int64)), .second, .val (.ref b19), .val (.long (own_mix (p1 + (-7046029254386353131 : Int64)))), .second, .unset, .unset, .unset, .unset] [(.ref b19)]))
  obtain ⟨cq25, kq25, q25a, q25b, q25c⟩ := isOf hZ rfl f23_0
  obtain ⟨_, _, ⟨T25, L25, k25, n25⟩, -, X25, ⟨Lc25, hQ25, l25, y25, z25⟩, st25⟩ := X23.virtualBack hx (y := (⟨"com/example/waysmith/waysmith/solver/SeededRandom", "nextLong", "()J"⟩ : MethodName)) (z := (⟨"com/example/waysmith/waysmith/solver/SeededRandom", "nextLong", "()J"⟩ : MethodName)) hown (mvT hZ w12) (mvT hZ w13) (notFace_of_selects (args := #[]) (mvT hZ w15)) (mvT hZ w15) (mvT hZ w14) (by decide) (backOf (W := 0) (own_b2 l Z a0 hw [] b19 ((p1 + (-7046029254386353131 : Int64))) T23.heap n0 (Nat.le_trans (Nat.le_trans (Nat.le_trans Z0 E19.1) K21c.1) K23c.1) f23_1 f23_0 g_b19) hZ w16 w3 (by decide) (by decide)) q25a q25c (g := (mkF m 23 #[.val (.long p1), .second, .val (.long (-7046029254386353131 : Int64)), .second, .val (.ref b19), .val (.long (own_mix (p1 + (-7046029254386353131 : Int64)))), .second, .unset, .unset, .unset, .unset] [(.ref b19)])) rfl (by rw [hml]; rfl) (Steps.refl _) (argsL := []) (rest := []) (lenOf own_pd2 rfl) rfl (by show 2 * 0 + _ ≤ _; exact Nat.le_of_eq rfl) (hb hby at_23) (fun _ _ => ⟨rfl, rfl, (by decide : 1 + 0 ≤ _), (by decide : 1 + 0 ≤ _)⟩)
  dsimp only [Pt.U, Pt.locs, Pt.cells, Pt.slots] at X25 l25 y25 z25 st25 hQ25
  subst l25 y25 z25
  obtain ⟨rfl, N25q, K25c, f25_0, f25_1⟩ := hQ25
  have N25 := Fr.app N23 N25q
  refine own_jump st25 ?_
  have K26 : Keep h0 T25.heap [] := K24.trans K25c (allS (Or.inr sz_b19) all0)
  show own_Goes p e below _ (T25.setTop (mkF m 26 #[.val (.long p1), .second, .val (.long (-7046029254386353131 : Int64)), .second, .val (.ref b19), .val (.long (own_mix (p1 + (-7046029254386353131 : Int64)))), .second, .unset, .unset, .unset, .unset] [(.long (own_mix ((p1 + (-7046029254386353131 : Int64)) + (-7046029254386353131 : Int64))))]))
  refine own_step (fun t k => XS.lstore X25.here hx rfl (hb hby at_26) rfl (l' := #[.val (.long p1), .second, .val (.long (-7046029254386353131 : Int64)), .second, .val (.ref b19), .val (.long (own_mix (p1 + (-7046029254386353131 : Int64)))), .second, .val (.long (own_mix ((p1 + (-7046029254386353131 : Int64)) + (-7046029254386353131 : Int64)))), .second, .unset, .unset]) rfl k) ?_
  show own_Goes p e below _ (T25.setTop (mkF m 28 #[.val (.long p1), .second, .val (.long (-7046029254386353131 : Int64)), .second, .val (.ref b19), .val (.long (own_mix (p1 + (-7046029254386353131 : Int64)))), .second, .val (.long (own_mix ((p1 + (-7046029254386353131 : Int64)) + (-7046029254386353131 : Int64)))), .second, .unset, .unset] []))
  refine own_step (fun t k => XS.aload X25.here hx rfl (hb hby at_28) rfl rfl k) ?_
  show own_Goes p e below _ (T25.setTop (mkF m 30 #[.val (.long p1), .second, .val (.long (-7046029254386353131 : Int64)), .second, .val (.ref b19), .val (.long (own_mix (p1 + (-7046029254386353131 : Int64)))), .second, .val (.long (own_mix ((p1 + (-7046029254386353131 : Int64)) + (-7046029254386353131 : Int64)))), .second, .unset, .unset] [(.ref b19)]))
  obtain ⟨cq27, kq27, q27a, q27b, q27c⟩ := isOf hZ rfl f25_0
  obtain ⟨_, _, ⟨T27, L27, k27, n27⟩, -, X27, ⟨Lc27, hQ27, l27, y27, z27⟩, st27⟩ := X25.virtualBack hx (y := (⟨"com/example/waysmith/waysmith/solver/SeededRandom", "nextLong", "()J"⟩ : MethodName)) (z := (⟨"com/example/waysmith/waysmith/solver/SeededRandom", "nextLong", "()J"⟩ : MethodName)) hown (mvT hZ w12) (mvT hZ w13) (notFace_of_selects (args := #[]) (mvT hZ w15)) (mvT hZ w15) (mvT hZ w14) (by decide) (backOf (W := 0) (own_b2 l Z a0 hw [] b19 (((p1 + (-7046029254386353131 : Int64)) + (-7046029254386353131 : Int64))) T25.heap n0 (Nat.le_trans (Nat.le_trans (Nat.le_trans (Nat.le_trans Z0 E19.1) K21c.1) K23c.1) K25c.1) f25_1 f25_0 g_b19) hZ w16 w3 (by decide) (by decide)) q27a q27c (g := (mkF m 30 #[.val (.long p1), .second, .val (.long (-7046029254386353131 : Int64)), .second, .val (.ref b19), .val (.long (own_mix (p1 + (-7046029254386353131 : Int64)))), .second, .val (.long (own_mix ((p1 + (-7046029254386353131 : Int64)) + (-7046029254386353131 : Int64)))), .second, .unset, .unset] [(.ref b19)])) rfl (by rw [hml]; rfl) (Steps.refl _) (argsL := []) (rest := []) (lenOf own_pd2 rfl) rfl (by show 2 * 0 + _ ≤ _; exact Nat.le_of_eq rfl) (hb hby at_30) (fun _ _ => ⟨rfl, rfl, (by decide : 1 + 0 ≤ _), (by decide : 1 + 0 ≤ _)⟩)
  dsimp only [Pt.U, Pt.locs, Pt.cells, Pt.slots] at X27 l27 y27 z27 st27 hQ27
  subst l27 y27 z27
  obtain ⟨rfl, N27q, K27c, f27_0, f27_1⟩ := hQ27
  have N27 := Fr.app N25 N27q
  refine own_jump st27 ?_
  have K28 : Keep h0 T27.heap [] := K26.trans K27c (allS (Or.inr sz_b19) all0)
  show own_Goes p e below _ (T27.setTop (mkF m 33 #[.val (.long p1), .second, .val (.long (-7046029254386353131 : Int64)), .second, .val (.ref b19), .val (.long (own_mix (p1 + (-7046029254386353131 : Int64)))), .second, .val (.long (own_mix ((p1 + (-7046029254386353131 : Int64)) + (-7046029254386353131 : Int64)))), .second, .unset, .unset] [(.long (own_mix (((p1 + (-7046029254386353131 : Int64)) + (-7046029254386353131 : Int64)) + (-7046029254386353131 : Int64))))]))
  refine own_step (fun t k => XS.lstore X27.here hx rfl (hb hby at_33) rfl (l' := #[.val (.long p1), .second, .val (.long (-7046029254386353131 : Int64)), .second, .val (.ref b19), .val (.long (own_mix (p1 + (-7046029254386353131 : Int64)))), .second, .val (.long (own_mix ((p1 + (-7046029254386353131 : Int64)) + (-7046029254386353131 : Int64)))), .second, .val (.long (own_mix (((p1 + (-7046029254386353131 : Int64)) + (-7046029254386353131 : Int64)) + (-7046029254386353131 : Int64)))), .second]) rfl k) ?_
  show own_Goes p e below _ (T27.setTop (mkF m 35 #[.val (.long p1), .second, .val (.long (-7046029254386353131 : Int64)), .second, .val (.ref b19), .val (.long (own_mix (p1 + (-7046029254386353131 : Int64)))), .second, .val (.long (own_mix ((p1 + (-7046029254386353131 : Int64)) + (-7046029254386353131 : Int64)))), .second, .val (.long (own_mix (((p1 + (-7046029254386353131 : Int64)) + (-7046029254386353131 : Int64)) + (-7046029254386353131 : Int64)))), .second] []))
  refine own_step (fun t k => XS.lload X27.here hx rfl (hb hby at_35) rfl k) ?_
  show own_Goes p e below _ (T27.setTop (mkF m 37 #[.val (.long p1), .second, .val (.long (-7046029254386353131 : Int64)), .second, .val (.ref b19), .val (.long (own_mix (p1 + (-7046029254386353131 : Int64)))), .second, .val (.long (own_mix ((p1 + (-7046029254386353131 : Int64)) + (-7046029254386353131 : Int64)))), .second, .val (.long (own_mix (((p1 + (-7046029254386353131 : Int64)) + (-7046029254386353131 : Int64)) + (-7046029254386353131 : Int64)))), .second] [(.long (own_mix (p1 + (-7046029254386353131 : Int64))))]))
  obtain ⟨_, _, ⟨T29, L29, k29, n29⟩, -, X29, ⟨Lc29, hQ29, l29, y29, z29⟩, st29⟩ := Jvm.LawKit.callS X27 hx (y := (⟨"com/example/waysmith/waysmith/solver/SeededRandomNextLongPinLaw", "unmix", "(J)J"⟩ : MethodName)) hown (mvT hZ w20) (mvT hZ w21) (mvT hZ w22) (mvT hZ w23) (by decide) (backOf (W := 0) (own_b4 l Z a0 hw [] (own_mix (p1 + (-7046029254386353131 : Int64)))  T27.heap n0 (Nat.le_trans (Nat.le_trans (Nat.le_trans (Nat.le_trans (Nat.le_trans Z0 E19.1) K21c.1) K23c.1) K25c.1) K27c.1) ) hZ w23 w22 (by decide) (by decide)) (g := (mkF m 37 #[.val (.long p1), .second, .val (.long (-7046029254386353131 : Int64)), .second, .val (.ref b19), .val (.long (own_mix (p1 + (-7046029254386353131 : Int64)))), .second, .val (.long (own_mix ((p1 + (-7046029254386353131 : Int64)) + (-7046029254386353131 : Int64)))), .second, .val (.long (own_mix (((p1 + (-7046029254386353131 : Int64)) + (-7046029254386353131 : Int64)) + (-7046029254386353131 : Int64)))), .second] [(.long (own_mix (p1 + (-7046029254386353131 : Int64))))])) rfl (by rw [hml]; rfl) (argsL := [(.long (own_mix (p1 + (-7046029254386353131 : Int64))))]) (rest := []) (lenOf own_pd0 rfl) rfl (by show 2 * 0 + _ ≤ _; exact Nat.le_of_eq rfl) (hb hby at_37) (fun _ _ => ⟨rfl, rfl, (by decide : 1 + 0 ≤ _), (by decide : 1 + 0 ≤ _)⟩)
  dsimp only [Pt.U, Pt.locs, Pt.cells, Pt.slots] at X29 l29 y29 z29 st29 hQ29
  subst l29 y29 z29
  obtain ⟨rfl, N29q, eh29⟩ := hQ29
  have N29 := Fr.app N27 N29q
  refine own_step st29 ?_
  show own_Goes p e below _ (T29.setTop (mkF m 40 #[.val (.long p1), .second, .val (.long (-7046029254386353131 : Int64)), .second, .val (.ref b19), .val (.long (own_mix (p1 + (-7046029254386353131 : Int64)))), .second, .val (.long (own_mix ((p1 + (-7046029254386353131 : Int64)) + (-7046029254386353131 : Int64)))), .second, .val (.long (own_mix (((p1 + (-7046029254386353131 : Int64)) + (-7046029254386353131 : Int64)) + (-7046029254386353131 : Int64)))), .second] [(.long (own_unmix (own_mix (p1 + (-7046029254386353131 : Int64)))))]))
  refine own_step (fun t k => XS.lloadN X29.here hx rfl (hb hby at_40) rfl k) ?_
  show own_Goes p e below _ (T29.setTop (mkF m 41 #[.val (.long p1), .second, .val (.long (-7046029254386353131 : Int64)), .second, .val (.ref b19), .val (.long (own_mix (p1 + (-7046029254386353131 : Int64)))), .second, .val (.long (own_mix ((p1 + (-7046029254386353131 : Int64)) + (-7046029254386353131 : Int64)))), .second, .val (.long (own_mix (((p1 + (-7046029254386353131 : Int64)) + (-7046029254386353131 : Int64)) + (-7046029254386353131 : Int64)))), .second] [(.long p1), (.long (own_unmix (own_mix (p1 + (-7046029254386353131 : Int64)))))]))
  refine own_step (fun t k => XS.lloadN X29.here hx rfl (hb hby at_41) rfl k) ?_
  show own_Goes p e below _ (T29.setTop (mkF m 42 #[.val (.long p1), .second, .val (.long (-7046029254386353131 : Int64)), .second, .val (.ref b19), .val (.long (own_mix (p1 + (-7046029254386353131 : Int64)))), .second, .val (.long (own_mix ((p1 + (-7046029254386353131 : Int64)) + (-7046029254386353131 : Int64)))), .second, .val (.long (own_mix (((p1 + (-7046029254386353131 : Int64)) + (-7046029254386353131 : Int64)) + (-7046029254386353131 : Int64)))), .second] [(.long (-7046029254386353131 : Int64)), (.long p1), (.long (own_unmix (own_mix (p1 + (-7046029254386353131 : Int64)))))]))
  refine own_step (fun t k => XS.ladd X29.here hx rfl (hb hby at_42) rfl k) ?_
  show own_Goes p e below _ (T29.setTop (mkF m 43 #[.val (.long p1), .second, .val (.long (-7046029254386353131 : Int64)), .second, .val (.ref b19), .val (.long (own_mix (p1 + (-7046029254386353131 : Int64)))), .second, .val (.long (own_mix ((p1 + (-7046029254386353131 : Int64)) + (-7046029254386353131 : Int64)))), .second, .val (.long (own_mix (((p1 + (-7046029254386353131 : Int64)) + (-7046029254386353131 : Int64)) + (-7046029254386353131 : Int64)))), .second] [(.long (p1 + (-7046029254386353131 : Int64))), (.long (own_unmix (own_mix (p1 + (-7046029254386353131 : Int64)))))]))
  refine own_step (fun t k => XS.lcmp X29.here hx rfl (hb hby at_43) rfl k) ?_
  show own_Goes p e below _ (T29.setTop (mkF m 44 #[.val (.long p1), .second, .val (.long (-7046029254386353131 : Int64)), .second, .val (.ref b19), .val (.long (own_mix (p1 + (-7046029254386353131 : Int64)))), .second, .val (.long (own_mix ((p1 + (-7046029254386353131 : Int64)) + (-7046029254386353131 : Int64)))), .second, .val (.long (own_mix (((p1 + (-7046029254386353131 : Int64)) + (-7046029254386353131 : Int64)) + (-7046029254386353131 : Int64)))), .second] [(.int (lcmpW (own_unmix (own_mix (p1 + (-7046029254386353131 : Int64)))) (p1 + (-7046029254386353131 : Int64))))]))
  have hc30 : (own_unmix (own_mix (p1 + (-7046029254386353131 : Int64)))) = (p1 + (-7046029254386353131 : Int64)) := own_e1 _
  refine own_step (fun t k => XS.ifNo X29.here hx rfl (hb hby at_44) rfl ((if0 _ _).trans (teq ((lw_eq (own_unmix (own_mix (p1 + (-7046029254386353131 : Int64)))) (p1 + (-7046029254386353131 : Int64))).mpr hc30)).2) k) ?_
  show own_Goes p e below _ (T29.setTop (mkF m 47 #[.val (.long p1), .second, .val (.long (-7046029254386353131 : Int64)), .second, .val (.ref b19), .val (.long (own_mix (p1 + (-7046029254386353131 : Int64)))), .second, .val (.long (own_mix ((p1 + (-7046029254386353131 : Int64)) + (-7046029254386353131 : Int64)))), .second, .val (.long (own_mix (((p1 + (-7046029254386353131 : Int64)) + (-7046029254386353131 : Int64)) + (-7046029254386353131 : Int64)))), .second] []))
  refine own_step (fun t k => XS.lload X29.here hx rfl (hb hby at_47) rfl k) ?_
  show own_Goes p e below _ (T29.setTop (mkF m 49 #[.val (.long p1), .second, .val (.long (-7046029254386353131 : Int64)), .second, .val (.ref b19), .val (.long (own_mix (p1 + (-7046029254386353131 : Int64)))), .second, .val (.long (own_mix ((p1 + (-7046029254386353131 : Int64)) + (-7046029254386353131 : Int64)))), .second, .val (.long (own_mix (((p1 + (-7046029254386353131 : Int64)) + (-7046029254386353131 : Int64)) + (-7046029254386353131 : Int64)))), .second] [(.long (own_mix ((p1 + (-7046029254386353131 : Int64)) + (-7046029254386353131 : Int64))))]))
  obtain ⟨_, _, ⟨T31, L31, k31, n31⟩, -, X31, ⟨Lc31, hQ31, l31, y31, z31⟩, st31⟩ := Jvm.LawKit.callS X29 hx (y := (⟨"com/example/waysmith/waysmith/solver/SeededRandomNextLongPinLaw", "unmix", "(J)J"⟩ : MethodName)) hown (mvT hZ w20) (mvT hZ w21) (mvT hZ w22) (mvT hZ w23) (by decide) (backOf (W := 0) (own_b4 l Z a0 hw [] (own_mix ((p1 + (-7046029254386353131 : Int64)) + (-7046029254386353131 : Int64)))  T27.heap n0 (Nat.le_trans (Nat.le_trans (Nat.le_trans (Nat.le_trans (Nat.le_trans Z0 E19.1) K21c.1) K23c.1) K25c.1) K27c.1) ) hZ w23 w22 (by decide) (by decide)) (g := (mkF m 49 #[.val (.long p1), .second, .val (.long (-7046029254386353131 : Int64)), .second, .val (.ref b19), .val (.long (own_mix (p1 + (-7046029254386353131 : Int64)))), .second, .val (.long (own_mix ((p1 + (-7046029254386353131 : Int64)) + (-7046029254386353131 : Int64)))), .second, .val (.long (own_mix (((p1 + (-7046029254386353131 : Int64)) + (-7046029254386353131 : Int64)) + (-7046029254386353131 : Int64)))), .second] [(.long (own_mix ((p1 + (-7046029254386353131 : Int64)) + (-7046029254386353131 : Int64))))])) rfl (by rw [hml]; rfl) (argsL := [(.long (own_mix ((p1 + (-7046029254386353131 : Int64)) + (-7046029254386353131 : Int64))))]) (rest := []) (lenOf own_pd0 rfl) rfl (by show 2 * 0 + _ ≤ _; exact Nat.le_of_eq rfl) (hb hby at_49) (fun _ _ => ⟨rfl, eh29, (by decide : 1 + 0 ≤ _), (by decide : 1 + 0 ≤ _)⟩)
  dsimp only [Pt.U, Pt.locs, Pt.cells, Pt.slots] at X31 l31 y31 z31 st31 hQ31
  subst l31 y31 z31
  obtain ⟨rfl, N31q, eh31⟩ := hQ31
  have N31 := Fr.app N29 N31q
  refine own_step st31 ?_
  show own_Goes p e below _ (T31.setTop (mkF m 52 #[.val (.long p1), .second, .val (.long (-7046029254386353131 : Int64)), .second, .val (.ref b19), .val (.long (own_mix (p1 + (-7046029254386353131 : Int64)))), .second, .val (.long (own_mix ((p1 + (-7046029254386353131 : Int64)) + (-7046029254386353131 : Int64)))), .second, .val (.long (own_mix (((p1 + (-7046029254386353131 : Int64)) + (-7046029254386353131 : Int64)) + (-7046029254386353131 : Int64)))), .second] [(.long (own_unmix (own_mix ((p1 + (-7046029254386353131 : Int64)) + (-7046029254386353131 : Int64)))))]))
  refine own_step (fun t k => XS.lloadN X31.here hx rfl (hb hby at_52) rfl k) ?_
  show own_Goes p e below _ (T31.setTop (mkF m 53 #[.val (.long p1), .second, .val (.long (-7046029254386353131 : Int64)), .second, .val (.ref b19), .val (.long (own_mix (p1 + (-7046029254386353131 : Int64)))), .second, .val (.long (own_mix ((p1 + (-7046029254386353131 : Int64)) + (-7046029254386353131 : Int64)))), .second, .val (.long (own_mix (((p1 + (-7046029254386353131 : Int64)) + (-7046029254386353131 : Int64)) + (-7046029254386353131 : Int64)))), .second] [(.long p1), (.long (own_unmix (own_mix ((p1 + (-7046029254386353131 : Int64)) + (-7046029254386353131 : Int64)))))]))
  refine own_step (fun t k => X31.ldc2Long hx hown (mvT hZ w28) (g := (mkF m 53 #[.val (.long p1), .second, .val (.long (-7046029254386353131 : Int64)), .second, .val (.ref b19), .val (.long (own_mix (p1 + (-7046029254386353131 : Int64)))), .second, .val (.long (own_mix ((p1 + (-7046029254386353131 : Int64)) + (-7046029254386353131 : Int64)))), .second, .val (.long (own_mix (((p1 + (-7046029254386353131 : Int64)) + (-7046029254386353131 : Int64)) + (-7046029254386353131 : Int64)))), .second] [(.long p1), (.long (own_unmix (own_mix ((p1 + (-7046029254386353131 : Int64)) + (-7046029254386353131 : Int64)))))])) rfl (hb hby at_53) _ k) ?_
  show own_Goes p e below _ (T31.setTop (mkF m 56 #[.val (.long p1), .second, .val (.long (-7046029254386353131 : Int64)), .second, .val (.ref b19), .val (.long (own_mix (p1 + (-7046029254386353131 : Int64)))), .second, .val (.long (own_mix ((p1 + (-7046029254386353131 : Int64)) + (-7046029254386353131 : Int64)))), .second, .val (.long (own_mix (((p1 + (-7046029254386353131 : Int64)) + (-7046029254386353131 : Int64)) + (-7046029254386353131 : Int64)))), .second] [(.long (2 : Int64)), (.long p1), (.long (own_unmix (own_mix ((p1 + (-7046029254386353131 : Int64)) + (-7046029254386353131 : Int64)))))]))
  refine own_step (fun t k => XS.lloadN X31.here hx rfl (hb hby at_56) rfl k) ?_
  show own_Goes p e below _ (T31.setTop (mkF m 57 #[.val (.long p1), .second, .val (.long (-7046029254386353131 : Int64)), .second, .val (.ref b19), .val (.long (own_mix (p1 + (-7046029254386353131 : Int64)))), .second, .val (.long (own_mix ((p1 + (-7046029254386353131 : Int64)) + (-7046029254386353131 : Int64)))), .second, .val (.long (own_mix (((p1 + (-7046029254386353131 : Int64)) + (-7046029254386353131 : Int64)) + (-7046029254386353131 : Int64)))), .second] [(.long (-7046029254386353131 : Int64)), (.long (2 : Int64)), (.long p1), (.long (own_unmix (own_mix ((p1 + (-7046029254386353131 : Int64)) + (-7046029254386353131 : Int64)))))]))
  refine own_step (fun t k => XS.lmul X31.here hx rfl (hb hby at_57) rfl k) ?_
  show own_Goes p e below _ (T31.setTop (mkF m 58 #[.val (.long p1), .second, .val (.long (-7046029254386353131 : Int64)), .second, .val (.ref b19), .val (.long (own_mix (p1 + (-7046029254386353131 : Int64)))), .second, .val (.long (own_mix ((p1 + (-7046029254386353131 : Int64)) + (-7046029254386353131 : Int64)))), .second, .val (.long (own_mix (((p1 + (-7046029254386353131 : Int64)) + (-7046029254386353131 : Int64)) + (-7046029254386353131 : Int64)))), .second] [(.long ((2 : Int64) * (-7046029254386353131 : Int64))), (.long p1), (.long (own_unmix (own_mix ((p1 + (-7046029254386353131 : Int64)) + (-7046029254386353131 : Int64)))))]))
  refine own_step (fun t k => XS.ladd X31.here hx rfl (hb hby at_58) rfl k) ?_
  show own_Goes p e below _ (T31.setTop (mkF m 59 #[.val (.long p1), .second, .val (.long (-7046029254386353131 : Int64)), .second, .val (.ref b19), .val (.long (own_mix (p1 + (-7046029254386353131 : Int64)))), .second, .val (.long (own_mix ((p1 + (-7046029254386353131 : Int64)) + (-7046029254386353131 : Int64)))), .second, .val (.long (own_mix (((p1 + (-7046029254386353131 : Int64)) + (-7046029254386353131 : Int64)) + (-7046029254386353131 : Int64)))), .second] [(.long (p1 + ((2 : Int64) * (-7046029254386353131 : Int64)))), (.long (own_unmix (own_mix ((p1 + (-7046029254386353131 : Int64)) + (-7046029254386353131 : Int64)))))]))
  refine own_step (fun t k => XS.lcmp X31.here hx rfl (hb hby at_59) rfl k) ?_
  show own_Goes p e below _ (T31.setTop (mkF m 60 #[.val (.long p1), .second, .val (.long (-7046029254386353131 : Int64)), .second, .val (.ref b19), .val (.long (own_mix (p1 + (-7046029254386353131 : Int64)))), .second, .val (.long (own_mix ((p1 + (-7046029254386353131 : Int64)) + (-7046029254386353131 : Int64)))), .second, .val (.long (own_mix (((p1 + (-7046029254386353131 : Int64)) + (-7046029254386353131 : Int64)) + (-7046029254386353131 : Int64)))), .second] [(.int (lcmpW (own_unmix (own_mix ((p1 + (-7046029254386353131 : Int64)) + (-7046029254386353131 : Int64)))) (p1 + ((2 : Int64) * (-7046029254386353131 : Int64)))))]))
  have hc32 : (own_unmix (own_mix ((p1 + (-7046029254386353131 : Int64)) + (-7046029254386353131 : Int64)))) = (p1 + ((2 : Int64) * (-7046029254386353131 : Int64))) := own_e2 _
  refine own_step (fun t k => XS.ifNo X31.here hx rfl (hb hby at_60) rfl ((if0 _ _).trans (teq ((lw_eq (own_unmix (own_mix ((p1 + (-7046029254386353131 : Int64)) + (-7046029254386353131 : Int64)))) (p1 + ((2 : Int64) * (-7046029254386353131 : Int64)))).mpr hc32)).2) k) ?_
  show own_Goes p e below _ (T31.setTop (mkF m 63 #[.val (.long p1), .second, .val (.long (-7046029254386353131 : Int64)), .second, .val (.ref b19), .val (.long (own_mix (p1 + (-7046029254386353131 : Int64)))), .second, .val (.long (own_mix ((p1 + (-7046029254386353131 : Int64)) + (-7046029254386353131 : Int64)))), .second, .val (.long (own_mix (((p1 + (-7046029254386353131 : Int64)) + (-7046029254386353131 : Int64)) + (-7046029254386353131 : Int64)))), .second] []))
  refine own_step (fun t k => XS.lload X31.here hx rfl (hb hby at_63) rfl k) ?_
  show own_Goes p e below _ (T31.setTop (mkF m 65 #[.val (.long p1), .second, .val (.long (-7046029254386353131 : Int64)), .second, .val (.ref b19), .val (.long (own_mix (p1 + (-7046029254386353131 : Int64)))), .second, .val (.long (own_mix ((p1 + (-7046029254386353131 : Int64)) + (-7046029254386353131 : Int64)))), .second, .val (.long (own_mix (((p1 + (-7046029254386353131 : Int64)) + (-7046029254386353131 : Int64)) + (-7046029254386353131 : Int64)))), .second] [(.long (own_mix (((p1 + (-7046029254386353131 : Int64)) + (-7046029254386353131 : Int64)) + (-7046029254386353131 : Int64))))]))
  obtain ⟨_, _, ⟨T33, L33, k33, n33⟩, -, X33, ⟨Lc33, hQ33, l33, y33, z33⟩, st33⟩ := Jvm.LawKit.callS X31 hx (y := (⟨"com/example/waysmith/waysmith/solver/SeededRandomNextLongPinLaw", "unmix", "(J)J"⟩ : MethodName)) hown (mvT hZ w20) (mvT hZ w21) (mvT hZ w22) (mvT hZ w23) (by decide) (backOf (W := 0) (own_b4 l Z a0 hw [] (own_mix (((p1 + (-7046029254386353131 : Int64)) + (-7046029254386353131 : Int64)) + (-7046029254386353131 : Int64)))  T27.heap n0 (Nat.le_trans (Nat.le_trans (Nat.le_trans (Nat.le_trans (Nat.le_trans Z0 E19.1) K21c.1) K23c.1) K25c.1) K27c.1) ) hZ w23 w22 (by decide) (by decide)) (g := (mkF m 65 #[.val (.long p1), .second, .val (.long (-7046029254386353131 : Int64)), .second, .val (.ref b19), .val (.long (own_mix (p1 + (-7046029254386353131 : Int64)))), .second, .val (.long (own_mix ((p1 + (-7046029254386353131 : Int64)) + (-7046029254386353131 : Int64)))), .second, .val (.long (own_mix (((p1 + (-7046029254386353131 : Int64)) + (-7046029254386353131 : Int64)) + (-7046029254386353131 : Int64)))), .second] [(.long (own_mix (((p1 + (-7046029254386353131 : Int64)) + (-7046029254386353131 : Int64)) + (-7046029254386353131 : Int64))))])) rfl (by rw [hml]; rfl) (argsL := [(.long (own_mix (((p1 + (-7046029254386353131 : Int64)) + (-7046029254386353131 : Int64)) + (-7046029254386353131 : Int64))))]) (rest := []) (lenOf own_pd0 rfl) rfl (by show 2 * 0 + _ ≤ _; exact Nat.le_of_eq rfl) (hb hby at_65) (fun _ _ => ⟨rfl, eh31, (by decide : 1 + 0 ≤ _), (by decide : 1 + 0 ≤ _)⟩)
  dsimp only [Pt.U, Pt.locs, Pt.cells, Pt.slots] at X33 l33 y33 z33 st33 hQ33
  subst l33 y33 z33
  obtain ⟨rfl, N33q, eh33⟩ := hQ33
  have N33 := Fr.app N31 N33q
  refine own_step st33 ?_
  show own_Goes p e below _ (T33.setTop (mkF m 68 #[.val (.long p1), .second, .val (.long (-7046029254386353131 : Int64)), .second, .val (.ref b19), .val (.long (own_mix (p1 + (-7046029254386353131 : Int64)))), .second, .val (.long (own_mix ((p1 + (-7046029254386353131 : Int64)) + (-7046029254386353131 : Int64)))), .second, .val (.long (own_mix (((p1 + (-7046029254386353131 : Int64)) + (-7046029254386353131 : Int64)) + (-7046029254386353131 : Int64)))), .second] [(.long (own_unmix (own_mix (((p1 + (-7046029254386353131 : Int64)) + (-7046029254386353131 : Int64)) + (-7046029254386353131 : Int64)))))]))
  refine own_step (fun t k => XS.lloadN X33.here hx rfl (hb hby at_68) rfl k) ?_
  show own_Goes p e below _ (T33.setTop (mkF m 69 #[.val (.long p1), .second, .val (.long (-7046029254386353131 : Int64)), .second, .val (.ref b19), .val (.long (own_mix (p1 + (-7046029254386353131 : Int64)))), .second, .val (.long (own_mix ((p1 + (-7046029254386353131 : Int64)) + (-7046029254386353131 : Int64)))), .second, .val (.long (own_mix (((p1 + (-7046029254386353131 : Int64)) + (-7046029254386353131 : Int64)) + (-7046029254386353131 : Int64)))), .second] [(.long p1), (.long (own_unmix (own_mix (((p1 + (-7046029254386353131 : Int64)) + (-7046029254386353131 : Int64)) + (-7046029254386353131 : Int64)))))]))
  refine own_step (fun t k => X33.ldc2Long hx hown (mvT hZ w30) (g := (mkF m 69 #[.val (.long p1), .second, .val (.long (-7046029254386353131 : Int64)), .second, .val (.ref b19), .val (.long (own_mix (p1 + (-7046029254386353131 : Int64)))), .second, .val (.long (own_mix ((p1 + (-7046029254386353131 : Int64)) + (-7046029254386353131 : Int64)))), .second, .val (.long (own_mix (((p1 + (-7046029254386353131 : Int64)) + (-7046029254386353131 : Int64)) + (-7046029254386353131 : Int64)))), .second] [(.long p1), (.long (own_unmix (own_mix (((p1 + (-7046029254386353131 : Int64)) + (-7046029254386353131 : Int64)) + (-7046029254386353131 : Int64)))))])) rfl (hb hby at_69) _ k) ?_
  show own_Goes p e below _ (T33.setTop (mkF m 72 #[.val (.long p1), .second, .val (.long (-7046029254386353131 : Int64)), .second, .val (.ref b19), .val (.long (own_mix (p1 + (-7046029254386353131 : Int64)))), .second, .val (.long (own_mix ((p1 + (-7046029254386353131 : Int64)) + (-7046029254386353131 : Int64)))), .second, .val (.long (own_mix (((p1 + (-7046029254386353131 : Int64)) + (-7046029254386353131 : Int64)) + (-7046029254386353131 : Int64)))), .second] [(.long (3 : Int64)), (.long p1), (.long (own_unmix (own_mix (((p1 + (-7046029254386353131 : Int64)) + (-7046029254386353131 : Int64)) + (-7046029254386353131 : Int64)))))]))
  refine own_step (fun t k => XS.lloadN X33.here hx rfl (hb hby at_72) rfl k) ?_
  show own_Goes p e below _ (T33.setTop (mkF m 73 #[.val (.long p1), .second, .val (.long (-7046029254386353131 : Int64)), .second, .val (.ref b19), .val (.long (own_mix (p1 + (-7046029254386353131 : Int64)))), .second, .val (.long (own_mix ((p1 + (-7046029254386353131 : Int64)) + (-7046029254386353131 : Int64)))), .second, .val (.long (own_mix (((p1 + (-7046029254386353131 : Int64)) + (-7046029254386353131 : Int64)) + (-7046029254386353131 : Int64)))), .second] [(.long (-7046029254386353131 : Int64)), (.long (3 : Int64)), (.long p1), (.long (own_unmix (own_mix (((p1 + (-7046029254386353131 : Int64)) + (-7046029254386353131 : Int64)) + (-7046029254386353131 : Int64)))))]))
  refine own_step (fun t k => XS.lmul X33.here hx rfl (hb hby at_73) rfl k) ?_
  show own_Goes p e below _ (T33.setTop (mkF m 74 #[.val (.long p1), .second, .val (.long (-7046029254386353131 : Int64)), .second, .val (.ref b19), .val (.long (own_mix (p1 + (-7046029254386353131 : Int64)))), .second, .val (.long (own_mix ((p1 + (-7046029254386353131 : Int64)) + (-7046029254386353131 : Int64)))), .second, .val (.long (own_mix (((p1 + (-7046029254386353131 : Int64)) + (-7046029254386353131 : Int64)) + (-7046029254386353131 : Int64)))), .second] [(.long ((3 : Int64) * (-7046029254386353131 : Int64))), (.long p1), (.long (own_unmix (own_mix (((p1 + (-7046029254386353131 : Int64)) + (-7046029254386353131 : Int64)) + (-7046029254386353131 : Int64)))))]))
  refine own_step (fun t k => XS.ladd X33.here hx rfl (hb hby at_74) rfl k) ?_
  show own_Goes p e below _ (T33.setTop (mkF m 75 #[.val (.long p1), .second, .val (.long (-7046029254386353131 : Int64)), .second, .val (.ref b19), .val (.long (own_mix (p1 + (-7046029254386353131 : Int64)))), .second, .val (.long (own_mix ((p1 + (-7046029254386353131 : Int64)) + (-7046029254386353131 : Int64)))), .second, .val (.long (own_mix (((p1 + (-7046029254386353131 : Int64)) + (-7046029254386353131 : Int64)) + (-7046029254386353131 : Int64)))), .second] [(.long (p1 + ((3 : Int64) * (-7046029254386353131 : Int64)))), (.long (own_unmix (own_mix (((p1 + (-7046029254386353131 : Int64)) + (-7046029254386353131 : Int64)) + (-7046029254386353131 : Int64)))))]))
  refine own_step (fun t k => XS.lcmp X33.here hx rfl (hb hby at_75) rfl k) ?_
  show own_Goes p e below _ (T33.setTop (mkF m 76 #[.val (.long p1), .second, .val (.long (-7046029254386353131 : Int64)), .second, .val (.ref b19), .val (.long (own_mix (p1 + (-7046029254386353131 : Int64)))), .second, .val (.long (own_mix ((p1 + (-7046029254386353131 : Int64)) + (-7046029254386353131 : Int64)))), .second, .val (.long (own_mix (((p1 + (-7046029254386353131 : Int64)) + (-7046029254386353131 : Int64)) + (-7046029254386353131 : Int64)))), .second] [(.int (lcmpW (own_unmix (own_mix (((p1 + (-7046029254386353131 : Int64)) + (-7046029254386353131 : Int64)) + (-7046029254386353131 : Int64)))) (p1 + ((3 : Int64) * (-7046029254386353131 : Int64)))))]))
  have hc34 : (own_unmix (own_mix (((p1 + (-7046029254386353131 : Int64)) + (-7046029254386353131 : Int64)) + (-7046029254386353131 : Int64)))) = (p1 + ((3 : Int64) * (-7046029254386353131 : Int64))) := own_e3 _
  refine own_step (fun t k => XS.ifNo X33.here hx rfl (hb hby at_76) rfl ((if0 _ _).trans (teq ((lw_eq (own_unmix (own_mix (((p1 + (-7046029254386353131 : Int64)) + (-7046029254386353131 : Int64)) + (-7046029254386353131 : Int64)))) (p1 + ((3 : Int64) * (-7046029254386353131 : Int64)))).mpr hc34)).2) k) ?_
  show own_Goes p e below _ (T33.setTop (mkF m 79 #[.val (.long p1), .second, .val (.long (-7046029254386353131 : Int64)), .second, .val (.ref b19), .val (.long (own_mix (p1 + (-7046029254386353131 : Int64)))), .second, .val (.long (own_mix ((p1 + (-7046029254386353131 : Int64)) + (-7046029254386353131 : Int64)))), .second, .val (.long (own_mix (((p1 + (-7046029254386353131 : Int64)) + (-7046029254386353131 : Int64)) + (-7046029254386353131 : Int64)))), .second] []))
  refine own_step (fun t k => XS.iconst X33.here hx rfl (hb hby at_79) k) ?_
  show own_Goes p e below _ (T33.setTop (mkF m 80 #[.val (.long p1), .second, .val (.long (-7046029254386353131 : Int64)), .second, .val (.ref b19), .val (.long (own_mix (p1 + (-7046029254386353131 : Int64)))), .second, .val (.long (own_mix ((p1 + (-7046029254386353131 : Int64)) + (-7046029254386353131 : Int64)))), .second, .val (.long (own_mix (((p1 + (-7046029254386353131 : Int64)) + (-7046029254386353131 : Int64)) + (-7046029254386353131 : Int64)))), .second] [(.int (1 : Int32))]))
  refine own_step (fun t k => XS.goto X33.here hx rfl (pc0 := 80) (pc' := 84) rfl (hb hby at_80) (by decide) (by decide) k) ?_
  show own_Goes p e below _ (T33.setTop (mkF m 84 #[.val (.long p1), .second, .val (.long (-7046029254386353131 : Int64)), .second, .val (.ref b19), .val (.long (own_mix (p1 + (-7046029254386353131 : Int64)))), .second, .val (.long (own_mix ((p1 + (-7046029254386353131 : Int64)) + (-7046029254386353131 : Int64)))), .second, .val (.long (own_mix (((p1 + (-7046029254386353131 : Int64)) + (-7046029254386353131 : Int64)) + (-7046029254386353131 : Int64)))), .second] [(.int (1 : Int32))]))
  refine own_retL X33 hx hlk Bd.returns (hb hby at_84) (?_ : (1 : Int32) = 1) N33 (by decide) (by decide)
  exact rfl
set_option maxRecDepth 65536 in
set_option maxHeartbeats 40000000 in
theorem comes_1 {Post : Tables → Env → Array Value → State → Outcome → State → Prop} (hpost : ∀ tb e args s v u, (limb_1_1.after args s (.returned v) u = true ∧ limb_1_2.after args s (.returned v) u = true ∧ True) → FrameEnd s (.returned v) u (Jvm.fieldLocs frame_1_writes args s ++ Jvm.arrayLocs frame_1_arrays args s ++ Jvm.staticLocs frame_1_statics s) 16 128 → Post tb e args s (.returned v) u) :
    ArmFor flags0 classFile x code maxLocals ret World_1 tables_1 room_1 Calls_1 rest_1 Pre_1 Post := by
  intro l hfl _ _ p e ha hc hk s m args below hf hA hF happ hP
  obtain ⟨hcalls, hrest, hpre⟩ := hP
  obtain ⟨-, -, -, hnamed, -, -, -, hat⟩ := (Spec.applies_iff hf).mp happ
  obtain ⟨hg, hn⟩ := and_e (Cond.before_iff.mp (show (Jvm.Cond.and given_1 narrow_1).before args s = true from hpre))
  obtain ⟨gg1, gg2⟩ := and_e hg
  obtain ⟨w0, rfl⟩ : ∃ w0 : Value, args = #[w0] := by
    have hs : args.size = 1 := by simpa [Cond.value, given_1] using gg1
    obtain ⟨L⟩ := args
    match L, hs with
    | [w0], _ => exact ⟨w0, rfl⟩
  have hw := fun d (hd : d ∈ tables_1) => atoms_spec (ws := Jvm.Cond.code x code maxLocals ret :: tables_1) hat d (List.mem_cons_of_mem _ hd)
  have hfit : Fit s := fun {y c} hc i hi => by
    obtain ⟨ha, rfl⟩ := Array.getElem?_eq_some_iff.mp hc
    have q := List.all_eq_true.mp ((Array.all_eq_true_iff_forall_mem.mp hF) _ (Array.getElem_mem ha)) i (List.mem_range.mpr hi)
    simpa [Array.getElem?_eq_getElem hi] using q
  obtain ⟨i0, ei0⟩ := isL_v gg2
  obtain rfl : w0 = (.long i0) := Option.some.inj ei0
  obtain ⟨n, o, h1, h2, h3, _, L, rfl, ⟨rfl, N⟩, hq⟩ := own_law l s _ hw tables_1 i0  s.heap s.heap.size (Nat.le_refl _)  p e ha hc hk s m _ below hf ((Spec.applies_iff_loose hf).mp happ).1 ⟨rfl, State.Warmed39.refl s, rfl⟩ trivial
  refine ⟨n, _, h1, h2, h3, hpost _ _ _ _ _ _ ⟨Cond.after_iff.mpr rfl, Cond.after_iff.mpr (eq_i res_at (Term.int_eval (1)) rfl), trivial⟩ ⟨hq.1, hq.2.1, (hq.2.2.sift fun y hy => Or.inr (N y hy)).mono (by decide) (by decide)⟩⟩
theorem main_1_1 : Claimed_1_1 := comes_1 fun _ _ _ _ _ _ h hF => ⟨h.1, hF⟩
theorem main_1_2 : Claimed_1_2 := comes_1 fun _ _ _ _ _ _ h hF => ⟨h.2.1, hF⟩
end Jvm.Pilot.@@N@@
namespace Jvm.Pilot.@@N@@
open Jvm Jvm.ClassFile Sem Op Lib Jvm.Free Jvm.Stand Jvm.Pilot.@@N@@.Jvm.D
/-! MADE BY PROGRAM (witnessworld.py) out of the Statement's table words and the real class files: 7 classes; the members and pool entries that the words name. The judged class is class 1, her method 3. -/
namespace start1
open Jvm.ClassFile
def u (s : String) : CpInfo := .utf8 (stringToUtf16 s)
/-- a pool by its gaps: so many unusable entries, then the entry; so many at the end -/
def gap : Nat → List CpInfo → List CpInfo
  | 0, r => r
  | n + 1, r => .unusable :: gap n r
def poolList (es : List (Nat × CpInfo)) (last : Nat) : List CpInfo := es.foldr (fun e r => gap e.1 (e.2 :: r)) (gap last [])
def pool (es : List (Nat × CpInfo)) (last : Nat) : Array CpInfo := ⟨poolList es last⟩
def fileOf (pool : Array CpInfo) (this : Nat) (attrs : Array Attribute := #[]) (ms : Array MethodInfo := #[]) (fl : Nat := 33) (sup : Nat := 0) (ifs : Array Nat := #[]) (fds : Array FieldInfo := #[]) : ClassFile where
  minorVersion := 0
  majorVersion := 65
  constantPool := pool
  accessFlags := fl
  thisClass := this
  superClass := sup
  interfaces := ifs
  fields := fds
  methods := ms
  attributes := attrs
def plain (name : String) (sup : Option ClassId) : Class where
  name := name
  kind := .ordinary
  loader := none
  accessFlags := 33
  super := sup
  interfaces := #[]
  cf := none
  fields := #[]
  methods := #[]
  instanceTypes := #[]
  staticTypes := #[]
  resolved := #[]
  callSites := []
  init := .initialized
  statics := none
  mirror := none

def pool0 : Array CpInfo := pool [(5, u "<init>"), (0, u "()V"), (1, .class_ 10), (1, u "java/lang/Object")] 113

def k0c0 : Code := { maxStack := 0, maxLocals := 1, code := object_method_1_code, exceptionTable := #[], attributes := #[] }
def k0m0 : Method := { name := "<init>", desc := "()V", sig := { parameters := [], returnType := none }, accessFlags := 1, code := some k0c0 }
/-- java/lang/Object -/
def k0 : Class := { plain "java/lang/Object" none with
  accessFlags := 33
  interfaces := #[]
  cf := some (fileOf pool0 8 #[] #[{ accessFlags := 1, nameIndex := 5, descriptorIndex := 6, attributes := #[] }] 33 0 #[] #[])
  fields := #[]
  methods := #[k0m0]
  instanceTypes := #[]
  staticTypes := #[]
  resolved := Array.replicate 124 none
  statics := none }

def pool1 : Array CpInfo := pool [(2, .class_ 4), (1, u "java/lang/Object"), (0, u "<init>"), (0, u "()V"), (0, .long 2), (1, .long 13787848793156543929), (1, .methodref 12 13), (0, .class_ 14), (0, .nameAndType 15 16), (0, u "com/example/waysmith/waysmith/solver/SeededRandomNextLongPinLaw"), (0, u "inverse"), (0, u "(J)J"), (0, .long 10723151780598845931), (1, .long 11400714819323198485), (1, .class_ 22), (0, u "com/example/waysmith/waysmith/solver/SeededRandom"), (0, .methodref 21 24), (0, .nameAndType 5 25), (0, u "(J)V"), (0, .methodref 21 27), (0, .nameAndType 28 29), (0, u "nextLong"), (0, u "()J"), (0, .methodref 12 31), (0, .nameAndType 32 16), (0, u "unmix"), (0, .long 3), (3, u "law"), (0, u "(J)Z")] 3

def k1m0 : Method := { name := "<init>", desc := "()V", sig := { parameters := [], returnType := none }, accessFlags := 1, code := none }
def k1c1 : Code := { maxStack := 8, maxLocals := 4, code := method_2_code, exceptionTable := #[], attributes := #[] }
def k1m1 : Method := { name := "inverse", desc := "(J)J", sig := { parameters := [.long], returnType := some .long }, accessFlags := 10, code := some k1c1 }
def k1c2 : Code := { maxStack := 5, maxLocals := 6, code := method_3_code, exceptionTable := #[], attributes := #[] }
def k1m2 : Method := { name := "unmix", desc := "(J)J", sig := { parameters := [.long], returnType := some .long }, accessFlags := 10, code := some k1c2 }
def k1c3 : Code := { maxStack := 8, maxLocals := 11, code := code, exceptionTable := #[], attributes := #[] }
def k1m3 : Method := { name := "law", desc := "(J)Z", sig := { parameters := [.long], returnType := some .boolean }, accessFlags := 9, code := some k1c3 }
/-- com/example/waysmith/waysmith/solver/SeededRandomNextLongPinLaw -/
def k1 : Class := { plain "com/example/waysmith/waysmith/solver/SeededRandomNextLongPinLaw" (some 0) with
  accessFlags := 49
  interfaces := #[]
  cf := some (fileOf pool1 12 #[] #[{ accessFlags := 1, nameIndex := 5, descriptorIndex := 6, attributes := #[] }, { accessFlags := 10, nameIndex := 15, descriptorIndex := 16, attributes := #[] }, { accessFlags := 10, nameIndex := 32, descriptorIndex := 16, attributes := #[] }, { accessFlags := 9, nameIndex := 37, descriptorIndex := 38, attributes := #[] }] 49 2 #[] #[])
  fields := #[]
  methods := #[k1m0, k1m1, k1m2, k1m3]
  instanceTypes := #[]
  staticTypes := #[]
  resolved := Array.replicate 42 none
  statics := none }

def pool2 : Array CpInfo := pool [(1, .methodref 2 3), (0, .class_ 4), (0, .nameAndType 5 6), (0, u "java/lang/Object"), (0, u "<init>"), (0, u "()V"), (0, .fieldref 8 9), (0, .class_ 10), (0, .nameAndType 11 12), (0, u "com/example/waysmith/waysmith/solver/SeededRandom"), (0, u "state"), (0, u "J"), (0, .long 11400714819323198485), (1, .long 13787848793156543929), (1, .long 10723151780598845931), (3, u "nextLong"), (0, u "()J"), (10, u "GAMMA"), (1, u "UNIT"), (0, u "D"), (0, u "(J)V")] 7

def k2c0 : Code := { maxStack := 3, maxLocals := 3, code := prog_53_method_1_code, exceptionTable := #[], attributes := #[] }
def k2m0 : Method := { name := "<init>", desc := "(J)V", sig := { parameters := [.long], returnType := none }, accessFlags := 0, code := some k2c0 }
def k2c1 : Code := { maxStack := 5, maxLocals := 3, code := prog_53_method_2_code, exceptionTable := #[], attributes := #[] }
def k2m1 : Method := { name := "nextLong", desc := "()J", sig := { parameters := [], returnType := some .long }, accessFlags := 0, code := some k2c1 }
/-- com/example/waysmith/waysmith/solver/SeededRandom -/
def k2 : Class := { plain "com/example/waysmith/waysmith/solver/SeededRandom" (some 0) with
  accessFlags := 48
  interfaces := #[]
  cf := some (fileOf pool2 8 #[] #[{ accessFlags := 0, nameIndex := 5, descriptorIndex := 37, attributes := #[] }, { accessFlags := 0, nameIndex := 21, descriptorIndex := 22, attributes := #[] }] 48 2 #[] #[{ accessFlags := 26, nameIndex := 33, descriptorIndex := 12, attributes := #[] }, { accessFlags := 26, nameIndex := 35, descriptorIndex := 36, attributes := #[] }, { accessFlags := 2, nameIndex := 11, descriptorIndex := 12, attributes := #[] }])
  fields := #[{ name := "GAMMA", type := .long, accessFlags := 26, slot := 0, constantValue := 0 }, { name := "UNIT", type := .double, accessFlags := 26, slot := 1, constantValue := 0 }, { name := "state", type := .long, accessFlags := 2, slot := 0, constantValue := 0 }]
  methods := #[k2m0, k2m1]
  instanceTypes := #[.long]
  staticTypes := #[.long, .double]
  resolved := Array.replicate 45 none
  statics := none }

def pool3 : Array CpInfo := pool [(1, u "java/lang/Cloneable"), (0, .class_ 1), (0, u "java/lang/Object"), (0, .class_ 3)] 3

/-- java/lang/Cloneable -/
def k3 : Class := { plain "java/lang/Cloneable" (some 0) with
  accessFlags := 1537
  interfaces := #[]
  cf := some (fileOf pool3 2 #[] #[] 1537 4 #[] #[])
  fields := #[]
  methods := #[]
  instanceTypes := #[]
  staticTypes := #[]
  resolved := Array.replicate 8 none
  statics := none }

def pool4 : Array CpInfo := pool [(1, u "java/io/Serializable"), (0, .class_ 1), (0, u "java/lang/Object"), (0, .class_ 3)] 3

/-- java/io/Serializable -/
def k4 : Class := { plain "java/io/Serializable" (some 0) with
  accessFlags := 1537
  interfaces := #[]
  cf := some (fileOf pool4 2 #[] #[] 1537 4 #[] #[])
  fields := #[]
  methods := #[]
  instanceTypes := #[]
  staticTypes := #[]
  resolved := Array.replicate 8 none
  statics := none }

/-- the primitive byte -/
def k5 : Class := { plain "byte" none with kind := .primitive 'B', accessFlags := 0x411 }
/-- [B -/
def k6 : Class := { plain "[B" (some 0) with kind := .array 5 .byte, interfaces := #[3, 4], accessFlags := 1041 }

def heap : Heap := #[]
def classes : Array Class := #[k0, k1, k2, k3, k4, k5, k6]
def interned : List (Array UInt16 × Addr) := []
def slotsUsed : Nat := 0
def theMethod : MethodId := ⟨1, 3⟩
def args0 : Array Value := #[.long 5]
def aboutOver (below : List Frame) : State where
  vm := { classes := classes, interned := interned.toArray }
  heap := heap
  slotsUsed := slotsUsed
  threads := #[{ frames := .invoking theMethod args0 :: below }]
def below0 : List Frame := [.native { method := ⟨0, 0⟩, args := #[] }]
def about1 : State := aboutOver below0
def p0 : Program := .bare "" "" ""
def e0 : Env := launch0.env 0 0 0
theorem w_frames : about1.frames = Frame.invoking theMethod args0 :: below0 := rfl
set_option maxRecDepth 65536 in
theorem w_args : argsFit about1.vm theMethod args0 = true := by decide +kernel
set_option maxRecDepth 65536 in
theorem w_heap : heapFits about1 = true := by decide +kernel
set_option maxRecDepth 65536 in
theorem w_runnable : about1.curStatus? = some .runnable := by decide +kernel
set_option maxRecDepth 65536 in
theorem w_alone : about1.alone = true := by decide +kernel
set_option maxRecDepth 65536 in
theorem w_named : about1.methodNamed? x = some theMethod := by decide +kernel
set_option maxRecDepth 65536 in
theorem w_hears : about1.hears theMethod below0 = true := by decide +kernel
set_option maxRecDepth 65536 in
theorem w_ripe : about1.ripe theMethod args0 below0 = true := by decide +kernel
theorem w_running : about1.status = .running := rfl
set_option maxRecDepth 65536 in
theorem w_room : about1.hasRoom e0.platform room_1 = true :=
  launch0.hasRoom_least _ room_1 (by decide +kernel) (by decide +kernel) (by decide +kernel) (by decide +kernel) (by decide +kernel) (by decide +kernel)
theorem allAtoms_all (ts : List Jvm.Cond) (a : Array Jvm.Value) (st : Jvm.State) : (allAtoms ts).before a st = ts.all (fun c => c.before a st) := by
  induction ts with
  | nil => rfl
  | cons c t ih =>
    show (Jvm.Cond.and c (allAtoms t)).before a st = _
    rw [Jvm.Cond.before_and, ih, List.all_cons]
def words1 : List Jvm.Cond := Jvm.Cond.code x code maxLocals ret :: tables_1
/-- a 'code' word, met by the world's own term for the bytes: nothing is compared byte by byte -/
theorem code_word {y : MethodName} {bytes : ByteArray} {mx : Nat} {rt : Option FieldType} {a : Array Value} {s : State} {m : MethodId} {meth : Method} {c : Code} (h1 : s.methodNamed? y = some m) (h2 : s.vm.method? m = some meth) (h3 : meth.code = some c) (h4 : c.code = bytes)
    (h5 : (c.maxLocals == mx && c.exceptionTable.isEmpty && decide (c.maxStack ≤ mostOperands) && decide (meth.sig.returnType = rt) && !meth.locks && decide (parseMethodDescriptor y.desc = some meth.sig)) = true) : (Jvm.Cond.code y bytes mx rt).before a s = true := by
  simp only [Bool.and_eq_true, beq_iff_eq, Bool.not_eq_true', decide_eq_true_eq] at h5
  obtain ⟨⟨⟨⟨⟨g1, g2⟩, g3⟩, g4⟩, g5⟩, g6⟩ := h5
  simp [Cond.before, Cond.holds, Cond.value, h1, h2, h3, h4, g1, g2, g3, g4, g5, g6]
def isCode : Jvm.Cond → Bool
  | .code _ _ _ _ => true
  | _ => false
theorem all_split {L : List Jvm.Cond} {P : Jvm.Cond → Bool} (h1 : L.all (fun c => isCode c || P c) = true) (h2 : ∀ c ∈ L.filter isCode, P c = true) : L.all P = true := by
  refine List.all_eq_true.mpr fun c hc => ?_
  have h := List.all_eq_true.mp h1 c hc
  rcases Bool.eq_false_or_eq_true (isCode c) with hi | hi
  · exact h2 c (List.mem_filter.mpr ⟨hc, hi⟩)
  · simpa [hi] using h
set_option maxRecDepth 65536 in
theorem w_c0 : (Jvm.Cond.code x code maxLocals ret).before args0 about1 = true := code_word (m := ⟨1, 3⟩) (meth := k1m3) (c := k1c3) (by decide +kernel) rfl rfl rfl (by decide +kernel)
set_option maxRecDepth 65536 in
theorem w_c1 : (Jvm.Cond.code ({ cls := "com/example/waysmith/waysmith/solver/SeededRandom", name := "<init>", desc := "(J)V" } : Jvm.MethodName) prog_53_method_1_code (3 : Nat) (Option.none : Option Jvm.ClassFile.FieldType)).before args0 about1 = true := code_word (m := ⟨2, 0⟩) (meth := k2m0) (c := k2c0) (by decide +kernel) rfl rfl rfl (by decide +kernel)
set_option maxRecDepth 65536 in
theorem w_c2 : (Jvm.Cond.code ({ cls := "java/lang/Object", name := "<init>", desc := "()V" } : Jvm.MethodName) object_method_1_code (1 : Nat) (Option.none : Option Jvm.ClassFile.FieldType)).before args0 about1 = true := code_word (m := ⟨0, 0⟩) (meth := k0m0) (c := k0c0) (by decide +kernel) rfl rfl rfl (by decide +kernel)
set_option maxRecDepth 65536 in
theorem w_c3 : (Jvm.Cond.code ({ cls := "com/example/waysmith/waysmith/solver/SeededRandom", name := "nextLong", desc := "()J" } : Jvm.MethodName) prog_53_method_2_code (3 : Nat) (Option.some Jvm.ClassFile.FieldType.long)).before args0 about1 = true := code_word (m := ⟨2, 1⟩) (meth := k2m1) (c := k2c1) (by decide +kernel) rfl rfl rfl (by decide +kernel)
set_option maxRecDepth 65536 in
theorem w_c4 : (Jvm.Cond.code ({ cls := "com/example/waysmith/waysmith/solver/SeededRandomNextLongPinLaw", name := "unmix", desc := "(J)J" } : Jvm.MethodName) method_3_code (6 : Nat) (Option.some Jvm.ClassFile.FieldType.long)).before args0 about1 = true := code_word (m := ⟨1, 2⟩) (meth := k1m2) (c := k1c2) (by decide +kernel) rfl rfl rfl (by decide +kernel)
set_option maxRecDepth 65536 in
theorem w_c5 : (Jvm.Cond.code ({ cls := "com/example/waysmith/waysmith/solver/SeededRandomNextLongPinLaw", name := "inverse", desc := "(J)J" } : Jvm.MethodName) method_2_code (4 : Nat) (Option.some Jvm.ClassFile.FieldType.long)).before args0 about1 = true := code_word (m := ⟨1, 1⟩) (meth := k1m1) (c := k1c1) (by decide +kernel) rfl rfl rfl (by decide +kernel)
def codes1 : List Jvm.Cond := [Jvm.Cond.code x code maxLocals ret, Jvm.Cond.code ({ cls := "com/example/waysmith/waysmith/solver/SeededRandom", name := "<init>", desc := "(J)V" } : Jvm.MethodName) prog_53_method_1_code (3 : Nat) (Option.none : Option Jvm.ClassFile.FieldType), Jvm.Cond.code ({ cls := "java/lang/Object", name := "<init>", desc := "()V" } : Jvm.MethodName) object_method_1_code (1 : Nat) (Option.none : Option Jvm.ClassFile.FieldType), Jvm.Cond.code ({ cls := "com/example/waysmith/waysmith/solver/SeededRandom", name := "nextLong", desc := "()J" } : Jvm.MethodName) prog_53_method_2_code (3 : Nat) (Option.some Jvm.ClassFile.FieldType.long), Jvm.Cond.code ({ cls := "com/example/waysmith/waysmith/solver/SeededRandomNextLongPinLaw", name := "unmix", desc := "(J)J" } : Jvm.MethodName) method_3_code (6 : Nat) (Option.some Jvm.ClassFile.FieldType.long), Jvm.Cond.code ({ cls := "com/example/waysmith/waysmith/solver/SeededRandomNextLongPinLaw", name := "inverse", desc := "(J)J" } : Jvm.MethodName) method_2_code (4 : Nat) (Option.some Jvm.ClassFile.FieldType.long)]
set_option maxRecDepth 65536 in
theorem codes_eq : words1.filter isCode = codes1 := rfl
theorem w_codes : ∀ c ∈ words1.filter isCode, c.before args0 about1 = true := by
  rw [codes_eq]
  intro c hc
  simp only [codes1, List.mem_cons, List.not_mem_nil, or_false] at hc
  rcases hc with rfl | rfl | rfl | rfl | rfl | rfl
  · exact w_c0
  · exact w_c1
  · exact w_c2
  · exact w_c3
  · exact w_c4
  · exact w_c5
set_option maxRecDepth 65536 in
theorem w_t1 : (words1.take 24).all (fun c => isCode c || c.before args0 about1) = true := by decide +kernel
set_option maxRecDepth 65536 in
theorem w_t2 : (words1.drop 24).all (fun c => isCode c || c.before args0 about1) = true := by decide +kernel
theorem w_tables : (allAtoms (Jvm.Cond.code x code maxLocals ret :: tables_1)).before args0 about1 = true := by
  rw [allAtoms_all]
  show words1.all (fun c => c.before args0 about1) = true
  refine all_split ?_ w_codes
  rw [← List.take_append_drop 24 words1, List.all_append, w_t1, w_t2]
  rfl
set_option maxRecDepth 65536 in
theorem w_case : (Jvm.Cond.and given_1 narrow_1).before args0 about1 = true := by decide +kernel
theorem w_applies : (headSpec (Jvm.Cond.code x code maxLocals ret :: tables_1) room_1).applies x e0.platform about1 = true :=
  (Spec.applies_iff w_frames).mpr ⟨w_running, w_runnable, w_alone, w_named, w_hears, w_ripe, w_room, w_tables⟩
theorem atStart : AtStart classFile x code maxLocals ret World_1 tables_1 room_1 Calls_1 rest_1 Pre_1 launch0 p0 e0 about1 theMethod args0 below0 :=
  ⟨lists_1, trivial, launch0.admits_env _ _ _, launch0.least_env, fairChoices_fair.cas, fairChoices_fair.clock, w_frames, w_args, w_heap, w_applies, trivial, trivial, w_case⟩
end start1
theorem witness_1 : WitnessClaimed_1 := ⟨start1.p0, start1.e0, start1.about1, start1.theMethod, start1.args0, start1.below0, start1.atStart⟩
end Jvm.Pilot.@@N@@
