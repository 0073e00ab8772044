import JvmDerived
import JvmDerived.Pilot.@@N@@Statement
import JvmDerived.Pilot.@@N@@Code
set_option linter.unusedVariables false
set_option linter.unusedSimpArgs false
namespace Jvm.Pilot.@@N@@
open Jvm Jvm.ClassFile Sem Op Lib Jvm.Free Jvm.Stand Jvm.LawKit Jvm.RoadKit Bundle Jvm.Pilot.@@N@@.Jvm.D
section Own
variable {p : Program} {l : Launch} {e : Env} {R : Room} {s : State} {m : MethodId} {args : Array Value} {below : List Frame} {meth : Method} {c : Code} {T : State} {locs : List Loc} {cells slots : Nat} {Z : State} {h h' : Heap} {a b : Addr} {G : State → Outcome → Prop} {Q : Option Value → Heap → List Loc → Prop} {C K : Nat}
/-- the run comes to an end of which G holds -/
def own_Goes (p : Program) (e : Env) (below : List Frame) (G : State → Outcome → Prop) (S : State) : Prop := ∃ s₂ o, Steps p.tables e below S s₂ ∧ s₂.status = .running ∧ Ended s₂ below o ∧ G s₂ o
theorem own_step {S S' : State} (k : ∀ t, Steps p.tables e below S' t → Steps p.tables e below S t) (h : own_Goes p e below G S') : own_Goes p e below G S := by
  obtain ⟨s₂, o, h1, h2⟩ := h
  exact ⟨s₂, o, k _ h1, h2⟩
theorem own_jump {S S' : State} (k : Steps p.tables e below S S') (h : own_Goes p e below G S') : own_Goes p e below G S := own_step (fun _ q => k.trans q) h
def own_Fin (s : State) (Q : Option Value → Heap → List Loc → Prop) (C K : Nat) : State → Outcome → Prop := fun U o => ∃ v L, o = .returned v ∧ Q v U.heap L ∧ FrameEnd s o U L C K
theorem own_ret0 (X : Stand p l e R s m args below meth c T locs cells slots) (hx : p.tables.exec = Jvm.exec) (hlk : meth.locks = false) (hret : meth.sig.returnType = none) {pc : Nat} {Ls : Array Slot} (hd : decode c.code pc = .ok (.return_, 1)) (hq : Q none T.heap locs) (hc : cells ≤ C) (hk : slots ≤ K) :
    own_Goes p e below (own_Fin s Q C K) (T.setTop (mkF m pc Ls [])) := by
  obtain ⟨fs, hr, hrun, hended, hW, hsame⟩ := X.leave (v := none) (fun _ => rfl)
  exact ⟨_, _, X.returnOut hx hret hd hr, hrun, hended, _, _, rfl, hq, ⟨_, rfl⟩, hW, hsame.mono hc hk⟩
theorem own_retV (X : Stand p l e R s m args below meth c T locs cells slots) (hx : p.tables.exec = Jvm.exec) (hlk : meth.locks = false) {t : FieldType} (hret : meth.sig.returnType = some t) {w : Value} (hn : narrow t w = w) {i : Instr}
    (hi : (i = .ireturn ∧ (t = .int ∨ t = .boolean ∨ t = .byte ∨ t = .char ∨ t = .short) ∧ ∃ z, w = .int z) ∨ (i = .lreturn ∧ t = .long ∧ ∃ z, w = .long z) ∨ (i = .dreturn ∧ t = .double ∧ ∃ z, w = .double z) ∨ (i = .freturn ∧ t = .float ∧ ∃ z, w = .float z) ∨ (i = .areturn ∧ t.isReference = true ∧ w.isRef = true))
    {pc : Nat} {Ls : Array Slot} {rest : List Value} (hd : decode c.code pc = .ok (i, 1)) (hq : Q (some w) T.heap locs) (hc : cells ≤ C) (hk : slots ≤ K) :
    own_Goes p e below (own_Fin s Q C K) (T.setTop (mkF m pc Ls (w :: rest))) := by
  obtain ⟨fs, hr, hrun, hended, hW, hsame⟩ := X.leave (v := some w) (fun h => by rw [hret] at h; cases h)
  exact ⟨_, _, retOut X hx hret hn hi hd hr, hrun, hended, _, _, rfl, hq, ⟨_, rfl⟩, hW, hsame.mono hc hk⟩
theorem own_nb {z : Int32} (h : z = 0 ∨ z = 1) : narrow .boolean (.int z) = .int z := by
  rcases h with rfl | rfl <;> rfl
theorem own_01 {q : Prop} [Decidable q] {x y : Int32} (hx : x = 0 ∨ x = 1) (hy : y = 0 ∨ y = 1) : (if q then x else y) = 0 ∨ (if q then x else y) = 1 := by
  split
  · exact hx
  · exact hy
/-- the law's own promise -/
def own_Q0 (n0 : Nat) (v : Option Value) (h : Heap) (L : List Loc) : Prop := v = some (.int 1) ∧ Fr n0 L
theorem own_retL {n0 : Nat} (X : Stand p l e R s m args below meth c T locs cells slots) (hx : p.tables.exec = Jvm.exec) (hlk : meth.locks = false) (hret : meth.sig.returnType = some .boolean) {pc : Nat} {Ls : Array Slot} {z : Int32} {rest : List Value} (hd : decode c.code pc = .ok (.ireturn, 1)) (hz : z = 1) (N : Fr n0 locs) (hc : cells ≤ C) (hk : slots ≤ K) :
    own_Goes p e below (own_Fin s (own_Q0 n0) C K) (T.setTop (mkF m pc Ls (.int z :: rest))) := by
  subst hz
  exact own_retV X hx hlk hret (own_nb (Or.inr rfl)) (Or.inl ⟨rfl, Or.inr (Or.inl rfl), _, rfl⟩) hd ⟨rfl, N⟩ hc hk
/-! arrays of ints and of longs, by their lists -/
theorem own_getI (xs : List Int32) (n : Nat) : (xs.map Value.int).getD n (Value.int 0) = Value.int (xs.getD n 0) := by
  simp only [List.getD_eq_getElem?_getD, List.getElem?_map]
  cases xs[n]? <;> rfl
theorem own_getJ (xs : List Int64) (n : Nat) : (xs.map Value.long).getD n (Value.long 0) = Value.long (xs.getD n 0) := by
  simp only [List.getD_eq_getElem?_getD, List.getElem?_map]
  cases xs[n]? <;> rfl
theorem own_newI {k : ClassId} {z : Int32} (A : Arr Z h a (newA k .int z) .int) (q : ¬ z < 0) (n : Nat) : Arv Z h a k .int z ((List.replicate n (0 : Int32)).map Value.int) (Value.int 0) :=
  (Arv.new A q).pad fun i => by rw [List.map_replicate]; exact pad_rep [] (Value.int 0) n i
theorem own_newJ {k : ClassId} {z : Int32} (A : Arr Z h a (newA k .long z) .long) (q : ¬ z < 0) (n : Nat) : Arv Z h a k .long z ((List.replicate n (0 : Int64)).map Value.long) (Value.long 0) :=
  (Arv.new A q).pad fun i => by rw [List.map_replicate]; exact pad_rep [] (Value.long 0) n i
theorem own_ial (X : Stand p l e R s m args below meth c T locs cells slots) (hx : p.tables.exec = Jvm.exec) (hZ : Z.Warmed39 s.vm) (eT : T.heap = h) {k : ClassId} {z j : Int32} {xs : List Int32} (F : Arv Z h a k .int z (xs.map Value.int) (Value.int 0)) (hj : ¬ j < 0 ∧ j < z)
    {g : JFrame} (hg : g.method = m) {rest : List Value} (hs : g.stack = .int j :: .ref a :: rest) (hd : decode c.code g.pc = .ok (.iaload, 1)) (t : State) (kk : Steps p.tables e below (T.setTop { g with pc := g.pc + 1, stack := .int (xs.getD j.toNatClampNeg 0) :: rest }) t) : Steps p.tables e below (T.setTop g) t := by
  obtain ⟨cl, Ar, -, S, -, H, -⟩ := F
  have hin := inb_of S hj
  exact X.iaload hx (j := j) (by rw [eT]; exact Ar.1) (State.isArrayOf_alike hZ.alike Ar.2.1) Ar.2.2 hin (H.at hin (own_getI _ _)) hg hs hd t kk
theorem own_lal (X : Stand p l e R s m args below meth c T locs cells slots) (hx : p.tables.exec = Jvm.exec) (hZ : Z.Warmed39 s.vm) (eT : T.heap = h) {k : ClassId} {z j : Int32} {xs : List Int64} (F : Arv Z h a k .long z (xs.map Value.long) (Value.long 0)) (hj : ¬ j < 0 ∧ j < z)
    {g : JFrame} (hg : g.method = m) {rest : List Value} (hs : g.stack = .int j :: .ref a :: rest) (hd : decode c.code g.pc = .ok (.laload, 1)) (t : State) (kk : Steps p.tables e below (T.setTop { g with pc := g.pc + 1, stack := .long (xs.getD j.toNatClampNeg 0) :: rest }) t) : Steps p.tables e below (T.setTop g) t := by
  obtain ⟨cl, Ar, -, S, -, H, -⟩ := F
  have hin := inb_of S hj
  exact X.laload hx (j := j) (by rw [eT]; exact Ar.1) (State.isArrayOf_alike hZ.alike Ar.2.1) Ar.2.2 hin (H.at hin (own_getJ _ _)) hg hs hd t kk
theorem own_len (X : Stand p l e R s m args below meth c T locs cells slots) (hx : p.tables.exec = Jvm.exec) (hZ : Z.Warmed39 s.vm) (eT : T.heap = h) {k : ClassId} {ty : FieldType} {z : Int32} {vs : List Value} {dv : Value} (F : Arv Z h a k ty z vs dv)
    {g : JFrame} (hg : g.method = m) {rest : List Value} (hs : g.stack = .ref a :: rest) (hd : decode c.code g.pc = .ok (.arraylength, 1)) (t : State) (kk : Steps p.tables e below (T.setTop { g with pc := g.pc + 1, stack := .int z :: rest }) t) : Steps p.tables e below (T.setTop g) t := by
  obtain ⟨cl, Ar, -, S, N, -, -⟩ := F
  refine X.arraylength hx (by rw [eT]; exact Ar.1) (State.isArrayOf_alike hZ.alike Ar.2.1) hg hs hd t ?_
  rw [len_of S N]
  exact kk
theorem own_ist (X : Stand p l e R s m args below meth c T locs cells slots) (hx : p.tables.exec = Jvm.exec) (hZ : Z.Warmed39 s.vm) (eT : T.heap = h) {k : ClassId} {z j y : Int32} {xs : List Int32} (F : Arv Z h a k .int z (xs.map Value.int) (Value.int 0)) (hj : ¬ j < 0 ∧ j < z) (n : Nat) (hn : j.toNatClampNeg = n) (hl : n < xs.length)
    {g : JFrame} (hg : g.method = m) {rest : List Value} (hs : g.stack = .int y :: .int j :: .ref a :: rest) (hd : decode c.code g.pc = .ok (.iastore, 1)) :
    ∃ T' h', Stand p l e R s m args below meth c T' (locs ++ [⟨a, j.toNatClampNeg⟩]) cells slots ∧ T'.heap = h' ∧ Wr h h' a j.toNatClampNeg (.int y) ∧ Arv Z h' a k .int z ((xs.set n y).map Value.int) (Value.int 0) ∧ ∀ t, Steps p.tables e below (T'.setTop { g with pc := g.pc + 1, stack := rest }) t → Steps p.tables e below (T.setTop g) t := by
  obtain ⟨cl, Ar, q, S, N, H, I⟩ := F
  obtain ⟨T', h', X', e', W, st⟩ := stI X hx hZ eT Ar (inb_of S hj) hg hs hd
  refine ⟨T', h', X', e', W, ?_, st⟩
  rw [List.map_set]
  exact Arv.set Ar q S N H I rfl W n hn (by rw [List.length_map]; exact hl)
theorem own_lst (X : Stand p l e R s m args below meth c T locs cells slots) (hx : p.tables.exec = Jvm.exec) (hZ : Z.Warmed39 s.vm) (eT : T.heap = h) {k : ClassId} {z j : Int32} {y : Int64} {xs : List Int64} (F : Arv Z h a k .long z (xs.map Value.long) (Value.long 0)) (hj : ¬ j < 0 ∧ j < z) (n : Nat) (hn : j.toNatClampNeg = n) (hl : n < xs.length)
    {g : JFrame} (hg : g.method = m) {rest : List Value} (hs : g.stack = .long y :: .int j :: .ref a :: rest) (hd : decode c.code g.pc = .ok (.lastore, 1)) :
    ∃ T' h', Stand p l e R s m args below meth c T' (locs ++ [⟨a, j.toNatClampNeg⟩]) cells slots ∧ T'.heap = h' ∧ Wr h h' a j.toNatClampNeg (.long y) ∧ Arv Z h' a k .long z ((xs.set n y).map Value.long) (Value.long 0) ∧ ∀ t, Steps p.tables e below (T'.setTop { g with pc := g.pc + 1, stack := rest }) t → Steps p.tables e below (T.setTop g) t := by
  obtain ⟨cl, Ar, q, S, N, H, I⟩ := F
  obtain ⟨T', h', X', e', W, st⟩ := stJ X hx hZ eT Ar (inb_of S hj) hg hs hd
  refine ⟨T', h', X', e', W, ?_, st⟩
  rw [List.map_set]
  exact Arv.set Ar q S N H I rfl W n hn (by rw [List.length_map]; exact hl)
end Own
def own_val (j : Int32) : Value := .int (j - (128 : Int32))
theorem own_sub {args : Array Value} {first s : State} {o : Option Outcome} {idx : List Nat} {a b : Term} {x y : Int32} (ha : a.eval args first o idx s = some (.int x)) (hb : b.eval args first o idx s = some (.int y)) : (Term.sub a b).eval args first o idx s = some (.int (x - y)) := by simp [Term.eval, ha, hb]
theorem own_length {args : Array Value} {s : State} {t : Term} {x : Addr} {c : Cell} {ty : FieldType} {k : Int32} (ev : t.eval args s none [] s = some (.ref x)) (A : Arr s s.heap x c ty) (h : (Jvm.Cond.eq (Term.length t) (Term.int k)).value args s none s [] = some true) : c.slots.size < 2 ^ 31 ∧ c.slots.size.toInt32 = k := by
  have e1 := eqv_i (Term.int_eval _) h
  have hA := A.fin (Vm.Alike.refl _)
  by_cases hl : c.slots.size < 2 ^ 31
  · refine ⟨hl, ?_⟩
    have e4 := len_f (first := s) (o := none) (idx := []) ev hA hl
    exact Value.int.inj (Option.some.inj (e4.symm.trans e1))
  · simp [Term.eval, ev, hA, hl] at e1
theorem own_ci {q : Int32} (h1 : ¬ q < (-128 : Int32)) (h2 : ¬ (127 : Int32) < q) : ¬ (q + (128 : Int32)) < 0 ∧ (q + (128 : Int32)) < (256 : Int32) := by
  rw [Int32.lt_iff_toInt_lt] at *
  rw [Int32.lt_iff_toInt_lt]
  have e := c_iadd q 128
  have r := rng32 (q + (128 : Int32))
  have z1 : (-128 : Int32).toInt = -128 := rfl
  have z2 : (127 : Int32).toInt = 127 := rfl
  have z3 : (128 : Int32).toInt = 128 := rfl
  have z4 : (256 : Int32).toInt = 256 := rfl
  have z0 : (0 : Int32).toInt = 0 := rfl
  omega
theorem own_noinst {Z : State} {a0 : Array Value} {X Y : String} {n : Nat} {t : List String} (hw : ∀ w ∈ Jvm.Cond.chainWords (X :: t), w.before a0 Z = true) (wk : (Jvm.Cond.instantiable Y n).before a0 Z = true) (hn : Y ∉ X :: t) : ∃ c t, Z.vm.findClass X = some c ∧ Z.vm.findClass Y = some t ∧ Z.vm.assignable c t = false := by
  obtain ⟨cx, k, hx, -⟩ := Cond.chain_head hw
  obtain ⟨cy, ky, hy, hky, hord, hab, -⟩ := Cond.instantiable_spec wk
  exact ⟨cx, cy, hx, hy, Vm.notAssignable_of_chain hx hy hky hord (Bool.or_eq_false_iff.mp hab).1 hw hn⟩
theorem own_c3 {Z : State} {a0 : Array Value} {a b c : Jvm.Cond} (h1 : a.before a0 Z = true) (h2 : b.before a0 Z = true) (h3 : c.before a0 Z = true) : ∀ w ∈ [a, b, c], w.before a0 Z = true := by
  intro w h
  simp only [List.mem_cons, List.not_mem_nil, or_false] at h
  rcases h with rfl | rfl | rfl <;> assumption
theorem own_f1 {p0 vc v9 va : Int32} (h9 : (if vc = p0 then (1 : Int32) else (0 : Int32)) = v9) (ha : (if v9 = (if p0 = vc then (1 : Int32) else (0 : Int32)) then (1 : Int32) else (0 : Int32)) = va) : ¬ va = (0 : Int32) := by
  rw [← ha, if_pos (by rw [← h9]; simp only [@eq_comm _ vc p0])]
  decide
theorem own_f2 {p0 vc v9 vb : Int32} (h9 : (if vc = p0 then (1 : Int32) else (0 : Int32)) = v9) (hb : (if (if p0 = vc then (1 : Int32) else (0 : Int32)) = v9 then (1 : Int32) else (0 : Int32)) = vb) : ¬ vb = (0 : Int32) := by
  rw [← hb, if_pos (by rw [← h9]; simp only [@eq_comm _ vc p0])]
  decide
theorem own_f3 {p0 vd : Int32} (h : (if (if p0 = p0 then (1 : Int32) else (0 : Int32)) = (0 : Int32) then (0 : Int32) else (1 : Int32)) = vd) : ¬ vd = (0 : Int32) := by
  rw [← h, if_pos (rfl : p0 = p0)]
  decide
theorem own_pn0 : plainName "java/lang/Number" = true := by first | (simp [plainName, overriddenIn]; done) | decide +kernel
theorem own_djdk_18_method_1_code_0 : decode jdk_18_method_1_code 0 = .ok (.aload_n 0, 1) := by decide +kernel
theorem own_djdk_18_method_1_code_1 : decode jdk_18_method_1_code 1 = .ok (.invokespecial 1, 3) := by decide +kernel
theorem own_djdk_18_method_1_code_4 : decode jdk_18_method_1_code 4 = .ok (.return_, 1) := by decide +kernel
theorem own_n1_ef (m : MethodId) (a1 : Addr) : entryFrame m #[(.ref a1)] 1 = mkF m 0 #[.val (.ref a1)] [] := by first | (simp [entryFrame, mkF, argsToLocals, Value.category]; done) | rfl
def own_n1_Q (Z : State) (a1 : Addr) (h0 : Heap) (n0 : Nat) (v : Option Value) (h : Heap) (L : List Loc) : Prop := v = none ∧ Fr n0 L ∧ h = h0
set_option maxRecDepth 65536 in
set_option maxHeartbeats 40000000 in
theorem own_n1 (l : Launch) (Z : State) (a0 : Array Value) (hw : ∀ d ∈ tables_1, d.before a0 Z = true) (ws : List Jvm.Cond) (a1 : Addr) (h0 : Heap) (n0 : Nat) (Z0 : n0 ≤ h0.size) :
    MetFree l (⟨"java/lang/Number", "<init>", "()V"⟩ : MethodName) (head1 (Jvm.Cond.code (⟨"java/lang/Number", "<init>", "()V"⟩ : MethodName) jdk_18_method_1_code 1 none :: ws) ({ frames := 1, cells := 0, slots := 0, locals := 12 } : Room)) (fun aa U => aa = #[(.ref a1)] ∧ Z.Warmed39 U.vm ∧ U.heap = h0) (fun _ _ _ _ _ => True) (fun _ U o U' => ∃ v L, o = .returned v ∧ own_n1_Q Z a1 h0 n0 v U'.heap L ∧ FrameEnd U o U' L ({ frames := 1, cells := 0, slots := 0, locals := 12 } : Room).cells ({ frames := 1, cells := 0, slots := 0, locals := 12 } : Room).slots) := by
  refine MetFree.of_bodySF (plainFor_of_name own_pn0) hisR ?_
  have w12 := hw _ (List.mem_of_getElem? (i := 12) rfl)
  have w13 := hw _ (List.mem_of_getElem? (i := 13) rfl)
  have w68 := hw _ (List.mem_of_getElem? (i := 68) rfl)
  intro p e s m args below meth c s₁ Bd hml0 hP hK
  obtain ⟨rfl, hZ, hh⟩ := hP
  have hx := Bd.exec
  have hby := Bd.bytes
  have hlk := Bd.notSynchronized
  have hml : c.maxLocals = 1 := hml0
  have hown : s.vm.findClass "java/lang/Number" = some m.cls := findClass_of_methodNamed Bd.named
  have hnm := (name_of_methodNamed Bd.named Bd.method).1
  have X0 : Stand p l e ({ frames := 1, cells := 0, slots := 0, locals := 12 } : Room) s m #[(.ref a1)] below meth c s₁ [] 0 0 := Stand.of_body Bd
  have e0 : s₁.heap = h0 := by rw [← hh, Bd.state]; rfl
  have N0 := Fr.nil n0
  have K0 : Keep h0 h0 [] := Keep.refl h0 _
  show own_Goes p e below (own_Fin s (own_n1_Q Z a1 h0 n0) ({ frames := 1, cells := 0, slots := 0, locals := 12 } : Room).cells ({ frames := 1, cells := 0, slots := 0, locals := 12 } : Room).slots) _
  refine own_step (fun t k => castTop (own_n1_ef m a1) k) ?_
  show own_Goes p e below _ (s₁.setTop (mkF m 0 #[.val (.ref a1)] []))
  refine own_step (fun t k => XS.aloadN X0.here hx rfl (hb hby own_djdk_18_method_1_code_0) rfl rfl k) ?_
  show own_Goes p e below _ (s₁.setTop (mkF m 1 #[.val (.ref a1)] [(.ref a1)]))
  obtain ⟨T2, X2, e2, st2⟩ := initO X0 hx hZ hown w68 w12 w13 e0 (g := (mkF m 1 #[.val (.ref a1)] [(.ref a1)])) rfl (by rw [hml]; rfl) rfl (hb hby own_djdk_18_method_1_code_1) (by decide) (W := 0) (by show 2 * 0 + _ ≤ _; exact Nat.le_of_eq rfl) (by decide)
  refine own_step st2 ?_
  show own_Goes p e below _ (T2.setTop (mkF m 4 #[.val (.ref a1)] []))
  refine own_ret0 X2 hx hlk Bd.returns (hb hby own_djdk_18_method_1_code_4) ?_ (by decide) (by decide)
  show own_n1_Q Z a1 h0 n0 _ T2.heap _
  rw [e2]
  exact ⟨rfl, N0, rfl⟩
theorem own_pn1 : plainName "java/lang/Integer" = true := by first | (simp [plainName, overriddenIn]; done) | decide +kernel
theorem own_djdk_33_method_23_code_0 : decode jdk_33_method_23_code 0 = .ok (.aload_n 0, 1) := by decide +kernel
theorem own_pd0 : parseMethodDescriptor "()V" = some ⟨[], none⟩ := by decide +kernel
theorem own_djdk_33_method_23_code_1 : decode jdk_33_method_23_code 1 = .ok (.invokespecial 202, 3) := by decide +kernel
theorem own_djdk_33_method_23_code_4 : decode jdk_33_method_23_code 4 = .ok (.aload_n 0, 1) := by decide +kernel
theorem own_djdk_33_method_23_code_5 : decode jdk_33_method_23_code 5 = .ok (.iload_n 1, 1) := by decide +kernel
theorem own_djdk_33_method_23_code_6 : decode jdk_33_method_23_code 6 = .ok (.putfield 205, 3) := by decide +kernel
theorem own_djdk_33_method_23_code_9 : decode jdk_33_method_23_code 9 = .ok (.return_, 1) := by decide +kernel
theorem own_n2_ef (m : MethodId) (a1 : Addr) (q1 : Int32) : entryFrame m #[(.ref a1), (.int q1)] 2 = mkF m 0 #[.val (.ref a1), .val (.int q1)] [] := by first | (simp [entryFrame, mkF, argsToLocals, Value.category]; done) | rfl
def own_n2_Q (Z : State) (a1 : Addr) (q1 : Int32) (u : Value) (h0 : Heap) (n0 : Nat) (v : Option Value) (h : Heap) (L : List Loc) : Prop := v = none ∧ Fr n0 L ∧ Keep h0 h [a1] ∧ Exa Z h a1 "java/lang/Integer"
set_option maxRecDepth 65536 in
set_option maxHeartbeats 40000000 in
theorem own_n2 (l : Launch) (Z : State) (a0 : Array Value) (hw : ∀ d ∈ tables_1, d.before a0 Z = true) (ws : List Jvm.Cond) (a1 : Addr) (q1 : Int32) (u : Value) (h0 : Heap) (n0 : Nat) (Z0 : n0 ≤ h0.size) (E_a1 : Exa Z h0 a1 "java/lang/Integer") (g_a1 : n0 ≤ a1) (F_value_a1 : Fld Z h0 a1 "java/lang/Integer" "value" "I" u) :
    MetFree l (⟨"java/lang/Integer", "<init>", "(I)V"⟩ : MethodName) (head1 (Jvm.Cond.code (⟨"java/lang/Integer", "<init>", "(I)V"⟩ : MethodName) jdk_33_method_23_code 2 none :: ws) ({ frames := 2, cells := 0, slots := 0, locals := 24 } : Room)) (fun aa U => aa = #[(.ref a1), (.int q1)] ∧ Z.Warmed39 U.vm ∧ U.heap = h0) (fun _ _ _ _ _ => True) (fun _ U o U' => ∃ v L, o = .returned v ∧ own_n2_Q Z a1 q1 u h0 n0 v U'.heap L ∧ FrameEnd U o U' L ({ frames := 2, cells := 0, slots := 0, locals := 24 } : Room).cells ({ frames := 2, cells := 0, slots := 0, locals := 24 } : Room).slots) := by
  refine MetFree.of_bodySF (plainFor_of_name own_pn1) hisR ?_
  have w57 := hw _ (List.mem_of_getElem? (i := 57) rfl)
  have w62 := hw _ (List.mem_of_getElem? (i := 62) rfl)
  have w63 := hw _ (List.mem_of_getElem? (i := 63) rfl)
  have w66 := hw _ (List.mem_of_getElem? (i := 66) rfl)
  have w67 := hw _ (List.mem_of_getElem? (i := 67) rfl)
  have w69 := hw _ (List.mem_of_getElem? (i := 69) rfl)
  have w70 := hw _ (List.mem_of_getElem? (i := 70) rfl)
  intro p e s m args below meth c s₁ Bd hml0 hP hK
  obtain ⟨rfl, hZ, hh⟩ := hP
  have hx := Bd.exec
  have hby := Bd.bytes
  have hlk := Bd.notSynchronized
  have hml : c.maxLocals = 2 := hml0
  have hown : s.vm.findClass "java/lang/Integer" = some m.cls := findClass_of_methodNamed Bd.named
  have hnm := (name_of_methodNamed Bd.named Bd.method).1
  have X0 : Stand p l e ({ frames := 2, cells := 0, slots := 0, locals := 24 } : Room) s m #[(.ref a1), (.int q1)] below meth c s₁ [] 0 0 := Stand.of_body Bd
  have e0 : s₁.heap = h0 := by rw [← hh, Bd.state]; rfl
  have N0 := Fr.nil n0
  have K0 : Keep h0 h0 [a1] := Keep.refl h0 _
  show own_Goes p e below (own_Fin s (own_n2_Q Z a1 q1 u h0 n0) ({ frames := 2, cells := 0, slots := 0, locals := 24 } : Room).cells ({ frames := 2, cells := 0, slots := 0, locals := 24 } : Room).slots) _
  refine own_step (fun t k => castTop (own_n2_ef m a1 q1) k) ?_
  show own_Goes p e below _ (s₁.setTop (mkF m 0 #[.val (.ref a1), .val (.int q1)] []))
  refine own_step (fun t k => XS.aloadN X0.here hx rfl (hb hby own_djdk_33_method_23_code_0) rfl rfl k) ?_
  show own_Goes p e below _ (s₁.setTop (mkF m 1 #[.val (.ref a1), .val (.int q1)] [(.ref a1)]))
  obtain ⟨_, _, ⟨T6, L6, k6, n6⟩, -, X6, ⟨Lc6, hQ6, l6, y6, z6⟩, st6⟩ := X0.specialBack hx (y := (⟨"java/lang/Number", "<init>", "()V"⟩ : MethodName)) rfl hown (mvT hZ w62) (mvT hZ w63) (mvT hZ w67) (by decide) (backOf (W := 0) (own_n1 l Z a0 hw [] a1  h0 n0 Z0 ) hZ w67 w66 (by decide) (by decide)) (g := (mkF m 1 #[.val (.ref a1), .val (.int q1)] [(.ref a1)])) rfl (by rw [hml]; rfl) (Steps.refl _) (a := a1) (argsL := []) (rest := []) (lenOf own_pd0 rfl) rfl (by show 2 * 0 + _ ≤ _; exact Nat.le_of_eq rfl) (hb hby own_djdk_33_method_23_code_1) (fun _ _ => ⟨rfl, e0, (by decide : 0 + 0 ≤ _), (by decide : 0 + 0 ≤ _)⟩)
  dsimp only [Pt.U, Pt.locs, Pt.cells, Pt.slots] at X6 l6 y6 z6 st6 hQ6
  subst l6 y6 z6
  obtain ⟨rfl, N6q, eh6⟩ := hQ6
  have N6 := Fr.app N0 N6q
  refine own_jump st6 ?_
  show own_Goes p e below _ (T6.setTop (mkF m 4 #[.val (.ref a1), .val (.int q1)] []))
  refine own_step (fun t k => XS.aloadN X6.here hx rfl (hb hby own_djdk_33_method_23_code_4) rfl rfl k) ?_
  show own_Goes p e below _ (T6.setTop (mkF m 5 #[.val (.ref a1), .val (.int q1)] [(.ref a1)]))
  refine own_step (fun t k => XS.iloadN X6.here hx rfl (hb hby own_djdk_33_method_23_code_5) rfl k) ?_
  show own_Goes p e below _ (T6.setTop (mkF m 6 #[.val (.ref a1), .val (.int q1)] [(.int q1), (.ref a1)]))
  obtain ⟨T7, h7, X7, e7, W7, st7⟩ := putF X6 hx hZ hown (host := "") (Or.inl w69) Via.refl eh6 F_value_a1 E_a1 (Or.inr ⟨w70, rfl, hnm⟩) w57 (ty := .int) (by decide) rfl rfl (g := (mkF m 6 #[.val (.ref a1), .val (.int q1)] [(.int q1), (.ref a1)])) rfl rfl (hb hby own_djdk_33_method_23_code_6)
  have Fw7 := F_value_a1.same W7
  have N7 := Fr.snoc X7 N6 g_a1
  have K8 : Keep h0 h7 [a1] := K0.wr W7 (Or.inl (List.mem_of_getElem? (i := 0) rfl))
  refine own_step st7 ?_
  show own_Goes p e below _ (T7.setTop (mkF m 9 #[.val (.ref a1), .val (.int q1)] []))
  refine own_ret0 X7 hx hlk Bd.returns (hb hby own_djdk_33_method_23_code_9) ?_ (by decide) (by decide)
  show own_n2_Q Z a1 q1 u h0 n0 _ T7.heap _
  rw [e7]
  exact ⟨rfl, N7, K8, (E_a1.wr W7)⟩
theorem own_djdk_33_method_22_code_0 : decode jdk_33_method_22_code 0 = .ok (.iload_n 0, 1) := by decide +kernel
theorem own_djdk_33_method_22_code_1 : decode jdk_33_method_22_code 1 = .ok (.bipush (-128), 2) := by decide +kernel
theorem own_djdk_33_method_22_code_3 : decode jdk_33_method_22_code 3 = .ok (.if_icmp .lt 20, 3) := by decide +kernel
theorem own_djdk_33_method_22_code_23 : decode jdk_33_method_22_code 23 = .ok (.new 1, 3) := by decide +kernel
theorem own_djdk_33_method_22_code_26 : decode jdk_33_method_22_code 26 = .ok (.dup, 1) := by decide +kernel
theorem own_djdk_33_method_22_code_27 : decode jdk_33_method_22_code 27 = .ok (.iload_n 0, 1) := by decide +kernel
theorem own_pd1 : parseMethodDescriptor "(I)V" = some ⟨[.int], none⟩ := by decide +kernel
theorem own_djdk_33_method_22_code_28 : decode jdk_33_method_22_code 28 = .ok (.invokespecial 199, 3) := by decide +kernel
theorem own_djdk_33_method_22_code_31 : decode jdk_33_method_22_code 31 = .ok (.areturn, 1) := by decide +kernel
theorem own_djdk_33_method_22_code_6 : decode jdk_33_method_22_code 6 = .ok (.iload_n 0, 1) := by decide +kernel
theorem own_djdk_33_method_22_code_7 : decode jdk_33_method_22_code 7 = .ok (.getstatic 191, 3) := by decide +kernel
theorem own_djdk_33_method_22_code_10 : decode jdk_33_method_22_code 10 = .ok (.if_icmp .gt 13, 3) := by decide +kernel
theorem own_djdk_33_method_22_code_13 : decode jdk_33_method_22_code 13 = .ok (.getstatic 195, 3) := by decide +kernel
theorem own_djdk_33_method_22_code_16 : decode jdk_33_method_22_code 16 = .ok (.iload_n 0, 1) := by decide +kernel
theorem own_djdk_33_method_22_code_17 : decode jdk_33_method_22_code 17 = .ok (.sipush 128, 3) := by decide +kernel
theorem own_djdk_33_method_22_code_20 : decode jdk_33_method_22_code 20 = .ok (.iadd, 1) := by decide +kernel
theorem own_djdk_33_method_22_code_21 : decode jdk_33_method_22_code 21 = .ok (.aaload, 1) := by decide +kernel
theorem own_djdk_33_method_22_code_22 : decode jdk_33_method_22_code 22 = .ok (.areturn, 1) := by decide +kernel
theorem own_n3_ef (m : MethodId) (q1 : Int32) : entryFrame m #[(.int q1)] 1 = mkF m 0 #[.val (.int q1)] [] := by first | (simp [entryFrame, mkF, argsToLocals, Value.category]; done) | rfl
def own_n3_Q (Z : State) (q1 : Int32) (wc : Addr) (cC : Cell) (h0 : Heap) (n0 : Nat) (v : Option Value) (h : Heap) (L : List Loc) : Prop := ∃ xx : Addr, v = some (.ref xx) ∧ Fr n0 L ∧ Keep h0 h [] ∧ Exa Z h xx "java/lang/Integer"
set_option maxRecDepth 65536 in
set_option maxHeartbeats 40000000 in
theorem own_n3 (l : Launch) (Z : State) (a0 : Array Value) (hw : ∀ d ∈ tables_1, d.before a0 Z = true) (ws : List Jvm.Cond) (q1 : Int32) (wc : Addr) (cC : Cell) (h0 : Heap) (n0 : Nat) (Z0 : n0 ≤ h0.size) (S_high : Sta Z Z.heap "java/lang/Integer$IntegerCache" "high" "I" (.int (127 : Int32))) (S_cache : Sta Z Z.heap "java/lang/Integer$IntegerCache" "cache" "[Ljava/lang/Integer;" (.ref wc)) (O0 : Old Z n0 h0) (hbx : Bxs Z wc cC "java/lang/Integer" "I" (256 : Int32) own_val) :
    MetFree l (⟨"java/lang/Integer", "valueOf", "(I)Ljava/lang/Integer;"⟩ : MethodName) (head1 (Jvm.Cond.code (⟨"java/lang/Integer", "valueOf", "(I)Ljava/lang/Integer;"⟩ : MethodName) jdk_33_method_22_code 1 (some (.object "java/lang/Integer")) :: ws) ({ frames := 3, cells := 1, slots := 1, locals := 38 } : Room)) (fun aa U => aa = #[(.int q1)] ∧ Z.Warmed39 U.vm ∧ U.heap = h0) (fun _ _ _ _ _ => True) (fun _ U o U' => ∃ v L, o = .returned v ∧ own_n3_Q Z q1 wc cC h0 n0 v U'.heap L ∧ FrameEnd U o U' L ({ frames := 3, cells := 1, slots := 1, locals := 38 } : Room).cells ({ frames := 3, cells := 1, slots := 1, locals := 38 } : Room).slots) := by
  refine MetFree.of_bodySF (plainFor_of_name own_pn1) hisR ?_
  have w21 := hw _ (List.mem_of_getElem? (i := 21) rfl)
  have w23 := hw _ (List.mem_of_getElem? (i := 23) rfl)
  have w25 := hw _ (List.mem_of_getElem? (i := 25) rfl)
  have w56 := hw _ (List.mem_of_getElem? (i := 56) rfl)
  have w57 := hw _ (List.mem_of_getElem? (i := 57) rfl)
  have w58 := hw _ (List.mem_of_getElem? (i := 58) rfl)
  have w59 := hw _ (List.mem_of_getElem? (i := 59) rfl)
  have w61 := hw _ (List.mem_of_getElem? (i := 61) rfl)
  have w70 := hw _ (List.mem_of_getElem? (i := 70) rfl)
  intro p e s m args below meth c s₁ Bd hml0 hP hK
  obtain ⟨rfl, hZ, hh⟩ := hP
  have hx := Bd.exec
  have hby := Bd.bytes
  have hlk := Bd.notSynchronized
  have hml : c.maxLocals = 1 := hml0
  have hown : s.vm.findClass "java/lang/Integer" = some m.cls := findClass_of_methodNamed Bd.named
  have hnm := (name_of_methodNamed Bd.named Bd.method).1
  have X0 : Stand p l e ({ frames := 3, cells := 1, slots := 1, locals := 38 } : Room) s m #[(.int q1)] below meth c s₁ [] 0 0 := Stand.of_body Bd
  have e0 : s₁.heap = h0 := by rw [← hh, Bd.state]; rfl
  have N0 := Fr.nil n0
  have K0 : Keep h0 h0 [] := Keep.refl h0 _
  show own_Goes p e below (own_Fin s (own_n3_Q Z q1 wc cC h0 n0) ({ frames := 3, cells := 1, slots := 1, locals := 38 } : Room).cells ({ frames := 3, cells := 1, slots := 1, locals := 38 } : Room).slots) _
  refine own_step (fun t k => castTop (own_n3_ef m q1) k) ?_
  show own_Goes p e below _ (s₁.setTop (mkF m 0 #[.val (.int q1)] []))
  refine own_step (fun t k => XS.iloadN X0.here hx rfl (hb hby own_djdk_33_method_22_code_0) rfl k) ?_
  show own_Goes p e below _ (s₁.setTop (mkF m 1 #[.val (.int q1)] [(.int q1)]))
  refine own_step (fun t k => XS.bipush X0.here hx rfl (hb hby own_djdk_33_method_22_code_1) k) ?_
  show own_Goes p e below _ (s₁.setTop (mkF m 3 #[.val (.int q1)] [(.int (-128 : Int32)), (.int q1)]))
  by_cases hc21 : q1 < (-128 : Int32)
  · --
    refine own_step (fun t k => XS.icmpYes X0.here hx rfl (pc0 := 3) (pc' := 23) rfl (hb hby own_djdk_33_method_22_code_3) rfl (tlt hc21).1 (by decide) (by decide) k) ?_
    show own_Goes p e below _ (s₁.setTop (mkF m 23 #[.val (.int q1)] []))
    obtain ⟨T22, h22, X22, e22, E22, A22, D22, -, st22⟩ := newO X0 hx hZ hown w56 w57 w21 e0 (g := (mkF m 23 #[.val (.int q1)] [])) rfl (hb hby own_djdk_33_method_22_code_23) (by decide) (by decide)
    obtain ⟨b22, g22⟩ : ∃ z, z = h0.size := ⟨_, rfl⟩
    rw [← g22] at A22 D22 st22
    have g_b22 : n0 ≤ b22 := Nat.le_trans Z0 (Nat.le_of_eq g22.symm)
    have sz_b22 : h0.size ≤ b22 := Nat.le_trans K0.1 (Nat.le_of_eq g22.symm)
    have K23 : Keep h0 h22 [] := K0.ext E22
    have F_value_b22 : Fld Z h22 b22 "java/lang/Integer" "value" "I" (.int (0 : Int32)) := D22 (Or.inr w70) (ty := .int) (by decide)
    refine own_step st22 ?_
    show own_Goes p e below _ (T22.setTop (mkF m 26 #[.val (.int q1)] [(.ref b22)]))
    refine own_step (fun t k => XS.dup X22.here hx rfl (hb hby own_djdk_33_method_22_code_26) rfl rfl k) ?_
    show own_Goes p e below _ (T22.setTop (mkF m 27 #[.val (.int q1)] [(.ref b22), (.ref b22)]))
    refine own_step (fun t k => XS.iloadN X22.here hx rfl (hb hby own_djdk_33_method_22_code_27) rfl k) ?_
    show own_Goes p e below _ (T22.setTop (mkF m 28 #[.val (.int q1)] [(.int q1), (.ref b22), (.ref b22)]))
    obtain ⟨_, _, ⟨T24, L24, k24, n24⟩, -, X24, ⟨Lc24, hQ24, l24, y24, z24⟩, st24⟩ := X22.specialBack hx (y := (⟨"java/lang/Integer", "<init>", "(I)V"⟩ : MethodName)) rfl hown (mvT hZ w58) (mvT hZ w59) (mvT hZ w61) (by decide) (backOf (W := 1) (own_n2 l Z a0 hw [] b22 q1 ((.int (0 : Int32))) h22 n0 (Nat.le_trans Z0 E22.1) A22 g_b22 F_value_b22) hZ w61 w21 (by decide) (by decide)) (g := (mkF m 28 #[.val (.int q1)] [(.int q1), (.ref b22), (.ref b22)])) rfl (by rw [hml]; rfl) (Steps.refl _) (a := b22) (argsL := [(.int q1)]) (rest := [(.ref b22)]) (lenOf own_pd1 rfl) rfl (by show 2 * 0 + _ ≤ _; exact Nat.le_of_eq rfl) (hb hby own_djdk_33_method_22_code_28) (fun _ _ => ⟨rfl, e22, (by decide : 1 + 0 ≤ _), (by decide : 1 + 0 ≤ _)⟩)
    dsimp only [Pt.U, Pt.locs, Pt.cells, Pt.slots] at X24 l24 y24 z24 st24 hQ24
    subst l24 y24 z24
    obtain ⟨rfl, N24q, K24c, f24_0⟩ := hQ24
    have N24 := Fr.app N0 N24q
    refine own_jump st24 ?_
    have K25 : Keep h0 T24.heap [] := K23.trans K24c (allS (Or.inr sz_b22) all0)
    show own_Goes p e below _ (T24.setTop (mkF m 31 #[.val (.int q1)] [(.ref b22)]))
    refine own_retV X24 hx hlk Bd.returns (w := (.ref b22)) rfl (Or.inr (Or.inr (Or.inr (Or.inr ⟨rfl, rfl, rfl⟩)))) (hb hby own_djdk_33_method_22_code_31) ?_ (by decide) (by decide)
    show own_n3_Q Z q1 wc cC h0 n0 _ T24.heap _
    exact ⟨b22, rfl, N24, K25, f24_0⟩
  · --
    refine own_step (fun t k => XS.icmpNo X0.here hx rfl (hb hby own_djdk_33_method_22_code_3) rfl (flt hc21).1 k) ?_
    show own_Goes p e below _ (s₁.setTop (mkF m 6 #[.val (.int q1)] []))
    refine own_step (fun t k => XS.iloadN X0.here hx rfl (hb hby own_djdk_33_method_22_code_6) rfl k) ?_
    show own_Goes p e below _ (s₁.setTop (mkF m 7 #[.val (.int q1)] [(.int q1)]))
    obtain ⟨T26, X26, e26, st26⟩ := getS2 X0 hx hZ hown (host := "") (Or.inl w23) Via.refl e0 (S_high.ext O0.2) (g := (mkF m 7 #[.val (.int q1)] [(.int q1)])) rfl (hb hby own_djdk_33_method_22_code_7)
    refine own_step st26 ?_
    show own_Goes p e below _ (T26.setTop (mkF m 10 #[.val (.int q1)] [(.int (127 : Int32)), (.int q1)]))
    by_cases hc27 : (127 : Int32) < q1
    · --
      refine own_step (fun t k => XS.icmpYes X26.here hx rfl (pc0 := 10) (pc' := 23) rfl (hb hby own_djdk_33_method_22_code_10) rfl (tlt hc27).2.2.1 (by decide) (by decide) k) ?_
      show own_Goes p e below _ (T26.setTop (mkF m 23 #[.val (.int q1)] []))
      obtain ⟨T28, h28, X28, e28, E28, A28, D28, -, st28⟩ := newO X26 hx hZ hown w56 w57 w21 e26 (g := (mkF m 23 #[.val (.int q1)] [])) rfl (hb hby own_djdk_33_method_22_code_23) (by decide) (by decide)
      obtain ⟨b28, g28⟩ : ∃ z, z = h0.size := ⟨_, rfl⟩
      rw [← g28] at A28 D28 st28
      have g_b28 : n0 ≤ b28 := Nat.le_trans Z0 (Nat.le_of_eq g28.symm)
      have sz_b28 : h0.size ≤ b28 := Nat.le_trans K0.1 (Nat.le_of_eq g28.symm)
      have K29 : Keep h0 h28 [] := K0.ext E28
      have F_value_b28 : Fld Z h28 b28 "java/lang/Integer" "value" "I" (.int (0 : Int32)) := D28 (Or.inr w70) (ty := .int) (by decide)
      refine own_step st28 ?_
      show own_Goes p e below _ (T28.setTop (mkF m 26 #[.val (.int q1)] [(.ref b28)]))
      refine own_step (fun t k => XS.dup X28.here hx rfl (hb hby own_djdk_33_method_22_code_26) rfl rfl k) ?_
      show own_Goes p e below _ (T28.setTop (mkF m 27 #[.val (.int q1)] [(.ref b28), (.ref b28)]))
      refine own_step (fun t k => XS.iloadN X28.here hx rfl (hb hby own_djdk_33_method_22_code_27) rfl k) ?_
      show own_Goes p e below _ (T28.setTop (mkF m 28 #[.val (.int q1)] [(.int q1), (.ref b28), (.ref b28)]))
      obtain ⟨_, _, ⟨T30, L30, k30, n30⟩, -, X30, ⟨Lc30, hQ30, l30, y30, z30⟩, st30⟩ := X28.specialBack hx (y := (⟨"java/lang/Integer", "<init>", "(I)V"⟩ : MethodName)) rfl hown (mvT hZ w58) (mvT hZ w59) (mvT hZ w61) (by decide) (backOf (W := 1) (own_n2 l Z a0 hw [] b28 q1 ((.int (0 : Int32))) h28 n0 (Nat.le_trans Z0 E28.1) A28 g_b28 F_value_b28) hZ w61 w21 (by decide) (by decide)) (g := (mkF m 28 #[.val (.int q1)] [(.int q1), (.ref b28), (.ref b28)])) rfl (by rw [hml]; rfl) (Steps.refl _) (a := b28) (argsL := [(.int q1)]) (rest := [(.ref b28)]) (lenOf own_pd1 rfl) rfl (by show 2 * 0 + _ ≤ _; exact Nat.le_of_eq rfl) (hb hby own_djdk_33_method_22_code_28) (fun _ _ => ⟨rfl, e28, (by decide : 1 + 0 ≤ _), (by decide : 1 + 0 ≤ _)⟩)
      dsimp only [Pt.U, Pt.locs, Pt.cells, Pt.slots] at X30 l30 y30 z30 st30 hQ30
      subst l30 y30 z30
      obtain ⟨rfl, N30q, K30c, f30_0⟩ := hQ30
      have N30 := Fr.app N0 N30q
      refine own_jump st30 ?_
      have K31 : Keep h0 T30.heap [] := K29.trans K30c (allS (Or.inr sz_b28) all0)
      show own_Goes p e below _ (T30.setTop (mkF m 31 #[.val (.int q1)] [(.ref b28)]))
      refine own_retV X30 hx hlk Bd.returns (w := (.ref b28)) rfl (Or.inr (Or.inr (Or.inr (Or.inr ⟨rfl, rfl, rfl⟩)))) (hb hby own_djdk_33_method_22_code_31) ?_ (by decide) (by decide)
      show own_n3_Q Z q1 wc cC h0 n0 _ T30.heap _
      exact ⟨b28, rfl, N30, K31, f30_0⟩
    · --
      refine own_step (fun t k => XS.icmpNo X26.here hx rfl (hb hby own_djdk_33_method_22_code_10) rfl (flt hc27).2.2.1 k) ?_
      show own_Goes p e below _ (T26.setTop (mkF m 13 #[.val (.int q1)] []))
      obtain ⟨T32, X32, e32, st32⟩ := getS2 X26 hx hZ hown (host := "") (Or.inl w25) Via.refl e26 (S_cache.ext O0.2) (g := (mkF m 13 #[.val (.int q1)] [])) rfl (hb hby own_djdk_33_method_22_code_13)
      refine own_step st32 ?_
      show own_Goes p e below _ (T32.setTop (mkF m 16 #[.val (.int q1)] [(.ref wc)]))
      refine own_step (fun t k => XS.iloadN X32.here hx rfl (hb hby own_djdk_33_method_22_code_16) rfl k) ?_
      show own_Goes p e below _ (T32.setTop (mkF m 17 #[.val (.int q1)] [(.int q1), (.ref wc)]))
      refine own_step (fun t k => XS.sipush X32.here hx rfl (hb hby own_djdk_33_method_22_code_17) k) ?_
      show own_Goes p e below _ (T32.setTop (mkF m 20 #[.val (.int q1)] [(.int (128 : Int32)), (.int q1), (.ref wc)]))
      refine own_step (fun t k => XS.iadd X32.here hx rfl (hb hby own_djdk_33_method_22_code_20) rfl k) ?_
      show own_Goes p e below _ (T32.setTop (mkF m 21 #[.val (.int q1)] [(.int (q1 + (128 : Int32))), (.ref wc)]))
      obtain ⟨xc, hxs, hxe, -⟩ := hbx.2.2.2 (q1 + (128 : Int32)) (inb_of hbx.2.1 (own_ci (by assumption) (by assumption)))
      have ArC := (hbx.ext O0.2).1
      refine own_step (fun t k => X32.aaload hx (j := (q1 + (128 : Int32))) (v := .ref xc) (by rw [e32]; exact ArC.1) (State.isArrayOf_alike hZ.alike ArC.2.1) rfl ArC.2.2 (inb_of hbx.2.1 (own_ci (by assumption) (by assumption))) hxs (g := (mkF m 21 #[.val (.int q1)] [(.int (q1 + (128 : Int32))), (.ref wc)])) rfl rfl (hb hby own_djdk_33_method_22_code_21) _ k) ?_
      show own_Goes p e below _ (T32.setTop (mkF m 22 #[.val (.int q1)] [(.ref xc)]))
      refine own_retV X32 hx hlk Bd.returns (w := (.ref xc)) rfl (Or.inr (Or.inr (Or.inr (Or.inr ⟨rfl, rfl, rfl⟩)))) (hb hby own_djdk_33_method_22_code_22) ?_ (by decide) (by decide)
      show own_n3_Q Z q1 wc cC h0 n0 _ T32.heap _
      rw [e32]
      exact ⟨xc, rfl, N0, K0, (hxe.ext O0.2)⟩
theorem own_pn2 : plainName "com/example/noctule/noctule/core/Timing" = true := by first | (simp [plainName, overriddenIn]; done) | decide +kernel
theorem own_dprog_46_method_1_code_0 : decode prog_46_method_1_code 0 = .ok (.aload_n 0, 1) := by decide +kernel
theorem own_dprog_46_method_1_code_1 : decode prog_46_method_1_code 1 = .ok (.invokespecial 3, 3) := by decide +kernel
theorem own_dprog_46_method_1_code_4 : decode prog_46_method_1_code 4 = .ok (.return_, 1) := by decide +kernel
theorem own_b1_ef (m : MethodId) (a1 : Addr) : entryFrame m #[(.ref a1)] 1 = mkF m 0 #[.val (.ref a1)] [] := by first | (simp [entryFrame, mkF, argsToLocals, Value.category]; done) | rfl
def own_b1_Q (Z : State) (a1 : Addr) (h0 : Heap) (n0 : Nat) (v : Option Value) (h : Heap) (L : List Loc) : Prop := v = none ∧ Fr n0 L ∧ h = h0
set_option maxRecDepth 65536 in
set_option maxHeartbeats 40000000 in
theorem own_b1 (l : Launch) (Z : State) (a0 : Array Value) (hw : ∀ d ∈ tables_1, d.before a0 Z = true) (ws : List Jvm.Cond) (a1 : Addr) (h0 : Heap) (n0 : Nat) (Z0 : n0 ≤ h0.size) :
    MetFree l (⟨"com/example/noctule/noctule/core/Timing", "<init>", "()V"⟩ : MethodName) (head1 (Jvm.Cond.code (⟨"com/example/noctule/noctule/core/Timing", "<init>", "()V"⟩ : MethodName) prog_46_method_1_code 1 none :: ws) ({ frames := 1, cells := 0, slots := 0, locals := 12 } : Room)) (fun aa U => aa = #[(.ref a1)] ∧ Z.Warmed39 U.vm ∧ U.heap = h0) (fun _ _ _ _ _ => True) (fun _ U o U' => ∃ v L, o = .returned v ∧ own_b1_Q Z a1 h0 n0 v U'.heap L ∧ FrameEnd U o U' L ({ frames := 1, cells := 0, slots := 0, locals := 12 } : Room).cells ({ frames := 1, cells := 0, slots := 0, locals := 12 } : Room).slots) := by
  refine MetFree.of_bodySF (plainFor_of_name own_pn2) hisR ?_
  have w11 := hw _ (List.mem_of_getElem? (i := 11) rfl)
  have w12 := hw _ (List.mem_of_getElem? (i := 12) rfl)
  have w13 := hw _ (List.mem_of_getElem? (i := 13) rfl)
  intro p e s m args below meth c s₁ Bd hml0 hP hK
  obtain ⟨rfl, hZ, hh⟩ := hP
  have hx := Bd.exec
  have hby := Bd.bytes
  have hlk := Bd.notSynchronized
  have hml : c.maxLocals = 1 := hml0
  have hown : s.vm.findClass "com/example/noctule/noctule/core/Timing" = some m.cls := findClass_of_methodNamed Bd.named
  have hnm := (name_of_methodNamed Bd.named Bd.method).1
  have X0 : Stand p l e ({ frames := 1, cells := 0, slots := 0, locals := 12 } : Room) s m #[(.ref a1)] below meth c s₁ [] 0 0 := Stand.of_body Bd
  have e0 : s₁.heap = h0 := by rw [← hh, Bd.state]; rfl
  have N0 := Fr.nil n0
  have K0 : Keep h0 h0 [] := Keep.refl h0 _
  show own_Goes p e below (own_Fin s (own_b1_Q Z a1 h0 n0) ({ frames := 1, cells := 0, slots := 0, locals := 12 } : Room).cells ({ frames := 1, cells := 0, slots := 0, locals := 12 } : Room).slots) _
  refine own_step (fun t k => castTop (own_b1_ef m a1) k) ?_
  show own_Goes p e below _ (s₁.setTop (mkF m 0 #[.val (.ref a1)] []))
  refine own_step (fun t k => XS.aloadN X0.here hx rfl (hb hby own_dprog_46_method_1_code_0) rfl rfl k) ?_
  show own_Goes p e below _ (s₁.setTop (mkF m 1 #[.val (.ref a1)] [(.ref a1)]))
  obtain ⟨T34, X34, e34, st34⟩ := initO X0 hx hZ hown w11 w12 w13 e0 (g := (mkF m 1 #[.val (.ref a1)] [(.ref a1)])) rfl (by rw [hml]; rfl) rfl (hb hby own_dprog_46_method_1_code_1) (by decide) (W := 0) (by show 2 * 0 + _ ≤ _; exact Nat.le_of_eq rfl) (by decide)
  refine own_step st34 ?_
  show own_Goes p e below _ (T34.setTop (mkF m 4 #[.val (.ref a1)] []))
  refine own_ret0 X34 hx hlk Bd.returns (hb hby own_dprog_46_method_1_code_4) ?_ (by decide) (by decide)
  show own_b1_Q Z a1 h0 n0 _ T34.heap _
  rw [e34]
  exact ⟨rfl, N0, rfl⟩
theorem own_pn3 : plainName "com/example/noctule/noctule/core/IntervalTiming" = true := by first | (simp [plainName, overriddenIn]; done) | decide +kernel
theorem own_dprog_32_method_1_code_0 : decode prog_32_method_1_code 0 = .ok (.aload_n 0, 1) := by decide +kernel
theorem own_dprog_32_method_1_code_1 : decode prog_32_method_1_code 1 = .ok (.invokespecial 1, 3) := by decide +kernel
theorem own_dprog_32_method_1_code_4 : decode prog_32_method_1_code 4 = .ok (.aload_n 0, 1) := by decide +kernel
theorem own_dprog_32_method_1_code_5 : decode prog_32_method_1_code 5 = .ok (.iload_n 1, 1) := by decide +kernel
theorem own_dprog_32_method_1_code_6 : decode prog_32_method_1_code 6 = .ok (.putfield 7, 3) := by decide +kernel
theorem own_dprog_32_method_1_code_9 : decode prog_32_method_1_code 9 = .ok (.return_, 1) := by decide +kernel
theorem own_b2_ef (m : MethodId) (a1 : Addr) (q1 : Int32) : entryFrame m #[(.ref a1), (.int q1)] 2 = mkF m 0 #[.val (.ref a1), .val (.int q1)] [] := by first | (simp [entryFrame, mkF, argsToLocals, Value.category]; done) | rfl
def own_b2_Q (Z : State) (a1 : Addr) (q1 : Int32) (u : Value) (h0 : Heap) (n0 : Nat) (v : Option Value) (h : Heap) (L : List Loc) : Prop := v = none ∧ Fr n0 L ∧ Keep h0 h [a1] ∧ Exa Z h a1 "com/example/noctule/noctule/core/IntervalTiming" ∧ Fld Z h a1 "com/example/noctule/noctule/core/IntervalTiming" "seconds" "I" (.int q1)
set_option maxRecDepth 65536 in
set_option maxHeartbeats 40000000 in
theorem own_b2 (l : Launch) (Z : State) (a0 : Array Value) (hw : ∀ d ∈ tables_1, d.before a0 Z = true) (ws : List Jvm.Cond) (a1 : Addr) (q1 : Int32) (u : Value) (h0 : Heap) (n0 : Nat) (Z0 : n0 ≤ h0.size) (E_a1 : Exa Z h0 a1 "com/example/noctule/noctule/core/IntervalTiming") (g_a1 : n0 ≤ a1) (F_seconds_a1 : Fld Z h0 a1 "com/example/noctule/noctule/core/IntervalTiming" "seconds" "I" u) :
    MetFree l (⟨"com/example/noctule/noctule/core/IntervalTiming", "<init>", "(I)V"⟩ : MethodName) (head1 (Jvm.Cond.code (⟨"com/example/noctule/noctule/core/IntervalTiming", "<init>", "(I)V"⟩ : MethodName) prog_32_method_1_code 2 none :: ws) ({ frames := 2, cells := 0, slots := 0, locals := 24 } : Room)) (fun aa U => aa = #[(.ref a1), (.int q1)] ∧ Z.Warmed39 U.vm ∧ U.heap = h0) (fun _ _ _ _ _ => True) (fun _ U o U' => ∃ v L, o = .returned v ∧ own_b2_Q Z a1 q1 u h0 n0 v U'.heap L ∧ FrameEnd U o U' L ({ frames := 2, cells := 0, slots := 0, locals := 24 } : Room).cells ({ frames := 2, cells := 0, slots := 0, locals := 24 } : Room).slots) := by
  refine MetFree.of_bodySF (plainFor_of_name own_pn3) hisR ?_
  have w1 := hw _ (List.mem_of_getElem? (i := 1) rfl)
  have w6 := hw _ (List.mem_of_getElem? (i := 6) rfl)
  have w7 := hw _ (List.mem_of_getElem? (i := 7) rfl)
  have w9 := hw _ (List.mem_of_getElem? (i := 9) rfl)
  have w10 := hw _ (List.mem_of_getElem? (i := 10) rfl)
  have w14 := hw _ (List.mem_of_getElem? (i := 14) rfl)
  have w15 := hw _ (List.mem_of_getElem? (i := 15) rfl)
  intro p e s m args below meth c s₁ Bd hml0 hP hK
  obtain ⟨rfl, hZ, hh⟩ := hP
  have hx := Bd.exec
  have hby := Bd.bytes
  have hlk := Bd.notSynchronized
  have hml : c.maxLocals = 2 := hml0
  have hown : s.vm.findClass "com/example/noctule/noctule/core/IntervalTiming" = some m.cls := findClass_of_methodNamed Bd.named
  have hnm := (name_of_methodNamed Bd.named Bd.method).1
  have X0 : Stand p l e ({ frames := 2, cells := 0, slots := 0, locals := 24 } : Room) s m #[(.ref a1), (.int q1)] below meth c s₁ [] 0 0 := Stand.of_body Bd
  have e0 : s₁.heap = h0 := by rw [← hh, Bd.state]; rfl
  have N0 := Fr.nil n0
  have K0 : Keep h0 h0 [a1] := Keep.refl h0 _
  show own_Goes p e below (own_Fin s (own_b2_Q Z a1 q1 u h0 n0) ({ frames := 2, cells := 0, slots := 0, locals := 24 } : Room).cells ({ frames := 2, cells := 0, slots := 0, locals := 24 } : Room).slots) _
  refine own_step (fun t k => castTop (own_b2_ef m a1 q1) k) ?_
  show own_Goes p e below _ (s₁.setTop (mkF m 0 #[.val (.ref a1), .val (.int q1)] []))
  refine own_step (fun t k => XS.aloadN X0.here hx rfl (hb hby own_dprog_32_method_1_code_0) rfl rfl k) ?_
  show own_Goes p e below _ (s₁.setTop (mkF m 1 #[.val (.ref a1), .val (.int q1)] [(.ref a1)]))
  obtain ⟨_, _, ⟨T38, L38, k38, n38⟩, -, X38, ⟨Lc38, hQ38, l38, y38, z38⟩, st38⟩ := X0.specialBack hx (y := (⟨"com/example/noctule/noctule/core/Timing", "<init>", "()V"⟩ : MethodName)) rfl hown (mvT hZ w6) (mvT hZ w7) (mvT hZ w10) (by decide) (backOf (W := 0) (own_b1 l Z a0 hw [] a1  h0 n0 Z0 ) hZ w10 w9 (by decide) (by decide)) (g := (mkF m 1 #[.val (.ref a1), .val (.int q1)] [(.ref a1)])) rfl (by rw [hml]; rfl) (Steps.refl _) (a := a1) (argsL := []) (rest := []) (lenOf own_pd0 rfl) rfl (by show 2 * 0 + _ ≤ _; exact Nat.le_of_eq rfl) (hb hby own_dprog_32_method_1_code_1) (fun _ _ => ⟨rfl, e0, (by decide : 0 + 0 ≤ _), (by decide : 0 + 0 ≤ _)⟩)
  dsimp only [Pt.U, Pt.locs, Pt.cells, Pt.slots] at X38 l38 y38 z38 st38 hQ38
  subst l38 y38 z38
  obtain ⟨rfl, N38q, eh38⟩ := hQ38
  have N38 := Fr.app N0 N38q
  refine own_jump st38 ?_
  show own_Goes p e below _ (T38.setTop (mkF m 4 #[.val (.ref a1), .val (.int q1)] []))
  refine own_step (fun t k => XS.aloadN X38.here hx rfl (hb hby own_dprog_32_method_1_code_4) rfl rfl k) ?_
  show own_Goes p e below _ (T38.setTop (mkF m 5 #[.val (.ref a1), .val (.int q1)] [(.ref a1)]))
  refine own_step (fun t k => XS.iloadN X38.here hx rfl (hb hby own_dprog_32_method_1_code_5) rfl k) ?_
  show own_Goes p e below _ (T38.setTop (mkF m 6 #[.val (.ref a1), .val (.int q1)] [(.int q1), (.ref a1)]))
  obtain ⟨T39, h39, X39, e39, W39, st39⟩ := putF X38 hx hZ hown (host := "") (Or.inl w14) Via.refl eh38 F_seconds_a1 E_a1 (Or.inr ⟨w15, rfl, hnm⟩) w1 (ty := .int) (by decide) rfl rfl (g := (mkF m 6 #[.val (.ref a1), .val (.int q1)] [(.int q1), (.ref a1)])) rfl rfl (hb hby own_dprog_32_method_1_code_6)
  have Fw39 := F_seconds_a1.same W39
  have N39 := Fr.snoc X39 N38 g_a1
  have K40 : Keep h0 h39 [a1] := K0.wr W39 (Or.inl (List.mem_of_getElem? (i := 0) rfl))
  refine own_step st39 ?_
  show own_Goes p e below _ (T39.setTop (mkF m 9 #[.val (.ref a1), .val (.int q1)] []))
  refine own_ret0 X39 hx hlk Bd.returns (hb hby own_dprog_32_method_1_code_9) ?_ (by decide) (by decide)
  show own_b2_Q Z a1 q1 u h0 n0 _ T39.heap _
  rw [e39]
  exact ⟨rfl, N39, K40, (E_a1.wr W39), Fw39⟩
theorem own_pn4 : plainName "com/example/noctule/noctule/core/UnreadableTiming" = true := by first | (simp [plainName, overriddenIn]; done) | decide +kernel
theorem own_dprog_50_method_1_code_0 : decode prog_50_method_1_code 0 = .ok (.aload_n 0, 1) := by decide +kernel
theorem own_dprog_50_method_1_code_1 : decode prog_50_method_1_code 1 = .ok (.invokespecial 1, 3) := by decide +kernel
theorem own_dprog_50_method_1_code_4 : decode prog_50_method_1_code 4 = .ok (.aload_n 0, 1) := by decide +kernel
theorem own_dprog_50_method_1_code_5 : decode prog_50_method_1_code 5 = .ok (.aload_n 1, 1) := by decide +kernel
theorem own_dprog_50_method_1_code_6 : decode prog_50_method_1_code 6 = .ok (.putfield 7, 3) := by decide +kernel
theorem own_dprog_50_method_1_code_9 : decode prog_50_method_1_code 9 = .ok (.aload_n 0, 1) := by decide +kernel
theorem own_dprog_50_method_1_code_10 : decode prog_50_method_1_code 10 = .ok (.aload_n 2, 1) := by decide +kernel
theorem own_dprog_50_method_1_code_11 : decode prog_50_method_1_code 11 = .ok (.putfield 13, 3) := by decide +kernel
theorem own_dprog_50_method_1_code_14 : decode prog_50_method_1_code 14 = .ok (.aload_n 0, 1) := by decide +kernel
theorem own_dprog_50_method_1_code_15 : decode prog_50_method_1_code 15 = .ok (.aload_n 3, 1) := by decide +kernel
theorem own_dprog_50_method_1_code_16 : decode prog_50_method_1_code 16 = .ok (.putfield 17, 3) := by decide +kernel
theorem own_dprog_50_method_1_code_19 : decode prog_50_method_1_code 19 = .ok (.aload_n 0, 1) := by decide +kernel
theorem own_dprog_50_method_1_code_20 : decode prog_50_method_1_code 20 = .ok (.aload 4, 2) := by decide +kernel
theorem own_dprog_50_method_1_code_22 : decode prog_50_method_1_code 22 = .ok (.putfield 20, 3) := by decide +kernel
theorem own_dprog_50_method_1_code_25 : decode prog_50_method_1_code 25 = .ok (.aload_n 1, 1) := by decide +kernel
theorem own_dprog_50_method_1_code_26 : decode prog_50_method_1_code 26 = .ok (.ifnull 13, 3) := by decide +kernel
theorem own_dprog_50_method_1_code_29 : decode prog_50_method_1_code 29 = .ok (.aload_n 0, 1) := by decide +kernel
theorem own_dprog_50_method_1_code_30 : decode prog_50_method_1_code 30 = .ok (.getstatic 24, 3) := by decide +kernel
theorem own_dprog_50_method_1_code_33 : decode prog_50_method_1_code 33 = .ok (.putfield 30, 3) := by decide +kernel
theorem own_dprog_50_method_1_code_36 : decode prog_50_method_1_code 36 = .ok (.goto 24, 3) := by decide +kernel
theorem own_dprog_50_method_1_code_60 : decode prog_50_method_1_code 60 = .ok (.return_, 1) := by decide +kernel
theorem own_b3_ef (m : MethodId) (a1 : Addr) (r1 : Addr) : entryFrame m #[(.ref a1), (.ref r1), .null, .null, .null] 5 = mkF m 0 #[.val (.ref a1), .val (.ref r1), .val .null, .val .null, .val .null] [] := by first | (simp [entryFrame, mkF, argsToLocals, Value.category]; done) | rfl
def own_b3_Q (Z : State) (a1 : Addr) (r1 : Addr) (wI : Addr) (u0 : Value) (u1 : Value) (u2 : Value) (u3 : Value) (u4 : Value) (h0 : Heap) (n0 : Nat) (v : Option Value) (h : Heap) (L : List Loc) : Prop := v = none ∧ Fr n0 L ∧ Keep h0 h [a1] ∧ Exa Z h a1 "com/example/noctule/noctule/core/UnreadableTiming"
set_option maxRecDepth 65536 in
set_option maxHeartbeats 40000000 in
theorem own_b3 (l : Launch) (Z : State) (a0 : Array Value) (hw : ∀ d ∈ tables_1, d.before a0 Z = true) (ws : List Jvm.Cond) (a1 : Addr) (r1 : Addr) (wI : Addr) (u0 : Value) (u1 : Value) (u2 : Value) (u3 : Value) (u4 : Value) (h0 : Heap) (n0 : Nat) (Z0 : n0 ≤ h0.size) (S_INTERVAL : Sta Z Z.heap "com/example/noctule/noctule/core/ScheduleKind" "INTERVAL" "Lcom/example/noctule/noctule/core/ScheduleKind;" (.ref wI)) (O0 : Old Z n0 h0) (E_a1 : Exa Z h0 a1 "com/example/noctule/noctule/core/UnreadableTiming") (g_a1 : n0 ≤ a1) (F_intervalSeconds_a1 : Fld Z h0 a1 "com/example/noctule/noctule/core/UnreadableTiming" "intervalSeconds" "Ljava/lang/Integer;" u0) (F_cron_a1 : Fld Z h0 a1 "com/example/noctule/noctule/core/UnreadableTiming" "cron" "Ljava/lang/String;" u1) (F_timezone_a1 : Fld Z h0 a1 "com/example/noctule/noctule/core/UnreadableTiming" "timezone" "Ljava/lang/String;" u2) (F_runAt_a1 : Fld Z h0 a1 "com/example/noctule/noctule/core/UnreadableTiming" "runAt" "Ljava/time/Instant;" u3) (F_kind_a1 : Fld Z h0 a1 "com/example/noctule/noctule/core/UnreadableTiming" "kind" "Lcom/example/noctule/noctule/core/ScheduleKind;" u4) :
    MetFree l (⟨"com/example/noctule/noctule/core/UnreadableTiming", "<init>", "(Ljava/lang/Integer;Ljava/lang/String;Ljava/lang/String;Ljava/time/Instant;)V"⟩ : MethodName) (head1 (Jvm.Cond.code (⟨"com/example/noctule/noctule/core/UnreadableTiming", "<init>", "(Ljava/lang/Integer;Ljava/lang/String;Ljava/lang/String;Ljava/time/Instant;)V"⟩ : MethodName) prog_50_method_1_code 5 none :: ws) ({ frames := 2, cells := 0, slots := 0, locals := 24 } : Room)) (fun aa U => aa = #[(.ref a1), (.ref r1), .null, .null, .null] ∧ Z.Warmed39 U.vm ∧ U.heap = h0) (fun _ _ _ _ _ => True) (fun _ U o U' => ∃ v L, o = .returned v ∧ own_b3_Q Z a1 r1 wI u0 u1 u2 u3 u4 h0 n0 v U'.heap L ∧ FrameEnd U o U' L ({ frames := 2, cells := 0, slots := 0, locals := 24 } : Room).cells ({ frames := 2, cells := 0, slots := 0, locals := 24 } : Room).slots) := by
  refine MetFree.of_bodySF (plainFor_of_name own_pn4) hisR ?_
  have w7 := hw _ (List.mem_of_getElem? (i := 7) rfl)
  have w9 := hw _ (List.mem_of_getElem? (i := 9) rfl)
  have w10 := hw _ (List.mem_of_getElem? (i := 10) rfl)
  have w17 := hw _ (List.mem_of_getElem? (i := 17) rfl)
  have w29 := hw _ (List.mem_of_getElem? (i := 29) rfl)
  have w30 := hw _ (List.mem_of_getElem? (i := 30) rfl)
  have w31 := hw _ (List.mem_of_getElem? (i := 31) rfl)
  have w32 := hw _ (List.mem_of_getElem? (i := 32) rfl)
  have w33 := hw _ (List.mem_of_getElem? (i := 33) rfl)
  have w34 := hw _ (List.mem_of_getElem? (i := 34) rfl)
  have w35 := hw _ (List.mem_of_getElem? (i := 35) rfl)
  have w36 := hw _ (List.mem_of_getElem? (i := 36) rfl)
  have w37 := hw _ (List.mem_of_getElem? (i := 37) rfl)
  have w38 := hw _ (List.mem_of_getElem? (i := 38) rfl)
  have w41 := hw _ (List.mem_of_getElem? (i := 41) rfl)
  have w42 := hw _ (List.mem_of_getElem? (i := 42) rfl)
  intro p e s m args below meth c s₁ Bd hml0 hP hK
  obtain ⟨rfl, hZ, hh⟩ := hP
  have hx := Bd.exec
  have hby := Bd.bytes
  have hlk := Bd.notSynchronized
  have hml : c.maxLocals = 5 := hml0
  have hown : s.vm.findClass "com/example/noctule/noctule/core/UnreadableTiming" = some m.cls := findClass_of_methodNamed Bd.named
  have hnm := (name_of_methodNamed Bd.named Bd.method).1
  have X0 : Stand p l e ({ frames := 2, cells := 0, slots := 0, locals := 24 } : Room) s m #[(.ref a1), (.ref r1), .null, .null, .null] below meth c s₁ [] 0 0 := Stand.of_body Bd
  have e0 : s₁.heap = h0 := by rw [← hh, Bd.state]; rfl
  have N0 := Fr.nil n0
  have K0 : Keep h0 h0 [a1] := Keep.refl h0 _
  show own_Goes p e below (own_Fin s (own_b3_Q Z a1 r1 wI u0 u1 u2 u3 u4 h0 n0) ({ frames := 2, cells := 0, slots := 0, locals := 24 } : Room).cells ({ frames := 2, cells := 0, slots := 0, locals := 24 } : Room).slots) _
  refine own_step (fun t k => castTop (own_b3_ef m a1 r1) k) ?_
  show own_Goes p e below _ (s₁.setTop (mkF m 0 #[.val (.ref a1), .val (.ref r1), .val .null, .val .null, .val .null] []))
  refine own_step (fun t k => XS.aloadN X0.here hx rfl (hb hby own_dprog_50_method_1_code_0) rfl rfl k) ?_
  show own_Goes p e below _ (s₁.setTop (mkF m 1 #[.val (.ref a1), .val (.ref r1), .val .null, .val .null, .val .null] [(.ref a1)]))
  obtain ⟨_, _, ⟨T53, L53, k53, n53⟩, -, X53, ⟨Lc53, hQ53, l53, y53, z53⟩, st53⟩ := X0.specialBack hx (y := (⟨"com/example/noctule/noctule/core/Timing", "<init>", "()V"⟩ : MethodName)) rfl hown (mvT hZ w29) (mvT hZ w7) (mvT hZ w10) (by decide) (backOf (W := 0) (own_b1 l Z a0 hw [] a1  h0 n0 Z0 ) hZ w10 w9 (by decide) (by decide)) (g := (mkF m 1 #[.val (.ref a1), .val (.ref r1), .val .null, .val .null, .val .null] [(.ref a1)])) rfl (by rw [hml]; rfl) (Steps.refl _) (a := a1) (argsL := []) (rest := []) (lenOf own_pd0 rfl) rfl (by show 2 * 0 + _ ≤ _; exact Nat.le_of_eq rfl) (hb hby own_dprog_50_method_1_code_1) (fun _ _ => ⟨rfl, e0, (by decide : 0 + 0 ≤ _), (by decide : 0 + 0 ≤ _)⟩)
  dsimp only [Pt.U, Pt.locs, Pt.cells, Pt.slots] at X53 l53 y53 z53 st53 hQ53
  subst l53 y53 z53
  obtain ⟨rfl, N53q, eh53⟩ := hQ53
  have N53 := Fr.app N0 N53q
  refine own_jump st53 ?_
  show own_Goes p e below _ (T53.setTop (mkF m 4 #[.val (.ref a1), .val (.ref r1), .val .null, .val .null, .val .null] []))
  refine own_step (fun t k => XS.aloadN X53.here hx rfl (hb hby own_dprog_50_method_1_code_4) rfl rfl k) ?_
  show own_Goes p e below _ (T53.setTop (mkF m 5 #[.val (.ref a1), .val (.ref r1), .val .null, .val .null, .val .null] [(.ref a1)]))
  refine own_step (fun t k => XS.aloadN X53.here hx rfl (hb hby own_dprog_50_method_1_code_5) rfl rfl k) ?_
  show own_Goes p e below _ (T53.setTop (mkF m 6 #[.val (.ref a1), .val (.ref r1), .val .null, .val .null, .val .null] [(.ref r1), (.ref a1)]))
  obtain ⟨T54, h54, X54, e54, W54, st54⟩ := putF X53 hx hZ hown (host := "") (Or.inl w30) Via.refl eh53 F_intervalSeconds_a1 E_a1 (Or.inr ⟨w31, rfl, hnm⟩) w17 (ty := (.object "java/lang/Integer")) (by decide) rfl rfl (g := (mkF m 6 #[.val (.ref a1), .val (.ref r1), .val .null, .val .null, .val .null] [(.ref r1), (.ref a1)])) rfl rfl (hb hby own_dprog_50_method_1_code_6)
  have Fw54 := F_intervalSeconds_a1.same W54
  have N54 := Fr.snoc X54 N53 g_a1
  have K55 : Keep h0 h54 [a1] := K0.wr W54 (Or.inl (List.mem_of_getElem? (i := 0) rfl))
  refine own_step st54 ?_
  show own_Goes p e below _ (T54.setTop (mkF m 9 #[.val (.ref a1), .val (.ref r1), .val .null, .val .null, .val .null] []))
  refine own_step (fun t k => XS.aloadN X54.here hx rfl (hb hby own_dprog_50_method_1_code_9) rfl rfl k) ?_
  show own_Goes p e below _ (T54.setTop (mkF m 10 #[.val (.ref a1), .val (.ref r1), .val .null, .val .null, .val .null] [(.ref a1)]))
  refine own_step (fun t k => XS.aloadN X54.here hx rfl (hb hby own_dprog_50_method_1_code_10) rfl rfl k) ?_
  show own_Goes p e below _ (T54.setTop (mkF m 11 #[.val (.ref a1), .val (.ref r1), .val .null, .val .null, .val .null] [.null, (.ref a1)]))
  obtain ⟨T56, h56, X56, e56, W56, st56⟩ := putF X54 hx hZ hown (host := "") (Or.inl w32) Via.refl e54 (F_cron_a1.other W54 (Or.inr (slot_ne (Or.inr w33) (Or.inr w31) (by decide) (t := (.object "java/lang/String")) (t' := (.object "java/lang/Integer")) (by decide) (by decide)))) (E_a1.wr W54) (Or.inr ⟨w33, rfl, hnm⟩) w17 (ty := (.object "java/lang/String")) (by decide) rfl rfl (g := (mkF m 11 #[.val (.ref a1), .val (.ref r1), .val .null, .val .null, .val .null] [.null, (.ref a1)])) rfl rfl (hb hby own_dprog_50_method_1_code_11)
  have Fw56 := (F_cron_a1.other W54 (Or.inr (slot_ne (Or.inr w33) (Or.inr w31) (by decide) (t := (.object "java/lang/String")) (t' := (.object "java/lang/Integer")) (by decide) (by decide)))).same W56
  have N56 := Fr.snoc X56 N54 g_a1
  have K57 : Keep h0 h56 [a1] := K55.wr W56 (Or.inl (List.mem_of_getElem? (i := 0) rfl))
  refine own_step st56 ?_
  show own_Goes p e below _ (T56.setTop (mkF m 14 #[.val (.ref a1), .val (.ref r1), .val .null, .val .null, .val .null] []))
  refine own_step (fun t k => XS.aloadN X56.here hx rfl (hb hby own_dprog_50_method_1_code_14) rfl rfl k) ?_
  show own_Goes p e below _ (T56.setTop (mkF m 15 #[.val (.ref a1), .val (.ref r1), .val .null, .val .null, .val .null] [(.ref a1)]))
  refine own_step (fun t k => XS.aloadN X56.here hx rfl (hb hby own_dprog_50_method_1_code_15) rfl rfl k) ?_
  show own_Goes p e below _ (T56.setTop (mkF m 16 #[.val (.ref a1), .val (.ref r1), .val .null, .val .null, .val .null] [.null, (.ref a1)]))
  obtain ⟨T58, h58, X58, e58, W58, st58⟩ := putF X56 hx hZ hown (host := "") (Or.inl w34) Via.refl e56 ((F_timezone_a1.other W54 (Or.inr (slot_ne (Or.inr w35) (Or.inr w31) (by decide) (t := (.object "java/lang/String")) (t' := (.object "java/lang/Integer")) (by decide) (by decide)))).other W56 (Or.inr (slot_ne (Or.inr w35) (Or.inr w33) (by decide) (t := (.object "java/lang/String")) (t' := (.object "java/lang/String")) (by decide) (by decide)))) ((E_a1.wr W54).wr W56) (Or.inr ⟨w35, rfl, hnm⟩) w17 (ty := (.object "java/lang/String")) (by decide) rfl rfl (g := (mkF m 16 #[.val (.ref a1), .val (.ref r1), .val .null, .val .null, .val .null] [.null, (.ref a1)])) rfl rfl (hb hby own_dprog_50_method_1_code_16)
  have Fw58 := ((F_timezone_a1.other W54 (Or.inr (slot_ne (Or.inr w35) (Or.inr w31) (by decide) (t := (.object "java/lang/String")) (t' := (.object "java/lang/Integer")) (by decide) (by decide)))).other W56 (Or.inr (slot_ne (Or.inr w35) (Or.inr w33) (by decide) (t := (.object "java/lang/String")) (t' := (.object "java/lang/String")) (by decide) (by decide)))).same W58
  have N58 := Fr.snoc X58 N56 g_a1
  have K59 : Keep h0 h58 [a1] := K57.wr W58 (Or.inl (List.mem_of_getElem? (i := 0) rfl))
  refine own_step st58 ?_
  show own_Goes p e below _ (T58.setTop (mkF m 19 #[.val (.ref a1), .val (.ref r1), .val .null, .val .null, .val .null] []))
  refine own_step (fun t k => XS.aloadN X58.here hx rfl (hb hby own_dprog_50_method_1_code_19) rfl rfl k) ?_
  show own_Goes p e below _ (T58.setTop (mkF m 20 #[.val (.ref a1), .val (.ref r1), .val .null, .val .null, .val .null] [(.ref a1)]))
  refine own_step (fun t k => XS.aload X58.here hx rfl (hb hby own_dprog_50_method_1_code_20) rfl rfl k) ?_
  show own_Goes p e below _ (T58.setTop (mkF m 22 #[.val (.ref a1), .val (.ref r1), .val .null, .val .null, .val .null] [.null, (.ref a1)]))
  obtain ⟨T60, h60, X60, e60, W60, st60⟩ := putF X58 hx hZ hown (host := "") (Or.inl w36) Via.refl e58 (((F_runAt_a1.other W54 (Or.inr (slot_ne (Or.inr w37) (Or.inr w31) (by decide) (t := (.object "java/time/Instant")) (t' := (.object "java/lang/Integer")) (by decide) (by decide)))).other W56 (Or.inr (slot_ne (Or.inr w37) (Or.inr w33) (by decide) (t := (.object "java/time/Instant")) (t' := (.object "java/lang/String")) (by decide) (by decide)))).other W58 (Or.inr (slot_ne (Or.inr w37) (Or.inr w35) (by decide) (t := (.object "java/time/Instant")) (t' := (.object "java/lang/String")) (by decide) (by decide)))) (((E_a1.wr W54).wr W56).wr W58) (Or.inr ⟨w37, rfl, hnm⟩) w17 (ty := (.object "java/time/Instant")) (by decide) rfl rfl (g := (mkF m 22 #[.val (.ref a1), .val (.ref r1), .val .null, .val .null, .val .null] [.null, (.ref a1)])) rfl rfl (hb hby own_dprog_50_method_1_code_22)
  have Fw60 := (((F_runAt_a1.other W54 (Or.inr (slot_ne (Or.inr w37) (Or.inr w31) (by decide) (t := (.object "java/time/Instant")) (t' := (.object "java/lang/Integer")) (by decide) (by decide)))).other W56 (Or.inr (slot_ne (Or.inr w37) (Or.inr w33) (by decide) (t := (.object "java/time/Instant")) (t' := (.object "java/lang/String")) (by decide) (by decide)))).other W58 (Or.inr (slot_ne (Or.inr w37) (Or.inr w35) (by decide) (t := (.object "java/time/Instant")) (t' := (.object "java/lang/String")) (by decide) (by decide)))).same W60
  have N60 := Fr.snoc X60 N58 g_a1
  have K61 : Keep h0 h60 [a1] := K59.wr W60 (Or.inl (List.mem_of_getElem? (i := 0) rfl))
  refine own_step st60 ?_
  show own_Goes p e below _ (T60.setTop (mkF m 25 #[.val (.ref a1), .val (.ref r1), .val .null, .val .null, .val .null] []))
  refine own_step (fun t k => XS.aloadN X60.here hx rfl (hb hby own_dprog_50_method_1_code_25) rfl rfl k) ?_
  show own_Goes p e below _ (T60.setTop (mkF m 26 #[.val (.ref a1), .val (.ref r1), .val .null, .val .null, .val .null] [(.ref r1)]))
  refine own_step (fun t k => XS.ifnullNo X60.here hx rfl (hb hby own_dprog_50_method_1_code_26) rfl k) ?_
  show own_Goes p e below _ (T60.setTop (mkF m 29 #[.val (.ref a1), .val (.ref r1), .val .null, .val .null, .val .null] []))
  refine own_step (fun t k => XS.aloadN X60.here hx rfl (hb hby own_dprog_50_method_1_code_29) rfl rfl k) ?_
  show own_Goes p e below _ (T60.setTop (mkF m 30 #[.val (.ref a1), .val (.ref r1), .val .null, .val .null, .val .null] [(.ref a1)]))
  obtain ⟨T62, X62, e62, st62⟩ := getS2 X60 hx hZ hown (host := "") (Or.inl w38) Via.refl e60 (S_INTERVAL.ext ((((O0.wr W54 g_a1).wr W56 g_a1).wr W58 g_a1).wr W60 g_a1).2) (g := (mkF m 30 #[.val (.ref a1), .val (.ref r1), .val .null, .val .null, .val .null] [(.ref a1)])) rfl (hb hby own_dprog_50_method_1_code_30)
  refine own_step st62 ?_
  show own_Goes p e below _ (T62.setTop (mkF m 33 #[.val (.ref a1), .val (.ref r1), .val .null, .val .null, .val .null] [(.ref wI), (.ref a1)]))
  obtain ⟨T63, h63, X63, e63, W63, st63⟩ := putF X62 hx hZ hown (host := "") (Or.inl w41) Via.refl e62 ((((F_kind_a1.other W54 (Or.inr (slot_ne (Or.inr w42) (Or.inr w31) (by decide) (t := (.object "com/example/noctule/noctule/core/ScheduleKind")) (t' := (.object "java/lang/Integer")) (by decide) (by decide)))).other W56 (Or.inr (slot_ne (Or.inr w42) (Or.inr w33) (by decide) (t := (.object "com/example/noctule/noctule/core/ScheduleKind")) (t' := (.object "java/lang/String")) (by decide) (by decide)))).other W58 (Or.inr (slot_ne (Or.inr w42) (Or.inr w35) (by decide) (t := (.object "com/example/noctule/noctule/core/ScheduleKind")) (t' := (.object "java/lang/String")) (by decide) (by decide)))).other W60 (Or.inr (slot_ne (Or.inr w42) (Or.inr w37) (by decide) (t := (.object "com/example/noctule/noctule/core/ScheduleKind")) (t' := (.object "java/time/Instant")) (by decide) (by decide)))) ((((E_a1.wr W54).wr W56).wr W58).wr W60) (Or.inr ⟨w42, rfl, hnm⟩) w17 (ty := (.object "com/example/noctule/noctule/core/ScheduleKind")) (by decide) rfl rfl (g := (mkF m 33 #[.val (.ref a1), .val (.ref r1), .val .null, .val .null, .val .null] [(.ref wI), (.ref a1)])) rfl rfl (hb hby own_dprog_50_method_1_code_33)
  have Fw63 := ((((F_kind_a1.other W54 (Or.inr (slot_ne (Or.inr w42) (Or.inr w31) (by decide) (t := (.object "com/example/noctule/noctule/core/ScheduleKind")) (t' := (.object "java/lang/Integer")) (by decide) (by decide)))).other W56 (Or.inr (slot_ne (Or.inr w42) (Or.inr w33) (by decide) (t := (.object "com/example/noctule/noctule/core/ScheduleKind")) (t' := (.object "java/lang/String")) (by decide) (by decide)))).other W58 (Or.inr (slot_ne (Or.inr w42) (Or.inr w35) (by decide) (t := (.object "com/example/noctule/noctule/core/ScheduleKind")) (t' := (.object "java/lang/String")) (by decide) (by decide)))).other W60 (Or.inr (slot_ne (Or.inr w42) (Or.inr w37) (by decide) (t := (.object "com/example/noctule/noctule/core/ScheduleKind")) (t' := (.object "java/time/Instant")) (by decide) (by decide)))).same W63
  have N63 := Fr.snoc X63 N60 g_a1
  have K64 : Keep h0 h63 [a1] := K61.wr W63 (Or.inl (List.mem_of_getElem? (i := 0) rfl))
  refine own_step st63 ?_
  show own_Goes p e below _ (T63.setTop (mkF m 36 #[.val (.ref a1), .val (.ref r1), .val .null, .val .null, .val .null] []))
  refine own_step (fun t k => XS.goto X63.here hx rfl (pc0 := 36) (pc' := 60) rfl (hb hby own_dprog_50_method_1_code_36) (by decide) (by decide) k) ?_
  show own_Goes p e below _ (T63.setTop (mkF m 60 #[.val (.ref a1), .val (.ref r1), .val .null, .val .null, .val .null] []))
  refine own_ret0 X63 hx hlk Bd.returns (hb hby own_dprog_50_method_1_code_60) ?_ (by decide) (by decide)
  show own_b3_Q Z a1 r1 wI u0 u1 u2 u3 u4 h0 n0 _ T63.heap _
  rw [e63]
  exact ⟨rfl, N63, K64, (((((E_a1.wr W54).wr W56).wr W58).wr W60).wr W63)⟩
theorem own_dprog_32_method_6_code_0 : decode prog_32_method_6_code 0 = .ok (.aload_n 1, 1) := by decide +kernel
theorem own_dprog_32_method_6_code_1 : decode prog_32_method_6_code 1 = .ok (.instanceof 8, 3) := by decide +kernel
theorem own_dprog_32_method_6_code_4 : decode prog_32_method_6_code 4 = .ok (.ifCond .eq 23, 3) := by decide +kernel
theorem own_dprog_32_method_6_code_7 : decode prog_32_method_6_code 7 = .ok (.aload_n 1, 1) := by decide +kernel
theorem own_dprog_32_method_6_code_8 : decode prog_32_method_6_code 8 = .ok (.checkcast 8, 3) := by decide +kernel
theorem own_dprog_32_method_6_code_11 : decode prog_32_method_6_code 11 = .ok (.astore_n 2, 1) := by decide +kernel
theorem own_dprog_32_method_6_code_12 : decode prog_32_method_6_code 12 = .ok (.aload_n 2, 1) := by decide +kernel
theorem own_dprog_32_method_6_code_13 : decode prog_32_method_6_code 13 = .ok (.getfield 7, 3) := by decide +kernel
theorem own_dprog_32_method_6_code_16 : decode prog_32_method_6_code 16 = .ok (.aload_n 0, 1) := by decide +kernel
theorem own_dprog_32_method_6_code_17 : decode prog_32_method_6_code 17 = .ok (.getfield 7, 3) := by decide +kernel
theorem own_dprog_32_method_6_code_20 : decode prog_32_method_6_code 20 = .ok (.if_icmp .ne 7, 3) := by decide +kernel
theorem own_dprog_32_method_6_code_23 : decode prog_32_method_6_code 23 = .ok (.iconst 1, 1) := by decide +kernel
theorem own_dprog_32_method_6_code_24 : decode prog_32_method_6_code 24 = .ok (.goto 4, 3) := by decide +kernel
theorem own_dprog_32_method_6_code_27 : decode prog_32_method_6_code 27 = .ok (.iconst 0, 1) := by decide +kernel
theorem own_dprog_32_method_6_code_28 : decode prog_32_method_6_code 28 = .ok (.ireturn, 1) := by decide +kernel
theorem own_e1_ef (m : MethodId) (a1 : Addr) (o1 : Addr) : entryFrame m #[(.ref a1), (.ref o1)] 3 = mkF m 0 #[.val (.ref a1), .val (.ref o1), .unset] [] := by first | (simp [entryFrame, mkF, argsToLocals, Value.category]; done) | rfl
def own_e1_Q (Z : State) (a1 : Addr) (o1 : Addr) (w1 : Int32) (w2 : Int32) (h0 : Heap) (n0 : Nat) (v : Option Value) (h : Heap) (L : List Loc) : Prop := v = some (.int (if w2 = w1 then (1 : Int32) else (0 : Int32))) ∧ Fr n0 L ∧ h = h0
set_option maxRecDepth 65536 in
set_option maxHeartbeats 40000000 in
theorem own_e1 (l : Launch) (Z : State) (a0 : Array Value) (hw : ∀ d ∈ tables_1, d.before a0 Z = true) (ws : List Jvm.Cond) (a1 : Addr) (o1 : Addr) (w1 : Int32) (w2 : Int32) (h0 : Heap) (n0 : Nat) (Z0 : n0 ≤ h0.size) (E_o1 : Exa Z h0 o1 "com/example/noctule/noctule/core/IntervalTiming") (F_seconds_a1 : Fld Z h0 a1 "com/example/noctule/noctule/core/IntervalTiming" "seconds" "I" (.int w1)) (F_seconds_o1 : Fld Z h0 o1 "com/example/noctule/noctule/core/IntervalTiming" "seconds" "I" (.int w2)) :
    MetFree l (⟨"com/example/noctule/noctule/core/IntervalTiming", "equals", "(Ljava/lang/Object;)Z"⟩ : MethodName) (head1 (Jvm.Cond.code (⟨"com/example/noctule/noctule/core/IntervalTiming", "equals", "(Ljava/lang/Object;)Z"⟩ : MethodName) prog_32_method_6_code 3 (some .boolean) :: ws) ({ frames := 0, cells := 0, slots := 0, locals := 0 } : Room)) (fun aa U => aa = #[(.ref a1), (.ref o1)] ∧ Z.Warmed39 U.vm ∧ U.heap = h0) (fun _ _ _ _ _ => True) (fun _ U o U' => ∃ v L, o = .returned v ∧ own_e1_Q Z a1 o1 w1 w2 h0 n0 v U'.heap L ∧ FrameEnd U o U' L ({ frames := 0, cells := 0, slots := 0, locals := 0 } : Room).cells ({ frames := 0, cells := 0, slots := 0, locals := 0 } : Room).slots) := by
  refine MetFree.of_bodySF (plainFor_of_name own_pn3) hisR ?_
  have w14 := hw _ (List.mem_of_getElem? (i := 14) rfl)
  have w48 := hw _ (List.mem_of_getElem? (i := 48) rfl)
  intro p e s m args below meth c s₁ Bd hml0 hP hK
  obtain ⟨rfl, hZ, hh⟩ := hP
  have hx := Bd.exec
  have hby := Bd.bytes
  have hlk := Bd.notSynchronized
  have hml : c.maxLocals = 3 := hml0
  have hown : s.vm.findClass "com/example/noctule/noctule/core/IntervalTiming" = some m.cls := findClass_of_methodNamed Bd.named
  have hnm := (name_of_methodNamed Bd.named Bd.method).1
  have X0 : Stand p l e ({ frames := 0, cells := 0, slots := 0, locals := 0 } : Room) s m #[(.ref a1), (.ref o1)] below meth c s₁ [] 0 0 := Stand.of_body Bd
  have e0 : s₁.heap = h0 := by rw [← hh, Bd.state]; rfl
  have N0 := Fr.nil n0
  have K0 : Keep h0 h0 [] := Keep.refl h0 _
  show own_Goes p e below (own_Fin s (own_e1_Q Z a1 o1 w1 w2 h0 n0) ({ frames := 0, cells := 0, slots := 0, locals := 0 } : Room).cells ({ frames := 0, cells := 0, slots := 0, locals := 0 } : Room).slots) _
  refine own_step (fun t k => castTop (own_e1_ef m a1 o1) k) ?_
  show own_Goes p e below _ (s₁.setTop (mkF m 0 #[.val (.ref a1), .val (.ref o1), .unset] []))
  refine own_step (fun t k => XS.aloadN X0.here hx rfl (hb hby own_dprog_32_method_6_code_0) rfl rfl k) ?_
  show own_Goes p e below _ (s₁.setTop (mkF m 1 #[.val (.ref a1), .val (.ref o1), .unset] [(.ref o1)]))
  obtain ⟨T71, X71, e71, st71⟩ := instY X0 hx hZ hown w48 e0 (Ins.self E_o1) (g := (mkF m 1 #[.val (.ref a1), .val (.ref o1), .unset] [(.ref o1)])) rfl rfl (hb hby own_dprog_32_method_6_code_1)
  refine own_step st71 ?_
  show own_Goes p e below _ (T71.setTop (mkF m 4 #[.val (.ref a1), .val (.ref o1), .unset] [(.int (1 : Int32))]))
  have hc72 : ¬ ((1 : Int32) = (0 : Int32)) := by decide
  refine own_step (fun t k => XS.ifNo X71.here hx rfl (hb hby own_dprog_32_method_6_code_4) rfl ((if0 _ _).trans (feq hc72).1) k) ?_
  show own_Goes p e below _ (T71.setTop (mkF m 7 #[.val (.ref a1), .val (.ref o1), .unset] []))
  refine own_step (fun t k => XS.aloadN X71.here hx rfl (hb hby own_dprog_32_method_6_code_7) rfl rfl k) ?_
  show own_Goes p e below _ (T71.setTop (mkF m 8 #[.val (.ref a1), .val (.ref o1), .unset] [(.ref o1)]))
  obtain ⟨T73, X73, e73, st73⟩ := castY X71 hx hZ hown w48 e71 (Ins.self E_o1) (g := (mkF m 8 #[.val (.ref a1), .val (.ref o1), .unset] [(.ref o1)])) rfl rfl (hb hby own_dprog_32_method_6_code_8)
  refine own_step st73 ?_
  show own_Goes p e below _ (T73.setTop (mkF m 11 #[.val (.ref a1), .val (.ref o1), .unset] [(.ref o1)]))
  refine own_step (fun t k => XS.astoreN X73.here hx rfl (hb hby own_dprog_32_method_6_code_11) rfl rfl (l' := #[.val (.ref a1), .val (.ref o1), .val (.ref o1)]) rfl k) ?_
  show own_Goes p e below _ (T73.setTop (mkF m 12 #[.val (.ref a1), .val (.ref o1), .val (.ref o1)] []))
  refine own_step (fun t k => XS.aloadN X73.here hx rfl (hb hby own_dprog_32_method_6_code_12) rfl rfl k) ?_
  show own_Goes p e below _ (T73.setTop (mkF m 13 #[.val (.ref a1), .val (.ref o1), .val (.ref o1)] [(.ref o1)]))
  obtain ⟨T74, X74, e74, st74⟩ := getF X73 hx hZ hown (host := "") (Or.inl w14) Via.refl e73 F_seconds_o1 (g := (mkF m 13 #[.val (.ref a1), .val (.ref o1), .val (.ref o1)] [(.ref o1)])) rfl rfl (hb hby own_dprog_32_method_6_code_13)
  refine own_step st74 ?_
  show own_Goes p e below _ (T74.setTop (mkF m 16 #[.val (.ref a1), .val (.ref o1), .val (.ref o1)] [(.int w2)]))
  refine own_step (fun t k => XS.aloadN X74.here hx rfl (hb hby own_dprog_32_method_6_code_16) rfl rfl k) ?_
  show own_Goes p e below _ (T74.setTop (mkF m 17 #[.val (.ref a1), .val (.ref o1), .val (.ref o1)] [(.ref a1), (.int w2)]))
  obtain ⟨T75, X75, e75, st75⟩ := getF X74 hx hZ hown (host := "") (Or.inl w14) Via.refl e74 F_seconds_a1 (g := (mkF m 17 #[.val (.ref a1), .val (.ref o1), .val (.ref o1)] [(.ref a1), (.int w2)])) rfl rfl (hb hby own_dprog_32_method_6_code_17)
  refine own_step st75 ?_
  show own_Goes p e below _ (T75.setTop (mkF m 20 #[.val (.ref a1), .val (.ref o1), .val (.ref o1)] [(.int w1), (.int w2)]))
  refine own_step (S' := T75.setTop (mkF m 28 #[.val (.ref a1), .val (.ref o1), .val (.ref o1)] [(.int (if w2 = w1 then (1 : Int32) else (0 : Int32)))])) (fun t k => ?_) ?_
  · show Steps p.tables e below (T75.setTop (mkF m 20 #[.val (.ref a1), .val (.ref o1), .val (.ref o1)] [(.int w1), (.int w2)])) _
    by_cases hc76 : w2 = w1
    · --
      refine XS.icmpNo X75.here hx rfl (hb hby own_dprog_32_method_6_code_20) rfl (teq hc76).2 ?_
      show Steps p.tables e below (T75.setTop (mkF m 23 #[.val (.ref a1), .val (.ref o1), .val (.ref o1)] [])) _
      refine XS.iconst X75.here hx rfl (hb hby own_dprog_32_method_6_code_23) ?_
      show Steps p.tables e below (T75.setTop (mkF m 24 #[.val (.ref a1), .val (.ref o1), .val (.ref o1)] [(.int (1 : Int32))])) _
      refine XS.goto X75.here hx rfl (pc0 := 24) (pc' := 28) rfl (hb hby own_dprog_32_method_6_code_24) (by decide) (by decide) ?_
      show Steps p.tables e below (T75.setTop (mkF m 28 #[.val (.ref a1), .val (.ref o1), .val (.ref o1)] [(.int (1 : Int32))])) _
      simp only [if_pos hc76] at k
      exact k
    · --
      refine XS.icmpYes X75.here hx rfl (pc0 := 20) (pc' := 27) rfl (hb hby own_dprog_32_method_6_code_20) rfl (feq hc76).2 (by decide) (by decide) ?_
      show Steps p.tables e below (T75.setTop (mkF m 27 #[.val (.ref a1), .val (.ref o1), .val (.ref o1)] [])) _
      refine XS.iconst X75.here hx rfl (hb hby own_dprog_32_method_6_code_27) ?_
      show Steps p.tables e below (T75.setTop (mkF m 28 #[.val (.ref a1), .val (.ref o1), .val (.ref o1)] [(.int (0 : Int32))])) _
      simp only [if_neg hc76] at k
      exact k
  show own_Goes p e below _ (T75.setTop (mkF m 28 #[.val (.ref a1), .val (.ref o1), .val (.ref o1)] [(.int (if w2 = w1 then (1 : Int32) else (0 : Int32)))]))
  refine own_retV X75 hx hlk Bd.returns (w := (.int (if w2 = w1 then (1 : Int32) else (0 : Int32)))) (own_nb (own_01 (Or.inr rfl) (Or.inl rfl))) (Or.inl ⟨rfl, Or.inr (Or.inl rfl), _, rfl⟩) (hb hby own_dprog_32_method_6_code_28) ?_ (by decide) (by decide)
  show own_e1_Q Z a1 o1 w1 w2 h0 n0 _ T75.heap _
  rw [e75]
  exact ⟨rfl, N0, rfl⟩
theorem own_e2_ef (m : MethodId) (a1 : Addr) : entryFrame m #[(.ref a1), .null] 3 = mkF m 0 #[.val (.ref a1), .val .null, .unset] [] := by first | (simp [entryFrame, mkF, argsToLocals, Value.category]; done) | rfl
def own_e2_Q (Z : State) (a1 : Addr) (h0 : Heap) (n0 : Nat) (v : Option Value) (h : Heap) (L : List Loc) : Prop := v = some (.int (0 : Int32)) ∧ Fr n0 L ∧ h = h0
set_option maxRecDepth 65536 in
set_option maxHeartbeats 40000000 in
theorem own_e2 (l : Launch) (Z : State) (a0 : Array Value) (hw : ∀ d ∈ tables_1, d.before a0 Z = true) (ws : List Jvm.Cond) (a1 : Addr) (h0 : Heap) (n0 : Nat) (Z0 : n0 ≤ h0.size) :
    MetFree l (⟨"com/example/noctule/noctule/core/IntervalTiming", "equals", "(Ljava/lang/Object;)Z"⟩ : MethodName) (head1 (Jvm.Cond.code (⟨"com/example/noctule/noctule/core/IntervalTiming", "equals", "(Ljava/lang/Object;)Z"⟩ : MethodName) prog_32_method_6_code 3 (some .boolean) :: ws) ({ frames := 0, cells := 0, slots := 0, locals := 0 } : Room)) (fun aa U => aa = #[(.ref a1), .null] ∧ Z.Warmed39 U.vm ∧ U.heap = h0) (fun _ _ _ _ _ => True) (fun _ U o U' => ∃ v L, o = .returned v ∧ own_e2_Q Z a1 h0 n0 v U'.heap L ∧ FrameEnd U o U' L ({ frames := 0, cells := 0, slots := 0, locals := 0 } : Room).cells ({ frames := 0, cells := 0, slots := 0, locals := 0 } : Room).slots) := by
  refine MetFree.of_bodySF (plainFor_of_name own_pn3) hisR ?_
  intro p e s m args below meth c s₁ Bd hml0 hP hK
  obtain ⟨rfl, hZ, hh⟩ := hP
  have hx := Bd.exec
  have hby := Bd.bytes
  have hlk := Bd.notSynchronized
  have hml : c.maxLocals = 3 := hml0
  have hown : s.vm.findClass "com/example/noctule/noctule/core/IntervalTiming" = some m.cls := findClass_of_methodNamed Bd.named
  have hnm := (name_of_methodNamed Bd.named Bd.method).1
  have X0 : Stand p l e ({ frames := 0, cells := 0, slots := 0, locals := 0 } : Room) s m #[(.ref a1), .null] below meth c s₁ [] 0 0 := Stand.of_body Bd
  have e0 : s₁.heap = h0 := by rw [← hh, Bd.state]; rfl
  have N0 := Fr.nil n0
  have K0 : Keep h0 h0 [] := Keep.refl h0 _
  show own_Goes p e below (own_Fin s (own_e2_Q Z a1 h0 n0) ({ frames := 0, cells := 0, slots := 0, locals := 0 } : Room).cells ({ frames := 0, cells := 0, slots := 0, locals := 0 } : Room).slots) _
  refine own_step (fun t k => castTop (own_e2_ef m a1) k) ?_
  show own_Goes p e below _ (s₁.setTop (mkF m 0 #[.val (.ref a1), .val .null, .unset] []))
  refine own_step (fun t k => XS.aloadN X0.here hx rfl (hb hby own_dprog_32_method_6_code_0) rfl rfl k) ?_
  show own_Goes p e below _ (s₁.setTop (mkF m 1 #[.val (.ref a1), .val .null, .unset] [.null]))
  refine own_step (fun t k => X0.instanceofNull hx (g := (mkF m 1 #[.val (.ref a1), .val .null, .unset] [.null])) rfl rfl (hb hby own_dprog_32_method_6_code_1) _ k) ?_
  show own_Goes p e below _ (s₁.setTop (mkF m 4 #[.val (.ref a1), .val .null, .unset] [(.int (0 : Int32))]))
  have hc78 : (0 : Int32) = (0 : Int32) := rfl
  refine own_step (fun t k => XS.ifYes X0.here hx rfl (pc0 := 4) (pc' := 27) rfl (hb hby own_dprog_32_method_6_code_4) rfl ((if0 _ _).trans (teq hc78).1) (by decide) (by decide) k) ?_
  show own_Goes p e below _ (s₁.setTop (mkF m 27 #[.val (.ref a1), .val .null, .unset] []))
  refine own_step (fun t k => XS.iconst X0.here hx rfl (hb hby own_dprog_32_method_6_code_27) k) ?_
  show own_Goes p e below _ (s₁.setTop (mkF m 28 #[.val (.ref a1), .val .null, .unset] [(.int (0 : Int32))]))
  refine own_retV X0 hx hlk Bd.returns (w := (.int (0 : Int32))) (own_nb (Or.inl rfl)) (Or.inl ⟨rfl, Or.inr (Or.inl rfl), _, rfl⟩) (hb hby own_dprog_32_method_6_code_28) ?_ (by decide) (by decide)
  show own_e2_Q Z a1 h0 n0 _ s₁.heap _
  rw [e0]
  exact ⟨rfl, N0, rfl⟩
theorem own_e3_ef (m : MethodId) (a1 : Addr) (o1 : Addr) : entryFrame m #[(.ref a1), (.ref o1)] 3 = mkF m 0 #[.val (.ref a1), .val (.ref o1), .unset] [] := by first | (simp [entryFrame, mkF, argsToLocals, Value.category]; done) | rfl
def own_e3_Q (Z : State) (a1 : Addr) (o1 : Addr) (h0 : Heap) (n0 : Nat) (v : Option Value) (h : Heap) (L : List Loc) : Prop := v = some (.int (0 : Int32)) ∧ Fr n0 L ∧ h = h0
set_option maxRecDepth 65536 in
set_option maxHeartbeats 40000000 in
theorem own_e3 (l : Launch) (Z : State) (a0 : Array Value) (hw : ∀ d ∈ tables_1, d.before a0 Z = true) (ws : List Jvm.Cond) (a1 : Addr) (o1 : Addr) (h0 : Heap) (n0 : Nat) (Z0 : n0 ≤ h0.size) (E_o1 : Exa Z h0 o1 "com/example/noctule/noctule/core/UnreadableTiming") :
    MetFree l (⟨"com/example/noctule/noctule/core/IntervalTiming", "equals", "(Ljava/lang/Object;)Z"⟩ : MethodName) (head1 (Jvm.Cond.code (⟨"com/example/noctule/noctule/core/IntervalTiming", "equals", "(Ljava/lang/Object;)Z"⟩ : MethodName) prog_32_method_6_code 3 (some .boolean) :: ws) ({ frames := 0, cells := 0, slots := 0, locals := 0 } : Room)) (fun aa U => aa = #[(.ref a1), (.ref o1)] ∧ Z.Warmed39 U.vm ∧ U.heap = h0) (fun _ _ _ _ _ => True) (fun _ U o U' => ∃ v L, o = .returned v ∧ own_e3_Q Z a1 o1 h0 n0 v U'.heap L ∧ FrameEnd U o U' L ({ frames := 0, cells := 0, slots := 0, locals := 0 } : Room).cells ({ frames := 0, cells := 0, slots := 0, locals := 0 } : Room).slots) := by
  refine MetFree.of_bodySF (plainFor_of_name own_pn3) hisR ?_
  have w1 := hw _ (List.mem_of_getElem? (i := 1) rfl)
  have w48 := hw _ (List.mem_of_getElem? (i := 48) rfl)
  have w50 := hw _ (List.mem_of_getElem? (i := 50) rfl)
  have w51 := hw _ (List.mem_of_getElem? (i := 51) rfl)
  have w52 := hw _ (List.mem_of_getElem? (i := 52) rfl)
  intro p e s m args below meth c s₁ Bd hml0 hP hK
  obtain ⟨rfl, hZ, hh⟩ := hP
  have hx := Bd.exec
  have hby := Bd.bytes
  have hlk := Bd.notSynchronized
  have hml : c.maxLocals = 3 := hml0
  have hown : s.vm.findClass "com/example/noctule/noctule/core/IntervalTiming" = some m.cls := findClass_of_methodNamed Bd.named
  have hnm := (name_of_methodNamed Bd.named Bd.method).1
  have X0 : Stand p l e ({ frames := 0, cells := 0, slots := 0, locals := 0 } : Room) s m #[(.ref a1), (.ref o1)] below meth c s₁ [] 0 0 := Stand.of_body Bd
  have e0 : s₁.heap = h0 := by rw [← hh, Bd.state]; rfl
  have N0 := Fr.nil n0
  have K0 : Keep h0 h0 [] := Keep.refl h0 _
  show own_Goes p e below (own_Fin s (own_e3_Q Z a1 o1 h0 n0) ({ frames := 0, cells := 0, slots := 0, locals := 0 } : Room).cells ({ frames := 0, cells := 0, slots := 0, locals := 0 } : Room).slots) _
  refine own_step (fun t k => castTop (own_e3_ef m a1 o1) k) ?_
  show own_Goes p e below _ (s₁.setTop (mkF m 0 #[.val (.ref a1), .val (.ref o1), .unset] []))
  refine own_step (fun t k => XS.aloadN X0.here hx rfl (hb hby own_dprog_32_method_6_code_0) rfl rfl k) ?_
  show own_Goes p e below _ (s₁.setTop (mkF m 1 #[.val (.ref a1), .val (.ref o1), .unset] [(.ref o1)]))
  obtain ⟨T81, X81, e81, st81⟩ := instNo X0 hx hZ hown w48 e0 E_o1 (own_noinst (t := ["com/example/noctule/noctule/core/Timing", "java/lang/Object"]) (own_c3 w50 w51 w52) w1 (by decide)) (g := (mkF m 1 #[.val (.ref a1), .val (.ref o1), .unset] [(.ref o1)])) rfl rfl (hb hby own_dprog_32_method_6_code_1)
  refine own_step st81 ?_
  show own_Goes p e below _ (T81.setTop (mkF m 4 #[.val (.ref a1), .val (.ref o1), .unset] [(.int (0 : Int32))]))
  have hc82 : (0 : Int32) = (0 : Int32) := rfl
  refine own_step (fun t k => XS.ifYes X81.here hx rfl (pc0 := 4) (pc' := 27) rfl (hb hby own_dprog_32_method_6_code_4) rfl ((if0 _ _).trans (teq hc82).1) (by decide) (by decide) k) ?_
  show own_Goes p e below _ (T81.setTop (mkF m 27 #[.val (.ref a1), .val (.ref o1), .unset] []))
  refine own_step (fun t k => XS.iconst X81.here hx rfl (hb hby own_dprog_32_method_6_code_27) k) ?_
  show own_Goes p e below _ (T81.setTop (mkF m 28 #[.val (.ref a1), .val (.ref o1), .unset] [(.int (0 : Int32))]))
  refine own_retV X81 hx hlk Bd.returns (w := (.int (0 : Int32))) (own_nb (Or.inl rfl)) (Or.inl ⟨rfl, Or.inr (Or.inl rfl), _, rfl⟩) (hb hby own_dprog_32_method_6_code_28) ?_ (by decide) (by decide)
  show own_e3_Q Z a1 o1 h0 n0 _ T81.heap _
  rw [e81]
  exact ⟨rfl, N0, rfl⟩
theorem own_e4_ef (m : MethodId) (a1 : Addr) (o1 : Addr) : entryFrame m #[(.ref a1), (.ref o1)] 3 = mkF m 0 #[.val (.ref a1), .val (.ref o1), .unset] [] := by first | (simp [entryFrame, mkF, argsToLocals, Value.category]; done) | rfl
def own_e4_Q (Z : State) (a1 : Addr) (o1 : Addr) (h0 : Heap) (n0 : Nat) (v : Option Value) (h : Heap) (L : List Loc) : Prop := v = some (.int (0 : Int32)) ∧ Fr n0 L ∧ h = h0
set_option maxRecDepth 65536 in
set_option maxHeartbeats 40000000 in
theorem own_e4 (l : Launch) (Z : State) (a0 : Array Value) (hw : ∀ d ∈ tables_1, d.before a0 Z = true) (ws : List Jvm.Cond) (a1 : Addr) (o1 : Addr) (h0 : Heap) (n0 : Nat) (Z0 : n0 ≤ h0.size) (E_o1 : Exa Z h0 o1 "java/lang/Integer") :
    MetFree l (⟨"com/example/noctule/noctule/core/IntervalTiming", "equals", "(Ljava/lang/Object;)Z"⟩ : MethodName) (head1 (Jvm.Cond.code (⟨"com/example/noctule/noctule/core/IntervalTiming", "equals", "(Ljava/lang/Object;)Z"⟩ : MethodName) prog_32_method_6_code 3 (some .boolean) :: ws) ({ frames := 0, cells := 0, slots := 0, locals := 0 } : Room)) (fun aa U => aa = #[(.ref a1), (.ref o1)] ∧ Z.Warmed39 U.vm ∧ U.heap = h0) (fun _ _ _ _ _ => True) (fun _ U o U' => ∃ v L, o = .returned v ∧ own_e4_Q Z a1 o1 h0 n0 v U'.heap L ∧ FrameEnd U o U' L ({ frames := 0, cells := 0, slots := 0, locals := 0 } : Room).cells ({ frames := 0, cells := 0, slots := 0, locals := 0 } : Room).slots) := by
  refine MetFree.of_bodySF (plainFor_of_name own_pn3) hisR ?_
  have w1 := hw _ (List.mem_of_getElem? (i := 1) rfl)
  have w48 := hw _ (List.mem_of_getElem? (i := 48) rfl)
  have w52 := hw _ (List.mem_of_getElem? (i := 52) rfl)
  have w53 := hw _ (List.mem_of_getElem? (i := 53) rfl)
  have w54 := hw _ (List.mem_of_getElem? (i := 54) rfl)
  intro p e s m args below meth c s₁ Bd hml0 hP hK
  obtain ⟨rfl, hZ, hh⟩ := hP
  have hx := Bd.exec
  have hby := Bd.bytes
  have hlk := Bd.notSynchronized
  have hml : c.maxLocals = 3 := hml0
  have hown : s.vm.findClass "com/example/noctule/noctule/core/IntervalTiming" = some m.cls := findClass_of_methodNamed Bd.named
  have hnm := (name_of_methodNamed Bd.named Bd.method).1
  have X0 : Stand p l e ({ frames := 0, cells := 0, slots := 0, locals := 0 } : Room) s m #[(.ref a1), (.ref o1)] below meth c s₁ [] 0 0 := Stand.of_body Bd
  have e0 : s₁.heap = h0 := by rw [← hh, Bd.state]; rfl
  have N0 := Fr.nil n0
  have K0 : Keep h0 h0 [] := Keep.refl h0 _
  show own_Goes p e below (own_Fin s (own_e4_Q Z a1 o1 h0 n0) ({ frames := 0, cells := 0, slots := 0, locals := 0 } : Room).cells ({ frames := 0, cells := 0, slots := 0, locals := 0 } : Room).slots) _
  refine own_step (fun t k => castTop (own_e4_ef m a1 o1) k) ?_
  show own_Goes p e below _ (s₁.setTop (mkF m 0 #[.val (.ref a1), .val (.ref o1), .unset] []))
  refine own_step (fun t k => XS.aloadN X0.here hx rfl (hb hby own_dprog_32_method_6_code_0) rfl rfl k) ?_
  show own_Goes p e below _ (s₁.setTop (mkF m 1 #[.val (.ref a1), .val (.ref o1), .unset] [(.ref o1)]))
  obtain ⟨T85, X85, e85, st85⟩ := instNo X0 hx hZ hown w48 e0 E_o1 (own_noinst (t := ["java/lang/Number", "java/lang/Object"]) (own_c3 w53 w54 w52) w1 (by decide)) (g := (mkF m 1 #[.val (.ref a1), .val (.ref o1), .unset] [(.ref o1)])) rfl rfl (hb hby own_dprog_32_method_6_code_1)
  refine own_step st85 ?_
  show own_Goes p e below _ (T85.setTop (mkF m 4 #[.val (.ref a1), .val (.ref o1), .unset] [(.int (0 : Int32))]))
  have hc86 : (0 : Int32) = (0 : Int32) := rfl
  refine own_step (fun t k => XS.ifYes X85.here hx rfl (pc0 := 4) (pc' := 27) rfl (hb hby own_dprog_32_method_6_code_4) rfl ((if0 _ _).trans (teq hc86).1) (by decide) (by decide) k) ?_
  show own_Goes p e below _ (T85.setTop (mkF m 27 #[.val (.ref a1), .val (.ref o1), .unset] []))
  refine own_step (fun t k => XS.iconst X85.here hx rfl (hb hby own_dprog_32_method_6_code_27) k) ?_
  show own_Goes p e below _ (T85.setTop (mkF m 28 #[.val (.ref a1), .val (.ref o1), .unset] [(.int (0 : Int32))]))
  refine own_retV X85 hx hlk Bd.returns (w := (.int (0 : Int32))) (own_nb (Or.inl rfl)) (Or.inl ⟨rfl, Or.inr (Or.inl rfl), _, rfl⟩) (hb hby own_dprog_32_method_6_code_28) ?_ (by decide) (by decide)
  show own_e4_Q Z a1 o1 h0 n0 _ T85.heap _
  rw [e85]
  exact ⟨rfl, N0, rfl⟩
theorem own_pn5 : plainName "com/example/noctule/noctule/core/IntervalTimingEqualsPinLaw" = true := by first | (simp [plainName, overriddenIn]; done) | decide +kernel
theorem own_pd2 : parseMethodDescriptor "(I)Ljava/lang/Integer;" = some ⟨[.int], some (.object "java/lang/Integer")⟩ := by decide +kernel
theorem own_pd3 : parseMethodDescriptor "(Ljava/lang/Integer;Ljava/lang/String;Ljava/lang/String;Ljava/time/Instant;)V" = some ⟨[(.object "java/lang/Integer"), (.object "java/lang/String"), (.object "java/lang/String"), (.object "java/time/Instant")], none⟩ := by decide +kernel
theorem own_pd4 : parseMethodDescriptor "(Ljava/lang/Object;)Z" = some ⟨[(.object "java/lang/Object")], some .boolean⟩ := by decide +kernel
theorem own_law_ef (m : MethodId) (p0 : Int32) (p1 : Int32) (p2 : Int32) : entryFrame m #[(.int p0), (.int p1), (.int p2)] maxLocals = mkF m 0 #[.val (.int p0), .val (.int p1), .val (.int p2), .unset, .unset, .unset, .unset, .unset, .unset, .unset, .unset] [] := by first | (simp [entryFrame, mkF, argsToLocals, Value.category, maxLocals]; done) | rfl
set_option maxRecDepth 65536 in
set_option maxHeartbeats 40000000 in
theorem own_law (l : Launch) (Z : State) (a0 : Array Value) (hw : ∀ d ∈ tables_1, d.before a0 Z = true) (ws : List Jvm.Cond) (p0 : Int32) (p1 : Int32) (p2 : Int32) (wc : Addr) (cC : Cell) (wI : Addr) (h0 : Heap) (n0 : Nat) (Z0 : n0 ≤ h0.size) (S_high : Sta Z Z.heap "java/lang/Integer$IntegerCache" "high" "I" (.int (127 : Int32))) (S_cache : Sta Z Z.heap "java/lang/Integer$IntegerCache" "cache" "[Ljava/lang/Integer;" (.ref wc)) (O0 : Old Z n0 h0) (hbx : Bxs Z wc cC "java/lang/Integer" "I" (256 : Int32) own_val) (S_INTERVAL : Sta Z Z.heap "com/example/noctule/noctule/core/ScheduleKind" "INTERVAL" "Lcom/example/noctule/noctule/core/ScheduleKind;" (.ref wI)) :
    MetFree l x (head1 (Jvm.Cond.code x code maxLocals ret :: ws) room_1) (fun aa U => aa = #[(.int p0), (.int p1), (.int p2)] ∧ Z.Warmed39 U.vm ∧ U.heap = h0) (fun _ _ _ _ _ => True) (fun _ U o U' => ∃ v L, o = .returned v ∧ own_Q0 n0 v U'.heap L ∧ FrameEnd U o U' L 24 128) := by
  refine MetFree.of_bodySF (plainFor_of_name own_pn5) hisR ?_
  have w0 := hw _ (List.mem_of_getElem? (i := 0) rfl)
  have w1 := hw _ (List.mem_of_getElem? (i := 1) rfl)
  have w2 := hw _ (List.mem_of_getElem? (i := 2) rfl)
  have w3 := hw _ (List.mem_of_getElem? (i := 3) rfl)
  have w4 := hw _ (List.mem_of_getElem? (i := 4) rfl)
  have w5 := hw _ (List.mem_of_getElem? (i := 5) rfl)
  have w15 := hw _ (List.mem_of_getElem? (i := 15) rfl)
  have w16 := hw _ (List.mem_of_getElem? (i := 16) rfl)
  have w17 := hw _ (List.mem_of_getElem? (i := 17) rfl)
  have w18 := hw _ (List.mem_of_getElem? (i := 18) rfl)
  have w19 := hw _ (List.mem_of_getElem? (i := 19) rfl)
  have w20 := hw _ (List.mem_of_getElem? (i := 20) rfl)
  have w21 := hw _ (List.mem_of_getElem? (i := 21) rfl)
  have w22 := hw _ (List.mem_of_getElem? (i := 22) rfl)
  have w26 := hw _ (List.mem_of_getElem? (i := 26) rfl)
  have w27 := hw _ (List.mem_of_getElem? (i := 27) rfl)
  have w28 := hw _ (List.mem_of_getElem? (i := 28) rfl)
  have w31 := hw _ (List.mem_of_getElem? (i := 31) rfl)
  have w33 := hw _ (List.mem_of_getElem? (i := 33) rfl)
  have w35 := hw _ (List.mem_of_getElem? (i := 35) rfl)
  have w37 := hw _ (List.mem_of_getElem? (i := 37) rfl)
  have w42 := hw _ (List.mem_of_getElem? (i := 42) rfl)
  have w43 := hw _ (List.mem_of_getElem? (i := 43) rfl)
  have w44 := hw _ (List.mem_of_getElem? (i := 44) rfl)
  have w45 := hw _ (List.mem_of_getElem? (i := 45) rfl)
  have w46 := hw _ (List.mem_of_getElem? (i := 46) rfl)
  have w47 := hw _ (List.mem_of_getElem? (i := 47) rfl)
  have w55 := hw _ (List.mem_of_getElem? (i := 55) rfl)
  intro p e s m args below meth c s₁ Bd hml0 hP hK
  obtain ⟨rfl, hZ, hh⟩ := hP
  have hx := Bd.exec
  have hby := Bd.bytes
  have hlk := Bd.notSynchronized
  have hml : c.maxLocals = 11 := hml0
  have hown : s.vm.findClass "com/example/noctule/noctule/core/IntervalTimingEqualsPinLaw" = some m.cls := findClass_of_methodNamed Bd.named
  have hnm := (name_of_methodNamed Bd.named Bd.method).1
  have X0 : Stand p l e room_1 s m #[(.int p0), (.int p1), (.int p2)] below meth c s₁ [] 0 0 := Stand.of_body Bd
  have e0 : s₁.heap = h0 := by rw [← hh, Bd.state]; rfl
  have N0 := Fr.nil n0
  have K0 : Keep h0 h0 [] := Keep.refl h0 _
  show own_Goes p e below (own_Fin s (own_Q0 n0) 24 128) _
  refine own_step (fun t k => castTop (own_law_ef m p0 p1 p2) k) ?_
  show own_Goes p e below _ (s₁.setTop (mkF m 0 #[.val (.int p0), .val (.int p1), .val (.int p2), .unset, .unset, .unset, .unset, .unset, .unset, .unset, .unset] []))
  refine own_step (fun t k => XS.iloadN X0.here hx rfl (hb hby at_0) rfl k) ?_
  show own_Goes p e below _ (s₁.setTop (mkF m 1 #[.val (.int p0), .val (.int p1), .val (.int p2), .unset, .unset, .unset, .unset, .unset, .unset, .unset, .unset] [(.int p2)]))
  refine own_step (fun t k => XS.iconst X0.here hx rfl (hb hby at_1) k) ?_
  show own_Goes p e below _ (s₁.setTop (mkF m 2 #[.val (.int p0), .val (.int p1), .val (.int p2), .unset, .unset, .unset, .unset, .unset, .unset, .unset, .unset] [(.int (3 : Int32)), (.int p2)]))
  refine own_step (fun t k => XS.iand X0.here hx rfl (hb hby at_2) rfl k) ?_
  show own_Goes p e below _ (s₁.setTop (mkF m 3 #[.val (.int p0), .val (.int p1), .val (.int p2), .unset, .unset, .unset, .unset, .unset, .unset, .unset, .unset] [(.int (p2 &&& (3 : Int32)))]))
  refine own_step (fun t k => XS.istoreN X0.here hx rfl (hb hby at_3) rfl (l' := #[.val (.int p0), .val (.int p1), .val (.int p2), .val (.int (p2 &&& (3 : Int32))), .unset, .unset, .unset, .unset, .unset, .unset, .unset]) rfl k) ?_
  show own_Goes p e below _ (s₁.setTop (mkF m 4 #[.val (.int p0), .val (.int p1), .val (.int p2), .val (.int (p2 &&& (3 : Int32))), .unset, .unset, .unset, .unset, .unset, .unset, .unset] []))
  refine own_step (fun t k => XS.iloadN X0.here hx rfl (hb hby at_4) rfl k) ?_
  show own_Goes p e below _ (s₁.setTop (mkF m 5 #[.val (.int p0), .val (.int p1), .val (.int p2), .val (.int (p2 &&& (3 : Int32))), .unset, .unset, .unset, .unset, .unset, .unset, .unset] [(.int (p2 &&& (3 : Int32)))]))
  refine own_step (S' := s₁.setTop (mkF m 44 #[.val (.int p0), .val (.int p1), .val (.int p2), .val (.int (p2 &&& (3 : Int32))), .val (.int (if (p2 &&& (3 : Int32)) = (0 : Int32) then p0 else (if (p2 &&& (3 : Int32)) = (1 : Int32) then (p0 + (1 : Int32)) else (if (p2 &&& (3 : Int32)) = (2 : Int32) then p1 else (p0 ^^^ (-2147483648 : Int32)))))), .unset, .unset, .unset, .unset, .unset, .unset] [])) (fun t k => ?_) ?_
  · show Steps p.tables e below (s₁.setTop (mkF m 5 #[.val (.int p0), .val (.int p1), .val (.int p2), .val (.int (p2 &&& (3 : Int32))), .unset, .unset, .unset, .unset, .unset, .unset, .unset] [(.int (p2 &&& (3 : Int32)))])) _
    by_cases hc87 : (p2 &&& (3 : Int32)) = (0 : Int32)
    · --
      refine XS.ifNo X0.here hx rfl (hb hby at_5) rfl ((if0 _ _).trans (teq hc87).2) ?_
      show Steps p.tables e below (s₁.setTop (mkF m 8 #[.val (.int p0), .val (.int p1), .val (.int p2), .val (.int (p2 &&& (3 : Int32))), .unset, .unset, .unset, .unset, .unset, .unset, .unset] [])) _
      refine XS.iloadN X0.here hx rfl (hb hby at_8) rfl ?_
      show Steps p.tables e below (s₁.setTop (mkF m 9 #[.val (.int p0), .val (.int p1), .val (.int p2), .val (.int (p2 &&& (3 : Int32))), .unset, .unset, .unset, .unset, .unset, .unset, .unset] [(.int p0)])) _
      refine XS.istore X0.here hx rfl (hb hby at_9) rfl (l' := #[.val (.int p0), .val (.int p1), .val (.int p2), .val (.int (p2 &&& (3 : Int32))), .val (.int p0), .unset, .unset, .unset, .unset, .unset, .unset]) rfl ?_
      show Steps p.tables e below (s₁.setTop (mkF m 11 #[.val (.int p0), .val (.int p1), .val (.int p2), .val (.int (p2 &&& (3 : Int32))), .val (.int p0), .unset, .unset, .unset, .unset, .unset, .unset] [])) _
      refine XS.goto X0.here hx rfl (pc0 := 11) (pc' := 44) rfl (hb hby at_11) (by decide) (by decide) ?_
      show Steps p.tables e below (s₁.setTop (mkF m 44 #[.val (.int p0), .val (.int p1), .val (.int p2), .val (.int (p2 &&& (3 : Int32))), .val (.int p0), .unset, .unset, .unset, .unset, .unset, .unset] [])) _
      simp only [if_pos hc87] at k
      exact k
    · --
      refine XS.ifYes X0.here hx rfl (pc0 := 5) (pc' := 14) rfl (hb hby at_5) rfl ((if0 _ _).trans (feq hc87).2) (by decide) (by decide) ?_
      show Steps p.tables e below (s₁.setTop (mkF m 14 #[.val (.int p0), .val (.int p1), .val (.int p2), .val (.int (p2 &&& (3 : Int32))), .unset, .unset, .unset, .unset, .unset, .unset, .unset] [])) _
      refine XS.iloadN X0.here hx rfl (hb hby at_14) rfl ?_
      show Steps p.tables e below (s₁.setTop (mkF m 15 #[.val (.int p0), .val (.int p1), .val (.int p2), .val (.int (p2 &&& (3 : Int32))), .unset, .unset, .unset, .unset, .unset, .unset, .unset] [(.int (p2 &&& (3 : Int32)))])) _
      refine XS.iconst X0.here hx rfl (hb hby at_15) ?_
      show Steps p.tables e below (s₁.setTop (mkF m 16 #[.val (.int p0), .val (.int p1), .val (.int p2), .val (.int (p2 &&& (3 : Int32))), .unset, .unset, .unset, .unset, .unset, .unset, .unset] [(.int (1 : Int32)), (.int (p2 &&& (3 : Int32)))])) _
      by_cases hc88 : (p2 &&& (3 : Int32)) = (1 : Int32)
      · --
        refine XS.icmpNo X0.here hx rfl (hb hby at_16) rfl (teq hc88).2 ?_
        show Steps p.tables e below (s₁.setTop (mkF m 19 #[.val (.int p0), .val (.int p1), .val (.int p2), .val (.int (p2 &&& (3 : Int32))), .unset, .unset, .unset, .unset, .unset, .unset, .unset] [])) _
        refine XS.iloadN X0.here hx rfl (hb hby at_19) rfl ?_
        show Steps p.tables e below (s₁.setTop (mkF m 20 #[.val (.int p0), .val (.int p1), .val (.int p2), .val (.int (p2 &&& (3 : Int32))), .unset, .unset, .unset, .unset, .unset, .unset, .unset] [(.int p0)])) _
        refine XS.iconst X0.here hx rfl (hb hby at_20) ?_
        show Steps p.tables e below (s₁.setTop (mkF m 21 #[.val (.int p0), .val (.int p1), .val (.int p2), .val (.int (p2 &&& (3 : Int32))), .unset, .unset, .unset, .unset, .unset, .unset, .unset] [(.int (1 : Int32)), (.int p0)])) _
        refine XS.iadd X0.here hx rfl (hb hby at_21) rfl ?_
        show Steps p.tables e below (s₁.setTop (mkF m 22 #[.val (.int p0), .val (.int p1), .val (.int p2), .val (.int (p2 &&& (3 : Int32))), .unset, .unset, .unset, .unset, .unset, .unset, .unset] [(.int (p0 + (1 : Int32)))])) _
        refine XS.istore X0.here hx rfl (hb hby at_22) rfl (l' := #[.val (.int p0), .val (.int p1), .val (.int p2), .val (.int (p2 &&& (3 : Int32))), .val (.int (p0 + (1 : Int32))), .unset, .unset, .unset, .unset, .unset, .unset]) rfl ?_
        show Steps p.tables e below (s₁.setTop (mkF m 24 #[.val (.int p0), .val (.int p1), .val (.int p2), .val (.int (p2 &&& (3 : Int32))), .val (.int (p0 + (1 : Int32))), .unset, .unset, .unset, .unset, .unset, .unset] [])) _
        refine XS.goto X0.here hx rfl (pc0 := 24) (pc' := 44) rfl (hb hby at_24) (by decide) (by decide) ?_
        show Steps p.tables e below (s₁.setTop (mkF m 44 #[.val (.int p0), .val (.int p1), .val (.int p2), .val (.int (p2 &&& (3 : Int32))), .val (.int (p0 + (1 : Int32))), .unset, .unset, .unset, .unset, .unset, .unset] [])) _
        simp only [if_neg hc87, if_pos hc88] at k
        exact k
      · --
        refine XS.icmpYes X0.here hx rfl (pc0 := 16) (pc' := 27) rfl (hb hby at_16) rfl (feq hc88).2 (by decide) (by decide) ?_
        show Steps p.tables e below (s₁.setTop (mkF m 27 #[.val (.int p0), .val (.int p1), .val (.int p2), .val (.int (p2 &&& (3 : Int32))), .unset, .unset, .unset, .unset, .unset, .unset, .unset] [])) _
        refine XS.iloadN X0.here hx rfl (hb hby at_27) rfl ?_
        show Steps p.tables e below (s₁.setTop (mkF m 28 #[.val (.int p0), .val (.int p1), .val (.int p2), .val (.int (p2 &&& (3 : Int32))), .unset, .unset, .unset, .unset, .unset, .unset, .unset] [(.int (p2 &&& (3 : Int32)))])) _
        refine XS.iconst X0.here hx rfl (hb hby at_28) ?_
        show Steps p.tables e below (s₁.setTop (mkF m 29 #[.val (.int p0), .val (.int p1), .val (.int p2), .val (.int (p2 &&& (3 : Int32))), .unset, .unset, .unset, .unset, .unset, .unset, .unset] [(.int (2 : Int32)), (.int (p2 &&& (3 : Int32)))])) _
        by_cases hc89 : (p2 &&& (3 : Int32)) = (2 : Int32)
        · --
          refine XS.icmpNo X0.here hx rfl (hb hby at_29) rfl (teq hc89).2 ?_
          show Steps p.tables e below (s₁.setTop (mkF m 32 #[.val (.int p0), .val (.int p1), .val (.int p2), .val (.int (p2 &&& (3 : Int32))), .unset, .unset, .unset, .unset, .unset, .unset, .unset] [])) _
          refine XS.iloadN X0.here hx rfl (hb hby at_32) rfl ?_
          show Steps p.tables e below (s₁.setTop (mkF m 33 #[.val (.int p0), .val (.int p1), .val (.int p2), .val (.int (p2 &&& (3 : Int32))), .unset, .unset, .unset, .unset, .unset, .unset, .unset] [(.int p1)])) _
          refine XS.istore X0.here hx rfl (hb hby at_33) rfl (l' := #[.val (.int p0), .val (.int p1), .val (.int p2), .val (.int (p2 &&& (3 : Int32))), .val (.int p1), .unset, .unset, .unset, .unset, .unset, .unset]) rfl ?_
          show Steps p.tables e below (s₁.setTop (mkF m 35 #[.val (.int p0), .val (.int p1), .val (.int p2), .val (.int (p2 &&& (3 : Int32))), .val (.int p1), .unset, .unset, .unset, .unset, .unset, .unset] [])) _
          refine XS.goto X0.here hx rfl (pc0 := 35) (pc' := 44) rfl (hb hby at_35) (by decide) (by decide) ?_
          show Steps p.tables e below (s₁.setTop (mkF m 44 #[.val (.int p0), .val (.int p1), .val (.int p2), .val (.int (p2 &&& (3 : Int32))), .val (.int p1), .unset, .unset, .unset, .unset, .unset, .unset] [])) _
          simp only [if_neg hc87, if_neg hc88, if_pos hc89] at k
          exact k
        · --
          refine XS.icmpYes X0.here hx rfl (pc0 := 29) (pc' := 38) rfl (hb hby at_29) rfl (feq hc89).2 (by decide) (by decide) ?_
          show Steps p.tables e below (s₁.setTop (mkF m 38 #[.val (.int p0), .val (.int p1), .val (.int p2), .val (.int (p2 &&& (3 : Int32))), .unset, .unset, .unset, .unset, .unset, .unset, .unset] [])) _
          refine XS.iloadN X0.here hx rfl (hb hby at_38) rfl ?_
          show Steps p.tables e below (s₁.setTop (mkF m 39 #[.val (.int p0), .val (.int p1), .val (.int p2), .val (.int (p2 &&& (3 : Int32))), .unset, .unset, .unset, .unset, .unset, .unset, .unset] [(.int p0)])) _
          refine X0.ldcInt hx hown (mvT hZ w55) (g := (mkF m 39 #[.val (.int p0), .val (.int p1), .val (.int p2), .val (.int (p2 &&& (3 : Int32))), .unset, .unset, .unset, .unset, .unset, .unset, .unset] [(.int p0)])) rfl (hb hby at_39) _ ?_
          show Steps p.tables e below (s₁.setTop (mkF m 41 #[.val (.int p0), .val (.int p1), .val (.int p2), .val (.int (p2 &&& (3 : Int32))), .unset, .unset, .unset, .unset, .unset, .unset, .unset] [(.int (-2147483648 : Int32)), (.int p0)])) _
          refine XS.ixor X0.here hx rfl (hb hby at_41) rfl ?_
          show Steps p.tables e below (s₁.setTop (mkF m 42 #[.val (.int p0), .val (.int p1), .val (.int p2), .val (.int (p2 &&& (3 : Int32))), .unset, .unset, .unset, .unset, .unset, .unset, .unset] [(.int (p0 ^^^ (-2147483648 : Int32)))])) _
          refine XS.istore X0.here hx rfl (hb hby at_42) rfl (l' := #[.val (.int p0), .val (.int p1), .val (.int p2), .val (.int (p2 &&& (3 : Int32))), .val (.int (p0 ^^^ (-2147483648 : Int32))), .unset, .unset, .unset, .unset, .unset, .unset]) rfl ?_
          show Steps p.tables e below (s₁.setTop (mkF m 44 #[.val (.int p0), .val (.int p1), .val (.int p2), .val (.int (p2 &&& (3 : Int32))), .val (.int (p0 ^^^ (-2147483648 : Int32))), .unset, .unset, .unset, .unset, .unset, .unset] [])) _
          simp only [if_neg hc87, if_neg hc88, if_neg hc89] at k
          exact k
  show own_Goes p e below _ (s₁.setTop (mkF m 44 #[.val (.int p0), .val (.int p1), .val (.int p2), .val (.int (p2 &&& (3 : Int32))), .val (.int (if (p2 &&& (3 : Int32)) = (0 : Int32) then p0 else (if (p2 &&& (3 : Int32)) = (1 : Int32) then (p0 + (1 : Int32)) else (if (p2 &&& (3 : Int32)) = (2 : Int32) then p1 else (p0 ^^^ (-2147483648 : Int32)))))), .unset, .unset, .unset, .unset, .unset, .unset] []))
  generalize hv_vc : (if (p2 &&& (3 : Int32)) = (0 : Int32) then p0 else (if (p2 &&& (3 : Int32)) = (1 : Int32) then (p0 + (1 : Int32)) else (if (p2 &&& (3 : Int32)) = (2 : Int32) then p1 else (p0 ^^^ (-2147483648 : Int32))))) = vc
  obtain ⟨T90, h90, X90, e90, E90, A90, D90, -, st90⟩ := newO X0 hx hZ hown w0 w1 w2 e0 (g := (mkF m 44 #[.val (.int p0), .val (.int p1), .val (.int p2), .val (.int (p2 &&& (3 : Int32))), .val (.int vc), .unset, .unset, .unset, .unset, .unset, .unset] [])) rfl (hb hby at_44) (by decide) (by decide)
  obtain ⟨b90, g90⟩ : ∃ z, z = h0.size := ⟨_, rfl⟩
  rw [← g90] at A90 D90 st90
  have g_b90 : n0 ≤ b90 := Nat.le_trans Z0 (Nat.le_of_eq g90.symm)
  have sz_b90 : h0.size ≤ b90 := Nat.le_trans K0.1 (Nat.le_of_eq g90.symm)
  have K91 : Keep h0 h90 [] := K0.ext E90
  have F_seconds_b90 : Fld Z h90 b90 "com/example/noctule/noctule/core/IntervalTiming" "seconds" "I" (.int (0 : Int32)) := D90 (Or.inr w15) (ty := .int) (by decide)
  refine own_step st90 ?_
  show own_Goes p e below _ (T90.setTop (mkF m 47 #[.val (.int p0), .val (.int p1), .val (.int p2), .val (.int (p2 &&& (3 : Int32))), .val (.int vc), .unset, .unset, .unset, .unset, .unset, .unset] [(.ref b90)]))
  refine own_step (fun t k => XS.dup X90.here hx rfl (hb hby at_47) rfl rfl k) ?_
  show own_Goes p e below _ (T90.setTop (mkF m 48 #[.val (.int p0), .val (.int p1), .val (.int p2), .val (.int (p2 &&& (3 : Int32))), .val (.int vc), .unset, .unset, .unset, .unset, .unset, .unset] [(.ref b90), (.ref b90)]))
  refine own_step (fun t k => XS.iloadN X90.here hx rfl (hb hby at_48) rfl k) ?_
  show own_Goes p e below _ (T90.setTop (mkF m 49 #[.val (.int p0), .val (.int p1), .val (.int p2), .val (.int (p2 &&& (3 : Int32))), .val (.int vc), .unset, .unset, .unset, .unset, .unset, .unset] [(.int p0), (.ref b90), (.ref b90)]))
  obtain ⟨_, _, ⟨T92, L92, k92, n92⟩, -, X92, ⟨Lc92, hQ92, l92, y92, z92⟩, st92⟩ := X90.specialBack hx (y := (⟨"com/example/noctule/noctule/core/IntervalTiming", "<init>", "(I)V"⟩ : MethodName)) rfl hown (mvT hZ w3) (mvT hZ w4) (mvT hZ w5) (by decide) (backOf (W := 1) (own_b2 l Z a0 hw [] b90 p0 ((.int (0 : Int32))) h90 n0 (Nat.le_trans Z0 E90.1) A90 g_b90 F_seconds_b90) hZ w5 w2 (by decide) (by decide)) (g := (mkF m 49 #[.val (.int p0), .val (.int p1), .val (.int p2), .val (.int (p2 &&& (3 : Int32))), .val (.int vc), .unset, .unset, .unset, .unset, .unset, .unset] [(.int p0), (.ref b90), (.ref b90)])) rfl (by rw [hml]; rfl) (Steps.refl _) (a := b90) (argsL := [(.int p0)]) (rest := [(.ref b90)]) (lenOf own_pd1 rfl) rfl (by show 2 * 0 + _ ≤ _; exact Nat.le_of_eq rfl) (hb hby at_49) (fun _ _ => ⟨rfl, e90, (by decide : 1 + 0 ≤ _), (by decide : 1 + 0 ≤ _)⟩)
  dsimp only [Pt.U, Pt.locs, Pt.cells, Pt.slots] at X92 l92 y92 z92 st92 hQ92
  subst l92 y92 z92
  obtain ⟨rfl, N92q, K92c, f92_0, f92_1⟩ := hQ92
  have N92 := Fr.app N0 N92q
  refine own_jump st92 ?_
  have K93 : Keep h0 T92.heap [] := K91.trans K92c (allS (Or.inr sz_b90) all0)
  show own_Goes p e below _ (T92.setTop (mkF m 52 #[.val (.int p0), .val (.int p1), .val (.int p2), .val (.int (p2 &&& (3 : Int32))), .val (.int vc), .unset, .unset, .unset, .unset, .unset, .unset] [(.ref b90)]))
  refine own_step (fun t k => XS.astore X92.here hx rfl (hb hby at_52) rfl rfl (l' := #[.val (.int p0), .val (.int p1), .val (.int p2), .val (.int (p2 &&& (3 : Int32))), .val (.int vc), .val (.ref b90), .unset, .unset, .unset, .unset, .unset]) rfl k) ?_
  show own_Goes p e below _ (T92.setTop (mkF m 54 #[.val (.int p0), .val (.int p1), .val (.int p2), .val (.int (p2 &&& (3 : Int32))), .val (.int vc), .val (.ref b90), .unset, .unset, .unset, .unset, .unset] []))
  obtain ⟨T94, h94, X94, e94, E94, A94, D94, -, st94⟩ := newO X92 hx hZ hown w0 w1 w2 rfl (g := (mkF m 54 #[.val (.int p0), .val (.int p1), .val (.int p2), .val (.int (p2 &&& (3 : Int32))), .val (.int vc), .val (.ref b90), .unset, .unset, .unset, .unset, .unset] [])) rfl (hb hby at_54) (by decide) (by decide)
  obtain ⟨b94, g94⟩ : ∃ z, z = T92.heap.size := ⟨_, rfl⟩
  rw [← g94] at A94 D94 st94
  have ne_b90_b94 : b90 ≠ b94 := Nat.ne_of_lt (Nat.lt_of_lt_of_le f92_0.lt (Nat.le_of_eq g94.symm))
  have g_b94 : n0 ≤ b94 := Nat.le_trans (Nat.le_trans (Nat.le_trans Z0 E90.1) K92c.1) (Nat.le_of_eq g94.symm)
  have sz_b94 : h0.size ≤ b94 := Nat.le_trans K93.1 (Nat.le_of_eq g94.symm)
  have K95 : Keep h0 h94 [] := K93.ext E94
  have F_seconds_b94 : Fld Z h94 b94 "com/example/noctule/noctule/core/IntervalTiming" "seconds" "I" (.int (0 : Int32)) := D94 (Or.inr w15) (ty := .int) (by decide)
  refine own_step st94 ?_
  show own_Goes p e below _ (T94.setTop (mkF m 57 #[.val (.int p0), .val (.int p1), .val (.int p2), .val (.int (p2 &&& (3 : Int32))), .val (.int vc), .val (.ref b90), .unset, .unset, .unset, .unset, .unset] [(.ref b94)]))
  refine own_step (fun t k => XS.dup X94.here hx rfl (hb hby at_57) rfl rfl k) ?_
  show own_Goes p e below _ (T94.setTop (mkF m 58 #[.val (.int p0), .val (.int p1), .val (.int p2), .val (.int (p2 &&& (3 : Int32))), .val (.int vc), .val (.ref b90), .unset, .unset, .unset, .unset, .unset] [(.ref b94), (.ref b94)]))
  refine own_step (fun t k => XS.iload X94.here hx rfl (hb hby at_58) rfl k) ?_
  show own_Goes p e below _ (T94.setTop (mkF m 60 #[.val (.int p0), .val (.int p1), .val (.int p2), .val (.int (p2 &&& (3 : Int32))), .val (.int vc), .val (.ref b90), .unset, .unset, .unset, .unset, .unset] [(.int vc), (.ref b94), (.ref b94)]))
  obtain ⟨_, _, ⟨T96, L96, k96, n96⟩, -, X96, ⟨Lc96, hQ96, l96, y96, z96⟩, st96⟩ := X94.specialBack hx (y := (⟨"com/example/noctule/noctule/core/IntervalTiming", "<init>", "(I)V"⟩ : MethodName)) rfl hown (mvT hZ w3) (mvT hZ w4) (mvT hZ w5) (by decide) (backOf (W := 1) (own_b2 l Z a0 hw [] b94 vc ((.int (0 : Int32))) h94 n0 (Nat.le_trans (Nat.le_trans (Nat.le_trans Z0 E90.1) K92c.1) E94.1) A94 g_b94 F_seconds_b94) hZ w5 w2 (by decide) (by decide)) (g := (mkF m 60 #[.val (.int p0), .val (.int p1), .val (.int p2), .val (.int (p2 &&& (3 : Int32))), .val (.int vc), .val (.ref b90), .unset, .unset, .unset, .unset, .unset] [(.int vc), (.ref b94), (.ref b94)])) rfl (by rw [hml]; rfl) (Steps.refl _) (a := b94) (argsL := [(.int vc)]) (rest := [(.ref b94)]) (lenOf own_pd1 rfl) rfl (by show 2 * 0 + _ ≤ _; exact Nat.le_of_eq rfl) (hb hby at_60) (fun _ _ => ⟨rfl, e94, (by decide : 2 + 0 ≤ _), (by decide : 2 + 0 ≤ _)⟩)
  dsimp only [Pt.U, Pt.locs, Pt.cells, Pt.slots] at X96 l96 y96 z96 st96 hQ96
  subst l96 y96 z96
  obtain ⟨rfl, N96q, K96c, f96_0, f96_1⟩ := hQ96
  have N96 := Fr.app N92 N96q
  refine own_jump st96 ?_
  have K97 : Keep h0 T96.heap [] := K95.trans K96c (allS (Or.inr sz_b94) all0)
  show own_Goes p e below _ (T96.setTop (mkF m 63 #[.val (.int p0), .val (.int p1), .val (.int p2), .val (.int (p2 &&& (3 : Int32))), .val (.int vc), .val (.ref b90), .unset, .unset, .unset, .unset, .unset] [(.ref b94)]))
  refine own_step (fun t k => XS.astore X96.here hx rfl (hb hby at_63) rfl rfl (l' := #[.val (.int p0), .val (.int p1), .val (.int p2), .val (.int (p2 &&& (3 : Int32))), .val (.int vc), .val (.ref b90), .val (.ref b94), .unset, .unset, .unset, .unset]) rfl k) ?_
  show own_Goes p e below _ (T96.setTop (mkF m 65 #[.val (.int p0), .val (.int p1), .val (.int p2), .val (.int (p2 &&& (3 : Int32))), .val (.int vc), .val (.ref b90), .val (.ref b94), .unset, .unset, .unset, .unset] []))
  obtain ⟨T98, h98, X98, e98, E98, A98, D98, -, st98⟩ := newO X96 hx hZ hown w0 w1 w2 rfl (g := (mkF m 65 #[.val (.int p0), .val (.int p1), .val (.int p2), .val (.int (p2 &&& (3 : Int32))), .val (.int vc), .val (.ref b90), .val (.ref b94), .unset, .unset, .unset, .unset] [])) rfl (hb hby at_65) (by decide) (by decide)
  obtain ⟨b98, g98⟩ : ∃ z, z = T96.heap.size := ⟨_, rfl⟩
  rw [← g98] at A98 D98 st98
  have ne_b90_b98 : b90 ≠ b98 := Nat.ne_of_lt (Nat.lt_of_lt_of_le ((f92_0.ext E94).keep K96c).lt (Nat.le_of_eq g98.symm))
  have ne_b94_b98 : b94 ≠ b98 := Nat.ne_of_lt (Nat.lt_of_lt_of_le f96_0.lt (Nat.le_of_eq g98.symm))
  have g_b98 : n0 ≤ b98 := Nat.le_trans (Nat.le_trans (Nat.le_trans (Nat.le_trans (Nat.le_trans Z0 E90.1) K92c.1) E94.1) K96c.1) (Nat.le_of_eq g98.symm)
  have sz_b98 : h0.size ≤ b98 := Nat.le_trans K97.1 (Nat.le_of_eq g98.symm)
  have K99 : Keep h0 h98 [] := K97.ext E98
  have F_seconds_b98 : Fld Z h98 b98 "com/example/noctule/noctule/core/IntervalTiming" "seconds" "I" (.int (0 : Int32)) := D98 (Or.inr w15) (ty := .int) (by decide)
  refine own_step st98 ?_
  show own_Goes p e below _ (T98.setTop (mkF m 68 #[.val (.int p0), .val (.int p1), .val (.int p2), .val (.int (p2 &&& (3 : Int32))), .val (.int vc), .val (.ref b90), .val (.ref b94), .unset, .unset, .unset, .unset] [(.ref b98)]))
  refine own_step (fun t k => XS.dup X98.here hx rfl (hb hby at_68) rfl rfl k) ?_
  show own_Goes p e below _ (T98.setTop (mkF m 69 #[.val (.int p0), .val (.int p1), .val (.int p2), .val (.int (p2 &&& (3 : Int32))), .val (.int vc), .val (.ref b90), .val (.ref b94), .unset, .unset, .unset, .unset] [(.ref b98), (.ref b98)]))
  refine own_step (fun t k => XS.iloadN X98.here hx rfl (hb hby at_69) rfl k) ?_
  show own_Goes p e below _ (T98.setTop (mkF m 70 #[.val (.int p0), .val (.int p1), .val (.int p2), .val (.int (p2 &&& (3 : Int32))), .val (.int vc), .val (.ref b90), .val (.ref b94), .unset, .unset, .unset, .unset] [(.int p0), (.ref b98), (.ref b98)]))
  obtain ⟨_, _, ⟨T100, L100, k100, n100⟩, -, X100, ⟨Lc100, hQ100, l100, y100, z100⟩, st100⟩ := X98.specialBack hx (y := (⟨"com/example/noctule/noctule/core/IntervalTiming", "<init>", "(I)V"⟩ : MethodName)) rfl hown (mvT hZ w3) (mvT hZ w4) (mvT hZ w5) (by decide) (backOf (W := 1) (own_b2 l Z a0 hw [] b98 p0 ((.int (0 : Int32))) h98 n0 (Nat.le_trans (Nat.le_trans (Nat.le_trans (Nat.le_trans (Nat.le_trans Z0 E90.1) K92c.1) E94.1) K96c.1) E98.1) A98 g_b98 F_seconds_b98) hZ w5 w2 (by decide) (by decide)) (g := (mkF m 70 #[.val (.int p0), .val (.int p1), .val (.int p2), .val (.int (p2 &&& (3 : Int32))), .val (.int vc), .val (.ref b90), .val (.ref b94), .unset, .unset, .unset, .unset] [(.int p0), (.ref b98), (.ref b98)])) rfl (by rw [hml]; rfl) (Steps.refl _) (a := b98) (argsL := [(.int p0)]) (rest := [(.ref b98)]) (lenOf own_pd1 rfl) rfl (by show 2 * 0 + _ ≤ _; exact Nat.le_of_eq rfl) (hb hby at_70) (fun _ _ => ⟨rfl, e98, (by decide : 3 + 0 ≤ _), (by decide : 3 + 0 ≤ _)⟩)
  dsimp only [Pt.U, Pt.locs, Pt.cells, Pt.slots] at X100 l100 y100 z100 st100 hQ100
  subst l100 y100 z100
  obtain ⟨rfl, N100q, K100c, f100_0, f100_1⟩ := hQ100
  have N100 := Fr.app N96 N100q
  refine own_jump st100 ?_
  have K101 : Keep h0 T100.heap [] := K99.trans K100c (allS (Or.inr sz_b98) all0)
  show own_Goes p e below _ (T100.setTop (mkF m 73 #[.val (.int p0), .val (.int p1), .val (.int p2), .val (.int (p2 &&& (3 : Int32))), .val (.int vc), .val (.ref b90), .val (.ref b94), .unset, .unset, .unset, .unset] [(.ref b98)]))
  refine own_step (fun t k => XS.astore X100.here hx rfl (hb hby at_73) rfl rfl (l' := #[.val (.int p0), .val (.int p1), .val (.int p2), .val (.int (p2 &&& (3 : Int32))), .val (.int vc), .val (.ref b90), .val (.ref b94), .val (.ref b98), .unset, .unset, .unset]) rfl k) ?_
  show own_Goes p e below _ (T100.setTop (mkF m 75 #[.val (.int p0), .val (.int p1), .val (.int p2), .val (.int (p2 &&& (3 : Int32))), .val (.int vc), .val (.ref b90), .val (.ref b94), .val (.ref b98), .unset, .unset, .unset] []))
  obtain ⟨T102, h102, X102, e102, E102, A102, D102, -, st102⟩ := newO X100 hx hZ hown w16 w17 w18 rfl (g := (mkF m 75 #[.val (.int p0), .val (.int p1), .val (.int p2), .val (.int (p2 &&& (3 : Int32))), .val (.int vc), .val (.ref b90), .val (.ref b94), .val (.ref b98), .unset, .unset, .unset] [])) rfl (hb hby at_75) (by decide) (by decide)
  obtain ⟨b102, g102⟩ : ∃ z, z = T100.heap.size := ⟨_, rfl⟩
  rw [← g102] at A102 D102 st102
  have ne_b90_b102 : b90 ≠ b102 := Nat.ne_of_lt (Nat.lt_of_lt_of_le ((((f92_0.ext E94).keep K96c).ext E98).keep K100c).lt (Nat.le_of_eq g102.symm))
  have ne_b94_b102 : b94 ≠ b102 := Nat.ne_of_lt (Nat.lt_of_lt_of_le ((f96_0.ext E98).keep K100c).lt (Nat.le_of_eq g102.symm))
  have ne_b98_b102 : b98 ≠ b102 := Nat.ne_of_lt (Nat.lt_of_lt_of_le f100_0.lt (Nat.le_of_eq g102.symm))
  have g_b102 : n0 ≤ b102 := Nat.le_trans (Nat.le_trans (Nat.le_trans (Nat.le_trans (Nat.le_trans (Nat.le_trans (Nat.le_trans Z0 E90.1) K92c.1) E94.1) K96c.1) E98.1) K100c.1) (Nat.le_of_eq g102.symm)
  have sz_b102 : h0.size ≤ b102 := Nat.le_trans K101.1 (Nat.le_of_eq g102.symm)
  have K103 : Keep h0 h102 [] := K101.ext E102
  have F_intervalSeconds_b102 : Fld Z h102 b102 "com/example/noctule/noctule/core/UnreadableTiming" "intervalSeconds" "Ljava/lang/Integer;" .null := D102 (Or.inr w31) (ty := (.object "java/lang/Integer")) (by decide)
  have F_cron_b102 : Fld Z h102 b102 "com/example/noctule/noctule/core/UnreadableTiming" "cron" "Ljava/lang/String;" .null := D102 (Or.inr w33) (ty := (.object "java/lang/String")) (by decide)
  have F_timezone_b102 : Fld Z h102 b102 "com/example/noctule/noctule/core/UnreadableTiming" "timezone" "Ljava/lang/String;" .null := D102 (Or.inr w35) (ty := (.object "java/lang/String")) (by decide)
  have F_runAt_b102 : Fld Z h102 b102 "com/example/noctule/noctule/core/UnreadableTiming" "runAt" "Ljava/time/Instant;" .null := D102 (Or.inr w37) (ty := (.object "java/time/Instant")) (by decide)
  have F_kind_b102 : Fld Z h102 b102 "com/example/noctule/noctule/core/UnreadableTiming" "kind" "Lcom/example/noctule/noctule/core/ScheduleKind;" .null := D102 (Or.inr w42) (ty := (.object "com/example/noctule/noctule/core/ScheduleKind")) (by decide)
  refine own_step st102 ?_
  show own_Goes p e below _ (T102.setTop (mkF m 78 #[.val (.int p0), .val (.int p1), .val (.int p2), .val (.int (p2 &&& (3 : Int32))), .val (.int vc), .val (.ref b90), .val (.ref b94), .val (.ref b98), .unset, .unset, .unset] [(.ref b102)]))
  refine own_step (fun t k => XS.dup X102.here hx rfl (hb hby at_78) rfl rfl k) ?_
  show own_Goes p e below _ (T102.setTop (mkF m 79 #[.val (.int p0), .val (.int p1), .val (.int p2), .val (.int (p2 &&& (3 : Int32))), .val (.int vc), .val (.ref b90), .val (.ref b94), .val (.ref b98), .unset, .unset, .unset] [(.ref b102), (.ref b102)]))
  refine own_step (fun t k => XS.iloadN X102.here hx rfl (hb hby at_79) rfl k) ?_
  show own_Goes p e below _ (T102.setTop (mkF m 80 #[.val (.int p0), .val (.int p1), .val (.int p2), .val (.int (p2 &&& (3 : Int32))), .val (.int vc), .val (.ref b90), .val (.ref b94), .val (.ref b98), .unset, .unset, .unset] [(.int p0), (.ref b102), (.ref b102)]))
  obtain ⟨_, _, ⟨T104, L104, k104, n104⟩, -, X104, ⟨Lc104, hQ104, l104, y104, z104⟩, st104⟩ := Jvm.LawKit.callS X102 hx (y := (⟨"java/lang/Integer", "valueOf", "(I)Ljava/lang/Integer;"⟩ : MethodName)) hown (mvT hZ w19) (mvT hZ w20) (mvT hZ w21) (mvT hZ w22) (by decide) (backOf (W := 2) (own_n3 l Z a0 hw [] p0 (wc) (cC) h102 n0 (Nat.le_trans (Nat.le_trans (Nat.le_trans (Nat.le_trans (Nat.le_trans (Nat.le_trans (Nat.le_trans Z0 E90.1) K92c.1) E94.1) K96c.1) E98.1) K100c.1) E102.1) S_high S_cache (((((((O0.ext E90).keep K92c (allS g_b90 all0)).ext E94).keep K96c (allS g_b94 all0)).ext E98).keep K100c (allS g_b98 all0)).ext E102) (hbx)) hZ w22 w21 (by decide) (by decide)) (g := (mkF m 80 #[.val (.int p0), .val (.int p1), .val (.int p2), .val (.int (p2 &&& (3 : Int32))), .val (.int vc), .val (.ref b90), .val (.ref b94), .val (.ref b98), .unset, .unset, .unset] [(.int p0), (.ref b102), (.ref b102)])) rfl (by rw [hml]; rfl) (argsL := [(.int p0)]) (rest := [(.ref b102), (.ref b102)]) (lenOf own_pd2 rfl) rfl (by show 2 * 0 + _ ≤ _; exact Nat.le_of_eq rfl) (hb hby at_80) (fun _ _ => ⟨rfl, e102, (by decide : 4 + 1 ≤ _), (by decide : 8 + 1 ≤ _)⟩)
  dsimp only [Pt.U, Pt.locs, Pt.cells, Pt.slots] at X104 l104 y104 z104 st104 hQ104
  subst l104 y104 z104
  obtain ⟨xx_104, rfl, N104q, K104c, f104_0⟩ := hQ104
  have N104 := Fr.app N100 N104q
  refine own_step st104 ?_
  have K105 : Keep h0 T104.heap [] := K103.trans K104c all0
  show own_Goes p e below _ (T104.setTop (mkF m 83 #[.val (.int p0), .val (.int p1), .val (.int p2), .val (.int (p2 &&& (3 : Int32))), .val (.int vc), .val (.ref b90), .val (.ref b94), .val (.ref b98), .unset, .unset, .unset] [(.ref xx_104), (.ref b102), (.ref b102)]))
  refine own_step (fun t k => XS.aconstNull X104.here hx rfl (hb hby at_83) k) ?_
  show own_Goes p e below _ (T104.setTop (mkF m 84 #[.val (.int p0), .val (.int p1), .val (.int p2), .val (.int (p2 &&& (3 : Int32))), .val (.int vc), .val (.ref b90), .val (.ref b94), .val (.ref b98), .unset, .unset, .unset] [.null, (.ref xx_104), (.ref b102), (.ref b102)]))
  refine own_step (fun t k => XS.aconstNull X104.here hx rfl (hb hby at_84) k) ?_
  show own_Goes p e below _ (T104.setTop (mkF m 85 #[.val (.int p0), .val (.int p1), .val (.int p2), .val (.int (p2 &&& (3 : Int32))), .val (.int vc), .val (.ref b90), .val (.ref b94), .val (.ref b98), .unset, .unset, .unset] [.null, .null, (.ref xx_104), (.ref b102), (.ref b102)]))
  refine own_step (fun t k => XS.aconstNull X104.here hx rfl (hb hby at_85) k) ?_
  show own_Goes p e below _ (T104.setTop (mkF m 86 #[.val (.int p0), .val (.int p1), .val (.int p2), .val (.int (p2 &&& (3 : Int32))), .val (.int vc), .val (.ref b90), .val (.ref b94), .val (.ref b98), .unset, .unset, .unset] [.null, .null, .null, (.ref xx_104), (.ref b102), (.ref b102)]))
  obtain ⟨_, _, ⟨T106, L106, k106, n106⟩, -, X106, ⟨Lc106, hQ106, l106, y106, z106⟩, st106⟩ := X104.specialBack hx (y := (⟨"com/example/noctule/noctule/core/UnreadableTiming", "<init>", "(Ljava/lang/Integer;Ljava/lang/String;Ljava/lang/String;Ljava/time/Instant;)V"⟩ : MethodName)) rfl hown (mvT hZ w26) (mvT hZ w27) (mvT hZ w28) (by decide) (backOf (W := 1) (own_b3 l Z a0 hw [] b102 xx_104 (wI) (.null) (.null) (.null) (.null) (.null) T104.heap n0 (Nat.le_trans (Nat.le_trans (Nat.le_trans (Nat.le_trans (Nat.le_trans (Nat.le_trans (Nat.le_trans (Nat.le_trans Z0 E90.1) K92c.1) E94.1) K96c.1) E98.1) K100c.1) E102.1) K104c.1) S_INTERVAL ((((((((O0.ext E90).keep K92c (allS g_b90 all0)).ext E94).keep K96c (allS g_b94 all0)).ext E98).keep K100c (allS g_b98 all0)).ext E102).keep K104c all0) (A102.keep K104c) g_b102 (F_intervalSeconds_b102.keep K104c nin0) (F_cron_b102.keep K104c nin0) (F_timezone_b102.keep K104c nin0) (F_runAt_b102.keep K104c nin0) (F_kind_b102.keep K104c nin0)) hZ w28 w18 (by decide) (by decide)) (g := (mkF m 86 #[.val (.int p0), .val (.int p1), .val (.int p2), .val (.int (p2 &&& (3 : Int32))), .val (.int vc), .val (.ref b90), .val (.ref b94), .val (.ref b98), .unset, .unset, .unset] [.null, .null, .null, (.ref xx_104), (.ref b102), (.ref b102)])) rfl (by rw [hml]; rfl) (Steps.refl _) (a := b102) (argsL := [(.ref xx_104), .null, .null, .null]) (rest := [(.ref b102)]) (lenOf own_pd3 rfl) rfl (by show 2 * 0 + _ ≤ _; exact Nat.le_of_eq rfl) (hb hby at_86) (fun _ _ => ⟨rfl, rfl, (by decide : 5 + 0 ≤ _), (by decide : 9 + 0 ≤ _)⟩)
  dsimp only [Pt.U, Pt.locs, Pt.cells, Pt.slots] at X106 l106 y106 z106 st106 hQ106
  subst l106 y106 z106
  obtain ⟨rfl, N106q, K106c, f106_0⟩ := hQ106
  have N106 := Fr.app N104 N106q
  refine own_jump st106 ?_
  have K107 : Keep h0 T106.heap [] := K105.trans K106c (allS (Or.inr sz_b102) all0)
  show own_Goes p e below _ (T106.setTop (mkF m 89 #[.val (.int p0), .val (.int p1), .val (.int p2), .val (.int (p2 &&& (3 : Int32))), .val (.int vc), .val (.ref b90), .val (.ref b94), .val (.ref b98), .unset, .unset, .unset] [(.ref b102)]))
  refine own_step (fun t k => XS.astore X106.here hx rfl (hb hby at_89) rfl rfl (l' := #[.val (.int p0), .val (.int p1), .val (.int p2), .val (.int (p2 &&& (3 : Int32))), .val (.int vc), .val (.ref b90), .val (.ref b94), .val (.ref b98), .val (.ref b102), .unset, .unset]) rfl k) ?_
  show own_Goes p e below _ (T106.setTop (mkF m 91 #[.val (.int p0), .val (.int p1), .val (.int p2), .val (.int (p2 &&& (3 : Int32))), .val (.int vc), .val (.ref b90), .val (.ref b94), .val (.ref b98), .val (.ref b102), .unset, .unset] []))
  refine own_step (fun t k => XS.aload X106.here hx rfl (hb hby at_91) rfl rfl k) ?_
  show own_Goes p e below _ (T106.setTop (mkF m 93 #[.val (.int p0), .val (.int p1), .val (.int p2), .val (.int (p2 &&& (3 : Int32))), .val (.int vc), .val (.ref b90), .val (.ref b94), .val (.ref b98), .val (.ref b102), .unset, .unset] [(.ref b90)]))
  refine own_step (fun t k => XS.aload X106.here hx rfl (hb hby at_93) rfl rfl k) ?_
  show own_Goes p e below _ (T106.setTop (mkF m 95 #[.val (.int p0), .val (.int p1), .val (.int p2), .val (.int (p2 &&& (3 : Int32))), .val (.int vc), .val (.ref b90), .val (.ref b94), .val (.ref b98), .val (.ref b102), .unset, .unset] [(.ref b94), (.ref b90)]))
  obtain ⟨cq108, kq108, q108a, q108b, q108c⟩ := isOf hZ rfl (((((((f92_0.ext E94).keep K96c).ext E98).keep K100c).ext E102).keep K104c).keep K106c)
  obtain ⟨_, _, ⟨T108, L108, k108, n108⟩, -, X108, ⟨Lc108, hQ108, l108, y108, z108⟩, st108⟩ := X106.virtualBack hx (y := (⟨"com/example/noctule/noctule/core/IntervalTiming", "equals", "(Ljava/lang/Object;)Z"⟩ : MethodName)) (z := (⟨"com/example/noctule/noctule/core/IntervalTiming", "equals", "(Ljava/lang/Object;)Z"⟩ : MethodName)) hown (mvT hZ w43) (mvT hZ w44) (notFace_of_selects (args := #[]) (mvT hZ w46)) (mvT hZ w46) (mvT hZ w45) (by decide) (backOf (W := 0) (own_e1 l Z a0 hw [] b90 b94 (p0) (vc) T106.heap n0 (Nat.le_trans (Nat.le_trans (Nat.le_trans (Nat.le_trans (Nat.le_trans (Nat.le_trans (Nat.le_trans (Nat.le_trans (Nat.le_trans Z0 E90.1) K92c.1) E94.1) K96c.1) E98.1) K100c.1) E102.1) K104c.1) K106c.1) (((((f96_0.ext E98).keep K100c).ext E102).keep K104c).keep K106c) (((((((f92_1.ext E94).keep K96c (ninS ne_b90_b94 nin0)).ext E98).keep K100c (ninS ne_b90_b98 nin0)).ext E102).keep K104c nin0).keep K106c (ninS ne_b90_b102 nin0)) (((((f96_1.ext E98).keep K100c (ninS ne_b94_b98 nin0)).ext E102).keep K104c nin0).keep K106c (ninS ne_b94_b102 nin0))) hZ w47 w2 (by decide) (by decide)) q108a q108c (g := (mkF m 95 #[.val (.int p0), .val (.int p1), .val (.int p2), .val (.int (p2 &&& (3 : Int32))), .val (.int vc), .val (.ref b90), .val (.ref b94), .val (.ref b98), .val (.ref b102), .unset, .unset] [(.ref b94), (.ref b90)])) rfl (by rw [hml]; rfl) (Steps.refl _) (argsL := [(.ref b94)]) (rest := []) (lenOf own_pd4 rfl) rfl (by show 2 * 0 + _ ≤ _; exact Nat.le_of_eq rfl) (hb hby at_95) (fun _ _ => ⟨rfl, rfl, (by decide : 5 + 0 ≤ _), (by decide : 9 + 0 ≤ _)⟩)
  dsimp only [Pt.U, Pt.locs, Pt.cells, Pt.slots] at X108 l108 y108 z108 st108 hQ108
  subst l108 y108 z108
  obtain ⟨rfl, N108q, eh108⟩ := hQ108
  have N108 := Fr.app N106 N108q
  refine own_jump st108 ?_
  show own_Goes p e below _ (T108.setTop (mkF m 98 #[.val (.int p0), .val (.int p1), .val (.int p2), .val (.int (p2 &&& (3 : Int32))), .val (.int vc), .val (.ref b90), .val (.ref b94), .val (.ref b98), .val (.ref b102), .unset, .unset] [(.int (if vc = p0 then (1 : Int32) else (0 : Int32)))]))
  refine own_step (fun t k => XS.istore X108.here hx rfl (hb hby at_98) rfl (l' := #[.val (.int p0), .val (.int p1), .val (.int p2), .val (.int (p2 &&& (3 : Int32))), .val (.int vc), .val (.ref b90), .val (.ref b94), .val (.ref b98), .val (.ref b102), .val (.int (if vc = p0 then (1 : Int32) else (0 : Int32))), .unset]) rfl k) ?_
  show own_Goes p e below _ (T108.setTop (mkF m 100 #[.val (.int p0), .val (.int p1), .val (.int p2), .val (.int (p2 &&& (3 : Int32))), .val (.int vc), .val (.ref b90), .val (.ref b94), .val (.ref b98), .val (.ref b102), .val (.int (if vc = p0 then (1 : Int32) else (0 : Int32))), .unset] []))
  generalize hv_v9 : (if vc = p0 then (1 : Int32) else (0 : Int32)) = v9
  refine own_step (fun t k => XS.iload X108.here hx rfl (hb hby at_100) rfl k) ?_
  show own_Goes p e below _ (T108.setTop (mkF m 102 #[.val (.int p0), .val (.int p1), .val (.int p2), .val (.int (p2 &&& (3 : Int32))), .val (.int vc), .val (.ref b90), .val (.ref b94), .val (.ref b98), .val (.ref b102), .val (.int v9), .unset] [(.int v9)]))
  refine own_step (fun t k => XS.iloadN X108.here hx rfl (hb hby at_102) rfl k) ?_
  show own_Goes p e below _ (T108.setTop (mkF m 103 #[.val (.int p0), .val (.int p1), .val (.int p2), .val (.int (p2 &&& (3 : Int32))), .val (.int vc), .val (.ref b90), .val (.ref b94), .val (.ref b98), .val (.ref b102), .val (.int v9), .unset] [(.int p0), (.int v9)]))
  refine own_step (fun t k => XS.iload X108.here hx rfl (hb hby at_103) rfl k) ?_
  show own_Goes p e below _ (T108.setTop (mkF m 105 #[.val (.int p0), .val (.int p1), .val (.int p2), .val (.int (p2 &&& (3 : Int32))), .val (.int vc), .val (.ref b90), .val (.ref b94), .val (.ref b98), .val (.ref b102), .val (.int v9), .unset] [(.int vc), (.int p0), (.int v9)]))
  refine own_step (S' := T108.setTop (mkF m 113 #[.val (.int p0), .val (.int p1), .val (.int p2), .val (.int (p2 &&& (3 : Int32))), .val (.int vc), .val (.ref b90), .val (.ref b94), .val (.ref b98), .val (.ref b102), .val (.int v9), .unset] [(.int (if p0 = vc then (1 : Int32) else (0 : Int32))), (.int v9)])) (fun t k => ?_) ?_
  · show Steps p.tables e below (T108.setTop (mkF m 105 #[.val (.int p0), .val (.int p1), .val (.int p2), .val (.int (p2 &&& (3 : Int32))), .val (.int vc), .val (.ref b90), .val (.ref b94), .val (.ref b98), .val (.ref b102), .val (.int v9), .unset] [(.int vc), (.int p0), (.int v9)])) _
    by_cases hc109 : p0 = vc
    · --
      refine XS.icmpNo X108.here hx rfl (hb hby at_105) rfl (teq hc109).2 ?_
      show Steps p.tables e below (T108.setTop (mkF m 108 #[.val (.int p0), .val (.int p1), .val (.int p2), .val (.int (p2 &&& (3 : Int32))), .val (.int vc), .val (.ref b90), .val (.ref b94), .val (.ref b98), .val (.ref b102), .val (.int v9), .unset] [(.int v9)])) _
      refine XS.iconst X108.here hx rfl (hb hby at_108) ?_
      show Steps p.tables e below (T108.setTop (mkF m 109 #[.val (.int p0), .val (.int p1), .val (.int p2), .val (.int (p2 &&& (3 : Int32))), .val (.int vc), .val (.ref b90), .val (.ref b94), .val (.ref b98), .val (.ref b102), .val (.int v9), .unset] [(.int (1 : Int32)), (.int v9)])) _
      refine XS.goto X108.here hx rfl (pc0 := 109) (pc' := 113) rfl (hb hby at_109) (by decide) (by decide) ?_
      show Steps p.tables e below (T108.setTop (mkF m 113 #[.val (.int p0), .val (.int p1), .val (.int p2), .val (.int (p2 &&& (3 : Int32))), .val (.int vc), .val (.ref b90), .val (.ref b94), .val (.ref b98), .val (.ref b102), .val (.int v9), .unset] [(.int (1 : Int32)), (.int v9)])) _
      simp only [if_pos hc109] at k
      exact k
    · --
      refine XS.icmpYes X108.here hx rfl (pc0 := 105) (pc' := 112) rfl (hb hby at_105) rfl (feq hc109).2 (by decide) (by decide) ?_
      show Steps p.tables e below (T108.setTop (mkF m 112 #[.val (.int p0), .val (.int p1), .val (.int p2), .val (.int (p2 &&& (3 : Int32))), .val (.int vc), .val (.ref b90), .val (.ref b94), .val (.ref b98), .val (.ref b102), .val (.int v9), .unset] [(.int v9)])) _
      refine XS.iconst X108.here hx rfl (hb hby at_112) ?_
      show Steps p.tables e below (T108.setTop (mkF m 113 #[.val (.int p0), .val (.int p1), .val (.int p2), .val (.int (p2 &&& (3 : Int32))), .val (.int vc), .val (.ref b90), .val (.ref b94), .val (.ref b98), .val (.ref b102), .val (.int v9), .unset] [(.int (0 : Int32)), (.int v9)])) _
      simp only [if_neg hc109] at k
      exact k
  show own_Goes p e below _ (T108.setTop (mkF m 113 #[.val (.int p0), .val (.int p1), .val (.int p2), .val (.int (p2 &&& (3 : Int32))), .val (.int vc), .val (.ref b90), .val (.ref b94), .val (.ref b98), .val (.ref b102), .val (.int v9), .unset] [(.int (if p0 = vc then (1 : Int32) else (0 : Int32))), (.int v9)]))
  refine own_step (S' := T108.setTop (mkF m 121 #[.val (.int p0), .val (.int p1), .val (.int p2), .val (.int (p2 &&& (3 : Int32))), .val (.int vc), .val (.ref b90), .val (.ref b94), .val (.ref b98), .val (.ref b102), .val (.int v9), .unset] [(.int (if v9 = (if p0 = vc then (1 : Int32) else (0 : Int32)) then (1 : Int32) else (0 : Int32)))])) (fun t k => ?_) ?_
  · show Steps p.tables e below (T108.setTop (mkF m 113 #[.val (.int p0), .val (.int p1), .val (.int p2), .val (.int (p2 &&& (3 : Int32))), .val (.int vc), .val (.ref b90), .val (.ref b94), .val (.ref b98), .val (.ref b102), .val (.int v9), .unset] [(.int (if p0 = vc then (1 : Int32) else (0 : Int32))), (.int v9)])) _
    by_cases hc110 : v9 = (if p0 = vc then (1 : Int32) else (0 : Int32))
    · --
      refine XS.icmpNo X108.here hx rfl (hb hby at_113) rfl (teq hc110).2 ?_
      show Steps p.tables e below (T108.setTop (mkF m 116 #[.val (.int p0), .val (.int p1), .val (.int p2), .val (.int (p2 &&& (3 : Int32))), .val (.int vc), .val (.ref b90), .val (.ref b94), .val (.ref b98), .val (.ref b102), .val (.int v9), .unset] [])) _
      refine XS.iconst X108.here hx rfl (hb hby at_116) ?_
      show Steps p.tables e below (T108.setTop (mkF m 117 #[.val (.int p0), .val (.int p1), .val (.int p2), .val (.int (p2 &&& (3 : Int32))), .val (.int vc), .val (.ref b90), .val (.ref b94), .val (.ref b98), .val (.ref b102), .val (.int v9), .unset] [(.int (1 : Int32))])) _
      refine XS.goto X108.here hx rfl (pc0 := 117) (pc' := 121) rfl (hb hby at_117) (by decide) (by decide) ?_
      show Steps p.tables e below (T108.setTop (mkF m 121 #[.val (.int p0), .val (.int p1), .val (.int p2), .val (.int (p2 &&& (3 : Int32))), .val (.int vc), .val (.ref b90), .val (.ref b94), .val (.ref b98), .val (.ref b102), .val (.int v9), .unset] [(.int (1 : Int32))])) _
      simp only [if_pos hc110] at k
      exact k
    · --
      refine XS.icmpYes X108.here hx rfl (pc0 := 113) (pc' := 120) rfl (hb hby at_113) rfl (feq hc110).2 (by decide) (by decide) ?_
      show Steps p.tables e below (T108.setTop (mkF m 120 #[.val (.int p0), .val (.int p1), .val (.int p2), .val (.int (p2 &&& (3 : Int32))), .val (.int vc), .val (.ref b90), .val (.ref b94), .val (.ref b98), .val (.ref b102), .val (.int v9), .unset] [])) _
      refine XS.iconst X108.here hx rfl (hb hby at_120) ?_
      show Steps p.tables e below (T108.setTop (mkF m 121 #[.val (.int p0), .val (.int p1), .val (.int p2), .val (.int (p2 &&& (3 : Int32))), .val (.int vc), .val (.ref b90), .val (.ref b94), .val (.ref b98), .val (.ref b102), .val (.int v9), .unset] [(.int (0 : Int32))])) _
      simp only [if_neg hc110] at k
      exact k
  show own_Goes p e below _ (T108.setTop (mkF m 121 #[.val (.int p0), .val (.int p1), .val (.int p2), .val (.int (p2 &&& (3 : Int32))), .val (.int vc), .val (.ref b90), .val (.ref b94), .val (.ref b98), .val (.ref b102), .val (.int v9), .unset] [(.int (if v9 = (if p0 = vc then (1 : Int32) else (0 : Int32)) then (1 : Int32) else (0 : Int32)))]))
  refine own_step (fun t k => XS.istore X108.here hx rfl (hb hby at_121) rfl (l' := #[.val (.int p0), .val (.int p1), .val (.int p2), .val (.int (p2 &&& (3 : Int32))), .val (.int vc), .val (.ref b90), .val (.ref b94), .val (.ref b98), .val (.ref b102), .val (.int v9), .val (.int (if v9 = (if p0 = vc then (1 : Int32) else (0 : Int32)) then (1 : Int32) else (0 : Int32)))]) rfl k) ?_
  show own_Goes p e below _ (T108.setTop (mkF m 123 #[.val (.int p0), .val (.int p1), .val (.int p2), .val (.int (p2 &&& (3 : Int32))), .val (.int vc), .val (.ref b90), .val (.ref b94), .val (.ref b98), .val (.ref b102), .val (.int v9), .val (.int (if v9 = (if p0 = vc then (1 : Int32) else (0 : Int32)) then (1 : Int32) else (0 : Int32)))] []))
  generalize hv_va : (if v9 = (if p0 = vc then (1 : Int32) else (0 : Int32)) then (1 : Int32) else (0 : Int32)) = va
  refine own_step (fun t k => XS.iload X108.here hx rfl (hb hby at_123) rfl k) ?_
  show own_Goes p e below _ (T108.setTop (mkF m 125 #[.val (.int p0), .val (.int p1), .val (.int p2), .val (.int (p2 &&& (3 : Int32))), .val (.int vc), .val (.ref b90), .val (.ref b94), .val (.ref b98), .val (.ref b102), .val (.int v9), .val (.int va)] [(.int va)]))
  have hc111 : ¬ (va = (0 : Int32)) := own_f1 hv_v9 hv_va
  refine own_step (fun t k => XS.ifNo X108.here hx rfl (hb hby at_125) rfl ((if0 _ _).trans (feq hc111).1) k) ?_
  show own_Goes p e below _ (T108.setTop (mkF m 128 #[.val (.int p0), .val (.int p1), .val (.int p2), .val (.int (p2 &&& (3 : Int32))), .val (.int vc), .val (.ref b90), .val (.ref b94), .val (.ref b98), .val (.ref b102), .val (.int v9), .val (.int va)] []))
  refine own_step (fun t k => XS.aload X108.here hx rfl (hb hby at_128) rfl rfl k) ?_
  show own_Goes p e below _ (T108.setTop (mkF m 130 #[.val (.int p0), .val (.int p1), .val (.int p2), .val (.int (p2 &&& (3 : Int32))), .val (.int vc), .val (.ref b90), .val (.ref b94), .val (.ref b98), .val (.ref b102), .val (.int v9), .val (.int va)] [(.ref b94)]))
  refine own_step (fun t k => XS.aload X108.here hx rfl (hb hby at_130) rfl rfl k) ?_
  show own_Goes p e below _ (T108.setTop (mkF m 132 #[.val (.int p0), .val (.int p1), .val (.int p2), .val (.int (p2 &&& (3 : Int32))), .val (.int vc), .val (.ref b90), .val (.ref b94), .val (.ref b98), .val (.ref b102), .val (.int v9), .val (.int va)] [(.ref b90), (.ref b94)]))
  obtain ⟨cq112, kq112, q112a, q112b, q112c⟩ := isOf hZ eh108 (((((f96_0.ext E98).keep K100c).ext E102).keep K104c).keep K106c)
  obtain ⟨_, _, ⟨T112, L112, k112, n112⟩, -, X112, ⟨Lc112, hQ112, l112, y112, z112⟩, st112⟩ := X108.virtualBack hx (y := (⟨"com/example/noctule/noctule/core/IntervalTiming", "equals", "(Ljava/lang/Object;)Z"⟩ : MethodName)) (z := (⟨"com/example/noctule/noctule/core/IntervalTiming", "equals", "(Ljava/lang/Object;)Z"⟩ : MethodName)) hown (mvT hZ w43) (mvT hZ w44) (notFace_of_selects (args := #[]) (mvT hZ w46)) (mvT hZ w46) (mvT hZ w45) (by decide) (backOf (W := 0) (own_e1 l Z a0 hw [] b94 b90 (vc) (p0) T106.heap n0 (Nat.le_trans (Nat.le_trans (Nat.le_trans (Nat.le_trans (Nat.le_trans (Nat.le_trans (Nat.le_trans (Nat.le_trans (Nat.le_trans Z0 E90.1) K92c.1) E94.1) K96c.1) E98.1) K100c.1) E102.1) K104c.1) K106c.1) (((((((f92_0.ext E94).keep K96c).ext E98).keep K100c).ext E102).keep K104c).keep K106c) (((((f96_1.ext E98).keep K100c (ninS ne_b94_b98 nin0)).ext E102).keep K104c nin0).keep K106c (ninS ne_b94_b102 nin0)) (((((((f92_1.ext E94).keep K96c (ninS ne_b90_b94 nin0)).ext E98).keep K100c (ninS ne_b90_b98 nin0)).ext E102).keep K104c nin0).keep K106c (ninS ne_b90_b102 nin0))) hZ w47 w2 (by decide) (by decide)) q112a q112c (g := (mkF m 132 #[.val (.int p0), .val (.int p1), .val (.int p2), .val (.int (p2 &&& (3 : Int32))), .val (.int vc), .val (.ref b90), .val (.ref b94), .val (.ref b98), .val (.ref b102), .val (.int v9), .val (.int va)] [(.ref b90), (.ref b94)])) rfl (by rw [hml]; rfl) (Steps.refl _) (argsL := [(.ref b90)]) (rest := []) (lenOf own_pd4 rfl) rfl (by show 2 * 0 + _ ≤ _; exact Nat.le_of_eq rfl) (hb hby at_132) (fun _ _ => ⟨rfl, eh108, (by decide : 5 + 0 ≤ _), (by decide : 9 + 0 ≤ _)⟩)
  dsimp only [Pt.U, Pt.locs, Pt.cells, Pt.slots] at X112 l112 y112 z112 st112 hQ112
  subst l112 y112 z112
  obtain ⟨rfl, N112q, eh112⟩ := hQ112
  have N112 := Fr.app N108 N112q
  refine own_jump st112 ?_
  show own_Goes p e below _ (T112.setTop (mkF m 135 #[.val (.int p0), .val (.int p1), .val (.int p2), .val (.int (p2 &&& (3 : Int32))), .val (.int vc), .val (.ref b90), .val (.ref b94), .val (.ref b98), .val (.ref b102), .val (.int v9), .val (.int va)] [(.int (if p0 = vc then (1 : Int32) else (0 : Int32)))]))
  refine own_step (fun t k => XS.iload X112.here hx rfl (hb hby at_135) rfl k) ?_
  show own_Goes p e below _ (T112.setTop (mkF m 137 #[.val (.int p0), .val (.int p1), .val (.int p2), .val (.int (p2 &&& (3 : Int32))), .val (.int vc), .val (.ref b90), .val (.ref b94), .val (.ref b98), .val (.ref b102), .val (.int v9), .val (.int va)] [(.int v9), (.int (if p0 = vc then (1 : Int32) else (0 : Int32)))]))
  refine own_step (S' := T112.setTop (mkF m 145 #[.val (.int p0), .val (.int p1), .val (.int p2), .val (.int (p2 &&& (3 : Int32))), .val (.int vc), .val (.ref b90), .val (.ref b94), .val (.ref b98), .val (.ref b102), .val (.int v9), .val (.int va)] [(.int (if (if p0 = vc then (1 : Int32) else (0 : Int32)) = v9 then (1 : Int32) else (0 : Int32)))])) (fun t k => ?_) ?_
  · show Steps p.tables e below (T112.setTop (mkF m 137 #[.val (.int p0), .val (.int p1), .val (.int p2), .val (.int (p2 &&& (3 : Int32))), .val (.int vc), .val (.ref b90), .val (.ref b94), .val (.ref b98), .val (.ref b102), .val (.int v9), .val (.int va)] [(.int v9), (.int (if p0 = vc then (1 : Int32) else (0 : Int32)))])) _
    by_cases hc113 : (if p0 = vc then (1 : Int32) else (0 : Int32)) = v9
    · --
      refine XS.icmpNo X112.here hx rfl (hb hby at_137) rfl (teq hc113).2 ?_
      show Steps p.tables e below (T112.setTop (mkF m 140 #[.val (.int p0), .val (.int p1), .val (.int p2), .val (.int (p2 &&& (3 : Int32))), .val (.int vc), .val (.ref b90), .val (.ref b94), .val (.ref b98), .val (.ref b102), .val (.int v9), .val (.int va)] [])) _
      refine XS.iconst X112.here hx rfl (hb hby at_140) ?_
      show Steps p.tables e below (T112.setTop (mkF m 141 #[.val (.int p0), .val (.int p1), .val (.int p2), .val (.int (p2 &&& (3 : Int32))), .val (.int vc), .val (.ref b90), .val (.ref b94), .val (.ref b98), .val (.ref b102), .val (.int v9), .val (.int va)] [(.int (1 : Int32))])) _
      refine XS.goto X112.here hx rfl (pc0 := 141) (pc' := 145) rfl (hb hby at_141) (by decide) (by decide) ?_
      show Steps p.tables e below (T112.setTop (mkF m 145 #[.val (.int p0), .val (.int p1), .val (.int p2), .val (.int (p2 &&& (3 : Int32))), .val (.int vc), .val (.ref b90), .val (.ref b94), .val (.ref b98), .val (.ref b102), .val (.int v9), .val (.int va)] [(.int (1 : Int32))])) _
      simp only [if_pos hc113] at k
      exact k
    · --
      refine XS.icmpYes X112.here hx rfl (pc0 := 137) (pc' := 144) rfl (hb hby at_137) rfl (feq hc113).2 (by decide) (by decide) ?_
      show Steps p.tables e below (T112.setTop (mkF m 144 #[.val (.int p0), .val (.int p1), .val (.int p2), .val (.int (p2 &&& (3 : Int32))), .val (.int vc), .val (.ref b90), .val (.ref b94), .val (.ref b98), .val (.ref b102), .val (.int v9), .val (.int va)] [])) _
      refine XS.iconst X112.here hx rfl (hb hby at_144) ?_
      show Steps p.tables e below (T112.setTop (mkF m 145 #[.val (.int p0), .val (.int p1), .val (.int p2), .val (.int (p2 &&& (3 : Int32))), .val (.int vc), .val (.ref b90), .val (.ref b94), .val (.ref b98), .val (.ref b102), .val (.int v9), .val (.int va)] [(.int (0 : Int32))])) _
      simp only [if_neg hc113] at k
      exact k
  show own_Goes p e below _ (T112.setTop (mkF m 145 #[.val (.int p0), .val (.int p1), .val (.int p2), .val (.int (p2 &&& (3 : Int32))), .val (.int vc), .val (.ref b90), .val (.ref b94), .val (.ref b98), .val (.ref b102), .val (.int v9), .val (.int va)] [(.int (if (if p0 = vc then (1 : Int32) else (0 : Int32)) = v9 then (1 : Int32) else (0 : Int32)))]))
  refine own_step (fun t k => XS.istore X112.here hx rfl (hb hby at_145) rfl (l' := #[.val (.int p0), .val (.int p1), .val (.int p2), .val (.int (p2 &&& (3 : Int32))), .val (.int vc), .val (.ref b90), .val (.ref b94), .val (.ref b98), .val (.ref b102), .val (.int v9), .val (.int (if (if p0 = vc then (1 : Int32) else (0 : Int32)) = v9 then (1 : Int32) else (0 : Int32)))]) rfl k) ?_
  show own_Goes p e below _ (T112.setTop (mkF m 147 #[.val (.int p0), .val (.int p1), .val (.int p2), .val (.int (p2 &&& (3 : Int32))), .val (.int vc), .val (.ref b90), .val (.ref b94), .val (.ref b98), .val (.ref b102), .val (.int v9), .val (.int (if (if p0 = vc then (1 : Int32) else (0 : Int32)) = v9 then (1 : Int32) else (0 : Int32)))] []))
  generalize hv_vb : (if (if p0 = vc then (1 : Int32) else (0 : Int32)) = v9 then (1 : Int32) else (0 : Int32)) = vb
  refine own_step (fun t k => XS.iload X112.here hx rfl (hb hby at_147) rfl k) ?_
  show own_Goes p e below _ (T112.setTop (mkF m 149 #[.val (.int p0), .val (.int p1), .val (.int p2), .val (.int (p2 &&& (3 : Int32))), .val (.int vc), .val (.ref b90), .val (.ref b94), .val (.ref b98), .val (.ref b102), .val (.int v9), .val (.int vb)] [(.int vb)]))
  have hc114 : ¬ (vb = (0 : Int32)) := own_f2 hv_v9 hv_vb
  refine own_step (fun t k => XS.ifNo X112.here hx rfl (hb hby at_149) rfl ((if0 _ _).trans (feq hc114).1) k) ?_
  show own_Goes p e below _ (T112.setTop (mkF m 152 #[.val (.int p0), .val (.int p1), .val (.int p2), .val (.int (p2 &&& (3 : Int32))), .val (.int vc), .val (.ref b90), .val (.ref b94), .val (.ref b98), .val (.ref b102), .val (.int v9), .val (.int vb)] []))
  refine own_step (fun t k => XS.aload X112.here hx rfl (hb hby at_152) rfl rfl k) ?_
  show own_Goes p e below _ (T112.setTop (mkF m 154 #[.val (.int p0), .val (.int p1), .val (.int p2), .val (.int (p2 &&& (3 : Int32))), .val (.int vc), .val (.ref b90), .val (.ref b94), .val (.ref b98), .val (.ref b102), .val (.int v9), .val (.int vb)] [(.ref b90)]))
  refine own_step (fun t k => XS.aload X112.here hx rfl (hb hby at_154) rfl rfl k) ?_
  show own_Goes p e below _ (T112.setTop (mkF m 156 #[.val (.int p0), .val (.int p1), .val (.int p2), .val (.int (p2 &&& (3 : Int32))), .val (.int vc), .val (.ref b90), .val (.ref b94), .val (.ref b98), .val (.ref b102), .val (.int v9), .val (.int vb)] [(.ref b98), (.ref b90)]))
  obtain ⟨cq115, kq115, q115a, q115b, q115c⟩ := isOf hZ eh112 (((((((f92_0.ext E94).keep K96c).ext E98).keep K100c).ext E102).keep K104c).keep K106c)
  obtain ⟨_, _, ⟨T115, L115, k115, n115⟩, -, X115, ⟨Lc115, hQ115, l115, y115, z115⟩, st115⟩ := X112.virtualBack hx (y := (⟨"com/example/noctule/noctule/core/IntervalTiming", "equals", "(Ljava/lang/Object;)Z"⟩ : MethodName)) (z := (⟨"com/example/noctule/noctule/core/IntervalTiming", "equals", "(Ljava/lang/Object;)Z"⟩ : MethodName)) hown (mvT hZ w43) (mvT hZ w44) (notFace_of_selects (args := #[]) (mvT hZ w46)) (mvT hZ w46) (mvT hZ w45) (by decide) (backOf (W := 0) (own_e1 l Z a0 hw [] b90 b98 (p0) (p0) T106.heap n0 (Nat.le_trans (Nat.le_trans (Nat.le_trans (Nat.le_trans (Nat.le_trans (Nat.le_trans (Nat.le_trans (Nat.le_trans (Nat.le_trans Z0 E90.1) K92c.1) E94.1) K96c.1) E98.1) K100c.1) E102.1) K104c.1) K106c.1) (((f100_0.ext E102).keep K104c).keep K106c) (((((((f92_1.ext E94).keep K96c (ninS ne_b90_b94 nin0)).ext E98).keep K100c (ninS ne_b90_b98 nin0)).ext E102).keep K104c nin0).keep K106c (ninS ne_b90_b102 nin0)) (((f100_1.ext E102).keep K104c nin0).keep K106c (ninS ne_b98_b102 nin0))) hZ w47 w2 (by decide) (by decide)) q115a q115c (g := (mkF m 156 #[.val (.int p0), .val (.int p1), .val (.int p2), .val (.int (p2 &&& (3 : Int32))), .val (.int vc), .val (.ref b90), .val (.ref b94), .val (.ref b98), .val (.ref b102), .val (.int v9), .val (.int vb)] [(.ref b98), (.ref b90)])) rfl (by rw [hml]; rfl) (Steps.refl _) (argsL := [(.ref b98)]) (rest := []) (lenOf own_pd4 rfl) rfl (by show 2 * 0 + _ ≤ _; exact Nat.le_of_eq rfl) (hb hby at_156) (fun _ _ => ⟨rfl, eh112, (by decide : 5 + 0 ≤ _), (by decide : 9 + 0 ≤ _)⟩)
  dsimp only [Pt.U, Pt.locs, Pt.cells, Pt.slots] at X115 l115 y115 z115 st115 hQ115
  subst l115 y115 z115
  obtain ⟨rfl, N115q, eh115⟩ := hQ115
  have N115 := Fr.app N112 N115q
  refine own_jump st115 ?_
  show own_Goes p e below _ (T115.setTop (mkF m 159 #[.val (.int p0), .val (.int p1), .val (.int p2), .val (.int (p2 &&& (3 : Int32))), .val (.int vc), .val (.ref b90), .val (.ref b94), .val (.ref b98), .val (.ref b102), .val (.int v9), .val (.int vb)] [(.int (if p0 = p0 then (1 : Int32) else (0 : Int32)))]))
  refine own_step (S' := T115.setTop (mkF m 167 #[.val (.int p0), .val (.int p1), .val (.int p2), .val (.int (p2 &&& (3 : Int32))), .val (.int vc), .val (.ref b90), .val (.ref b94), .val (.ref b98), .val (.ref b102), .val (.int v9), .val (.int vb)] [(.int (if (if p0 = p0 then (1 : Int32) else (0 : Int32)) = (0 : Int32) then (0 : Int32) else (1 : Int32)))])) (fun t k => ?_) ?_
  · show Steps p.tables e below (T115.setTop (mkF m 159 #[.val (.int p0), .val (.int p1), .val (.int p2), .val (.int (p2 &&& (3 : Int32))), .val (.int vc), .val (.ref b90), .val (.ref b94), .val (.ref b98), .val (.ref b102), .val (.int v9), .val (.int vb)] [(.int (if p0 = p0 then (1 : Int32) else (0 : Int32)))])) _
    by_cases hc116 : (if p0 = p0 then (1 : Int32) else (0 : Int32)) = (0 : Int32)
    · --
      refine XS.ifYes X115.here hx rfl (pc0 := 159) (pc' := 166) rfl (hb hby at_159) rfl ((if0 _ _).trans (teq hc116).1) (by decide) (by decide) ?_
      show Steps p.tables e below (T115.setTop (mkF m 166 #[.val (.int p0), .val (.int p1), .val (.int p2), .val (.int (p2 &&& (3 : Int32))), .val (.int vc), .val (.ref b90), .val (.ref b94), .val (.ref b98), .val (.ref b102), .val (.int v9), .val (.int vb)] [])) _
      refine XS.iconst X115.here hx rfl (hb hby at_166) ?_
      show Steps p.tables e below (T115.setTop (mkF m 167 #[.val (.int p0), .val (.int p1), .val (.int p2), .val (.int (p2 &&& (3 : Int32))), .val (.int vc), .val (.ref b90), .val (.ref b94), .val (.ref b98), .val (.ref b102), .val (.int v9), .val (.int vb)] [(.int (0 : Int32))])) _
      first | (simp only [if_pos hc116] at k; exact k) | ((repeat (first | rw [if_pos hc116] at k)); exact k)
    · --
      refine XS.ifNo X115.here hx rfl (hb hby at_159) rfl ((if0 _ _).trans (feq hc116).1) ?_
      show Steps p.tables e below (T115.setTop (mkF m 162 #[.val (.int p0), .val (.int p1), .val (.int p2), .val (.int (p2 &&& (3 : Int32))), .val (.int vc), .val (.ref b90), .val (.ref b94), .val (.ref b98), .val (.ref b102), .val (.int v9), .val (.int vb)] [])) _
      refine XS.iconst X115.here hx rfl (hb hby at_162) ?_
      show Steps p.tables e below (T115.setTop (mkF m 163 #[.val (.int p0), .val (.int p1), .val (.int p2), .val (.int (p2 &&& (3 : Int32))), .val (.int vc), .val (.ref b90), .val (.ref b94), .val (.ref b98), .val (.ref b102), .val (.int v9), .val (.int vb)] [(.int (1 : Int32))])) _
      refine XS.goto X115.here hx rfl (pc0 := 163) (pc' := 167) rfl (hb hby at_163) (by decide) (by decide) ?_
      show Steps p.tables e below (T115.setTop (mkF m 167 #[.val (.int p0), .val (.int p1), .val (.int p2), .val (.int (p2 &&& (3 : Int32))), .val (.int vc), .val (.ref b90), .val (.ref b94), .val (.ref b98), .val (.ref b102), .val (.int v9), .val (.int vb)] [(.int (1 : Int32))])) _
      first | (simp only [if_neg hc116] at k; exact k) | ((repeat (first | rw [if_neg hc116] at k)); exact k)
  show own_Goes p e below _ (T115.setTop (mkF m 167 #[.val (.int p0), .val (.int p1), .val (.int p2), .val (.int (p2 &&& (3 : Int32))), .val (.int vc), .val (.ref b90), .val (.ref b94), .val (.ref b98), .val (.ref b102), .val (.int v9), .val (.int vb)] [(.int (if (if p0 = p0 then (1 : Int32) else (0 : Int32)) = (0 : Int32) then (0 : Int32) else (1 : Int32)))]))
  refine own_step (fun t k => XS.istore X115.here hx rfl (hb hby at_167) rfl (l' := #[.val (.int p0), .val (.int p1), .val (.int p2), .val (.int (p2 &&& (3 : Int32))), .val (.int vc), .val (.ref b90), .val (.ref b94), .val (.ref b98), .val (.ref b102), .val (.int v9), .val (.int (if (if p0 = p0 then (1 : Int32) else (0 : Int32)) = (0 : Int32) then (0 : Int32) else (1 : Int32)))]) rfl k) ?_
  show own_Goes p e below _ (T115.setTop (mkF m 169 #[.val (.int p0), .val (.int p1), .val (.int p2), .val (.int (p2 &&& (3 : Int32))), .val (.int vc), .val (.ref b90), .val (.ref b94), .val (.ref b98), .val (.ref b102), .val (.int v9), .val (.int (if (if p0 = p0 then (1 : Int32) else (0 : Int32)) = (0 : Int32) then (0 : Int32) else (1 : Int32)))] []))
  generalize hv_vd : (if (if p0 = p0 then (1 : Int32) else (0 : Int32)) = (0 : Int32) then (0 : Int32) else (1 : Int32)) = vd
  refine own_step (fun t k => XS.iload X115.here hx rfl (hb hby at_169) rfl k) ?_
  show own_Goes p e below _ (T115.setTop (mkF m 171 #[.val (.int p0), .val (.int p1), .val (.int p2), .val (.int (p2 &&& (3 : Int32))), .val (.int vc), .val (.ref b90), .val (.ref b94), .val (.ref b98), .val (.ref b102), .val (.int v9), .val (.int vd)] [(.int vd)]))
  have hc117 : ¬ (vd = (0 : Int32)) := own_f3 hv_vd
  refine own_step (fun t k => XS.ifNo X115.here hx rfl (hb hby at_171) rfl ((if0 _ _).trans (feq hc117).1) k) ?_
  show own_Goes p e below _ (T115.setTop (mkF m 174 #[.val (.int p0), .val (.int p1), .val (.int p2), .val (.int (p2 &&& (3 : Int32))), .val (.int vc), .val (.ref b90), .val (.ref b94), .val (.ref b98), .val (.ref b102), .val (.int v9), .val (.int vd)] []))
  refine own_step (fun t k => XS.aload X115.here hx rfl (hb hby at_174) rfl rfl k) ?_
  show own_Goes p e below _ (T115.setTop (mkF m 176 #[.val (.int p0), .val (.int p1), .val (.int p2), .val (.int (p2 &&& (3 : Int32))), .val (.int vc), .val (.ref b90), .val (.ref b94), .val (.ref b98), .val (.ref b102), .val (.int v9), .val (.int vd)] [(.ref b90)]))
  refine own_step (fun t k => XS.aload X115.here hx rfl (hb hby at_176) rfl rfl k) ?_
  show own_Goes p e below _ (T115.setTop (mkF m 178 #[.val (.int p0), .val (.int p1), .val (.int p2), .val (.int (p2 &&& (3 : Int32))), .val (.int vc), .val (.ref b90), .val (.ref b94), .val (.ref b98), .val (.ref b102), .val (.int v9), .val (.int vd)] [(.ref b90), (.ref b90)]))
  obtain ⟨cq118, kq118, q118a, q118b, q118c⟩ := isOf hZ eh115 (((((((f92_0.ext E94).keep K96c).ext E98).keep K100c).ext E102).keep K104c).keep K106c)
  obtain ⟨_, _, ⟨T118, L118, k118, n118⟩, -, X118, ⟨Lc118, hQ118, l118, y118, z118⟩, st118⟩ := X115.virtualBack hx (y := (⟨"com/example/noctule/noctule/core/IntervalTiming", "equals", "(Ljava/lang/Object;)Z"⟩ : MethodName)) (z := (⟨"com/example/noctule/noctule/core/IntervalTiming", "equals", "(Ljava/lang/Object;)Z"⟩ : MethodName)) hown (mvT hZ w43) (mvT hZ w44) (notFace_of_selects (args := #[]) (mvT hZ w46)) (mvT hZ w46) (mvT hZ w45) (by decide) (backOf (W := 0) (own_e1 l Z a0 hw [] b90 b90 (p0) (p0) T106.heap n0 (Nat.le_trans (Nat.le_trans (Nat.le_trans (Nat.le_trans (Nat.le_trans (Nat.le_trans (Nat.le_trans (Nat.le_trans (Nat.le_trans Z0 E90.1) K92c.1) E94.1) K96c.1) E98.1) K100c.1) E102.1) K104c.1) K106c.1) (((((((f92_0.ext E94).keep K96c).ext E98).keep K100c).ext E102).keep K104c).keep K106c) (((((((f92_1.ext E94).keep K96c (ninS ne_b90_b94 nin0)).ext E98).keep K100c (ninS ne_b90_b98 nin0)).ext E102).keep K104c nin0).keep K106c (ninS ne_b90_b102 nin0)) (((((((f92_1.ext E94).keep K96c (ninS ne_b90_b94 nin0)).ext E98).keep K100c (ninS ne_b90_b98 nin0)).ext E102).keep K104c nin0).keep K106c (ninS ne_b90_b102 nin0))) hZ w47 w2 (by decide) (by decide)) q118a q118c (g := (mkF m 178 #[.val (.int p0), .val (.int p1), .val (.int p2), .val (.int (p2 &&& (3 : Int32))), .val (.int vc), .val (.ref b90), .val (.ref b94), .val (.ref b98), .val (.ref b102), .val (.int v9), .val (.int vd)] [(.ref b90), (.ref b90)])) rfl (by rw [hml]; rfl) (Steps.refl _) (argsL := [(.ref b90)]) (rest := []) (lenOf own_pd4 rfl) rfl (by show 2 * 0 + _ ≤ _; exact Nat.le_of_eq rfl) (hb hby at_178) (fun _ _ => ⟨rfl, eh115, (by decide : 5 + 0 ≤ _), (by decide : 9 + 0 ≤ _)⟩)
  dsimp only [Pt.U, Pt.locs, Pt.cells, Pt.slots] at X118 l118 y118 z118 st118 hQ118
  subst l118 y118 z118
  obtain ⟨rfl, N118q, eh118⟩ := hQ118
  have N118 := Fr.app N115 N118q
  refine own_jump st118 ?_
  show own_Goes p e below _ (T118.setTop (mkF m 181 #[.val (.int p0), .val (.int p1), .val (.int p2), .val (.int (p2 &&& (3 : Int32))), .val (.int vc), .val (.ref b90), .val (.ref b94), .val (.ref b98), .val (.ref b102), .val (.int v9), .val (.int vd)] [(.int (if p0 = p0 then (1 : Int32) else (0 : Int32)))]))
  refine own_step (S' := T118.setTop (mkF m 189 #[.val (.int p0), .val (.int p1), .val (.int p2), .val (.int (p2 &&& (3 : Int32))), .val (.int vc), .val (.ref b90), .val (.ref b94), .val (.ref b98), .val (.ref b102), .val (.int v9), .val (.int vd)] [(.int (if (if p0 = p0 then (1 : Int32) else (0 : Int32)) = (0 : Int32) then (0 : Int32) else (1 : Int32)))])) (fun t k => ?_) ?_
  · show Steps p.tables e below (T118.setTop (mkF m 181 #[.val (.int p0), .val (.int p1), .val (.int p2), .val (.int (p2 &&& (3 : Int32))), .val (.int vc), .val (.ref b90), .val (.ref b94), .val (.ref b98), .val (.ref b102), .val (.int v9), .val (.int vd)] [(.int (if p0 = p0 then (1 : Int32) else (0 : Int32)))])) _
    by_cases hc119 : (if p0 = p0 then (1 : Int32) else (0 : Int32)) = (0 : Int32)
    · --
      refine XS.ifYes X118.here hx rfl (pc0 := 181) (pc' := 188) rfl (hb hby at_181) rfl ((if0 _ _).trans (teq hc119).1) (by decide) (by decide) ?_
      show Steps p.tables e below (T118.setTop (mkF m 188 #[.val (.int p0), .val (.int p1), .val (.int p2), .val (.int (p2 &&& (3 : Int32))), .val (.int vc), .val (.ref b90), .val (.ref b94), .val (.ref b98), .val (.ref b102), .val (.int v9), .val (.int vd)] [])) _
      refine XS.iconst X118.here hx rfl (hb hby at_188) ?_
      show Steps p.tables e below (T118.setTop (mkF m 189 #[.val (.int p0), .val (.int p1), .val (.int p2), .val (.int (p2 &&& (3 : Int32))), .val (.int vc), .val (.ref b90), .val (.ref b94), .val (.ref b98), .val (.ref b102), .val (.int v9), .val (.int vd)] [(.int (0 : Int32))])) _
      first | (simp only [if_pos hc119] at k; exact k) | ((repeat (first | rw [if_pos hc119] at k)); exact k)
    · --
      refine XS.ifNo X118.here hx rfl (hb hby at_181) rfl ((if0 _ _).trans (feq hc119).1) ?_
      show Steps p.tables e below (T118.setTop (mkF m 184 #[.val (.int p0), .val (.int p1), .val (.int p2), .val (.int (p2 &&& (3 : Int32))), .val (.int vc), .val (.ref b90), .val (.ref b94), .val (.ref b98), .val (.ref b102), .val (.int v9), .val (.int vd)] [])) _
      refine XS.iconst X118.here hx rfl (hb hby at_184) ?_
      show Steps p.tables e below (T118.setTop (mkF m 185 #[.val (.int p0), .val (.int p1), .val (.int p2), .val (.int (p2 &&& (3 : Int32))), .val (.int vc), .val (.ref b90), .val (.ref b94), .val (.ref b98), .val (.ref b102), .val (.int v9), .val (.int vd)] [(.int (1 : Int32))])) _
      refine XS.goto X118.here hx rfl (pc0 := 185) (pc' := 189) rfl (hb hby at_185) (by decide) (by decide) ?_
      show Steps p.tables e below (T118.setTop (mkF m 189 #[.val (.int p0), .val (.int p1), .val (.int p2), .val (.int (p2 &&& (3 : Int32))), .val (.int vc), .val (.ref b90), .val (.ref b94), .val (.ref b98), .val (.ref b102), .val (.int v9), .val (.int vd)] [(.int (1 : Int32))])) _
      first | (simp only [if_neg hc119] at k; exact k) | ((repeat (first | rw [if_neg hc119] at k)); exact k)
  show own_Goes p e below _ (T118.setTop (mkF m 189 #[.val (.int p0), .val (.int p1), .val (.int p2), .val (.int (p2 &&& (3 : Int32))), .val (.int vc), .val (.ref b90), .val (.ref b94), .val (.ref b98), .val (.ref b102), .val (.int v9), .val (.int vd)] [(.int (if (if p0 = p0 then (1 : Int32) else (0 : Int32)) = (0 : Int32) then (0 : Int32) else (1 : Int32)))]))
  refine own_step (fun t k => XS.istore X118.here hx rfl (hb hby at_189) rfl (l' := #[.val (.int p0), .val (.int p1), .val (.int p2), .val (.int (p2 &&& (3 : Int32))), .val (.int vc), .val (.ref b90), .val (.ref b94), .val (.ref b98), .val (.ref b102), .val (.int v9), .val (.int (if (if p0 = p0 then (1 : Int32) else (0 : Int32)) = (0 : Int32) then (0 : Int32) else (1 : Int32)))]) rfl k) ?_
  show own_Goes p e below _ (T118.setTop (mkF m 191 #[.val (.int p0), .val (.int p1), .val (.int p2), .val (.int (p2 &&& (3 : Int32))), .val (.int vc), .val (.ref b90), .val (.ref b94), .val (.ref b98), .val (.ref b102), .val (.int v9), .val (.int (if (if p0 = p0 then (1 : Int32) else (0 : Int32)) = (0 : Int32) then (0 : Int32) else (1 : Int32)))] []))
  generalize hv_ve : (if (if p0 = p0 then (1 : Int32) else (0 : Int32)) = (0 : Int32) then (0 : Int32) else (1 : Int32)) = ve
  refine own_step (fun t k => XS.iload X118.here hx rfl (hb hby at_191) rfl k) ?_
  show own_Goes p e below _ (T118.setTop (mkF m 193 #[.val (.int p0), .val (.int p1), .val (.int p2), .val (.int (p2 &&& (3 : Int32))), .val (.int vc), .val (.ref b90), .val (.ref b94), .val (.ref b98), .val (.ref b102), .val (.int v9), .val (.int ve)] [(.int ve)]))
  have hc120 : ¬ (ve = (0 : Int32)) := own_f3 hv_ve
  refine own_step (fun t k => XS.ifNo X118.here hx rfl (hb hby at_193) rfl ((if0 _ _).trans (feq hc120).1) k) ?_
  show own_Goes p e below _ (T118.setTop (mkF m 196 #[.val (.int p0), .val (.int p1), .val (.int p2), .val (.int (p2 &&& (3 : Int32))), .val (.int vc), .val (.ref b90), .val (.ref b94), .val (.ref b98), .val (.ref b102), .val (.int v9), .val (.int ve)] []))
  refine own_step (fun t k => XS.aload X118.here hx rfl (hb hby at_196) rfl rfl k) ?_
  show own_Goes p e below _ (T118.setTop (mkF m 198 #[.val (.int p0), .val (.int p1), .val (.int p2), .val (.int (p2 &&& (3 : Int32))), .val (.int vc), .val (.ref b90), .val (.ref b94), .val (.ref b98), .val (.ref b102), .val (.int v9), .val (.int ve)] [(.ref b90)]))
  refine own_step (fun t k => XS.aconstNull X118.here hx rfl (hb hby at_198) k) ?_
  show own_Goes p e below _ (T118.setTop (mkF m 199 #[.val (.int p0), .val (.int p1), .val (.int p2), .val (.int (p2 &&& (3 : Int32))), .val (.int vc), .val (.ref b90), .val (.ref b94), .val (.ref b98), .val (.ref b102), .val (.int v9), .val (.int ve)] [.null, (.ref b90)]))
  obtain ⟨cq121, kq121, q121a, q121b, q121c⟩ := isOf hZ eh118 (((((((f92_0.ext E94).keep K96c).ext E98).keep K100c).ext E102).keep K104c).keep K106c)
  obtain ⟨_, _, ⟨T121, L121, k121, n121⟩, -, X121, ⟨Lc121, hQ121, l121, y121, z121⟩, st121⟩ := X118.virtualBack hx (y := (⟨"com/example/noctule/noctule/core/IntervalTiming", "equals", "(Ljava/lang/Object;)Z"⟩ : MethodName)) (z := (⟨"com/example/noctule/noctule/core/IntervalTiming", "equals", "(Ljava/lang/Object;)Z"⟩ : MethodName)) hown (mvT hZ w43) (mvT hZ w44) (notFace_of_selects (args := #[]) (mvT hZ w46)) (mvT hZ w46) (mvT hZ w45) (by decide) (backOf (W := 0) (own_e2 l Z a0 hw [] b90  T106.heap n0 (Nat.le_trans (Nat.le_trans (Nat.le_trans (Nat.le_trans (Nat.le_trans (Nat.le_trans (Nat.le_trans (Nat.le_trans (Nat.le_trans Z0 E90.1) K92c.1) E94.1) K96c.1) E98.1) K100c.1) E102.1) K104c.1) K106c.1) ) hZ w47 w2 (by decide) (by decide)) q121a q121c (g := (mkF m 199 #[.val (.int p0), .val (.int p1), .val (.int p2), .val (.int (p2 &&& (3 : Int32))), .val (.int vc), .val (.ref b90), .val (.ref b94), .val (.ref b98), .val (.ref b102), .val (.int v9), .val (.int ve)] [.null, (.ref b90)])) rfl (by rw [hml]; rfl) (Steps.refl _) (argsL := [.null]) (rest := []) (lenOf own_pd4 rfl) rfl (by show 2 * 0 + _ ≤ _; exact Nat.le_of_eq rfl) (hb hby at_199) (fun _ _ => ⟨rfl, eh118, (by decide : 5 + 0 ≤ _), (by decide : 9 + 0 ≤ _)⟩)
  dsimp only [Pt.U, Pt.locs, Pt.cells, Pt.slots] at X121 l121 y121 z121 st121 hQ121
  subst l121 y121 z121
  obtain ⟨rfl, N121q, eh121⟩ := hQ121
  have N121 := Fr.app N118 N121q
  refine own_jump st121 ?_
  show own_Goes p e below _ (T121.setTop (mkF m 202 #[.val (.int p0), .val (.int p1), .val (.int p2), .val (.int (p2 &&& (3 : Int32))), .val (.int vc), .val (.ref b90), .val (.ref b94), .val (.ref b98), .val (.ref b102), .val (.int v9), .val (.int ve)] [(.int (0 : Int32))]))
  have hc122 : (0 : Int32) = (0 : Int32) := rfl
  refine own_step (fun t k => XS.ifNo X121.here hx rfl (hb hby at_202) rfl ((if0 _ _).trans (teq hc122).2) k) ?_
  show own_Goes p e below _ (T121.setTop (mkF m 205 #[.val (.int p0), .val (.int p1), .val (.int p2), .val (.int (p2 &&& (3 : Int32))), .val (.int vc), .val (.ref b90), .val (.ref b94), .val (.ref b98), .val (.ref b102), .val (.int v9), .val (.int ve)] []))
  refine own_step (fun t k => XS.iconst X121.here hx rfl (hb hby at_205) k) ?_
  show own_Goes p e below _ (T121.setTop (mkF m 206 #[.val (.int p0), .val (.int p1), .val (.int p2), .val (.int (p2 &&& (3 : Int32))), .val (.int vc), .val (.ref b90), .val (.ref b94), .val (.ref b98), .val (.ref b102), .val (.int v9), .val (.int ve)] [(.int (1 : Int32))]))
  refine own_step (fun t k => XS.goto X121.here hx rfl (pc0 := 206) (pc' := 210) rfl (hb hby at_206) (by decide) (by decide) k) ?_
  show own_Goes p e below _ (T121.setTop (mkF m 210 #[.val (.int p0), .val (.int p1), .val (.int p2), .val (.int (p2 &&& (3 : Int32))), .val (.int vc), .val (.ref b90), .val (.ref b94), .val (.ref b98), .val (.ref b102), .val (.int v9), .val (.int ve)] [(.int (1 : Int32))]))
  refine own_step (fun t k => XS.istore X121.here hx rfl (hb hby at_210) rfl (l' := #[.val (.int p0), .val (.int p1), .val (.int p2), .val (.int (p2 &&& (3 : Int32))), .val (.int vc), .val (.ref b90), .val (.ref b94), .val (.ref b98), .val (.ref b102), .val (.int v9), .val (.int (1 : Int32))]) rfl k) ?_
  show own_Goes p e below _ (T121.setTop (mkF m 212 #[.val (.int p0), .val (.int p1), .val (.int p2), .val (.int (p2 &&& (3 : Int32))), .val (.int vc), .val (.ref b90), .val (.ref b94), .val (.ref b98), .val (.ref b102), .val (.int v9), .val (.int (1 : Int32))] []))
  refine own_step (fun t k => XS.iload X121.here hx rfl (hb hby at_212) rfl k) ?_
  show own_Goes p e below _ (T121.setTop (mkF m 214 #[.val (.int p0), .val (.int p1), .val (.int p2), .val (.int (p2 &&& (3 : Int32))), .val (.int vc), .val (.ref b90), .val (.ref b94), .val (.ref b98), .val (.ref b102), .val (.int v9), .val (.int (1 : Int32))] [(.int (1 : Int32))]))
  have hc123 : ¬ ((1 : Int32) = (0 : Int32)) := by decide
  refine own_step (fun t k => XS.ifNo X121.here hx rfl (hb hby at_214) rfl ((if0 _ _).trans (feq hc123).1) k) ?_
  show own_Goes p e below _ (T121.setTop (mkF m 217 #[.val (.int p0), .val (.int p1), .val (.int p2), .val (.int (p2 &&& (3 : Int32))), .val (.int vc), .val (.ref b90), .val (.ref b94), .val (.ref b98), .val (.ref b102), .val (.int v9), .val (.int (1 : Int32))] []))
  refine own_step (fun t k => XS.aload X121.here hx rfl (hb hby at_217) rfl rfl k) ?_
  show own_Goes p e below _ (T121.setTop (mkF m 219 #[.val (.int p0), .val (.int p1), .val (.int p2), .val (.int (p2 &&& (3 : Int32))), .val (.int vc), .val (.ref b90), .val (.ref b94), .val (.ref b98), .val (.ref b102), .val (.int v9), .val (.int (1 : Int32))] [(.ref b90)]))
  refine own_step (fun t k => XS.aload X121.here hx rfl (hb hby at_219) rfl rfl k) ?_
  show own_Goes p e below _ (T121.setTop (mkF m 221 #[.val (.int p0), .val (.int p1), .val (.int p2), .val (.int (p2 &&& (3 : Int32))), .val (.int vc), .val (.ref b90), .val (.ref b94), .val (.ref b98), .val (.ref b102), .val (.int v9), .val (.int (1 : Int32))] [(.ref b102), (.ref b90)]))
  obtain ⟨cq124, kq124, q124a, q124b, q124c⟩ := isOf hZ eh121 (((((((f92_0.ext E94).keep K96c).ext E98).keep K100c).ext E102).keep K104c).keep K106c)
  obtain ⟨_, _, ⟨T124, L124, k124, n124⟩, -, X124, ⟨Lc124, hQ124, l124, y124, z124⟩, st124⟩ := X121.virtualBack hx (y := (⟨"com/example/noctule/noctule/core/IntervalTiming", "equals", "(Ljava/lang/Object;)Z"⟩ : MethodName)) (z := (⟨"com/example/noctule/noctule/core/IntervalTiming", "equals", "(Ljava/lang/Object;)Z"⟩ : MethodName)) hown (mvT hZ w43) (mvT hZ w44) (notFace_of_selects (args := #[]) (mvT hZ w46)) (mvT hZ w46) (mvT hZ w45) (by decide) (backOf (W := 0) (own_e3 l Z a0 hw [] b90 b102  T106.heap n0 (Nat.le_trans (Nat.le_trans (Nat.le_trans (Nat.le_trans (Nat.le_trans (Nat.le_trans (Nat.le_trans (Nat.le_trans (Nat.le_trans Z0 E90.1) K92c.1) E94.1) K96c.1) E98.1) K100c.1) E102.1) K104c.1) K106c.1) f106_0) hZ w47 w2 (by decide) (by decide)) q124a q124c (g := (mkF m 221 #[.val (.int p0), .val (.int p1), .val (.int p2), .val (.int (p2 &&& (3 : Int32))), .val (.int vc), .val (.ref b90), .val (.ref b94), .val (.ref b98), .val (.ref b102), .val (.int v9), .val (.int (1 : Int32))] [(.ref b102), (.ref b90)])) rfl (by rw [hml]; rfl) (Steps.refl _) (argsL := [(.ref b102)]) (rest := []) (lenOf own_pd4 rfl) rfl (by show 2 * 0 + _ ≤ _; exact Nat.le_of_eq rfl) (hb hby at_221) (fun _ _ => ⟨rfl, eh121, (by decide : 5 + 0 ≤ _), (by decide : 9 + 0 ≤ _)⟩)
  dsimp only [Pt.U, Pt.locs, Pt.cells, Pt.slots] at X124 l124 y124 z124 st124 hQ124
  subst l124 y124 z124
  obtain ⟨rfl, N124q, eh124⟩ := hQ124
  have N124 := Fr.app N121 N124q
  refine own_jump st124 ?_
  show own_Goes p e below _ (T124.setTop (mkF m 224 #[.val (.int p0), .val (.int p1), .val (.int p2), .val (.int (p2 &&& (3 : Int32))), .val (.int vc), .val (.ref b90), .val (.ref b94), .val (.ref b98), .val (.ref b102), .val (.int v9), .val (.int (1 : Int32))] [(.int (0 : Int32))]))
  have hc125 : (0 : Int32) = (0 : Int32) := rfl
  refine own_step (fun t k => XS.ifNo X124.here hx rfl (hb hby at_224) rfl ((if0 _ _).trans (teq hc125).2) k) ?_
  show own_Goes p e below _ (T124.setTop (mkF m 227 #[.val (.int p0), .val (.int p1), .val (.int p2), .val (.int (p2 &&& (3 : Int32))), .val (.int vc), .val (.ref b90), .val (.ref b94), .val (.ref b98), .val (.ref b102), .val (.int v9), .val (.int (1 : Int32))] []))
  refine own_step (fun t k => XS.iconst X124.here hx rfl (hb hby at_227) k) ?_
  show own_Goes p e below _ (T124.setTop (mkF m 228 #[.val (.int p0), .val (.int p1), .val (.int p2), .val (.int (p2 &&& (3 : Int32))), .val (.int vc), .val (.ref b90), .val (.ref b94), .val (.ref b98), .val (.ref b102), .val (.int v9), .val (.int (1 : Int32))] [(.int (1 : Int32))]))
  refine own_step (fun t k => XS.goto X124.here hx rfl (pc0 := 228) (pc' := 232) rfl (hb hby at_228) (by decide) (by decide) k) ?_
  show own_Goes p e below _ (T124.setTop (mkF m 232 #[.val (.int p0), .val (.int p1), .val (.int p2), .val (.int (p2 &&& (3 : Int32))), .val (.int vc), .val (.ref b90), .val (.ref b94), .val (.ref b98), .val (.ref b102), .val (.int v9), .val (.int (1 : Int32))] [(.int (1 : Int32))]))
  refine own_step (fun t k => XS.istore X124.here hx rfl (hb hby at_232) rfl (l' := #[.val (.int p0), .val (.int p1), .val (.int p2), .val (.int (p2 &&& (3 : Int32))), .val (.int vc), .val (.ref b90), .val (.ref b94), .val (.ref b98), .val (.ref b102), .val (.int v9), .val (.int (1 : Int32))]) rfl k) ?_
  show own_Goes p e below _ (T124.setTop (mkF m 234 #[.val (.int p0), .val (.int p1), .val (.int p2), .val (.int (p2 &&& (3 : Int32))), .val (.int vc), .val (.ref b90), .val (.ref b94), .val (.ref b98), .val (.ref b102), .val (.int v9), .val (.int (1 : Int32))] []))
  refine own_step (fun t k => XS.iload X124.here hx rfl (hb hby at_234) rfl k) ?_
  show own_Goes p e below _ (T124.setTop (mkF m 236 #[.val (.int p0), .val (.int p1), .val (.int p2), .val (.int (p2 &&& (3 : Int32))), .val (.int vc), .val (.ref b90), .val (.ref b94), .val (.ref b98), .val (.ref b102), .val (.int v9), .val (.int (1 : Int32))] [(.int (1 : Int32))]))
  have hc126 : ¬ ((1 : Int32) = (0 : Int32)) := by decide
  refine own_step (fun t k => XS.ifNo X124.here hx rfl (hb hby at_236) rfl ((if0 _ _).trans (feq hc126).1) k) ?_
  show own_Goes p e below _ (T124.setTop (mkF m 239 #[.val (.int p0), .val (.int p1), .val (.int p2), .val (.int (p2 &&& (3 : Int32))), .val (.int vc), .val (.ref b90), .val (.ref b94), .val (.ref b98), .val (.ref b102), .val (.int v9), .val (.int (1 : Int32))] []))
  refine own_step (fun t k => XS.aload X124.here hx rfl (hb hby at_239) rfl rfl k) ?_
  show own_Goes p e below _ (T124.setTop (mkF m 241 #[.val (.int p0), .val (.int p1), .val (.int p2), .val (.int (p2 &&& (3 : Int32))), .val (.int vc), .val (.ref b90), .val (.ref b94), .val (.ref b98), .val (.ref b102), .val (.int v9), .val (.int (1 : Int32))] [(.ref b90)]))
  refine own_step (fun t k => XS.iloadN X124.here hx rfl (hb hby at_241) rfl k) ?_
  show own_Goes p e below _ (T124.setTop (mkF m 242 #[.val (.int p0), .val (.int p1), .val (.int p2), .val (.int (p2 &&& (3 : Int32))), .val (.int vc), .val (.ref b90), .val (.ref b94), .val (.ref b98), .val (.ref b102), .val (.int v9), .val (.int (1 : Int32))] [(.int p0), (.ref b90)]))
  obtain ⟨_, _, ⟨T127, L127, k127, n127⟩, -, X127, ⟨Lc127, hQ127, l127, y127, z127⟩, st127⟩ := Jvm.LawKit.callS X124 hx (y := (⟨"java/lang/Integer", "valueOf", "(I)Ljava/lang/Integer;"⟩ : MethodName)) hown (mvT hZ w19) (mvT hZ w20) (mvT hZ w21) (mvT hZ w22) (by decide) (backOf (W := 1) (own_n3 l Z a0 hw [] p0 (wc) (cC) T106.heap n0 (Nat.le_trans (Nat.le_trans (Nat.le_trans (Nat.le_trans (Nat.le_trans (Nat.le_trans (Nat.le_trans (Nat.le_trans (Nat.le_trans Z0 E90.1) K92c.1) E94.1) K96c.1) E98.1) K100c.1) E102.1) K104c.1) K106c.1) S_high S_cache (((((((((O0.ext E90).keep K92c (allS g_b90 all0)).ext E94).keep K96c (allS g_b94 all0)).ext E98).keep K100c (allS g_b98 all0)).ext E102).keep K104c all0).keep K106c (allS g_b102 all0)) (hbx)) hZ w22 w21 (by decide) (by decide)) (g := (mkF m 242 #[.val (.int p0), .val (.int p1), .val (.int p2), .val (.int (p2 &&& (3 : Int32))), .val (.int vc), .val (.ref b90), .val (.ref b94), .val (.ref b98), .val (.ref b102), .val (.int v9), .val (.int (1 : Int32))] [(.int p0), (.ref b90)])) rfl (by rw [hml]; rfl) (argsL := [(.int p0)]) (rest := [(.ref b90)]) (lenOf own_pd2 rfl) rfl (by show 2 * 0 + _ ≤ _; exact Nat.le_of_eq rfl) (hb hby at_242) (fun _ _ => ⟨rfl, eh124, (by decide : 5 + 1 ≤ _), (by decide : 9 + 1 ≤ _)⟩)
  dsimp only [Pt.U, Pt.locs, Pt.cells, Pt.slots] at X127 l127 y127 z127 st127 hQ127
  subst l127 y127 z127
  obtain ⟨xx_127, rfl, N127q, K127c, f127_0⟩ := hQ127
  have N127 := Fr.app N124 N127q
  refine own_step st127 ?_
  have K128 : Keep h0 T127.heap [] := K107.trans K127c all0
  show own_Goes p e below _ (T127.setTop (mkF m 245 #[.val (.int p0), .val (.int p1), .val (.int p2), .val (.int (p2 &&& (3 : Int32))), .val (.int vc), .val (.ref b90), .val (.ref b94), .val (.ref b98), .val (.ref b102), .val (.int v9), .val (.int (1 : Int32))] [(.ref xx_127), (.ref b90)]))
  obtain ⟨cq129, kq129, q129a, q129b, q129c⟩ := isOf hZ rfl ((((((((f92_0.ext E94).keep K96c).ext E98).keep K100c).ext E102).keep K104c).keep K106c).keep K127c)
  obtain ⟨_, _, ⟨T129, L129, k129, n129⟩, -, X129, ⟨Lc129, hQ129, l129, y129, z129⟩, st129⟩ := X127.virtualBack hx (y := (⟨"com/example/noctule/noctule/core/IntervalTiming", "equals", "(Ljava/lang/Object;)Z"⟩ : MethodName)) (z := (⟨"com/example/noctule/noctule/core/IntervalTiming", "equals", "(Ljava/lang/Object;)Z"⟩ : MethodName)) hown (mvT hZ w43) (mvT hZ w44) (notFace_of_selects (args := #[]) (mvT hZ w46)) (mvT hZ w46) (mvT hZ w45) (by decide) (backOf (W := 0) (own_e4 l Z a0 hw [] b90 xx_127  T127.heap n0 (Nat.le_trans (Nat.le_trans (Nat.le_trans (Nat.le_trans (Nat.le_trans (Nat.le_trans (Nat.le_trans (Nat.le_trans (Nat.le_trans (Nat.le_trans Z0 E90.1) K92c.1) E94.1) K96c.1) E98.1) K100c.1) E102.1) K104c.1) K106c.1) K127c.1) f127_0) hZ w47 w2 (by decide) (by decide)) q129a q129c (g := (mkF m 245 #[.val (.int p0), .val (.int p1), .val (.int p2), .val (.int (p2 &&& (3 : Int32))), .val (.int vc), .val (.ref b90), .val (.ref b94), .val (.ref b98), .val (.ref b102), .val (.int v9), .val (.int (1 : Int32))] [(.ref xx_127), (.ref b90)])) rfl (by rw [hml]; rfl) (Steps.refl _) (argsL := [(.ref xx_127)]) (rest := []) (lenOf own_pd4 rfl) rfl (by show 2 * 0 + _ ≤ _; exact Nat.le_of_eq rfl) (hb hby at_245) (fun _ _ => ⟨rfl, rfl, (by decide : 6 + 0 ≤ _), (by decide : 10 + 0 ≤ _)⟩)
  dsimp only [Pt.U, Pt.locs, Pt.cells, Pt.slots] at X129 l129 y129 z129 st129 hQ129
  subst l129 y129 z129
  obtain ⟨rfl, N129q, eh129⟩ := hQ129
  have N129 := Fr.app N127 N129q
  refine own_jump st129 ?_
  show own_Goes p e below _ (T129.setTop (mkF m 248 #[.val (.int p0), .val (.int p1), .val (.int p2), .val (.int (p2 &&& (3 : Int32))), .val (.int vc), .val (.ref b90), .val (.ref b94), .val (.ref b98), .val (.ref b102), .val (.int v9), .val (.int (1 : Int32))] [(.int (0 : Int32))]))
  have hc130 : (0 : Int32) = (0 : Int32) := rfl
  refine own_step (fun t k => XS.ifNo X129.here hx rfl (hb hby at_248) rfl ((if0 _ _).trans (teq hc130).2) k) ?_
  show own_Goes p e below _ (T129.setTop (mkF m 251 #[.val (.int p0), .val (.int p1), .val (.int p2), .val (.int (p2 &&& (3 : Int32))), .val (.int vc), .val (.ref b90), .val (.ref b94), .val (.ref b98), .val (.ref b102), .val (.int v9), .val (.int (1 : Int32))] []))
  refine own_step (fun t k => XS.iconst X129.here hx rfl (hb hby at_251) k) ?_
  show own_Goes p e below _ (T129.setTop (mkF m 252 #[.val (.int p0), .val (.int p1), .val (.int p2), .val (.int (p2 &&& (3 : Int32))), .val (.int vc), .val (.ref b90), .val (.ref b94), .val (.ref b98), .val (.ref b102), .val (.int v9), .val (.int (1 : Int32))] [(.int (1 : Int32))]))
  refine own_step (fun t k => XS.goto X129.here hx rfl (pc0 := 252) (pc' := 256) rfl (hb hby at_252) (by decide) (by decide) k) ?_
  show own_Goes p e below _ (T129.setTop (mkF m 256 #[.val (.int p0), .val (.int p1), .val (.int p2), .val (.int (p2 &&& (3 : Int32))), .val (.int vc), .val (.ref b90), .val (.ref b94), .val (.ref b98), .val (.ref b102), .val (.int v9), .val (.int (1 : Int32))] [(.int (1 : Int32))]))
  refine own_step (fun t k => XS.istore X129.here hx rfl (hb hby at_256) rfl (l' := #[.val (.int p0), .val (.int p1), .val (.int p2), .val (.int (p2 &&& (3 : Int32))), .val (.int vc), .val (.ref b90), .val (.ref b94), .val (.ref b98), .val (.ref b102), .val (.int v9), .val (.int (1 : Int32))]) rfl k) ?_
  show own_Goes p e below _ (T129.setTop (mkF m 258 #[.val (.int p0), .val (.int p1), .val (.int p2), .val (.int (p2 &&& (3 : Int32))), .val (.int vc), .val (.ref b90), .val (.ref b94), .val (.ref b98), .val (.ref b102), .val (.int v9), .val (.int (1 : Int32))] []))
  refine own_step (fun t k => XS.iload X129.here hx rfl (hb hby at_258) rfl k) ?_
  show own_Goes p e below _ (T129.setTop (mkF m 260 #[.val (.int p0), .val (.int p1), .val (.int p2), .val (.int (p2 &&& (3 : Int32))), .val (.int vc), .val (.ref b90), .val (.ref b94), .val (.ref b98), .val (.ref b102), .val (.int v9), .val (.int (1 : Int32))] [(.int (1 : Int32))]))
  refine own_retL X129 hx hlk Bd.returns (hb hby at_260) (?_ : (1 : Int32) = 1) N129 (by decide) (by decide)
  exact rfl
set_option maxRecDepth 65536 in
set_option maxHeartbeats 40000000 in
theorem comes_1 {Post : Tables → Env → Array Value → State → Outcome → State → Prop} (hpost : ∀ tb e args s v u, (limb_1_1.after args s (.returned v) u = true ∧ limb_1_2.after args s (.returned v) u = true ∧ True) → FrameEnd s (.returned v) u (Jvm.fieldLocs frame_1_writes args s ++ Jvm.arrayLocs frame_1_arrays args s ++ Jvm.staticLocs frame_1_statics s) 24 128 → Post tb e args s (.returned v) u) :
    ArmFor flags0 classFile x code maxLocals ret World_1 tables_1 room_1 Calls_1 rest_1 Pre_1 Post := by
  intro l hfl _ _ p e ha hc hk s m args below hf hA hF happ hP
  obtain ⟨hcalls, hrest, hpre⟩ := hP
  obtain ⟨-, -, -, hnamed, -, -, -, hat⟩ := (Spec.applies_iff hf).mp happ
  obtain ⟨hg, hn⟩ := and_e (Cond.before_iff.mp (show (Jvm.Cond.and given_1 narrow_1).before args s = true from hpre))
  obtain ⟨gg1, gg2⟩ := and_e hg
  obtain ⟨gg3, gg4⟩ := and_e gg2
  obtain ⟨gg5, gg6⟩ := and_e gg4
  obtain ⟨w0, w1, w2, rfl⟩ : ∃ w0 w1 w2 : Value, args = #[w0, w1, w2] := by
    have hs : args.size = 3 := by simpa [Cond.value, given_1] using gg1
    obtain ⟨L⟩ := args
    match L, hs with
    | [w0, w1, w2], _ => exact ⟨w0, w1, w2, rfl⟩
  have hw := fun d (hd : d ∈ tables_1) => atoms_spec (ws := Jvm.Cond.code x code maxLocals ret :: tables_1) hat d (List.mem_cons_of_mem _ hd)
  have hfit : Fit s := fun {y c} hc i hi => by
    obtain ⟨ha, rfl⟩ := Array.getElem?_eq_some_iff.mp hc
    have q := List.all_eq_true.mp ((Array.all_eq_true_iff_forall_mem.mp hF) _ (Array.getElem_mem ha)) i (List.mem_range.mpr hi)
    simpa [Array.getElem?_eq_getElem hi] using q
  obtain ⟨i0, ei0⟩ := is_v gg3
  obtain rfl : w0 = (.int i0) := Option.some.inj ei0
  obtain ⟨i1, ei1⟩ := is_v gg5
  obtain rfl : w1 = (.int i1) := Option.some.inj ei1
  obtain ⟨i2, ei2⟩ := is_v gg6
  obtain rfl : w2 = (.int i2) := Option.some.inj ei2
  obtain ⟨hsets, hown0⟩ := atoms_of _ (rest_1_c_eq ▸ (show rest_1_c.before _ s = true from hrest))
  have eh := eqv_i (Term.int_eval _) (Cond.before_iff.mp (hsets _ (List.mem_of_getElem? (i := 3) rfl)))
  have S_high := Sta.start eh (Or.inl (hsets _ (List.mem_of_getElem? (i := 1) rfl)))
  obtain ⟨wc, evc⟩ := arr_v (Cond.before_iff.mp (hsets _ (List.mem_of_getElem? (i := 4) rfl)))
  have S_cache := Sta.start evc (Or.inr ⟨(hw _ (List.mem_of_getElem? (i := 24) rfl)), (hsets _ (List.mem_of_getElem? (i := 2) rfl))⟩)
  obtain ⟨cC, AC⟩ := Arr.start evc (Cond.before_iff.mp (hsets _ (List.mem_of_getElem? (i := 4) rfl)))
  have lC := own_length evc AC (Cond.before_iff.mp (hsets _ (List.mem_of_getElem? (i := 6) rfl)))
  have hbx : Bxs s wc cC "java/lang/Integer" "I" (256 : Int32) own_val := Bxs.start (fun idx => evc) AC lC.1 lC.2 (by decide) (Cond.before_iff.mp (hsets _ (List.mem_of_getElem? (i := 7) rfl))) (fun X j nn h => eqv_i (own_sub (idx_at nn) (Term.int_eval _)) h)
  obtain ⟨wI, evI⟩ := exa_v hn
  have S_I := Sta.start evI (Or.inr ⟨(hw _ (List.mem_of_getElem? (i := 39) rfl)), (hw _ (List.mem_of_getElem? (i := 40) rfl))⟩)
  obtain ⟨n, o, h1, h2, h3, _, L, rfl, ⟨rfl, N⟩, hq⟩ := own_law l s _ hw tables_1 i0 i1 i2 wc cC wI s.heap s.heap.size (Nat.le_refl _) S_high S_cache (Old.start s) hbx S_I p e ha hc hk s m _ below hf ((Spec.applies_iff_loose hf).mp happ).1 ⟨rfl, State.Warmed39.refl s, rfl⟩ trivial
  refine ⟨n, _, h1, h2, h3, hpost _ _ _ _ _ _ ⟨Cond.after_iff.mpr rfl, Cond.after_iff.mpr (eq_i res_at (Term.int_eval (1)) rfl), trivial⟩ ⟨hq.1, hq.2.1, (hq.2.2.sift fun y hy => Or.inr (N y hy)).mono (by decide) (by decide)⟩⟩
theorem main_1_1 : Claimed_1_1 := comes_1 fun _ _ _ _ _ _ h hF => ⟨h.1, hF⟩
theorem main_1_2 : Claimed_1_2 := comes_1 fun _ _ _ _ _ _ h hF => ⟨h.2.1, hF⟩
end Jvm.Pilot.@@N@@
namespace Jvm.Pilot.@@N@@
open Jvm Jvm.ClassFile Sem Op Lib Jvm.Free Jvm.Stand Jvm.Pilot.@@N@@.Jvm.D
/-! MADE BY PROGRAM (witnessworld.py) out of the Statement's table words and the real class files: 21 classes; the members and pool entries that the words name. The judged class is class 1, her method 1. -/
namespace start1
open Jvm.ClassFile
def u (s : String) : CpInfo := .utf8 (stringToUtf16 s)
/-- a pool by its gaps: so many unusable entries, then the entry; so many at the end -/
def gap : Nat → List CpInfo → List CpInfo
  | 0, r => r
  | n + 1, r => .unusable :: gap n r
def poolList (es : List (Nat × CpInfo)) (last : Nat) : List CpInfo := es.foldr (fun e r => gap e.1 (e.2 :: r)) (gap last [])
def pool (es : List (Nat × CpInfo)) (last : Nat) : Array CpInfo := ⟨poolList es last⟩
def fileOf (pool : Array CpInfo) (this : Nat) (attrs : Array Attribute := #[]) (ms : Array MethodInfo := #[]) (fl : Nat := 33) (sup : Nat := 0) (ifs : Array Nat := #[]) (fds : Array FieldInfo := #[]) : ClassFile where
  minorVersion := 0
  majorVersion := 65
  constantPool := pool
  accessFlags := fl
  thisClass := this
  superClass := sup
  interfaces := ifs
  fields := fds
  methods := ms
  attributes := attrs
def plain (name : String) (sup : Option ClassId) : Class where
  name := name
  kind := .ordinary
  loader := none
  accessFlags := 33
  super := sup
  interfaces := #[]
  cf := none
  fields := #[]
  methods := #[]
  instanceTypes := #[]
  staticTypes := #[]
  resolved := #[]
  callSites := []
  init := .initialized
  statics := none
  mirror := none

def pool0 : Array CpInfo := pool [(5, u "<init>"), (0, u "()V"), (1, .class_ 10), (1, u "java/lang/Object")] 113

def k0c0 : Code := { maxStack := 0, maxLocals := 1, code := object_method_1_code, exceptionTable := #[], attributes := #[] }
def k0m0 : Method := { name := "<init>", desc := "()V", sig := { parameters := [], returnType := none }, accessFlags := 1, code := some k0c0 }
/-- java/lang/Object -/
def k0 : Class := { plain "java/lang/Object" none with
  accessFlags := 33
  interfaces := #[]
  cf := some (fileOf pool0 8 #[] #[{ accessFlags := 1, nameIndex := 5, descriptorIndex := 6, attributes := #[] }] 33 0 #[] #[])
  fields := #[]
  methods := #[k0m0]
  instanceTypes := #[]
  staticTypes := #[]
  resolved := Array.replicate 124 none
  statics := none }

def pool1 : Array CpInfo := pool [(2, .class_ 4), (1, u "java/lang/Object"), (0, u "<init>"), (0, u "()V"), (0, .class_ 8), (0, u "java/lang/Integer"), (0, .integer 2147483648), (0, .class_ 11), (0, u "com/example/noctule/noctule/core/IntervalTiming"), (0, .methodref 10 13), (0, .nameAndType 5 14), (0, u "(I)V"), (0, .class_ 16), (0, u "com/example/noctule/noctule/core/UnreadableTiming"), (0, .methodref 7 18), (0, .nameAndType 19 20), (0, u "valueOf"), (0, u "(I)Ljava/lang/Integer;"), (0, .methodref 15 22), (0, .nameAndType 5 23), (0, u "(Ljava/lang/Integer;Ljava/lang/String;Ljava/lang/String;Ljava/time/Instant;)V"), (0, .methodref 10 25), (0, .nameAndType 26 27), (0, u "equals"), (0, u "(Ljava/lang/Object;)Z"), (0, .class_ 29), (0, u "com/example/noctule/noctule/core/IntervalTimingEqualsPinLaw"), (2, u "law"), (0, u "(III)Z")] 3

def k1m0 : Method := { name := "<init>", desc := "()V", sig := { parameters := [], returnType := none }, accessFlags := 2, code := none }
def k1c1 : Code := { maxStack := 6, maxLocals := 11, code := code, exceptionTable := #[], attributes := #[] }
def k1m1 : Method := { name := "law", desc := "(III)Z", sig := { parameters := [.int, .int, .int], returnType := some .boolean }, accessFlags := 9, code := some k1c1 }
/-- com/example/noctule/noctule/core/IntervalTimingEqualsPinLaw -/
def k1 : Class := { plain "com/example/noctule/noctule/core/IntervalTimingEqualsPinLaw" (some 0) with
  accessFlags := 49
  interfaces := #[]
  cf := some (fileOf pool1 28 #[] #[{ accessFlags := 2, nameIndex := 5, descriptorIndex := 6, attributes := #[] }, { accessFlags := 9, nameIndex := 32, descriptorIndex := 33, attributes := #[] }] 49 2 #[] #[])
  fields := #[]
  methods := #[k1m0, k1m1]
  instanceTypes := #[]
  staticTypes := #[]
  resolved := Array.replicate 37 none
  statics := none }

def pool2 : Array CpInfo := pool [(3, .methodref 4 5), (0, .class_ 6), (0, .nameAndType 7 8), (0, u "java/lang/Object"), (0, u "<init>"), (0, u "()V"), (57, .class_ 68), (1, u "com/example/noctule/noctule/core/Timing"), (91, .class_ 161), (0, u "com/example/noctule/noctule/core/Timing$DueTimes")] 68

def k2c0 : Code := { maxStack := 1, maxLocals := 1, code := prog_46_method_1_code, exceptionTable := #[], attributes := #[] }
def k2m0 : Method := { name := "<init>", desc := "()V", sig := { parameters := [], returnType := none }, accessFlags := 0, code := some k2c0 }
/-- com/example/noctule/noctule/core/Timing -/
def k2 : Class := { plain "com/example/noctule/noctule/core/Timing" (some 0) with
  accessFlags := 1057
  interfaces := #[]
  cf := some (fileOf pool2 66 #[.nestMembers #[160]] #[{ accessFlags := 0, nameIndex := 7, descriptorIndex := 8, attributes := #[] }] 1057 4 #[] #[])
  fields := #[]
  methods := #[k2m0]
  instanceTypes := #[]
  staticTypes := #[]
  resolved := Array.replicate 230 none
  statics := none }

def pool3 : Array CpInfo := pool [(1, .methodref 2 3), (0, .class_ 4), (0, .nameAndType 5 6), (0, u "com/example/noctule/noctule/core/Timing"), (0, u "<init>"), (0, u "()V"), (0, .fieldref 8 9), (0, .class_ 10), (0, .nameAndType 11 12), (0, u "com/example/noctule/noctule/core/IntervalTiming"), (0, u "seconds"), (0, u "I"), (33, u "(I)V"), (12, u "equals"), (0, u "(Ljava/lang/Object;)Z")] 4

def k3c0 : Code := { maxStack := 2, maxLocals := 2, code := prog_32_method_1_code, exceptionTable := #[], attributes := #[] }
def k3m0 : Method := { name := "<init>", desc := "(I)V", sig := { parameters := [.int], returnType := none }, accessFlags := 0, code := some k3c0 }
def k3c1 : Code := { maxStack := 2, maxLocals := 3, code := prog_32_method_6_code, exceptionTable := #[], attributes := #[] }
def k3m1 : Method := { name := "equals", desc := "(Ljava/lang/Object;)Z", sig := { parameters := [(.object "java/lang/Object")], returnType := some .boolean }, accessFlags := 1, code := some k3c1 }
/-- com/example/noctule/noctule/core/IntervalTiming -/
def k3 : Class := { plain "com/example/noctule/noctule/core/IntervalTiming" (some 2) with
  accessFlags := 48
  interfaces := #[]
  cf := some (fileOf pool3 8 #[] #[{ accessFlags := 0, nameIndex := 5, descriptorIndex := 46, attributes := #[] }, { accessFlags := 1, nameIndex := 59, descriptorIndex := 60, attributes := #[] }] 48 2 #[] #[{ accessFlags := 18, nameIndex := 11, descriptorIndex := 12, attributes := #[] }])
  fields := #[{ name := "seconds", type := .int, accessFlags := 18, slot := 0, constantValue := 0 }]
  methods := #[k3m0, k3m1]
  instanceTypes := #[.int]
  staticTypes := #[]
  resolved := Array.replicate 65 none
  statics := none }

def pool4 : Array CpInfo := pool [(1, .methodref 2 3), (0, .class_ 4), (0, .nameAndType 5 6), (0, u "com/example/noctule/noctule/core/Timing"), (0, u "<init>"), (0, u "()V"), (0, .fieldref 8 9), (0, .class_ 10), (0, .nameAndType 11 12), (0, u "com/example/noctule/noctule/core/UnreadableTiming"), (0, u "intervalSeconds"), (0, u "Ljava/lang/Integer;"), (0, .fieldref 8 14), (0, .nameAndType 15 16), (0, u "cron"), (0, u "Ljava/lang/String;"), (0, .fieldref 8 18), (0, .nameAndType 19 16), (0, u "timezone"), (0, .fieldref 8 21), (0, .nameAndType 22 23), (0, u "runAt"), (0, u "Ljava/time/Instant;"), (0, .fieldref 25 26), (0, .class_ 27), (0, .nameAndType 28 29), (0, u "com/example/noctule/noctule/core/ScheduleKind"), (0, u "INTERVAL"), (0, u "Lcom/example/noctule/noctule/core/ScheduleKind;"), (0, .fieldref 8 31), (0, .nameAndType 32 29), (0, u "kind"), (34, u "NO_DUE_TIME"), (1, u "(Ljava/lang/Integer;Ljava/lang/String;Ljava/lang/String;Ljava/time/Instant;)V")] 30

def k4c0 : Code := { maxStack := 2, maxLocals := 5, code := prog_50_method_1_code, exceptionTable := #[], attributes := #[] }
def k4m0 : Method := { name := "<init>", desc := "(Ljava/lang/Integer;Ljava/lang/String;Ljava/lang/String;Ljava/time/Instant;)V", sig := { parameters := [(.object "java/lang/Integer"), (.object "java/lang/String"), (.object "java/lang/String"), (.object "java/time/Instant")], returnType := none }, accessFlags := 0, code := some k4c0 }
/-- com/example/noctule/noctule/core/UnreadableTiming -/
def k4 : Class := { plain "com/example/noctule/noctule/core/UnreadableTiming" (some 2) with
  accessFlags := 48
  interfaces := #[]
  cf := some (fileOf pool4 8 #[] #[{ accessFlags := 0, nameIndex := 5, descriptorIndex := 69, attributes := #[] }] 48 2 #[] #[{ accessFlags := 26, nameIndex := 67, descriptorIndex := 16, attributes := #[] }, { accessFlags := 18, nameIndex := 32, descriptorIndex := 29, attributes := #[] }, { accessFlags := 18, nameIndex := 11, descriptorIndex := 12, attributes := #[] }, { accessFlags := 18, nameIndex := 15, descriptorIndex := 16, attributes := #[] }, { accessFlags := 18, nameIndex := 19, descriptorIndex := 16, attributes := #[] }, { accessFlags := 18, nameIndex := 22, descriptorIndex := 23, attributes := #[] }])
  fields := #[{ name := "NO_DUE_TIME", type := (.object "java/lang/String"), accessFlags := 26, slot := 0, constantValue := 0 }, { name := "kind", type := (.object "com/example/noctule/noctule/core/ScheduleKind"), accessFlags := 18, slot := 0, constantValue := 0 }, { name := "intervalSeconds", type := (.object "java/lang/Integer"), accessFlags := 18, slot := 1, constantValue := 0 }, { name := "cron", type := (.object "java/lang/String"), accessFlags := 18, slot := 2, constantValue := 0 }, { name := "timezone", type := (.object "java/lang/String"), accessFlags := 18, slot := 3, constantValue := 0 }, { name := "runAt", type := (.object "java/time/Instant"), accessFlags := 18, slot := 4, constantValue := 0 }]
  methods := #[k4m0]
  instanceTypes := #[(.object "com/example/noctule/noctule/core/ScheduleKind"), (.object "java/lang/Integer"), (.object "java/lang/String"), (.object "java/lang/String"), (.object "java/time/Instant")]
  staticTypes := #[(.object "java/lang/String")]
  resolved := Array.replicate 100 none
  statics := none }

def pool5 : Array CpInfo := pool [(1, .class_ 2), (0, u "java/io/Serializable"), (0, .class_ 4), (0, u "java/lang/Object")] 2

/-- java/io/Serializable -/
def k5 : Class := { plain "java/io/Serializable" (some 0) with
  accessFlags := 1537
  interfaces := #[]
  cf := some (fileOf pool5 1 #[] #[] 1537 3 #[] #[])
  fields := #[]
  methods := #[]
  instanceTypes := #[]
  staticTypes := #[]
  resolved := Array.replicate 7 none
  statics := none }

def pool6 : Array CpInfo := pool [(1, .methodref 2 3), (0, .class_ 4), (0, .nameAndType 5 6), (0, u "java/lang/Object"), (0, u "<init>"), (0, u "()V"), (1, .class_ 10), (1, u "java/lang/Number"), (2, .class_ 14), (0, u "java/io/Serializable"), (0, u "serialVersionUID"), (0, u "J")] 20

def k6c0 : Code := { maxStack := 1, maxLocals := 1, code := jdk_18_method_1_code, exceptionTable := #[], attributes := #[] }
def k6m0 : Method := { name := "<init>", desc := "()V", sig := { parameters := [], returnType := none }, accessFlags := 1, code := some k6c0 }
/-- java/lang/Number -/
def k6 : Class := { plain "java/lang/Number" (some 0) with
  accessFlags := 1057
  interfaces := #[5]
  cf := some (fileOf pool6 8 #[] #[{ accessFlags := 1, nameIndex := 5, descriptorIndex := 6, attributes := #[] }] 1057 2 #[13] #[{ accessFlags := 26, nameIndex := 15, descriptorIndex := 16, attributes := #[] }])
  fields := #[{ name := "serialVersionUID", type := .long, accessFlags := 26, slot := 0, constantValue := 0 }]
  methods := #[k6m0]
  instanceTypes := #[]
  staticTypes := #[.long]
  resolved := Array.replicate 37 none
  statics := none }

def pool7 : Array CpInfo := pool [(1, .class_ 2), (0, u "java/lang/Comparable"), (0, .class_ 4), (0, u "java/lang/Object")] 7

/-- java/lang/Comparable -/
def k7 : Class := { plain "java/lang/Comparable" (some 0) with
  accessFlags := 1537
  interfaces := #[]
  cf := some (fileOf pool7 1 #[] #[] 1537 3 #[] #[])
  fields := #[]
  methods := #[]
  instanceTypes := #[]
  staticTypes := #[]
  resolved := Array.replicate 12 none
  statics := none }

def pool8 : Array CpInfo := pool [(1, .class_ 2), (0, u "java/lang/constant/Constable"), (0, .class_ 4), (0, u "java/lang/Object")] 6

/-- java/lang/constant/Constable -/
def k8 : Class := { plain "java/lang/constant/Constable" (some 0) with
  accessFlags := 1537
  interfaces := #[]
  cf := some (fileOf pool8 1 #[] #[] 1537 3 #[] #[])
  fields := #[]
  methods := #[]
  instanceTypes := #[]
  staticTypes := #[]
  resolved := Array.replicate 11 none
  statics := none }

def pool9 : Array CpInfo := pool [(1, .class_ 2), (0, u "java/lang/constant/ConstantDesc"), (0, .class_ 4), (0, u "java/lang/Object")] 32

/-- java/lang/constant/ConstantDesc -/
def k9 : Class := { plain "java/lang/constant/ConstantDesc" (some 0) with
  accessFlags := 1537
  interfaces := #[]
  cf := some (fileOf pool9 1 #[] #[] 1537 3 #[] #[])
  fields := #[]
  methods := #[]
  instanceTypes := #[]
  staticTypes := #[]
  resolved := Array.replicate 37 none
  statics := none }

def pool10 : Array CpInfo := pool [(1, .class_ 2), (0, u "java/lang/Integer"), (16, u "digits"), (0, u "[C"), (46, u "<init>"), (17, u "DigitOnes"), (0, u "[B"), (2, u "DigitTens"), (10, .nameAndType 67 101), (0, u "()V"), (85, u "valueOf"), (0, u "(I)Ljava/lang/Integer;"), (0, .class_ 190), (0, u "java/lang/Integer$IntegerCache"), (0, .fieldref 189 192), (0, .nameAndType 193 194), (0, u "high"), (0, u "I"), (0, .fieldref 189 196), (0, .nameAndType 197 198), (0, u "cache"), (0, u "[Ljava/lang/Integer;"), (0, .methodref 1 200), (0, .nameAndType 67 201), (0, u "(I)V"), (0, .methodref 203 100), (0, .class_ 204), (0, u "java/lang/Number"), (0, .fieldref 1 206), (0, .nameAndType 207 194), (0, u "value"), (94, u "TYPE"), (0, u "Ljava/lang/Class;"), (0, .class_ 305), (0, u "java/lang/Comparable"), (0, .class_ 307), (0, u "java/lang/constant/Constable"), (0, .class_ 309), (0, u "java/lang/constant/ConstantDesc"), (0, u "MIN_VALUE"), (1, u "MAX_VALUE"), (3, u "SIZE"), (1, u "BYTES"), (1, u "serialVersionUID"), (0, u "J")] 131

def k10c0 : Code := { maxStack := 3, maxLocals := 1, code := jdk_33_method_22_code, exceptionTable := #[], attributes := #[] }
def k10m0 : Method := { name := "valueOf", desc := "(I)Ljava/lang/Integer;", sig := { parameters := [.int], returnType := some (.object "java/lang/Integer") }, accessFlags := 9, code := some k10c0 }
def k10c1 : Code := { maxStack := 2, maxLocals := 2, code := jdk_33_method_23_code, exceptionTable := #[], attributes := #[] }
def k10m1 : Method := { name := "<init>", desc := "(I)V", sig := { parameters := [.int], returnType := none }, accessFlags := 1, code := some k10c1 }
/-- java/lang/Integer -/
def k10 : Class := { plain "java/lang/Integer" (some 6) with
  accessFlags := 49
  interfaces := #[7, 8, 9]
  cf := some (fileOf pool10 1 #[.nestMembers #[189]] #[{ accessFlags := 9, nameIndex := 187, descriptorIndex := 188, attributes := #[] }, { accessFlags := 1, nameIndex := 67, descriptorIndex := 201, attributes := #[] }] 49 203 #[304, 306, 308] #[{ accessFlags := 25, nameIndex := 310, descriptorIndex := 194, attributes := #[] }, { accessFlags := 25, nameIndex := 312, descriptorIndex := 194, attributes := #[] }, { accessFlags := 25, nameIndex := 302, descriptorIndex := 303, attributes := #[] }, { accessFlags := 24, nameIndex := 19, descriptorIndex := 20, attributes := #[] }, { accessFlags := 24, nameIndex := 89, descriptorIndex := 86, attributes := #[] }, { accessFlags := 24, nameIndex := 85, descriptorIndex := 86, attributes := #[] }, { accessFlags := 18, nameIndex := 207, descriptorIndex := 194, attributes := #[] }, { accessFlags := 25, nameIndex := 316, descriptorIndex := 194, attributes := #[] }, { accessFlags := 25, nameIndex := 318, descriptorIndex := 194, attributes := #[] }, { accessFlags := 26, nameIndex := 320, descriptorIndex := 321, attributes := #[] }])
  fields := #[{ name := "MIN_VALUE", type := .int, accessFlags := 25, slot := 0, constantValue := 0 }, { name := "MAX_VALUE", type := .int, accessFlags := 25, slot := 1, constantValue := 0 }, { name := "TYPE", type := (.object "java/lang/Class"), accessFlags := 25, slot := 2, constantValue := 0 }, { name := "digits", type := (.array .char), accessFlags := 24, slot := 3, constantValue := 0 }, { name := "DigitTens", type := (.array .byte), accessFlags := 24, slot := 4, constantValue := 0 }, { name := "DigitOnes", type := (.array .byte), accessFlags := 24, slot := 5, constantValue := 0 }, { name := "value", type := .int, accessFlags := 18, slot := 0, constantValue := 0 }, { name := "SIZE", type := .int, accessFlags := 25, slot := 6, constantValue := 0 }, { name := "BYTES", type := .int, accessFlags := 25, slot := 7, constantValue := 0 }, { name := "serialVersionUID", type := .long, accessFlags := 26, slot := 8, constantValue := 0 }]
  methods := #[k10m0, k10m1]
  instanceTypes := #[.int]
  staticTypes := #[.int, .int, (.object "java/lang/Class"), (.array .char), (.array .byte), (.array .byte), .int, .int, .long]
  resolved := Array.replicate 453 none
  statics := none }

def pool11 : Array CpInfo := pool [(2, .class_ 4), (1, u "java/lang/Object"), (0, u "<init>"), (0, u "()V"), (0, .class_ 8), (0, u "java/lang/Integer"), (7, .class_ 18), (1, u "java/lang/Integer$IntegerCache"), (0, u "$assertionsDisabled"), (0, u "Z"), (26, u "high"), (0, u "I"), (8, u "archivedCache"), (0, u "[Ljava/lang/Integer;"), (12, u "cache"), (0, u "low")] 27

def k11m0 : Method := { name := "<init>", desc := "()V", sig := { parameters := [], returnType := none }, accessFlags := 2, code := none }
/-- java/lang/Integer$IntegerCache -/
def k11 : Class := { plain "java/lang/Integer$IntegerCache" (some 0) with
  accessFlags := 48
  interfaces := #[]
  cf := some (fileOf pool11 16 #[.nestHost 7] #[{ accessFlags := 2, nameIndex := 5, descriptorIndex := 6, attributes := #[] }] 48 2 #[] #[{ accessFlags := 24, nameIndex := 72, descriptorIndex := 48, attributes := #[] }, { accessFlags := 24, nameIndex := 47, descriptorIndex := 48, attributes := #[] }, { accessFlags := 24, nameIndex := 71, descriptorIndex := 58, attributes := #[] }, { accessFlags := 8, nameIndex := 57, descriptorIndex := 58, attributes := #[] }, { accessFlags := 4120, nameIndex := 19, descriptorIndex := 20, attributes := #[] }])
  fields := #[{ name := "low", type := .int, accessFlags := 24, slot := 0, constantValue := 0 }, { name := "high", type := .int, accessFlags := 24, slot := 1, constantValue := 0 }, { name := "cache", type := (.array (.object "java/lang/Integer")), accessFlags := 24, slot := 2, constantValue := 0 }, { name := "archivedCache", type := (.array (.object "java/lang/Integer")), accessFlags := 8, slot := 3, constantValue := 0 }, { name := "$assertionsDisabled", type := .boolean, accessFlags := 4120, slot := 4, constantValue := 0 }]
  methods := #[k11m0]
  instanceTypes := #[]
  staticTypes := #[.int, .int, (.array (.object "java/lang/Integer")), (.array (.object "java/lang/Integer")), .boolean]
  resolved := Array.replicate 100 none
  statics := some 0 }

def pool12 : Array CpInfo := pool [(2, .class_ 4), (1, u "java/lang/Enum"), (0, u "name"), (0, u "Ljava/lang/String;"), (2, u "ordinal"), (0, u "I"), (1, .class_ 14), (1, u "java/lang/Object"), (4, u "hash"), (86, .class_ 108), (1, u "java/lang/Enum$EnumDesc"), (2, .class_ 112), (0, u "java/lang/constant/Constable"), (0, .class_ 114), (0, u "java/lang/Comparable"), (0, .class_ 116), (0, u "java/io/Serializable")] 87

/-- java/lang/Enum -/
def k12 : Class := { plain "java/lang/Enum" (some 0) with
  accessFlags := 1057
  interfaces := #[8, 7, 5]
  cf := some (fileOf pool12 2 #[.nestMembers #[106]] #[] 1057 12 #[111, 113, 115] #[{ accessFlags := 18, nameIndex := 5, descriptorIndex := 6, attributes := #[] }, { accessFlags := 18, nameIndex := 9, descriptorIndex := 10, attributes := #[] }, { accessFlags := 2, nameIndex := 19, descriptorIndex := 10, attributes := #[] }])
  fields := #[{ name := "name", type := (.object "java/lang/String"), accessFlags := 18, slot := 0, constantValue := 0 }, { name := "ordinal", type := .int, accessFlags := 18, slot := 1, constantValue := 0 }, { name := "hash", type := .int, accessFlags := 2, slot := 2, constantValue := 0 }]
  methods := #[]
  instanceTypes := #[(.object "java/lang/String"), .int, .int]
  staticTypes := #[]
  resolved := Array.replicate 204 none
  statics := none }

def pool13 : Array CpInfo := pool [(2, .class_ 4), (1, u "com/example/noctule/noctule/core/WireNamed"), (50, .class_ 56), (0, u "java/lang/Object")] 41

/-- com/example/noctule/noctule/core/WireNamed -/
def k13 : Class := { plain "com/example/noctule/noctule/core/WireNamed" (some 0) with
  accessFlags := 1537
  interfaces := #[]
  cf := some (fileOf pool13 2 #[] #[] 1537 55 #[] #[])
  fields := #[]
  methods := #[]
  instanceTypes := #[]
  staticTypes := #[]
  resolved := Array.replicate 98 none
  statics := none }

def pool14 : Array CpInfo := pool [(1, .class_ 2), (0, u "com/example/noctule/noctule/core/ScheduleKind"), (2, u "INTERVAL"), (0, u "Lcom/example/noctule/noctule/core/ScheduleKind;"), (2, u "CRON"), (2, u "ONCE"), (2, u "$VALUES"), (0, u "[Lcom/example/noctule/noctule/core/ScheduleKind;"), (6, .class_ 25), (1, u "java/lang/Enum"), (8, u "wireName"), (0, u "Ljava/lang/String;"), (3, .class_ 41), (1, u "com/example/noctule/noctule/core/WireNamed")] 31

/-- com/example/noctule/noctule/core/ScheduleKind -/
def k14 : Class := { plain "com/example/noctule/noctule/core/ScheduleKind" (some 12) with
  accessFlags := 16433
  interfaces := #[13]
  cf := some (fileOf pool14 1 #[] #[] 16433 23 #[39] #[{ accessFlags := 16409, nameIndex := 5, descriptorIndex := 6, attributes := #[] }, { accessFlags := 16409, nameIndex := 9, descriptorIndex := 6, attributes := #[] }, { accessFlags := 16409, nameIndex := 12, descriptorIndex := 6, attributes := #[] }, { accessFlags := 18, nameIndex := 34, descriptorIndex := 35, attributes := #[] }, { accessFlags := 4122, nameIndex := 15, descriptorIndex := 16, attributes := #[] }])
  fields := #[{ name := "INTERVAL", type := (.object "com/example/noctule/noctule/core/ScheduleKind"), accessFlags := 16409, slot := 0, constantValue := 0 }, { name := "CRON", type := (.object "com/example/noctule/noctule/core/ScheduleKind"), accessFlags := 16409, slot := 1, constantValue := 0 }, { name := "ONCE", type := (.object "com/example/noctule/noctule/core/ScheduleKind"), accessFlags := 16409, slot := 2, constantValue := 0 }, { name := "wireName", type := (.object "java/lang/String"), accessFlags := 18, slot := 3, constantValue := 0 }, { name := "$VALUES", type := (.array (.object "com/example/noctule/noctule/core/ScheduleKind")), accessFlags := 4122, slot := 3, constantValue := 0 }]
  methods := #[]
  instanceTypes := #[(.object "java/lang/String"), .int, .int, (.object "java/lang/String")]
  staticTypes := #[(.object "com/example/noctule/noctule/core/ScheduleKind"), (.object "com/example/noctule/noctule/core/ScheduleKind"), (.object "com/example/noctule/noctule/core/ScheduleKind"), (.array (.object "com/example/noctule/noctule/core/ScheduleKind"))]
  resolved := Array.replicate 73 none
  statics := some 1 }

def pool15 : Array CpInfo := pool [(1, u "java/lang/Cloneable"), (0, .class_ 1), (0, u "java/lang/Object"), (0, .class_ 3)] 3

/-- java/lang/Cloneable -/
def k15 : Class := { plain "java/lang/Cloneable" (some 0) with
  accessFlags := 1537
  interfaces := #[]
  cf := some (fileOf pool15 2 #[] #[] 1537 4 #[] #[])
  fields := #[]
  methods := #[]
  instanceTypes := #[]
  staticTypes := #[]
  resolved := Array.replicate 8 none
  statics := none }

/-- the primitive byte -/
def k16 : Class := { plain "byte" none with kind := .primitive 'B', accessFlags := 0x411 }
/-- [B -/
def k17 : Class := { plain "[B" (some 0) with kind := .array 16 .byte, interfaces := #[15, 5], accessFlags := 1041 }

/-- the primitive int -/
def k18 : Class := { plain "int" none with kind := .primitive 'I', accessFlags := 0x411 }
/-- [I -/
def k19 : Class := { plain "[I" (some 0) with kind := .array 18 .int, interfaces := #[15, 5], accessFlags := 1041 }

/-- [Ljava/lang/Integer; -/
def k20 : Class := { plain "[Ljava/lang/Integer;" (some 0) with kind := .array 10 (.object "java/lang/Integer"), interfaces := #[15, 5], accessFlags := 1041 }

def heap : Heap := #[{ cls := 11, slots := #[.int 0, .int 127, .ref 2, .null, .int 0], vm := .statics 11 },
  { cls := 14, slots := #[.ref 259, .null, .null, .null], vm := .statics 14 },
  { cls := 20, slots := #[.ref 3, .ref 4, .ref 5, .ref 6, .ref 7, .ref 8, .ref 9, .ref 10, .ref 11, .ref 12, .ref 13, .ref 14, .ref 15, .ref 16, .ref 17, .ref 18, .ref 19, .ref 20, .ref 21, .ref 22, .ref 23, .ref 24, .ref 25, .ref 26, .ref 27, .ref 28, .ref 29, .ref 30, .ref 31, .ref 32, .ref 33, .ref 34, .ref 35, .ref 36, .ref 37, .ref 38, .ref 39, .ref 40, .ref 41, .ref 42, .ref 43, .ref 44, .ref 45, .ref 46, .ref 47, .ref 48, .ref 49, .ref 50, .ref 51, .ref 52, .ref 53, .ref 54, .ref 55, .ref 56, .ref 57, .ref 58, .ref 59, .ref 60, .ref 61, .ref 62, .ref 63, .ref 64, .ref 65, .ref 66, .ref 67, .ref 68, .ref 69, .ref 70, .ref 71, .ref 72, .ref 73, .ref 74, .ref 75, .ref 76, .ref 77, .ref 78, .ref 79, .ref 80, .ref 81, .ref 82, .ref 83, .ref 84, .ref 85, .ref 86, .ref 87, .ref 88, .ref 89, .ref 90, .ref 91, .ref 92, .ref 93, .ref 94, .ref 95, .ref 96, .ref 97, .ref 98, .ref 99, .ref 100, .ref 101, .ref 102, .ref 103, .ref 104, .ref 105, .ref 106, .ref 107, .ref 108, .ref 109, .ref 110, .ref 111, .ref 112, .ref 113, .ref 114, .ref 115, .ref 116, .ref 117, .ref 118, .ref 119, .ref 120, .ref 121, .ref 122, .ref 123, .ref 124, .ref 125, .ref 126, .ref 127, .ref 128, .ref 129, .ref 130, .ref 131, .ref 132, .ref 133, .ref 134, .ref 135, .ref 136, .ref 137, .ref 138, .ref 139, .ref 140, .ref 141, .ref 142, .ref 143, .ref 144, .ref 145, .ref 146, .ref 147, .ref 148, .ref 149, .ref 150, .ref 151, .ref 152, .ref 153, .ref 154, .ref 155, .ref 156, .ref 157, .ref 158, .ref 159, .ref 160, .ref 161, .ref 162, .ref 163, .ref 164, .ref 165, .ref 166, .ref 167, .ref 168, .ref 169, .ref 170, .ref 171, .ref 172, .ref 173, .ref 174, .ref 175, .ref 176, .ref 177, .ref 178, .ref 179, .ref 180, .ref 181, .ref 182, .ref 183, .ref 184, .ref 185, .ref 186, .ref 187, .ref 188, .ref 189, .ref 190, .ref 191, .ref 192, .ref 193, .ref 194, .ref 195, .ref 196, .ref 197, .ref 198, .ref 199, .ref 200, .ref 201, .ref 202, .ref 203, .ref 204, .ref 205, .ref 206, .ref 207, .ref 208, .ref 209, .ref 210, .ref 211, .ref 212, .ref 213, .ref 214, .ref 215, .ref 216, .ref 217, .ref 218, .ref 219, .ref 220, .ref 221, .ref 222, .ref 223, .ref 224, .ref 225, .ref 226, .ref 227, .ref 228, .ref 229, .ref 230, .ref 231, .ref 232, .ref 233, .ref 234, .ref 235, .ref 236, .ref 237, .ref 238, .ref 239, .ref 240, .ref 241, .ref 242, .ref 243, .ref 244, .ref 245, .ref 246, .ref 247, .ref 248, .ref 249, .ref 250, .ref 251, .ref 252, .ref 253, .ref 254, .ref 255, .ref 256, .ref 257, .ref 258], vm := .none },
  { cls := 10, slots := #[.int (-128)], vm := .none },
  { cls := 10, slots := #[.int (-127)], vm := .none },
  { cls := 10, slots := #[.int (-126)], vm := .none },
  { cls := 10, slots := #[.int (-125)], vm := .none },
  { cls := 10, slots := #[.int (-124)], vm := .none },
  { cls := 10, slots := #[.int (-123)], vm := .none },
  { cls := 10, slots := #[.int (-122)], vm := .none },
  { cls := 10, slots := #[.int (-121)], vm := .none },
  { cls := 10, slots := #[.int (-120)], vm := .none },
  { cls := 10, slots := #[.int (-119)], vm := .none },
  { cls := 10, slots := #[.int (-118)], vm := .none },
  { cls := 10, slots := #[.int (-117)], vm := .none },
  { cls := 10, slots := #[.int (-116)], vm := .none },
  { cls := 10, slots := #[.int (-115)], vm := .none },
  { cls := 10, slots := #[.int (-114)], vm := .none },
  { cls := 10, slots := #[.int (-113)], vm := .none },
  { cls := 10, slots := #[.int (-112)], vm := .none },
  { cls := 10, slots := #[.int (-111)], vm := .none },
  { cls := 10, slots := #[.int (-110)], vm := .none },
  { cls := 10, slots := #[.int (-109)], vm := .none },
  { cls := 10, slots := #[.int (-108)], vm := .none },
  { cls := 10, slots := #[.int (-107)], vm := .none },
  { cls := 10, slots := #[.int (-106)], vm := .none },
  { cls := 10, slots := #[.int (-105)], vm := .none },
  { cls := 10, slots := #[.int (-104)], vm := .none },
  { cls := 10, slots := #[.int (-103)], vm := .none },
  { cls := 10, slots := #[.int (-102)], vm := .none },
  { cls := 10, slots := #[.int (-101)], vm := .none },
  { cls := 10, slots := #[.int (-100)], vm := .none },
  { cls := 10, slots := #[.int (-99)], vm := .none },
  { cls := 10, slots := #[.int (-98)], vm := .none },
  { cls := 10, slots := #[.int (-97)], vm := .none },
  { cls := 10, slots := #[.int (-96)], vm := .none },
  { cls := 10, slots := #[.int (-95)], vm := .none },
  { cls := 10, slots := #[.int (-94)], vm := .none },
  { cls := 10, slots := #[.int (-93)], vm := .none },
  { cls := 10, slots := #[.int (-92)], vm := .none },
  { cls := 10, slots := #[.int (-91)], vm := .none },
  { cls := 10, slots := #[.int (-90)], vm := .none },
  { cls := 10, slots := #[.int (-89)], vm := .none },
  { cls := 10, slots := #[.int (-88)], vm := .none },
  { cls := 10, slots := #[.int (-87)], vm := .none },
  { cls := 10, slots := #[.int (-86)], vm := .none },
  { cls := 10, slots := #[.int (-85)], vm := .none },
  { cls := 10, slots := #[.int (-84)], vm := .none },
  { cls := 10, slots := #[.int (-83)], vm := .none },
  { cls := 10, slots := #[.int (-82)], vm := .none },
  { cls := 10, slots := #[.int (-81)], vm := .none },
  { cls := 10, slots := #[.int (-80)], vm := .none },
  { cls := 10, slots := #[.int (-79)], vm := .none },
  { cls := 10, slots := #[.int (-78)], vm := .none },
  { cls := 10, slots := #[.int (-77)], vm := .none },
  { cls := 10, slots := #[.int (-76)], vm := .none },
  { cls := 10, slots := #[.int (-75)], vm := .none },
  { cls := 10, slots := #[.int (-74)], vm := .none },
  { cls := 10, slots := #[.int (-73)], vm := .none },
  { cls := 10, slots := #[.int (-72)], vm := .none },
  { cls := 10, slots := #[.int (-71)], vm := .none },
  { cls := 10, slots := #[.int (-70)], vm := .none },
  { cls := 10, slots := #[.int (-69)], vm := .none },
  { cls := 10, slots := #[.int (-68)], vm := .none },
  { cls := 10, slots := #[.int (-67)], vm := .none },
  { cls := 10, slots := #[.int (-66)], vm := .none },
  { cls := 10, slots := #[.int (-65)], vm := .none },
  { cls := 10, slots := #[.int (-64)], vm := .none },
  { cls := 10, slots := #[.int (-63)], vm := .none },
  { cls := 10, slots := #[.int (-62)], vm := .none },
  { cls := 10, slots := #[.int (-61)], vm := .none },
  { cls := 10, slots := #[.int (-60)], vm := .none },
  { cls := 10, slots := #[.int (-59)], vm := .none },
  { cls := 10, slots := #[.int (-58)], vm := .none },
  { cls := 10, slots := #[.int (-57)], vm := .none },
  { cls := 10, slots := #[.int (-56)], vm := .none },
  { cls := 10, slots := #[.int (-55)], vm := .none },
  { cls := 10, slots := #[.int (-54)], vm := .none },
  { cls := 10, slots := #[.int (-53)], vm := .none },
  { cls := 10, slots := #[.int (-52)], vm := .none },
  { cls := 10, slots := #[.int (-51)], vm := .none },
  { cls := 10, slots := #[.int (-50)], vm := .none },
  { cls := 10, slots := #[.int (-49)], vm := .none },
  { cls := 10, slots := #[.int (-48)], vm := .none },
  { cls := 10, slots := #[.int (-47)], vm := .none },
  { cls := 10, slots := #[.int (-46)], vm := .none },
  { cls := 10, slots := #[.int (-45)], vm := .none },
  { cls := 10, slots := #[.int (-44)], vm := .none },
  { cls := 10, slots := #[.int (-43)], vm := .none },
  { cls := 10, slots := #[.int (-42)], vm := .none },
  { cls := 10, slots := #[.int (-41)], vm := .none },
  { cls := 10, slots := #[.int (-40)], vm := .none },
  { cls := 10, slots := #[.int (-39)], vm := .none },
  { cls := 10, slots := #[.int (-38)], vm := .none },
  { cls := 10, slots := #[.int (-37)], vm := .none },
  { cls := 10, slots := #[.int (-36)], vm := .none },
  { cls := 10, slots := #[.int (-35)], vm := .none },
  { cls := 10, slots := #[.int (-34)], vm := .none },
  { cls := 10, slots := #[.int (-33)], vm := .none },
  { cls := 10, slots := #[.int (-32)], vm := .none },
  { cls := 10, slots := #[.int (-31)], vm := .none },
  { cls := 10, slots := #[.int (-30)], vm := .none },
  { cls := 10, slots := #[.int (-29)], vm := .none },
  { cls := 10, slots := #[.int (-28)], vm := .none },
  { cls := 10, slots := #[.int (-27)], vm := .none },
  { cls := 10, slots := #[.int (-26)], vm := .none },
  { cls := 10, slots := #[.int (-25)], vm := .none },
  { cls := 10, slots := #[.int (-24)], vm := .none },
  { cls := 10, slots := #[.int (-23)], vm := .none },
  { cls := 10, slots := #[.int (-22)], vm := .none },
  { cls := 10, slots := #[.int (-21)], vm := .none },
  { cls := 10, slots := #[.int (-20)], vm := .none },
  { cls := 10, slots := #[.int (-19)], vm := .none },
  { cls := 10, slots := #[.int (-18)], vm := .none },
  { cls := 10, slots := #[.int (-17)], vm := .none },
  { cls := 10, slots := #[.int (-16)], vm := .none },
  { cls := 10, slots := #[.int (-15)], vm := .none },
  { cls := 10, slots := #[.int (-14)], vm := .none },
  { cls := 10, slots := #[.int (-13)], vm := .none },
  { cls := 10, slots := #[.int (-12)], vm := .none },
  { cls := 10, slots := #[.int (-11)], vm := .none },
  { cls := 10, slots := #[.int (-10)], vm := .none },
  { cls := 10, slots := #[.int (-9)], vm := .none },
  { cls := 10, slots := #[.int (-8)], vm := .none },
  { cls := 10, slots := #[.int (-7)], vm := .none },
  { cls := 10, slots := #[.int (-6)], vm := .none },
  { cls := 10, slots := #[.int (-5)], vm := .none },
  { cls := 10, slots := #[.int (-4)], vm := .none },
  { cls := 10, slots := #[.int (-3)], vm := .none },
  { cls := 10, slots := #[.int (-2)], vm := .none },
  { cls := 10, slots := #[.int (-1)], vm := .none },
  { cls := 10, slots := #[.int 0], vm := .none },
  { cls := 10, slots := #[.int 1], vm := .none },
  { cls := 10, slots := #[.int 2], vm := .none },
  { cls := 10, slots := #[.int 3], vm := .none },
  { cls := 10, slots := #[.int 4], vm := .none },
  { cls := 10, slots := #[.int 5], vm := .none },
  { cls := 10, slots := #[.int 6], vm := .none },
  { cls := 10, slots := #[.int 7], vm := .none },
  { cls := 10, slots := #[.int 8], vm := .none },
  { cls := 10, slots := #[.int 9], vm := .none },
  { cls := 10, slots := #[.int 10], vm := .none },
  { cls := 10, slots := #[.int 11], vm := .none },
  { cls := 10, slots := #[.int 12], vm := .none },
  { cls := 10, slots := #[.int 13], vm := .none },
  { cls := 10, slots := #[.int 14], vm := .none },
  { cls := 10, slots := #[.int 15], vm := .none },
  { cls := 10, slots := #[.int 16], vm := .none },
  { cls := 10, slots := #[.int 17], vm := .none },
  { cls := 10, slots := #[.int 18], vm := .none },
  { cls := 10, slots := #[.int 19], vm := .none },
  { cls := 10, slots := #[.int 20], vm := .none },
  { cls := 10, slots := #[.int 21], vm := .none },
  { cls := 10, slots := #[.int 22], vm := .none },
  { cls := 10, slots := #[.int 23], vm := .none },
  { cls := 10, slots := #[.int 24], vm := .none },
  { cls := 10, slots := #[.int 25], vm := .none },
  { cls := 10, slots := #[.int 26], vm := .none },
  { cls := 10, slots := #[.int 27], vm := .none },
  { cls := 10, slots := #[.int 28], vm := .none },
  { cls := 10, slots := #[.int 29], vm := .none },
  { cls := 10, slots := #[.int 30], vm := .none },
  { cls := 10, slots := #[.int 31], vm := .none },
  { cls := 10, slots := #[.int 32], vm := .none },
  { cls := 10, slots := #[.int 33], vm := .none },
  { cls := 10, slots := #[.int 34], vm := .none },
  { cls := 10, slots := #[.int 35], vm := .none },
  { cls := 10, slots := #[.int 36], vm := .none },
  { cls := 10, slots := #[.int 37], vm := .none },
  { cls := 10, slots := #[.int 38], vm := .none },
  { cls := 10, slots := #[.int 39], vm := .none },
  { cls := 10, slots := #[.int 40], vm := .none },
  { cls := 10, slots := #[.int 41], vm := .none },
  { cls := 10, slots := #[.int 42], vm := .none },
  { cls := 10, slots := #[.int 43], vm := .none },
  { cls := 10, slots := #[.int 44], vm := .none },
  { cls := 10, slots := #[.int 45], vm := .none },
  { cls := 10, slots := #[.int 46], vm := .none },
  { cls := 10, slots := #[.int 47], vm := .none },
  { cls := 10, slots := #[.int 48], vm := .none },
  { cls := 10, slots := #[.int 49], vm := .none },
  { cls := 10, slots := #[.int 50], vm := .none },
  { cls := 10, slots := #[.int 51], vm := .none },
  { cls := 10, slots := #[.int 52], vm := .none },
  { cls := 10, slots := #[.int 53], vm := .none },
  { cls := 10, slots := #[.int 54], vm := .none },
  { cls := 10, slots := #[.int 55], vm := .none },
  { cls := 10, slots := #[.int 56], vm := .none },
  { cls := 10, slots := #[.int 57], vm := .none },
  { cls := 10, slots := #[.int 58], vm := .none },
  { cls := 10, slots := #[.int 59], vm := .none },
  { cls := 10, slots := #[.int 60], vm := .none },
  { cls := 10, slots := #[.int 61], vm := .none },
  { cls := 10, slots := #[.int 62], vm := .none },
  { cls := 10, slots := #[.int 63], vm := .none },
  { cls := 10, slots := #[.int 64], vm := .none },
  { cls := 10, slots := #[.int 65], vm := .none },
  { cls := 10, slots := #[.int 66], vm := .none },
  { cls := 10, slots := #[.int 67], vm := .none },
  { cls := 10, slots := #[.int 68], vm := .none },
  { cls := 10, slots := #[.int 69], vm := .none },
  { cls := 10, slots := #[.int 70], vm := .none },
  { cls := 10, slots := #[.int 71], vm := .none },
  { cls := 10, slots := #[.int 72], vm := .none },
  { cls := 10, slots := #[.int 73], vm := .none },
  { cls := 10, slots := #[.int 74], vm := .none },
  { cls := 10, slots := #[.int 75], vm := .none },
  { cls := 10, slots := #[.int 76], vm := .none },
  { cls := 10, slots := #[.int 77], vm := .none },
  { cls := 10, slots := #[.int 78], vm := .none },
  { cls := 10, slots := #[.int 79], vm := .none },
  { cls := 10, slots := #[.int 80], vm := .none },
  { cls := 10, slots := #[.int 81], vm := .none },
  { cls := 10, slots := #[.int 82], vm := .none },
  { cls := 10, slots := #[.int 83], vm := .none },
  { cls := 10, slots := #[.int 84], vm := .none },
  { cls := 10, slots := #[.int 85], vm := .none },
  { cls := 10, slots := #[.int 86], vm := .none },
  { cls := 10, slots := #[.int 87], vm := .none },
  { cls := 10, slots := #[.int 88], vm := .none },
  { cls := 10, slots := #[.int 89], vm := .none },
  { cls := 10, slots := #[.int 90], vm := .none },
  { cls := 10, slots := #[.int 91], vm := .none },
  { cls := 10, slots := #[.int 92], vm := .none },
  { cls := 10, slots := #[.int 93], vm := .none },
  { cls := 10, slots := #[.int 94], vm := .none },
  { cls := 10, slots := #[.int 95], vm := .none },
  { cls := 10, slots := #[.int 96], vm := .none },
  { cls := 10, slots := #[.int 97], vm := .none },
  { cls := 10, slots := #[.int 98], vm := .none },
  { cls := 10, slots := #[.int 99], vm := .none },
  { cls := 10, slots := #[.int 100], vm := .none },
  { cls := 10, slots := #[.int 101], vm := .none },
  { cls := 10, slots := #[.int 102], vm := .none },
  { cls := 10, slots := #[.int 103], vm := .none },
  { cls := 10, slots := #[.int 104], vm := .none },
  { cls := 10, slots := #[.int 105], vm := .none },
  { cls := 10, slots := #[.int 106], vm := .none },
  { cls := 10, slots := #[.int 107], vm := .none },
  { cls := 10, slots := #[.int 108], vm := .none },
  { cls := 10, slots := #[.int 109], vm := .none },
  { cls := 10, slots := #[.int 110], vm := .none },
  { cls := 10, slots := #[.int 111], vm := .none },
  { cls := 10, slots := #[.int 112], vm := .none },
  { cls := 10, slots := #[.int 113], vm := .none },
  { cls := 10, slots := #[.int 114], vm := .none },
  { cls := 10, slots := #[.int 115], vm := .none },
  { cls := 10, slots := #[.int 116], vm := .none },
  { cls := 10, slots := #[.int 117], vm := .none },
  { cls := 10, slots := #[.int 118], vm := .none },
  { cls := 10, slots := #[.int 119], vm := .none },
  { cls := 10, slots := #[.int 120], vm := .none },
  { cls := 10, slots := #[.int 121], vm := .none },
  { cls := 10, slots := #[.int 122], vm := .none },
  { cls := 10, slots := #[.int 123], vm := .none },
  { cls := 10, slots := #[.int 124], vm := .none },
  { cls := 10, slots := #[.int 125], vm := .none },
  { cls := 10, slots := #[.int 126], vm := .none },
  { cls := 10, slots := #[.int 127], vm := .none },
  { cls := 14, slots := #[.null, .int 0, .int 0, .null], vm := .none }]
def classes : Array Class := #[k0, k1, k2, k3, k4, k5, k6, k7, k8, k9, k10, k11, k12, k13, k14, k15, k16, k17, k18, k19, k20]
def interned : List (Array UInt16 × Addr) := []
def slotsUsed : Nat := 525
def theMethod : MethodId := ⟨1, 1⟩
def args0 : Array Value := #[.int 1, .int 2, .int 3]
def aboutOver (below : List Frame) : State where
  vm := { classes := classes, interned := interned.toArray }
  heap := heap
  slotsUsed := slotsUsed
  threads := #[{ frames := .invoking theMethod args0 :: below }]
def below0 : List Frame := [.native { method := ⟨0, 0⟩, args := #[] }]
def about1 : State := aboutOver below0
def p0 : Program := .bare "" "" ""
def e0 : Env := launch0.env 0 0 0
theorem w_frames : about1.frames = Frame.invoking theMethod args0 :: below0 := rfl
set_option maxRecDepth 65536 in
theorem w_args : argsFit about1.vm theMethod args0 = true := by decide +kernel
set_option maxRecDepth 65536 in
theorem w_heap : heapFits about1 = true := by decide +kernel
set_option maxRecDepth 65536 in
theorem w_runnable : about1.curStatus? = some .runnable := by decide +kernel
set_option maxRecDepth 65536 in
theorem w_alone : about1.alone = true := by decide +kernel
set_option maxRecDepth 65536 in
theorem w_named : about1.methodNamed? x = some theMethod := by decide +kernel
set_option maxRecDepth 65536 in
theorem w_hears : about1.hears theMethod below0 = true := by decide +kernel
set_option maxRecDepth 65536 in
theorem w_ripe : about1.ripe theMethod args0 below0 = true := by decide +kernel
theorem w_running : about1.status = .running := rfl
set_option maxRecDepth 65536 in
theorem w_room : about1.hasRoom e0.platform room_1 = true :=
  launch0.hasRoom_least _ room_1 (by decide +kernel) (by decide +kernel) (by decide +kernel) (by decide +kernel) (by decide +kernel) (by decide +kernel)
theorem allAtoms_all (ts : List Jvm.Cond) (a : Array Jvm.Value) (st : Jvm.State) : (allAtoms ts).before a st = ts.all (fun c => c.before a st) := by
  induction ts with
  | nil => rfl
  | cons c t ih =>
    show (Jvm.Cond.and c (allAtoms t)).before a st = _
    rw [Jvm.Cond.before_and, ih, List.all_cons]
def words1 : List Jvm.Cond := Jvm.Cond.code x code maxLocals ret :: tables_1
/-- a 'code' word, met by the world's own term for the bytes: nothing is compared byte by byte -/
theorem code_word {y : MethodName} {bytes : ByteArray} {mx : Nat} {rt : Option FieldType} {a : Array Value} {s : State} {m : MethodId} {meth : Method} {c : Code} (h1 : s.methodNamed? y = some m) (h2 : s.vm.method? m = some meth) (h3 : meth.code = some c) (h4 : c.code = bytes)
    (h5 : (c.maxLocals == mx && c.exceptionTable.isEmpty && decide (c.maxStack ≤ mostOperands) && decide (meth.sig.returnType = rt) && !meth.locks && decide (parseMethodDescriptor y.desc = some meth.sig)) = true) : (Jvm.Cond.code y bytes mx rt).before a s = true := by
  simp only [Bool.and_eq_true, beq_iff_eq, Bool.not_eq_true', decide_eq_true_eq] at h5
  obtain ⟨⟨⟨⟨⟨g1, g2⟩, g3⟩, g4⟩, g5⟩, g6⟩ := h5
  simp [Cond.before, Cond.holds, Cond.value, h1, h2, h3, h4, g1, g2, g3, g4, g5, g6]
def isCode : Jvm.Cond → Bool
  | .code _ _ _ _ => true
  | _ => false
theorem all_split {L : List Jvm.Cond} {P : Jvm.Cond → Bool} (h1 : L.all (fun c => isCode c || P c) = true) (h2 : ∀ c ∈ L.filter isCode, P c = true) : L.all P = true := by
  refine List.all_eq_true.mpr fun c hc => ?_
  have h := List.all_eq_true.mp h1 c hc
  rcases Bool.eq_false_or_eq_true (isCode c) with hi | hi
  · exact h2 c (List.mem_filter.mpr ⟨hc, hi⟩)
  · simpa [hi] using h
set_option maxRecDepth 65536 in
theorem w_c0 : (Jvm.Cond.code x code maxLocals ret).before args0 about1 = true := code_word (m := ⟨1, 1⟩) (meth := k1m1) (c := k1c1) (by decide +kernel) rfl rfl rfl (by decide +kernel)
set_option maxRecDepth 65536 in
theorem w_c1 : (Jvm.Cond.code ({ cls := "com/example/noctule/noctule/core/IntervalTiming", name := "<init>", desc := "(I)V" } : Jvm.MethodName) prog_32_method_1_code (2 : Nat) (Option.none : Option Jvm.ClassFile.FieldType)).before args0 about1 = true := code_word (m := ⟨3, 0⟩) (meth := k3m0) (c := k3c0) (by decide +kernel) rfl rfl rfl (by decide +kernel)
set_option maxRecDepth 65536 in
theorem w_c2 : (Jvm.Cond.code ({ cls := "com/example/noctule/noctule/core/Timing", name := "<init>", desc := "()V" } : Jvm.MethodName) prog_46_method_1_code (1 : Nat) (Option.none : Option Jvm.ClassFile.FieldType)).before args0 about1 = true := code_word (m := ⟨2, 0⟩) (meth := k2m0) (c := k2c0) (by decide +kernel) rfl rfl rfl (by decide +kernel)
set_option maxRecDepth 65536 in
theorem w_c3 : (Jvm.Cond.code ({ cls := "java/lang/Object", name := "<init>", desc := "()V" } : Jvm.MethodName) object_method_1_code (1 : Nat) (Option.none : Option Jvm.ClassFile.FieldType)).before args0 about1 = true := code_word (m := ⟨0, 0⟩) (meth := k0m0) (c := k0c0) (by decide +kernel) rfl rfl rfl (by decide +kernel)
set_option maxRecDepth 65536 in
theorem w_c4 : (Jvm.Cond.code ({ cls := "java/lang/Integer", name := "valueOf", desc := "(I)Ljava/lang/Integer;" } : Jvm.MethodName) jdk_33_method_22_code (1 : Nat) (Option.some (Jvm.ClassFile.FieldType.object "java/lang/Integer"))).before args0 about1 = true := code_word (m := ⟨10, 0⟩) (meth := k10m0) (c := k10c0) (by decide +kernel) rfl rfl rfl (by decide +kernel)
set_option maxRecDepth 65536 in
theorem w_c5 : (Jvm.Cond.code ({ cls := "com/example/noctule/noctule/core/UnreadableTiming", name := "<init>", desc := "(Ljava/lang/Integer;Ljava/lang/String;Ljava/lang/String;Ljava/time/Instant;)V" } : Jvm.MethodName) prog_50_method_1_code (5 : Nat) (Option.none : Option Jvm.ClassFile.FieldType)).before args0 about1 = true := code_word (m := ⟨4, 0⟩) (meth := k4m0) (c := k4c0) (by decide +kernel) rfl rfl rfl (by decide +kernel)
set_option maxRecDepth 65536 in
theorem w_c6 : (Jvm.Cond.code ({ cls := "com/example/noctule/noctule/core/IntervalTiming", name := "equals", desc := "(Ljava/lang/Object;)Z" } : Jvm.MethodName) prog_32_method_6_code (3 : Nat) (Option.some Jvm.ClassFile.FieldType.boolean)).before args0 about1 = true := code_word (m := ⟨3, 1⟩) (meth := k3m1) (c := k3c1) (by decide +kernel) rfl rfl rfl (by decide +kernel)
set_option maxRecDepth 65536 in
theorem w_c7 : (Jvm.Cond.code ({ cls := "java/lang/Integer", name := "<init>", desc := "(I)V" } : Jvm.MethodName) jdk_33_method_23_code (2 : Nat) (Option.none : Option Jvm.ClassFile.FieldType)).before args0 about1 = true := code_word (m := ⟨10, 1⟩) (meth := k10m1) (c := k10c1) (by decide +kernel) rfl rfl rfl (by decide +kernel)
set_option maxRecDepth 65536 in
theorem w_c8 : (Jvm.Cond.code ({ cls := "java/lang/Number", name := "<init>", desc := "()V" } : Jvm.MethodName) jdk_18_method_1_code (1 : Nat) (Option.none : Option Jvm.ClassFile.FieldType)).before args0 about1 = true := code_word (m := ⟨6, 0⟩) (meth := k6m0) (c := k6c0) (by decide +kernel) rfl rfl rfl (by decide +kernel)
def codes1 : List Jvm.Cond := [Jvm.Cond.code x code maxLocals ret, Jvm.Cond.code ({ cls := "com/example/noctule/noctule/core/IntervalTiming", name := "<init>", desc := "(I)V" } : Jvm.MethodName) prog_32_method_1_code (2 : Nat) (Option.none : Option Jvm.ClassFile.FieldType), Jvm.Cond.code ({ cls := "com/example/noctule/noctule/core/Timing", name := "<init>", desc := "()V" } : Jvm.MethodName) prog_46_method_1_code (1 : Nat) (Option.none : Option Jvm.ClassFile.FieldType), Jvm.Cond.code ({ cls := "java/lang/Object", name := "<init>", desc := "()V" } : Jvm.MethodName) object_method_1_code (1 : Nat) (Option.none : Option Jvm.ClassFile.FieldType), Jvm.Cond.code ({ cls := "java/lang/Integer", name := "valueOf", desc := "(I)Ljava/lang/Integer;" } : Jvm.MethodName) jdk_33_method_22_code (1 : Nat) (Option.some (Jvm.ClassFile.FieldType.object "java/lang/Integer")), Jvm.Cond.code ({ cls := "com/example/noctule/noctule/core/UnreadableTiming", name := "<init>", desc := "(Ljava/lang/Integer;Ljava/lang/String;Ljava/lang/String;Ljava/time/Instant;)V" } : Jvm.MethodName) prog_50_method_1_code (5 : Nat) (Option.none : Option Jvm.ClassFile.FieldType), Jvm.Cond.code ({ cls := "com/example/noctule/noctule/core/IntervalTiming", name := "equals", desc := "(Ljava/lang/Object;)Z" } : Jvm.MethodName) prog_32_method_6_code (3 : Nat) (Option.some Jvm.ClassFile.FieldType.boolean), Jvm.Cond.code ({ cls := "java/lang/Integer", name := "<init>", desc := "(I)V" } : Jvm.MethodName) jdk_33_method_23_code (2 : Nat) (Option.none : Option Jvm.ClassFile.FieldType), Jvm.Cond.code ({ cls := "java/lang/Number", name := "<init>", desc := "()V" } : Jvm.MethodName) jdk_18_method_1_code (1 : Nat) (Option.none : Option Jvm.ClassFile.FieldType)]
set_option maxRecDepth 65536 in
theorem codes_eq : words1.filter isCode = codes1 := rfl
theorem w_codes : ∀ c ∈ words1.filter isCode, c.before args0 about1 = true := by
  rw [codes_eq]
  intro c hc
  simp only [codes1, List.mem_cons, List.not_mem_nil, or_false] at hc
  rcases hc with rfl | rfl | rfl | rfl | rfl | rfl | rfl | rfl | rfl
  · exact w_c0
  · exact w_c1
  · exact w_c2
  · exact w_c3
  · exact w_c4
  · exact w_c5
  · exact w_c6
  · exact w_c7
  · exact w_c8
set_option maxRecDepth 65536 in
theorem w_t1 : (words1.take 24).all (fun c => isCode c || c.before args0 about1) = true := by decide +kernel
set_option maxRecDepth 65536 in
theorem w_t2 : ((words1.drop 24).take 24).all (fun c => isCode c || c.before args0 about1) = true := by decide +kernel
set_option maxRecDepth 65536 in
theorem w_t3 : ((words1.drop 24).drop 24).all (fun c => isCode c || c.before args0 about1) = true := by decide +kernel
theorem w_tables : (allAtoms (Jvm.Cond.code x code maxLocals ret :: tables_1)).before args0 about1 = true := by
  rw [allAtoms_all]
  show words1.all (fun c => c.before args0 about1) = true
  refine all_split ?_ w_codes
  rw [← List.take_append_drop 24 words1, List.all_append, w_t1, ← List.take_append_drop 24 (words1.drop 24), List.all_append, w_t2, w_t3]
  rfl
set_option maxRecDepth 65536 in
theorem w_rest : rest_1_c.before args0 about1 = true := by decide +kernel
set_option maxRecDepth 65536 in
theorem w_case : (Jvm.Cond.and given_1 narrow_1).before args0 about1 = true := by decide +kernel
theorem w_applies : (headSpec (Jvm.Cond.code x code maxLocals ret :: tables_1) room_1).applies x e0.platform about1 = true :=
  (Spec.applies_iff w_frames).mpr ⟨w_running, w_runnable, w_alone, w_named, w_hears, w_ripe, w_room, w_tables⟩
theorem atStart : AtStart classFile x code maxLocals ret World_1 tables_1 room_1 Calls_1 rest_1 Pre_1 launch0 p0 e0 about1 theMethod args0 below0 :=
  ⟨lists_1, trivial, launch0.admits_env _ _ _, launch0.least_env, fairChoices_fair.cas, fairChoices_fair.clock, w_frames, w_args, w_heap, w_applies, trivial, w_rest, w_case⟩
end start1
theorem witness_1 : WitnessClaimed_1 := ⟨start1.p0, start1.e0, start1.about1, start1.theMethod, start1.args0, start1.below0, start1.atStart⟩
end Jvm.Pilot.@@N@@
