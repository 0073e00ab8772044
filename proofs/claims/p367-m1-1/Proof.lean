import JvmDerived
import JvmDerived.Pilot.@@N@@Statement
import JvmDerived.Pilot.@@N@@Code
set_option linter.unusedVariables false
set_option linter.unusedSimpArgs false
namespace Jvm.Pilot.@@N@@
open Jvm Jvm.ClassFile Sem Op Lib Jvm.Free Jvm.Stand Jvm.LawKit Jvm.RoadKit Bundle Jvm.Pilot.@@N@@.Jvm.D
section Own
variable {p : Program} {l : Launch} {e : Env} {R : Room} {s : State} {m : MethodId} {args : Array Value} {below : List Frame} {meth : Method} {c : Code} {T : State} {locs : List Loc} {cells slots : Nat} {Z : State} {h h' : Heap} {a b : Addr} {G : State → Outcome → Prop} {Q : Option Value → Heap → List Loc → Prop} {C K : Nat}
/-- the run comes to an end of which G holds -/
def own_Goes (p : Program) (e : Env) (below : List Frame) (G : State → Outcome → Prop) (S : State) : Prop := ∃ s₂ o, Steps p.tables e below S s₂ ∧ s₂.status = .running ∧ Ended s₂ below o ∧ G s₂ o
theorem own_step {S S' : State} (k : ∀ t, Steps p.tables e below S' t → Steps p.tables e below S t) (h : own_Goes p e below G S') : own_Goes p e below G S := by
  obtain ⟨s₂, o, h1, h2⟩ := h
  exact ⟨s₂, o, k _ h1, h2⟩
theorem own_jump {S S' : State} (k : Steps p.tables e below S S') (h : own_Goes p e below G S') : own_Goes p e below G S := own_step (fun _ q => k.trans q) h
def own_Fin (s : State) (Q : Option Value → Heap → List Loc → Prop) (C K : Nat) : State → Outcome → Prop := fun U o => ∃ v L, o = .returned v ∧ Q v U.heap L ∧ FrameEnd s o U L C K
theorem own_ret0 (X : Stand p l e R s m args below meth c T locs cells slots) (hx : p.tables.exec = Jvm.exec) (hlk : meth.locks = false) (hret : meth.sig.returnType = none) {pc : Nat} {Ls : Array Slot} (hd : decode c.code pc = .ok (.return_, 1)) (hq : Q none T.heap locs) (hc : cells ≤ C) (hk : slots ≤ K) :
    own_Goes p e below (own_Fin s Q C K) (T.setTop (mkF m pc Ls [])) := by
  obtain ⟨fs, hr, hrun, hended, hW, hsame⟩ := X.leave (v := none) (fun _ => rfl)
  exact ⟨_, _, X.returnOut hx hret hd hr, hrun, hended, _, _, rfl, hq, ⟨_, rfl⟩, hW, hsame.mono hc hk⟩
theorem own_retV (X : Stand p l e R s m args below meth c T locs cells slots) (hx : p.tables.exec = Jvm.exec) (hlk : meth.locks = false) {t : FieldType} (hret : meth.sig.returnType = some t) {w : Value} (hn : narrow t w = w) {i : Instr}
    (hi : (i = .ireturn ∧ (t = .int ∨ t = .boolean ∨ t = .byte ∨ t = .char ∨ t = .short) ∧ ∃ z, w = .int z) ∨ (i = .lreturn ∧ t = .long ∧ ∃ z, w = .long z) ∨ (i = .dreturn ∧ t = .double ∧ ∃ z, w = .double z) ∨ (i = .freturn ∧ t = .float ∧ ∃ z, w = .float z) ∨ (i = .areturn ∧ t.isReference = true ∧ w.isRef = true))
    {pc : Nat} {Ls : Array Slot} {rest : List Value} (hd : decode c.code pc = .ok (i, 1)) (hq : Q (some w) T.heap locs) (hc : cells ≤ C) (hk : slots ≤ K) :
    own_Goes p e below (own_Fin s Q C K) (T.setTop (mkF m pc Ls (w :: rest))) := by
  obtain ⟨fs, hr, hrun, hended, hW, hsame⟩ := X.leave (v := some w) (fun h => by rw [hret] at h; cases h)
  exact ⟨_, _, retOut X hx hret hn hi hd hr, hrun, hended, _, _, rfl, hq, ⟨_, rfl⟩, hW, hsame.mono hc hk⟩
theorem own_nb {z : Int32} (h : z = 0 ∨ z = 1) : narrow .boolean (.int z) = .int z := by
  rcases h with rfl | rfl <;> rfl
theorem own_01 {q : Prop} [Decidable q] {x y : Int32} (hx : x = 0 ∨ x = 1) (hy : y = 0 ∨ y = 1) : (if q then x else y) = 0 ∨ (if q then x else y) = 1 := by
  split
  · exact hx
  · exact hy
/-- the law's own promise -/
def own_Q0 (n0 : Nat) (v : Option Value) (h : Heap) (L : List Loc) : Prop := v = some (.int 1) ∧ Fr n0 L
theorem own_retL {n0 : Nat} (X : Stand p l e R s m args below meth c T locs cells slots) (hx : p.tables.exec = Jvm.exec) (hlk : meth.locks = false) (hret : meth.sig.returnType = some .boolean) {pc : Nat} {Ls : Array Slot} {z : Int32} {rest : List Value} (hd : decode c.code pc = .ok (.ireturn, 1)) (hz : z = 1) (N : Fr n0 locs) (hc : cells ≤ C) (hk : slots ≤ K) :
    own_Goes p e below (own_Fin s (own_Q0 n0) C K) (T.setTop (mkF m pc Ls (.int z :: rest))) := by
  subst hz
  exact own_retV X hx hlk hret (own_nb (Or.inr rfl)) (Or.inl ⟨rfl, Or.inr (Or.inl rfl), _, rfl⟩) hd ⟨rfl, N⟩ hc hk
/-! arrays of ints and of longs, by their lists -/
theorem own_getI (xs : List Int32) (n : Nat) : (xs.map Value.int).getD n (Value.int 0) = Value.int (xs.getD n 0) := by
  simp only [List.getD_eq_getElem?_getD, List.getElem?_map]
  cases xs[n]? <;> rfl
theorem own_getJ (xs : List Int64) (n : Nat) : (xs.map Value.long).getD n (Value.long 0) = Value.long (xs.getD n 0) := by
  simp only [List.getD_eq_getElem?_getD, List.getElem?_map]
  cases xs[n]? <;> rfl
theorem own_newI {k : ClassId} {z : Int32} (A : Arr Z h a (newA k .int z) .int) (q : ¬ z < 0) (n : Nat) : Arv Z h a k .int z ((List.replicate n (0 : Int32)).map Value.int) (Value.int 0) :=
  (Arv.new A q).pad fun i => by rw [List.map_replicate]; exact pad_rep [] (Value.int 0) n i
theorem own_newJ {k : ClassId} {z : Int32} (A : Arr Z h a (newA k .long z) .long) (q : ¬ z < 0) (n : Nat) : Arv Z h a k .long z ((List.replicate n (0 : Int64)).map Value.long) (Value.long 0) :=
  (Arv.new A q).pad fun i => by rw [List.map_replicate]; exact pad_rep [] (Value.long 0) n i
theorem own_ial (X : Stand p l e R s m args below meth c T locs cells slots) (hx : p.tables.exec = Jvm.exec) (hZ : Z.Warmed39 s.vm) (eT : T.heap = h) {k : ClassId} {z j : Int32} {xs : List Int32} (F : Arv Z h a k .int z (xs.map Value.int) (Value.int 0)) (hj : ¬ j < 0 ∧ j < z)
    {g : JFrame} (hg : g.method = m) {rest : List Value} (hs : g.stack = .int j :: .ref a :: rest) (hd : decode c.code g.pc = .ok (.iaload, 1)) (t : State) (kk : Steps p.tables e below (T.setTop { g with pc := g.pc + 1, stack := .int (xs.getD j.toNatClampNeg 0) :: rest }) t) : Steps p.tables e below (T.setTop g) t := by
  obtain ⟨cl, Ar, -, S, -, H, -⟩ := F
  have hin := inb_of S hj
  exact X.iaload hx (j := j) (by rw [eT]; exact Ar.1) (State.isArrayOf_alike hZ.alike Ar.2.1) Ar.2.2 hin (H.at hin (own_getI _ _)) hg hs hd t kk
theorem own_lal (X : Stand p l e R s m args below meth c T locs cells slots) (hx : p.tables.exec = Jvm.exec) (hZ : Z.Warmed39 s.vm) (eT : T.heap = h) {k : ClassId} {z j : Int32} {xs : List Int64} (F : Arv Z h a k .long z (xs.map Value.long) (Value.long 0)) (hj : ¬ j < 0 ∧ j < z)
    {g : JFrame} (hg : g.method = m) {rest : List Value} (hs : g.stack = .int j :: .ref a :: rest) (hd : decode c.code g.pc = .ok (.laload, 1)) (t : State) (kk : Steps p.tables e below (T.setTop { g with pc := g.pc + 1, stack := .long (xs.getD j.toNatClampNeg 0) :: rest }) t) : Steps p.tables e below (T.setTop g) t := by
  obtain ⟨cl, Ar, -, S, -, H, -⟩ := F
  have hin := inb_of S hj
  exact X.laload hx (j := j) (by rw [eT]; exact Ar.1) (State.isArrayOf_alike hZ.alike Ar.2.1) Ar.2.2 hin (H.at hin (own_getJ _ _)) hg hs hd t kk
theorem own_len (X : Stand p l e R s m args below meth c T locs cells slots) (hx : p.tables.exec = Jvm.exec) (hZ : Z.Warmed39 s.vm) (eT : T.heap = h) {k : ClassId} {ty : FieldType} {z : Int32} {vs : List Value} {dv : Value} (F : Arv Z h a k ty z vs dv)
    {g : JFrame} (hg : g.method = m) {rest : List Value} (hs : g.stack = .ref a :: rest) (hd : decode c.code g.pc = .ok (.arraylength, 1)) (t : State) (kk : Steps p.tables e below (T.setTop { g with pc := g.pc + 1, stack := .int z :: rest }) t) : Steps p.tables e below (T.setTop g) t := by
  obtain ⟨cl, Ar, -, S, N, -, -⟩ := F
  refine X.arraylength hx (by rw [eT]; exact Ar.1) (State.isArrayOf_alike hZ.alike Ar.2.1) hg hs hd t ?_
  rw [len_of S N]
  exact kk
theorem own_ist (X : Stand p l e R s m args below meth c T locs cells slots) (hx : p.tables.exec = Jvm.exec) (hZ : Z.Warmed39 s.vm) (eT : T.heap = h) {k : ClassId} {z j y : Int32} {xs : List Int32} (F : Arv Z h a k .int z (xs.map Value.int) (Value.int 0)) (hj : ¬ j < 0 ∧ j < z) (n : Nat) (hn : j.toNatClampNeg = n) (hl : n < xs.length)
    {g : JFrame} (hg : g.method = m) {rest : List Value} (hs : g.stack = .int y :: .int j :: .ref a :: rest) (hd : decode c.code g.pc = .ok (.iastore, 1)) :
    ∃ T' h', Stand p l e R s m args below meth c T' (locs ++ [⟨a, j.toNatClampNeg⟩]) cells slots ∧ T'.heap = h' ∧ Wr h h' a j.toNatClampNeg (.int y) ∧ Arv Z h' a k .int z ((xs.set n y).map Value.int) (Value.int 0) ∧ ∀ t, Steps p.tables e below (T'.setTop { g with pc := g.pc + 1, stack := rest }) t → Steps p.tables e below (T.setTop g) t := by
  obtain ⟨cl, Ar, q, S, N, H, I⟩ := F
  obtain ⟨T', h', X', e', W, st⟩ := stI X hx hZ eT Ar (inb_of S hj) hg hs hd
  refine ⟨T', h', X', e', W, ?_, st⟩
  rw [List.map_set]
  exact Arv.set Ar q S N H I rfl W n hn (by rw [List.length_map]; exact hl)
theorem own_lst (X : Stand p l e R s m args below meth c T locs cells slots) (hx : p.tables.exec = Jvm.exec) (hZ : Z.Warmed39 s.vm) (eT : T.heap = h) {k : ClassId} {z j : Int32} {y : Int64} {xs : List Int64} (F : Arv Z h a k .long z (xs.map Value.long) (Value.long 0)) (hj : ¬ j < 0 ∧ j < z) (n : Nat) (hn : j.toNatClampNeg = n) (hl : n < xs.length)
    {g : JFrame} (hg : g.method = m) {rest : List Value} (hs : g.stack = .long y :: .int j :: .ref a :: rest) (hd : decode c.code g.pc = .ok (.lastore, 1)) :
    ∃ T' h', Stand p l e R s m args below meth c T' (locs ++ [⟨a, j.toNatClampNeg⟩]) cells slots ∧ T'.heap = h' ∧ Wr h h' a j.toNatClampNeg (.long y) ∧ Arv Z h' a k .long z ((xs.set n y).map Value.long) (Value.long 0) ∧ ∀ t, Steps p.tables e below (T'.setTop { g with pc := g.pc + 1, stack := rest }) t → Steps p.tables e below (T.setTop g) t := by
  obtain ⟨cl, Ar, q, S, N, H, I⟩ := F
  obtain ⟨T', h', X', e', W, st⟩ := stJ X hx hZ eT Ar (inb_of S hj) hg hs hd
  refine ⟨T', h', X', e', W, ?_, st⟩
  rw [List.map_set]
  exact Arv.set Ar q S N H I rfl W n hn (by rw [List.length_map]; exact hl)
end Own
def own_val (j : Int32) : Value := .int (j - (128 : Int32))
theorem own_sub {args : Array Value} {first s : State} {o : Option Outcome} {idx : List Nat} {a b : Term} {x y : Int32} (ha : a.eval args first o idx s = some (.int x)) (hb : b.eval args first o idx s = some (.int y)) : (Term.sub a b).eval args first o idx s = some (.int (x - y)) := by simp [Term.eval, ha, hb]
theorem own_length {args : Array Value} {s : State} {t : Term} {x : Addr} {c : Cell} {ty : FieldType} {k : Int32} (ev : t.eval args s none [] s = some (.ref x)) (A : Arr s s.heap x c ty) (h : (Jvm.Cond.eq (Term.length t) (Term.int k)).value args s none s [] = some true) : c.slots.size < 2 ^ 31 ∧ c.slots.size.toInt32 = k := by
  have e1 := eqv_i (Term.int_eval _) h
  have hA := A.fin (Vm.Alike.refl _)
  by_cases hl : c.slots.size < 2 ^ 31
  · refine ⟨hl, ?_⟩
    have e4 := len_f (first := s) (o := none) (idx := []) ev hA hl
    exact Value.int.inj (Option.some.inj (e4.symm.trans e1))
  · simp [Term.eval, ev, hA, hl] at e1
theorem own_ci {q : Int32} (h1 : ¬ q < (-128 : Int32)) (h2 : ¬ (127 : Int32) < q) : ¬ (q + (128 : Int32)) < 0 ∧ (q + (128 : Int32)) < (256 : Int32) := by
  rw [Int32.lt_iff_toInt_lt] at *
  rw [Int32.lt_iff_toInt_lt]
  have e := c_iadd q 128
  have r := rng32 (q + (128 : Int32))
  have z1 : (-128 : Int32).toInt = -128 := rfl
  have z2 : (127 : Int32).toInt = 127 := rfl
  have z3 : (128 : Int32).toInt = 128 := rfl
  have z4 : (256 : Int32).toInt = 256 := rfl
  have z0 : (0 : Int32).toInt = 0 := rfl
  omega
theorem own_noinst {Z : State} {a0 : Array Value} {X Y : String} {n : Nat} {t : List String} (hw : ∀ w ∈ Jvm.Cond.chainWords (X :: t), w.before a0 Z = true) (wk : (Jvm.Cond.instantiable Y n).before a0 Z = true) (hn : Y ∉ X :: t) : ∃ c t, Z.vm.findClass X = some c ∧ Z.vm.findClass Y = some t ∧ Z.vm.assignable c t = false := by
  obtain ⟨cx, k, hx, -⟩ := Cond.chain_head hw
  obtain ⟨cy, ky, hy, hky, hord, hab, -⟩ := Cond.instantiable_spec wk
  exact ⟨cx, cy, hx, hy, Vm.notAssignable_of_chain hx hy hky hord (Bool.or_eq_false_iff.mp hab).1 hw hn⟩
theorem own_c3 {Z : State} {a0 : Array Value} {a b c : Jvm.Cond} (h1 : a.before a0 Z = true) (h2 : b.before a0 Z = true) (h3 : c.before a0 Z = true) : ∀ w ∈ [a, b, c], w.before a0 Z = true := by
  intro w h
  simp only [List.mem_cons, List.not_mem_nil, or_false] at h
  rcases h with rfl | rfl | rfl <;> assumption
theorem own_plain {bb cc nn : Addr} {p0 p1 p2 p3 v6 v7 v8 v9 vexp v15 v16 v17 v19 : Int32} (h1 : bb ≠ cc) (h2 : bb ≠ nn) (he : (if p0 = v6 then (if p1 = v7 then (if p2 = v8 then (if p3 = v9 then (1 : Int32) else (0 : Int32)) else (0 : Int32)) else (0 : Int32)) else (0 : Int32)) = vexp) (h15 : (if (if bb = cc then (1 : Int32) else (if p0 = v6 then (if p1 = v7 then (if p2 = v8 then (if p3 = v9 then (1 : Int32) else (0 : Int32)) else (0 : Int32)) else (0 : Int32)) else (0 : Int32))) = vexp then (1 : Int32) else (0 : Int32)) = v15) (h16 : (if (if cc = bb then (1 : Int32) else (if v6 = p0 then (if v7 = p1 then (if v8 = p2 then (if v9 = p3 then (1 : Int32) else (0 : Int32)) else (0 : Int32)) else (0 : Int32)) else (0 : Int32))) = vexp then (1 : Int32) else (0 : Int32)) = v16) (h17 : (if bb = bb then (1 : Int32) else (if p0 = p0 then (if p1 = p1 then (if p2 = p2 then (if p3 = p3 then (1 : Int32) else (0 : Int32)) else (0 : Int32)) else (0 : Int32)) else (0 : Int32))) = v17) (h19 : (if (if bb = nn then (1 : Int32) else (0 : Int32)) = (0 : Int32) then (1 : Int32) else (0 : Int32)) = v19) : (if v15 = (0 : Int32) then (0 : Int32) else (if v16 = (0 : Int32) then (0 : Int32) else (if v17 = (0 : Int32) then (0 : Int32) else (if v19 = (0 : Int32) then (0 : Int32) else (1 : Int32))))) = 1 := by
  have e1 : v15 = 1 := by
    rw [← h15, if_neg h1]
    exact if_pos he
  have e2 : v16 = 1 := by
    rw [← h16, if_neg (Ne.symm h1)]
    refine if_pos ?_
    rw [← he]
    simp only [@eq_comm _ v6 p0, @eq_comm _ v7 p1, @eq_comm _ v8 p2, @eq_comm _ v9 p3]
  have e3 : v17 = 1 := by
    rw [← h17]
    exact if_pos rfl
  have e4 : v19 = 1 := by
    rw [← h19, if_neg h2]
    decide
  subst e1 e2 e3 e4
  decide
theorem own_pn0 : plainName "java/lang/Number" = true := by first | (simp [plainName, overriddenIn]; done) | decide +kernel
theorem own_djdk_18_method_1_code_0 : decode jdk_18_method_1_code 0 = .ok (.aload_n 0, 1) := by decide +kernel
theorem own_djdk_18_method_1_code_1 : decode jdk_18_method_1_code 1 = .ok (.invokespecial 1, 3) := by decide +kernel
theorem own_djdk_18_method_1_code_4 : decode jdk_18_method_1_code 4 = .ok (.return_, 1) := by decide +kernel
theorem own_n1_ef (m : MethodId) (a1 : Addr) : entryFrame m #[(.ref a1)] 1 = mkF m 0 #[.val (.ref a1)] [] := by first | (simp [entryFrame, mkF, argsToLocals, Value.category]; done) | rfl
def own_n1_Q (Z : State) (a1 : Addr) (h0 : Heap) (n0 : Nat) (v : Option Value) (h : Heap) (L : List Loc) : Prop := v = none ∧ Fr n0 L ∧ h = h0
set_option maxRecDepth 65536 in
set_option maxHeartbeats 40000000 in
theorem own_n1 (l : Launch) (Z : State) (a0 : Array Value) (hw : ∀ d ∈ tables_1, d.before a0 Z = true) (ws : List Jvm.Cond) (a1 : Addr) (h0 : Heap) (n0 : Nat) (Z0 : n0 ≤ h0.size) :
    MetFree l (⟨"java/lang/Number", "<init>", "()V"⟩ : MethodName) (head1 (Jvm.Cond.code (⟨"java/lang/Number", "<init>", "()V"⟩ : MethodName) jdk_18_method_1_code 1 none :: ws) ({ frames := 1, cells := 0, slots := 0, locals := 12 } : Room)) (fun aa U => aa = #[(.ref a1)] ∧ Z.Warmed39 U.vm ∧ U.heap = h0) (fun _ _ _ _ _ => True) (fun _ U o U' => ∃ v L, o = .returned v ∧ own_n1_Q Z a1 h0 n0 v U'.heap L ∧ FrameEnd U o U' L ({ frames := 1, cells := 0, slots := 0, locals := 12 } : Room).cells ({ frames := 1, cells := 0, slots := 0, locals := 12 } : Room).slots) := by
  refine MetFree.of_bodySF (plainFor_of_name own_pn0) hisR ?_
  have w7 := hw _ (List.mem_of_getElem? (i := 7) rfl)
  have w8 := hw _ (List.mem_of_getElem? (i := 8) rfl)
  have w46 := hw _ (List.mem_of_getElem? (i := 46) rfl)
  intro p e s m args below meth c s₁ Bd hml0 hP hK
  obtain ⟨rfl, hZ, hh⟩ := hP
  have hx := Bd.exec
  have hby := Bd.bytes
  have hlk := Bd.notSynchronized
  have hml : c.maxLocals = 1 := hml0
  have hown : s.vm.findClass "java/lang/Number" = some m.cls := findClass_of_methodNamed Bd.named
  have hnm := (name_of_methodNamed Bd.named Bd.method).1
  have X0 : Stand p l e ({ frames := 1, cells := 0, slots := 0, locals := 12 } : Room) s m #[(.ref a1)] below meth c s₁ [] 0 0 := Stand.of_body Bd
  have e0 : s₁.heap = h0 := by rw [← hh, Bd.state]; rfl
  have N0 := Fr.nil n0
  have K0 : Keep h0 h0 [] := Keep.refl h0 _
  show own_Goes p e below (own_Fin s (own_n1_Q Z a1 h0 n0) ({ frames := 1, cells := 0, slots := 0, locals := 12 } : Room).cells ({ frames := 1, cells := 0, slots := 0, locals := 12 } : Room).slots) _
  refine own_step (fun t k => castTop (own_n1_ef m a1) k) ?_
  show own_Goes p e below _ (s₁.setTop (mkF m 0 #[.val (.ref a1)] []))
  refine own_step (fun t k => XS.aloadN X0.here hx rfl (hb hby own_djdk_18_method_1_code_0) rfl rfl k) ?_
  show own_Goes p e below _ (s₁.setTop (mkF m 1 #[.val (.ref a1)] [(.ref a1)]))
  obtain ⟨T2, X2, e2, st2⟩ := initO X0 hx hZ hown w46 w7 w8 e0 (g := (mkF m 1 #[.val (.ref a1)] [(.ref a1)])) rfl (by rw [hml]; rfl) rfl (hb hby own_djdk_18_method_1_code_1) (by decide) (W := 0) (by show 2 * 0 + _ ≤ _; exact Nat.le_of_eq rfl) (by decide)
  refine own_step st2 ?_
  show own_Goes p e below _ (T2.setTop (mkF m 4 #[.val (.ref a1)] []))
  refine own_ret0 X2 hx hlk Bd.returns (hb hby own_djdk_18_method_1_code_4) ?_ (by decide) (by decide)
  show own_n1_Q Z a1 h0 n0 _ T2.heap _
  rw [e2]
  exact ⟨rfl, N0, rfl⟩
theorem own_pn1 : plainName "java/lang/Integer" = true := by first | (simp [plainName, overriddenIn]; done) | decide +kernel
theorem own_djdk_33_method_23_code_0 : decode jdk_33_method_23_code 0 = .ok (.aload_n 0, 1) := by decide +kernel
theorem own_pd0 : parseMethodDescriptor "()V" = some ⟨[], none⟩ := by decide +kernel
theorem own_djdk_33_method_23_code_1 : decode jdk_33_method_23_code 1 = .ok (.invokespecial 202, 3) := by decide +kernel
theorem own_djdk_33_method_23_code_4 : decode jdk_33_method_23_code 4 = .ok (.aload_n 0, 1) := by decide +kernel
theorem own_djdk_33_method_23_code_5 : decode jdk_33_method_23_code 5 = .ok (.iload_n 1, 1) := by decide +kernel
theorem own_djdk_33_method_23_code_6 : decode jdk_33_method_23_code 6 = .ok (.putfield 205, 3) := by decide +kernel
theorem own_djdk_33_method_23_code_9 : decode jdk_33_method_23_code 9 = .ok (.return_, 1) := by decide +kernel
theorem own_n2_ef (m : MethodId) (a1 : Addr) (q1 : Int32) : entryFrame m #[(.ref a1), (.int q1)] 2 = mkF m 0 #[.val (.ref a1), .val (.int q1)] [] := by first | (simp [entryFrame, mkF, argsToLocals, Value.category]; done) | rfl
def own_n2_Q (Z : State) (a1 : Addr) (q1 : Int32) (u : Value) (h0 : Heap) (n0 : Nat) (v : Option Value) (h : Heap) (L : List Loc) : Prop := v = none ∧ Fr n0 L ∧ Keep h0 h [a1] ∧ Exa Z h a1 "java/lang/Integer"
set_option maxRecDepth 65536 in
set_option maxHeartbeats 40000000 in
theorem own_n2 (l : Launch) (Z : State) (a0 : Array Value) (hw : ∀ d ∈ tables_1, d.before a0 Z = true) (ws : List Jvm.Cond) (a1 : Addr) (q1 : Int32) (u : Value) (h0 : Heap) (n0 : Nat) (Z0 : n0 ≤ h0.size) (E_a1 : Exa Z h0 a1 "java/lang/Integer") (g_a1 : n0 ≤ a1) (F_value_a1 : Fld Z h0 a1 "java/lang/Integer" "value" "I" u) :
    MetFree l (⟨"java/lang/Integer", "<init>", "(I)V"⟩ : MethodName) (head1 (Jvm.Cond.code (⟨"java/lang/Integer", "<init>", "(I)V"⟩ : MethodName) jdk_33_method_23_code 2 none :: ws) ({ frames := 2, cells := 0, slots := 0, locals := 24 } : Room)) (fun aa U => aa = #[(.ref a1), (.int q1)] ∧ Z.Warmed39 U.vm ∧ U.heap = h0) (fun _ _ _ _ _ => True) (fun _ U o U' => ∃ v L, o = .returned v ∧ own_n2_Q Z a1 q1 u h0 n0 v U'.heap L ∧ FrameEnd U o U' L ({ frames := 2, cells := 0, slots := 0, locals := 24 } : Room).cells ({ frames := 2, cells := 0, slots := 0, locals := 24 } : Room).slots) := by
  refine MetFree.of_bodySF (plainFor_of_name own_pn1) hisR ?_
  have w35 := hw _ (List.mem_of_getElem? (i := 35) rfl)
  have w40 := hw _ (List.mem_of_getElem? (i := 40) rfl)
  have w41 := hw _ (List.mem_of_getElem? (i := 41) rfl)
  have w44 := hw _ (List.mem_of_getElem? (i := 44) rfl)
  have w45 := hw _ (List.mem_of_getElem? (i := 45) rfl)
  have w47 := hw _ (List.mem_of_getElem? (i := 47) rfl)
  have w48 := hw _ (List.mem_of_getElem? (i := 48) rfl)
  intro p e s m args below meth c s₁ Bd hml0 hP hK
  obtain ⟨rfl, hZ, hh⟩ := hP
  have hx := Bd.exec
  have hby := Bd.bytes
  have hlk := Bd.notSynchronized
  have hml : c.maxLocals = 2 := hml0
  have hown : s.vm.findClass "java/lang/Integer" = some m.cls := findClass_of_methodNamed Bd.named
  have hnm := (name_of_methodNamed Bd.named Bd.method).1
  have X0 : Stand p l e ({ frames := 2, cells := 0, slots := 0, locals := 24 } : Room) s m #[(.ref a1), (.int q1)] below meth c s₁ [] 0 0 := Stand.of_body Bd
  have e0 : s₁.heap = h0 := by rw [← hh, Bd.state]; rfl
  have N0 := Fr.nil n0
  have K0 : Keep h0 h0 [a1] := Keep.refl h0 _
  show own_Goes p e below (own_Fin s (own_n2_Q Z a1 q1 u h0 n0) ({ frames := 2, cells := 0, slots := 0, locals := 24 } : Room).cells ({ frames := 2, cells := 0, slots := 0, locals := 24 } : Room).slots) _
  refine own_step (fun t k => castTop (own_n2_ef m a1 q1) k) ?_
  show own_Goes p e below _ (s₁.setTop (mkF m 0 #[.val (.ref a1), .val (.int q1)] []))
  refine own_step (fun t k => XS.aloadN X0.here hx rfl (hb hby own_djdk_33_method_23_code_0) rfl rfl k) ?_
  show own_Goes p e below _ (s₁.setTop (mkF m 1 #[.val (.ref a1), .val (.int q1)] [(.ref a1)]))
  obtain ⟨_, _, ⟨T6, L6, k6, n6⟩, -, X6, ⟨Lc6, hQ6, l6, y6, z6⟩, st6⟩ := X0.specialBack hx (y := (⟨"java/lang/Number", "<init>", "()V"⟩ : MethodName)) rfl hown (mvT hZ w40) (mvT hZ w41) (mvT hZ w45) (by decide) (backOf (W := 0) (own_n1 l Z a0 hw [] a1  h0 n0 Z0 ) hZ w45 w44 (by decide) (by decide)) (g := (mkF m 1 #[.val (.ref a1), .val (.int q1)] [(.ref a1)])) rfl (by rw [hml]; rfl) (Steps.refl _) (a := a1) (argsL := []) (rest := []) (lenOf own_pd0 rfl) rfl (by show 2 * 0 + _ ≤ _; exact Nat.le_of_eq rfl) (hb hby own_djdk_33_method_23_code_1) (fun _ _ => ⟨rfl, e0, (by decide : 0 + 0 ≤ _), (by decide : 0 + 0 ≤ _)⟩)
  dsimp only [Pt.U, Pt.locs, Pt.cells, Pt.slots] at X6 l6 y6 z6 st6 hQ6
  subst l6 y6 z6
  obtain ⟨rfl, N6q, eh6⟩ := hQ6
  have N6 := Fr.app N0 N6q
  refine own_jump st6 ?_
  show own_Goes p e below _ (T6.setTop (mkF m 4 #[.val (.ref a1), .val (.int q1)] []))
  refine own_step (fun t k => XS.aloadN X6.here hx rfl (hb hby own_djdk_33_method_23_code_4) rfl rfl k) ?_
  show own_Goes p e below _ (T6.setTop (mkF m 5 #[.val (.ref a1), .val (.int q1)] [(.ref a1)]))
  refine own_step (fun t k => XS.iloadN X6.here hx rfl (hb hby own_djdk_33_method_23_code_5) rfl k) ?_
  show own_Goes p e below _ (T6.setTop (mkF m 6 #[.val (.ref a1), .val (.int q1)] [(.int q1), (.ref a1)]))
  obtain ⟨T7, h7, X7, e7, W7, st7⟩ := putF X6 hx hZ hown (host := "") (Or.inl w47) Via.refl eh6 F_value_a1 E_a1 (Or.inr ⟨w48, rfl, hnm⟩) w35 (ty := .int) (by decide) rfl rfl (g := (mkF m 6 #[.val (.ref a1), .val (.int q1)] [(.int q1), (.ref a1)])) rfl rfl (hb hby own_djdk_33_method_23_code_6)
  have Fw7 := F_value_a1.same W7
  have N7 := Fr.snoc X7 N6 g_a1
  have K8 : Keep h0 h7 [a1] := K0.wr W7 (Or.inl (List.mem_of_getElem? (i := 0) rfl))
  refine own_step st7 ?_
  show own_Goes p e below _ (T7.setTop (mkF m 9 #[.val (.ref a1), .val (.int q1)] []))
  refine own_ret0 X7 hx hlk Bd.returns (hb hby own_djdk_33_method_23_code_9) ?_ (by decide) (by decide)
  show own_n2_Q Z a1 q1 u h0 n0 _ T7.heap _
  rw [e7]
  exact ⟨rfl, N7, K8, (E_a1.wr W7)⟩
theorem own_djdk_33_method_22_code_0 : decode jdk_33_method_22_code 0 = .ok (.iload_n 0, 1) := by decide +kernel
theorem own_djdk_33_method_22_code_1 : decode jdk_33_method_22_code 1 = .ok (.bipush (-128), 2) := by decide +kernel
theorem own_djdk_33_method_22_code_3 : decode jdk_33_method_22_code 3 = .ok (.if_icmp .lt 20, 3) := by decide +kernel
theorem own_djdk_33_method_22_code_23 : decode jdk_33_method_22_code 23 = .ok (.new 1, 3) := by decide +kernel
theorem own_djdk_33_method_22_code_26 : decode jdk_33_method_22_code 26 = .ok (.dup, 1) := by decide +kernel
theorem own_djdk_33_method_22_code_27 : decode jdk_33_method_22_code 27 = .ok (.iload_n 0, 1) := by decide +kernel
theorem own_pd1 : parseMethodDescriptor "(I)V" = some ⟨[.int], none⟩ := by decide +kernel
theorem own_djdk_33_method_22_code_28 : decode jdk_33_method_22_code 28 = .ok (.invokespecial 199, 3) := by decide +kernel
theorem own_djdk_33_method_22_code_31 : decode jdk_33_method_22_code 31 = .ok (.areturn, 1) := by decide +kernel
theorem own_djdk_33_method_22_code_6 : decode jdk_33_method_22_code 6 = .ok (.iload_n 0, 1) := by decide +kernel
theorem own_djdk_33_method_22_code_7 : decode jdk_33_method_22_code 7 = .ok (.getstatic 191, 3) := by decide +kernel
theorem own_djdk_33_method_22_code_10 : decode jdk_33_method_22_code 10 = .ok (.if_icmp .gt 13, 3) := by decide +kernel
theorem own_djdk_33_method_22_code_13 : decode jdk_33_method_22_code 13 = .ok (.getstatic 195, 3) := by decide +kernel
theorem own_djdk_33_method_22_code_16 : decode jdk_33_method_22_code 16 = .ok (.iload_n 0, 1) := by decide +kernel
theorem own_djdk_33_method_22_code_17 : decode jdk_33_method_22_code 17 = .ok (.sipush 128, 3) := by decide +kernel
theorem own_djdk_33_method_22_code_20 : decode jdk_33_method_22_code 20 = .ok (.iadd, 1) := by decide +kernel
theorem own_djdk_33_method_22_code_21 : decode jdk_33_method_22_code 21 = .ok (.aaload, 1) := by decide +kernel
theorem own_djdk_33_method_22_code_22 : decode jdk_33_method_22_code 22 = .ok (.areturn, 1) := by decide +kernel
theorem own_n3_ef (m : MethodId) (q1 : Int32) : entryFrame m #[(.int q1)] 1 = mkF m 0 #[.val (.int q1)] [] := by first | (simp [entryFrame, mkF, argsToLocals, Value.category]; done) | rfl
def own_n3_Q (Z : State) (q1 : Int32) (wc : Addr) (cC : Cell) (h0 : Heap) (n0 : Nat) (v : Option Value) (h : Heap) (L : List Loc) : Prop := ∃ xx : Addr, v = some (.ref xx) ∧ Fr n0 L ∧ Keep h0 h [] ∧ Exa Z h xx "java/lang/Integer"
set_option maxRecDepth 65536 in
set_option maxHeartbeats 40000000 in
theorem own_n3 (l : Launch) (Z : State) (a0 : Array Value) (hw : ∀ d ∈ tables_1, d.before a0 Z = true) (ws : List Jvm.Cond) (q1 : Int32) (wc : Addr) (cC : Cell) (h0 : Heap) (n0 : Nat) (Z0 : n0 ≤ h0.size) (S_high : Sta Z Z.heap "java/lang/Integer$IntegerCache" "high" "I" (.int (127 : Int32))) (S_cache : Sta Z Z.heap "java/lang/Integer$IntegerCache" "cache" "[Ljava/lang/Integer;" (.ref wc)) (O0 : Old Z n0 h0) (hbx : Bxs Z wc cC "java/lang/Integer" "I" (256 : Int32) own_val) :
    MetFree l (⟨"java/lang/Integer", "valueOf", "(I)Ljava/lang/Integer;"⟩ : MethodName) (head1 (Jvm.Cond.code (⟨"java/lang/Integer", "valueOf", "(I)Ljava/lang/Integer;"⟩ : MethodName) jdk_33_method_22_code 1 (some (.object "java/lang/Integer")) :: ws) ({ frames := 3, cells := 1, slots := 1, locals := 38 } : Room)) (fun aa U => aa = #[(.int q1)] ∧ Z.Warmed39 U.vm ∧ U.heap = h0) (fun _ _ _ _ _ => True) (fun _ U o U' => ∃ v L, o = .returned v ∧ own_n3_Q Z q1 wc cC h0 n0 v U'.heap L ∧ FrameEnd U o U' L ({ frames := 3, cells := 1, slots := 1, locals := 38 } : Room).cells ({ frames := 3, cells := 1, slots := 1, locals := 38 } : Room).slots) := by
  refine MetFree.of_bodySF (plainFor_of_name own_pn1) hisR ?_
  have w19 := hw _ (List.mem_of_getElem? (i := 19) rfl)
  have w21 := hw _ (List.mem_of_getElem? (i := 21) rfl)
  have w23 := hw _ (List.mem_of_getElem? (i := 23) rfl)
  have w34 := hw _ (List.mem_of_getElem? (i := 34) rfl)
  have w35 := hw _ (List.mem_of_getElem? (i := 35) rfl)
  have w36 := hw _ (List.mem_of_getElem? (i := 36) rfl)
  have w37 := hw _ (List.mem_of_getElem? (i := 37) rfl)
  have w39 := hw _ (List.mem_of_getElem? (i := 39) rfl)
  have w48 := hw _ (List.mem_of_getElem? (i := 48) rfl)
  intro p e s m args below meth c s₁ Bd hml0 hP hK
  obtain ⟨rfl, hZ, hh⟩ := hP
  have hx := Bd.exec
  have hby := Bd.bytes
  have hlk := Bd.notSynchronized
  have hml : c.maxLocals = 1 := hml0
  have hown : s.vm.findClass "java/lang/Integer" = some m.cls := findClass_of_methodNamed Bd.named
  have hnm := (name_of_methodNamed Bd.named Bd.method).1
  have X0 : Stand p l e ({ frames := 3, cells := 1, slots := 1, locals := 38 } : Room) s m #[(.int q1)] below meth c s₁ [] 0 0 := Stand.of_body Bd
  have e0 : s₁.heap = h0 := by rw [← hh, Bd.state]; rfl
  have N0 := Fr.nil n0
  have K0 : Keep h0 h0 [] := Keep.refl h0 _
  show own_Goes p e below (own_Fin s (own_n3_Q Z q1 wc cC h0 n0) ({ frames := 3, cells := 1, slots := 1, locals := 38 } : Room).cells ({ frames := 3, cells := 1, slots := 1, locals := 38 } : Room).slots) _
  refine own_step (fun t k => castTop (own_n3_ef m q1) k) ?_
  show own_Goes p e below _ (s₁.setTop (mkF m 0 #[.val (.int q1)] []))
  refine own_step (fun t k => XS.iloadN X0.here hx rfl (hb hby own_djdk_33_method_22_code_0) rfl k) ?_
  show own_Goes p e below _ (s₁.setTop (mkF m 1 #[.val (.int q1)] [(.int q1)]))
  refine own_step (fun t k => XS.bipush X0.here hx rfl (hb hby own_djdk_33_method_22_code_1) k) ?_
  show own_Goes p e below _ (s₁.setTop (mkF m 3 #[.val (.int q1)] [(.int (-128 : Int32)), (.int q1)]))
  by_cases hc21 : q1 < (-128 : Int32)
  · --
    refine own_step (fun t k => XS.icmpYes X0.here hx rfl (pc0 := 3) (pc' := 23) rfl (hb hby own_djdk_33_method_22_code_3) rfl (tlt hc21).1 (by decide) (by decide) k) ?_
    show own_Goes p e below _ (s₁.setTop (mkF m 23 #[.val (.int q1)] []))
    obtain ⟨T22, h22, X22, e22, E22, A22, D22, -, st22⟩ := newO X0 hx hZ hown w34 w35 w19 e0 (g := (mkF m 23 #[.val (.int q1)] [])) rfl (hb hby own_djdk_33_method_22_code_23) (by decide) (by decide)
    obtain ⟨b22, g22⟩ : ∃ z, z = h0.size := ⟨_, rfl⟩
    rw [← g22] at A22 D22 st22
    have g_b22 : n0 ≤ b22 := Nat.le_trans Z0 (Nat.le_of_eq g22.symm)
    have sz_b22 : h0.size ≤ b22 := Nat.le_trans K0.1 (Nat.le_of_eq g22.symm)
    have K23 : Keep h0 h22 [] := K0.ext E22
    have F_value_b22 : Fld Z h22 b22 "java/lang/Integer" "value" "I" (.int (0 : Int32)) := D22 (Or.inr w48) (ty := .int) (by decide)
    refine own_step st22 ?_
    show own_Goes p e below _ (T22.setTop (mkF m 26 #[.val (.int q1)] [(.ref b22)]))
    refine own_step (fun t k => XS.dup X22.here hx rfl (hb hby own_djdk_33_method_22_code_26) rfl rfl k) ?_
    show own_Goes p e below _ (T22.setTop (mkF m 27 #[.val (.int q1)] [(.ref b22), (.ref b22)]))
    refine own_step (fun t k => XS.iloadN X22.here hx rfl (hb hby own_djdk_33_method_22_code_27) rfl k) ?_
    show own_Goes p e below _ (T22.setTop (mkF m 28 #[.val (.int q1)] [(.int q1), (.ref b22), (.ref b22)]))
    obtain ⟨_, _, ⟨T24, L24, k24, n24⟩, -, X24, ⟨Lc24, hQ24, l24, y24, z24⟩, st24⟩ := X22.specialBack hx (y := (⟨"java/lang/Integer", "<init>", "(I)V"⟩ : MethodName)) rfl hown (mvT hZ w36) (mvT hZ w37) (mvT hZ w39) (by decide) (backOf (W := 1) (own_n2 l Z a0 hw [] b22 q1 ((.int (0 : Int32))) h22 n0 (Nat.le_trans Z0 E22.1) A22 g_b22 F_value_b22) hZ w39 w19 (by decide) (by decide)) (g := (mkF m 28 #[.val (.int q1)] [(.int q1), (.ref b22), (.ref b22)])) rfl (by rw [hml]; rfl) (Steps.refl _) (a := b22) (argsL := [(.int q1)]) (rest := [(.ref b22)]) (lenOf own_pd1 rfl) rfl (by show 2 * 0 + _ ≤ _; exact Nat.le_of_eq rfl) (hb hby own_djdk_33_method_22_code_28) (fun _ _ => ⟨rfl, e22, (by decide : 1 + 0 ≤ _), (by decide : 1 + 0 ≤ _)⟩)
    dsimp only [Pt.U, Pt.locs, Pt.cells, Pt.slots] at X24 l24 y24 z24 st24 hQ24
    subst l24 y24 z24
    obtain ⟨rfl, N24q, K24c, f24_0⟩ := hQ24
    have N24 := Fr.app N0 N24q
    refine own_jump st24 ?_
    have K25 : Keep h0 T24.heap [] := K23.trans K24c (allS (Or.inr sz_b22) all0)
    show own_Goes p e below _ (T24.setTop (mkF m 31 #[.val (.int q1)] [(.ref b22)]))
    refine own_retV X24 hx hlk Bd.returns (w := (.ref b22)) rfl (Or.inr (Or.inr (Or.inr (Or.inr ⟨rfl, rfl, rfl⟩)))) (hb hby own_djdk_33_method_22_code_31) ?_ (by decide) (by decide)
    show own_n3_Q Z q1 wc cC h0 n0 _ T24.heap _
    exact ⟨b22, rfl, N24, K25, f24_0⟩
  · --
    refine own_step (fun t k => XS.icmpNo X0.here hx rfl (hb hby own_djdk_33_method_22_code_3) rfl (flt hc21).1 k) ?_
    show own_Goes p e below _ (s₁.setTop (mkF m 6 #[.val (.int q1)] []))
    refine own_step (fun t k => XS.iloadN X0.here hx rfl (hb hby own_djdk_33_method_22_code_6) rfl k) ?_
    show own_Goes p e below _ (s₁.setTop (mkF m 7 #[.val (.int q1)] [(.int q1)]))
    obtain ⟨T26, X26, e26, st26⟩ := getS2 X0 hx hZ hown (host := "") (Or.inl w21) Via.refl e0 (S_high.ext O0.2) (g := (mkF m 7 #[.val (.int q1)] [(.int q1)])) rfl (hb hby own_djdk_33_method_22_code_7)
    refine own_step st26 ?_
    show own_Goes p e below _ (T26.setTop (mkF m 10 #[.val (.int q1)] [(.int (127 : Int32)), (.int q1)]))
    by_cases hc27 : (127 : Int32) < q1
    · --
      refine own_step (fun t k => XS.icmpYes X26.here hx rfl (pc0 := 10) (pc' := 23) rfl (hb hby own_djdk_33_method_22_code_10) rfl (tlt hc27).2.2.1 (by decide) (by decide) k) ?_
      show own_Goes p e below _ (T26.setTop (mkF m 23 #[.val (.int q1)] []))
      obtain ⟨T28, h28, X28, e28, E28, A28, D28, -, st28⟩ := newO X26 hx hZ hown w34 w35 w19 e26 (g := (mkF m 23 #[.val (.int q1)] [])) rfl (hb hby own_djdk_33_method_22_code_23) (by decide) (by decide)
      obtain ⟨b28, g28⟩ : ∃ z, z = h0.size := ⟨_, rfl⟩
      rw [← g28] at A28 D28 st28
      have g_b28 : n0 ≤ b28 := Nat.le_trans Z0 (Nat.le_of_eq g28.symm)
      have sz_b28 : h0.size ≤ b28 := Nat.le_trans K0.1 (Nat.le_of_eq g28.symm)
      have K29 : Keep h0 h28 [] := K0.ext E28
      have F_value_b28 : Fld Z h28 b28 "java/lang/Integer" "value" "I" (.int (0 : Int32)) := D28 (Or.inr w48) (ty := .int) (by decide)
      refine own_step st28 ?_
      show own_Goes p e below _ (T28.setTop (mkF m 26 #[.val (.int q1)] [(.ref b28)]))
      refine own_step (fun t k => XS.dup X28.here hx rfl (hb hby own_djdk_33_method_22_code_26) rfl rfl k) ?_
      show own_Goes p e below _ (T28.setTop (mkF m 27 #[.val (.int q1)] [(.ref b28), (.ref b28)]))
      refine own_step (fun t k => XS.iloadN X28.here hx rfl (hb hby own_djdk_33_method_22_code_27) rfl k) ?_
      show own_Goes p e below _ (T28.setTop (mkF m 28 #[.val (.int q1)] [(.int q1), (.ref b28), (.ref b28)]))
      obtain ⟨_, _, ⟨T30, L30, k30, n30⟩, -, X30, ⟨Lc30, hQ30, l30, y30, z30⟩, st30⟩ := X28.specialBack hx (y := (⟨"java/lang/Integer", "<init>", "(I)V"⟩ : MethodName)) rfl hown (mvT hZ w36) (mvT hZ w37) (mvT hZ w39) (by decide) (backOf (W := 1) (own_n2 l Z a0 hw [] b28 q1 ((.int (0 : Int32))) h28 n0 (Nat.le_trans Z0 E28.1) A28 g_b28 F_value_b28) hZ w39 w19 (by decide) (by decide)) (g := (mkF m 28 #[.val (.int q1)] [(.int q1), (.ref b28), (.ref b28)])) rfl (by rw [hml]; rfl) (Steps.refl _) (a := b28) (argsL := [(.int q1)]) (rest := [(.ref b28)]) (lenOf own_pd1 rfl) rfl (by show 2 * 0 + _ ≤ _; exact Nat.le_of_eq rfl) (hb hby own_djdk_33_method_22_code_28) (fun _ _ => ⟨rfl, e28, (by decide : 1 + 0 ≤ _), (by decide : 1 + 0 ≤ _)⟩)
      dsimp only [Pt.U, Pt.locs, Pt.cells, Pt.slots] at X30 l30 y30 z30 st30 hQ30
      subst l30 y30 z30
      obtain ⟨rfl, N30q, K30c, f30_0⟩ := hQ30
      have N30 := Fr.app N0 N30q
      refine own_jump st30 ?_
      have K31 : Keep h0 T30.heap [] := K29.trans K30c (allS (Or.inr sz_b28) all0)
      show own_Goes p e below _ (T30.setTop (mkF m 31 #[.val (.int q1)] [(.ref b28)]))
      refine own_retV X30 hx hlk Bd.returns (w := (.ref b28)) rfl (Or.inr (Or.inr (Or.inr (Or.inr ⟨rfl, rfl, rfl⟩)))) (hb hby own_djdk_33_method_22_code_31) ?_ (by decide) (by decide)
      show own_n3_Q Z q1 wc cC h0 n0 _ T30.heap _
      exact ⟨b28, rfl, N30, K31, f30_0⟩
    · --
      refine own_step (fun t k => XS.icmpNo X26.here hx rfl (hb hby own_djdk_33_method_22_code_10) rfl (flt hc27).2.2.1 k) ?_
      show own_Goes p e below _ (T26.setTop (mkF m 13 #[.val (.int q1)] []))
      obtain ⟨T32, X32, e32, st32⟩ := getS2 X26 hx hZ hown (host := "") (Or.inl w23) Via.refl e26 (S_cache.ext O0.2) (g := (mkF m 13 #[.val (.int q1)] [])) rfl (hb hby own_djdk_33_method_22_code_13)
      refine own_step st32 ?_
      show own_Goes p e below _ (T32.setTop (mkF m 16 #[.val (.int q1)] [(.ref wc)]))
      refine own_step (fun t k => XS.iloadN X32.here hx rfl (hb hby own_djdk_33_method_22_code_16) rfl k) ?_
      show own_Goes p e below _ (T32.setTop (mkF m 17 #[.val (.int q1)] [(.int q1), (.ref wc)]))
      refine own_step (fun t k => XS.sipush X32.here hx rfl (hb hby own_djdk_33_method_22_code_17) k) ?_
      show own_Goes p e below _ (T32.setTop (mkF m 20 #[.val (.int q1)] [(.int (128 : Int32)), (.int q1), (.ref wc)]))
      refine own_step (fun t k => XS.iadd X32.here hx rfl (hb hby own_djdk_33_method_22_code_20) rfl k) ?_
      show own_Goes p e below _ (T32.setTop (mkF m 21 #[.val (.int q1)] [(.int (q1 + (128 : Int32))), (.ref wc)]))
      obtain ⟨xc, hxs, hxe, -⟩ := hbx.2.2.2 (q1 + (128 : Int32)) (inb_of hbx.2.1 (own_ci (by assumption) (by assumption)))
      have ArC := (hbx.ext O0.2).1
      refine own_step (fun t k => X32.aaload hx (j := (q1 + (128 : Int32))) (v := .ref xc) (by rw [e32]; exact ArC.1) (State.isArrayOf_alike hZ.alike ArC.2.1) rfl ArC.2.2 (inb_of hbx.2.1 (own_ci (by assumption) (by assumption))) hxs (g := (mkF m 21 #[.val (.int q1)] [(.int (q1 + (128 : Int32))), (.ref wc)])) rfl rfl (hb hby own_djdk_33_method_22_code_21) _ k) ?_
      show own_Goes p e below _ (T32.setTop (mkF m 22 #[.val (.int q1)] [(.ref xc)]))
      refine own_retV X32 hx hlk Bd.returns (w := (.ref xc)) rfl (Or.inr (Or.inr (Or.inr (Or.inr ⟨rfl, rfl, rfl⟩)))) (hb hby own_djdk_33_method_22_code_22) ?_ (by decide) (by decide)
      show own_n3_Q Z q1 wc cC h0 n0 _ T32.heap _
      rw [e32]
      exact ⟨xc, rfl, N0, K0, (hxe.ext O0.2)⟩
theorem own_pn2 : plainName "com/example/heed/heed/Rect" = true := by first | (simp [plainName, overriddenIn]; done) | decide +kernel
theorem own_dprog_50_method_1_code_0 : decode prog_50_method_1_code 0 = .ok (.aload_n 0, 1) := by decide +kernel
theorem own_dprog_50_method_1_code_1 : decode prog_50_method_1_code 1 = .ok (.invokespecial 1, 3) := by decide +kernel
theorem own_dprog_50_method_1_code_4 : decode prog_50_method_1_code 4 = .ok (.aload_n 0, 1) := by decide +kernel
theorem own_dprog_50_method_1_code_5 : decode prog_50_method_1_code 5 = .ok (.iload_n 1, 1) := by decide +kernel
theorem own_dprog_50_method_1_code_6 : decode prog_50_method_1_code 6 = .ok (.putfield 7, 3) := by decide +kernel
theorem own_dprog_50_method_1_code_9 : decode prog_50_method_1_code 9 = .ok (.aload_n 0, 1) := by decide +kernel
theorem own_dprog_50_method_1_code_10 : decode prog_50_method_1_code 10 = .ok (.iload_n 2, 1) := by decide +kernel
theorem own_dprog_50_method_1_code_11 : decode prog_50_method_1_code 11 = .ok (.putfield 13, 3) := by decide +kernel
theorem own_dprog_50_method_1_code_14 : decode prog_50_method_1_code 14 = .ok (.aload_n 0, 1) := by decide +kernel
theorem own_dprog_50_method_1_code_15 : decode prog_50_method_1_code 15 = .ok (.iload_n 3, 1) := by decide +kernel
theorem own_dprog_50_method_1_code_16 : decode prog_50_method_1_code 16 = .ok (.putfield 16, 3) := by decide +kernel
theorem own_dprog_50_method_1_code_19 : decode prog_50_method_1_code 19 = .ok (.aload_n 0, 1) := by decide +kernel
theorem own_dprog_50_method_1_code_20 : decode prog_50_method_1_code 20 = .ok (.iload 4, 2) := by decide +kernel
theorem own_dprog_50_method_1_code_22 : decode prog_50_method_1_code 22 = .ok (.putfield 19, 3) := by decide +kernel
theorem own_dprog_50_method_1_code_25 : decode prog_50_method_1_code 25 = .ok (.return_, 1) := by decide +kernel
theorem own_b1_ef (m : MethodId) (a1 : Addr) (i0 : Int32) (i1 : Int32) (i2 : Int32) (i3 : Int32) : entryFrame m #[(.ref a1), (.int i0), (.int i1), (.int i2), (.int i3)] 5 = mkF m 0 #[.val (.ref a1), .val (.int i0), .val (.int i1), .val (.int i2), .val (.int i3)] [] := by first | (simp [entryFrame, mkF, argsToLocals, Value.category]; done) | rfl
def own_b1_Q (Z : State) (a1 : Addr) (i0 : Int32) (i1 : Int32) (i2 : Int32) (i3 : Int32) (u0 : Value) (u1 : Value) (u2 : Value) (u3 : Value) (h0 : Heap) (n0 : Nat) (v : Option Value) (h : Heap) (L : List Loc) : Prop := v = none ∧ Fr n0 L ∧ Keep h0 h [a1] ∧ Exa Z h a1 "com/example/heed/heed/Rect" ∧ Fld Z h a1 "com/example/heed/heed/Rect" "left" "I" (.int i0) ∧ Fld Z h a1 "com/example/heed/heed/Rect" "top" "I" (.int i1) ∧ Fld Z h a1 "com/example/heed/heed/Rect" "right" "I" (.int i2) ∧ Fld Z h a1 "com/example/heed/heed/Rect" "bottom" "I" (.int i3)
set_option maxRecDepth 65536 in
set_option maxHeartbeats 40000000 in
theorem own_b1 (l : Launch) (Z : State) (a0 : Array Value) (hw : ∀ d ∈ tables_1, d.before a0 Z = true) (ws : List Jvm.Cond) (a1 : Addr) (i0 : Int32) (i1 : Int32) (i2 : Int32) (i3 : Int32) (u0 : Value) (u1 : Value) (u2 : Value) (u3 : Value) (h0 : Heap) (n0 : Nat) (Z0 : n0 ≤ h0.size) (E_a1 : Exa Z h0 a1 "com/example/heed/heed/Rect") (g_a1 : n0 ≤ a1) (F_left_a1 : Fld Z h0 a1 "com/example/heed/heed/Rect" "left" "I" u0) (F_top_a1 : Fld Z h0 a1 "com/example/heed/heed/Rect" "top" "I" u1) (F_right_a1 : Fld Z h0 a1 "com/example/heed/heed/Rect" "right" "I" u2) (F_bottom_a1 : Fld Z h0 a1 "com/example/heed/heed/Rect" "bottom" "I" u3) :
    MetFree l (⟨"com/example/heed/heed/Rect", "<init>", "(IIII)V"⟩ : MethodName) (head1 (Jvm.Cond.code (⟨"com/example/heed/heed/Rect", "<init>", "(IIII)V"⟩ : MethodName) prog_50_method_1_code 5 none :: ws) ({ frames := 1, cells := 0, slots := 0, locals := 12 } : Room)) (fun aa U => aa = #[(.ref a1), (.int i0), (.int i1), (.int i2), (.int i3)] ∧ Z.Warmed39 U.vm ∧ U.heap = h0) (fun _ _ _ _ _ => True) (fun _ U o U' => ∃ v L, o = .returned v ∧ own_b1_Q Z a1 i0 i1 i2 i3 u0 u1 u2 u3 h0 n0 v U'.heap L ∧ FrameEnd U o U' L ({ frames := 1, cells := 0, slots := 0, locals := 12 } : Room).cells ({ frames := 1, cells := 0, slots := 0, locals := 12 } : Room).slots) := by
  refine MetFree.of_bodySF (plainFor_of_name own_pn2) hisR ?_
  have w1 := hw _ (List.mem_of_getElem? (i := 1) rfl)
  have w6 := hw _ (List.mem_of_getElem? (i := 6) rfl)
  have w7 := hw _ (List.mem_of_getElem? (i := 7) rfl)
  have w8 := hw _ (List.mem_of_getElem? (i := 8) rfl)
  have w9 := hw _ (List.mem_of_getElem? (i := 9) rfl)
  have w10 := hw _ (List.mem_of_getElem? (i := 10) rfl)
  have w11 := hw _ (List.mem_of_getElem? (i := 11) rfl)
  have w12 := hw _ (List.mem_of_getElem? (i := 12) rfl)
  have w13 := hw _ (List.mem_of_getElem? (i := 13) rfl)
  have w14 := hw _ (List.mem_of_getElem? (i := 14) rfl)
  have w15 := hw _ (List.mem_of_getElem? (i := 15) rfl)
  have w16 := hw _ (List.mem_of_getElem? (i := 16) rfl)
  intro p e s m args below meth c s₁ Bd hml0 hP hK
  obtain ⟨rfl, hZ, hh⟩ := hP
  have hx := Bd.exec
  have hby := Bd.bytes
  have hlk := Bd.notSynchronized
  have hml : c.maxLocals = 5 := hml0
  have hown : s.vm.findClass "com/example/heed/heed/Rect" = some m.cls := findClass_of_methodNamed Bd.named
  have hnm := (name_of_methodNamed Bd.named Bd.method).1
  have X0 : Stand p l e ({ frames := 1, cells := 0, slots := 0, locals := 12 } : Room) s m #[(.ref a1), (.int i0), (.int i1), (.int i2), (.int i3)] below meth c s₁ [] 0 0 := Stand.of_body Bd
  have e0 : s₁.heap = h0 := by rw [← hh, Bd.state]; rfl
  have N0 := Fr.nil n0
  have K0 : Keep h0 h0 [a1] := Keep.refl h0 _
  show own_Goes p e below (own_Fin s (own_b1_Q Z a1 i0 i1 i2 i3 u0 u1 u2 u3 h0 n0) ({ frames := 1, cells := 0, slots := 0, locals := 12 } : Room).cells ({ frames := 1, cells := 0, slots := 0, locals := 12 } : Room).slots) _
  refine own_step (fun t k => castTop (own_b1_ef m a1 i0 i1 i2 i3) k) ?_
  show own_Goes p e below _ (s₁.setTop (mkF m 0 #[.val (.ref a1), .val (.int i0), .val (.int i1), .val (.int i2), .val (.int i3)] []))
  refine own_step (fun t k => XS.aloadN X0.here hx rfl (hb hby own_dprog_50_method_1_code_0) rfl rfl k) ?_
  show own_Goes p e below _ (s₁.setTop (mkF m 1 #[.val (.ref a1), .val (.int i0), .val (.int i1), .val (.int i2), .val (.int i3)] [(.ref a1)]))
  obtain ⟨T42, X42, e42, st42⟩ := initO X0 hx hZ hown w6 w7 w8 e0 (g := (mkF m 1 #[.val (.ref a1), .val (.int i0), .val (.int i1), .val (.int i2), .val (.int i3)] [(.ref a1)])) rfl (by rw [hml]; rfl) rfl (hb hby own_dprog_50_method_1_code_1) (by decide) (W := 0) (by show 2 * 0 + _ ≤ _; exact Nat.le_of_eq rfl) (by decide)
  refine own_step st42 ?_
  show own_Goes p e below _ (T42.setTop (mkF m 4 #[.val (.ref a1), .val (.int i0), .val (.int i1), .val (.int i2), .val (.int i3)] []))
  refine own_step (fun t k => XS.aloadN X42.here hx rfl (hb hby own_dprog_50_method_1_code_4) rfl rfl k) ?_
  show own_Goes p e below _ (T42.setTop (mkF m 5 #[.val (.ref a1), .val (.int i0), .val (.int i1), .val (.int i2), .val (.int i3)] [(.ref a1)]))
  refine own_step (fun t k => XS.iloadN X42.here hx rfl (hb hby own_dprog_50_method_1_code_5) rfl k) ?_
  show own_Goes p e below _ (T42.setTop (mkF m 6 #[.val (.ref a1), .val (.int i0), .val (.int i1), .val (.int i2), .val (.int i3)] [(.int i0), (.ref a1)]))
  obtain ⟨T43, h43, X43, e43, W43, st43⟩ := putF X42 hx hZ hown (host := "") (Or.inl w9) Via.refl e42 F_left_a1 E_a1 (Or.inr ⟨w10, rfl, hnm⟩) w1 (ty := .int) (by decide) rfl rfl (g := (mkF m 6 #[.val (.ref a1), .val (.int i0), .val (.int i1), .val (.int i2), .val (.int i3)] [(.int i0), (.ref a1)])) rfl rfl (hb hby own_dprog_50_method_1_code_6)
  have Fw43 := F_left_a1.same W43
  have N43 := Fr.snoc X43 N0 g_a1
  have K44 : Keep h0 h43 [a1] := K0.wr W43 (Or.inl (List.mem_of_getElem? (i := 0) rfl))
  refine own_step st43 ?_
  show own_Goes p e below _ (T43.setTop (mkF m 9 #[.val (.ref a1), .val (.int i0), .val (.int i1), .val (.int i2), .val (.int i3)] []))
  refine own_step (fun t k => XS.aloadN X43.here hx rfl (hb hby own_dprog_50_method_1_code_9) rfl rfl k) ?_
  show own_Goes p e below _ (T43.setTop (mkF m 10 #[.val (.ref a1), .val (.int i0), .val (.int i1), .val (.int i2), .val (.int i3)] [(.ref a1)]))
  refine own_step (fun t k => XS.iloadN X43.here hx rfl (hb hby own_dprog_50_method_1_code_10) rfl k) ?_
  show own_Goes p e below _ (T43.setTop (mkF m 11 #[.val (.ref a1), .val (.int i0), .val (.int i1), .val (.int i2), .val (.int i3)] [(.int i1), (.ref a1)]))
  obtain ⟨T45, h45, X45, e45, W45, st45⟩ := putF X43 hx hZ hown (host := "") (Or.inl w11) Via.refl e43 (F_top_a1.other W43 (Or.inr (slot_ne (Or.inr w12) (Or.inr w10) (by decide) (t := .int) (t' := .int) (by decide) (by decide)))) (E_a1.wr W43) (Or.inr ⟨w12, rfl, hnm⟩) w1 (ty := .int) (by decide) rfl rfl (g := (mkF m 11 #[.val (.ref a1), .val (.int i0), .val (.int i1), .val (.int i2), .val (.int i3)] [(.int i1), (.ref a1)])) rfl rfl (hb hby own_dprog_50_method_1_code_11)
  have Fw45 := (F_top_a1.other W43 (Or.inr (slot_ne (Or.inr w12) (Or.inr w10) (by decide) (t := .int) (t' := .int) (by decide) (by decide)))).same W45
  have N45 := Fr.snoc X45 N43 g_a1
  have K46 : Keep h0 h45 [a1] := K44.wr W45 (Or.inl (List.mem_of_getElem? (i := 0) rfl))
  refine own_step st45 ?_
  show own_Goes p e below _ (T45.setTop (mkF m 14 #[.val (.ref a1), .val (.int i0), .val (.int i1), .val (.int i2), .val (.int i3)] []))
  refine own_step (fun t k => XS.aloadN X45.here hx rfl (hb hby own_dprog_50_method_1_code_14) rfl rfl k) ?_
  show own_Goes p e below _ (T45.setTop (mkF m 15 #[.val (.ref a1), .val (.int i0), .val (.int i1), .val (.int i2), .val (.int i3)] [(.ref a1)]))
  refine own_step (fun t k => XS.iloadN X45.here hx rfl (hb hby own_dprog_50_method_1_code_15) rfl k) ?_
  show own_Goes p e below _ (T45.setTop (mkF m 16 #[.val (.ref a1), .val (.int i0), .val (.int i1), .val (.int i2), .val (.int i3)] [(.int i2), (.ref a1)]))
  obtain ⟨T47, h47, X47, e47, W47, st47⟩ := putF X45 hx hZ hown (host := "") (Or.inl w13) Via.refl e45 ((F_right_a1.other W43 (Or.inr (slot_ne (Or.inr w14) (Or.inr w10) (by decide) (t := .int) (t' := .int) (by decide) (by decide)))).other W45 (Or.inr (slot_ne (Or.inr w14) (Or.inr w12) (by decide) (t := .int) (t' := .int) (by decide) (by decide)))) ((E_a1.wr W43).wr W45) (Or.inr ⟨w14, rfl, hnm⟩) w1 (ty := .int) (by decide) rfl rfl (g := (mkF m 16 #[.val (.ref a1), .val (.int i0), .val (.int i1), .val (.int i2), .val (.int i3)] [(.int i2), (.ref a1)])) rfl rfl (hb hby own_dprog_50_method_1_code_16)
  have Fw47 := ((F_right_a1.other W43 (Or.inr (slot_ne (Or.inr w14) (Or.inr w10) (by decide) (t := .int) (t' := .int) (by decide) (by decide)))).other W45 (Or.inr (slot_ne (Or.inr w14) (Or.inr w12) (by decide) (t := .int) (t' := .int) (by decide) (by decide)))).same W47
  have N47 := Fr.snoc X47 N45 g_a1
  have K48 : Keep h0 h47 [a1] := K46.wr W47 (Or.inl (List.mem_of_getElem? (i := 0) rfl))
  refine own_step st47 ?_
  show own_Goes p e below _ (T47.setTop (mkF m 19 #[.val (.ref a1), .val (.int i0), .val (.int i1), .val (.int i2), .val (.int i3)] []))
  refine own_step (fun t k => XS.aloadN X47.here hx rfl (hb hby own_dprog_50_method_1_code_19) rfl rfl k) ?_
  show own_Goes p e below _ (T47.setTop (mkF m 20 #[.val (.ref a1), .val (.int i0), .val (.int i1), .val (.int i2), .val (.int i3)] [(.ref a1)]))
  refine own_step (fun t k => XS.iload X47.here hx rfl (hb hby own_dprog_50_method_1_code_20) rfl k) ?_
  show own_Goes p e below _ (T47.setTop (mkF m 22 #[.val (.ref a1), .val (.int i0), .val (.int i1), .val (.int i2), .val (.int i3)] [(.int i3), (.ref a1)]))
  obtain ⟨T49, h49, X49, e49, W49, st49⟩ := putF X47 hx hZ hown (host := "") (Or.inl w15) Via.refl e47 (((F_bottom_a1.other W43 (Or.inr (slot_ne (Or.inr w16) (Or.inr w10) (by decide) (t := .int) (t' := .int) (by decide) (by decide)))).other W45 (Or.inr (slot_ne (Or.inr w16) (Or.inr w12) (by decide) (t := .int) (t' := .int) (by decide) (by decide)))).other W47 (Or.inr (slot_ne (Or.inr w16) (Or.inr w14) (by decide) (t := .int) (t' := .int) (by decide) (by decide)))) (((E_a1.wr W43).wr W45).wr W47) (Or.inr ⟨w16, rfl, hnm⟩) w1 (ty := .int) (by decide) rfl rfl (g := (mkF m 22 #[.val (.ref a1), .val (.int i0), .val (.int i1), .val (.int i2), .val (.int i3)] [(.int i3), (.ref a1)])) rfl rfl (hb hby own_dprog_50_method_1_code_22)
  have Fw49 := (((F_bottom_a1.other W43 (Or.inr (slot_ne (Or.inr w16) (Or.inr w10) (by decide) (t := .int) (t' := .int) (by decide) (by decide)))).other W45 (Or.inr (slot_ne (Or.inr w16) (Or.inr w12) (by decide) (t := .int) (t' := .int) (by decide) (by decide)))).other W47 (Or.inr (slot_ne (Or.inr w16) (Or.inr w14) (by decide) (t := .int) (t' := .int) (by decide) (by decide)))).same W49
  have N49 := Fr.snoc X49 N47 g_a1
  have K50 : Keep h0 h49 [a1] := K48.wr W49 (Or.inl (List.mem_of_getElem? (i := 0) rfl))
  refine own_step st49 ?_
  show own_Goes p e below _ (T49.setTop (mkF m 25 #[.val (.ref a1), .val (.int i0), .val (.int i1), .val (.int i2), .val (.int i3)] []))
  refine own_ret0 X49 hx hlk Bd.returns (hb hby own_dprog_50_method_1_code_25) ?_ (by decide) (by decide)
  show own_b1_Q Z a1 i0 i1 i2 i3 u0 u1 u2 u3 h0 n0 _ T49.heap _
  rw [e49]
  exact ⟨rfl, N49, K50, ((((E_a1.wr W43).wr W45).wr W47).wr W49), (((Fw43.other W45 (Or.inr (slot_ne (Or.inr w10) (Or.inr w12) (by decide) (t := .int) (t' := .int) (by decide) (by decide)))).other W47 (Or.inr (slot_ne (Or.inr w10) (Or.inr w14) (by decide) (t := .int) (t' := .int) (by decide) (by decide)))).other W49 (Or.inr (slot_ne (Or.inr w10) (Or.inr w16) (by decide) (t := .int) (t' := .int) (by decide) (by decide)))), ((Fw45.other W47 (Or.inr (slot_ne (Or.inr w12) (Or.inr w14) (by decide) (t := .int) (t' := .int) (by decide) (by decide)))).other W49 (Or.inr (slot_ne (Or.inr w12) (Or.inr w16) (by decide) (t := .int) (t' := .int) (by decide) (by decide)))), (Fw47.other W49 (Or.inr (slot_ne (Or.inr w14) (Or.inr w16) (by decide) (t := .int) (t' := .int) (by decide) (by decide)))), Fw49⟩
theorem own_dprog_50_method_9_code_0 : decode prog_50_method_9_code 0 = .ok (.aload_n 0, 1) := by decide +kernel
theorem own_dprog_50_method_9_code_1 : decode prog_50_method_9_code 1 = .ok (.aload_n 1, 1) := by decide +kernel
theorem own_dprog_50_method_9_code_2 : decode prog_50_method_9_code 2 = .ok (.if_acmp .ne 5, 3) := by decide +kernel
theorem own_dprog_50_method_9_code_5 : decode prog_50_method_9_code 5 = .ok (.iconst 1, 1) := by decide +kernel
theorem own_dprog_50_method_9_code_6 : decode prog_50_method_9_code 6 = .ok (.ireturn, 1) := by decide +kernel
theorem own_dprog_50_method_9_code_7 : decode prog_50_method_9_code 7 = .ok (.aload_n 1, 1) := by decide +kernel
theorem own_dprog_50_method_9_code_8 : decode prog_50_method_9_code 8 = .ok (.instanceof 8, 3) := by decide +kernel
theorem own_dprog_50_method_9_code_11 : decode prog_50_method_9_code 11 = .ok (.ifCond .eq 11, 3) := by decide +kernel
theorem own_dprog_50_method_9_code_14 : decode prog_50_method_9_code 14 = .ok (.aload_n 1, 1) := by decide +kernel
theorem own_dprog_50_method_9_code_15 : decode prog_50_method_9_code 15 = .ok (.checkcast 8, 3) := by decide +kernel
theorem own_dprog_50_method_9_code_18 : decode prog_50_method_9_code 18 = .ok (.astore_n 2, 1) := by decide +kernel
theorem own_dprog_50_method_9_code_19 : decode prog_50_method_9_code 19 = .ok (.goto 5, 3) := by decide +kernel
theorem own_dprog_50_method_9_code_24 : decode prog_50_method_9_code 24 = .ok (.aload_n 0, 1) := by decide +kernel
theorem own_dprog_50_method_9_code_25 : decode prog_50_method_9_code 25 = .ok (.getfield 7, 3) := by decide +kernel
theorem own_dprog_50_method_9_code_28 : decode prog_50_method_9_code 28 = .ok (.aload_n 2, 1) := by decide +kernel
theorem own_dprog_50_method_9_code_29 : decode prog_50_method_9_code 29 = .ok (.getfield 7, 3) := by decide +kernel
theorem own_dprog_50_method_9_code_32 : decode prog_50_method_9_code 32 = .ok (.if_icmp .ne 40, 3) := by decide +kernel
theorem own_dprog_50_method_9_code_35 : decode prog_50_method_9_code 35 = .ok (.aload_n 0, 1) := by decide +kernel
theorem own_dprog_50_method_9_code_36 : decode prog_50_method_9_code 36 = .ok (.getfield 13, 3) := by decide +kernel
theorem own_dprog_50_method_9_code_39 : decode prog_50_method_9_code 39 = .ok (.aload_n 2, 1) := by decide +kernel
theorem own_dprog_50_method_9_code_40 : decode prog_50_method_9_code 40 = .ok (.getfield 13, 3) := by decide +kernel
theorem own_dprog_50_method_9_code_43 : decode prog_50_method_9_code 43 = .ok (.if_icmp .ne 29, 3) := by decide +kernel
theorem own_dprog_50_method_9_code_46 : decode prog_50_method_9_code 46 = .ok (.aload_n 0, 1) := by decide +kernel
theorem own_dprog_50_method_9_code_47 : decode prog_50_method_9_code 47 = .ok (.getfield 16, 3) := by decide +kernel
theorem own_dprog_50_method_9_code_50 : decode prog_50_method_9_code 50 = .ok (.aload_n 2, 1) := by decide +kernel
theorem own_dprog_50_method_9_code_51 : decode prog_50_method_9_code 51 = .ok (.getfield 16, 3) := by decide +kernel
theorem own_dprog_50_method_9_code_54 : decode prog_50_method_9_code 54 = .ok (.if_icmp .ne 18, 3) := by decide +kernel
theorem own_dprog_50_method_9_code_57 : decode prog_50_method_9_code 57 = .ok (.aload_n 0, 1) := by decide +kernel
theorem own_dprog_50_method_9_code_58 : decode prog_50_method_9_code 58 = .ok (.getfield 19, 3) := by decide +kernel
theorem own_dprog_50_method_9_code_61 : decode prog_50_method_9_code 61 = .ok (.aload_n 2, 1) := by decide +kernel
theorem own_dprog_50_method_9_code_62 : decode prog_50_method_9_code 62 = .ok (.getfield 19, 3) := by decide +kernel
theorem own_dprog_50_method_9_code_65 : decode prog_50_method_9_code 65 = .ok (.if_icmp .ne 7, 3) := by decide +kernel
theorem own_dprog_50_method_9_code_68 : decode prog_50_method_9_code 68 = .ok (.iconst 1, 1) := by decide +kernel
theorem own_dprog_50_method_9_code_69 : decode prog_50_method_9_code 69 = .ok (.goto 4, 3) := by decide +kernel
theorem own_dprog_50_method_9_code_72 : decode prog_50_method_9_code 72 = .ok (.iconst 0, 1) := by decide +kernel
theorem own_dprog_50_method_9_code_73 : decode prog_50_method_9_code 73 = .ok (.ireturn, 1) := by decide +kernel
theorem own_e1_ef (m : MethodId) (a1 : Addr) (o1 : Addr) : entryFrame m #[(.ref a1), (.ref o1)] 3 = mkF m 0 #[.val (.ref a1), .val (.ref o1), .unset] [] := by first | (simp [entryFrame, mkF, argsToLocals, Value.category]; done) | rfl
def own_e1_Q (Z : State) (a1 : Addr) (o1 : Addr) (x0 : Int32) (x1 : Int32) (x2 : Int32) (x3 : Int32) (y0 : Int32) (y1 : Int32) (y2 : Int32) (y3 : Int32) (h0 : Heap) (n0 : Nat) (v : Option Value) (h : Heap) (L : List Loc) : Prop := v = some (.int (if a1 = o1 then (1 : Int32) else (if x0 = y0 then (if x1 = y1 then (if x2 = y2 then (if x3 = y3 then (1 : Int32) else (0 : Int32)) else (0 : Int32)) else (0 : Int32)) else (0 : Int32)))) ∧ Fr n0 L ∧ h = h0
set_option maxRecDepth 65536 in
set_option maxHeartbeats 40000000 in
theorem own_e1 (l : Launch) (Z : State) (a0 : Array Value) (hw : ∀ d ∈ tables_1, d.before a0 Z = true) (ws : List Jvm.Cond) (a1 : Addr) (o1 : Addr) (x0 : Int32) (x1 : Int32) (x2 : Int32) (x3 : Int32) (y0 : Int32) (y1 : Int32) (y2 : Int32) (y3 : Int32) (h0 : Heap) (n0 : Nat) (Z0 : n0 ≤ h0.size) (E_o1 : Exa Z h0 o1 "com/example/heed/heed/Rect") (F_left_a1 : Fld Z h0 a1 "com/example/heed/heed/Rect" "left" "I" (.int x0)) (F_top_a1 : Fld Z h0 a1 "com/example/heed/heed/Rect" "top" "I" (.int x1)) (F_right_a1 : Fld Z h0 a1 "com/example/heed/heed/Rect" "right" "I" (.int x2)) (F_bottom_a1 : Fld Z h0 a1 "com/example/heed/heed/Rect" "bottom" "I" (.int x3)) (F_left_o1 : Fld Z h0 o1 "com/example/heed/heed/Rect" "left" "I" (.int y0)) (F_top_o1 : Fld Z h0 o1 "com/example/heed/heed/Rect" "top" "I" (.int y1)) (F_right_o1 : Fld Z h0 o1 "com/example/heed/heed/Rect" "right" "I" (.int y2)) (F_bottom_o1 : Fld Z h0 o1 "com/example/heed/heed/Rect" "bottom" "I" (.int y3)) :
    MetFree l (⟨"com/example/heed/heed/Rect", "equals", "(Ljava/lang/Object;)Z"⟩ : MethodName) (head1 (Jvm.Cond.code (⟨"com/example/heed/heed/Rect", "equals", "(Ljava/lang/Object;)Z"⟩ : MethodName) prog_50_method_9_code 3 (some .boolean) :: ws) ({ frames := 0, cells := 0, slots := 0, locals := 0 } : Room)) (fun aa U => aa = #[(.ref a1), (.ref o1)] ∧ Z.Warmed39 U.vm ∧ U.heap = h0) (fun _ _ _ _ _ => True) (fun _ U o U' => ∃ v L, o = .returned v ∧ own_e1_Q Z a1 o1 x0 x1 x2 x3 y0 y1 y2 y3 h0 n0 v U'.heap L ∧ FrameEnd U o U' L ({ frames := 0, cells := 0, slots := 0, locals := 0 } : Room).cells ({ frames := 0, cells := 0, slots := 0, locals := 0 } : Room).slots) := by
  refine MetFree.of_bodySF (plainFor_of_name own_pn2) hisR ?_
  have w9 := hw _ (List.mem_of_getElem? (i := 9) rfl)
  have w11 := hw _ (List.mem_of_getElem? (i := 11) rfl)
  have w13 := hw _ (List.mem_of_getElem? (i := 13) rfl)
  have w15 := hw _ (List.mem_of_getElem? (i := 15) rfl)
  have w29 := hw _ (List.mem_of_getElem? (i := 29) rfl)
  intro p e s m args below meth c s₁ Bd hml0 hP hK
  obtain ⟨rfl, hZ, hh⟩ := hP
  have hx := Bd.exec
  have hby := Bd.bytes
  have hlk := Bd.notSynchronized
  have hml : c.maxLocals = 3 := hml0
  have hown : s.vm.findClass "com/example/heed/heed/Rect" = some m.cls := findClass_of_methodNamed Bd.named
  have hnm := (name_of_methodNamed Bd.named Bd.method).1
  have X0 : Stand p l e ({ frames := 0, cells := 0, slots := 0, locals := 0 } : Room) s m #[(.ref a1), (.ref o1)] below meth c s₁ [] 0 0 := Stand.of_body Bd
  have e0 : s₁.heap = h0 := by rw [← hh, Bd.state]; rfl
  have N0 := Fr.nil n0
  have K0 : Keep h0 h0 [] := Keep.refl h0 _
  show own_Goes p e below (own_Fin s (own_e1_Q Z a1 o1 x0 x1 x2 x3 y0 y1 y2 y3 h0 n0) ({ frames := 0, cells := 0, slots := 0, locals := 0 } : Room).cells ({ frames := 0, cells := 0, slots := 0, locals := 0 } : Room).slots) _
  refine own_step (fun t k => castTop (own_e1_ef m a1 o1) k) ?_
  show own_Goes p e below _ (s₁.setTop (mkF m 0 #[.val (.ref a1), .val (.ref o1), .unset] []))
  refine own_step (fun t k => XS.aloadN X0.here hx rfl (hb hby own_dprog_50_method_9_code_0) rfl rfl k) ?_
  show own_Goes p e below _ (s₁.setTop (mkF m 1 #[.val (.ref a1), .val (.ref o1), .unset] [(.ref a1)]))
  refine own_step (fun t k => XS.aloadN X0.here hx rfl (hb hby own_dprog_50_method_9_code_1) rfl rfl k) ?_
  show own_Goes p e below _ (s₁.setTop (mkF m 2 #[.val (.ref a1), .val (.ref o1), .unset] [(.ref o1), (.ref a1)]))
  by_cases ha67 : a1 = o1
  · --
    refine own_step (fun t k => Jvm.RoadKit.acmp (g := (mkF m 2 #[.val (.ref a1), .val (.ref o1), .unset] [(.ref o1), (.ref a1)])) X0 hx rfl rfl rfl (pc0 := 2) (pc' := 5) (same := true) rfl (hb hby own_dprog_50_method_9_code_2) rfl (decide_eq_true (congrArg Value.ref ha67)) (by decide) (by decide) k) ?_
    show own_Goes p e below _ (s₁.setTop (mkF m 5 #[.val (.ref a1), .val (.ref o1), .unset] []))
    refine own_step (fun t k => XS.iconst X0.here hx rfl (hb hby own_dprog_50_method_9_code_5) k) ?_
    show own_Goes p e below _ (s₁.setTop (mkF m 6 #[.val (.ref a1), .val (.ref o1), .unset] [(.int (1 : Int32))]))
    refine own_retV X0 hx hlk Bd.returns (w := (.int (1 : Int32))) (own_nb (Or.inr rfl)) (Or.inl ⟨rfl, Or.inr (Or.inl rfl), _, rfl⟩) (hb hby own_dprog_50_method_9_code_6) ?_ (by decide) (by decide)
    show own_e1_Q Z a1 o1 x0 x1 x2 x3 y0 y1 y2 y3 h0 n0 _ s₁.heap _
    rw [e0]
    exact ⟨(by simp only [if_pos ha67]), N0, rfl⟩
  · --
    refine own_step (fun t k => Jvm.RoadKit.acmp (g := (mkF m 2 #[.val (.ref a1), .val (.ref o1), .unset] [(.ref o1), (.ref a1)])) X0 hx rfl rfl rfl (pc0 := 2) (pc' := 7) (same := false) rfl (hb hby own_dprog_50_method_9_code_2) rfl (decide_eq_false fun zq => ha67 (Value.ref.inj zq)) (by decide) (by decide) k) ?_
    show own_Goes p e below _ (s₁.setTop (mkF m 7 #[.val (.ref a1), .val (.ref o1), .unset] []))
    refine own_step (fun t k => XS.aloadN X0.here hx rfl (hb hby own_dprog_50_method_9_code_7) rfl rfl k) ?_
    show own_Goes p e below _ (s₁.setTop (mkF m 8 #[.val (.ref a1), .val (.ref o1), .unset] [(.ref o1)]))
    obtain ⟨T68, X68, e68, st68⟩ := instY X0 hx hZ hown w29 e0 (Ins.self E_o1) (g := (mkF m 8 #[.val (.ref a1), .val (.ref o1), .unset] [(.ref o1)])) rfl rfl (hb hby own_dprog_50_method_9_code_8)
    refine own_step st68 ?_
    show own_Goes p e below _ (T68.setTop (mkF m 11 #[.val (.ref a1), .val (.ref o1), .unset] [(.int (1 : Int32))]))
    have hc69 : ¬ ((1 : Int32) = (0 : Int32)) := by decide
    refine own_step (fun t k => XS.ifNo X68.here hx rfl (hb hby own_dprog_50_method_9_code_11) rfl ((if0 _ _).trans (feq hc69).1) k) ?_
    show own_Goes p e below _ (T68.setTop (mkF m 14 #[.val (.ref a1), .val (.ref o1), .unset] []))
    refine own_step (fun t k => XS.aloadN X68.here hx rfl (hb hby own_dprog_50_method_9_code_14) rfl rfl k) ?_
    show own_Goes p e below _ (T68.setTop (mkF m 15 #[.val (.ref a1), .val (.ref o1), .unset] [(.ref o1)]))
    obtain ⟨T70, X70, e70, st70⟩ := castY X68 hx hZ hown w29 e68 (Ins.self E_o1) (g := (mkF m 15 #[.val (.ref a1), .val (.ref o1), .unset] [(.ref o1)])) rfl rfl (hb hby own_dprog_50_method_9_code_15)
    refine own_step st70 ?_
    show own_Goes p e below _ (T70.setTop (mkF m 18 #[.val (.ref a1), .val (.ref o1), .unset] [(.ref o1)]))
    refine own_step (fun t k => XS.astoreN X70.here hx rfl (hb hby own_dprog_50_method_9_code_18) rfl rfl (l' := #[.val (.ref a1), .val (.ref o1), .val (.ref o1)]) rfl k) ?_
    show own_Goes p e below _ (T70.setTop (mkF m 19 #[.val (.ref a1), .val (.ref o1), .val (.ref o1)] []))
    refine own_step (fun t k => XS.goto X70.here hx rfl (pc0 := 19) (pc' := 24) rfl (hb hby own_dprog_50_method_9_code_19) (by decide) (by decide) k) ?_
    show own_Goes p e below _ (T70.setTop (mkF m 24 #[.val (.ref a1), .val (.ref o1), .val (.ref o1)] []))
    refine own_step (fun t k => XS.aloadN X70.here hx rfl (hb hby own_dprog_50_method_9_code_24) rfl rfl k) ?_
    show own_Goes p e below _ (T70.setTop (mkF m 25 #[.val (.ref a1), .val (.ref o1), .val (.ref o1)] [(.ref a1)]))
    obtain ⟨T71, X71, e71, st71⟩ := getF X70 hx hZ hown (host := "") (Or.inl w9) Via.refl e70 F_left_a1 (g := (mkF m 25 #[.val (.ref a1), .val (.ref o1), .val (.ref o1)] [(.ref a1)])) rfl rfl (hb hby own_dprog_50_method_9_code_25)
    refine own_step st71 ?_
    show own_Goes p e below _ (T71.setTop (mkF m 28 #[.val (.ref a1), .val (.ref o1), .val (.ref o1)] [(.int x0)]))
    refine own_step (fun t k => XS.aloadN X71.here hx rfl (hb hby own_dprog_50_method_9_code_28) rfl rfl k) ?_
    show own_Goes p e below _ (T71.setTop (mkF m 29 #[.val (.ref a1), .val (.ref o1), .val (.ref o1)] [(.ref o1), (.int x0)]))
    obtain ⟨T72, X72, e72, st72⟩ := getF X71 hx hZ hown (host := "") (Or.inl w9) Via.refl e71 F_left_o1 (g := (mkF m 29 #[.val (.ref a1), .val (.ref o1), .val (.ref o1)] [(.ref o1), (.int x0)])) rfl rfl (hb hby own_dprog_50_method_9_code_29)
    refine own_step st72 ?_
    show own_Goes p e below _ (T72.setTop (mkF m 32 #[.val (.ref a1), .val (.ref o1), .val (.ref o1)] [(.int y0), (.int x0)]))
    by_cases hc73 : x0 = y0
    · --
      refine own_step (fun t k => XS.icmpNo X72.here hx rfl (hb hby own_dprog_50_method_9_code_32) rfl (teq hc73).2 k) ?_
      show own_Goes p e below _ (T72.setTop (mkF m 35 #[.val (.ref a1), .val (.ref o1), .val (.ref o1)] []))
      refine own_step (fun t k => XS.aloadN X72.here hx rfl (hb hby own_dprog_50_method_9_code_35) rfl rfl k) ?_
      show own_Goes p e below _ (T72.setTop (mkF m 36 #[.val (.ref a1), .val (.ref o1), .val (.ref o1)] [(.ref a1)]))
      obtain ⟨T74, X74, e74, st74⟩ := getF X72 hx hZ hown (host := "") (Or.inl w11) Via.refl e72 F_top_a1 (g := (mkF m 36 #[.val (.ref a1), .val (.ref o1), .val (.ref o1)] [(.ref a1)])) rfl rfl (hb hby own_dprog_50_method_9_code_36)
      refine own_step st74 ?_
      show own_Goes p e below _ (T74.setTop (mkF m 39 #[.val (.ref a1), .val (.ref o1), .val (.ref o1)] [(.int x1)]))
      refine own_step (fun t k => XS.aloadN X74.here hx rfl (hb hby own_dprog_50_method_9_code_39) rfl rfl k) ?_
      show own_Goes p e below _ (T74.setTop (mkF m 40 #[.val (.ref a1), .val (.ref o1), .val (.ref o1)] [(.ref o1), (.int x1)]))
      obtain ⟨T75, X75, e75, st75⟩ := getF X74 hx hZ hown (host := "") (Or.inl w11) Via.refl e74 F_top_o1 (g := (mkF m 40 #[.val (.ref a1), .val (.ref o1), .val (.ref o1)] [(.ref o1), (.int x1)])) rfl rfl (hb hby own_dprog_50_method_9_code_40)
      refine own_step st75 ?_
      show own_Goes p e below _ (T75.setTop (mkF m 43 #[.val (.ref a1), .val (.ref o1), .val (.ref o1)] [(.int y1), (.int x1)]))
      by_cases hc76 : x1 = y1
      · --
        refine own_step (fun t k => XS.icmpNo X75.here hx rfl (hb hby own_dprog_50_method_9_code_43) rfl (teq hc76).2 k) ?_
        show own_Goes p e below _ (T75.setTop (mkF m 46 #[.val (.ref a1), .val (.ref o1), .val (.ref o1)] []))
        refine own_step (fun t k => XS.aloadN X75.here hx rfl (hb hby own_dprog_50_method_9_code_46) rfl rfl k) ?_
        show own_Goes p e below _ (T75.setTop (mkF m 47 #[.val (.ref a1), .val (.ref o1), .val (.ref o1)] [(.ref a1)]))
        obtain ⟨T77, X77, e77, st77⟩ := getF X75 hx hZ hown (host := "") (Or.inl w13) Via.refl e75 F_right_a1 (g := (mkF m 47 #[.val (.ref a1), .val (.ref o1), .val (.ref o1)] [(.ref a1)])) rfl rfl (hb hby own_dprog_50_method_9_code_47)
        refine own_step st77 ?_
        show own_Goes p e below _ (T77.setTop (mkF m 50 #[.val (.ref a1), .val (.ref o1), .val (.ref o1)] [(.int x2)]))
        refine own_step (fun t k => XS.aloadN X77.here hx rfl (hb hby own_dprog_50_method_9_code_50) rfl rfl k) ?_
        show own_Goes p e below _ (T77.setTop (mkF m 51 #[.val (.ref a1), .val (.ref o1), .val (.ref o1)] [(.ref o1), (.int x2)]))
        obtain ⟨T78, X78, e78, st78⟩ := getF X77 hx hZ hown (host := "") (Or.inl w13) Via.refl e77 F_right_o1 (g := (mkF m 51 #[.val (.ref a1), .val (.ref o1), .val (.ref o1)] [(.ref o1), (.int x2)])) rfl rfl (hb hby own_dprog_50_method_9_code_51)
        refine own_step st78 ?_
        show own_Goes p e below _ (T78.setTop (mkF m 54 #[.val (.ref a1), .val (.ref o1), .val (.ref o1)] [(.int y2), (.int x2)]))
        by_cases hc79 : x2 = y2
        · --
          refine own_step (fun t k => XS.icmpNo X78.here hx rfl (hb hby own_dprog_50_method_9_code_54) rfl (teq hc79).2 k) ?_
          show own_Goes p e below _ (T78.setTop (mkF m 57 #[.val (.ref a1), .val (.ref o1), .val (.ref o1)] []))
          refine own_step (fun t k => XS.aloadN X78.here hx rfl (hb hby own_dprog_50_method_9_code_57) rfl rfl k) ?_
          show own_Goes p e below _ (T78.setTop (mkF m 58 #[.val (.ref a1), .val (.ref o1), .val (.ref o1)] [(.ref a1)]))
          obtain ⟨T80, X80, e80, st80⟩ := getF X78 hx hZ hown (host := "") (Or.inl w15) Via.refl e78 F_bottom_a1 (g := (mkF m 58 #[.val (.ref a1), .val (.ref o1), .val (.ref o1)] [(.ref a1)])) rfl rfl (hb hby own_dprog_50_method_9_code_58)
          refine own_step st80 ?_
          show own_Goes p e below _ (T80.setTop (mkF m 61 #[.val (.ref a1), .val (.ref o1), .val (.ref o1)] [(.int x3)]))
          refine own_step (fun t k => XS.aloadN X80.here hx rfl (hb hby own_dprog_50_method_9_code_61) rfl rfl k) ?_
          show own_Goes p e below _ (T80.setTop (mkF m 62 #[.val (.ref a1), .val (.ref o1), .val (.ref o1)] [(.ref o1), (.int x3)]))
          obtain ⟨T81, X81, e81, st81⟩ := getF X80 hx hZ hown (host := "") (Or.inl w15) Via.refl e80 F_bottom_o1 (g := (mkF m 62 #[.val (.ref a1), .val (.ref o1), .val (.ref o1)] [(.ref o1), (.int x3)])) rfl rfl (hb hby own_dprog_50_method_9_code_62)
          refine own_step st81 ?_
          show own_Goes p e below _ (T81.setTop (mkF m 65 #[.val (.ref a1), .val (.ref o1), .val (.ref o1)] [(.int y3), (.int x3)]))
          refine own_step (S' := T81.setTop (mkF m 73 #[.val (.ref a1), .val (.ref o1), .val (.ref o1)] [(.int (if x3 = y3 then (1 : Int32) else (0 : Int32)))])) (fun t k => ?_) ?_
          · show Steps p.tables e below (T81.setTop (mkF m 65 #[.val (.ref a1), .val (.ref o1), .val (.ref o1)] [(.int y3), (.int x3)])) _
            by_cases hc82 : x3 = y3
            · --
              refine XS.icmpNo X81.here hx rfl (hb hby own_dprog_50_method_9_code_65) rfl (teq hc82).2 ?_
              show Steps p.tables e below (T81.setTop (mkF m 68 #[.val (.ref a1), .val (.ref o1), .val (.ref o1)] [])) _
              refine XS.iconst X81.here hx rfl (hb hby own_dprog_50_method_9_code_68) ?_
              show Steps p.tables e below (T81.setTop (mkF m 69 #[.val (.ref a1), .val (.ref o1), .val (.ref o1)] [(.int (1 : Int32))])) _
              refine XS.goto X81.here hx rfl (pc0 := 69) (pc' := 73) rfl (hb hby own_dprog_50_method_9_code_69) (by decide) (by decide) ?_
              show Steps p.tables e below (T81.setTop (mkF m 73 #[.val (.ref a1), .val (.ref o1), .val (.ref o1)] [(.int (1 : Int32))])) _
              simp only [if_pos hc82] at k
              exact k
            · --
              refine XS.icmpYes X81.here hx rfl (pc0 := 65) (pc' := 72) rfl (hb hby own_dprog_50_method_9_code_65) rfl (feq hc82).2 (by decide) (by decide) ?_
              show Steps p.tables e below (T81.setTop (mkF m 72 #[.val (.ref a1), .val (.ref o1), .val (.ref o1)] [])) _
              refine XS.iconst X81.here hx rfl (hb hby own_dprog_50_method_9_code_72) ?_
              show Steps p.tables e below (T81.setTop (mkF m 73 #[.val (.ref a1), .val (.ref o1), .val (.ref o1)] [(.int (0 : Int32))])) _
              simp only [if_neg hc82] at k
              exact k
          show own_Goes p e below _ (T81.setTop (mkF m 73 #[.val (.ref a1), .val (.ref o1), .val (.ref o1)] [(.int (if x3 = y3 then (1 : Int32) else (0 : Int32)))]))
          refine own_retV X81 hx hlk Bd.returns (w := (.int (if x3 = y3 then (1 : Int32) else (0 : Int32)))) (own_nb (own_01 (Or.inr rfl) (Or.inl rfl))) (Or.inl ⟨rfl, Or.inr (Or.inl rfl), _, rfl⟩) (hb hby own_dprog_50_method_9_code_73) ?_ (by decide) (by decide)
          show own_e1_Q Z a1 o1 x0 x1 x2 x3 y0 y1 y2 y3 h0 n0 _ T81.heap _
          rw [e81]
          exact ⟨(by simp only [if_neg ha67, if_pos hc73, if_pos hc76, if_pos hc79]), N0, rfl⟩
        · --
          refine own_step (fun t k => XS.icmpYes X78.here hx rfl (pc0 := 54) (pc' := 72) rfl (hb hby own_dprog_50_method_9_code_54) rfl (feq hc79).2 (by decide) (by decide) k) ?_
          show own_Goes p e below _ (T78.setTop (mkF m 72 #[.val (.ref a1), .val (.ref o1), .val (.ref o1)] []))
          refine own_step (fun t k => XS.iconst X78.here hx rfl (hb hby own_dprog_50_method_9_code_72) k) ?_
          show own_Goes p e below _ (T78.setTop (mkF m 73 #[.val (.ref a1), .val (.ref o1), .val (.ref o1)] [(.int (0 : Int32))]))
          refine own_retV X78 hx hlk Bd.returns (w := (.int (0 : Int32))) (own_nb (Or.inl rfl)) (Or.inl ⟨rfl, Or.inr (Or.inl rfl), _, rfl⟩) (hb hby own_dprog_50_method_9_code_73) ?_ (by decide) (by decide)
          show own_e1_Q Z a1 o1 x0 x1 x2 x3 y0 y1 y2 y3 h0 n0 _ T78.heap _
          rw [e78]
          exact ⟨(by simp only [if_neg ha67, if_pos hc73, if_pos hc76, if_neg hc79]), N0, rfl⟩
      · --
        refine own_step (fun t k => XS.icmpYes X75.here hx rfl (pc0 := 43) (pc' := 72) rfl (hb hby own_dprog_50_method_9_code_43) rfl (feq hc76).2 (by decide) (by decide) k) ?_
        show own_Goes p e below _ (T75.setTop (mkF m 72 #[.val (.ref a1), .val (.ref o1), .val (.ref o1)] []))
        refine own_step (fun t k => XS.iconst X75.here hx rfl (hb hby own_dprog_50_method_9_code_72) k) ?_
        show own_Goes p e below _ (T75.setTop (mkF m 73 #[.val (.ref a1), .val (.ref o1), .val (.ref o1)] [(.int (0 : Int32))]))
        refine own_retV X75 hx hlk Bd.returns (w := (.int (0 : Int32))) (own_nb (Or.inl rfl)) (Or.inl ⟨rfl, Or.inr (Or.inl rfl), _, rfl⟩) (hb hby own_dprog_50_method_9_code_73) ?_ (by decide) (by decide)
        show own_e1_Q Z a1 o1 x0 x1 x2 x3 y0 y1 y2 y3 h0 n0 _ T75.heap _
        rw [e75]
        exact ⟨(by simp only [if_neg ha67, if_pos hc73, if_neg hc76]), N0, rfl⟩
    · --
      refine own_step (fun t k => XS.icmpYes X72.here hx rfl (pc0 := 32) (pc' := 72) rfl (hb hby own_dprog_50_method_9_code_32) rfl (feq hc73).2 (by decide) (by decide) k) ?_
      show own_Goes p e below _ (T72.setTop (mkF m 72 #[.val (.ref a1), .val (.ref o1), .val (.ref o1)] []))
      refine own_step (fun t k => XS.iconst X72.here hx rfl (hb hby own_dprog_50_method_9_code_72) k) ?_
      show own_Goes p e below _ (T72.setTop (mkF m 73 #[.val (.ref a1), .val (.ref o1), .val (.ref o1)] [(.int (0 : Int32))]))
      refine own_retV X72 hx hlk Bd.returns (w := (.int (0 : Int32))) (own_nb (Or.inl rfl)) (Or.inl ⟨rfl, Or.inr (Or.inl rfl), _, rfl⟩) (hb hby own_dprog_50_method_9_code_73) ?_ (by decide) (by decide)
      show own_e1_Q Z a1 o1 x0 x1 x2 x3 y0 y1 y2 y3 h0 n0 _ T72.heap _
      rw [e72]
      exact ⟨(by simp only [if_neg ha67, if_neg hc73]), N0, rfl⟩
theorem own_dprog_50_method_9_code_22 : decode prog_50_method_9_code 22 = .ok (.iconst 0, 1) := by decide +kernel
theorem own_dprog_50_method_9_code_23 : decode prog_50_method_9_code 23 = .ok (.ireturn, 1) := by decide +kernel
theorem own_e2_ef (m : MethodId) (a1 : Addr) : entryFrame m #[(.ref a1), .null] 3 = mkF m 0 #[.val (.ref a1), .val .null, .unset] [] := by first | (simp [entryFrame, mkF, argsToLocals, Value.category]; done) | rfl
def own_e2_Q (Z : State) (a1 : Addr) (h0 : Heap) (n0 : Nat) (v : Option Value) (h : Heap) (L : List Loc) : Prop := v = some (.int (0 : Int32)) ∧ Fr n0 L ∧ h = h0
set_option maxRecDepth 65536 in
set_option maxHeartbeats 40000000 in
theorem own_e2 (l : Launch) (Z : State) (a0 : Array Value) (hw : ∀ d ∈ tables_1, d.before a0 Z = true) (ws : List Jvm.Cond) (a1 : Addr) (h0 : Heap) (n0 : Nat) (Z0 : n0 ≤ h0.size) :
    MetFree l (⟨"com/example/heed/heed/Rect", "equals", "(Ljava/lang/Object;)Z"⟩ : MethodName) (head1 (Jvm.Cond.code (⟨"com/example/heed/heed/Rect", "equals", "(Ljava/lang/Object;)Z"⟩ : MethodName) prog_50_method_9_code 3 (some .boolean) :: ws) ({ frames := 0, cells := 0, slots := 0, locals := 0 } : Room)) (fun aa U => aa = #[(.ref a1), .null] ∧ Z.Warmed39 U.vm ∧ U.heap = h0) (fun _ _ _ _ _ => True) (fun _ U o U' => ∃ v L, o = .returned v ∧ own_e2_Q Z a1 h0 n0 v U'.heap L ∧ FrameEnd U o U' L ({ frames := 0, cells := 0, slots := 0, locals := 0 } : Room).cells ({ frames := 0, cells := 0, slots := 0, locals := 0 } : Room).slots) := by
  refine MetFree.of_bodySF (plainFor_of_name own_pn2) hisR ?_
  intro p e s m args below meth c s₁ Bd hml0 hP hK
  obtain ⟨rfl, hZ, hh⟩ := hP
  have hx := Bd.exec
  have hby := Bd.bytes
  have hlk := Bd.notSynchronized
  have hml : c.maxLocals = 3 := hml0
  have hown : s.vm.findClass "com/example/heed/heed/Rect" = some m.cls := findClass_of_methodNamed Bd.named
  have hnm := (name_of_methodNamed Bd.named Bd.method).1
  have X0 : Stand p l e ({ frames := 0, cells := 0, slots := 0, locals := 0 } : Room) s m #[(.ref a1), .null] below meth c s₁ [] 0 0 := Stand.of_body Bd
  have e0 : s₁.heap = h0 := by rw [← hh, Bd.state]; rfl
  have N0 := Fr.nil n0
  have K0 : Keep h0 h0 [] := Keep.refl h0 _
  show own_Goes p e below (own_Fin s (own_e2_Q Z a1 h0 n0) ({ frames := 0, cells := 0, slots := 0, locals := 0 } : Room).cells ({ frames := 0, cells := 0, slots := 0, locals := 0 } : Room).slots) _
  refine own_step (fun t k => castTop (own_e2_ef m a1) k) ?_
  show own_Goes p e below _ (s₁.setTop (mkF m 0 #[.val (.ref a1), .val .null, .unset] []))
  refine own_step (fun t k => XS.aloadN X0.here hx rfl (hb hby own_dprog_50_method_9_code_0) rfl rfl k) ?_
  show own_Goes p e below _ (s₁.setTop (mkF m 1 #[.val (.ref a1), .val .null, .unset] [(.ref a1)]))
  refine own_step (fun t k => XS.aloadN X0.here hx rfl (hb hby own_dprog_50_method_9_code_1) rfl rfl k) ?_
  show own_Goes p e below _ (s₁.setTop (mkF m 2 #[.val (.ref a1), .val .null, .unset] [.null, (.ref a1)]))
  refine own_step (fun t k => Jvm.RoadKit.acmp (g := (mkF m 2 #[.val (.ref a1), .val .null, .unset] [.null, (.ref a1)])) X0 hx rfl rfl rfl (pc0 := 2) (pc' := 7) (same := false) rfl (hb hby own_dprog_50_method_9_code_2) rfl (decide_eq_false nofun) (by decide) (by decide) k) ?_
  show own_Goes p e below _ (s₁.setTop (mkF m 7 #[.val (.ref a1), .val .null, .unset] []))
  refine own_step (fun t k => XS.aloadN X0.here hx rfl (hb hby own_dprog_50_method_9_code_7) rfl rfl k) ?_
  show own_Goes p e below _ (s₁.setTop (mkF m 8 #[.val (.ref a1), .val .null, .unset] [.null]))
  refine own_step (fun t k => X0.instanceofNull hx (g := (mkF m 8 #[.val (.ref a1), .val .null, .unset] [.null])) rfl rfl (hb hby own_dprog_50_method_9_code_8) _ k) ?_
  show own_Goes p e below _ (s₁.setTop (mkF m 11 #[.val (.ref a1), .val .null, .unset] [(.int (0 : Int32))]))
  have hc84 : (0 : Int32) = (0 : Int32) := rfl
  refine own_step (fun t k => XS.ifYes X0.here hx rfl (pc0 := 11) (pc' := 22) rfl (hb hby own_dprog_50_method_9_code_11) rfl ((if0 _ _).trans (teq hc84).1) (by decide) (by decide) k) ?_
  show own_Goes p e below _ (s₁.setTop (mkF m 22 #[.val (.ref a1), .val .null, .unset] []))
  refine own_step (fun t k => XS.iconst X0.here hx rfl (hb hby own_dprog_50_method_9_code_22) k) ?_
  show own_Goes p e below _ (s₁.setTop (mkF m 23 #[.val (.ref a1), .val .null, .unset] [(.int (0 : Int32))]))
  refine own_retV X0 hx hlk Bd.returns (w := (.int (0 : Int32))) (own_nb (Or.inl rfl)) (Or.inl ⟨rfl, Or.inr (Or.inl rfl), _, rfl⟩) (hb hby own_dprog_50_method_9_code_23) ?_ (by decide) (by decide)
  show own_e2_Q Z a1 h0 n0 _ s₁.heap _
  rw [e0]
  exact ⟨rfl, N0, rfl⟩
theorem own_e3_ef (m : MethodId) (a1 : Addr) (o1 : Addr) : entryFrame m #[(.ref a1), (.ref o1)] 3 = mkF m 0 #[.val (.ref a1), .val (.ref o1), .unset] [] := by first | (simp [entryFrame, mkF, argsToLocals, Value.category]; done) | rfl
def own_e3_Q (Z : State) (a1 : Addr) (o1 : Addr) (h0 : Heap) (n0 : Nat) (v : Option Value) (h : Heap) (L : List Loc) : Prop := v = some (.int (if a1 = o1 then (1 : Int32) else (0 : Int32))) ∧ Fr n0 L ∧ h = h0
set_option maxRecDepth 65536 in
set_option maxHeartbeats 40000000 in
theorem own_e3 (l : Launch) (Z : State) (a0 : Array Value) (hw : ∀ d ∈ tables_1, d.before a0 Z = true) (ws : List Jvm.Cond) (a1 : Addr) (o1 : Addr) (h0 : Heap) (n0 : Nat) (Z0 : n0 ≤ h0.size) (E_o1 : Exa Z h0 o1 "java/lang/Integer") :
    MetFree l (⟨"com/example/heed/heed/Rect", "equals", "(Ljava/lang/Object;)Z"⟩ : MethodName) (head1 (Jvm.Cond.code (⟨"com/example/heed/heed/Rect", "equals", "(Ljava/lang/Object;)Z"⟩ : MethodName) prog_50_method_9_code 3 (some .boolean) :: ws) ({ frames := 0, cells := 0, slots := 0, locals := 0 } : Room)) (fun aa U => aa = #[(.ref a1), (.ref o1)] ∧ Z.Warmed39 U.vm ∧ U.heap = h0) (fun _ _ _ _ _ => True) (fun _ U o U' => ∃ v L, o = .returned v ∧ own_e3_Q Z a1 o1 h0 n0 v U'.heap L ∧ FrameEnd U o U' L ({ frames := 0, cells := 0, slots := 0, locals := 0 } : Room).cells ({ frames := 0, cells := 0, slots := 0, locals := 0 } : Room).slots) := by
  refine MetFree.of_bodySF (plainFor_of_name own_pn2) hisR ?_
  have w1 := hw _ (List.mem_of_getElem? (i := 1) rfl)
  have w29 := hw _ (List.mem_of_getElem? (i := 29) rfl)
  have w31 := hw _ (List.mem_of_getElem? (i := 31) rfl)
  have w32 := hw _ (List.mem_of_getElem? (i := 32) rfl)
  have w33 := hw _ (List.mem_of_getElem? (i := 33) rfl)
  intro p e s m args below meth c s₁ Bd hml0 hP hK
  obtain ⟨rfl, hZ, hh⟩ := hP
  have hx := Bd.exec
  have hby := Bd.bytes
  have hlk := Bd.notSynchronized
  have hml : c.maxLocals = 3 := hml0
  have hown : s.vm.findClass "com/example/heed/heed/Rect" = some m.cls := findClass_of_methodNamed Bd.named
  have hnm := (name_of_methodNamed Bd.named Bd.method).1
  have X0 : Stand p l e ({ frames := 0, cells := 0, slots := 0, locals := 0 } : Room) s m #[(.ref a1), (.ref o1)] below meth c s₁ [] 0 0 := Stand.of_body Bd
  have e0 : s₁.heap = h0 := by rw [← hh, Bd.state]; rfl
  have N0 := Fr.nil n0
  have K0 : Keep h0 h0 [] := Keep.refl h0 _
  show own_Goes p e below (own_Fin s (own_e3_Q Z a1 o1 h0 n0) ({ frames := 0, cells := 0, slots := 0, locals := 0 } : Room).cells ({ frames := 0, cells := 0, slots := 0, locals := 0 } : Room).slots) _
  refine own_step (fun t k => castTop (own_e3_ef m a1 o1) k) ?_
  show own_Goes p e below _ (s₁.setTop (mkF m 0 #[.val (.ref a1), .val (.ref o1), .unset] []))
  refine own_step (fun t k => XS.aloadN X0.here hx rfl (hb hby own_dprog_50_method_9_code_0) rfl rfl k) ?_
  show own_Goes p e below _ (s₁.setTop (mkF m 1 #[.val (.ref a1), .val (.ref o1), .unset] [(.ref a1)]))
  refine own_step (fun t k => XS.aloadN X0.here hx rfl (hb hby own_dprog_50_method_9_code_1) rfl rfl k) ?_
  show own_Goes p e below _ (s₁.setTop (mkF m 2 #[.val (.ref a1), .val (.ref o1), .unset] [(.ref o1), (.ref a1)]))
  by_cases ha88 : a1 = o1
  · --
    refine own_step (fun t k => Jvm.RoadKit.acmp (g := (mkF m 2 #[.val (.ref a1), .val (.ref o1), .unset] [(.ref o1), (.ref a1)])) X0 hx rfl rfl rfl (pc0 := 2) (pc' := 5) (same := true) rfl (hb hby own_dprog_50_method_9_code_2) rfl (decide_eq_true (congrArg Value.ref ha88)) (by decide) (by decide) k) ?_
    show own_Goes p e below _ (s₁.setTop (mkF m 5 #[.val (.ref a1), .val (.ref o1), .unset] []))
    refine own_step (fun t k => XS.iconst X0.here hx rfl (hb hby own_dprog_50_method_9_code_5) k) ?_
    show own_Goes p e below _ (s₁.setTop (mkF m 6 #[.val (.ref a1), .val (.ref o1), .unset] [(.int (1 : Int32))]))
    refine own_retV X0 hx hlk Bd.returns (w := (.int (1 : Int32))) (own_nb (Or.inr rfl)) (Or.inl ⟨rfl, Or.inr (Or.inl rfl), _, rfl⟩) (hb hby own_dprog_50_method_9_code_6) ?_ (by decide) (by decide)
    show own_e3_Q Z a1 o1 h0 n0 _ s₁.heap _
    rw [e0]
    exact ⟨(by simp only [if_pos ha88]), N0, rfl⟩
  · --
    refine own_step (fun t k => Jvm.RoadKit.acmp (g := (mkF m 2 #[.val (.ref a1), .val (.ref o1), .unset] [(.ref o1), (.ref a1)])) X0 hx rfl rfl rfl (pc0 := 2) (pc' := 7) (same := false) rfl (hb hby own_dprog_50_method_9_code_2) rfl (decide_eq_false fun zq => ha88 (Value.ref.inj zq)) (by decide) (by decide) k) ?_
    show own_Goes p e below _ (s₁.setTop (mkF m 7 #[.val (.ref a1), .val (.ref o1), .unset] []))
    refine own_step (fun t k => XS.aloadN X0.here hx rfl (hb hby own_dprog_50_method_9_code_7) rfl rfl k) ?_
    show own_Goes p e below _ (s₁.setTop (mkF m 8 #[.val (.ref a1), .val (.ref o1), .unset] [(.ref o1)]))
    obtain ⟨T89, X89, e89, st89⟩ := instNo X0 hx hZ hown w29 e0 E_o1 (own_noinst (t := ["java/lang/Number", "java/lang/Object"]) (own_c3 w31 w32 w33) w1 (by decide)) (g := (mkF m 8 #[.val (.ref a1), .val (.ref o1), .unset] [(.ref o1)])) rfl rfl (hb hby own_dprog_50_method_9_code_8)
    refine own_step st89 ?_
    show own_Goes p e below _ (T89.setTop (mkF m 11 #[.val (.ref a1), .val (.ref o1), .unset] [(.int (0 : Int32))]))
    have hc90 : (0 : Int32) = (0 : Int32) := rfl
    refine own_step (fun t k => XS.ifYes X89.here hx rfl (pc0 := 11) (pc' := 22) rfl (hb hby own_dprog_50_method_9_code_11) rfl ((if0 _ _).trans (teq hc90).1) (by decide) (by decide) k) ?_
    show own_Goes p e below _ (T89.setTop (mkF m 22 #[.val (.ref a1), .val (.ref o1), .unset] []))
    refine own_step (fun t k => XS.iconst X89.here hx rfl (hb hby own_dprog_50_method_9_code_22) k) ?_
    show own_Goes p e below _ (T89.setTop (mkF m 23 #[.val (.ref a1), .val (.ref o1), .unset] [(.int (0 : Int32))]))
    refine own_retV X89 hx hlk Bd.returns (w := (.int (0 : Int32))) (own_nb (Or.inl rfl)) (Or.inl ⟨rfl, Or.inr (Or.inl rfl), _, rfl⟩) (hb hby own_dprog_50_method_9_code_23) ?_ (by decide) (by decide)
    show own_e3_Q Z a1 o1 h0 n0 _ T89.heap _
    rw [e89]
    exact ⟨(by simp only [if_neg ha88]), N0, rfl⟩
theorem own_pn3 : plainName "com/example/heed/heed/RectEqualsPinLaw" = true := by first | (simp [plainName, overriddenIn]; done) | decide +kernel
theorem own_pd2 : parseMethodDescriptor "(IIII)V" = some ⟨[.int, .int, .int, .int], none⟩ := by decide +kernel
theorem own_pd3 : parseMethodDescriptor "(I)Ljava/lang/Integer;" = some ⟨[.int], some (.object "java/lang/Integer")⟩ := by decide +kernel
theorem own_pd4 : parseMethodDescriptor "(Ljava/lang/Object;)Z" = some ⟨[(.object "java/lang/Object")], some .boolean⟩ := by decide +kernel
theorem own_law_ef (m : MethodId) (p0 : Int32) (p1 : Int32) (p2 : Int32) (p3 : Int32) (p4 : Int32) (p5 : Int32) : entryFrame m #[(.int p0), (.int p1), (.int p2), (.int p3), (.int p4), (.int p5)] maxLocals = mkF m 0 #[.val (.int p0), .val (.int p1), .val (.int p2), .val (.int p3), .val (.int p4), .val (.int p5), .unset, .unset, .unset, .unset, .unset, .unset, .unset, .unset, .unset, .unset, .unset, .unset, .unset, .unset] [] := by first | (simp [entryFrame, mkF, argsToLocals, Value.category, maxLocals]; done) | rfl
set_option maxRecDepth 65536 in
set_option maxHeartbeats 40000000 in
theorem own_law (l : Launch) (Z : State) (a0 : Array Value) (hw : ∀ d ∈ tables_1, d.before a0 Z = true) (ws : List Jvm.Cond) (p0 : Int32) (p1 : Int32) (p2 : Int32) (p3 : Int32) (p4 : Int32) (p5 : Int32) (wc : Addr) (cC : Cell) (h0 : Heap) (n0 : Nat) (Z0 : n0 ≤ h0.size) (S_high : Sta Z Z.heap "java/lang/Integer$IntegerCache" "high" "I" (.int (127 : Int32))) (S_cache : Sta Z Z.heap "java/lang/Integer$IntegerCache" "cache" "[Ljava/lang/Integer;" (.ref wc)) (O0 : Old Z n0 h0) (hbx : Bxs Z wc cC "java/lang/Integer" "I" (256 : Int32) own_val) :
    MetFree l x (head1 (Jvm.Cond.code x code maxLocals ret :: ws) room_1) (fun aa U => aa = #[(.int p0), (.int p1), (.int p2), (.int p3), (.int p4), (.int p5)] ∧ Z.Warmed39 U.vm ∧ U.heap = h0) (fun _ _ _ _ _ => True) (fun _ U o U' => ∃ v L, o = .returned v ∧ own_Q0 n0 v U'.heap L ∧ FrameEnd U o U' L 16 128) := by
  refine MetFree.of_bodySF (plainFor_of_name own_pn3) hisR ?_
  have w0 := hw _ (List.mem_of_getElem? (i := 0) rfl)
  have w1 := hw _ (List.mem_of_getElem? (i := 1) rfl)
  have w2 := hw _ (List.mem_of_getElem? (i := 2) rfl)
  have w3 := hw _ (List.mem_of_getElem? (i := 3) rfl)
  have w4 := hw _ (List.mem_of_getElem? (i := 4) rfl)
  have w5 := hw _ (List.mem_of_getElem? (i := 5) rfl)
  have w10 := hw _ (List.mem_of_getElem? (i := 10) rfl)
  have w12 := hw _ (List.mem_of_getElem? (i := 12) rfl)
  have w14 := hw _ (List.mem_of_getElem? (i := 14) rfl)
  have w16 := hw _ (List.mem_of_getElem? (i := 16) rfl)
  have w17 := hw _ (List.mem_of_getElem? (i := 17) rfl)
  have w18 := hw _ (List.mem_of_getElem? (i := 18) rfl)
  have w19 := hw _ (List.mem_of_getElem? (i := 19) rfl)
  have w20 := hw _ (List.mem_of_getElem? (i := 20) rfl)
  have w24 := hw _ (List.mem_of_getElem? (i := 24) rfl)
  have w25 := hw _ (List.mem_of_getElem? (i := 25) rfl)
  have w26 := hw _ (List.mem_of_getElem? (i := 26) rfl)
  have w27 := hw _ (List.mem_of_getElem? (i := 27) rfl)
  have w28 := hw _ (List.mem_of_getElem? (i := 28) rfl)
  intro p e s m args below meth c s₁ Bd hml0 hP hK
  obtain ⟨rfl, hZ, hh⟩ := hP
  have hx := Bd.exec
  have hby := Bd.bytes
  have hlk := Bd.notSynchronized
  have hml : c.maxLocals = 20 := hml0
  have hown : s.vm.findClass "com/example/heed/heed/RectEqualsPinLaw" = some m.cls := findClass_of_methodNamed Bd.named
  have hnm := (name_of_methodNamed Bd.named Bd.method).1
  have X0 : Stand p l e room_1 s m #[(.int p0), (.int p1), (.int p2), (.int p3), (.int p4), (.int p5)] below meth c s₁ [] 0 0 := Stand.of_body Bd
  have e0 : s₁.heap = h0 := by rw [← hh, Bd.state]; rfl
  have N0 := Fr.nil n0
  have K0 : Keep h0 h0 [] := Keep.refl h0 _
  show own_Goes p e below (own_Fin s (own_Q0 n0) 16 128) _
  refine own_step (fun t k => castTop (own_law_ef m p0 p1 p2 p3 p4 p5) k) ?_
  show own_Goes p e below _ (s₁.setTop (mkF m 0 #[.val (.int p0), .val (.int p1), .val (.int p2), .val (.int p3), .val (.int p4), .val (.int p5), .unset, .unset, .unset, .unset, .unset, .unset, .unset, .unset, .unset, .unset, .unset, .unset, .unset, .unset] []))
  refine own_step (fun t k => XS.iload X0.here hx rfl (hb hby at_0) rfl k) ?_
  show own_Goes p e below _ (s₁.setTop (mkF m 2 #[.val (.int p0), .val (.int p1), .val (.int p2), .val (.int p3), .val (.int p4), .val (.int p5), .unset, .unset, .unset, .unset, .unset, .unset, .unset, .unset, .unset, .unset, .unset, .unset, .unset, .unset] [(.int p5)]))
  refine own_step (fun t k => XS.iconst X0.here hx rfl (hb hby at_2) k) ?_
  show own_Goes p e below _ (s₁.setTop (mkF m 3 #[.val (.int p0), .val (.int p1), .val (.int p2), .val (.int p3), .val (.int p4), .val (.int p5), .unset, .unset, .unset, .unset, .unset, .unset, .unset, .unset, .unset, .unset, .unset, .unset, .unset, .unset] [(.int (1 : Int32)), (.int p5)]))
  refine own_step (fun t k => XS.iand X0.here hx rfl (hb hby at_3) rfl k) ?_
  show own_Goes p e below _ (s₁.setTop (mkF m 4 #[.val (.int p0), .val (.int p1), .val (.int p2), .val (.int p3), .val (.int p4), .val (.int p5), .unset, .unset, .unset, .unset, .unset, .unset, .unset, .unset, .unset, .unset, .unset, .unset, .unset, .unset] [(.int (p5 &&& (1 : Int32)))]))
  refine own_step (S' := s₁.setTop (mkF m 13 #[.val (.int p0), .val (.int p1), .val (.int p2), .val (.int p3), .val (.int p4), .val (.int p5), .unset, .unset, .unset, .unset, .unset, .unset, .unset, .unset, .unset, .unset, .unset, .unset, .unset, .unset] [(.int (if (p5 &&& (1 : Int32)) = (0 : Int32) then p0 else p4))])) (fun t k => ?_) ?_
  · show Steps p.tables e below (s₁.setTop (mkF m 4 #[.val (.int p0), .val (.int p1), .val (.int p2), .val (.int p3), .val (.int p4), .val (.int p5), .unset, .unset, .unset, .unset, .unset, .unset, .unset, .unset, .unset, .unset, .unset, .unset, .unset, .unset] [(.int (p5 &&& (1 : Int32)))])) _
    by_cases hc91 : (p5 &&& (1 : Int32)) = (0 : Int32)
    · --
      refine XS.ifYes X0.here hx rfl (pc0 := 4) (pc' := 12) rfl (hb hby at_4) rfl ((if0 _ _).trans (teq hc91).1) (by decide) (by decide) ?_
      show Steps p.tables e below (s₁.setTop (mkF m 12 #[.val (.int p0), .val (.int p1), .val (.int p2), .val (.int p3), .val (.int p4), .val (.int p5), .unset, .unset, .unset, .unset, .unset, .unset, .unset, .unset, .unset, .unset, .unset, .unset, .unset, .unset] [])) _
      refine XS.iloadN X0.here hx rfl (hb hby at_12) rfl ?_
      show Steps p.tables e below (s₁.setTop (mkF m 13 #[.val (.int p0), .val (.int p1), .val (.int p2), .val (.int p3), .val (.int p4), .val (.int p5), .unset, .unset, .unset, .unset, .unset, .unset, .unset, .unset, .unset, .unset, .unset, .unset, .unset, .unset] [(.int p0)])) _
      simp only [if_pos hc91] at k
      exact k
    · --
      refine XS.ifNo X0.here hx rfl (hb hby at_4) rfl ((if0 _ _).trans (feq hc91).1) ?_
      show Steps p.tables e below (s₁.setTop (mkF m 7 #[.val (.int p0), .val (.int p1), .val (.int p2), .val (.int p3), .val (.int p4), .val (.int p5), .unset, .unset, .unset, .unset, .unset, .unset, .unset, .unset, .unset, .unset, .unset, .unset, .unset, .unset] [])) _
      refine XS.iload X0.here hx rfl (hb hby at_7) rfl ?_
      show Steps p.tables e below (s₁.setTop (mkF m 9 #[.val (.int p0), .val (.int p1), .val (.int p2), .val (.int p3), .val (.int p4), .val (.int p5), .unset, .unset, .unset, .unset, .unset, .unset, .unset, .unset, .unset, .unset, .unset, .unset, .unset, .unset] [(.int p4)])) _
      refine XS.goto X0.here hx rfl (pc0 := 9) (pc' := 13) rfl (hb hby at_9) (by decide) (by decide) ?_
      show Steps p.tables e below (s₁.setTop (mkF m 13 #[.val (.int p0), .val (.int p1), .val (.int p2), .val (.int p3), .val (.int p4), .val (.int p5), .unset, .unset, .unset, .unset, .unset, .unset, .unset, .unset, .unset, .unset, .unset, .unset, .unset, .unset] [(.int p4)])) _
      simp only [if_neg hc91] at k
      exact k
  show own_Goes p e below _ (s₁.setTop (mkF m 13 #[.val (.int p0), .val (.int p1), .val (.int p2), .val (.int p3), .val (.int p4), .val (.int p5), .unset, .unset, .unset, .unset, .unset, .unset, .unset, .unset, .unset, .unset, .unset, .unset, .unset, .unset] [(.int (if (p5 &&& (1 : Int32)) = (0 : Int32) then p0 else p4))]))
  refine own_step (fun t k => XS.istore X0.here hx rfl (hb hby at_13) rfl (l' := #[.val (.int p0), .val (.int p1), .val (.int p2), .val (.int p3), .val (.int p4), .val (.int p5), .val (.int (if (p5 &&& (1 : Int32)) = (0 : Int32) then p0 else p4)), .unset, .unset, .unset, .unset, .unset, .unset, .unset, .unset, .unset, .unset, .unset, .unset, .unset]) rfl k) ?_
  show own_Goes p e below _ (s₁.setTop (mkF m 15 #[.val (.int p0), .val (.int p1), .val (.int p2), .val (.int p3), .val (.int p4), .val (.int p5), .val (.int (if (p5 &&& (1 : Int32)) = (0 : Int32) then p0 else p4)), .unset, .unset, .unset, .unset, .unset, .unset, .unset, .unset, .unset, .unset, .unset, .unset, .unset] []))
  generalize hv_v6 : (if (p5 &&& (1 : Int32)) = (0 : Int32) then p0 else p4) = v6
  refine own_step (fun t k => XS.iload X0.here hx rfl (hb hby at_15) rfl k) ?_
  show own_Goes p e below _ (s₁.setTop (mkF m 17 #[.val (.int p0), .val (.int p1), .val (.int p2), .val (.int p3), .val (.int p4), .val (.int p5), .val (.int v6), .unset, .unset, .unset, .unset, .unset, .unset, .unset, .unset, .unset, .unset, .unset, .unset, .unset] [(.int p5)]))
  refine own_step (fun t k => XS.iconst X0.here hx rfl (hb hby at_17) k) ?_
  show own_Goes p e below _ (s₁.setTop (mkF m 18 #[.val (.int p0), .val (.int p1), .val (.int p2), .val (.int p3), .val (.int p4), .val (.int p5), .val (.int v6), .unset, .unset, .unset, .unset, .unset, .unset, .unset, .unset, .unset, .unset, .unset, .unset, .unset] [(.int (2 : Int32)), (.int p5)]))
  refine own_step (fun t k => XS.iand X0.here hx rfl (hb hby at_18) rfl k) ?_
  show own_Goes p e below _ (s₁.setTop (mkF m 19 #[.val (.int p0), .val (.int p1), .val (.int p2), .val (.int p3), .val (.int p4), .val (.int p5), .val (.int v6), .unset, .unset, .unset, .unset, .unset, .unset, .unset, .unset, .unset, .unset, .unset, .unset, .unset] [(.int (p5 &&& (2 : Int32)))]))
  refine own_step (S' := s₁.setTop (mkF m 28 #[.val (.int p0), .val (.int p1), .val (.int p2), .val (.int p3), .val (.int p4), .val (.int p5), .val (.int v6), .unset, .unset, .unset, .unset, .unset, .unset, .unset, .unset, .unset, .unset, .unset, .unset, .unset] [(.int (if (p5 &&& (2 : Int32)) = (0 : Int32) then p1 else p4))])) (fun t k => ?_) ?_
  · show Steps p.tables e below (s₁.setTop (mkF m 19 #[.val (.int p0), .val (.int p1), .val (.int p2), .val (.int p3), .val (.int p4), .val (.int p5), .val (.int v6), .unset, .unset, .unset, .unset, .unset, .unset, .unset, .unset, .unset, .unset, .unset, .unset, .unset] [(.int (p5 &&& (2 : Int32)))])) _
    by_cases hc92 : (p5 &&& (2 : Int32)) = (0 : Int32)
    · --
      refine XS.ifYes X0.here hx rfl (pc0 := 19) (pc' := 27) rfl (hb hby at_19) rfl ((if0 _ _).trans (teq hc92).1) (by decide) (by decide) ?_
      show Steps p.tables e below (s₁.setTop (mkF m 27 #[.val (.int p0), .val (.int p1), .val (.int p2), .val (.int p3), .val (.int p4), .val (.int p5), .val (.int v6), .unset, .unset, .unset, .unset, .unset, .unset, .unset, .unset, .unset, .unset, .unset, .unset, .unset] [])) _
      refine XS.iloadN X0.here hx rfl (hb hby at_27) rfl ?_
      show Steps p.tables e below (s₁.setTop (mkF m 28 #[.val (.int p0), .val (.int p1), .val (.int p2), .val (.int p3), .val (.int p4), .val (.int p5), .val (.int v6), .unset, .unset, .unset, .unset, .unset, .unset, .unset, .unset, .unset, .unset, .unset, .unset, .unset] [(.int p1)])) _
      simp only [if_pos hc92] at k
      exact k
    · --
      refine XS.ifNo X0.here hx rfl (hb hby at_19) rfl ((if0 _ _).trans (feq hc92).1) ?_
      show Steps p.tables e below (s₁.setTop (mkF m 22 #[.val (.int p0), .val (.int p1), .val (.int p2), .val (.int p3), .val (.int p4), .val (.int p5), .val (.int v6), .unset, .unset, .unset, .unset, .unset, .unset, .unset, .unset, .unset, .unset, .unset, .unset, .unset] [])) _
      refine XS.iload X0.here hx rfl (hb hby at_22) rfl ?_
      show Steps p.tables e below (s₁.setTop (mkF m 24 #[.val (.int p0), .val (.int p1), .val (.int p2), .val (.int p3), .val (.int p4), .val (.int p5), .val (.int v6), .unset, .unset, .unset, .unset, .unset, .unset, .unset, .unset, .unset, .unset, .unset, .unset, .unset] [(.int p4)])) _
      refine XS.goto X0.here hx rfl (pc0 := 24) (pc' := 28) rfl (hb hby at_24) (by decide) (by decide) ?_
      show Steps p.tables e below (s₁.setTop (mkF m 28 #[.val (.int p0), .val (.int p1), .val (.int p2), .val (.int p3), .val (.int p4), .val (.int p5), .val (.int v6), .unset, .unset, .unset, .unset, .unset, .unset, .unset, .unset, .unset, .unset, .unset, .unset, .unset] [(.int p4)])) _
      simp only [if_neg hc92] at k
      exact k
  show own_Goes p e below _ (s₁.setTop (mkF m 28 #[.val (.int p0), .val (.int p1), .val (.int p2), .val (.int p3), .val (.int p4), .val (.int p5), .val (.int v6), .unset, .unset, .unset, .unset, .unset, .unset, .unset, .unset, .unset, .unset, .unset, .unset, .unset] [(.int (if (p5 &&& (2 : Int32)) = (0 : Int32) then p1 else p4))]))
  refine own_step (fun t k => XS.istore X0.here hx rfl (hb hby at_28) rfl (l' := #[.val (.int p0), .val (.int p1), .val (.int p2), .val (.int p3), .val (.int p4), .val (.int p5), .val (.int v6), .val (.int (if (p5 &&& (2 : Int32)) = (0 : Int32) then p1 else p4)), .unset, .unset, .unset, .unset, .unset, .unset, .unset, .unset, .unset, .unset, .unset, .unset]) rfl k) ?_
  show own_Goes p e below _ (s₁.setTop (mkF m 30 #[.val (.int p0), .val (.int p1), .val (.int p2), .val (.int p3), .val (.int p4), .val (.int p5), .val (.int v6), .val (.int (if (p5 &&& (2 : Int32)) = (0 : Int32) then p1 else p4)), .unset, .unset, .unset, .unset, .unset, .unset, .unset, .unset, .unset, .unset, .unset, .unset] []))
  generalize hv_v7 : (if (p5 &&& (2 : Int32)) = (0 : Int32) then p1 else p4) = v7
  refine own_step (fun t k => XS.iload X0.here hx rfl (hb hby at_30) rfl k) ?_
  show own_Goes p e below _ (s₁.setTop (mkF m 32 #[.val (.int p0), .val (.int p1), .val (.int p2), .val (.int p3), .val (.int p4), .val (.int p5), .val (.int v6), .val (.int v7), .unset, .unset, .unset, .unset, .unset, .unset, .unset, .unset, .unset, .unset, .unset, .unset] [(.int p5)]))
  refine own_step (fun t k => XS.iconst X0.here hx rfl (hb hby at_32) k) ?_
  show own_Goes p e below _ (s₁.setTop (mkF m 33 #[.val (.int p0), .val (.int p1), .val (.int p2), .val (.int p3), .val (.int p4), .val (.int p5), .val (.int v6), .val (.int v7), .unset, .unset, .unset, .unset, .unset, .unset, .unset, .unset, .unset, .unset, .unset, .unset] [(.int (4 : Int32)), (.int p5)]))
  refine own_step (fun t k => XS.iand X0.here hx rfl (hb hby at_33) rfl k) ?_
  show own_Goes p e below _ (s₁.setTop (mkF m 34 #[.val (.int p0), .val (.int p1), .val (.int p2), .val (.int p3), .val (.int p4), .val (.int p5), .val (.int v6), .val (.int v7), .unset, .unset, .unset, .unset, .unset, .unset, .unset, .unset, .unset, .unset, .unset, .unset] [(.int (p5 &&& (4 : Int32)))]))
  refine own_step (S' := s₁.setTop (mkF m 43 #[.val (.int p0), .val (.int p1), .val (.int p2), .val (.int p3), .val (.int p4), .val (.int p5), .val (.int v6), .val (.int v7), .unset, .unset, .unset, .unset, .unset, .unset, .unset, .unset, .unset, .unset, .unset, .unset] [(.int (if (p5 &&& (4 : Int32)) = (0 : Int32) then p2 else p4))])) (fun t k => ?_) ?_
  · show Steps p.tables e below (s₁.setTop (mkF m 34 #[.val (.int p0), .val (.int p1), .val (.int p2), .val (.int p3), .val (.int p4), .val (.int p5), .val (.int v6), .val (.int v7), .unset, .unset, .unset, .unset, .unset, .unset, .unset, .unset, .unset, .unset, .unset, .unset] [(.int (p5 &&& (4 : Int32)))])) _
    by_cases hc93 : (p5 &&& (4 : Int32)) = (0 : Int32)
    · --
      refine XS.ifYes X0.here hx rfl (pc0 := 34) (pc' := 42) rfl (hb hby at_34) rfl ((if0 _ _).trans (teq hc93).1) (by decide) (by decide) ?_
      show Steps p.tables e below (s₁.setTop (mkF m 42 #[.val (.int p0), .val (.int p1), .val (.int p2), .val (.int p3), .val (.int p4), .val (.int p5), .val (.int v6), .val (.int v7), .unset, .unset, .unset, .unset, .unset, .unset, .unset, .unset, .unset, .unset, .unset, .unset] [])) _
      refine XS.iloadN X0.here hx rfl (hb hby at_42) rfl ?_
      show Steps p.tables e below (s₁.setTop (mkF m 43 #[.val (.int p0), .val (.int p1), .val (.int p2), .val (.int p3), .val (.int p4), .val (.int p5), .val (.int v6), .val (.int v7), .unset, .unset, .unset, .unset, .unset, .unset, .unset, .unset, .unset, .unset, .unset, .unset] [(.int p2)])) _
      simp only [if_pos hc93] at k
      exact k
    · --
      refine XS.ifNo X0.here hx rfl (hb hby at_34) rfl ((if0 _ _).trans (feq hc93).1) ?_
      show Steps p.tables e below (s₁.setTop (mkF m 37 #[.val (.int p0), .val (.int p1), .val (.int p2), .val (.int p3), .val (.int p4), .val (.int p5), .val (.int v6), .val (.int v7), .unset, .unset, .unset, .unset, .unset, .unset, .unset, .unset, .unset, .unset, .unset, .unset] [])) _
      refine XS.iload X0.here hx rfl (hb hby at_37) rfl ?_
      show Steps p.tables e below (s₁.setTop (mkF m 39 #[.val (.int p0), .val (.int p1), .val (.int p2), .val (.int p3), .val (.int p4), .val (.int p5), .val (.int v6), .val (.int v7), .unset, .unset, .unset, .unset, .unset, .unset, .unset, .unset, .unset, .unset, .unset, .unset] [(.int p4)])) _
      refine XS.goto X0.here hx rfl (pc0 := 39) (pc' := 43) rfl (hb hby at_39) (by decide) (by decide) ?_
      show Steps p.tables e below (s₁.setTop (mkF m 43 #[.val (.int p0), .val (.int p1), .val (.int p2), .val (.int p3), .val (.int p4), .val (.int p5), .val (.int v6), .val (.int v7), .unset, .unset, .unset, .unset, .unset, .unset, .unset, .unset, .unset, .unset, .unset, .unset] [(.int p4)])) _
      simp only [if_neg hc93] at k
      exact k
  show own_Goes p e below _ (s₁.setTop (mkF m 43 #[.val (.int p0), .val (.int p1), .val (.int p2), .val (.int p3), .val (.int p4), .val (.int p5), .val (.int v6), .val (.int v7), .unset, .unset, .unset, .unset, .unset, .unset, .unset, .unset, .unset, .unset, .unset, .unset] [(.int (if (p5 &&& (4 : Int32)) = (0 : Int32) then p2 else p4))]))
  refine own_step (fun t k => XS.istore X0.here hx rfl (hb hby at_43) rfl (l' := #[.val (.int p0), .val (.int p1), .val (.int p2), .val (.int p3), .val (.int p4), .val (.int p5), .val (.int v6), .val (.int v7), .val (.int (if (p5 &&& (4 : Int32)) = (0 : Int32) then p2 else p4)), .unset, .unset, .unset, .unset, .unset, .unset, .unset, .unset, .unset, .unset, .unset]) rfl k) ?_
  show own_Goes p e below _ (s₁.setTop (mkF m 45 #[.val (.int p0), .val (.int p1), .val (.int p2), .val (.int p3), .val (.int p4), .val (.int p5), .val (.int v6), .val (.int v7), .val (.int (if (p5 &&& (4 : Int32)) = (0 : Int32) then p2 else p4)), .unset, .unset, .unset, .unset, .unset, .unset, .unset, .unset, .unset, .unset, .unset] []))
  generalize hv_v8 : (if (p5 &&& (4 : Int32)) = (0 : Int32) then p2 else p4) = v8
  refine own_step (fun t k => XS.iload X0.here hx rfl (hb hby at_45) rfl k) ?_
  show own_Goes p e below _ (s₁.setTop (mkF m 47 #[.val (.int p0), .val (.int p1), .val (.int p2), .val (.int p3), .val (.int p4), .val (.int p5), .val (.int v6), .val (.int v7), .val (.int v8), .unset, .unset, .unset, .unset, .unset, .unset, .unset, .unset, .unset, .unset, .unset] [(.int p5)]))
  refine own_step (fun t k => XS.bipush X0.here hx rfl (hb hby at_47) k) ?_
  show own_Goes p e below _ (s₁.setTop (mkF m 49 #[.val (.int p0), .val (.int p1), .val (.int p2), .val (.int p3), .val (.int p4), .val (.int p5), .val (.int v6), .val (.int v7), .val (.int v8), .unset, .unset, .unset, .unset, .unset, .unset, .unset, .unset, .unset, .unset, .unset] [(.int (8 : Int32)), (.int p5)]))
  refine own_step (fun t k => XS.iand X0.here hx rfl (hb hby at_49) rfl k) ?_
  show own_Goes p e below _ (s₁.setTop (mkF m 50 #[.val (.int p0), .val (.int p1), .val (.int p2), .val (.int p3), .val (.int p4), .val (.int p5), .val (.int v6), .val (.int v7), .val (.int v8), .unset, .unset, .unset, .unset, .unset, .unset, .unset, .unset, .unset, .unset, .unset] [(.int (p5 &&& (8 : Int32)))]))
  refine own_step (S' := s₁.setTop (mkF m 59 #[.val (.int p0), .val (.int p1), .val (.int p2), .val (.int p3), .val (.int p4), .val (.int p5), .val (.int v6), .val (.int v7), .val (.int v8), .unset, .unset, .unset, .unset, .unset, .unset, .unset, .unset, .unset, .unset, .unset] [(.int (if (p5 &&& (8 : Int32)) = (0 : Int32) then p3 else p4))])) (fun t k => ?_) ?_
  · show Steps p.tables e below (s₁.setTop (mkF m 50 #[.val (.int p0), .val (.int p1), .val (.int p2), .val (.int p3), .val (.int p4), .val (.int p5), .val (.int v6), .val (.int v7), .val (.int v8), .unset, .unset, .unset, .unset, .unset, .unset, .unset, .unset, .unset, .unset, .unset] [(.int (p5 &&& (8 : Int32)))])) _
    by_cases hc94 : (p5 &&& (8 : Int32)) = (0 : Int32)
    · --
      refine XS.ifYes X0.here hx rfl (pc0 := 50) (pc' := 58) rfl (hb hby at_50) rfl ((if0 _ _).trans (teq hc94).1) (by decide) (by decide) ?_
      show Steps p.tables e below (s₁.setTop (mkF m 58 #[.val (.int p0), .val (.int p1), .val (.int p2), .val (.int p3), .val (.int p4), .val (.int p5), .val (.int v6), .val (.int v7), .val (.int v8), .unset, .unset, .unset, .unset, .unset, .unset, .unset, .unset, .unset, .unset, .unset] [])) _
      refine XS.iloadN X0.here hx rfl (hb hby at_58) rfl ?_
      show Steps p.tables e below (s₁.setTop (mkF m 59 #[.val (.int p0), .val (.int p1), .val (.int p2), .val (.int p3), .val (.int p4), .val (.int p5), .val (.int v6), .val (.int v7), .val (.int v8), .unset, .unset, .unset, .unset, .unset, .unset, .unset, .unset, .unset, .unset, .unset] [(.int p3)])) _
      simp only [if_pos hc94] at k
      exact k
    · --
      refine XS.ifNo X0.here hx rfl (hb hby at_50) rfl ((if0 _ _).trans (feq hc94).1) ?_
      show Steps p.tables e below (s₁.setTop (mkF m 53 #[.val (.int p0), .val (.int p1), .val (.int p2), .val (.int p3), .val (.int p4), .val (.int p5), .val (.int v6), .val (.int v7), .val (.int v8), .unset, .unset, .unset, .unset, .unset, .unset, .unset, .unset, .unset, .unset, .unset] [])) _
      refine XS.iload X0.here hx rfl (hb hby at_53) rfl ?_
      show Steps p.tables e below (s₁.setTop (mkF m 55 #[.val (.int p0), .val (.int p1), .val (.int p2), .val (.int p3), .val (.int p4), .val (.int p5), .val (.int v6), .val (.int v7), .val (.int v8), .unset, .unset, .unset, .unset, .unset, .unset, .unset, .unset, .unset, .unset, .unset] [(.int p4)])) _
      refine XS.goto X0.here hx rfl (pc0 := 55) (pc' := 59) rfl (hb hby at_55) (by decide) (by decide) ?_
      show Steps p.tables e below (s₁.setTop (mkF m 59 #[.val (.int p0), .val (.int p1), .val (.int p2), .val (.int p3), .val (.int p4), .val (.int p5), .val (.int v6), .val (.int v7), .val (.int v8), .unset, .unset, .unset, .unset, .unset, .unset, .unset, .unset, .unset, .unset, .unset] [(.int p4)])) _
      simp only [if_neg hc94] at k
      exact k
  show own_Goes p e below _ (s₁.setTop (mkF m 59 #[.val (.int p0), .val (.int p1), .val (.int p2), .val (.int p3), .val (.int p4), .val (.int p5), .val (.int v6), .val (.int v7), .val (.int v8), .unset, .unset, .unset, .unset, .unset, .unset, .unset, .unset, .unset, .unset, .unset] [(.int (if (p5 &&& (8 : Int32)) = (0 : Int32) then p3 else p4))]))
  refine own_step (fun t k => XS.istore X0.here hx rfl (hb hby at_59) rfl (l' := #[.val (.int p0), .val (.int p1), .val (.int p2), .val (.int p3), .val (.int p4), .val (.int p5), .val (.int v6), .val (.int v7), .val (.int v8), .val (.int (if (p5 &&& (8 : Int32)) = (0 : Int32) then p3 else p4)), .unset, .unset, .unset, .unset, .unset, .unset, .unset, .unset, .unset, .unset]) rfl k) ?_
  show own_Goes p e below _ (s₁.setTop (mkF m 61 #[.val (.int p0), .val (.int p1), .val (.int p2), .val (.int p3), .val (.int p4), .val (.int p5), .val (.int v6), .val (.int v7), .val (.int v8), .val (.int (if (p5 &&& (8 : Int32)) = (0 : Int32) then p3 else p4)), .unset, .unset, .unset, .unset, .unset, .unset, .unset, .unset, .unset, .unset] []))
  generalize hv_v9 : (if (p5 &&& (8 : Int32)) = (0 : Int32) then p3 else p4) = v9
  obtain ⟨T95, h95, X95, e95, E95, A95, D95, -, st95⟩ := newO X0 hx hZ hown w0 w1 w2 e0 (g := (mkF m 61 #[.val (.int p0), .val (.int p1), .val (.int p2), .val (.int p3), .val (.int p4), .val (.int p5), .val (.int v6), .val (.int v7), .val (.int v8), .val (.int v9), .unset, .unset, .unset, .unset, .unset, .unset, .unset, .unset, .unset, .unset] [])) rfl (hb hby at_61) (by decide) (by decide)
  obtain ⟨b95, g95⟩ : ∃ z, z = h0.size := ⟨_, rfl⟩
  rw [← g95] at A95 D95 st95
  have g_b95 : n0 ≤ b95 := Nat.le_trans Z0 (Nat.le_of_eq g95.symm)
  have sz_b95 : h0.size ≤ b95 := Nat.le_trans K0.1 (Nat.le_of_eq g95.symm)
  have K96 : Keep h0 h95 [] := K0.ext E95
  have F_left_b95 : Fld Z h95 b95 "com/example/heed/heed/Rect" "left" "I" (.int (0 : Int32)) := D95 (Or.inr w10) (ty := .int) (by decide)
  have F_top_b95 : Fld Z h95 b95 "com/example/heed/heed/Rect" "top" "I" (.int (0 : Int32)) := D95 (Or.inr w12) (ty := .int) (by decide)
  have F_right_b95 : Fld Z h95 b95 "com/example/heed/heed/Rect" "right" "I" (.int (0 : Int32)) := D95 (Or.inr w14) (ty := .int) (by decide)
  have F_bottom_b95 : Fld Z h95 b95 "com/example/heed/heed/Rect" "bottom" "I" (.int (0 : Int32)) := D95 (Or.inr w16) (ty := .int) (by decide)
  refine own_step st95 ?_
  show own_Goes p e below _ (T95.setTop (mkF m 64 #[.val (.int p0), .val (.int p1), .val (.int p2), .val (.int p3), .val (.int p4), .val (.int p5), .val (.int v6), .val (.int v7), .val (.int v8), .val (.int v9), .unset, .unset, .unset, .unset, .unset, .unset, .unset, .unset, .unset, .unset] [(.ref b95)]))
  refine own_step (fun t k => XS.dup X95.here hx rfl (hb hby at_64) rfl rfl k) ?_
  show own_Goes p e below _ (T95.setTop (mkF m 65 #[.val (.int p0), .val (.int p1), .val (.int p2), .val (.int p3), .val (.int p4), .val (.int p5), .val (.int v6), .val (.int v7), .val (.int v8), .val (.int v9), .unset, .unset, .unset, .unset, .unset, .unset, .unset, .unset, .unset, .unset] [(.ref b95), (.ref b95)]))
  refine own_step (fun t k => XS.iloadN X95.here hx rfl (hb hby at_65) rfl k) ?_
  show own_Goes p e below _ (T95.setTop (mkF m 66 #[.val (.int p0), .val (.int p1), .val (.int p2), .val (.int p3), .val (.int p4), .val (.int p5), .val (.int v6), .val (.int v7), .val (.int v8), .val (.int v9), .unset, .unset, .unset, .unset, .unset, .unset, .unset, .unset, .unset, .unset] [(.int p0), (.ref b95), (.ref b95)]))
  refine own_step (fun t k => XS.iloadN X95.here hx rfl (hb hby at_66) rfl k) ?_
  show own_Goes p e below _ (T95.setTop (mkF m 67 #[.val (.int p0), .val (.int p1), .val (.int p2), .val (.int p3), .val (.int p4), .val (.int p5), .val (.int v6), .val (.int v7), .val (.int v8), .val (.int v9), .unset, .unset, .unset, .unset, .unset, .unset, .unset, .unset, .unset, .unset] [(.int p1), (.int p0), (.ref b95), (.ref b95)]))
  refine own_step (fun t k => XS.iloadN X95.here hx rfl (hb hby at_67) rfl k) ?_
  show own_Goes p e below _ (T95.setTop (mkF m 68 #[.val (.int p0), .val (.int p1), .val (.int p2), .val (.int p3), .val (.int p4), .val (.int p5), .val (.int v6), .val (.int v7), .val (.int v8), .val (.int v9), .unset, .unset, .unset, .unset, .unset, .unset, .unset, .unset, .unset, .unset] [(.int p2), (.int p1), (.int p0), (.ref b95), (.ref b95)]))
  refine own_step (fun t k => XS.iloadN X95.here hx rfl (hb hby at_68) rfl k) ?_
  show own_Goes p e below _ (T95.setTop (mkF m 69 #[.val (.int p0), .val (.int p1), .val (.int p2), .val (.int p3), .val (.int p4), .val (.int p5), .val (.int v6), .val (.int v7), .val (.int v8), .val (.int v9), .unset, .unset, .unset, .unset, .unset, .unset, .unset, .unset, .unset, .unset] [(.int p3), (.int p2), (.int p1), (.int p0), (.ref b95), (.ref b95)]))
  obtain ⟨_, _, ⟨T97, L97, k97, n97⟩, -, X97, ⟨Lc97, hQ97, l97, y97, z97⟩, st97⟩ := X95.specialBack hx (y := (⟨"com/example/heed/heed/Rect", "<init>", "(IIII)V"⟩ : MethodName)) rfl hown (mvT hZ w3) (mvT hZ w4) (mvT hZ w5) (by decide) (backOf (W := 1) (own_b1 l Z a0 hw [] b95 p0 p1 p2 p3 ((.int (0 : Int32))) ((.int (0 : Int32))) ((.int (0 : Int32))) ((.int (0 : Int32))) h95 n0 (Nat.le_trans Z0 E95.1) A95 g_b95 F_left_b95 F_top_b95 F_right_b95 F_bottom_b95) hZ w5 w2 (by decide) (by decide)) (g := (mkF m 69 #[.val (.int p0), .val (.int p1), .val (.int p2), .val (.int p3), .val (.int p4), .val (.int p5), .val (.int v6), .val (.int v7), .val (.int v8), .val (.int v9), .unset, .unset, .unset, .unset, .unset, .unset, .unset, .unset, .unset, .unset] [(.int p3), (.int p2), (.int p1), (.int p0), (.ref b95), (.ref b95)])) rfl (by rw [hml]; rfl) (Steps.refl _) (a := b95) (argsL := [(.int p0), (.int p1), (.int p2), (.int p3)]) (rest := [(.ref b95)]) (lenOf own_pd2 rfl) rfl (by show 2 * 0 + _ ≤ _; exact Nat.le_of_eq rfl) (hb hby at_69) (fun _ _ => ⟨rfl, e95, (by decide : 1 + 0 ≤ _), (by decide : 4 + 0 ≤ _)⟩)
  dsimp only [Pt.U, Pt.locs, Pt.cells, Pt.slots] at X97 l97 y97 z97 st97 hQ97
  subst l97 y97 z97
  obtain ⟨rfl, N97q, K97c, f97_0, f97_1, f97_2, f97_3, f97_4⟩ := hQ97
  have N97 := Fr.app N0 N97q
  refine own_jump st97 ?_
  have K98 : Keep h0 T97.heap [] := K96.trans K97c (allS (Or.inr sz_b95) all0)
  show own_Goes p e below _ (T97.setTop (mkF m 72 #[.val (.int p0), .val (.int p1), .val (.int p2), .val (.int p3), .val (.int p4), .val (.int p5), .val (.int v6), .val (.int v7), .val (.int v8), .val (.int v9), .unset, .unset, .unset, .unset, .unset, .unset, .unset, .unset, .unset, .unset] [(.ref b95)]))
  refine own_step (fun t k => XS.astore X97.here hx rfl (hb hby at_72) rfl rfl (l' := #[.val (.int p0), .val (.int p1), .val (.int p2), .val (.int p3), .val (.int p4), .val (.int p5), .val (.int v6), .val (.int v7), .val (.int v8), .val (.int v9), .val (.ref b95), .unset, .unset, .unset, .unset, .unset, .unset, .unset, .unset, .unset]) rfl k) ?_
  show own_Goes p e below _ (T97.setTop (mkF m 74 #[.val (.int p0), .val (.int p1), .val (.int p2), .val (.int p3), .val (.int p4), .val (.int p5), .val (.int v6), .val (.int v7), .val (.int v8), .val (.int v9), .val (.ref b95), .unset, .unset, .unset, .unset, .unset, .unset, .unset, .unset, .unset] []))
  obtain ⟨T99, h99, X99, e99, E99, A99, D99, -, st99⟩ := newO X97 hx hZ hown w0 w1 w2 rfl (g := (mkF m 74 #[.val (.int p0), .val (.int p1), .val (.int p2), .val (.int p3), .val (.int p4), .val (.int p5), .val (.int v6), .val (.int v7), .val (.int v8), .val (.int v9), .val (.ref b95), .unset, .unset, .unset, .unset, .unset, .unset, .unset, .unset, .unset] [])) rfl (hb hby at_74) (by decide) (by decide)
  obtain ⟨b99, g99⟩ : ∃ z, z = T97.heap.size := ⟨_, rfl⟩
  rw [← g99] at A99 D99 st99
  have ne_b95_b99 : b95 ≠ b99 := Nat.ne_of_lt (Nat.lt_of_lt_of_le f97_0.lt (Nat.le_of_eq g99.symm))
  have g_b99 : n0 ≤ b99 := Nat.le_trans (Nat.le_trans (Nat.le_trans Z0 E95.1) K97c.1) (Nat.le_of_eq g99.symm)
  have sz_b99 : h0.size ≤ b99 := Nat.le_trans K98.1 (Nat.le_of_eq g99.symm)
  have K100 : Keep h0 h99 [] := K98.ext E99
  have F_left_b99 : Fld Z h99 b99 "com/example/heed/heed/Rect" "left" "I" (.int (0 : Int32)) := D99 (Or.inr w10) (ty := .int) (by decide)
  have F_top_b99 : Fld Z h99 b99 "com/example/heed/heed/Rect" "top" "I" (.int (0 : Int32)) := D99 (Or.inr w12) (ty := .int) (by decide)
  have F_right_b99 : Fld Z h99 b99 "com/example/heed/heed/Rect" "right" "I" (.int (0 : Int32)) := D99 (Or.inr w14) (ty := .int) (by decide)
  have F_bottom_b99 : Fld Z h99 b99 "com/example/heed/heed/Rect" "bottom" "I" (.int (0 : Int32)) := D99 (Or.inr w16) (ty := .int) (by decide)
  refine own_step st99 ?_
  show own_Goes p e below _ (T99.setTop (mkF m 77 #[.val (.int p0), .val (.int p1), .val (.int p2), .val (.int p3), .val (.int p4), .val (.int p5), .val (.int v6), .val (.int v7), .val (.int v8), .val (.int v9), .val (.ref b95), .unset, .unset, .unset, .unset, .unset, .unset, .unset, .unset, .unset] [(.ref b99)]))
  refine own_step (fun t k => XS.dup X99.here hx rfl (hb hby at_77) rfl rfl k) ?_
  show own_Goes p e below _ (T99.setTop (mkF m 78 #[.val (.int p0), .val (.int p1), .val (.int p2), .val (.int p3), .val (.int p4), .val (.int p5), .val (.int v6), .val (.int v7), .val (.int v8), .val (.int v9), .val (.ref b95), .unset, .unset, .unset, .unset, .unset, .unset, .unset, .unset, .unset] [(.ref b99), (.ref b99)]))
  refine own_step (fun t k => XS.iload X99.here hx rfl (hb hby at_78) rfl k) ?_
  show own_Goes p e below _ (T99.setTop (mkF m 80 #[.val (.int p0), .val (.int p1), .val (.int p2), .val (.int p3), .val (.int p4), .val (.int p5), .val (.int v6), .val (.int v7), .val (.int v8), .val (.int v9), .val (.ref b95), .unset, .unset, .unset, .unset, .unset, .unset, .unset, .unset, .unset] [(.int v6), (.ref b99), (.ref b99)]))
  refine own_step (fun t k => XS.iload X99.here hx rfl (hb hby at_80) rfl k) ?_
  show own_Goes p e below _ (T99.setTop (mkF m 82 #[.val (.int p0), .val (.int p1), .val (.int p2), .val (.int p3), .val (.int p4), .val (.int p5), .val (.int v6), .val (.int v7), .val (.int v8), .val (.int v9), .val (.ref b95), .unset, .unset, .unset, .unset, .unset, .unset, .unset, .unset, .unset] [(.int v7), (.int v6), (.ref b99), (.ref b99)]))
  refine own_step (fun t k => XS.iload X99.here hx rfl (hb hby at_82) rfl k) ?_
  show own_Goes p e below _ (T99.setTop (mkF m 84 #[.val (.int p0), .val (.int p1), .val (.int p2), .val (.int p3), .val (.int p4), .val (.int p5), .val (.int v6), .val (.int v7), .val (.int v8), .val (.int v9), .val (.ref b95), .unset, .unset, .unset, .unset, .unset, .unset, .unset, .unset, .unset] [(.int v8), (.int v7), (.int v6), (.ref b99), (.ref b99)]))
  refine own_step (fun t k => XS.iload X99.here hx rfl (hb hby at_84) rfl k) ?_
  show own_Goes p e below _ (T99.setTop (mkF m 86 #[.val (.int p0), .val (.int p1), .val (.int p2), .val (.int p3), .val (.int p4), .val (.int p5), .val (.int v6), .val (.int v7), .val (.int v8), .val (.int v9), .val (.ref b95), .unset, .unset, .unset, .unset, .unset, .unset, .unset, .unset, .unset] [(.int v9), (.int v8), (.int v7), (.int v6), (.ref b99), (.ref b99)]))
  obtain ⟨_, _, ⟨T101, L101, k101, n101⟩, -, X101, ⟨Lc101, hQ101, l101, y101, z101⟩, st101⟩ := X99.specialBack hx (y := (⟨"com/example/heed/heed/Rect", "<init>", "(IIII)V"⟩ : MethodName)) rfl hown (mvT hZ w3) (mvT hZ w4) (mvT hZ w5) (by decide) (backOf (W := 1) (own_b1 l Z a0 hw [] b99 v6 v7 v8 v9 ((.int (0 : Int32))) ((.int (0 : Int32))) ((.int (0 : Int32))) ((.int (0 : Int32))) h99 n0 (Nat.le_trans (Nat.le_trans (Nat.le_trans Z0 E95.1) K97c.1) E99.1) A99 g_b99 F_left_b99 F_top_b99 F_right_b99 F_bottom_b99) hZ w5 w2 (by decide) (by decide)) (g := (mkF m 86 #[.val (.int p0), .val (.int p1), .val (.int p2), .val (.int p3), .val (.int p4), .val (.int p5), .val (.int v6), .val (.int v7), .val (.int v8), .val (.int v9), .val (.ref b95), .unset, .unset, .unset, .unset, .unset, .unset, .unset, .unset, .unset] [(.int v9), (.int v8), (.int v7), (.int v6), (.ref b99), (.ref b99)])) rfl (by rw [hml]; rfl) (Steps.refl _) (a := b99) (argsL := [(.int v6), (.int v7), (.int v8), (.int v9)]) (rest := [(.ref b99)]) (lenOf own_pd2 rfl) rfl (by show 2 * 0 + _ ≤ _; exact Nat.le_of_eq rfl) (hb hby at_86) (fun _ _ => ⟨rfl, e99, (by decide : 2 + 0 ≤ _), (by decide : 8 + 0 ≤ _)⟩)
  dsimp only [Pt.U, Pt.locs, Pt.cells, Pt.slots] at X101 l101 y101 z101 st101 hQ101
  subst l101 y101 z101
  obtain ⟨rfl, N101q, K101c, f101_0, f101_1, f101_2, f101_3, f101_4⟩ := hQ101
  have N101 := Fr.app N97 N101q
  refine own_jump st101 ?_
  have K102 : Keep h0 T101.heap [] := K100.trans K101c (allS (Or.inr sz_b99) all0)
  show own_Goes p e below _ (T101.setTop (mkF m 89 #[.val (.int p0), .val (.int p1), .val (.int p2), .val (.int p3), .val (.int p4), .val (.int p5), .val (.int v6), .val (.int v7), .val (.int v8), .val (.int v9), .val (.ref b95), .unset, .unset, .unset, .unset, .unset, .unset, .unset, .unset, .unset] [(.ref b99)]))
  refine own_step (fun t k => XS.astore X101.here hx rfl (hb hby at_89) rfl rfl (l' := #[.val (.int p0), .val (.int p1), .val (.int p2), .val (.int p3), .val (.int p4), .val (.int p5), .val (.int v6), .val (.int v7), .val (.int v8), .val (.int v9), .val (.ref b95), .val (.ref b99), .unset, .unset, .unset, .unset, .unset, .unset, .unset, .unset]) rfl k) ?_
  show own_Goes p e below _ (T101.setTop (mkF m 91 #[.val (.int p0), .val (.int p1), .val (.int p2), .val (.int p3), .val (.int p4), .val (.int p5), .val (.int v6), .val (.int v7), .val (.int v8), .val (.int v9), .val (.ref b95), .val (.ref b99), .unset, .unset, .unset, .unset, .unset, .unset, .unset, .unset] []))
  refine own_step (fun t k => XS.iloadN X101.here hx rfl (hb hby at_91) rfl k) ?_
  show own_Goes p e below _ (T101.setTop (mkF m 92 #[.val (.int p0), .val (.int p1), .val (.int p2), .val (.int p3), .val (.int p4), .val (.int p5), .val (.int v6), .val (.int v7), .val (.int v8), .val (.int v9), .val (.ref b95), .val (.ref b99), .unset, .unset, .unset, .unset, .unset, .unset, .unset, .unset] [(.int p0)]))
  refine own_step (fun t k => XS.iload X101.here hx rfl (hb hby at_92) rfl k) ?_
  show own_Goes p e below _ (T101.setTop (mkF m 94 #[.val (.int p0), .val (.int p1), .val (.int p2), .val (.int p3), .val (.int p4), .val (.int p5), .val (.int v6), .val (.int v7), .val (.int v8), .val (.int v9), .val (.ref b95), .val (.ref b99), .unset, .unset, .unset, .unset, .unset, .unset, .unset, .unset] [(.int v6), (.int p0)]))
  refine own_step (S' := T101.setTop (mkF m 120 #[.val (.int p0), .val (.int p1), .val (.int p2), .val (.int p3), .val (.int p4), .val (.int p5), .val (.int v6), .val (.int v7), .val (.int v8), .val (.int v9), .val (.ref b95), .val (.ref b99), .unset, .unset, .unset, .unset, .unset, .unset, .unset, .unset] [(.int (if p0 = v6 then (if p1 = v7 then (if p2 = v8 then (if p3 = v9 then (1 : Int32) else (0 : Int32)) else (0 : Int32)) else (0 : Int32)) else (0 : Int32)))])) (fun t k => ?_) ?_
  · show Steps p.tables e below (T101.setTop (mkF m 94 #[.val (.int p0), .val (.int p1), .val (.int p2), .val (.int p3), .val (.int p4), .val (.int p5), .val (.int v6), .val (.int v7), .val (.int v8), .val (.int v9), .val (.ref b95), .val (.ref b99), .unset, .unset, .unset, .unset, .unset, .unset, .unset, .unset] [(.int v6), (.int p0)])) _
    by_cases hc103 : p0 = v6
    · --
      refine XS.icmpNo X101.here hx rfl (hb hby at_94) rfl (teq hc103).2 ?_
      show Steps p.tables e below (T101.setTop (mkF m 97 #[.val (.int p0), .val (.int p1), .val (.int p2), .val (.int p3), .val (.int p4), .val (.int p5), .val (.int v6), .val (.int v7), .val (.int v8), .val (.int v9), .val (.ref b95), .val (.ref b99), .unset, .unset, .unset, .unset, .unset, .unset, .unset, .unset] [])) _
      refine XS.iloadN X101.here hx rfl (hb hby at_97) rfl ?_
      show Steps p.tables e below (T101.setTop (mkF m 98 #[.val (.int p0), .val (.int p1), .val (.int p2), .val (.int p3), .val (.int p4), .val (.int p5), .val (.int v6), .val (.int v7), .val (.int v8), .val (.int v9), .val (.ref b95), .val (.ref b99), .unset, .unset, .unset, .unset, .unset, .unset, .unset, .unset] [(.int p1)])) _
      refine XS.iload X101.here hx rfl (hb hby at_98) rfl ?_
      show Steps p.tables e below (T101.setTop (mkF m 100 #[.val (.int p0), .val (.int p1), .val (.int p2), .val (.int p3), .val (.int p4), .val (.int p5), .val (.int v6), .val (.int v7), .val (.int v8), .val (.int v9), .val (.ref b95), .val (.ref b99), .unset, .unset, .unset, .unset, .unset, .unset, .unset, .unset] [(.int v7), (.int p1)])) _
      by_cases hc104 : p1 = v7
      · --
        refine XS.icmpNo X101.here hx rfl (hb hby at_100) rfl (teq hc104).2 ?_
        show Steps p.tables e below (T101.setTop (mkF m 103 #[.val (.int p0), .val (.int p1), .val (.int p2), .val (.int p3), .val (.int p4), .val (.int p5), .val (.int v6), .val (.int v7), .val (.int v8), .val (.int v9), .val (.ref b95), .val (.ref b99), .unset, .unset, .unset, .unset, .unset, .unset, .unset, .unset] [])) _
        refine XS.iloadN X101.here hx rfl (hb hby at_103) rfl ?_
        show Steps p.tables e below (T101.setTop (mkF m 104 #[.val (.int p0), .val (.int p1), .val (.int p2), .val (.int p3), .val (.int p4), .val (.int p5), .val (.int v6), .val (.int v7), .val (.int v8), .val (.int v9), .val (.ref b95), .val (.ref b99), .unset, .unset, .unset, .unset, .unset, .unset, .unset, .unset] [(.int p2)])) _
        refine XS.iload X101.here hx rfl (hb hby at_104) rfl ?_
        show Steps p.tables e below (T101.setTop (mkF m 106 #[.val (.int p0), .val (.int p1), .val (.int p2), .val (.int p3), .val (.int p4), .val (.int p5), .val (.int v6), .val (.int v7), .val (.int v8), .val (.int v9), .val (.ref b95), .val (.ref b99), .unset, .unset, .unset, .unset, .unset, .unset, .unset, .unset] [(.int v8), (.int p2)])) _
        by_cases hc105 : p2 = v8
        · --
          refine XS.icmpNo X101.here hx rfl (hb hby at_106) rfl (teq hc105).2 ?_
          show Steps p.tables e below (T101.setTop (mkF m 109 #[.val (.int p0), .val (.int p1), .val (.int p2), .val (.int p3), .val (.int p4), .val (.int p5), .val (.int v6), .val (.int v7), .val (.int v8), .val (.int v9), .val (.ref b95), .val (.ref b99), .unset, .unset, .unset, .unset, .unset, .unset, .unset, .unset] [])) _
          refine XS.iloadN X101.here hx rfl (hb hby at_109) rfl ?_
          show Steps p.tables e below (T101.setTop (mkF m 110 #[.val (.int p0), .val (.int p1), .val (.int p2), .val (.int p3), .val (.int p4), .val (.int p5), .val (.int v6), .val (.int v7), .val (.int v8), .val (.int v9), .val (.ref b95), .val (.ref b99), .unset, .unset, .unset, .unset, .unset, .unset, .unset, .unset] [(.int p3)])) _
          refine XS.iload X101.here hx rfl (hb hby at_110) rfl ?_
          show Steps p.tables e below (T101.setTop (mkF m 112 #[.val (.int p0), .val (.int p1), .val (.int p2), .val (.int p3), .val (.int p4), .val (.int p5), .val (.int v6), .val (.int v7), .val (.int v8), .val (.int v9), .val (.ref b95), .val (.ref b99), .unset, .unset, .unset, .unset, .unset, .unset, .unset, .unset] [(.int v9), (.int p3)])) _
          by_cases hc106 : p3 = v9
          · --
            refine XS.icmpNo X101.here hx rfl (hb hby at_112) rfl (teq hc106).2 ?_
            show Steps p.tables e below (T101.setTop (mkF m 115 #[.val (.int p0), .val (.int p1), .val (.int p2), .val (.int p3), .val (.int p4), .val (.int p5), .val (.int v6), .val (.int v7), .val (.int v8), .val (.int v9), .val (.ref b95), .val (.ref b99), .unset, .unset, .unset, .unset, .unset, .unset, .unset, .unset] [])) _
            refine XS.iconst X101.here hx rfl (hb hby at_115) ?_
            show Steps p.tables e below (T101.setTop (mkF m 116 #[.val (.int p0), .val (.int p1), .val (.int p2), .val (.int p3), .val (.int p4), .val (.int p5), .val (.int v6), .val (.int v7), .val (.int v8), .val (.int v9), .val (.ref b95), .val (.ref b99), .unset, .unset, .unset, .unset, .unset, .unset, .unset, .unset] [(.int (1 : Int32))])) _
            refine XS.goto X101.here hx rfl (pc0 := 116) (pc' := 120) rfl (hb hby at_116) (by decide) (by decide) ?_
            show Steps p.tables e below (T101.setTop (mkF m 120 #[.val (.int p0), .val (.int p1), .val (.int p2), .val (.int p3), .val (.int p4), .val (.int p5), .val (.int v6), .val (.int v7), .val (.int v8), .val (.int v9), .val (.ref b95), .val (.ref b99), .unset, .unset, .unset, .unset, .unset, .unset, .unset, .unset] [(.int (1 : Int32))])) _
            simp only [if_pos hc103, if_pos hc104, if_pos hc105, if_pos hc106] at k
            exact k
          · --
            refine XS.icmpYes X101.here hx rfl (pc0 := 112) (pc' := 119) rfl (hb hby at_112) rfl (feq hc106).2 (by decide) (by decide) ?_
            show Steps p.tables e below (T101.setTop (mkF m 119 #[.val (.int p0), .val (.int p1), .val (.int p2), .val (.int p3), .val (.int p4), .val (.int p5), .val (.int v6), .val (.int v7), .val (.int v8), .val (.int v9), .val (.ref b95), .val (.ref b99), .unset, .unset, .unset, .unset, .unset, .unset, .unset, .unset] [])) _
            refine XS.iconst X101.here hx rfl (hb hby at_119) ?_
            show Steps p.tables e below (T101.setTop (mkF m 120 #[.val (.int p0), .val (.int p1), .val (.int p2), .val (.int p3), .val (.int p4), .val (.int p5), .val (.int v6), .val (.int v7), .val (.int v8), .val (.int v9), .val (.ref b95), .val (.ref b99), .unset, .unset, .unset, .unset, .unset, .unset, .unset, .unset] [(.int (0 : Int32))])) _
            simp only [if_pos hc103, if_pos hc104, if_pos hc105, if_neg hc106] at k
            exact k
        · --
          refine XS.icmpYes X101.here hx rfl (pc0 := 106) (pc' := 119) rfl (hb hby at_106) rfl (feq hc105).2 (by decide) (by decide) ?_
          show Steps p.tables e below (T101.setTop (mkF m 119 #[.val (.int p0), .val (.int p1), .val (.int p2), .val (.int p3), .val (.int p4), .val (.int p5), .val (.int v6), .val (.int v7), .val (.int v8), .val (.int v9), .val (.ref b95), .val (.ref b99), .unset, .unset, .unset, .unset, .unset, .unset, .unset, .unset] [])) _
          refine XS.iconst X101.here hx rfl (hb hby at_119) ?_
          show Steps p.tables e below (T101.setTop (mkF m 120 #[.val (.int p0), .val (.int p1), .val (.int p2), .val (.int p3), .val (.int p4), .val (.int p5), .val (.int v6), .val (.int v7), .val (.int v8), .val (.int v9), .val (.ref b95), .val (.ref b99), .unset, .unset, .unset, .unset, .unset, .unset, .unset, .unset] [(.int (0 : Int32))])) _
          simp only [if_pos hc103, if_pos hc104, if_neg hc105] at k
          exact k
      · --
        refine XS.icmpYes X101.here hx rfl (pc0 := 100) (pc' := 119) rfl (hb hby at_100) rfl (feq hc104).2 (by decide) (by decide) ?_
        show Steps p.tables e below (T101.setTop (mkF m 119 #[.val (.int p0), .val (.int p1), .val (.int p2), .val (.int p3), .val (.int p4), .val (.int p5), .val (.int v6), .val (.int v7), .val (.int v8), .val (.int v9), .val (.ref b95), .val (.ref b99), .unset, .unset, .unset, .unset, .unset, .unset, .unset, .unset] [])) _
        refine XS.iconst X101.here hx rfl (hb hby at_119) ?_
        show Steps p.tables e below (T101.setTop (mkF m 120 #[.val (.int p0), .val (.int p1), .val (.int p2), .val (.int p3), .val (.int p4), .val (.int p5), .val (.int v6), .val (.int v7), .val (.int v8), .val (.int v9), .val (.ref b95), .val (.ref b99), .unset, .unset, .unset, .unset, .unset, .unset, .unset, .unset] [(.int (0 : Int32))])) _
        simp only [if_pos hc103, if_neg hc104] at k
        exact k
    · --
      refine XS.icmpYes X101.here hx rfl (pc0 := 94) (pc' := 119) rfl (hb hby at_94) rfl (feq hc103).2 (by decide) (by decide) ?_
      show Steps p.tables e below (T101.setTop (mkF m 119 #[.val (.int p0), .val (.int p1), .val (.int p2), .val (.int p3), .val (.int p4), .val (.int p5), .val (.int v6), .val (.int v7), .val (.int v8), .val (.int v9), .val (.ref b95), .val (.ref b99), .unset, .unset, .unset, .unset, .unset, .unset, .unset, .unset] [])) _
      refine XS.iconst X101.here hx rfl (hb hby at_119) ?_
      show Steps p.tables e below (T101.setTop (mkF m 120 #[.val (.int p0), .val (.int p1), .val (.int p2), .val (.int p3), .val (.int p4), .val (.int p5), .val (.int v6), .val (.int v7), .val (.int v8), .val (.int v9), .val (.ref b95), .val (.ref b99), .unset, .unset, .unset, .unset, .unset, .unset, .unset, .unset] [(.int (0 : Int32))])) _
      simp only [if_neg hc103] at k
      exact k
  show own_Goes p e below _ (T101.setTop (mkF m 120 #[.val (.int p0), .val (.int p1), .val (.int p2), .val (.int p3), .val (.int p4), .val (.int p5), .val (.int v6), .val (.int v7), .val (.int v8), .val (.int v9), .val (.ref b95), .val (.ref b99), .unset, .unset, .unset, .unset, .unset, .unset, .unset, .unset] [(.int (if p0 = v6 then (if p1 = v7 then (if p2 = v8 then (if p3 = v9 then (1 : Int32) else (0 : Int32)) else (0 : Int32)) else (0 : Int32)) else (0 : Int32)))]))
  refine own_step (fun t k => XS.istore X101.here hx rfl (hb hby at_120) rfl (l' := #[.val (.int p0), .val (.int p1), .val (.int p2), .val (.int p3), .val (.int p4), .val (.int p5), .val (.int v6), .val (.int v7), .val (.int v8), .val (.int v9), .val (.ref b95), .val (.ref b99), .val (.int (if p0 = v6 then (if p1 = v7 then (if p2 = v8 then (if p3 = v9 then (1 : Int32) else (0 : Int32)) else (0 : Int32)) else (0 : Int32)) else (0 : Int32))), .unset, .unset, .unset, .unset, .unset, .unset, .unset]) rfl k) ?_
  show own_Goes p e below _ (T101.setTop (mkF m 122 #[.val (.int p0), .val (.int p1), .val (.int p2), .val (.int p3), .val (.int p4), .val (.int p5), .val (.int v6), .val (.int v7), .val (.int v8), .val (.int v9), .val (.ref b95), .val (.ref b99), .val (.int (if p0 = v6 then (if p1 = v7 then (if p2 = v8 then (if p3 = v9 then (1 : Int32) else (0 : Int32)) else (0 : Int32)) else (0 : Int32)) else (0 : Int32))), .unset, .unset, .unset, .unset, .unset, .unset, .unset] []))
  generalize hv_vexp : (if p0 = v6 then (if p1 = v7 then (if p2 = v8 then (if p3 = v9 then (1 : Int32) else (0 : Int32)) else (0 : Int32)) else (0 : Int32)) else (0 : Int32)) = vexp
  refine own_step (fun t k => XS.aconstNull X101.here hx rfl (hb hby at_122) k) ?_
  show own_Goes p e below _ (T101.setTop (mkF m 123 #[.val (.int p0), .val (.int p1), .val (.int p2), .val (.int p3), .val (.int p4), .val (.int p5), .val (.int v6), .val (.int v7), .val (.int v8), .val (.int v9), .val (.ref b95), .val (.ref b99), .val (.int vexp), .unset, .unset, .unset, .unset, .unset, .unset, .unset] [.null]))
  refine own_step (fun t k => XS.astore X101.here hx rfl (hb hby at_123) rfl rfl (l' := #[.val (.int p0), .val (.int p1), .val (.int p2), .val (.int p3), .val (.int p4), .val (.int p5), .val (.int v6), .val (.int v7), .val (.int v8), .val (.int v9), .val (.ref b95), .val (.ref b99), .val (.int vexp), .val .null, .unset, .unset, .unset, .unset, .unset, .unset]) rfl k) ?_
  show own_Goes p e below _ (T101.setTop (mkF m 125 #[.val (.int p0), .val (.int p1), .val (.int p2), .val (.int p3), .val (.int p4), .val (.int p5), .val (.int v6), .val (.int v7), .val (.int v8), .val (.int v9), .val (.ref b95), .val (.ref b99), .val (.int vexp), .val .null, .unset, .unset, .unset, .unset, .unset, .unset] []))
  refine own_step (fun t k => XS.iloadN X101.here hx rfl (hb hby at_125) rfl k) ?_
  show own_Goes p e below _ (T101.setTop (mkF m 126 #[.val (.int p0), .val (.int p1), .val (.int p2), .val (.int p3), .val (.int p4), .val (.int p5), .val (.int v6), .val (.int v7), .val (.int v8), .val (.int v9), .val (.ref b95), .val (.ref b99), .val (.int vexp), .val .null, .unset, .unset, .unset, .unset, .unset, .unset] [(.int p0)]))
  obtain ⟨_, _, ⟨T107, L107, k107, n107⟩, -, X107, ⟨Lc107, hQ107, l107, y107, z107⟩, st107⟩ := Jvm.LawKit.callS X101 hx (y := (⟨"java/lang/Integer", "valueOf", "(I)Ljava/lang/Integer;"⟩ : MethodName)) hown (mvT hZ w17) (mvT hZ w18) (mvT hZ w19) (mvT hZ w20) (by decide) (backOf (W := 0) (own_n3 l Z a0 hw [] p0 (wc) (cC) T101.heap n0 (Nat.le_trans (Nat.le_trans (Nat.le_trans (Nat.le_trans Z0 E95.1) K97c.1) E99.1) K101c.1) S_high S_cache ((((O0.ext E95).keep K97c (allS g_b95 all0)).ext E99).keep K101c (allS g_b99 all0)) (hbx)) hZ w20 w19 (by decide) (by decide)) (g := (mkF m 126 #[.val (.int p0), .val (.int p1), .val (.int p2), .val (.int p3), .val (.int p4), .val (.int p5), .val (.int v6), .val (.int v7), .val (.int v8), .val (.int v9), .val (.ref b95), .val (.ref b99), .val (.int vexp), .val .null, .unset, .unset, .unset, .unset, .unset, .unset] [(.int p0)])) rfl (by rw [hml]; rfl) (argsL := [(.int p0)]) (rest := []) (lenOf own_pd3 rfl) rfl (by show 2 * 0 + _ ≤ _; exact Nat.le_of_eq rfl) (hb hby at_126) (fun _ _ => ⟨rfl, rfl, (by decide : 2 + 1 ≤ _), (by decide : 8 + 1 ≤ _)⟩)
  dsimp only [Pt.U, Pt.locs, Pt.cells, Pt.slots] at X107 l107 y107 z107 st107 hQ107
  subst l107 y107 z107
  obtain ⟨xx_107, rfl, N107q, K107c, f107_0⟩ := hQ107
  have N107 := Fr.app N101 N107q
  refine own_step st107 ?_
  have K108 : Keep h0 T107.heap [] := K102.trans K107c all0
  show own_Goes p e below _ (T107.setTop (mkF m 129 #[.val (.int p0), .val (.int p1), .val (.int p2), .val (.int p3), .val (.int p4), .val (.int p5), .val (.int v6), .val (.int v7), .val (.int v8), .val (.int v9), .val (.ref b95), .val (.ref b99), .val (.int vexp), .val .null, .unset, .unset, .unset, .unset, .unset, .unset] [(.ref xx_107)]))
  refine own_step (fun t k => XS.astore X107.here hx rfl (hb hby at_129) rfl rfl (l' := #[.val (.int p0), .val (.int p1), .val (.int p2), .val (.int p3), .val (.int p4), .val (.int p5), .val (.int v6), .val (.int v7), .val (.int v8), .val (.int v9), .val (.ref b95), .val (.ref b99), .val (.int vexp), .val .null, .val (.ref xx_107), .unset, .unset, .unset, .unset, .unset]) rfl k) ?_
  show own_Goes p e below _ (T107.setTop (mkF m 131 #[.val (.int p0), .val (.int p1), .val (.int p2), .val (.int p3), .val (.int p4), .val (.int p5), .val (.int v6), .val (.int v7), .val (.int v8), .val (.int v9), .val (.ref b95), .val (.ref b99), .val (.int vexp), .val .null, .val (.ref xx_107), .unset, .unset, .unset, .unset, .unset] []))
  refine own_step (fun t k => XS.aload X107.here hx rfl (hb hby at_131) rfl rfl k) ?_
  show own_Goes p e below _ (T107.setTop (mkF m 133 #[.val (.int p0), .val (.int p1), .val (.int p2), .val (.int p3), .val (.int p4), .val (.int p5), .val (.int v6), .val (.int v7), .val (.int v8), .val (.int v9), .val (.ref b95), .val (.ref b99), .val (.int vexp), .val .null, .val (.ref xx_107), .unset, .unset, .unset, .unset, .unset] [(.ref b95)]))
  refine own_step (fun t k => XS.aload X107.here hx rfl (hb hby at_133) rfl rfl k) ?_
  show own_Goes p e below _ (T107.setTop (mkF m 135 #[.val (.int p0), .val (.int p1), .val (.int p2), .val (.int p3), .val (.int p4), .val (.int p5), .val (.int v6), .val (.int v7), .val (.int v8), .val (.int v9), .val (.ref b95), .val (.ref b99), .val (.int vexp), .val .null, .val (.ref xx_107), .unset, .unset, .unset, .unset, .unset] [(.ref b99), (.ref b95)]))
  obtain ⟨cq109, kq109, q109a, q109b, q109c⟩ := isOf hZ rfl (((f97_0.ext E99).keep K101c).keep K107c)
  obtain ⟨_, _, ⟨T109, L109, k109, n109⟩, -, X109, ⟨Lc109, hQ109, l109, y109, z109⟩, st109⟩ := X107.virtualBack hx (y := (⟨"com/example/heed/heed/Rect", "equals", "(Ljava/lang/Object;)Z"⟩ : MethodName)) (z := (⟨"com/example/heed/heed/Rect", "equals", "(Ljava/lang/Object;)Z"⟩ : MethodName)) hown (mvT hZ w24) (mvT hZ w25) (notFace_of_selects (args := #[]) (mvT hZ w27)) (mvT hZ w27) (mvT hZ w26) (by decide) (backOf (W := 0) (own_e1 l Z a0 hw [] b95 b99 (p0) (p1) (p2) (p3) (v6) (v7) (v8) (v9) T107.heap n0 (Nat.le_trans (Nat.le_trans (Nat.le_trans (Nat.le_trans (Nat.le_trans Z0 E95.1) K97c.1) E99.1) K101c.1) K107c.1) (f101_0.keep K107c) (((f97_1.ext E99).keep K101c (ninS ne_b95_b99 nin0)).keep K107c nin0) (((f97_2.ext E99).keep K101c (ninS ne_b95_b99 nin0)).keep K107c nin0) (((f97_3.ext E99).keep K101c (ninS ne_b95_b99 nin0)).keep K107c nin0) (((f97_4.ext E99).keep K101c (ninS ne_b95_b99 nin0)).keep K107c nin0) (f101_1.keep K107c nin0) (f101_2.keep K107c nin0) (f101_3.keep K107c nin0) (f101_4.keep K107c nin0)) hZ w28 w2 (by decide) (by decide)) q109a q109c (g := (mkF m 135 #[.val (.int p0), .val (.int p1), .val (.int p2), .val (.int p3), .val (.int p4), .val (.int p5), .val (.int v6), .val (.int v7), .val (.int v8), .val (.int v9), .val (.ref b95), .val (.ref b99), .val (.int vexp), .val .null, .val (.ref xx_107), .unset, .unset, .unset, .unset, .unset] [(.ref b99), (.ref b95)])) rfl (by rw [hml]; rfl) (Steps.refl _) (argsL := [(.ref b99)]) (rest := []) (lenOf own_pd4 rfl) rfl (by show 2 * 0 + _ ≤ _; exact Nat.le_of_eq rfl) (hb hby at_135) (fun _ _ => ⟨rfl, rfl, (by decide : 3 + 0 ≤ _), (by decide : 9 + 0 ≤ _)⟩)
  dsimp only [Pt.U, Pt.locs, Pt.cells, Pt.slots] at X109 l109 y109 z109 st109 hQ109
  subst l109 y109 z109
  obtain ⟨rfl, N109q, eh109⟩ := hQ109
  have N109 := Fr.app N107 N109q
  refine own_jump st109 ?_
  show own_Goes p e below _ (T109.setTop (mkF m 138 #[.val (.int p0), .val (.int p1), .val (.int p2), .val (.int p3), .val (.int p4), .val (.int p5), .val (.int v6), .val (.int v7), .val (.int v8), .val (.int v9), .val (.ref b95), .val (.ref b99), .val (.int vexp), .val .null, .val (.ref xx_107), .unset, .unset, .unset, .unset, .unset] [(.int (if b95 = b99 then (1 : Int32) else (if p0 = v6 then (if p1 = v7 then (if p2 = v8 then (if p3 = v9 then (1 : Int32) else (0 : Int32)) else (0 : Int32)) else (0 : Int32)) else (0 : Int32))))]))
  refine own_step (fun t k => XS.iload X109.here hx rfl (hb hby at_138) rfl k) ?_
  show own_Goes p e below _ (T109.setTop (mkF m 140 #[.val (.int p0), .val (.int p1), .val (.int p2), .val (.int p3), .val (.int p4), .val (.int p5), .val (.int v6), .val (.int v7), .val (.int v8), .val (.int v9), .val (.ref b95), .val (.ref b99), .val (.int vexp), .val .null, .val (.ref xx_107), .unset, .unset, .unset, .unset, .unset] [(.int vexp), (.int (if b95 = b99 then (1 : Int32) else (if p0 = v6 then (if p1 = v7 then (if p2 = v8 then (if p3 = v9 then (1 : Int32) else (0 : Int32)) else (0 : Int32)) else (0 : Int32)) else (0 : Int32))))]))
  refine own_step (S' := T109.setTop (mkF m 148 #[.val (.int p0), .val (.int p1), .val (.int p2), .val (.int p3), .val (.int p4), .val (.int p5), .val (.int v6), .val (.int v7), .val (.int v8), .val (.int v9), .val (.ref b95), .val (.ref b99), .val (.int vexp), .val .null, .val (.ref xx_107), .unset, .unset, .unset, .unset, .unset] [(.int (if (if b95 = b99 then (1 : Int32) else (if p0 = v6 then (if p1 = v7 then (if p2 = v8 then (if p3 = v9 then (1 : Int32) else (0 : Int32)) else (0 : Int32)) else (0 : Int32)) else (0 : Int32))) = vexp then (1 : Int32) else (0 : Int32)))])) (fun t k => ?_) ?_
  · show Steps p.tables e below (T109.setTop (mkF m 140 #[.val (.int p0), .val (.int p1), .val (.int p2), .val (.int p3), .val (.int p4), .val (.int p5), .val (.int v6), .val (.int v7), .val (.int v8), .val (.int v9), .val (.ref b95), .val (.ref b99), .val (.int vexp), .val .null, .val (.ref xx_107), .unset, .unset, .unset, .unset, .unset] [(.int vexp), (.int (if b95 = b99 then (1 : Int32) else (if p0 = v6 then (if p1 = v7 then (if p2 = v8 then (if p3 = v9 then (1 : Int32) else (0 : Int32)) else (0 : Int32)) else (0 : Int32)) else (0 : Int32))))])) _
    by_cases hc110 : (if b95 = b99 then (1 : Int32) else (if p0 = v6 then (if p1 = v7 then (if p2 = v8 then (if p3 = v9 then (1 : Int32) else (0 : Int32)) else (0 : Int32)) else (0 : Int32)) else (0 : Int32))) = vexp
    · --
      refine XS.icmpNo X109.here hx rfl (hb hby at_140) rfl (teq hc110).2 ?_
      show Steps p.tables e below (T109.setTop (mkF m 143 #[.val (.int p0), .val (.int p1), .val (.int p2), .val (.int p3), .val (.int p4), .val (.int p5), .val (.int v6), .val (.int v7), .val (.int v8), .val (.int v9), .val (.ref b95), .val (.ref b99), .val (.int vexp), .val .null, .val (.ref xx_107), .unset, .unset, .unset, .unset, .unset] [])) _
      refine XS.iconst X109.here hx rfl (hb hby at_143) ?_
      show Steps p.tables e below (T109.setTop (mkF m 144 #[.val (.int p0), .val (.int p1), .val (.int p2), .val (.int p3), .val (.int p4), .val (.int p5), .val (.int v6), .val (.int v7), .val (.int v8), .val (.int v9), .val (.ref b95), .val (.ref b99), .val (.int vexp), .val .null, .val (.ref xx_107), .unset, .unset, .unset, .unset, .unset] [(.int (1 : Int32))])) _
      refine XS.goto X109.here hx rfl (pc0 := 144) (pc' := 148) rfl (hb hby at_144) (by decide) (by decide) ?_
      show Steps p.tables e below (T109.setTop (mkF m 148 #[.val (.int p0), .val (.int p1), .val (.int p2), .val (.int p3), .val (.int p4), .val (.int p5), .val (.int v6), .val (.int v7), .val (.int v8), .val (.int v9), .val (.ref b95), .val (.ref b99), .val (.int vexp), .val .null, .val (.ref xx_107), .unset, .unset, .unset, .unset, .unset] [(.int (1 : Int32))])) _
      simp only [if_pos hc110] at k
      exact k
    · --
      refine XS.icmpYes X109.here hx rfl (pc0 := 140) (pc' := 147) rfl (hb hby at_140) rfl (feq hc110).2 (by decide) (by decide) ?_
      show Steps p.tables e below (T109.setTop (mkF m 147 #[.val (.int p0), .val (.int p1), .val (.int p2), .val (.int p3), .val (.int p4), .val (.int p5), .val (.int v6), .val (.int v7), .val (.int v8), .val (.int v9), .val (.ref b95), .val (.ref b99), .val (.int vexp), .val .null, .val (.ref xx_107), .unset, .unset, .unset, .unset, .unset] [])) _
      refine XS.iconst X109.here hx rfl (hb hby at_147) ?_
      show Steps p.tables e below (T109.setTop (mkF m 148 #[.val (.int p0), .val (.int p1), .val (.int p2), .val (.int p3), .val (.int p4), .val (.int p5), .val (.int v6), .val (.int v7), .val (.int v8), .val (.int v9), .val (.ref b95), .val (.ref b99), .val (.int vexp), .val .null, .val (.ref xx_107), .unset, .unset, .unset, .unset, .unset] [(.int (0 : Int32))])) _
      simp only [if_neg hc110] at k
      exact k
  show own_Goes p e below _ (T109.setTop (mkF m 148 #[.val (.int p0), .val (.int p1), .val (.int p2), .val (.int p3), .val (.int p4), .val (.int p5), .val (.int v6), .val (.int v7), .val (.int v8), .val (.int v9), .val (.ref b95), .val (.ref b99), .val (.int vexp), .val .null, .val (.ref xx_107), .unset, .unset, .unset, .unset, .unset] [(.int (if (if b95 = b99 then (1 : Int32) else (if p0 = v6 then (if p1 = v7 then (if p2 = v8 then (if p3 = v9 then (1 : Int32) else (0 : Int32)) else (0 : Int32)) else (0 : Int32)) else (0 : Int32))) = vexp then (1 : Int32) else (0 : Int32)))]))
  refine own_step (fun t k => XS.istore X109.here hx rfl (hb hby at_148) rfl (l' := #[.val (.int p0), .val (.int p1), .val (.int p2), .val (.int p3), .val (.int p4), .val (.int p5), .val (.int v6), .val (.int v7), .val (.int v8), .val (.int v9), .val (.ref b95), .val (.ref b99), .val (.int vexp), .val .null, .val (.ref xx_107), .val (.int (if (if b95 = b99 then (1 : Int32) else (if p0 = v6 then (if p1 = v7 then (if p2 = v8 then (if p3 = v9 then (1 : Int32) else (0 : Int32)) else (0 : Int32)) else (0 : Int32)) else (0 : Int32))) = vexp then (1 : Int32) else (0 : Int32))), .unset, .unset, .unset, .unset]) rfl k) ?_
  show own_Goes p e below _ (T109.setTop (mkF m 150 #[.val (.int p0), .val (.int p1), .val (.int p2), .val (.int p3), .val (.int p4), .val (.int p5), .val (.int v6), .val (.int v7), .val (.int v8), .val (.int v9), .val (.ref b95), .val (.ref b99), .val (.int vexp), .val .null, .val (.ref xx_107), .val (.int (if (if b95 = b99 then (1 : Int32) else (if p0 = v6 then (if p1 = v7 then (if p2 = v8 then (if p3 = v9 then (1 : Int32) else (0 : Int32)) else (0 : Int32)) else (0 : Int32)) else (0 : Int32))) = vexp then (1 : Int32) else (0 : Int32))), .unset, .unset, .unset, .unset] []))
  generalize hv_v15 : (if (if b95 = b99 then (1 : Int32) else (if p0 = v6 then (if p1 = v7 then (if p2 = v8 then (if p3 = v9 then (1 : Int32) else (0 : Int32)) else (0 : Int32)) else (0 : Int32)) else (0 : Int32))) = vexp then (1 : Int32) else (0 : Int32)) = v15
  refine own_step (fun t k => XS.aload X109.here hx rfl (hb hby at_150) rfl rfl k) ?_
  show own_Goes p e below _ (T109.setTop (mkF m 152 #[.val (.int p0), .val (.int p1), .val (.int p2), .val (.int p3), .val (.int p4), .val (.int p5), .val (.int v6), .val (.int v7), .val (.int v8), .val (.int v9), .val (.ref b95), .val (.ref b99), .val (.int vexp), .val .null, .val (.ref xx_107), .val (.int v15), .unset, .unset, .unset, .unset] [(.ref b99)]))
  refine own_step (fun t k => XS.aload X109.here hx rfl (hb hby at_152) rfl rfl k) ?_
  show own_Goes p e below _ (T109.setTop (mkF m 154 #[.val (.int p0), .val (.int p1), .val (.int p2), .val (.int p3), .val (.int p4), .val (.int p5), .val (.int v6), .val (.int v7), .val (.int v8), .val (.int v9), .val (.ref b95), .val (.ref b99), .val (.int vexp), .val .null, .val (.ref xx_107), .val (.int v15), .unset, .unset, .unset, .unset] [(.ref b95), (.ref b99)]))
  obtain ⟨cq111, kq111, q111a, q111b, q111c⟩ := isOf hZ eh109 (f101_0.keep K107c)
  obtain ⟨_, _, ⟨T111, L111, k111, n111⟩, -, X111, ⟨Lc111, hQ111, l111, y111, z111⟩, st111⟩ := X109.virtualBack hx (y := (⟨"com/example/heed/heed/Rect", "equals", "(Ljava/lang/Object;)Z"⟩ : MethodName)) (z := (⟨"com/example/heed/heed/Rect", "equals", "(Ljava/lang/Object;)Z"⟩ : MethodName)) hown (mvT hZ w24) (mvT hZ w25) (notFace_of_selects (args := #[]) (mvT hZ w27)) (mvT hZ w27) (mvT hZ w26) (by decide) (backOf (W := 0) (own_e1 l Z a0 hw [] b99 b95 (v6) (v7) (v8) (v9) (p0) (p1) (p2) (p3) T107.heap n0 (Nat.le_trans (Nat.le_trans (Nat.le_trans (Nat.le_trans (Nat.le_trans Z0 E95.1) K97c.1) E99.1) K101c.1) K107c.1) (((f97_0.ext E99).keep K101c).keep K107c) (f101_1.keep K107c nin0) (f101_2.keep K107c nin0) (f101_3.keep K107c nin0) (f101_4.keep K107c nin0) (((f97_1.ext E99).keep K101c (ninS ne_b95_b99 nin0)).keep K107c nin0) (((f97_2.ext E99).keep K101c (ninS ne_b95_b99 nin0)).keep K107c nin0) (((f97_3.ext E99).keep K101c (ninS ne_b95_b99 nin0)).keep K107c nin0) (((f97_4.ext E99).keep K101c (ninS ne_b95_b99 nin0)).keep K107c nin0)) hZ w28 w2 (by decide) (by decide)) q111a q111c (g := (mkF m 154 #[.val (.int p0), .val (.int p1), .val (.int p2), .val (.int p3), .val (.int p4), .val (.int p5), .val (.int v6), .val (.int v7), .val (.int v8), .val (.int v9), .val (.ref b95), .val (.ref b99), .val (.int vexp), .val .null, .val (.ref xx_107), .val (.int v15), .unset, .unset, .unset, .unset] [(.ref b95), (.ref b99)])) rfl (by rw [hml]; rfl) (Steps.refl _) (argsL := [(.ref b95)]) (rest := []) (lenOf own_pd4 rfl) rfl (by show 2 * 0 + _ ≤ _; exact Nat.le_of_eq rfl) (hb hby at_154) (fun _ _ => ⟨rfl, eh109, (by decide : 3 + 0 ≤ _), (by decide : 9 + 0 ≤ _)⟩)
  dsimp only [Pt.U, Pt.locs, Pt.cells, Pt.slots] at X111 l111 y111 z111 st111 hQ111
  subst l111 y111 z111
  obtain ⟨rfl, N111q, eh111⟩ := hQ111
  have N111 := Fr.app N109 N111q
  refine own_jump st111 ?_
  show own_Goes p e below _ (T111.setTop (mkF m 157 #[.val (.int p0), .val (.int p1), .val (.int p2), .val (.int p3), .val (.int p4), .val (.int p5), .val (.int v6), .val (.int v7), .val (.int v8), .val (.int v9), .val (.ref b95), .val (.ref b99), .val (.int vexp), .val .null, .val (.ref xx_107), .val (.int v15), .unset, .unset, .unset, .unset] [(.int (if b99 = b95 then (1 : Int32) else (if v6 = p0 then (if v7 = p1 then (if v8 = p2 then (if v9 = p3 then (1 : Int32) else (0 : Int32)) else (0 : Int32)) else (0 : Int32)) else (0 : Int32))))]))
  refine own_step (fun t k => XS.iload X111.here hx rfl (hb hby at_157) rfl k) ?_
  show own_Goes p e below _ (T111.setTop (mkF m 159 #[.val (.int p0), .val (.int p1), .val (.int p2), .val (.int p3), .val (.int p4), .val (.int p5), .val (.int v6), .val (.int v7), .val (.int v8), .val (.int v9), .val (.ref b95), .val (.ref b99), .val (.int vexp), .val .null, .val (.ref xx_107), .val (.int v15), .unset, .unset, .unset, .unset] [(.int vexp), (.int (if b99 = b95 then (1 : Int32) else (if v6 = p0 then (if v7 = p1 then (if v8 = p2 then (if v9 = p3 then (1 : Int32) else (0 : Int32)) else (0 : Int32)) else (0 : Int32)) else (0 : Int32))))]))
  refine own_step (S' := T111.setTop (mkF m 167 #[.val (.int p0), .val (.int p1), .val (.int p2), .val (.int p3), .val (.int p4), .val (.int p5), .val (.int v6), .val (.int v7), .val (.int v8), .val (.int v9), .val (.ref b95), .val (.ref b99), .val (.int vexp), .val .null, .val (.ref xx_107), .val (.int v15), .unset, .unset, .unset, .unset] [(.int (if (if b99 = b95 then (1 : Int32) else (if v6 = p0 then (if v7 = p1 then (if v8 = p2 then (if v9 = p3 then (1 : Int32) else (0 : Int32)) else (0 : Int32)) else (0 : Int32)) else (0 : Int32))) = vexp then (1 : Int32) else (0 : Int32)))])) (fun t k => ?_) ?_
  · show Steps p.tables e below (T111.setTop (mkF m 159 #[.val (.int p0), .val (.int p1), .val (.int p2), .val (.int p3), .val (.int p4), .val (.int p5), .val (.int v6), .val (.int v7), .val (.int v8), .val (.int v9), .val (.ref b95), .val (.ref b99), .val (.int vexp), .val .null, .val (.ref xx_107), .val (.int v15), .unset, .unset, .unset, .unset] [(.int vexp), (.int (if b99 = b95 then (1 : Int32) else (if v6 = p0 then (if v7 = p1 then (if v8 = p2 then (if v9 = p3 then (1 : Int32) else (0 : Int32)) else (0 : Int32)) else (0 : Int32)) else (0 : Int32))))])) _
    by_cases hc112 : (if b99 = b95 then (1 : Int32) else (if v6 = p0 then (if v7 = p1 then (if v8 = p2 then (if v9 = p3 then (1 : Int32) else (0 : Int32)) else (0 : Int32)) else (0 : Int32)) else (0 : Int32))) = vexp
    · --
      refine XS.icmpNo X111.here hx rfl (hb hby at_159) rfl (teq hc112).2 ?_
      show Steps p.tables e below (T111.setTop (mkF m 162 #[.val (.int p0), .val (.int p1), .val (.int p2), .val (.int p3), .val (.int p4), .val (.int p5), .val (.int v6), .val (.int v7), .val (.int v8), .val (.int v9), .val (.ref b95), .val (.ref b99), .val (.int vexp), .val .null, .val (.ref xx_107), .val (.int v15), .unset, .unset, .unset, .unset] [])) _
      refine XS.iconst X111.here hx rfl (hb hby at_162) ?_
      show Steps p.tables e below (T111.setTop (mkF m 163 #[.val (.int p0), .val (.int p1), .val (.int p2), .val (.int p3), .val (.int p4), .val (.int p5), .val (.int v6), .val (.int v7), .val (.int v8), .val (.int v9), .val (.ref b95), .val (.ref b99), .val (.int vexp), .val .null, .val (.ref xx_107), .val (.int v15), .unset, .unset, .unset, .unset] [(.int (1 : Int32))])) _
      refine XS.goto X111.here hx rfl (pc0 := 163) (pc' := 167) rfl (hb hby at_163) (by decide) (by decide) ?_
      show Steps p.tables e below (T111.setTop (mkF m 167 #[.val (.int p0), .val (.int p1), .val (.int p2), .val (.int p3), .val (.int p4), .val (.int p5), .val (.int v6), .val (.int v7), .val (.int v8), .val (.int v9), .val (.ref b95), .val (.ref b99), .val (.int vexp), .val .null, .val (.ref xx_107), .val (.int v15), .unset, .unset, .unset, .unset] [(.int (1 : Int32))])) _
      simp only [if_pos hc112] at k
      exact k
    · --
      refine XS.icmpYes X111.here hx rfl (pc0 := 159) (pc' := 166) rfl (hb hby at_159) rfl (feq hc112).2 (by decide) (by decide) ?_
      show Steps p.tables e below (T111.setTop (mkF m 166 #[.val (.int p0), .val (.int p1), .val (.int p2), .val (.int p3), .val (.int p4), .val (.int p5), .val (.int v6), .val (.int v7), .val (.int v8), .val (.int v9), .val (.ref b95), .val (.ref b99), .val (.int vexp), .val .null, .val (.ref xx_107), .val (.int v15), .unset, .unset, .unset, .unset] [])) _
      refine XS.iconst X111.here hx rfl (hb hby at_166) ?_
      show Steps p.tables e below (T111.setTop (mkF m 167 #[.val (.int p0), .val (.int p1), .val (.int p2), .val (.int p3), .val (.int p4), .val (.int p5), .val (.int v6), .val (.int v7), .val (.int v8), .val (.int v9), .val (.ref b95), .val (.ref b99), .val (.int vexp), .val .null, .val (.ref xx_107), .val (.int v15), .unset, .unset, .unset, .unset] [(.int (0 : Int32))])) _
      simp only [if_neg hc112] at k
      exact k
  show own_Goes p e below _ (T111.setTop (mkF m 167 #[.val (.int p0), .val (.int p1), .val (.int p2), .val (.int p3), .val (.int p4), .val (.int p5), .val (.int v6), .val (.int v7), .val (.int v8), .val (.int v9), .val (.ref b95), .val (.ref b99), .val (.int vexp), .val .null, .val (.ref xx_107), .val (.int v15), .unset, .unset, .unset, .unset] [(.int (if (if b99 = b95 then (1 : Int32) else (if v6 = p0 then (if v7 = p1 then (if v8 = p2 then (if v9 = p3 then (1 : Int32) else (0 : Int32)) else (0 : Int32)) else (0 : Int32)) else (0 : Int32))) = vexp then (1 : Int32) else (0 : Int32)))]))
  refine own_step (fun t k => XS.istore X111.here hx rfl (hb hby at_167) rfl (l' := #[.val (.int p0), .val (.int p1), .val (.int p2), .val (.int p3), .val (.int p4), .val (.int p5), .val (.int v6), .val (.int v7), .val (.int v8), .val (.int v9), .val (.ref b95), .val (.ref b99), .val (.int vexp), .val .null, .val (.ref xx_107), .val (.int v15), .val (.int (if (if b99 = b95 then (1 : Int32) else (if v6 = p0 then (if v7 = p1 then (if v8 = p2 then (if v9 = p3 then (1 : Int32) else (0 : Int32)) else (0 : Int32)) else (0 : Int32)) else (0 : Int32))) = vexp then (1 : Int32) else (0 : Int32))), .unset, .unset, .unset]) rfl k) ?_
  show own_Goes p e below _ (T111.setTop (mkF m 169 #[.val (.int p0), .val (.int p1), .val (.int p2), .val (.int p3), .val (.int p4), .val (.int p5), .val (.int v6), .val (.int v7), .val (.int v8), .val (.int v9), .val (.ref b95), .val (.ref b99), .val (.int vexp), .val .null, .val (.ref xx_107), .val (.int v15), .val (.int (if (if b99 = b95 then (1 : Int32) else (if v6 = p0 then (if v7 = p1 then (if v8 = p2 then (if v9 = p3 then (1 : Int32) else (0 : Int32)) else (0 : Int32)) else (0 : Int32)) else (0 : Int32))) = vexp then (1 : Int32) else (0 : Int32))), .unset, .unset, .unset] []))
  generalize hv_v16 : (if (if b99 = b95 then (1 : Int32) else (if v6 = p0 then (if v7 = p1 then (if v8 = p2 then (if v9 = p3 then (1 : Int32) else (0 : Int32)) else (0 : Int32)) else (0 : Int32)) else (0 : Int32))) = vexp then (1 : Int32) else (0 : Int32)) = v16
  refine own_step (fun t k => XS.aload X111.here hx rfl (hb hby at_169) rfl rfl k) ?_
  show own_Goes p e below _ (T111.setTop (mkF m 171 #[.val (.int p0), .val (.int p1), .val (.int p2), .val (.int p3), .val (.int p4), .val (.int p5), .val (.int v6), .val (.int v7), .val (.int v8), .val (.int v9), .val (.ref b95), .val (.ref b99), .val (.int vexp), .val .null, .val (.ref xx_107), .val (.int v15), .val (.int v16), .unset, .unset, .unset] [(.ref b95)]))
  refine own_step (fun t k => XS.aload X111.here hx rfl (hb hby at_171) rfl rfl k) ?_
  show own_Goes p e below _ (T111.setTop (mkF m 173 #[.val (.int p0), .val (.int p1), .val (.int p2), .val (.int p3), .val (.int p4), .val (.int p5), .val (.int v6), .val (.int v7), .val (.int v8), .val (.int v9), .val (.ref b95), .val (.ref b99), .val (.int vexp), .val .null, .val (.ref xx_107), .val (.int v15), .val (.int v16), .unset, .unset, .unset] [(.ref b95), (.ref b95)]))
  obtain ⟨cq113, kq113, q113a, q113b, q113c⟩ := isOf hZ eh111 (((f97_0.ext E99).keep K101c).keep K107c)
  obtain ⟨_, _, ⟨T113, L113, k113, n113⟩, -, X113, ⟨Lc113, hQ113, l113, y113, z113⟩, st113⟩ := X111.virtualBack hx (y := (⟨"com/example/heed/heed/Rect", "equals", "(Ljava/lang/Object;)Z"⟩ : MethodName)) (z := (⟨"com/example/heed/heed/Rect", "equals", "(Ljava/lang/Object;)Z"⟩ : MethodName)) hown (mvT hZ w24) (mvT hZ w25) (notFace_of_selects (args := #[]) (mvT hZ w27)) (mvT hZ w27) (mvT hZ w26) (by decide) (backOf (W := 0) (own_e1 l Z a0 hw [] b95 b95 (p0) (p1) (p2) (p3) (p0) (p1) (p2) (p3) T107.heap n0 (Nat.le_trans (Nat.le_trans (Nat.le_trans (Nat.le_trans (Nat.le_trans Z0 E95.1) K97c.1) E99.1) K101c.1) K107c.1) (((f97_0.ext E99).keep K101c).keep K107c) (((f97_1.ext E99).keep K101c (ninS ne_b95_b99 nin0)).keep K107c nin0) (((f97_2.ext E99).keep K101c (ninS ne_b95_b99 nin0)).keep K107c nin0) (((f97_3.ext E99).keep K101c (ninS ne_b95_b99 nin0)).keep K107c nin0) (((f97_4.ext E99).keep K101c (ninS ne_b95_b99 nin0)).keep K107c nin0) (((f97_1.ext E99).keep K101c (ninS ne_b95_b99 nin0)).keep K107c nin0) (((f97_2.ext E99).keep K101c (ninS ne_b95_b99 nin0)).keep K107c nin0) (((f97_3.ext E99).keep K101c (ninS ne_b95_b99 nin0)).keep K107c nin0) (((f97_4.ext E99).keep K101c (ninS ne_b95_b99 nin0)).keep K107c nin0)) hZ w28 w2 (by decide) (by decide)) q113a q113c (g := (mkF m 173 #[.val (.int p0), .val (.int p1), .val (.int p2), .val (.int p3), .val (.int p4), .val (.int p5), .val (.int v6), .val (.int v7), .val (.int v8), .val (.int v9), .val (.ref b95), .val (.ref b99), .val (.int vexp), .val .null, .val (.ref xx_107), .val (.int v15), .val (.int v16), .unset, .unset, .unset] [(.ref b95), (.ref b95)])) rfl (by rw [hml]; rfl) (Steps.refl _) (argsL := [(.ref b95)]) (rest := []) (lenOf own_pd4 rfl) rfl (by show 2 * 0 + _ ≤ _; exact Nat.le_of_eq rfl) (hb hby at_173) (fun _ _ => ⟨rfl, eh111, (by decide : 3 + 0 ≤ _), (by decide : 9 + 0 ≤ _)⟩)
  dsimp only [Pt.U, Pt.locs, Pt.cells, Pt.slots] at X113 l113 y113 z113 st113 hQ113
  subst l113 y113 z113
  obtain ⟨rfl, N113q, eh113⟩ := hQ113
  have N113 := Fr.app N111 N113q
  refine own_jump st113 ?_
  show own_Goes p e below _ (T113.setTop (mkF m 176 #[.val (.int p0), .val (.int p1), .val (.int p2), .val (.int p3), .val (.int p4), .val (.int p5), .val (.int v6), .val (.int v7), .val (.int v8), .val (.int v9), .val (.ref b95), .val (.ref b99), .val (.int vexp), .val .null, .val (.ref xx_107), .val (.int v15), .val (.int v16), .unset, .unset, .unset] [(.int (if b95 = b95 then (1 : Int32) else (if p0 = p0 then (if p1 = p1 then (if p2 = p2 then (if p3 = p3 then (1 : Int32) else (0 : Int32)) else (0 : Int32)) else (0 : Int32)) else (0 : Int32))))]))
  refine own_step (fun t k => XS.istore X113.here hx rfl (hb hby at_176) rfl (l' := #[.val (.int p0), .val (.int p1), .val (.int p2), .val (.int p3), .val (.int p4), .val (.int p5), .val (.int v6), .val (.int v7), .val (.int v8), .val (.int v9), .val (.ref b95), .val (.ref b99), .val (.int vexp), .val .null, .val (.ref xx_107), .val (.int v15), .val (.int v16), .val (.int (if b95 = b95 then (1 : Int32) else (if p0 = p0 then (if p1 = p1 then (if p2 = p2 then (if p3 = p3 then (1 : Int32) else (0 : Int32)) else (0 : Int32)) else (0 : Int32)) else (0 : Int32)))), .unset, .unset]) rfl k) ?_
  show own_Goes p e below _ (T113.setTop (mkF m 178 #[.val (.int p0), .val (.int p1), .val (.int p2), .val (.int p3), .val (.int p4), .val (.int p5), .val (.int v6), .val (.int v7), .val (.int v8), .val (.int v9), .val (.ref b95), .val (.ref b99), .val (.int vexp), .val .null, .val (.ref xx_107), .val (.int v15), .val (.int v16), .val (.int (if b95 = b95 then (1 : Int32) else (if p0 = p0 then (if p1 = p1 then (if p2 = p2 then (if p3 = p3 then (1 : Int32) else (0 : Int32)) else (0 : Int32)) else (0 : Int32)) else (0 : Int32)))), .unset, .unset] []))
  generalize hv_v17 : (if b95 = b95 then (1 : Int32) else (if p0 = p0 then (if p1 = p1 then (if p2 = p2 then (if p3 = p3 then (1 : Int32) else (0 : Int32)) else (0 : Int32)) else (0 : Int32)) else (0 : Int32))) = v17
  refine own_step (fun t k => XS.aload X113.here hx rfl (hb hby at_178) rfl rfl k) ?_
  show own_Goes p e below _ (T113.setTop (mkF m 180 #[.val (.int p0), .val (.int p1), .val (.int p2), .val (.int p3), .val (.int p4), .val (.int p5), .val (.int v6), .val (.int v7), .val (.int v8), .val (.int v9), .val (.ref b95), .val (.ref b99), .val (.int vexp), .val .null, .val (.ref xx_107), .val (.int v15), .val (.int v16), .val (.int v17), .unset, .unset] [(.ref b95)]))
  refine own_step (fun t k => XS.aload X113.here hx rfl (hb hby at_180) rfl rfl k) ?_
  show own_Goes p e below _ (T113.setTop (mkF m 182 #[.val (.int p0), .val (.int p1), .val (.int p2), .val (.int p3), .val (.int p4), .val (.int p5), .val (.int v6), .val (.int v7), .val (.int v8), .val (.int v9), .val (.ref b95), .val (.ref b99), .val (.int vexp), .val .null, .val (.ref xx_107), .val (.int v15), .val (.int v16), .val (.int v17), .unset, .unset] [.null, (.ref b95)]))
  obtain ⟨cq114, kq114, q114a, q114b, q114c⟩ := isOf hZ eh113 (((f97_0.ext E99).keep K101c).keep K107c)
  obtain ⟨_, _, ⟨T114, L114, k114, n114⟩, -, X114, ⟨Lc114, hQ114, l114, y114, z114⟩, st114⟩ := X113.virtualBack hx (y := (⟨"com/example/heed/heed/Rect", "equals", "(Ljava/lang/Object;)Z"⟩ : MethodName)) (z := (⟨"com/example/heed/heed/Rect", "equals", "(Ljava/lang/Object;)Z"⟩ : MethodName)) hown (mvT hZ w24) (mvT hZ w25) (notFace_of_selects (args := #[]) (mvT hZ w27)) (mvT hZ w27) (mvT hZ w26) (by decide) (backOf (W := 0) (own_e2 l Z a0 hw [] b95  T107.heap n0 (Nat.le_trans (Nat.le_trans (Nat.le_trans (Nat.le_trans (Nat.le_trans Z0 E95.1) K97c.1) E99.1) K101c.1) K107c.1) ) hZ w28 w2 (by decide) (by decide)) q114a q114c (g := (mkF m 182 #[.val (.int p0), .val (.int p1), .val (.int p2), .val (.int p3), .val (.int p4), .val (.int p5), .val (.int v6), .val (.int v7), .val (.int v8), .val (.int v9), .val (.ref b95), .val (.ref b99), .val (.int vexp), .val .null, .val (.ref xx_107), .val (.int v15), .val (.int v16), .val (.int v17), .unset, .unset] [.null, (.ref b95)])) rfl (by rw [hml]; rfl) (Steps.refl _) (argsL := [.null]) (rest := []) (lenOf own_pd4 rfl) rfl (by show 2 * 0 + _ ≤ _; exact Nat.le_of_eq rfl) (hb hby at_182) (fun _ _ => ⟨rfl, eh113, (by decide : 3 + 0 ≤ _), (by decide : 9 + 0 ≤ _)⟩)
  dsimp only [Pt.U, Pt.locs, Pt.cells, Pt.slots] at X114 l114 y114 z114 st114 hQ114
  subst l114 y114 z114
  obtain ⟨rfl, N114q, eh114⟩ := hQ114
  have N114 := Fr.app N113 N114q
  refine own_jump st114 ?_
  show own_Goes p e below _ (T114.setTop (mkF m 185 #[.val (.int p0), .val (.int p1), .val (.int p2), .val (.int p3), .val (.int p4), .val (.int p5), .val (.int v6), .val (.int v7), .val (.int v8), .val (.int v9), .val (.ref b95), .val (.ref b99), .val (.int vexp), .val .null, .val (.ref xx_107), .val (.int v15), .val (.int v16), .val (.int v17), .unset, .unset] [(.int (0 : Int32))]))
  have hc115 : (0 : Int32) = (0 : Int32) := rfl
  refine own_step (fun t k => XS.ifNo X114.here hx rfl (hb hby at_185) rfl ((if0 _ _).trans (teq hc115).2) k) ?_
  show own_Goes p e below _ (T114.setTop (mkF m 188 #[.val (.int p0), .val (.int p1), .val (.int p2), .val (.int p3), .val (.int p4), .val (.int p5), .val (.int v6), .val (.int v7), .val (.int v8), .val (.int v9), .val (.ref b95), .val (.ref b99), .val (.int vexp), .val .null, .val (.ref xx_107), .val (.int v15), .val (.int v16), .val (.int v17), .unset, .unset] []))
  refine own_step (fun t k => XS.iconst X114.here hx rfl (hb hby at_188) k) ?_
  show own_Goes p e below _ (T114.setTop (mkF m 189 #[.val (.int p0), .val (.int p1), .val (.int p2), .val (.int p3), .val (.int p4), .val (.int p5), .val (.int v6), .val (.int v7), .val (.int v8), .val (.int v9), .val (.ref b95), .val (.ref b99), .val (.int vexp), .val .null, .val (.ref xx_107), .val (.int v15), .val (.int v16), .val (.int v17), .unset, .unset] [(.int (1 : Int32))]))
  refine own_step (fun t k => XS.goto X114.here hx rfl (pc0 := 189) (pc' := 193) rfl (hb hby at_189) (by decide) (by decide) k) ?_
  show own_Goes p e below _ (T114.setTop (mkF m 193 #[.val (.int p0), .val (.int p1), .val (.int p2), .val (.int p3), .val (.int p4), .val (.int p5), .val (.int v6), .val (.int v7), .val (.int v8), .val (.int v9), .val (.ref b95), .val (.ref b99), .val (.int vexp), .val .null, .val (.ref xx_107), .val (.int v15), .val (.int v16), .val (.int v17), .unset, .unset] [(.int (1 : Int32))]))
  refine own_step (fun t k => XS.istore X114.here hx rfl (hb hby at_193) rfl (l' := #[.val (.int p0), .val (.int p1), .val (.int p2), .val (.int p3), .val (.int p4), .val (.int p5), .val (.int v6), .val (.int v7), .val (.int v8), .val (.int v9), .val (.ref b95), .val (.ref b99), .val (.int vexp), .val .null, .val (.ref xx_107), .val (.int v15), .val (.int v16), .val (.int v17), .val (.int (1 : Int32)), .unset]) rfl k) ?_
  show own_Goes p e below _ (T114.setTop (mkF m 195 #[.val (.int p0), .val (.int p1), .val (.int p2), .val (.int p3), .val (.int p4), .val (.int p5), .val (.int v6), .val (.int v7), .val (.int v8), .val (.int v9), .val (.ref b95), .val (.ref b99), .val (.int vexp), .val .null, .val (.ref xx_107), .val (.int v15), .val (.int v16), .val (.int v17), .val (.int (1 : Int32)), .unset] []))
  refine own_step (fun t k => XS.aload X114.here hx rfl (hb hby at_195) rfl rfl k) ?_
  show own_Goes p e below _ (T114.setTop (mkF m 197 #[.val (.int p0), .val (.int p1), .val (.int p2), .val (.int p3), .val (.int p4), .val (.int p5), .val (.int v6), .val (.int v7), .val (.int v8), .val (.int v9), .val (.ref b95), .val (.ref b99), .val (.int vexp), .val .null, .val (.ref xx_107), .val (.int v15), .val (.int v16), .val (.int v17), .val (.int (1 : Int32)), .unset] [(.ref b95)]))
  refine own_step (fun t k => XS.aload X114.here hx rfl (hb hby at_197) rfl rfl k) ?_
  show own_Goes p e below _ (T114.setTop (mkF m 199 #[.val (.int p0), .val (.int p1), .val (.int p2), .val (.int p3), .val (.int p4), .val (.int p5), .val (.int v6), .val (.int v7), .val (.int v8), .val (.int v9), .val (.ref b95), .val (.ref b99), .val (.int vexp), .val .null, .val (.ref xx_107), .val (.int v15), .val (.int v16), .val (.int v17), .val (.int (1 : Int32)), .unset] [(.ref xx_107), (.ref b95)]))
  obtain ⟨cq116, kq116, q116a, q116b, q116c⟩ := isOf hZ eh114 (((f97_0.ext E99).keep K101c).keep K107c)
  obtain ⟨_, _, ⟨T116, L116, k116, n116⟩, -, X116, ⟨Lc116, hQ116, l116, y116, z116⟩, st116⟩ := X114.virtualBack hx (y := (⟨"com/example/heed/heed/Rect", "equals", "(Ljava/lang/Object;)Z"⟩ : MethodName)) (z := (⟨"com/example/heed/heed/Rect", "equals", "(Ljava/lang/Object;)Z"⟩ : MethodName)) hown (mvT hZ w24) (mvT hZ w25) (notFace_of_selects (args := #[]) (mvT hZ w27)) (mvT hZ w27) (mvT hZ w26) (by decide) (backOf (W := 0) (own_e3 l Z a0 hw [] b95 xx_107  T107.heap n0 (Nat.le_trans (Nat.le_trans (Nat.le_trans (Nat.le_trans (Nat.le_trans Z0 E95.1) K97c.1) E99.1) K101c.1) K107c.1) f107_0) hZ w28 w2 (by decide) (by decide)) q116a q116c (g := (mkF m 199 #[.val (.int p0), .val (.int p1), .val (.int p2), .val (.int p3), .val (.int p4), .val (.int p5), .val (.int v6), .val (.int v7), .val (.int v8), .val (.int v9), .val (.ref b95), .val (.ref b99), .val (.int vexp), .val .null, .val (.ref xx_107), .val (.int v15), .val (.int v16), .val (.int v17), .val (.int (1 : Int32)), .unset] [(.ref xx_107), (.ref b95)])) rfl (by rw [hml]; rfl) (Steps.refl _) (argsL := [(.ref xx_107)]) (rest := []) (lenOf own_pd4 rfl) rfl (by show 2 * 0 + _ ≤ _; exact Nat.le_of_eq rfl) (hb hby at_199) (fun _ _ => ⟨rfl, eh114, (by decide : 3 + 0 ≤ _), (by decide : 9 + 0 ≤ _)⟩)
  dsimp only [Pt.U, Pt.locs, Pt.cells, Pt.slots] at X116 l116 y116 z116 st116 hQ116
  subst l116 y116 z116
  obtain ⟨rfl, N116q, eh116⟩ := hQ116
  have N116 := Fr.app N114 N116q
  refine own_jump st116 ?_
  show own_Goes p e below _ (T116.setTop (mkF m 202 #[.val (.int p0), .val (.int p1), .val (.int p2), .val (.int p3), .val (.int p4), .val (.int p5), .val (.int v6), .val (.int v7), .val (.int v8), .val (.int v9), .val (.ref b95), .val (.ref b99), .val (.int vexp), .val .null, .val (.ref xx_107), .val (.int v15), .val (.int v16), .val (.int v17), .val (.int (1 : Int32)), .unset] [(.int (if b95 = xx_107 then (1 : Int32) else (0 : Int32)))]))
  refine own_step (S' := T116.setTop (mkF m 210 #[.val (.int p0), .val (.int p1), .val (.int p2), .val (.int p3), .val (.int p4), .val (.int p5), .val (.int v6), .val (.int v7), .val (.int v8), .val (.int v9), .val (.ref b95), .val (.ref b99), .val (.int vexp), .val .null, .val (.ref xx_107), .val (.int v15), .val (.int v16), .val (.int v17), .val (.int (1 : Int32)), .unset] [(.int (if (if b95 = xx_107 then (1 : Int32) else (0 : Int32)) = (0 : Int32) then (1 : Int32) else (0 : Int32)))])) (fun t k => ?_) ?_
  · show Steps p.tables e below (T116.setTop (mkF m 202 #[.val (.int p0), .val (.int p1), .val (.int p2), .val (.int p3), .val (.int p4), .val (.int p5), .val (.int v6), .val (.int v7), .val (.int v8), .val (.int v9), .val (.ref b95), .val (.ref b99), .val (.int vexp), .val .null, .val (.ref xx_107), .val (.int v15), .val (.int v16), .val (.int v17), .val (.int (1 : Int32)), .unset] [(.int (if b95 = xx_107 then (1 : Int32) else (0 : Int32)))])) _
    by_cases hc117 : (if b95 = xx_107 then (1 : Int32) else (0 : Int32)) = (0 : Int32)
    · --
      refine XS.ifNo X116.here hx rfl (hb hby at_202) rfl ((if0 _ _).trans (teq hc117).2) ?_
      show Steps p.tables e below (T116.setTop (mkF m 205 #[.val (.int p0), .val (.int p1), .val (.int p2), .val (.int p3), .val (.int p4), .val (.int p5), .val (.int v6), .val (.int v7), .val (.int v8), .val (.int v9), .val (.ref b95), .val (.ref b99), .val (.int vexp), .val .null, .val (.ref xx_107), .val (.int v15), .val (.int v16), .val (.int v17), .val (.int (1 : Int32)), .unset] [])) _
      refine XS.iconst X116.here hx rfl (hb hby at_205) ?_
      show Steps p.tables e below (T116.setTop (mkF m 206 #[.val (.int p0), .val (.int p1), .val (.int p2), .val (.int p3), .val (.int p4), .val (.int p5), .val (.int v6), .val (.int v7), .val (.int v8), .val (.int v9), .val (.ref b95), .val (.ref b99), .val (.int vexp), .val .null, .val (.ref xx_107), .val (.int v15), .val (.int v16), .val (.int v17), .val (.int (1 : Int32)), .unset] [(.int (1 : Int32))])) _
      refine XS.goto X116.here hx rfl (pc0 := 206) (pc' := 210) rfl (hb hby at_206) (by decide) (by decide) ?_
      show Steps p.tables e below (T116.setTop (mkF m 210 #[.val (.int p0), .val (.int p1), .val (.int p2), .val (.int p3), .val (.int p4), .val (.int p5), .val (.int v6), .val (.int v7), .val (.int v8), .val (.int v9), .val (.ref b95), .val (.ref b99), .val (.int vexp), .val .null, .val (.ref xx_107), .val (.int v15), .val (.int v16), .val (.int v17), .val (.int (1 : Int32)), .unset] [(.int (1 : Int32))])) _
      simp only [if_pos hc117] at k
      exact k
    · --
      refine XS.ifYes X116.here hx rfl (pc0 := 202) (pc' := 209) rfl (hb hby at_202) rfl ((if0 _ _).trans (feq hc117).2) (by decide) (by decide) ?_
      show Steps p.tables e below (T116.setTop (mkF m 209 #[.val (.int p0), .val (.int p1), .val (.int p2), .val (.int p3), .val (.int p4), .val (.int p5), .val (.int v6), .val (.int v7), .val (.int v8), .val (.int v9), .val (.ref b95), .val (.ref b99), .val (.int vexp), .val .null, .val (.ref xx_107), .val (.int v15), .val (.int v16), .val (.int v17), .val (.int (1 : Int32)), .unset] [])) _
      refine XS.iconst X116.here hx rfl (hb hby at_209) ?_
      show Steps p.tables e below (T116.setTop (mkF m 210 #[.val (.int p0), .val (.int p1), .val (.int p2), .val (.int p3), .val (.int p4), .val (.int p5), .val (.int v6), .val (.int v7), .val (.int v8), .val (.int v9), .val (.ref b95), .val (.ref b99), .val (.int vexp), .val .null, .val (.ref xx_107), .val (.int v15), .val (.int v16), .val (.int v17), .val (.int (1 : Int32)), .unset] [(.int (0 : Int32))])) _
      simp only [if_neg hc117] at k
      exact k
  show own_Goes p e below _ (T116.setTop (mkF m 210 #[.val (.int p0), .val (.int p1), .val (.int p2), .val (.int p3), .val (.int p4), .val (.int p5), .val (.int v6), .val (.int v7), .val (.int v8), .val (.int v9), .val (.ref b95), .val (.ref b99), .val (.int vexp), .val .null, .val (.ref xx_107), .val (.int v15), .val (.int v16), .val (.int v17), .val (.int (1 : Int32)), .unset] [(.int (if (if b95 = xx_107 then (1 : Int32) else (0 : Int32)) = (0 : Int32) then (1 : Int32) else (0 : Int32)))]))
  refine own_step (fun t k => XS.istore X116.here hx rfl (hb hby at_210) rfl (l' := #[.val (.int p0), .val (.int p1), .val (.int p2), .val (.int p3), .val (.int p4), .val (.int p5), .val (.int v6), .val (.int v7), .val (.int v8), .val (.int v9), .val (.ref b95), .val (.ref b99), .val (.int vexp), .val .null, .val (.ref xx_107), .val (.int v15), .val (.int v16), .val (.int v17), .val (.int (1 : Int32)), .val (.int (if (if b95 = xx_107 then (1 : Int32) else (0 : Int32)) = (0 : Int32) then (1 : Int32) else (0 : Int32)))]) rfl k) ?_
  show own_Goes p e below _ (T116.setTop (mkF m 212 #[.val (.int p0), .val (.int p1), .val (.int p2), .val (.int p3), .val (.int p4), .val (.int p5), .val (.int v6), .val (.int v7), .val (.int v8), .val (.int v9), .val (.ref b95), .val (.ref b99), .val (.int vexp), .val .null, .val (.ref xx_107), .val (.int v15), .val (.int v16), .val (.int v17), .val (.int (1 : Int32)), .val (.int (if (if b95 = xx_107 then (1 : Int32) else (0 : Int32)) = (0 : Int32) then (1 : Int32) else (0 : Int32)))] []))
  generalize hv_v19 : (if (if b95 = xx_107 then (1 : Int32) else (0 : Int32)) = (0 : Int32) then (1 : Int32) else (0 : Int32)) = v19
  refine own_step (fun t k => XS.iload X116.here hx rfl (hb hby at_212) rfl k) ?_
  show own_Goes p e below _ (T116.setTop (mkF m 214 #[.val (.int p0), .val (.int p1), .val (.int p2), .val (.int p3), .val (.int p4), .val (.int p5), .val (.int v6), .val (.int v7), .val (.int v8), .val (.int v9), .val (.ref b95), .val (.ref b99), .val (.int vexp), .val .null, .val (.ref xx_107), .val (.int v15), .val (.int v16), .val (.int v17), .val (.int (1 : Int32)), .val (.int v19)] [(.int v15)]))
  refine own_step (S' := T116.setTop (mkF m 242 #[.val (.int p0), .val (.int p1), .val (.int p2), .val (.int p3), .val (.int p4), .val (.int p5), .val (.int v6), .val (.int v7), .val (.int v8), .val (.int v9), .val (.ref b95), .val (.ref b99), .val (.int vexp), .val .null, .val (.ref xx_107), .val (.int v15), .val (.int v16), .val (.int v17), .val (.int (1 : Int32)), .val (.int v19)] [(.int (if v15 = (0 : Int32) then (0 : Int32) else (if v16 = (0 : Int32) then (0 : Int32) else (if v17 = (0 : Int32) then (0 : Int32) else (if v19 = (0 : Int32) then (0 : Int32) else (1 : Int32))))))])) (fun t k => ?_) ?_
  · show Steps p.tables e below (T116.setTop (mkF m 214 #[.val (.int p0), .val (.int p1), .val (.int p2), .val (.int p3), .val (.int p4), .val (.int p5), .val (.int v6), .val (.int v7), .val (.int v8), .val (.int v9), .val (.ref b95), .val (.ref b99), .val (.int vexp), .val .null, .val (.ref xx_107), .val (.int v15), .val (.int v16), .val (.int v17), .val (.int (1 : Int32)), .val (.int v19)] [(.int v15)])) _
    by_cases hc118 : v15 = (0 : Int32)
    · --
      refine XS.ifYes X116.here hx rfl (pc0 := 214) (pc' := 241) rfl (hb hby at_214) rfl ((if0 _ _).trans (teq hc118).1) (by decide) (by decide) ?_
      show Steps p.tables e below (T116.setTop (mkF m 241 #[.val (.int p0), .val (.int p1), .val (.int p2), .val (.int p3), .val (.int p4), .val (.int p5), .val (.int v6), .val (.int v7), .val (.int v8), .val (.int v9), .val (.ref b95), .val (.ref b99), .val (.int vexp), .val .null, .val (.ref xx_107), .val (.int v15), .val (.int v16), .val (.int v17), .val (.int (1 : Int32)), .val (.int v19)] [])) _
      refine XS.iconst X116.here hx rfl (hb hby at_241) ?_
      show Steps p.tables e below (T116.setTop (mkF m 242 #[.val (.int p0), .val (.int p1), .val (.int p2), .val (.int p3), .val (.int p4), .val (.int p5), .val (.int v6), .val (.int v7), .val (.int v8), .val (.int v9), .val (.ref b95), .val (.ref b99), .val (.int vexp), .val .null, .val (.ref xx_107), .val (.int v15), .val (.int v16), .val (.int v17), .val (.int (1 : Int32)), .val (.int v19)] [(.int (0 : Int32))])) _
      simp only [if_pos hc118] at k
      exact k
    · --
      refine XS.ifNo X116.here hx rfl (hb hby at_214) rfl ((if0 _ _).trans (feq hc118).1) ?_
      show Steps p.tables e below (T116.setTop (mkF m 217 #[.val (.int p0), .val (.int p1), .val (.int p2), .val (.int p3), .val (.int p4), .val (.int p5), .val (.int v6), .val (.int v7), .val (.int v8), .val (.int v9), .val (.ref b95), .val (.ref b99), .val (.int vexp), .val .null, .val (.ref xx_107), .val (.int v15), .val (.int v16), .val (.int v17), .val (.int (1 : Int32)), .val (.int v19)] [])) _
      refine XS.iload X116.here hx rfl (hb hby at_217) rfl ?_
      show Steps p.tables e below (T116.setTop (mkF m 219 #[.val (.int p0), .val (.int p1), .val (.int p2), .val (.int p3), .val (.int p4), .val (.int p5), .val (.int v6), .val (.int v7), .val (.int v8), .val (.int v9), .val (.ref b95), .val (.ref b99), .val (.int vexp), .val .null, .val (.ref xx_107), .val (.int v15), .val (.int v16), .val (.int v17), .val (.int (1 : Int32)), .val (.int v19)] [(.int v16)])) _
      by_cases hc119 : v16 = (0 : Int32)
      · --
        refine XS.ifYes X116.here hx rfl (pc0 := 219) (pc' := 241) rfl (hb hby at_219) rfl ((if0 _ _).trans (teq hc119).1) (by decide) (by decide) ?_
        show Steps p.tables e below (T116.setTop (mkF m 241 #[.val (.int p0), .val (.int p1), .val (.int p2), .val (.int p3), .val (.int p4), .val (.int p5), .val (.int v6), .val (.int v7), .val (.int v8), .val (.int v9), .val (.ref b95), .val (.ref b99), .val (.int vexp), .val .null, .val (.ref xx_107), .val (.int v15), .val (.int v16), .val (.int v17), .val (.int (1 : Int32)), .val (.int v19)] [])) _
        refine XS.iconst X116.here hx rfl (hb hby at_241) ?_
        show Steps p.tables e below (T116.setTop (mkF m 242 #[.val (.int p0), .val (.int p1), .val (.int p2), .val (.int p3), .val (.int p4), .val (.int p5), .val (.int v6), .val (.int v7), .val (.int v8), .val (.int v9), .val (.ref b95), .val (.ref b99), .val (.int vexp), .val .null, .val (.ref xx_107), .val (.int v15), .val (.int v16), .val (.int v17), .val (.int (1 : Int32)), .val (.int v19)] [(.int (0 : Int32))])) _
        simp only [if_neg hc118, if_pos hc119] at k
        exact k
      · --
        refine XS.ifNo X116.here hx rfl (hb hby at_219) rfl ((if0 _ _).trans (feq hc119).1) ?_
        show Steps p.tables e below (T116.setTop (mkF m 222 #[.val (.int p0), .val (.int p1), .val (.int p2), .val (.int p3), .val (.int p4), .val (.int p5), .val (.int v6), .val (.int v7), .val (.int v8), .val (.int v9), .val (.ref b95), .val (.ref b99), .val (.int vexp), .val .null, .val (.ref xx_107), .val (.int v15), .val (.int v16), .val (.int v17), .val (.int (1 : Int32)), .val (.int v19)] [])) _
        refine XS.iload X116.here hx rfl (hb hby at_222) rfl ?_
        show Steps p.tables e below (T116.setTop (mkF m 224 #[.val (.int p0), .val (.int p1), .val (.int p2), .val (.int p3), .val (.int p4), .val (.int p5), .val (.int v6), .val (.int v7), .val (.int v8), .val (.int v9), .val (.ref b95), .val (.ref b99), .val (.int vexp), .val .null, .val (.ref xx_107), .val (.int v15), .val (.int v16), .val (.int v17), .val (.int (1 : Int32)), .val (.int v19)] [(.int v17)])) _
        by_cases hc120 : v17 = (0 : Int32)
        · --
          refine XS.ifYes X116.here hx rfl (pc0 := 224) (pc' := 241) rfl (hb hby at_224) rfl ((if0 _ _).trans (teq hc120).1) (by decide) (by decide) ?_
          show Steps p.tables e below (T116.setTop (mkF m 241 #[.val (.int p0), .val (.int p1), .val (.int p2), .val (.int p3), .val (.int p4), .val (.int p5), .val (.int v6), .val (.int v7), .val (.int v8), .val (.int v9), .val (.ref b95), .val (.ref b99), .val (.int vexp), .val .null, .val (.ref xx_107), .val (.int v15), .val (.int v16), .val (.int v17), .val (.int (1 : Int32)), .val (.int v19)] [])) _
          refine XS.iconst X116.here hx rfl (hb hby at_241) ?_
          show Steps p.tables e below (T116.setTop (mkF m 242 #[.val (.int p0), .val (.int p1), .val (.int p2), .val (.int p3), .val (.int p4), .val (.int p5), .val (.int v6), .val (.int v7), .val (.int v8), .val (.int v9), .val (.ref b95), .val (.ref b99), .val (.int vexp), .val .null, .val (.ref xx_107), .val (.int v15), .val (.int v16), .val (.int v17), .val (.int (1 : Int32)), .val (.int v19)] [(.int (0 : Int32))])) _
          simp only [if_neg hc118, if_neg hc119, if_pos hc120] at k
          exact k
        · --
          refine XS.ifNo X116.here hx rfl (hb hby at_224) rfl ((if0 _ _).trans (feq hc120).1) ?_
          show Steps p.tables e below (T116.setTop (mkF m 227 #[.val (.int p0), .val (.int p1), .val (.int p2), .val (.int p3), .val (.int p4), .val (.int p5), .val (.int v6), .val (.int v7), .val (.int v8), .val (.int v9), .val (.ref b95), .val (.ref b99), .val (.int vexp), .val .null, .val (.ref xx_107), .val (.int v15), .val (.int v16), .val (.int v17), .val (.int (1 : Int32)), .val (.int v19)] [])) _
          refine XS.iload X116.here hx rfl (hb hby at_227) rfl ?_
          show Steps p.tables e below (T116.setTop (mkF m 229 #[.val (.int p0), .val (.int p1), .val (.int p2), .val (.int p3), .val (.int p4), .val (.int p5), .val (.int v6), .val (.int v7), .val (.int v8), .val (.int v9), .val (.ref b95), .val (.ref b99), .val (.int vexp), .val .null, .val (.ref xx_107), .val (.int v15), .val (.int v16), .val (.int v17), .val (.int (1 : Int32)), .val (.int v19)] [(.int (1 : Int32))])) _
          have hc121 : ¬ ((1 : Int32) = (0 : Int32)) := by decide
          refine XS.ifNo X116.here hx rfl (hb hby at_229) rfl ((if0 _ _).trans (feq hc121).1) ?_
          show Steps p.tables e below (T116.setTop (mkF m 232 #[.val (.int p0), .val (.int p1), .val (.int p2), .val (.int p3), .val (.int p4), .val (.int p5), .val (.int v6), .val (.int v7), .val (.int v8), .val (.int v9), .val (.ref b95), .val (.ref b99), .val (.int vexp), .val .null, .val (.ref xx_107), .val (.int v15), .val (.int v16), .val (.int v17), .val (.int (1 : Int32)), .val (.int v19)] [])) _
          refine XS.iload X116.here hx rfl (hb hby at_232) rfl ?_
          show Steps p.tables e below (T116.setTop (mkF m 234 #[.val (.int p0), .val (.int p1), .val (.int p2), .val (.int p3), .val (.int p4), .val (.int p5), .val (.int v6), .val (.int v7), .val (.int v8), .val (.int v9), .val (.ref b95), .val (.ref b99), .val (.int vexp), .val .null, .val (.ref xx_107), .val (.int v15), .val (.int v16), .val (.int v17), .val (.int (1 : Int32)), .val (.int v19)] [(.int v19)])) _
          by_cases hc122 : v19 = (0 : Int32)
          · --
            refine XS.ifYes X116.here hx rfl (pc0 := 234) (pc' := 241) rfl (hb hby at_234) rfl ((if0 _ _).trans (teq hc122).1) (by decide) (by decide) ?_
            show Steps p.tables e below (T116.setTop (mkF m 241 #[.val (.int p0), .val (.int p1), .val (.int p2), .val (.int p3), .val (.int p4), .val (.int p5), .val (.int v6), .val (.int v7), .val (.int v8), .val (.int v9), .val (.ref b95), .val (.ref b99), .val (.int vexp), .val .null, .val (.ref xx_107), .val (.int v15), .val (.int v16), .val (.int v17), .val (.int (1 : Int32)), .val (.int v19)] [])) _
            refine XS.iconst X116.here hx rfl (hb hby at_241) ?_
            show Steps p.tables e below (T116.setTop (mkF m 242 #[.val (.int p0), .val (.int p1), .val (.int p2), .val (.int p3), .val (.int p4), .val (.int p5), .val (.int v6), .val (.int v7), .val (.int v8), .val (.int v9), .val (.ref b95), .val (.ref b99), .val (.int vexp), .val .null, .val (.ref xx_107), .val (.int v15), .val (.int v16), .val (.int v17), .val (.int (1 : Int32)), .val (.int v19)] [(.int (0 : Int32))])) _
            simp only [if_neg hc118, if_neg hc119, if_neg hc120, if_pos hc122] at k
            exact k
          · --
            refine XS.ifNo X116.here hx rfl (hb hby at_234) rfl ((if0 _ _).trans (feq hc122).1) ?_
            show Steps p.tables e below (T116.setTop (mkF m 237 #[.val (.int p0), .val (.int p1), .val (.int p2), .val (.int p3), .val (.int p4), .val (.int p5), .val (.int v6), .val (.int v7), .val (.int v8), .val (.int v9), .val (.ref b95), .val (.ref b99), .val (.int vexp), .val .null, .val (.ref xx_107), .val (.int v15), .val (.int v16), .val (.int v17), .val (.int (1 : Int32)), .val (.int v19)] [])) _
            refine XS.iconst X116.here hx rfl (hb hby at_237) ?_
            show Steps p.tables e below (T116.setTop (mkF m 238 #[.val (.int p0), .val (.int p1), .val (.int p2), .val (.int p3), .val (.int p4), .val (.int p5), .val (.int v6), .val (.int v7), .val (.int v8), .val (.int v9), .val (.ref b95), .val (.ref b99), .val (.int vexp), .val .null, .val (.ref xx_107), .val (.int v15), .val (.int v16), .val (.int v17), .val (.int (1 : Int32)), .val (.int v19)] [(.int (1 : Int32))])) _
            refine XS.goto X116.here hx rfl (pc0 := 238) (pc' := 242) rfl (hb hby at_238) (by decide) (by decide) ?_
            show Steps p.tables e below (T116.setTop (mkF m 242 #[.val (.int p0), .val (.int p1), .val (.int p2), .val (.int p3), .val (.int p4), .val (.int p5), .val (.int v6), .val (.int v7), .val (.int v8), .val (.int v9), .val (.ref b95), .val (.ref b99), .val (.int vexp), .val .null, .val (.ref xx_107), .val (.int v15), .val (.int v16), .val (.int v17), .val (.int (1 : Int32)), .val (.int v19)] [(.int (1 : Int32))])) _
            simp only [if_neg hc118, if_neg hc119, if_neg hc120, if_neg hc122] at k
            exact k
  show own_Goes p e below _ (T116.setTop (mkF m 242 #[.val (.int p0), .val (.int p1), .val (.int p2), .val (.int p3), .val (.int p4), .val (.int p5), .val (.int v6), .val (.int v7), .val (.int v8), .val (.int v9), .val (.ref b95), .val (.ref b99), .val (.int vexp), .val .null, .val (.ref xx_107), .val (.int v15), .val (.int v16), .val (.int v17), .val (.int (1 : Int32)), .val (.int v19)] [(.int (if v15 = (0 : Int32) then (0 : Int32) else (if v16 = (0 : Int32) then (0 : Int32) else (if v17 = (0 : Int32) then (0 : Int32) else (if v19 = (0 : Int32) then (0 : Int32) else (1 : Int32))))))]))
  refine own_retL X116 hx hlk Bd.returns (hb hby at_242) (?_ : (if v15 = (0 : Int32) then (0 : Int32) else (if v16 = (0 : Int32) then (0 : Int32) else (if v17 = (0 : Int32) then (0 : Int32) else (if v19 = (0 : Int32) then (0 : Int32) else (1 : Int32))))) = 1) N116 (by decide) (by decide)
  exact own_plain ne_b95_b99 (ne_exa (((f97_0.ext E99).keep K101c).keep K107c) f107_0 (by decide)) hv_vexp hv_v15 hv_v16 hv_v17 hv_v19
set_option maxRecDepth 65536 in
set_option maxHeartbeats 40000000 in
theorem comes_1 {Post : Tables → Env → Array Value → State → Outcome → State → Prop} (hpost : ∀ tb e args s v u, (limb_1_1.after args s (.returned v) u = true ∧ limb_1_2.after args s (.returned v) u = true ∧ True) → FrameEnd s (.returned v) u (Jvm.fieldLocs frame_1_writes args s ++ Jvm.arrayLocs frame_1_arrays args s ++ Jvm.staticLocs frame_1_statics s) 16 128 → Post tb e args s (.returned v) u) :
    ArmFor flags0 classFile x code maxLocals ret World_1 tables_1 room_1 Calls_1 rest_1 Pre_1 Post := by
  intro l hfl _ _ p e ha hc hk s m args below hf hA hF happ hP
  obtain ⟨hcalls, hrest, hpre⟩ := hP
  obtain ⟨-, -, -, hnamed, -, -, -, hat⟩ := (Spec.applies_iff hf).mp happ
  obtain ⟨hg, hn⟩ := and_e (Cond.before_iff.mp (show (Jvm.Cond.and given_1 narrow_1).before args s = true from hpre))
  obtain ⟨gg1, gg2⟩ := and_e hg
  obtain ⟨gg3, gg4⟩ := and_e gg2
  obtain ⟨gg5, gg6⟩ := and_e gg4
  obtain ⟨gg7, gg8⟩ := and_e gg6
  obtain ⟨gg9, gg10⟩ := and_e gg8
  obtain ⟨gg11, gg12⟩ := and_e gg10
  obtain ⟨w0, w1, w2, w3, w4, w5, rfl⟩ : ∃ w0 w1 w2 w3 w4 w5 : Value, args = #[w0, w1, w2, w3, w4, w5] := by
    have hs : args.size = 6 := by simpa [Cond.value, given_1] using gg1
    obtain ⟨L⟩ := args
    match L, hs with
    | [w0, w1, w2, w3, w4, w5], _ => exact ⟨w0, w1, w2, w3, w4, w5, rfl⟩
  have hw := fun d (hd : d ∈ tables_1) => atoms_spec (ws := Jvm.Cond.code x code maxLocals ret :: tables_1) hat d (List.mem_cons_of_mem _ hd)
  have hfit : Fit s := fun {y c} hc i hi => by
    obtain ⟨ha, rfl⟩ := Array.getElem?_eq_some_iff.mp hc
    have q := List.all_eq_true.mp ((Array.all_eq_true_iff_forall_mem.mp hF) _ (Array.getElem_mem ha)) i (List.mem_range.mpr hi)
    simpa [Array.getElem?_eq_getElem hi] using q
  obtain ⟨i0, ei0⟩ := is_v gg3
  obtain rfl : w0 = (.int i0) := Option.some.inj ei0
  obtain ⟨i1, ei1⟩ := is_v gg5
  obtain rfl : w1 = (.int i1) := Option.some.inj ei1
  obtain ⟨i2, ei2⟩ := is_v gg7
  obtain rfl : w2 = (.int i2) := Option.some.inj ei2
  obtain ⟨i3, ei3⟩ := is_v gg9
  obtain rfl : w3 = (.int i3) := Option.some.inj ei3
  obtain ⟨i4, ei4⟩ := is_v gg11
  obtain rfl : w4 = (.int i4) := Option.some.inj ei4
  obtain ⟨i5, ei5⟩ := is_v gg12
  obtain rfl : w5 = (.int i5) := Option.some.inj ei5
  obtain ⟨hsets, hown0⟩ := atoms_of _ (rest_1_c_eq ▸ (show rest_1_c.before _ s = true from hrest))
  have eh := eqv_i (Term.int_eval _) (Cond.before_iff.mp (hsets _ (List.mem_of_getElem? (i := 3) rfl)))
  have S_high := Sta.start eh (Or.inl (hsets _ (List.mem_of_getElem? (i := 1) rfl)))
  obtain ⟨wc, evc⟩ := arr_v (Cond.before_iff.mp (hsets _ (List.mem_of_getElem? (i := 4) rfl)))
  have S_cache := Sta.start evc (Or.inr ⟨(hw _ (List.mem_of_getElem? (i := 22) rfl)), (hsets _ (List.mem_of_getElem? (i := 2) rfl))⟩)
  obtain ⟨cC, AC⟩ := Arr.start evc (Cond.before_iff.mp (hsets _ (List.mem_of_getElem? (i := 4) rfl)))
  have lC := own_length evc AC (Cond.before_iff.mp (hsets _ (List.mem_of_getElem? (i := 6) rfl)))
  have hbx : Bxs s wc cC "java/lang/Integer" "I" (256 : Int32) own_val := Bxs.start (fun idx => evc) AC lC.1 lC.2 (by decide) (Cond.before_iff.mp (hsets _ (List.mem_of_getElem? (i := 7) rfl))) (fun X j nn h => eqv_i (own_sub (idx_at nn) (Term.int_eval _)) h)
  obtain ⟨n, o, h1, h2, h3, _, L, rfl, ⟨rfl, N⟩, hq⟩ := own_law l s _ hw tables_1 i0 i1 i2 i3 i4 i5 wc cC s.heap s.heap.size (Nat.le_refl _) S_high S_cache (Old.start s) hbx p e ha hc hk s m _ below hf ((Spec.applies_iff_loose hf).mp happ).1 ⟨rfl, State.Warmed39.refl s, rfl⟩ trivial
  refine ⟨n, _, h1, h2, h3, hpost _ _ _ _ _ _ ⟨Cond.after_iff.mpr rfl, Cond.after_iff.mpr (eq_i res_at (Term.int_eval (1)) rfl), trivial⟩ ⟨hq.1, hq.2.1, (hq.2.2.sift fun y hy => Or.inr (N y hy)).mono (by decide) (by decide)⟩⟩
theorem main_1_1 : Claimed_1_1 := comes_1 fun _ _ _ _ _ _ h hF => ⟨h.1, hF⟩
theorem main_1_2 : Claimed_1_2 := comes_1 fun _ _ _ _ _ _ h hF => ⟨h.2.1, hF⟩
end Jvm.Pilot.@@N@@
namespace Jvm.Pilot.@@N@@
open Jvm Jvm.ClassFile Sem Op Lib Jvm.Free Jvm.Stand Jvm.Pilot.@@N@@.Jvm.D
/-! MADE BY PROGRAM (witnessworld.py) out of the Statement's table words and the real class files: 14 classes; the members and pool entries that the words name. The judged class is class 1, her method 1. -/
namespace start1
open Jvm.ClassFile
def u (s : String) : CpInfo := .utf8 (stringToUtf16 s)
/-- a pool by its gaps: so many unusable entries, then the entry; so many at the end -/
def gap : Nat → List CpInfo → List CpInfo
  | 0, r => r
  | n + 1, r => .unusable :: gap n r
def poolList (es : List (Nat × CpInfo)) (last : Nat) : List CpInfo := es.foldr (fun e r => gap e.1 (e.2 :: r)) (gap last [])
def pool (es : List (Nat × CpInfo)) (last : Nat) : Array CpInfo := ⟨poolList es last⟩
def fileOf (pool : Array CpInfo) (this : Nat) (attrs : Array Attribute := #[]) (ms : Array MethodInfo := #[]) (fl : Nat := 33) (sup : Nat := 0) (ifs : Array Nat := #[]) (fds : Array FieldInfo := #[]) : ClassFile where
  minorVersion := 0
  majorVersion := 65
  constantPool := pool
  accessFlags := fl
  thisClass := this
  superClass := sup
  interfaces := ifs
  fields := fds
  methods := ms
  attributes := attrs
def plain (name : String) (sup : Option ClassId) : Class where
  name := name
  kind := .ordinary
  loader := none
  accessFlags := 33
  super := sup
  interfaces := #[]
  cf := none
  fields := #[]
  methods := #[]
  instanceTypes := #[]
  staticTypes := #[]
  resolved := #[]
  callSites := []
  init := .initialized
  statics := none
  mirror := none

def pool0 : Array CpInfo := pool [(5, u "<init>"), (0, u "()V"), (1, .class_ 10), (1, u "java/lang/Object")] 113

def k0c0 : Code := { maxStack := 0, maxLocals := 1, code := object_method_1_code, exceptionTable := #[], attributes := #[] }
def k0m0 : Method := { name := "<init>", desc := "()V", sig := { parameters := [], returnType := none }, accessFlags := 1, code := some k0c0 }
/-- java/lang/Object -/
def k0 : Class := { plain "java/lang/Object" none with
  accessFlags := 33
  interfaces := #[]
  cf := some (fileOf pool0 8 #[] #[{ accessFlags := 1, nameIndex := 5, descriptorIndex := 6, attributes := #[] }] 33 0 #[] #[])
  fields := #[]
  methods := #[k0m0]
  instanceTypes := #[]
  staticTypes := #[]
  resolved := Array.replicate 124 none
  statics := none }

def pool1 : Array CpInfo := pool [(2, .class_ 4), (1, u "java/lang/Object"), (0, u "<init>"), (0, u "()V"), (0, .class_ 8), (0, u "com/example/heed/heed/Rect"), (0, .methodref 7 10), (0, .nameAndType 5 11), (0, u "(IIII)V"), (0, .methodref 13 14), (0, .class_ 15), (0, .nameAndType 16 17), (0, u "java/lang/Integer"), (0, u "valueOf"), (0, u "(I)Ljava/lang/Integer;"), (0, .methodref 7 19), (0, .nameAndType 20 21), (0, u "equals"), (0, u "(Ljava/lang/Object;)Z"), (0, .class_ 23), (0, u "com/example/heed/heed/RectEqualsPinLaw"), (2, u "law"), (0, u "(IIIIII)Z")] 3

def k1m0 : Method := { name := "<init>", desc := "()V", sig := { parameters := [], returnType := none }, accessFlags := 1, code := none }
def k1c1 : Code := { maxStack := 6, maxLocals := 20, code := code, exceptionTable := #[], attributes := #[] }
def k1m1 : Method := { name := "law", desc := "(IIIIII)Z", sig := { parameters := [.int, .int, .int, .int, .int, .int], returnType := some .boolean }, accessFlags := 9, code := some k1c1 }
/-- com/example/heed/heed/RectEqualsPinLaw -/
def k1 : Class := { plain "com/example/heed/heed/RectEqualsPinLaw" (some 0) with
  accessFlags := 49
  interfaces := #[]
  cf := some (fileOf pool1 22 #[] #[{ accessFlags := 1, nameIndex := 5, descriptorIndex := 6, attributes := #[] }, { accessFlags := 9, nameIndex := 26, descriptorIndex := 27, attributes := #[] }] 49 2 #[] #[])
  fields := #[]
  methods := #[k1m0, k1m1]
  instanceTypes := #[]
  staticTypes := #[]
  resolved := Array.replicate 31 none
  statics := none }

def pool2 : Array CpInfo := pool [(1, .methodref 2 3), (0, .class_ 4), (0, .nameAndType 5 6), (0, u "java/lang/Object"), (0, u "<init>"), (0, u "()V"), (0, .fieldref 8 9), (0, .class_ 10), (0, .nameAndType 11 12), (0, u "com/example/heed/heed/Rect"), (0, u "left"), (0, u "I"), (0, .fieldref 8 14), (0, .nameAndType 15 12), (0, u "top"), (0, .fieldref 8 17), (0, .nameAndType 18 12), (0, u "right"), (0, .fieldref 8 20), (0, .nameAndType 21 12), (0, u "bottom"), (2, u "TEXT"), (0, u "Ljava/util/regex/Pattern;"), (33, u "(IIII)V"), (41, u "equals"), (0, u "(Ljava/lang/Object;)Z")] 25

def k2c0 : Code := { maxStack := 2, maxLocals := 5, code := prog_50_method_1_code, exceptionTable := #[], attributes := #[] }
def k2m0 : Method := { name := "<init>", desc := "(IIII)V", sig := { parameters := [.int, .int, .int, .int], returnType := none }, accessFlags := 1, code := some k2c0 }
def k2c1 : Code := { maxStack := 2, maxLocals := 3, code := prog_50_method_9_code, exceptionTable := #[], attributes := #[] }
def k2m1 : Method := { name := "equals", desc := "(Ljava/lang/Object;)Z", sig := { parameters := [(.object "java/lang/Object")], returnType := some .boolean }, accessFlags := 1, code := some k2c1 }
/-- com/example/heed/heed/Rect -/
def k2 : Class := { plain "com/example/heed/heed/Rect" (some 0) with
  accessFlags := 33
  interfaces := #[]
  cf := some (fileOf pool2 8 #[] #[{ accessFlags := 1, nameIndex := 5, descriptorIndex := 59, attributes := #[] }, { accessFlags := 1, nameIndex := 101, descriptorIndex := 102, attributes := #[] }] 33 2 #[] #[{ accessFlags := 26, nameIndex := 24, descriptorIndex := 25, attributes := #[] }, { accessFlags := 18, nameIndex := 11, descriptorIndex := 12, attributes := #[] }, { accessFlags := 18, nameIndex := 15, descriptorIndex := 12, attributes := #[] }, { accessFlags := 18, nameIndex := 18, descriptorIndex := 12, attributes := #[] }, { accessFlags := 18, nameIndex := 21, descriptorIndex := 12, attributes := #[] }])
  fields := #[{ name := "TEXT", type := (.object "java/util/regex/Pattern"), accessFlags := 26, slot := 0, constantValue := 0 }, { name := "left", type := .int, accessFlags := 18, slot := 0, constantValue := 0 }, { name := "top", type := .int, accessFlags := 18, slot := 1, constantValue := 0 }, { name := "right", type := .int, accessFlags := 18, slot := 2, constantValue := 0 }, { name := "bottom", type := .int, accessFlags := 18, slot := 3, constantValue := 0 }]
  methods := #[k2m0, k2m1]
  instanceTypes := #[.int, .int, .int, .int]
  staticTypes := #[(.object "java/util/regex/Pattern")]
  resolved := Array.replicate 128 none
  statics := none }

def pool3 : Array CpInfo := pool [(1, .class_ 2), (0, u "java/io/Serializable"), (0, .class_ 4), (0, u "java/lang/Object")] 2

/-- java/io/Serializable -/
def k3 : Class := { plain "java/io/Serializable" (some 0) with
  accessFlags := 1537
  interfaces := #[]
  cf := some (fileOf pool3 1 #[] #[] 1537 3 #[] #[])
  fields := #[]
  methods := #[]
  instanceTypes := #[]
  staticTypes := #[]
  resolved := Array.replicate 7 none
  statics := none }

def pool4 : Array CpInfo := pool [(1, .methodref 2 3), (0, .class_ 4), (0, .nameAndType 5 6), (0, u "java/lang/Object"), (0, u "<init>"), (0, u "()V"), (1, .class_ 10), (1, u "java/lang/Number"), (2, .class_ 14), (0, u "java/io/Serializable"), (0, u "serialVersionUID"), (0, u "J")] 20

def k4c0 : Code := { maxStack := 1, maxLocals := 1, code := jdk_18_method_1_code, exceptionTable := #[], attributes := #[] }
def k4m0 : Method := { name := "<init>", desc := "()V", sig := { parameters := [], returnType := none }, accessFlags := 1, code := some k4c0 }
/-- java/lang/Number -/
def k4 : Class := { plain "java/lang/Number" (some 0) with
  accessFlags := 1057
  interfaces := #[3]
  cf := some (fileOf pool4 8 #[] #[{ accessFlags := 1, nameIndex := 5, descriptorIndex := 6, attributes := #[] }] 1057 2 #[13] #[{ accessFlags := 26, nameIndex := 15, descriptorIndex := 16, attributes := #[] }])
  fields := #[{ name := "serialVersionUID", type := .long, accessFlags := 26, slot := 0, constantValue := 0 }]
  methods := #[k4m0]
  instanceTypes := #[]
  staticTypes := #[.long]
  resolved := Array.replicate 37 none
  statics := none }

def pool5 : Array CpInfo := pool [(1, .class_ 2), (0, u "java/lang/Comparable"), (0, .class_ 4), (0, u "java/lang/Object")] 7

/-- java/lang/Comparable -/
def k5 : Class := { plain "java/lang/Comparable" (some 0) with
  accessFlags := 1537
  interfaces := #[]
  cf := some (fileOf pool5 1 #[] #[] 1537 3 #[] #[])
  fields := #[]
  methods := #[]
  instanceTypes := #[]
  staticTypes := #[]
  resolved := Array.replicate 12 none
  statics := none }

def pool6 : Array CpInfo := pool [(1, .class_ 2), (0, u "java/lang/constant/Constable"), (0, .class_ 4), (0, u "java/lang/Object")] 6

/-- java/lang/constant/Constable -/
def k6 : Class := { plain "java/lang/constant/Constable" (some 0) with
  accessFlags := 1537
  interfaces := #[]
  cf := some (fileOf pool6 1 #[] #[] 1537 3 #[] #[])
  fields := #[]
  methods := #[]
  instanceTypes := #[]
  staticTypes := #[]
  resolved := Array.replicate 11 none
  statics := none }

def pool7 : Array CpInfo := pool [(1, .class_ 2), (0, u "java/lang/constant/ConstantDesc"), (0, .class_ 4), (0, u "java/lang/Object")] 32

/-- java/lang/constant/ConstantDesc -/
def k7 : Class := { plain "java/lang/constant/ConstantDesc" (some 0) with
  accessFlags := 1537
  interfaces := #[]
  cf := some (fileOf pool7 1 #[] #[] 1537 3 #[] #[])
  fields := #[]
  methods := #[]
  instanceTypes := #[]
  staticTypes := #[]
  resolved := Array.replicate 37 none
  statics := none }

def pool8 : Array CpInfo := pool [(1, .class_ 2), (0, u "java/lang/Integer"), (16, u "digits"), (0, u "[C"), (46, u "<init>"), (17, u "DigitOnes"), (0, u "[B"), (2, u "DigitTens"), (10, .nameAndType 67 101), (0, u "()V"), (85, u "valueOf"), (0, u "(I)Ljava/lang/Integer;"), (0, .class_ 190), (0, u "java/lang/Integer$IntegerCache"), (0, .fieldref 189 192), (0, .nameAndType 193 194), (0, u "high"), (0, u "I"), (0, .fieldref 189 196), (0, .nameAndType 197 198), (0, u "cache"), (0, u "[Ljava/lang/Integer;"), (0, .methodref 1 200), (0, .nameAndType 67 201), (0, u "(I)V"), (0, .methodref 203 100), (0, .class_ 204), (0, u "java/lang/Number"), (0, .fieldref 1 206), (0, .nameAndType 207 194), (0, u "value"), (94, u "TYPE"), (0, u "Ljava/lang/Class;"), (0, .class_ 305), (0, u "java/lang/Comparable"), (0, .class_ 307), (0, u "java/lang/constant/Constable"), (0, .class_ 309), (0, u "java/lang/constant/ConstantDesc"), (0, u "MIN_VALUE"), (1, u "MAX_VALUE"), (3, u "SIZE"), (1, u "BYTES"), (1, u "serialVersionUID"), (0, u "J")] 131

def k8c0 : Code := { maxStack := 3, maxLocals := 1, code := jdk_33_method_22_code, exceptionTable := #[], attributes := #[] }
def k8m0 : Method := { name := "valueOf", desc := "(I)Ljava/lang/Integer;", sig := { parameters := [.int], returnType := some (.object "java/lang/Integer") }, accessFlags := 9, code := some k8c0 }
def k8c1 : Code := { maxStack := 2, maxLocals := 2, code := jdk_33_method_23_code, exceptionTable := #[], attributes := #[] }
def k8m1 : Method := { name := "<init>", desc := "(I)V", sig := { parameters := [.int], returnType := none }, accessFlags := 1, code := some k8c1 }
/-- java/lang/Integer -/
def k8 : Class := { plain "java/lang/Integer" (some 4) with
  accessFlags := 49
  interfaces := #[5, 6, 7]
  cf := some (fileOf pool8 1 #[.nestMembers #[189]] #[{ accessFlags := 9, nameIndex := 187, descriptorIndex := 188, attributes := #[] }, { accessFlags := 1, nameIndex := 67, descriptorIndex := 201, attributes := #[] }] 49 203 #[304, 306, 308] #[{ accessFlags := 25, nameIndex := 310, descriptorIndex := 194, attributes := #[] }, { accessFlags := 25, nameIndex := 312, descriptorIndex := 194, attributes := #[] }, { accessFlags := 25, nameIndex := 302, descriptorIndex := 303, attributes := #[] }, { accessFlags := 24, nameIndex := 19, descriptorIndex := 20, attributes := #[] }, { accessFlags := 24, nameIndex := 89, descriptorIndex := 86, attributes := #[] }, { accessFlags := 24, nameIndex := 85, descriptorIndex := 86, attributes := #[] }, { accessFlags := 18, nameIndex := 207, descriptorIndex := 194, attributes := #[] }, { accessFlags := 25, nameIndex := 316, descriptorIndex := 194, attributes := #[] }, { accessFlags := 25, nameIndex := 318, descriptorIndex := 194, attributes := #[] }, { accessFlags := 26, nameIndex := 320, descriptorIndex := 321, attributes := #[] }])
  fields := #[{ name := "MIN_VALUE", type := .int, accessFlags := 25, slot := 0, constantValue := 0 }, { name := "MAX_VALUE", type := .int, accessFlags := 25, slot := 1, constantValue := 0 }, { name := "TYPE", type := (.object "java/lang/Class"), accessFlags := 25, slot := 2, constantValue := 0 }, { name := "digits", type := (.array .char), accessFlags := 24, slot := 3, constantValue := 0 }, { name := "DigitTens", type := (.array .byte), accessFlags := 24, slot := 4, constantValue := 0 }, { name := "DigitOnes", type := (.array .byte), accessFlags := 24, slot := 5, constantValue := 0 }, { name := "value", type := .int, accessFlags := 18, slot := 0, constantValue := 0 }, { name := "SIZE", type := .int, accessFlags := 25, slot := 6, constantValue := 0 }, { name := "BYTES", type := .int, accessFlags := 25, slot := 7, constantValue := 0 }, { name := "serialVersionUID", type := .long, accessFlags := 26, slot := 8, constantValue := 0 }]
  methods := #[k8m0, k8m1]
  instanceTypes := #[.int]
  staticTypes := #[.int, .int, (.object "java/lang/Class"), (.array .char), (.array .byte), (.array .byte), .int, .int, .long]
  resolved := Array.replicate 453 none
  statics := none }

def pool9 : Array CpInfo := pool [(2, .class_ 4), (1, u "java/lang/Object"), (0, u "<init>"), (0, u "()V"), (0, .class_ 8), (0, u "java/lang/Integer"), (7, .class_ 18), (1, u "java/lang/Integer$IntegerCache"), (0, u "$assertionsDisabled"), (0, u "Z"), (26, u "high"), (0, u "I"), (8, u "archivedCache"), (0, u "[Ljava/lang/Integer;"), (12, u "cache"), (0, u "low")] 27

def k9m0 : Method := { name := "<init>", desc := "()V", sig := { parameters := [], returnType := none }, accessFlags := 2, code := none }
/-- java/lang/Integer$IntegerCache -/
def k9 : Class := { plain "java/lang/Integer$IntegerCache" (some 0) with
  accessFlags := 48
  interfaces := #[]
  cf := some (fileOf pool9 16 #[.nestHost 7] #[{ accessFlags := 2, nameIndex := 5, descriptorIndex := 6, attributes := #[] }] 48 2 #[] #[{ accessFlags := 24, nameIndex := 72, descriptorIndex := 48, attributes := #[] }, { accessFlags := 24, nameIndex := 47, descriptorIndex := 48, attributes := #[] }, { accessFlags := 24, nameIndex := 71, descriptorIndex := 58, attributes := #[] }, { accessFlags := 8, nameIndex := 57, descriptorIndex := 58, attributes := #[] }, { accessFlags := 4120, nameIndex := 19, descriptorIndex := 20, attributes := #[] }])
  fields := #[{ name := "low", type := .int, accessFlags := 24, slot := 0, constantValue := 0 }, { name := "high", type := .int, accessFlags := 24, slot := 1, constantValue := 0 }, { name := "cache", type := (.array (.object "java/lang/Integer")), accessFlags := 24, slot := 2, constantValue := 0 }, { name := "archivedCache", type := (.array (.object "java/lang/Integer")), accessFlags := 8, slot := 3, constantValue := 0 }, { name := "$assertionsDisabled", type := .boolean, accessFlags := 4120, slot := 4, constantValue := 0 }]
  methods := #[k9m0]
  instanceTypes := #[]
  staticTypes := #[.int, .int, (.array (.object "java/lang/Integer")), (.array (.object "java/lang/Integer")), .boolean]
  resolved := Array.replicate 100 none
  statics := some 0 }

def pool10 : Array CpInfo := pool [(1, u "java/lang/Cloneable"), (0, .class_ 1), (0, u "java/lang/Object"), (0, .class_ 3)] 3

/-- java/lang/Cloneable -/
def k10 : Class := { plain "java/lang/Cloneable" (some 0) with
  accessFlags := 1537
  interfaces := #[]
  cf := some (fileOf pool10 2 #[] #[] 1537 4 #[] #[])
  fields := #[]
  methods := #[]
  instanceTypes := #[]
  staticTypes := #[]
  resolved := Array.replicate 8 none
  statics := none }

/-- the primitive byte -/
def k11 : Class := { plain "byte" none with kind := .primitive 'B', accessFlags := 0x411 }
/-- [B -/
def k12 : Class := { plain "[B" (some 0) with kind := .array 11 .byte, interfaces := #[10, 3], accessFlags := 1041 }

/-- [Ljava/lang/Integer; -/
def k13 : Class := { plain "[Ljava/lang/Integer;" (some 0) with kind := .array 8 (.object "java/lang/Integer"), interfaces := #[10, 3], accessFlags := 1041 }

def heap : Heap := #[{ cls := 9, slots := #[.int 0, .int 127, .ref 1, .null, .int 0], vm := .statics 9 },
  { cls := 13, slots := #[.ref 2, .ref 3, .ref 4, .ref 5, .ref 6, .ref 7, .ref 8, .ref 9, .ref 10, .ref 11, .ref 12, .ref 13, .ref 14, .ref 15, .ref 16, .ref 17, .ref 18, .ref 19, .ref 20, .ref 21, .ref 22, .ref 23, .ref 24, .ref 25, .ref 26, .ref 27, .ref 28, .ref 29, .ref 30, .ref 31, .ref 32, .ref 33, .ref 34, .ref 35, .ref 36, .ref 37, .ref 38, .ref 39, .ref 40, .ref 41, .ref 42, .ref 43, .ref 44, .ref 45, .ref 46, .ref 47, .ref 48, .ref 49, .ref 50, .ref 51, .ref 52, .ref 53, .ref 54, .ref 55, .ref 56, .ref 57, .ref 58, .ref 59, .ref 60, .ref 61, .ref 62, .ref 63, .ref 64, .ref 65, .ref 66, .ref 67, .ref 68, .ref 69, .ref 70, .ref 71, .ref 72, .ref 73, .ref 74, .ref 75, .ref 76, .ref 77, .ref 78, .ref 79, .ref 80, .ref 81, .ref 82, .ref 83, .ref 84, .ref 85, .ref 86, .ref 87, .ref 88, .ref 89, .ref 90, .ref 91, .ref 92, .ref 93, .ref 94, .ref 95, .ref 96, .ref 97, .ref 98, .ref 99, .ref 100, .ref 101, .ref 102, .ref 103, .ref 104, .ref 105, .ref 106, .ref 107, .ref 108, .ref 109, .ref 110, .ref 111, .ref 112, .ref 113, .ref 114, .ref 115, .ref 116, .ref 117, .ref 118, .ref 119, .ref 120, .ref 121, .ref 122, .ref 123, .ref 124, .ref 125, .ref 126, .ref 127, .ref 128, .ref 129, .ref 130, .ref 131, .ref 132, .ref 133, .ref 134, .ref 135, .ref 136, .ref 137, .ref 138, .ref 139, .ref 140, .ref 141, .ref 142, .ref 143, .ref 144, .ref 145, .ref 146, .ref 147, .ref 148, .ref 149, .ref 150, .ref 151, .ref 152, .ref 153, .ref 154, .ref 155, .ref 156, .ref 157, .ref 158, .ref 159, .ref 160, .ref 161, .ref 162, .ref 163, .ref 164, .ref 165, .ref 166, .ref 167, .ref 168, .ref 169, .ref 170, .ref 171, .ref 172, .ref 173, .ref 174, .ref 175, .ref 176, .ref 177, .ref 178, .ref 179, .ref 180, .ref 181, .ref 182, .ref 183, .ref 184, .ref 185, .ref 186, .ref 187, .ref 188, .ref 189, .ref 190, .ref 191, .ref 192, .ref 193, .ref 194, .ref 195, .ref 196, .ref 197, .ref 198, .ref 199, .ref 200, .ref 201, .ref 202, .ref 203, .ref 204, .ref 205, .ref 206, .ref 207, .ref 208, .ref 209, .ref 210, .ref 211, .ref 212, .ref 213, .ref 214, .ref 215, .ref 216, .ref 217, .ref 218, .ref 219, .ref 220, .ref 221, .ref 222, .ref 223, .ref 224, .ref 225, .ref 226, .ref 227, .ref 228, .ref 229, .ref 230, .ref 231, .ref 232, .ref 233, .ref 234, .ref 235, .ref 236, .ref 237, .ref 238, .ref 239, .ref 240, .ref 241, .ref 242, .ref 243, .ref 244, .ref 245, .ref 246, .ref 247, .ref 248, .ref 249, .ref 250, .ref 251, .ref 252, .ref 253, .ref 254, .ref 255, .ref 256, .ref 257], vm := .none },
  { cls := 8, slots := #[.int (-128)], vm := .none },
  { cls := 8, slots := #[.int (-127)], vm := .none },
  { cls := 8, slots := #[.int (-126)], vm := .none },
  { cls := 8, slots := #[.int (-125)], vm := .none },
  { cls := 8, slots := #[.int (-124)], vm := .none },
  { cls := 8, slots := #[.int (-123)], vm := .none },
  { cls := 8, slots := #[.int (-122)], vm := .none },
  { cls := 8, slots := #[.int (-121)], vm := .none },
  { cls := 8, slots := #[.int (-120)], vm := .none },
  { cls := 8, slots := #[.int (-119)], vm := .none },
  { cls := 8, slots := #[.int (-118)], vm := .none },
  { cls := 8, slots := #[.int (-117)], vm := .none },
  { cls := 8, slots := #[.int (-116)], vm := .none },
  { cls := 8, slots := #[.int (-115)], vm := .none },
  { cls := 8, slots := #[.int (-114)], vm := .none },
  { cls := 8, slots := #[.int (-113)], vm := .none },
  { cls := 8, slots := #[.int (-112)], vm := .none },
  { cls := 8, slots := #[.int (-111)], vm := .none },
  { cls := 8, slots := #[.int (-110)], vm := .none },
  { cls := 8, slots := #[.int (-109)], vm := .none },
  { cls := 8, slots := #[.int (-108)], vm := .none },
  { cls := 8, slots := #[.int (-107)], vm := .none },
  { cls := 8, slots := #[.int (-106)], vm := .none },
  { cls := 8, slots := #[.int (-105)], vm := .none },
  { cls := 8, slots := #[.int (-104)], vm := .none },
  { cls := 8, slots := #[.int (-103)], vm := .none },
  { cls := 8, slots := #[.int (-102)], vm := .none },
  { cls := 8, slots := #[.int (-101)], vm := .none },
  { cls := 8, slots := #[.int (-100)], vm := .none },
  { cls := 8, slots := #[.int (-99)], vm := .none },
  { cls := 8, slots := #[.int (-98)], vm := .none },
  { cls := 8, slots := #[.int (-97)], vm := .none },
  { cls := 8, slots := #[.int (-96)], vm := .none },
  { cls := 8, slots := #[.int (-95)], vm := .none },
  { cls := 8, slots := #[.int (-94)], vm := .none },
  { cls := 8, slots := #[.int (-93)], vm := .none },
  { cls := 8, slots := #[.int (-92)], vm := .none },
  { cls := 8, slots := #[.int (-91)], vm := .none },
  { cls := 8, slots := #[.int (-90)], vm := .none },
  { cls := 8, slots := #[.int (-89)], vm := .none },
  { cls := 8, slots := #[.int (-88)], vm := .none },
  { cls := 8, slots := #[.int (-87)], vm := .none },
  { cls := 8, slots := #[.int (-86)], vm := .none },
  { cls := 8, slots := #[.int (-85)], vm := .none },
  { cls := 8, slots := #[.int (-84)], vm := .none },
  { cls := 8, slots := #[.int (-83)], vm := .none },
  { cls := 8, slots := #[.int (-82)], vm := .none },
  { cls := 8, slots := #[.int (-81)], vm := .none },
  { cls := 8, slots := #[.int (-80)], vm := .none },
  { cls := 8, slots := #[.int (-79)], vm := .none },
  { cls := 8, slots := #[.int (-78)], vm := .none },
  { cls := 8, slots := #[.int (-77)], vm := .none },
  { cls := 8, slots := #[.int (-76)], vm := .none },
  { cls := 8, slots := #[.int (-75)], vm := .none },
  { cls := 8, slots := #[.int (-74)], vm := .none },
  { cls := 8, slots := #[.int (-73)], vm := .none },
  { cls := 8, slots := #[.int (-72)], vm := .none },
  { cls := 8, slots := #[.int (-71)], vm := .none },
  { cls := 8, slots := #[.int (-70)], vm := .none },
  { cls := 8, slots := #[.int (-69)], vm := .none },
  { cls := 8, slots := #[.int (-68)], vm := .none },
  { cls := 8, slots := #[.int (-67)], vm := .none },
  { cls := 8, slots := #[.int (-66)], vm := .none },
  { cls := 8, slots := #[.int (-65)], vm := .none },
  { cls := 8, slots := #[.int (-64)], vm := .none },
  { cls := 8, slots := #[.int (-63)], vm := .none },
  { cls := 8, slots := #[.int (-62)], vm := .none },
  { cls := 8, slots := #[.int (-61)], vm := .none },
  { cls := 8, slots := #[.int (-60)], vm := .none },
  { cls := 8, slots := #[.int (-59)], vm := .none },
  { cls := 8, slots := #[.int (-58)], vm := .none },
  { cls := 8, slots := #[.int (-57)], vm := .none },
  { cls := 8, slots := #[.int (-56)], vm := .none },
  { cls := 8, slots := #[.int (-55)], vm := .none },
  { cls := 8, slots := #[.int (-54)], vm := .none },
  { cls := 8, slots := #[.int (-53)], vm := .none },
  { cls := 8, slots := #[.int (-52)], vm := .none },
  { cls := 8, slots := #[.int (-51)], vm := .none },
  { cls := 8, slots := #[.int (-50)], vm := .none },
  { cls := 8, slots := #[.int (-49)], vm := .none },
  { cls := 8, slots := #[.int (-48)], vm := .none },
  { cls := 8, slots := #[.int (-47)], vm := .none },
  { cls := 8, slots := #[.int (-46)], vm := .none },
  { cls := 8, slots := #[.int (-45)], vm := .none },
  { cls := 8, slots := #[.int (-44)], vm := .none },
  { cls := 8, slots := #[.int (-43)], vm := .none },
  { cls := 8, slots := #[.int (-42)], vm := .none },
  { cls := 8, slots := #[.int (-41)], vm := .none },
  { cls := 8, slots := #[.int (-40)], vm := .none },
  { cls := 8, slots := #[.int (-39)], vm := .none },
  { cls := 8, slots := #[.int (-38)], vm := .none },
  { cls := 8, slots := #[.int (-37)], vm := .none },
  { cls := 8, slots := #[.int (-36)], vm := .none },
  { cls := 8, slots := #[.int (-35)], vm := .none },
  { cls := 8, slots := #[.int (-34)], vm := .none },
  { cls := 8, slots := #[.int (-33)], vm := .none },
  { cls := 8, slots := #[.int (-32)], vm := .none },
  { cls := 8, slots := #[.int (-31)], vm := .none },
  { cls := 8, slots := #[.int (-30)], vm := .none },
  { cls := 8, slots := #[.int (-29)], vm := .none },
  { cls := 8, slots := #[.int (-28)], vm := .none },
  { cls := 8, slots := #[.int (-27)], vm := .none },
  { cls := 8, slots := #[.int (-26)], vm := .none },
  { cls := 8, slots := #[.int (-25)], vm := .none },
  { cls := 8, slots := #[.int (-24)], vm := .none },
  { cls := 8, slots := #[.int (-23)], vm := .none },
  { cls := 8, slots := #[.int (-22)], vm := .none },
  { cls := 8, slots := #[.int (-21)], vm := .none },
  { cls := 8, slots := #[.int (-20)], vm := .none },
  { cls := 8, slots := #[.int (-19)], vm := .none },
  { cls := 8, slots := #[.int (-18)], vm := .none },
  { cls := 8, slots := #[.int (-17)], vm := .none },
  { cls := 8, slots := #[.int (-16)], vm := .none },
  { cls := 8, slots := #[.int (-15)], vm := .none },
  { cls := 8, slots := #[.int (-14)], vm := .none },
  { cls := 8, slots := #[.int (-13)], vm := .none },
  { cls := 8, slots := #[.int (-12)], vm := .none },
  { cls := 8, slots := #[.int (-11)], vm := .none },
  { cls := 8, slots := #[.int (-10)], vm := .none },
  { cls := 8, slots := #[.int (-9)], vm := .none },
  { cls := 8, slots := #[.int (-8)], vm := .none },
  { cls := 8, slots := #[.int (-7)], vm := .none },
  { cls := 8, slots := #[.int (-6)], vm := .none },
  { cls := 8, slots := #[.int (-5)], vm := .none },
  { cls := 8, slots := #[.int (-4)], vm := .none },
  { cls := 8, slots := #[.int (-3)], vm := .none },
  { cls := 8, slots := #[.int (-2)], vm := .none },
  { cls := 8, slots := #[.int (-1)], vm := .none },
  { cls := 8, slots := #[.int 0], vm := .none },
  { cls := 8, slots := #[.int 1], vm := .none },
  { cls := 8, slots := #[.int 2], vm := .none },
  { cls := 8, slots := #[.int 3], vm := .none },
  { cls := 8, slots := #[.int 4], vm := .none },
  { cls := 8, slots := #[.int 5], vm := .none },
  { cls := 8, slots := #[.int 6], vm := .none },
  { cls := 8, slots := #[.int 7], vm := .none },
  { cls := 8, slots := #[.int 8], vm := .none },
  { cls := 8, slots := #[.int 9], vm := .none },
  { cls := 8, slots := #[.int 10], vm := .none },
  { cls := 8, slots := #[.int 11], vm := .none },
  { cls := 8, slots := #[.int 12], vm := .none },
  { cls := 8, slots := #[.int 13], vm := .none },
  { cls := 8, slots := #[.int 14], vm := .none },
  { cls := 8, slots := #[.int 15], vm := .none },
  { cls := 8, slots := #[.int 16], vm := .none },
  { cls := 8, slots := #[.int 17], vm := .none },
  { cls := 8, slots := #[.int 18], vm := .none },
  { cls := 8, slots := #[.int 19], vm := .none },
  { cls := 8, slots := #[.int 20], vm := .none },
  { cls := 8, slots := #[.int 21], vm := .none },
  { cls := 8, slots := #[.int 22], vm := .none },
  { cls := 8, slots := #[.int 23], vm := .none },
  { cls := 8, slots := #[.int 24], vm := .none },
  { cls := 8, slots := #[.int 25], vm := .none },
  { cls := 8, slots := #[.int 26], vm := .none },
  { cls := 8, slots := #[.int 27], vm := .none },
  { cls := 8, slots := #[.int 28], vm := .none },
  { cls := 8, slots := #[.int 29], vm := .none },
  { cls := 8, slots := #[.int 30], vm := .none },
  { cls := 8, slots := #[.int 31], vm := .none },
  { cls := 8, slots := #[.int 32], vm := .none },
  { cls := 8, slots := #[.int 33], vm := .none },
  { cls := 8, slots := #[.int 34], vm := .none },
  { cls := 8, slots := #[.int 35], vm := .none },
  { cls := 8, slots := #[.int 36], vm := .none },
  { cls := 8, slots := #[.int 37], vm := .none },
  { cls := 8, slots := #[.int 38], vm := .none },
  { cls := 8, slots := #[.int 39], vm := .none },
  { cls := 8, slots := #[.int 40], vm := .none },
  { cls := 8, slots := #[.int 41], vm := .none },
  { cls := 8, slots := #[.int 42], vm := .none },
  { cls := 8, slots := #[.int 43], vm := .none },
  { cls := 8, slots := #[.int 44], vm := .none },
  { cls := 8, slots := #[.int 45], vm := .none },
  { cls := 8, slots := #[.int 46], vm := .none },
  { cls := 8, slots := #[.int 47], vm := .none },
  { cls := 8, slots := #[.int 48], vm := .none },
  { cls := 8, slots := #[.int 49], vm := .none },
  { cls := 8, slots := #[.int 50], vm := .none },
  { cls := 8, slots := #[.int 51], vm := .none },
  { cls := 8, slots := #[.int 52], vm := .none },
  { cls := 8, slots := #[.int 53], vm := .none },
  { cls := 8, slots := #[.int 54], vm := .none },
  { cls := 8, slots := #[.int 55], vm := .none },
  { cls := 8, slots := #[.int 56], vm := .none },
  { cls := 8, slots := #[.int 57], vm := .none },
  { cls := 8, slots := #[.int 58], vm := .none },
  { cls := 8, slots := #[.int 59], vm := .none },
  { cls := 8, slots := #[.int 60], vm := .none },
  { cls := 8, slots := #[.int 61], vm := .none },
  { cls := 8, slots := #[.int 62], vm := .none },
  { cls := 8, slots := #[.int 63], vm := .none },
  { cls := 8, slots := #[.int 64], vm := .none },
  { cls := 8, slots := #[.int 65], vm := .none },
  { cls := 8, slots := #[.int 66], vm := .none },
  { cls := 8, slots := #[.int 67], vm := .none },
  { cls := 8, slots := #[.int 68], vm := .none },
  { cls := 8, slots := #[.int 69], vm := .none },
  { cls := 8, slots := #[.int 70], vm := .none },
  { cls := 8, slots := #[.int 71], vm := .none },
  { cls := 8, slots := #[.int 72], vm := .none },
  { cls := 8, slots := #[.int 73], vm := .none },
  { cls := 8, slots := #[.int 74], vm := .none },
  { cls := 8, slots := #[.int 75], vm := .none },
  { cls := 8, slots := #[.int 76], vm := .none },
  { cls := 8, slots := #[.int 77], vm := .none },
  { cls := 8, slots := #[.int 78], vm := .none },
  { cls := 8, slots := #[.int 79], vm := .none },
  { cls := 8, slots := #[.int 80], vm := .none },
  { cls := 8, slots := #[.int 81], vm := .none },
  { cls := 8, slots := #[.int 82], vm := .none },
  { cls := 8, slots := #[.int 83], vm := .none },
  { cls := 8, slots := #[.int 84], vm := .none },
  { cls := 8, slots := #[.int 85], vm := .none },
  { cls := 8, slots := #[.int 86], vm := .none },
  { cls := 8, slots := #[.int 87], vm := .none },
  { cls := 8, slots := #[.int 88], vm := .none },
  { cls := 8, slots := #[.int 89], vm := .none },
  { cls := 8, slots := #[.int 90], vm := .none },
  { cls := 8, slots := #[.int 91], vm := .none },
  { cls := 8, slots := #[.int 92], vm := .none },
  { cls := 8, slots := #[.int 93], vm := .none },
  { cls := 8, slots := #[.int 94], vm := .none },
  { cls := 8, slots := #[.int 95], vm := .none },
  { cls := 8, slots := #[.int 96], vm := .none },
  { cls := 8, slots := #[.int 97], vm := .none },
  { cls := 8, slots := #[.int 98], vm := .none },
  { cls := 8, slots := #[.int 99], vm := .none },
  { cls := 8, slots := #[.int 100], vm := .none },
  { cls := 8, slots := #[.int 101], vm := .none },
  { cls := 8, slots := #[.int 102], vm := .none },
  { cls := 8, slots := #[.int 103], vm := .none },
  { cls := 8, slots := #[.int 104], vm := .none },
  { cls := 8, slots := #[.int 105], vm := .none },
  { cls := 8, slots := #[.int 106], vm := .none },
  { cls := 8, slots := #[.int 107], vm := .none },
  { cls := 8, slots := #[.int 108], vm := .none },
  { cls := 8, slots := #[.int 109], vm := .none },
  { cls := 8, slots := #[.int 110], vm := .none },
  { cls := 8, slots := #[.int 111], vm := .none },
  { cls := 8, slots := #[.int 112], vm := .none },
  { cls := 8, slots := #[.int 113], vm := .none },
  { cls := 8, slots := #[.int 114], vm := .none },
  { cls := 8, slots := #[.int 115], vm := .none },
  { cls := 8, slots := #[.int 116], vm := .none },
  { cls := 8, slots := #[.int 117], vm := .none },
  { cls := 8, slots := #[.int 118], vm := .none },
  { cls := 8, slots := #[.int 119], vm := .none },
  { cls := 8, slots := #[.int 120], vm := .none },
  { cls := 8, slots := #[.int 121], vm := .none },
  { cls := 8, slots := #[.int 122], vm := .none },
  { cls := 8, slots := #[.int 123], vm := .none },
  { cls := 8, slots := #[.int 124], vm := .none },
  { cls := 8, slots := #[.int 125], vm := .none },
  { cls := 8, slots := #[.int 126], vm := .none },
  { cls := 8, slots := #[.int 127], vm := .none }]
def classes : Array Class := #[k0, k1, k2, k3, k4, k5, k6, k7, k8, k9, k10, k11, k12, k13]
def interned : List (Array UInt16 × Addr) := []
def slotsUsed : Nat := 517
def theMethod : MethodId := ⟨1, 1⟩
def args0 : Array Value := #[.int 1, .int 2, .int 3, .int 4, .int 5, .int 6]
def aboutOver (below : List Frame) : State where
  vm := { classes := classes, interned := interned.toArray }
  heap := heap
  slotsUsed := slotsUsed
  threads := #[{ frames := .invoking theMethod args0 :: below }]
def below0 : List Frame := [.native { method := ⟨0, 0⟩, args := #[] }]
def about1 : State := aboutOver below0
def p0 : Program := .bare "" "" ""
def e0 : Env := launch0.env 0 0 0
theorem w_frames : about1.frames = Frame.invoking theMethod args0 :: below0 := rfl
set_option maxRecDepth 65536 in
theorem w_args : argsFit about1.vm theMethod args0 = true := by decide +kernel
set_option maxRecDepth 65536 in
theorem w_heap : heapFits about1 = true := by decide +kernel
set_option maxRecDepth 65536 in
theorem w_runnable : about1.curStatus? = some .runnable := by decide +kernel
set_option maxRecDepth 65536 in
theorem w_alone : about1.alone = true := by decide +kernel
set_option maxRecDepth 65536 in
theorem w_named : about1.methodNamed? x = some theMethod := by decide +kernel
set_option maxRecDepth 65536 in
theorem w_hears : about1.hears theMethod below0 = true := by decide +kernel
set_option maxRecDepth 65536 in
theorem w_ripe : about1.ripe theMethod args0 below0 = true := by decide +kernel
theorem w_running : about1.status = .running := rfl
set_option maxRecDepth 65536 in
theorem w_room : about1.hasRoom e0.platform room_1 = true :=
  launch0.hasRoom_least _ room_1 (by decide +kernel) (by decide +kernel) (by decide +kernel) (by decide +kernel) (by decide +kernel) (by decide +kernel)
theorem allAtoms_all (ts : List Jvm.Cond) (a : Array Jvm.Value) (st : Jvm.State) : (allAtoms ts).before a st = ts.all (fun c => c.before a st) := by
  induction ts with
  | nil => rfl
  | cons c t ih =>
    show (Jvm.Cond.and c (allAtoms t)).before a st = _
    rw [Jvm.Cond.before_and, ih, List.all_cons]
def words1 : List Jvm.Cond := Jvm.Cond.code x code maxLocals ret :: tables_1
/-- a 'code' word, met by the world's own term for the bytes: nothing is compared byte by byte -/
theorem code_word {y : MethodName} {bytes : ByteArray} {mx : Nat} {rt : Option FieldType} {a : Array Value} {s : State} {m : MethodId} {meth : Method} {c : Code} (h1 : s.methodNamed? y = some m) (h2 : s.vm.method? m = some meth) (h3 : meth.code = some c) (h4 : c.code = bytes)
    (h5 : (c.maxLocals == mx && c.exceptionTable.isEmpty && decide (c.maxStack ≤ mostOperands) && decide (meth.sig.returnType = rt) && !meth.locks && decide (parseMethodDescriptor y.desc = some meth.sig)) = true) : (Jvm.Cond.code y bytes mx rt).before a s = true := by
  simp only [Bool.and_eq_true, beq_iff_eq, Bool.not_eq_true', decide_eq_true_eq] at h5
  obtain ⟨⟨⟨⟨⟨g1, g2⟩, g3⟩, g4⟩, g5⟩, g6⟩ := h5
  simp [Cond.before, Cond.holds, Cond.value, h1, h2, h3, h4, g1, g2, g3, g4, g5, g6]
def isCode : Jvm.Cond → Bool
  | .code _ _ _ _ => true
  | _ => false
theorem all_split {L : List Jvm.Cond} {P : Jvm.Cond → Bool} (h1 : L.all (fun c => isCode c || P c) = true) (h2 : ∀ c ∈ L.filter isCode, P c = true) : L.all P = true := by
  refine List.all_eq_true.mpr fun c hc => ?_
  have h := List.all_eq_true.mp h1 c hc
  rcases Bool.eq_false_or_eq_true (isCode c) with hi | hi
  · exact h2 c (List.mem_filter.mpr ⟨hc, hi⟩)
  · simpa [hi] using h
set_option maxRecDepth 65536 in
theorem w_c0 : (Jvm.Cond.code x code maxLocals ret).before args0 about1 = true := code_word (m := ⟨1, 1⟩) (meth := k1m1) (c := k1c1) (by decide +kernel) rfl rfl rfl (by decide +kernel)
set_option maxRecDepth 65536 in
theorem w_c1 : (Jvm.Cond.code ({ cls := "com/example/heed/heed/Rect", name := "<init>", desc := "(IIII)V" } : Jvm.MethodName) prog_50_method_1_code (5 : Nat) (Option.none : Option Jvm.ClassFile.FieldType)).before args0 about1 = true := code_word (m := ⟨2, 0⟩) (meth := k2m0) (c := k2c0) (by decide +kernel) rfl rfl rfl (by decide +kernel)
set_option maxRecDepth 65536 in
theorem w_c2 : (Jvm.Cond.code ({ cls := "java/lang/Object", name := "<init>", desc := "()V" } : Jvm.MethodName) object_method_1_code (1 : Nat) (Option.none : Option Jvm.ClassFile.FieldType)).before args0 about1 = true := code_word (m := ⟨0, 0⟩) (meth := k0m0) (c := k0c0) (by decide +kernel) rfl rfl rfl (by decide +kernel)
set_option maxRecDepth 65536 in
theorem w_c3 : (Jvm.Cond.code ({ cls := "java/lang/Integer", name := "valueOf", desc := "(I)Ljava/lang/Integer;" } : Jvm.MethodName) jdk_33_method_22_code (1 : Nat) (Option.some (Jvm.ClassFile.FieldType.object "java/lang/Integer"))).before args0 about1 = true := code_word (m := ⟨8, 0⟩) (meth := k8m0) (c := k8c0) (by decide +kernel) rfl rfl rfl (by decide +kernel)
set_option maxRecDepth 65536 in
theorem w_c4 : (Jvm.Cond.code ({ cls := "com/example/heed/heed/Rect", name := "equals", desc := "(Ljava/lang/Object;)Z" } : Jvm.MethodName) prog_50_method_9_code (3 : Nat) (Option.some Jvm.ClassFile.FieldType.boolean)).before args0 about1 = true := code_word (m := ⟨2, 1⟩) (meth := k2m1) (c := k2c1) (by decide +kernel) rfl rfl rfl (by decide +kernel)
set_option maxRecDepth 65536 in
theorem w_c5 : (Jvm.Cond.code ({ cls := "java/lang/Integer", name := "<init>", desc := "(I)V" } : Jvm.MethodName) jdk_33_method_23_code (2 : Nat) (Option.none : Option Jvm.ClassFile.FieldType)).before args0 about1 = true := code_word (m := ⟨8, 1⟩) (meth := k8m1) (c := k8c1) (by decide +kernel) rfl rfl rfl (by decide +kernel)
set_option maxRecDepth 65536 in
theorem w_c6 : (Jvm.Cond.code ({ cls := "java/lang/Number", name := "<init>", desc := "()V" } : Jvm.MethodName) jdk_18_method_1_code (1 : Nat) (Option.none : Option Jvm.ClassFile.FieldType)).before args0 about1 = true := code_word (m := ⟨4, 0⟩) (meth := k4m0) (c := k4c0) (by decide +kernel) rfl rfl rfl (by decide +kernel)
def codes1 : List Jvm.Cond := [Jvm.Cond.code x code maxLocals ret, Jvm.Cond.code ({ cls := "com/example/heed/heed/Rect", name := "<init>", desc := "(IIII)V" } : Jvm.MethodName) prog_50_method_1_code (5 : Nat) (Option.none : Option Jvm.ClassFile.FieldType), Jvm.Cond.code ({ cls := "java/lang/Object", name := "<init>", desc := "()V" } : Jvm.MethodName) object_method_1_code (1 : Nat) (Option.none : Option Jvm.ClassFile.FieldType), Jvm.Cond.code ({ cls := "java/lang/Integer", name := "valueOf", desc := "(I)Ljava/lang/Integer;" } : Jvm.MethodName) jdk_33_method_22_code (1 : Nat) (Option.some (Jvm.ClassFile.FieldType.object "java/lang/Integer")), Jvm.Cond.code ({ cls := "com/example/heed/heed/Rect", name := "equals", desc := "(Ljava/lang/Object;)Z" } : Jvm.MethodName) prog_50_method_9_code (3 : Nat) (Option.some Jvm.ClassFile.FieldType.boolean), Jvm.Cond.code ({ cls := "java/lang/Integer", name := "<init>", desc := "(I)V" } : Jvm.MethodName) jdk_33_method_23_code (2 : Nat) (Option.none : Option Jvm.ClassFile.FieldType), Jvm.Cond.code ({ cls := "java/lang/Number", name := "<init>", desc := "()V" } : Jvm.MethodName) jdk_18_method_1_code (1 : Nat) (Option.none : Option Jvm.ClassFile.FieldType)]
set_option maxRecDepth 65536 in
theorem codes_eq : words1.filter isCode = codes1 := rfl
theorem w_codes : ∀ c ∈ words1.filter isCode, c.before args0 about1 = true := by
  rw [codes_eq]
  intro c hc
  simp only [codes1, List.mem_cons, List.not_mem_nil, or_false] at hc
  rcases hc with rfl | rfl | rfl | rfl | rfl | rfl | rfl
  · exact w_c0
  · exact w_c1
  · exact w_c2
  · exact w_c3
  · exact w_c4
  · exact w_c5
  · exact w_c6
set_option maxRecDepth 65536 in
theorem w_t1 : (words1.take 24).all (fun c => isCode c || c.before args0 about1) = true := by decide +kernel
set_option maxRecDepth 65536 in
theorem w_t2 : ((words1.drop 24).take 24).all (fun c => isCode c || c.before args0 about1) = true := by decide +kernel
set_option maxRecDepth 65536 in
theorem w_t3 : ((words1.drop 24).drop 24).all (fun c => isCode c || c.before args0 about1) = true := by decide +kernel
theorem w_tables : (allAtoms (Jvm.Cond.code x code maxLocals ret :: tables_1)).before args0 about1 = true := by
  rw [allAtoms_all]
  show words1.all (fun c => c.before args0 about1) = true
  refine all_split ?_ w_codes
  rw [← List.take_append_drop 24 words1, List.all_append, w_t1, ← List.take_append_drop 24 (words1.drop 24), List.all_append, w_t2, w_t3]
  rfl
set_option maxRecDepth 65536 in
theorem w_rest : rest_1_c.before args0 about1 = true := by decide +kernel
set_option maxRecDepth 65536 in
theorem w_case : (Jvm.Cond.and given_1 narrow_1).before args0 about1 = true := by decide +kernel
theorem w_applies : (headSpec (Jvm.Cond.code x code maxLocals ret :: tables_1) room_1).applies x e0.platform about1 = true :=
  (Spec.applies_iff w_frames).mpr ⟨w_running, w_runnable, w_alone, w_named, w_hears, w_ripe, w_room, w_tables⟩
theorem atStart : AtStart classFile x code maxLocals ret World_1 tables_1 room_1 Calls_1 rest_1 Pre_1 launch0 p0 e0 about1 theMethod args0 below0 :=
  ⟨lists_1, trivial, launch0.admits_env _ _ _, launch0.least_env, fairChoices_fair.cas, fairChoices_fair.clock, w_frames, w_args, w_heap, w_applies, trivial, w_rest, w_case⟩
end start1
theorem witness_1 : WitnessClaimed_1 := ⟨start1.p0, start1.e0, start1.about1, start1.theMethod, start1.args0, start1.below0, start1.atStart⟩
end Jvm.Pilot.@@N@@
