import JvmDerived
import JvmDerived.Pilot.@@N@@Statement
import JvmDerived.Pilot.@@N@@Code
set_option linter.unusedVariables false
set_option linter.unusedSimpArgs false
namespace Jvm.Pilot.@@N@@
open Jvm Jvm.ClassFile Sem Op Lib Jvm.Free Jvm.Stand Jvm.LawKit Jvm.RoadKit Bundle Jvm.Pilot.@@N@@.Jvm.D
section Own
variable {p : Program} {l : Launch} {e : Env} {R : Room} {s : State} {m : MethodId} {args : Array Value} {below : List Frame} {meth : Method} {c : Code} {T : State} {locs : List Loc} {cells slots : Nat} {Z : State} {h h' : Heap} {a b : Addr} {G : State → Outcome → Prop} {Q : Option Value → Heap → List Loc → Prop} {C K : Nat}
/-- the run comes to an end of which G holds -/
def own_Goes (p : Program) (e : Env) (below : List Frame) (G : State → Outcome → Prop) (S : State) : Prop := ∃ s₂ o, Steps p.tables e below S s₂ ∧ s₂.status = .running ∧ Ended s₂ below o ∧ G s₂ o
theorem own_step {S S' : State} (k : ∀ t, Steps p.tables e below S' t → Steps p.tables e below S t) (h : own_Goes p e below G S') : own_Goes p e below G S := by
  obtain ⟨s₂, o, h1, h2⟩ := h
  exact ⟨s₂, o, k _ h1, h2⟩
theorem own_jump {S S' : State} (k : Steps p.tables e below S S') (h : own_Goes p e below G S') : own_Goes p e below G S := own_step (fun _ q => k.trans q) h
def own_Fin (s : State) (Q : Option Value → Heap → List Loc → Prop) (C K : Nat) : State → Outcome → Prop := fun U o => ∃ v L, o = .returned v ∧ Q v U.heap L ∧ FrameEnd s o U L C K
theorem own_ret0 (X : Stand p l e R s m args below meth c T locs cells slots) (hx : p.tables.exec = Jvm.exec) (hlk : meth.locks = false) (hret : meth.sig.returnType = none) {pc : Nat} {Ls : Array Slot} (hd : decode c.code pc = .ok (.return_, 1)) (hq : Q none T.heap locs) (hc : cells ≤ C) (hk : slots ≤ K) :
    own_Goes p e below (own_Fin s Q C K) (T.setTop (mkF m pc Ls [])) := by
  obtain ⟨fs, hr, hrun, hended, hW, hsame⟩ := X.leave (v := none) (fun _ => rfl)
  exact ⟨_, _, X.returnOut hx hret hd hr, hrun, hended, _, _, rfl, hq, ⟨_, rfl⟩, hW, hsame.mono hc hk⟩
theorem own_retV (X : Stand p l e R s m args below meth c T locs cells slots) (hx : p.tables.exec = Jvm.exec) (hlk : meth.locks = false) {t : FieldType} (hret : meth.sig.returnType = some t) {w : Value} (hn : narrow t w = w) {i : Instr}
    (hi : (i = .ireturn ∧ (t = .int ∨ t = .boolean ∨ t = .byte ∨ t = .char ∨ t = .short) ∧ ∃ z, w = .int z) ∨ (i = .lreturn ∧ t = .long ∧ ∃ z, w = .long z) ∨ (i = .dreturn ∧ t = .double ∧ ∃ z, w = .double z) ∨ (i = .freturn ∧ t = .float ∧ ∃ z, w = .float z) ∨ (i = .areturn ∧ t.isReference = true ∧ w.isRef = true))
    {pc : Nat} {Ls : Array Slot} {rest : List Value} (hd : decode c.code pc = .ok (i, 1)) (hq : Q (some w) T.heap locs) (hc : cells ≤ C) (hk : slots ≤ K) :
    own_Goes p e below (own_Fin s Q C K) (T.setTop (mkF m pc Ls (w :: rest))) := by
  obtain ⟨fs, hr, hrun, hended, hW, hsame⟩ := X.leave (v := some w) (fun h => by rw [hret] at h; cases h)
  exact ⟨_, _, retOut X hx hret hn hi hd hr, hrun, hended, _, _, rfl, hq, ⟨_, rfl⟩, hW, hsame.mono hc hk⟩
theorem own_nb {z : Int32} (h : z = 0 ∨ z = 1) : narrow .boolean (.int z) = .int z := by
  rcases h with rfl | rfl <;> rfl
theorem own_01 {q : Prop} [Decidable q] {x y : Int32} (hx : x = 0 ∨ x = 1) (hy : y = 0 ∨ y = 1) : (if q then x else y) = 0 ∨ (if q then x else y) = 1 := by
  split
  · exact hx
  · exact hy
/-- the law's own promise -/
def own_Q0 (n0 : Nat) (v : Option Value) (h : Heap) (L : List Loc) : Prop := v = some (.int 1) ∧ Fr n0 L
theorem own_retL {n0 : Nat} (X : Stand p l e R s m args below meth c T locs cells slots) (hx : p.tables.exec = Jvm.exec) (hlk : meth.locks = false) (hret : meth.sig.returnType = some .boolean) {pc : Nat} {Ls : Array Slot} {z : Int32} {rest : List Value} (hd : decode c.code pc = .ok (.ireturn, 1)) (hz : z = 1) (N : Fr n0 locs) (hc : cells ≤ C) (hk : slots ≤ K) :
    own_Goes p e below (own_Fin s (own_Q0 n0) C K) (T.setTop (mkF m pc Ls (.int z :: rest))) := by
  subst hz
  exact own_retV X hx hlk hret (own_nb (Or.inr rfl)) (Or.inl ⟨rfl, Or.inr (Or.inl rfl), _, rfl⟩) hd ⟨rfl, N⟩ hc hk
/-! arrays of ints and of longs, by their lists -/
theorem own_getI (xs : List Int32) (n : Nat) : (xs.map Value.int).getD n (Value.int 0) = Value.int (xs.getD n 0) := by
  simp only [List.getD_eq_getElem?_getD, List.getElem?_map]
  cases xs[n]? <;> rfl
theorem own_getJ (xs : List Int64) (n : Nat) : (xs.map Value.long).getD n (Value.long 0) = Value.long (xs.getD n 0) := by
  simp only [List.getD_eq_getElem?_getD, List.getElem?_map]
  cases xs[n]? <;> rfl
theorem own_newI {k : ClassId} {z : Int32} (A : Arr Z h a (newA k .int z) .int) (q : ¬ z < 0) (n : Nat) : Arv Z h a k .int z ((List.replicate n (0 : Int32)).map Value.int) (Value.int 0) :=
  (Arv.new A q).pad fun i => by rw [List.map_replicate]; exact pad_rep [] (Value.int 0) n i
theorem own_newJ {k : ClassId} {z : Int32} (A : Arr Z h a (newA k .long z) .long) (q : ¬ z < 0) (n : Nat) : Arv Z h a k .long z ((List.replicate n (0 : Int64)).map Value.long) (Value.long 0) :=
  (Arv.new A q).pad fun i => by rw [List.map_replicate]; exact pad_rep [] (Value.long 0) n i
theorem own_ial (X : Stand p l e R s m args below meth c T locs cells slots) (hx : p.tables.exec = Jvm.exec) (hZ : Z.Warmed39 s.vm) (eT : T.heap = h) {k : ClassId} {z j : Int32} {xs : List Int32} (F : Arv Z h a k .int z (xs.map Value.int) (Value.int 0)) (hj : ¬ j < 0 ∧ j < z)
    {g : JFrame} (hg : g.method = m) {rest : List Value} (hs : g.stack = .int j :: .ref a :: rest) (hd : decode c.code g.pc = .ok (.iaload, 1)) (t : State) (kk : Steps p.tables e below (T.setTop { g with pc := g.pc + 1, stack := .int (xs.getD j.toNatClampNeg 0) :: rest }) t) : Steps p.tables e below (T.setTop g) t := by
  obtain ⟨cl, Ar, -, S, -, H, -⟩ := F
  have hin := inb_of S hj
  exact X.iaload hx (j := j) (by rw [eT]; exact Ar.1) (State.isArrayOf_alike hZ.alike Ar.2.1) Ar.2.2 hin (H.at hin (own_getI _ _)) hg hs hd t kk
theorem own_lal (X : Stand p l e R s m args below meth c T locs cells slots) (hx : p.tables.exec = Jvm.exec) (hZ : Z.Warmed39 s.vm) (eT : T.heap = h) {k : ClassId} {z j : Int32} {xs : List Int64} (F : Arv Z h a k .long z (xs.map Value.long) (Value.long 0)) (hj : ¬ j < 0 ∧ j < z)
    {g : JFrame} (hg : g.method = m) {rest : List Value} (hs : g.stack = .int j :: .ref a :: rest) (hd : decode c.code g.pc = .ok (.laload, 1)) (t : State) (kk : Steps p.tables e below (T.setTop { g with pc := g.pc + 1, stack := .long (xs.getD j.toNatClampNeg 0) :: rest }) t) : Steps p.tables e below (T.setTop g) t := by
  obtain ⟨cl, Ar, -, S, -, H, -⟩ := F
  have hin := inb_of S hj
  exact X.laload hx (j := j) (by rw [eT]; exact Ar.1) (State.isArrayOf_alike hZ.alike Ar.2.1) Ar.2.2 hin (H.at hin (own_getJ _ _)) hg hs hd t kk
theorem own_len (X : Stand p l e R s m args below meth c T locs cells slots) (hx : p.tables.exec = Jvm.exec) (hZ : Z.Warmed39 s.vm) (eT : T.heap = h) {k : ClassId} {ty : FieldType} {z : Int32} {vs : List Value} {dv : Value} (F : Arv Z h a k ty z vs dv)
    {g : JFrame} (hg : g.method = m) {rest : List Value} (hs : g.stack = .ref a :: rest) (hd : decode c.code g.pc = .ok (.arraylength, 1)) (t : State) (kk : Steps p.tables e below (T.setTop { g with pc := g.pc + 1, stack := .int z :: rest }) t) : Steps p.tables e below (T.setTop g) t := by
  obtain ⟨cl, Ar, -, S, N, -, -⟩ := F
  refine X.arraylength hx (by rw [eT]; exact Ar.1) (State.isArrayOf_alike hZ.alike Ar.2.1) hg hs hd t ?_
  rw [len_of S N]
  exact kk
theorem own_ist (X : Stand p l e R s m args below meth c T locs cells slots) (hx : p.tables.exec = Jvm.exec) (hZ : Z.Warmed39 s.vm) (eT : T.heap = h) {k : ClassId} {z j y : Int32} {xs : List Int32} (F : Arv Z h a k .int z (xs.map Value.int) (Value.int 0)) (hj : ¬ j < 0 ∧ j < z) (n : Nat) (hn : j.toNatClampNeg = n) (hl : n < xs.length)
    {g : JFrame} (hg : g.method = m) {rest : List Value} (hs : g.stack = .int y :: .int j :: .ref a :: rest) (hd : decode c.code g.pc = .ok (.iastore, 1)) :
    ∃ T' h', Stand p l e R s m args below meth c T' (locs ++ [⟨a, j.toNatClampNeg⟩]) cells slots ∧ T'.heap = h' ∧ Wr h h' a j.toNatClampNeg (.int y) ∧ Arv Z h' a k .int z ((xs.set n y).map Value.int) (Value.int 0) ∧ ∀ t, Steps p.tables e below (T'.setTop { g with pc := g.pc + 1, stack := rest }) t → Steps p.tables e below (T.setTop g) t := by
  obtain ⟨cl, Ar, q, S, N, H, I⟩ := F
  obtain ⟨T', h', X', e', W, st⟩ := stI X hx hZ eT Ar (inb_of S hj) hg hs hd
  refine ⟨T', h', X', e', W, ?_, st⟩
  rw [List.map_set]
  exact Arv.set Ar q S N H I rfl W n hn (by rw [List.length_map]; exact hl)
theorem own_lst (X : Stand p l e R s m args below meth c T locs cells slots) (hx : p.tables.exec = Jvm.exec) (hZ : Z.Warmed39 s.vm) (eT : T.heap = h) {k : ClassId} {z j : Int32} {y : Int64} {xs : List Int64} (F : Arv Z h a k .long z (xs.map Value.long) (Value.long 0)) (hj : ¬ j < 0 ∧ j < z) (n : Nat) (hn : j.toNatClampNeg = n) (hl : n < xs.length)
    {g : JFrame} (hg : g.method = m) {rest : List Value} (hs : g.stack = .long y :: .int j :: .ref a :: rest) (hd : decode c.code g.pc = .ok (.lastore, 1)) :
    ∃ T' h', Stand p l e R s m args below meth c T' (locs ++ [⟨a, j.toNatClampNeg⟩]) cells slots ∧ T'.heap = h' ∧ Wr h h' a j.toNatClampNeg (.long y) ∧ Arv Z h' a k .long z ((xs.set n y).map Value.long) (Value.long 0) ∧ ∀ t, Steps p.tables e below (T'.setTop { g with pc := g.pc + 1, stack := rest }) t → Steps p.tables e below (T.setTop g) t := by
  obtain ⟨cl, Ar, q, S, N, H, I⟩ := F
  obtain ⟨T', h', X', e', W, st⟩ := stJ X hx hZ eT Ar (inb_of S hj) hg hs hd
  refine ⟨T', h', X', e', W, ?_, st⟩
  rw [List.map_set]
  exact Arv.set Ar q S N H I rfl W n hn (by rw [List.length_map]; exact hl)
end Own
theorem own_ord {args : Array Value} {s : State} {C n d : String} {x : Addr} {k : Int32} (hx : (Term.static C n d).eval args s none [] s = some (.ref x)) (h : (Jvm.Cond.eq (Term.field (Term.static C n d) "java/lang/Enum" "ordinal" "I") (Term.int k)).value args s none s [] = some true) : Fld s s.heap x "java/lang/Enum" "ordinal" "I" (.int k) := by
  obtain ⟨u, w, e1, e2, k1, -⟩ := cmp_v (Or.inl h)
  have e3 : (Term.int k).eval args s none [] s = some (.int k) := Term.int_eval _
  cases e2.symm.trans e3
  have e4 := e1
  rw [fld_at hx] at e4
  refine Fld.start ?_
  rw [e4]
  cases u with
  | int z =>
    have : z = k := by simpa [Cond.value, e1, e3] using h
    rw [this]
  | _ => simp [Kin, Value.isRef] at k1
theorem own_cases {x v : Int32} (h : (if (x &&& (1 : Int32)) = (0 : Int32) then (0 : Int32) else (1 : Int32)) = v) : v = (0 : Int32) ∨ v = (1 : Int32) := by
  rw [← h]
  split
  · exact Or.inl rfl
  · exact Or.inr rfl
theorem own_b53 (x : Int32) : B53 x.toInt64 := by
  have r := rng32 x
  have e := c_i2l x
  constructor <;> omega
theorem own_dl (x y : Int32) (o : CmpOp) : Jvm.Op.cmpValue (FP.dcmp (FP.i2d x) (FP.i2d y)) o = lcmpW x.toInt64 y.toInt64 := by
  rw [i2d_w, i2d_w]
  exact dcmpV_w (own_b53 x) (own_b53 y) o
theorem own_mm {m1 m2 vM vN : Int32} (hM : (if m1 < m2 then m2 else m1) = vM) (hN : (if m2 < m1 then m2 else m1) = vN) : vN.toInt ≤ vM.toInt := by
  rw [← hM, ← hN]
  by_cases q1 : m1 < m2 <;> by_cases q2 : m2 < m1 <;> simp only [q1, q2, if_true, if_false] <;> rw [Int32.lt_iff_toInt_lt] at q1 q2 <;> omega
theorem own_dc {m1 m2 vM vN : Int32} (hM : (if m1 < m2 then m2 else m1) = vM) (hN : (if m2 < m1 then m2 else m1) = vN) (h : ¬ (vM.toInt64 = vN.toInt64)) (o : CmpOp) : Jvm.Op.cmpValue (FP.dcmp (FP.i2d vM) (FP.i2d vN)) o = 1 := by
  rw [own_dl]
  have q := own_mm hM hN
  have e1 := c_i2l vM
  have e2 := c_i2l vN
  have h' : ¬ vM.toInt64.toInt = vN.toInt64.toInt := fun z => h (Int64.toInt_inj.mp z)
  have g : vM.toInt64 > vN.toInt64 := by
    show vN.toInt64 < vM.toInt64
    rw [Int64.lt_iff_toInt_lt]
    omega
  exact if_pos g
theorem own_lt {p1 p2 v1 v2 : Int32} (h1 : (if p2 < p1 then p2 else p1) = v1) (h2 : (if p1 < p2 then p2 else p1) = v2) (h : ¬ v1 = v2) : v1 < v2 := by
  have q := own_mm h2 h1
  rw [Int32.lt_iff_toInt_lt]
  have h' : ¬ v1.toInt = v2.toInt := fun z => h (Int32.toInt_inj.mp z)
  omega
theorem own_plain0 {p1 p2 v1 v2 : Int32} (h1 : (if p2 < p1 then p2 else p1) = v1) (h2 : (if p1 < p2 then p2 else p1) = v2) (h : ¬ v1 = v2) : (if (if (0 : Int32) < (if (0 : Int32) = (0 : Int32) then (1 : Int32) else (if (if v1 < v2 then (-1 : Int32) else (if v1 = v2 then (0 : Int32) else (1 : Int32))) = (0 : Int32) then (1 : Int32) else (if v1 < v2 then (-1 : Int32) else (if v1 = v2 then (0 : Int32) else (1 : Int32))))) then (1 : Int32) else (0 : Int32)) = (0 : Int32) then (0 : Int32) else (1 : Int32)) = 1 := by
  rw [if_pos (rfl : (0 : Int32) = (0 : Int32))]
  decide
theorem own_plain1 {p1 p2 v1 v2 : Int32} (h1 : (if p2 < p1 then p2 else p1) = v1) (h2 : (if p1 < p2 then p2 else p1) = v2) (h : ¬ v1 = v2) : (if (if (if (1 : Int32) = (0 : Int32) then (1 : Int32) else (if (if v1 < v2 then (-1 : Int32) else (if v1 = v2 then (0 : Int32) else (1 : Int32))) = (0 : Int32) then (1 : Int32) else (if v1 < v2 then (-1 : Int32) else (if v1 = v2 then (0 : Int32) else (1 : Int32))))) < (0 : Int32) then (1 : Int32) else (0 : Int32)) = (0 : Int32) then (0 : Int32) else (1 : Int32)) = 1 := by
  have q := own_lt h1 h2 h
  simp only [if_pos q]
  decide
theorem own_pn0 : plainName "com/example/waysmith/waysmith/evaluation/Objective" = true := by first | (simp [plainName, overriddenIn]; done) | decide +kernel
theorem own_dprog_4_method_5_code_0 : decode prog_4_method_5_code 0 = .ok (.aload_n 0, 1) := by decide +kernel
theorem own_dprog_4_method_5_code_1 : decode prog_4_method_5_code 1 = .ok (.getstatic 3, 3) := by decide +kernel
theorem own_dprog_4_method_5_code_4 : decode prog_4_method_5_code 4 = .ok (.if_acmp .ne 7, 3) := by decide +kernel
theorem own_dprog_4_method_5_code_7 : decode prog_4_method_5_code 7 = .ok (.iconst 1, 1) := by decide +kernel
theorem own_dprog_4_method_5_code_8 : decode prog_4_method_5_code 8 = .ok (.goto 4, 3) := by decide +kernel
theorem own_dprog_4_method_5_code_12 : decode prog_4_method_5_code 12 = .ok (.ireturn, 1) := by decide +kernel
theorem own_dprog_4_method_5_code_11 : decode prog_4_method_5_code 11 = .ok (.iconst 0, 1) := by decide +kernel
theorem own_b1_ef (m : MethodId) (a1 : Addr) : entryFrame m #[(.ref a1)] 1 = mkF m 0 #[.val (.ref a1)] [] := by first | (simp [entryFrame, mkF, argsToLocals, Value.category]; done) | rfl
def own_b1_Q (Z : State) (a1 : Addr) (w_FEWEST_VEHICLES : Addr) (r1 : Int32) (h0 : Heap) (n0 : Nat) (v : Option Value) (h : Heap) (L : List Loc) : Prop := v = some (.int r1) ∧ Fr n0 L ∧ h = h0
set_option maxRecDepth 65536 in
set_option maxHeartbeats 40000000 in
theorem own_b1 (l : Launch) (Z : State) (a0 : Array Value) (hw : ∀ d ∈ tables_1, d.before a0 Z = true) (ws : List Jvm.Cond) (a1 : Addr) (w_FEWEST_VEHICLES : Addr) (r1 : Int32) (h0 : Heap) (n0 : Nat) (Z0 : n0 ≤ h0.size) (S_FEWEST_VEHICLES : Sta Z Z.heap "com/example/waysmith/waysmith/evaluation/Objective" "FEWEST_VEHICLES" "Lcom/example/waysmith/waysmith/evaluation/Objective;" (.ref w_FEWEST_VEHICLES)) (O0 : Old Z n0 h0) (hr1 : (if a1 = w_FEWEST_VEHICLES then (1 : Int32) else (0 : Int32)) = r1) :
    MetFree l (⟨"com/example/waysmith/waysmith/evaluation/Objective", "vehiclesFirst", "()Z"⟩ : MethodName) (head1 (Jvm.Cond.code (⟨"com/example/waysmith/waysmith/evaluation/Objective", "vehiclesFirst", "()Z"⟩ : MethodName) prog_4_method_5_code 1 (some .boolean) :: ws) ({ frames := 0, cells := 0, slots := 0, locals := 0 } : Room)) (fun aa U => aa = #[(.ref a1)] ∧ Z.Warmed39 U.vm ∧ U.heap = h0) (fun _ _ _ _ _ => True) (fun _ U o U' => ∃ v L, o = .returned v ∧ own_b1_Q Z a1 w_FEWEST_VEHICLES r1 h0 n0 v U'.heap L ∧ FrameEnd U o U' L ({ frames := 0, cells := 0, slots := 0, locals := 0 } : Room).cells ({ frames := 0, cells := 0, slots := 0, locals := 0 } : Room).slots) := by
  refine MetFree.of_bodySF (plainFor_of_name own_pn0) hisR ?_
  have w8 := hw _ (List.mem_of_getElem? (i := 8) rfl)
  intro p e s m args below meth c s₁ Bd hml0 hP hK
  obtain ⟨rfl, hZ, hh⟩ := hP
  have hx := Bd.exec
  have hby := Bd.bytes
  have hlk := Bd.notSynchronized
  have hml : c.maxLocals = 1 := hml0
  have hown : s.vm.findClass "com/example/waysmith/waysmith/evaluation/Objective" = some m.cls := findClass_of_methodNamed Bd.named
  have hnm := (name_of_methodNamed Bd.named Bd.method).1
  have X0 : Stand p l e ({ frames := 0, cells := 0, slots := 0, locals := 0 } : Room) s m #[(.ref a1)] below meth c s₁ [] 0 0 := Stand.of_body Bd
  have e0 : s₁.heap = h0 := by rw [← hh, Bd.state]; rfl
  have N0 := Fr.nil n0
  have K0 : Keep h0 h0 [] := Keep.refl h0 _
  show own_Goes p e below (own_Fin s (own_b1_Q Z a1 w_FEWEST_VEHICLES r1 h0 n0) ({ frames := 0, cells := 0, slots := 0, locals := 0 } : Room).cells ({ frames := 0, cells := 0, slots := 0, locals := 0 } : Room).slots) _
  refine own_step (fun t k => castTop (own_b1_ef m a1) k) ?_
  show own_Goes p e below _ (s₁.setTop (mkF m 0 #[.val (.ref a1)] []))
  refine own_step (fun t k => XS.aloadN X0.here hx rfl (hb hby own_dprog_4_method_5_code_0) rfl rfl k) ?_
  show own_Goes p e below _ (s₁.setTop (mkF m 1 #[.val (.ref a1)] [(.ref a1)]))
  obtain ⟨T3, X3, e3, st3⟩ := getS2 X0 hx hZ hown (host := "") (Or.inl w8) Via.refl e0 (S_FEWEST_VEHICLES.ext O0.2) (g := (mkF m 1 #[.val (.ref a1)] [(.ref a1)])) rfl (hb hby own_dprog_4_method_5_code_1)
  refine own_step st3 ?_
  show own_Goes p e below _ (T3.setTop (mkF m 4 #[.val (.ref a1)] [(.ref w_FEWEST_VEHICLES), (.ref a1)]))
  by_cases ha4 : a1 = w_FEWEST_VEHICLES
  · --
    refine own_step (fun t k => Jvm.RoadKit.acmp (g := (mkF m 4 #[.val (.ref a1)] [(.ref w_FEWEST_VEHICLES), (.ref a1)])) X3 hx rfl rfl rfl (pc0 := 4) (pc' := 7) (same := true) rfl (hb hby own_dprog_4_method_5_code_4) rfl (decide_eq_true (congrArg Value.ref ha4)) (by decide) (by decide) k) ?_
    show own_Goes p e below _ (T3.setTop (mkF m 7 #[.val (.ref a1)] []))
    refine own_step (fun t k => XS.iconst X3.here hx rfl (hb hby own_dprog_4_method_5_code_7) k) ?_
    show own_Goes p e below _ (T3.setTop (mkF m 8 #[.val (.ref a1)] [(.int (1 : Int32))]))
    refine own_step (fun t k => XS.goto X3.here hx rfl (pc0 := 8) (pc' := 12) rfl (hb hby own_dprog_4_method_5_code_8) (by decide) (by decide) k) ?_
    show own_Goes p e below _ (T3.setTop (mkF m 12 #[.val (.ref a1)] [(.int (1 : Int32))]))
    refine own_retV X3 hx hlk Bd.returns (w := (.int (1 : Int32))) (own_nb (Or.inr rfl)) (Or.inl ⟨rfl, Or.inr (Or.inl rfl), _, rfl⟩) (hb hby own_dprog_4_method_5_code_12) ?_ (by decide) (by decide)
    show own_b1_Q Z a1 w_FEWEST_VEHICLES r1 h0 n0 _ T3.heap _
    rw [e3]
    exact ⟨(by rw [← hr1]; simp only [if_pos ha4]), N0, rfl⟩
  · --
    refine own_step (fun t k => Jvm.RoadKit.acmp (g := (mkF m 4 #[.val (.ref a1)] [(.ref w_FEWEST_VEHICLES), (.ref a1)])) X3 hx rfl rfl rfl (pc0 := 4) (pc' := 11) (same := false) rfl (hb hby own_dprog_4_method_5_code_4) rfl (decide_eq_false fun zq => ha4 (Value.ref.inj zq)) (by decide) (by decide) k) ?_
    show own_Goes p e below _ (T3.setTop (mkF m 11 #[.val (.ref a1)] []))
    refine own_step (fun t k => XS.iconst X3.here hx rfl (hb hby own_dprog_4_method_5_code_11) k) ?_
    show own_Goes p e below _ (T3.setTop (mkF m 12 #[.val (.ref a1)] [(.int (0 : Int32))]))
    refine own_retV X3 hx hlk Bd.returns (w := (.int (0 : Int32))) (own_nb (Or.inl rfl)) (Or.inl ⟨rfl, Or.inr (Or.inl rfl), _, rfl⟩) (hb hby own_dprog_4_method_5_code_12) ?_ (by decide) (by decide)
    show own_b1_Q Z a1 w_FEWEST_VEHICLES r1 h0 n0 _ T3.heap _
    rw [e3]
    exact ⟨(by rw [← hr1]; simp only [if_neg ha4]), N0, rfl⟩
theorem own_djdk_29_method_69_code_0 : decode jdk_29_method_69_code 0 = .ok (.iload_n 0, 1) := by decide +kernel
theorem own_djdk_29_method_69_code_1 : decode jdk_29_method_69_code 1 = .ok (.iload_n 1, 1) := by decide +kernel
theorem own_djdk_29_method_69_code_2 : decode jdk_29_method_69_code 2 = .ok (.if_icmp .gt 7, 3) := by decide +kernel
theorem own_djdk_29_method_69_code_9 : decode jdk_29_method_69_code 9 = .ok (.iload_n 1, 1) := by decide +kernel
theorem own_djdk_29_method_69_code_5 : decode jdk_29_method_69_code 5 = .ok (.iload_n 0, 1) := by decide +kernel
theorem own_djdk_29_method_69_code_6 : decode jdk_29_method_69_code 6 = .ok (.goto 4, 3) := by decide +kernel
theorem own_djdk_29_method_69_code_10 : decode jdk_29_method_69_code 10 = .ok (.ireturn, 1) := by decide +kernel
theorem own_b2_ef (m : MethodId) (q1 : Int32) (q2 : Int32) : entryFrame m #[(.int q1), (.int q2)] 2 = mkF m 0 #[.val (.int q1), .val (.int q2)] [] := by first | (simp [entryFrame, mkF, argsToLocals, Value.category]; done) | rfl
def own_b2_Q (Z : State) (q1 : Int32) (q2 : Int32) (h0 : Heap) (n0 : Nat) (v : Option Value) (h : Heap) (L : List Loc) : Prop := v = some (.int (if q2 < q1 then q2 else q1)) ∧ Fr n0 L ∧ h = h0
set_option maxRecDepth 65536 in
set_option maxHeartbeats 40000000 in
theorem own_b2 (l : Launch) (Z : State) (a0 : Array Value) (hw : ∀ d ∈ tables_1, d.before a0 Z = true) (ws : List Jvm.Cond) (q1 : Int32) (q2 : Int32) (h0 : Heap) (n0 : Nat) (Z0 : n0 ≤ h0.size) :
    MetFree l (⟨"java/lang/Math", "min", "(II)I"⟩ : MethodName) (head1 (Jvm.Cond.code (⟨"java/lang/Math", "min", "(II)I"⟩ : MethodName) jdk_29_method_69_code 2 (some .int) :: ws) ({ frames := 0, cells := 0, slots := 0, locals := 0 } : Room)) (fun aa U => aa = #[(.int q1), (.int q2)] ∧ Z.Warmed39 U.vm ∧ U.heap = h0) (fun _ _ _ _ _ => True) (fun _ U o U' => ∃ v L, o = .returned v ∧ own_b2_Q Z q1 q2 h0 n0 v U'.heap L ∧ FrameEnd U o U' L ({ frames := 0, cells := 0, slots := 0, locals := 0 } : Room).cells ({ frames := 0, cells := 0, slots := 0, locals := 0 } : Room).slots) := by
  refine MetFree.of_bodySF (Jvm.Free.JP.mathPlain rfl (by decide +kernel)) hisR ?_
  intro p e s m args below meth c s₁ Bd hml0 hP hK
  obtain ⟨rfl, hZ, hh⟩ := hP
  have hx := Bd.exec
  have hby := Bd.bytes
  have hlk := Bd.notSynchronized
  have hml : c.maxLocals = 2 := hml0
  have hown : s.vm.findClass "java/lang/Math" = some m.cls := findClass_of_methodNamed Bd.named
  have hnm := (name_of_methodNamed Bd.named Bd.method).1
  have X0 : Stand p l e ({ frames := 0, cells := 0, slots := 0, locals := 0 } : Room) s m #[(.int q1), (.int q2)] below meth c s₁ [] 0 0 := Stand.of_body Bd
  have e0 : s₁.heap = h0 := by rw [← hh, Bd.state]; rfl
  have N0 := Fr.nil n0
  have K0 : Keep h0 h0 [] := Keep.refl h0 _
  show own_Goes p e below (own_Fin s (own_b2_Q Z q1 q2 h0 n0) ({ frames := 0, cells := 0, slots := 0, locals := 0 } : Room).cells ({ frames := 0, cells := 0, slots := 0, locals := 0 } : Room).slots) _
  refine own_step (fun t k => castTop (own_b2_ef m q1 q2) k) ?_
  show own_Goes p e below _ (s₁.setTop (mkF m 0 #[.val (.int q1), .val (.int q2)] []))
  refine own_step (fun t k => XS.iloadN X0.here hx rfl (hb hby own_djdk_29_method_69_code_0) rfl k) ?_
  show own_Goes p e below _ (s₁.setTop (mkF m 1 #[.val (.int q1), .val (.int q2)] [(.int q1)]))
  refine own_step (fun t k => XS.iloadN X0.here hx rfl (hb hby own_djdk_29_method_69_code_1) rfl k) ?_
  show own_Goes p e below _ (s₁.setTop (mkF m 2 #[.val (.int q1), .val (.int q2)] [(.int q2), (.int q1)]))
  refine own_step (S' := s₁.setTop (mkF m 10 #[.val (.int q1), .val (.int q2)] [(.int (if q2 < q1 then q2 else q1))])) (fun t k => ?_) ?_
  · show Steps p.tables e below (s₁.setTop (mkF m 2 #[.val (.int q1), .val (.int q2)] [(.int q2), (.int q1)])) _
    by_cases hc6 : q2 < q1
    · --
      refine XS.icmpYes X0.here hx rfl (pc0 := 2) (pc' := 9) rfl (hb hby own_djdk_29_method_69_code_2) rfl (tlt hc6).2.2.1 (by decide) (by decide) ?_
      show Steps p.tables e below (s₁.setTop (mkF m 9 #[.val (.int q1), .val (.int q2)] [])) _
      refine XS.iloadN X0.here hx rfl (hb hby own_djdk_29_method_69_code_9) rfl ?_
      show Steps p.tables e below (s₁.setTop (mkF m 10 #[.val (.int q1), .val (.int q2)] [(.int q2)])) _
      simp only [if_pos hc6] at k
      exact k
    · --
      refine XS.icmpNo X0.here hx rfl (hb hby own_djdk_29_method_69_code_2) rfl (flt hc6).2.2.1 ?_
      show Steps p.tables e below (s₁.setTop (mkF m 5 #[.val (.int q1), .val (.int q2)] [])) _
      refine XS.iloadN X0.here hx rfl (hb hby own_djdk_29_method_69_code_5) rfl ?_
      show Steps p.tables e below (s₁.setTop (mkF m 6 #[.val (.int q1), .val (.int q2)] [(.int q1)])) _
      refine XS.goto X0.here hx rfl (pc0 := 6) (pc' := 10) rfl (hb hby own_djdk_29_method_69_code_6) (by decide) (by decide) ?_
      show Steps p.tables e below (s₁.setTop (mkF m 10 #[.val (.int q1), .val (.int q2)] [(.int q1)])) _
      simp only [if_neg hc6] at k
      exact k
  show own_Goes p e below _ (s₁.setTop (mkF m 10 #[.val (.int q1), .val (.int q2)] [(.int (if q2 < q1 then q2 else q1))]))
  refine own_retV X0 hx hlk Bd.returns (w := (.int (if q2 < q1 then q2 else q1))) rfl (Or.inl ⟨rfl, Or.inl rfl, _, rfl⟩) (hb hby own_djdk_29_method_69_code_10) ?_ (by decide) (by decide)
  show own_b2_Q Z q1 q2 h0 n0 _ s₁.heap _
  rw [e0]
  exact ⟨rfl, N0, rfl⟩
theorem own_djdk_29_method_65_code_0 : decode jdk_29_method_65_code 0 = .ok (.iload_n 0, 1) := by decide +kernel
theorem own_djdk_29_method_65_code_1 : decode jdk_29_method_65_code 1 = .ok (.iload_n 1, 1) := by decide +kernel
theorem own_djdk_29_method_65_code_2 : decode jdk_29_method_65_code 2 = .ok (.if_icmp .lt 7, 3) := by decide +kernel
theorem own_djdk_29_method_65_code_9 : decode jdk_29_method_65_code 9 = .ok (.iload_n 1, 1) := by decide +kernel
theorem own_djdk_29_method_65_code_5 : decode jdk_29_method_65_code 5 = .ok (.iload_n 0, 1) := by decide +kernel
theorem own_djdk_29_method_65_code_6 : decode jdk_29_method_65_code 6 = .ok (.goto 4, 3) := by decide +kernel
theorem own_djdk_29_method_65_code_10 : decode jdk_29_method_65_code 10 = .ok (.ireturn, 1) := by decide +kernel
theorem own_b3_ef (m : MethodId) (q1 : Int32) (q2 : Int32) : entryFrame m #[(.int q1), (.int q2)] 2 = mkF m 0 #[.val (.int q1), .val (.int q2)] [] := by first | (simp [entryFrame, mkF, argsToLocals, Value.category]; done) | rfl
def own_b3_Q (Z : State) (q1 : Int32) (q2 : Int32) (h0 : Heap) (n0 : Nat) (v : Option Value) (h : Heap) (L : List Loc) : Prop := v = some (.int (if q1 < q2 then q2 else q1)) ∧ Fr n0 L ∧ h = h0
set_option maxRecDepth 65536 in
set_option maxHeartbeats 40000000 in
theorem own_b3 (l : Launch) (Z : State) (a0 : Array Value) (hw : ∀ d ∈ tables_1, d.before a0 Z = true) (ws : List Jvm.Cond) (q1 : Int32) (q2 : Int32) (h0 : Heap) (n0 : Nat) (Z0 : n0 ≤ h0.size) :
    MetFree l (⟨"java/lang/Math", "max", "(II)I"⟩ : MethodName) (head1 (Jvm.Cond.code (⟨"java/lang/Math", "max", "(II)I"⟩ : MethodName) jdk_29_method_65_code 2 (some .int) :: ws) ({ frames := 0, cells := 0, slots := 0, locals := 0 } : Room)) (fun aa U => aa = #[(.int q1), (.int q2)] ∧ Z.Warmed39 U.vm ∧ U.heap = h0) (fun _ _ _ _ _ => True) (fun _ U o U' => ∃ v L, o = .returned v ∧ own_b3_Q Z q1 q2 h0 n0 v U'.heap L ∧ FrameEnd U o U' L ({ frames := 0, cells := 0, slots := 0, locals := 0 } : Room).cells ({ frames := 0, cells := 0, slots := 0, locals := 0 } : Room).slots) := by
  refine MetFree.of_bodySF (Jvm.Free.JP.mathPlain rfl (by decide +kernel)) hisR ?_
  intro p e s m args below meth c s₁ Bd hml0 hP hK
  obtain ⟨rfl, hZ, hh⟩ := hP
  have hx := Bd.exec
  have hby := Bd.bytes
  have hlk := Bd.notSynchronized
  have hml : c.maxLocals = 2 := hml0
  have hown : s.vm.findClass "java/lang/Math" = some m.cls := findClass_of_methodNamed Bd.named
  have hnm := (name_of_methodNamed Bd.named Bd.method).1
  have X0 : Stand p l e ({ frames := 0, cells := 0, slots := 0, locals := 0 } : Room) s m #[(.int q1), (.int q2)] below meth c s₁ [] 0 0 := Stand.of_body Bd
  have e0 : s₁.heap = h0 := by rw [← hh, Bd.state]; rfl
  have N0 := Fr.nil n0
  have K0 : Keep h0 h0 [] := Keep.refl h0 _
  show own_Goes p e below (own_Fin s (own_b3_Q Z q1 q2 h0 n0) ({ frames := 0, cells := 0, slots := 0, locals := 0 } : Room).cells ({ frames := 0, cells := 0, slots := 0, locals := 0 } : Room).slots) _
  refine own_step (fun t k => castTop (own_b3_ef m q1 q2) k) ?_
  show own_Goes p e below _ (s₁.setTop (mkF m 0 #[.val (.int q1), .val (.int q2)] []))
  refine own_step (fun t k => XS.iloadN X0.here hx rfl (hb hby own_djdk_29_method_65_code_0) rfl k) ?_
  show own_Goes p e below _ (s₁.setTop (mkF m 1 #[.val (.int q1), .val (.int q2)] [(.int q1)]))
  refine own_step (fun t k => XS.iloadN X0.here hx rfl (hb hby own_djdk_29_method_65_code_1) rfl k) ?_
  show own_Goes p e below _ (s₁.setTop (mkF m 2 #[.val (.int q1), .val (.int q2)] [(.int q2), (.int q1)]))
  refine own_step (S' := s₁.setTop (mkF m 10 #[.val (.int q1), .val (.int q2)] [(.int (if q1 < q2 then q2 else q1))])) (fun t k => ?_) ?_
  · show Steps p.tables e below (s₁.setTop (mkF m 2 #[.val (.int q1), .val (.int q2)] [(.int q2), (.int q1)])) _
    by_cases hc8 : q1 < q2
    · --
      refine XS.icmpYes X0.here hx rfl (pc0 := 2) (pc' := 9) rfl (hb hby own_djdk_29_method_65_code_2) rfl (tlt hc8).1 (by decide) (by decide) ?_
      show Steps p.tables e below (s₁.setTop (mkF m 9 #[.val (.int q1), .val (.int q2)] [])) _
      refine XS.iloadN X0.here hx rfl (hb hby own_djdk_29_method_65_code_9) rfl ?_
      show Steps p.tables e below (s₁.setTop (mkF m 10 #[.val (.int q1), .val (.int q2)] [(.int q2)])) _
      simp only [if_pos hc8] at k
      exact k
    · --
      refine XS.icmpNo X0.here hx rfl (hb hby own_djdk_29_method_65_code_2) rfl (flt hc8).1 ?_
      show Steps p.tables e below (s₁.setTop (mkF m 5 #[.val (.int q1), .val (.int q2)] [])) _
      refine XS.iloadN X0.here hx rfl (hb hby own_djdk_29_method_65_code_5) rfl ?_
      show Steps p.tables e below (s₁.setTop (mkF m 6 #[.val (.int q1), .val (.int q2)] [(.int q1)])) _
      refine XS.goto X0.here hx rfl (pc0 := 6) (pc' := 10) rfl (hb hby own_djdk_29_method_65_code_6) (by decide) (by decide) ?_
      show Steps p.tables e below (s₁.setTop (mkF m 10 #[.val (.int q1), .val (.int q2)] [(.int q1)])) _
      simp only [if_neg hc8] at k
      exact k
  show own_Goes p e below _ (s₁.setTop (mkF m 10 #[.val (.int q1), .val (.int q2)] [(.int (if q1 < q2 then q2 else q1))]))
  refine own_retV X0 hx hlk Bd.returns (w := (.int (if q1 < q2 then q2 else q1))) rfl (Or.inl ⟨rfl, Or.inl rfl, _, rfl⟩) (hb hby own_djdk_29_method_65_code_10) ?_ (by decide) (by decide)
  show own_b3_Q Z q1 q2 h0 n0 _ s₁.heap _
  rw [e0]
  exact ⟨rfl, N0, rfl⟩
theorem own_pn1 : plainName "java/lang/Integer" = true := by first | (simp [plainName, overriddenIn]; done) | decide +kernel
theorem own_djdk_33_method_40_code_0 : decode jdk_33_method_40_code 0 = .ok (.iload_n 0, 1) := by decide +kernel
theorem own_djdk_33_method_40_code_1 : decode jdk_33_method_40_code 1 = .ok (.iload_n 1, 1) := by decide +kernel
theorem own_djdk_33_method_40_code_2 : decode jdk_33_method_40_code 2 = .ok (.if_icmp .ge 7, 3) := by decide +kernel
theorem own_djdk_33_method_40_code_5 : decode jdk_33_method_40_code 5 = .ok (.iconst (-1), 1) := by decide +kernel
theorem own_djdk_33_method_40_code_6 : decode jdk_33_method_40_code 6 = .ok (.goto 13, 3) := by decide +kernel
theorem own_djdk_33_method_40_code_9 : decode jdk_33_method_40_code 9 = .ok (.iload_n 0, 1) := by decide +kernel
theorem own_djdk_33_method_40_code_10 : decode jdk_33_method_40_code 10 = .ok (.iload_n 1, 1) := by decide +kernel
theorem own_djdk_33_method_40_code_11 : decode jdk_33_method_40_code 11 = .ok (.if_icmp .ne 7, 3) := by decide +kernel
theorem own_djdk_33_method_40_code_14 : decode jdk_33_method_40_code 14 = .ok (.iconst 0, 1) := by decide +kernel
theorem own_djdk_33_method_40_code_15 : decode jdk_33_method_40_code 15 = .ok (.goto 4, 3) := by decide +kernel
theorem own_djdk_33_method_40_code_18 : decode jdk_33_method_40_code 18 = .ok (.iconst 1, 1) := by decide +kernel
theorem own_djdk_33_method_40_code_19 : decode jdk_33_method_40_code 19 = .ok (.ireturn, 1) := by decide +kernel
theorem own_b4_ef (m : MethodId) (q1 : Int32) (q2 : Int32) : entryFrame m #[(.int q1), (.int q2)] 2 = mkF m 0 #[.val (.int q1), .val (.int q2)] [] := by first | (simp [entryFrame, mkF, argsToLocals, Value.category]; done) | rfl
def own_b4_Q (Z : State) (q1 : Int32) (q2 : Int32) (h0 : Heap) (n0 : Nat) (v : Option Value) (h : Heap) (L : List Loc) : Prop := v = some (.int (if q1 < q2 then (-1 : Int32) else (if q1 = q2 then (0 : Int32) else (1 : Int32)))) ∧ Fr n0 L ∧ h = h0
set_option maxRecDepth 65536 in
set_option maxHeartbeats 40000000 in
theorem own_b4 (l : Launch) (Z : State) (a0 : Array Value) (hw : ∀ d ∈ tables_1, d.before a0 Z = true) (ws : List Jvm.Cond) (q1 : Int32) (q2 : Int32) (h0 : Heap) (n0 : Nat) (Z0 : n0 ≤ h0.size) :
    MetFree l (⟨"java/lang/Integer", "compare", "(II)I"⟩ : MethodName) (head1 (Jvm.Cond.code (⟨"java/lang/Integer", "compare", "(II)I"⟩ : MethodName) jdk_33_method_40_code 2 (some .int) :: ws) ({ frames := 0, cells := 0, slots := 0, locals := 0 } : Room)) (fun aa U => aa = #[(.int q1), (.int q2)] ∧ Z.Warmed39 U.vm ∧ U.heap = h0) (fun _ _ _ _ _ => True) (fun _ U o U' => ∃ v L, o = .returned v ∧ own_b4_Q Z q1 q2 h0 n0 v U'.heap L ∧ FrameEnd U o U' L ({ frames := 0, cells := 0, slots := 0, locals := 0 } : Room).cells ({ frames := 0, cells := 0, slots := 0, locals := 0 } : Room).slots) := by
  refine MetFree.of_bodySF (plainFor_of_name own_pn1) hisR ?_
  intro p e s m args below meth c s₁ Bd hml0 hP hK
  obtain ⟨rfl, hZ, hh⟩ := hP
  have hx := Bd.exec
  have hby := Bd.bytes
  have hlk := Bd.notSynchronized
  have hml : c.maxLocals = 2 := hml0
  have hown : s.vm.findClass "java/lang/Integer" = some m.cls := findClass_of_methodNamed Bd.named
  have hnm := (name_of_methodNamed Bd.named Bd.method).1
  have X0 : Stand p l e ({ frames := 0, cells := 0, slots := 0, locals := 0 } : Room) s m #[(.int q1), (.int q2)] below meth c s₁ [] 0 0 := Stand.of_body Bd
  have e0 : s₁.heap = h0 := by rw [← hh, Bd.state]; rfl
  have N0 := Fr.nil n0
  have K0 : Keep h0 h0 [] := Keep.refl h0 _
  show own_Goes p e below (own_Fin s (own_b4_Q Z q1 q2 h0 n0) ({ frames := 0, cells := 0, slots := 0, locals := 0 } : Room).cells ({ frames := 0, cells := 0, slots := 0, locals := 0 } : Room).slots) _
  refine own_step (fun t k => castTop (own_b4_ef m q1 q2) k) ?_
  show own_Goes p e below _ (s₁.setTop (mkF m 0 #[.val (.int q1), .val (.int q2)] []))
  refine own_step (fun t k => XS.iloadN X0.here hx rfl (hb hby own_djdk_33_method_40_code_0) rfl k) ?_
  show own_Goes p e below _ (s₁.setTop (mkF m 1 #[.val (.int q1), .val (.int q2)] [(.int q1)]))
  refine own_step (fun t k => XS.iloadN X0.here hx rfl (hb hby own_djdk_33_method_40_code_1) rfl k) ?_
  show own_Goes p e below _ (s₁.setTop (mkF m 2 #[.val (.int q1), .val (.int q2)] [(.int q2), (.int q1)]))
  refine own_step (S' := s₁.setTop (mkF m 19 #[.val (.int q1), .val (.int q2)] [(.int (if q1 < q2 then (-1 : Int32) else (if q1 = q2 then (0 : Int32) else (1 : Int32))))])) (fun t k => ?_) ?_
  · show Steps p.tables e below (s₁.setTop (mkF m 2 #[.val (.int q1), .val (.int q2)] [(.int q2), (.int q1)])) _
    by_cases hc11 : q1 < q2
    · --
      refine XS.icmpNo X0.here hx rfl (hb hby own_djdk_33_method_40_code_2) rfl (tlt hc11).2.1 ?_
      show Steps p.tables e below (s₁.setTop (mkF m 5 #[.val (.int q1), .val (.int q2)] [])) _
      refine XS.iconst X0.here hx rfl (hb hby own_djdk_33_method_40_code_5) ?_
      show Steps p.tables e below (s₁.setTop (mkF m 6 #[.val (.int q1), .val (.int q2)] [(.int (-1 : Int32))])) _
      refine XS.goto X0.here hx rfl (pc0 := 6) (pc' := 19) rfl (hb hby own_djdk_33_method_40_code_6) (by decide) (by decide) ?_
      show Steps p.tables e below (s₁.setTop (mkF m 19 #[.val (.int q1), .val (.int q2)] [(.int (-1 : Int32))])) _
      simp only [if_pos hc11] at k
      exact k
    · --
      refine XS.icmpYes X0.here hx rfl (pc0 := 2) (pc' := 9) rfl (hb hby own_djdk_33_method_40_code_2) rfl (flt hc11).2.1 (by decide) (by decide) ?_
      show Steps p.tables e below (s₁.setTop (mkF m 9 #[.val (.int q1), .val (.int q2)] [])) _
      refine XS.iloadN X0.here hx rfl (hb hby own_djdk_33_method_40_code_9) rfl ?_
      show Steps p.tables e below (s₁.setTop (mkF m 10 #[.val (.int q1), .val (.int q2)] [(.int q1)])) _
      refine XS.iloadN X0.here hx rfl (hb hby own_djdk_33_method_40_code_10) rfl ?_
      show Steps p.tables e below (s₁.setTop (mkF m 11 #[.val (.int q1), .val (.int q2)] [(.int q2), (.int q1)])) _
      by_cases hc12 : q1 = q2
      · --
        refine XS.icmpNo X0.here hx rfl (hb hby own_djdk_33_method_40_code_11) rfl (teq hc12).2 ?_
        show Steps p.tables e below (s₁.setTop (mkF m 14 #[.val (.int q1), .val (.int q2)] [])) _
        refine XS.iconst X0.here hx rfl (hb hby own_djdk_33_method_40_code_14) ?_
        show Steps p.tables e below (s₁.setTop (mkF m 15 #[.val (.int q1), .val (.int q2)] [(.int (0 : Int32))])) _
        refine XS.goto X0.here hx rfl (pc0 := 15) (pc' := 19) rfl (hb hby own_djdk_33_method_40_code_15) (by decide) (by decide) ?_
        show Steps p.tables e below (s₁.setTop (mkF m 19 #[.val (.int q1), .val (.int q2)] [(.int (0 : Int32))])) _
        simp only [if_neg hc11, if_pos hc12] at k
        exact k
      · --
        refine XS.icmpYes X0.here hx rfl (pc0 := 11) (pc' := 18) rfl (hb hby own_djdk_33_method_40_code_11) rfl (feq hc12).2 (by decide) (by decide) ?_
        show Steps p.tables e below (s₁.setTop (mkF m 18 #[.val (.int q1), .val (.int q2)] [])) _
        refine XS.iconst X0.here hx rfl (hb hby own_djdk_33_method_40_code_18) ?_
        show Steps p.tables e below (s₁.setTop (mkF m 19 #[.val (.int q1), .val (.int q2)] [(.int (1 : Int32))])) _
        simp only [if_neg hc11, if_neg hc12] at k
        exact k
  show own_Goes p e below _ (s₁.setTop (mkF m 19 #[.val (.int q1), .val (.int q2)] [(.int (if q1 < q2 then (-1 : Int32) else (if q1 = q2 then (0 : Int32) else (1 : Int32))))]))
  refine own_retV X0 hx hlk Bd.returns (w := (.int (if q1 < q2 then (-1 : Int32) else (if q1 = q2 then (0 : Int32) else (1 : Int32))))) rfl (Or.inl ⟨rfl, Or.inl rfl, _, rfl⟩) (hb hby own_djdk_33_method_40_code_19) ?_ (by decide) (by decide)
  show own_b4_Q Z q1 q2 h0 n0 _ s₁.heap _
  rw [e0]
  exact ⟨rfl, N0, rfl⟩
theorem own_pn2 : plainName "java/lang/Double" = true := by first | (simp [plainName, overriddenIn]; done) | decide +kernel
theorem own_djdk_117_method_27_code_0 : decode jdk_117_method_27_code 0 = .ok (.dload_n 0, 1) := by decide +kernel
theorem own_djdk_117_method_27_code_1 : decode jdk_117_method_27_code 1 = .ok (.dload_n 2, 1) := by decide +kernel
theorem own_djdk_117_method_27_code_2 : decode jdk_117_method_27_code 2 = .ok (.dcmp .g, 1) := by decide +kernel
theorem own_djdk_117_method_27_code_3 : decode jdk_117_method_27_code 3 = .ok (.ifCond .ge 5, 3) := by decide +kernel
theorem own_djdk_117_method_27_code_8 : decode jdk_117_method_27_code 8 = .ok (.dload_n 0, 1) := by decide +kernel
theorem own_djdk_117_method_27_code_9 : decode jdk_117_method_27_code 9 = .ok (.dload_n 2, 1) := by decide +kernel
theorem own_djdk_117_method_27_code_10 : decode jdk_117_method_27_code 10 = .ok (.dcmp .l, 1) := by decide +kernel
theorem own_djdk_117_method_27_code_11 : decode jdk_117_method_27_code 11 = .ok (.ifCond .le 5, 3) := by decide +kernel
theorem own_djdk_117_method_27_code_14 : decode jdk_117_method_27_code 14 = .ok (.iconst 1, 1) := by decide +kernel
theorem own_djdk_117_method_27_code_15 : decode jdk_117_method_27_code 15 = .ok (.ireturn, 1) := by decide +kernel
theorem own_b5_ef (m : MethodId) (d1 : UInt64) (d2 : UInt64) : entryFrame m #[(.double d1), (.double d2)] 8 = mkF m 0 #[.val (.double d1), .second, .val (.double d2), .second, .unset, .unset, .unset, .unset] [] := by first | (simp [entryFrame, mkF, argsToLocals, Value.category]; done) | rfl
def own_b5_Q (Z : State) (d1 : UInt64) (d2 : UInt64) (h0 : Heap) (n0 : Nat) (v : Option Value) (h : Heap) (L : List Loc) : Prop := v = some (.int (1 : Int32)) ∧ Fr n0 L ∧ h = h0
set_option maxRecDepth 65536 in
set_option maxHeartbeats 40000000 in
theorem own_b5 (l : Launch) (Z : State) (a0 : Array Value) (hw : ∀ d ∈ tables_1, d.before a0 Z = true) (ws : List Jvm.Cond) (d1 : UInt64) (d2 : UInt64) (h0 : Heap) (n0 : Nat) (Z0 : n0 ≤ h0.size) (hg : Jvm.Op.cmpValue (FP.dcmp d1 d2) .g = 1) (hl : Jvm.Op.cmpValue (FP.dcmp d1 d2) .l = 1) :
    MetFree l (⟨"java/lang/Double", "compare", "(DD)I"⟩ : MethodName) (head1 (Jvm.Cond.code (⟨"java/lang/Double", "compare", "(DD)I"⟩ : MethodName) jdk_117_method_27_code 8 (some .int) :: ws) ({ frames := 0, cells := 0, slots := 0, locals := 0 } : Room)) (fun aa U => aa = #[(.double d1), (.double d2)] ∧ Z.Warmed39 U.vm ∧ U.heap = h0) (fun _ _ _ _ _ => True) (fun _ U o U' => ∃ v L, o = .returned v ∧ own_b5_Q Z d1 d2 h0 n0 v U'.heap L ∧ FrameEnd U o U' L ({ frames := 0, cells := 0, slots := 0, locals := 0 } : Room).cells ({ frames := 0, cells := 0, slots := 0, locals := 0 } : Room).slots) := by
  refine MetFree.of_bodySF (plainFor_of_name own_pn2) hisR ?_
  intro p e s m args below meth c s₁ Bd hml0 hP hK
  obtain ⟨rfl, hZ, hh⟩ := hP
  have hx := Bd.exec
  have hby := Bd.bytes
  have hlk := Bd.notSynchronized
  have hml : c.maxLocals = 8 := hml0
  have hown : s.vm.findClass "java/lang/Double" = some m.cls := findClass_of_methodNamed Bd.named
  have hnm := (name_of_methodNamed Bd.named Bd.method).1
  have X0 : Stand p l e ({ frames := 0, cells := 0, slots := 0, locals := 0 } : Room) s m #[(.double d1), (.double d2)] below meth c s₁ [] 0 0 := Stand.of_body Bd
  have e0 : s₁.heap = h0 := by rw [← hh, Bd.state]; rfl
  have N0 := Fr.nil n0
  have K0 : Keep h0 h0 [] := Keep.refl h0 _
  show own_Goes p e below (own_Fin s (own_b5_Q Z d1 d2 h0 n0) ({ frames := 0, cells := 0, slots := 0, locals := 0 } : Room).cells ({ frames := 0, cells := 0, slots := 0, locals := 0 } : Room).slots) _
  refine own_step (fun t k => castTop (own_b5_ef m d1 d2) k) ?_
  show own_Goes p e below _ (s₁.setTop (mkF m 0 #[.val (.double d1), .second, .val (.double d2), .second, .unset, .unset, .unset, .unset] []))
  refine own_step (fun t k => XS.dloadN X0.here hx rfl (hb hby own_djdk_117_method_27_code_0) rfl k) ?_
  show own_Goes p e below _ (s₁.setTop (mkF m 1 #[.val (.double d1), .second, .val (.double d2), .second, .unset, .unset, .unset, .unset] [(.double d1)]))
  refine own_step (fun t k => XS.dloadN X0.here hx rfl (hb hby own_djdk_117_method_27_code_1) rfl k) ?_
  show own_Goes p e below _ (s₁.setTop (mkF m 2 #[.val (.double d1), .second, .val (.double d2), .second, .unset, .unset, .unset, .unset] [(.double d2), (.double d1)]))
  refine own_step (fun t k => XS.dcmpS X0.here hx rfl (hb hby own_djdk_117_method_27_code_2) rfl hg k) ?_
  show own_Goes p e below _ (s₁.setTop (mkF m 3 #[.val (.double d1), .second, .val (.double d2), .second, .unset, .unset, .unset, .unset] [(.int (1 : Int32))]))
  have hc15 : ¬ ((1 : Int32) < (0 : Int32)) := by decide
  refine own_step (fun t k => XS.ifYes X0.here hx rfl (pc0 := 3) (pc' := 8) rfl (hb hby own_djdk_117_method_27_code_3) rfl ((if0 _ _).trans (flt hc15).2.1) (by decide) (by decide) k) ?_
  show own_Goes p e below _ (s₁.setTop (mkF m 8 #[.val (.double d1), .second, .val (.double d2), .second, .unset, .unset, .unset, .unset] []))
  refine own_step (fun t k => XS.dloadN X0.here hx rfl (hb hby own_djdk_117_method_27_code_8) rfl k) ?_
  show own_Goes p e below _ (s₁.setTop (mkF m 9 #[.val (.double d1), .second, .val (.double d2), .second, .unset, .unset, .unset, .unset] [(.double d1)]))
  refine own_step (fun t k => XS.dloadN X0.here hx rfl (hb hby own_djdk_117_method_27_code_9) rfl k) ?_
  show own_Goes p e below _ (s₁.setTop (mkF m 10 #[.val (.double d1), .second, .val (.double d2), .second, .unset, .unset, .unset, .unset] [(.double d2), (.double d1)]))
  refine own_step (fun t k => XS.dcmpS X0.here hx rfl (hb hby own_djdk_117_method_27_code_10) rfl hl k) ?_
  show own_Goes p e below _ (s₁.setTop (mkF m 11 #[.val (.double d1), .second, .val (.double d2), .second, .unset, .unset, .unset, .unset] [(.int (1 : Int32))]))
  have hc16 : (0 : Int32) < (1 : Int32) := by decide
  refine own_step (fun t k => XS.ifNo X0.here hx rfl (hb hby own_djdk_117_method_27_code_11) rfl ((if0 _ _).trans (tlt hc16).2.2.2) k) ?_
  show own_Goes p e below _ (s₁.setTop (mkF m 14 #[.val (.double d1), .second, .val (.double d2), .second, .unset, .unset, .unset, .unset] []))
  refine own_step (fun t k => XS.iconst X0.here hx rfl (hb hby own_djdk_117_method_27_code_14) k) ?_
  show own_Goes p e below _ (s₁.setTop (mkF m 15 #[.val (.double d1), .second, .val (.double d2), .second, .unset, .unset, .unset, .unset] [(.int (1 : Int32))]))
  refine own_retV X0 hx hlk Bd.returns (w := (.int (1 : Int32))) rfl (Or.inl ⟨rfl, Or.inl rfl, _, rfl⟩) (hb hby own_djdk_117_method_27_code_15) ?_ (by decide) (by decide)
  show own_b5_Q Z d1 d2 h0 n0 _ s₁.heap _
  rw [e0]
  exact ⟨rfl, N0, rfl⟩
theorem own_dprog_4_method_7_code_0 : decode prog_4_method_7_code 0 = .ok (.iload_n 1, 1) := by decide +kernel
theorem own_dprog_4_method_7_code_1 : decode prog_4_method_7_code 1 = .ok (.iload 4, 2) := by decide +kernel
theorem own_pd0 : parseMethodDescriptor "(II)I" = some ⟨[.int, .int], some .int⟩ := by decide +kernel
theorem own_dprog_4_method_7_code_3 : decode prog_4_method_7_code 3 = .ok (.invokestatic 53, 3) := by decide +kernel
theorem own_dprog_4_method_7_code_6 : decode prog_4_method_7_code 6 = .ok (.istore 7, 2) := by decide +kernel
theorem own_dprog_4_method_7_code_8 : decode prog_4_method_7_code 8 = .ok (.dload_n 2, 1) := by decide +kernel
theorem own_dprog_4_method_7_code_9 : decode prog_4_method_7_code 9 = .ok (.dload 5, 2) := by decide +kernel
theorem own_pd1 : parseMethodDescriptor "(DD)I" = some ⟨[.double, .double], some .int⟩ := by decide +kernel
theorem own_dprog_4_method_7_code_11 : decode prog_4_method_7_code 11 = .ok (.invokestatic 58, 3) := by decide +kernel
theorem own_dprog_4_method_7_code_14 : decode prog_4_method_7_code 14 = .ok (.istore 8, 2) := by decide +kernel
theorem own_dprog_4_method_7_code_16 : decode prog_4_method_7_code 16 = .ok (.aload_n 0, 1) := by decide +kernel
theorem own_pd2 : parseMethodDescriptor "()Z" = some ⟨[], some .boolean⟩ := by decide +kernel
theorem own_dprog_4_method_7_code_17 : decode prog_4_method_7_code 17 = .ok (.invokevirtual 63, 3) := by decide +kernel
theorem own_dprog_4_method_7_code_20 : decode prog_4_method_7_code 20 = .ok (.ifCond .eq 20, 3) := by decide +kernel
theorem own_dprog_4_method_7_code_40 : decode prog_4_method_7_code 40 = .ok (.iload 8, 2) := by decide +kernel
theorem own_dprog_4_method_7_code_42 : decode prog_4_method_7_code 42 = .ok (.ifCond .eq 8, 3) := by decide +kernel
theorem own_dprog_4_method_7_code_45 : decode prog_4_method_7_code 45 = .ok (.iload 8, 2) := by decide +kernel
theorem own_dprog_4_method_7_code_47 : decode prog_4_method_7_code 47 = .ok (.goto 5, 3) := by decide +kernel
theorem own_dprog_4_method_7_code_52 : decode prog_4_method_7_code 52 = .ok (.istore 9, 2) := by decide +kernel
theorem own_dprog_4_method_7_code_23 : decode prog_4_method_7_code 23 = .ok (.iload 7, 2) := by decide +kernel
theorem own_dprog_4_method_7_code_25 : decode prog_4_method_7_code 25 = .ok (.ifCond .eq 8, 3) := by decide +kernel
theorem own_dprog_4_method_7_code_33 : decode prog_4_method_7_code 33 = .ok (.iload 8, 2) := by decide +kernel
theorem own_dprog_4_method_7_code_35 : decode prog_4_method_7_code 35 = .ok (.istore 9, 2) := by decide +kernel
theorem own_dprog_4_method_7_code_37 : decode prog_4_method_7_code 37 = .ok (.goto 17, 3) := by decide +kernel
theorem own_dprog_4_method_7_code_28 : decode prog_4_method_7_code 28 = .ok (.iload 7, 2) := by decide +kernel
theorem own_dprog_4_method_7_code_30 : decode prog_4_method_7_code 30 = .ok (.goto 5, 3) := by decide +kernel
theorem own_dprog_4_method_7_code_54 : decode prog_4_method_7_code 54 = .ok (.iload 9, 2) := by decide +kernel
theorem own_dprog_4_method_7_code_56 : decode prog_4_method_7_code 56 = .ok (.ireturn, 1) := by decide +kernel
theorem own_b6_ef (m : MethodId) (a1 : Addr) (q1 : Int32) (d1 : UInt64) (q2 : Int32) (d2 : UInt64) : entryFrame m #[(.ref a1), (.int q1), (.double d1), (.int q2), (.double d2)] 10 = mkF m 0 #[.val (.ref a1), .val (.int q1), .val (.double d1), .second, .val (.int q2), .val (.double d2), .second, .unset, .unset, .unset] [] := by first | (simp [entryFrame, mkF, argsToLocals, Value.category]; done) | rfl
def own_b6_Q (Z : State) (a1 : Addr) (q1 : Int32) (d1 : UInt64) (q2 : Int32) (d2 : UInt64) (w_FEWEST_VEHICLES : Addr) (r1 : Int32) (h0 : Heap) (n0 : Nat) (v : Option Value) (h : Heap) (L : List Loc) : Prop := v = some (.int (if r1 = (0 : Int32) then (1 : Int32) else (if (if q1 < q2 then (-1 : Int32) else (if q1 = q2 then (0 : Int32) else (1 : Int32))) = (0 : Int32) then (1 : Int32) else (if q1 < q2 then (-1 : Int32) else (if q1 = q2 then (0 : Int32) else (1 : Int32)))))) ∧ Fr n0 L ∧ h = h0
set_option maxRecDepth 65536 in
set_option maxHeartbeats 40000000 in
theorem own_b6 (l : Launch) (Z : State) (a0 : Array Value) (hw : ∀ d ∈ tables_1, d.before a0 Z = true) (ws : List Jvm.Cond) (a1 : Addr) (q1 : Int32) (d1 : UInt64) (q2 : Int32) (d2 : UInt64) (w_FEWEST_VEHICLES : Addr) (r1 : Int32) (h0 : Heap) (n0 : Nat) (Z0 : n0 ≤ h0.size) (S_FEWEST_VEHICLES : Sta Z Z.heap "com/example/waysmith/waysmith/evaluation/Objective" "FEWEST_VEHICLES" "Lcom/example/waysmith/waysmith/evaluation/Objective;" (.ref w_FEWEST_VEHICLES)) (O0 : Old Z n0 h0) (E_a1 : Exa Z h0 a1 "com/example/waysmith/waysmith/evaluation/Objective") (hr1 : (if a1 = w_FEWEST_VEHICLES then (1 : Int32) else (0 : Int32)) = r1) (hg : Jvm.Op.cmpValue (FP.dcmp d1 d2) .g = 1) (hl : Jvm.Op.cmpValue (FP.dcmp d1 d2) .l = 1) :
    MetFree l (⟨"com/example/waysmith/waysmith/evaluation/Objective", "compare", "(IDID)I"⟩ : MethodName) (head1 (Jvm.Cond.code (⟨"com/example/waysmith/waysmith/evaluation/Objective", "compare", "(IDID)I"⟩ : MethodName) prog_4_method_7_code 10 (some .int) :: ws) ({ frames := 1, cells := 0, slots := 0, locals := 19 } : Room)) (fun aa U => aa = #[(.ref a1), (.int q1), (.double d1), (.int q2), (.double d2)] ∧ Z.Warmed39 U.vm ∧ U.heap = h0) (fun _ _ _ _ _ => True) (fun _ U o U' => ∃ v L, o = .returned v ∧ own_b6_Q Z a1 q1 d1 q2 d2 w_FEWEST_VEHICLES r1 h0 n0 v U'.heap L ∧ FrameEnd U o U' L ({ frames := 1, cells := 0, slots := 0, locals := 19 } : Room).cells ({ frames := 1, cells := 0, slots := 0, locals := 19 } : Room).slots) := by
  refine MetFree.of_bodySF (plainFor_of_name own_pn0) hisR ?_
  have w1 := hw _ (List.mem_of_getElem? (i := 1) rfl)
  have w4 := hw _ (List.mem_of_getElem? (i := 4) rfl)
  have w5 := hw _ (List.mem_of_getElem? (i := 5) rfl)
  have w6 := hw _ (List.mem_of_getElem? (i := 6) rfl)
  have w7 := hw _ (List.mem_of_getElem? (i := 7) rfl)
  have w23 := hw _ (List.mem_of_getElem? (i := 23) rfl)
  have w24 := hw _ (List.mem_of_getElem? (i := 24) rfl)
  have w25 := hw _ (List.mem_of_getElem? (i := 25) rfl)
  have w26 := hw _ (List.mem_of_getElem? (i := 26) rfl)
  have w27 := hw _ (List.mem_of_getElem? (i := 27) rfl)
  have w28 := hw _ (List.mem_of_getElem? (i := 28) rfl)
  have w29 := hw _ (List.mem_of_getElem? (i := 29) rfl)
  have w30 := hw _ (List.mem_of_getElem? (i := 30) rfl)
  have w31 := hw _ (List.mem_of_getElem? (i := 31) rfl)
  intro p e s m args below meth c s₁ Bd hml0 hP hK
  obtain ⟨rfl, hZ, hh⟩ := hP
  have hx := Bd.exec
  have hby := Bd.bytes
  have hlk := Bd.notSynchronized
  have hml : c.maxLocals = 10 := hml0
  have hown : s.vm.findClass "com/example/waysmith/waysmith/evaluation/Objective" = some m.cls := findClass_of_methodNamed Bd.named
  have hnm := (name_of_methodNamed Bd.named Bd.method).1
  have X0 : Stand p l e ({ frames := 1, cells := 0, slots := 0, locals := 19 } : Room) s m #[(.ref a1), (.int q1), (.double d1), (.int q2), (.double d2)] below meth c s₁ [] 0 0 := Stand.of_body Bd
  have e0 : s₁.heap = h0 := by rw [← hh, Bd.state]; rfl
  have N0 := Fr.nil n0
  have K0 : Keep h0 h0 [] := Keep.refl h0 _
  show own_Goes p e below (own_Fin s (own_b6_Q Z a1 q1 d1 q2 d2 w_FEWEST_VEHICLES r1 h0 n0) ({ frames := 1, cells := 0, slots := 0, locals := 19 } : Room).cells ({ frames := 1, cells := 0, slots := 0, locals := 19 } : Room).slots) _
  refine own_step (fun t k => castTop (own_b6_ef m a1 q1 d1 q2 d2) k) ?_
  show own_Goes p e below _ (s₁.setTop (mkF m 0 #[.val (.ref a1), .val (.int q1), .val (.double d1), .second, .val (.int q2), .val (.double d2), .second, .unset, .unset, .unset] []))
  refine own_step (fun t k => XS.iloadN X0.here hx rfl (hb hby own_dprog_4_method_7_code_0) rfl k) ?_
  show own_Goes p e below _ (s₁.setTop (mkF m 1 #[.val (.ref a1), .val (.int q1), .val (.double d1), .second, .val (.int q2), .val (.double d2), .second, .unset, .unset, .unset] [(.int q1)]))
  refine own_step (fun t k => XS.iload X0.here hx rfl (hb hby own_dprog_4_method_7_code_1) rfl k) ?_
  show own_Goes p e below _ (s₁.setTop (mkF m 3 #[.val (.ref a1), .val (.int q1), .val (.double d1), .second, .val (.int q2), .val (.double d2), .second, .unset, .unset, .unset] [(.int q2), (.int q1)]))
  obtain ⟨_, _, ⟨T23, L23, k23, n23⟩, -, X23, ⟨Lc23, hQ23, l23, y23, z23⟩, st23⟩ := Jvm.LawKit.callS X0 hx (y := (⟨"java/lang/Integer", "compare", "(II)I"⟩ : MethodName)) hown (mvT hZ w23) (mvT hZ w24) (mvT hZ w25) (mvT hZ w26) (by decide) (backOf (W := 0) (own_b4 l Z a0 hw [] q1 q2  h0 n0 Z0 ) hZ w26 w25 (by decide) (by decide)) (g := (mkF m 3 #[.val (.ref a1), .val (.int q1), .val (.double d1), .second, .val (.int q2), .val (.double d2), .second, .unset, .unset, .unset] [(.int q2), (.int q1)])) rfl (by rw [hml]; rfl) (argsL := [(.int q1), (.int q2)]) (rest := []) (lenOf own_pd0 rfl) rfl (by show 2 * 0 + _ ≤ _; exact Nat.le_of_eq rfl) (hb hby own_dprog_4_method_7_code_3) (fun _ _ => ⟨rfl, e0, (by decide : 0 + 0 ≤ _), (by decide : 0 + 0 ≤ _)⟩)
  dsimp only [Pt.U, Pt.locs, Pt.cells, Pt.slots] at X23 l23 y23 z23 st23 hQ23
  subst l23 y23 z23
  obtain ⟨rfl, N23q, eh23⟩ := hQ23
  have N23 := Fr.app N0 N23q
  refine own_step st23 ?_
  show own_Goes p e below _ (T23.setTop (mkF m 6 #[.val (.ref a1), .val (.int q1), .val (.double d1), .second, .val (.int q2), .val (.double d2), .second, .unset, .unset, .unset] [(.int (if q1 < q2 then (-1 : Int32) else (if q1 = q2 then (0 : Int32) else (1 : Int32))))]))
  refine own_step (fun t k => XS.istore X23.here hx rfl (hb hby own_dprog_4_method_7_code_6) rfl (l' := #[.val (.ref a1), .val (.int q1), .val (.double d1), .second, .val (.int q2), .val (.double d2), .second, .val (.int (if q1 < q2 then (-1 : Int32) else (if q1 = q2 then (0 : Int32) else (1 : Int32)))), .unset, .unset]) rfl k) ?_
  show own_Goes p e below _ (T23.setTop (mkF m 8 #[.val (.ref a1), .val (.int q1), .val (.double d1), .second, .val (.int q2), .val (.double d2), .second, .val (.int (if q1 < q2 then (-1 : Int32) else (if q1 = q2 then (0 : Int32) else (1 : Int32)))), .unset, .unset] []))
  generalize hv_vic : (if q1 < q2 then (-1 : Int32) else (if q1 = q2 then (0 : Int32) else (1 : Int32))) = vic
  refine own_step (fun t k => XS.dloadN X23.here hx rfl (hb hby own_dprog_4_method_7_code_8) rfl k) ?_
  show own_Goes p e below _ (T23.setTop (mkF m 9 #[.val (.ref a1), .val (.int q1), .val (.double d1), .second, .val (.int q2), .val (.double d2), .second, .val (.int vic), .unset, .unset] [(.double d1)]))
  refine own_step (fun t k => XS.dload X23.here hx rfl (hb hby own_dprog_4_method_7_code_9) rfl k) ?_
  show own_Goes p e below _ (T23.setTop (mkF m 11 #[.val (.ref a1), .val (.int q1), .val (.double d1), .second, .val (.int q2), .val (.double d2), .second, .val (.int vic), .unset, .unset] [(.double d2), (.double d1)]))
  obtain ⟨_, _, ⟨T24, L24, k24, n24⟩, -, X24, ⟨Lc24, hQ24, l24, y24, z24⟩, st24⟩ := Jvm.LawKit.callS X23 hx (y := (⟨"java/lang/Double", "compare", "(DD)I"⟩ : MethodName)) hown (mvT hZ w27) (mvT hZ w28) (mvT hZ w29) (mvT hZ w30) (by decide) (backOf (W := 0) (own_b5 l Z a0 hw [] d1 d2  h0 n0 Z0 (hg) (hl)) hZ w30 w29 (by decide) (by decide)) (g := (mkF m 11 #[.val (.ref a1), .val (.int q1), .val (.double d1), .second, .val (.int q2), .val (.double d2), .second, .val (.int vic), .unset, .unset] [(.double d2), (.double d1)])) rfl (by rw [hml]; rfl) (argsL := [(.double d1), (.double d2)]) (rest := []) (lenOf own_pd1 rfl) rfl (by show 2 * 0 + _ ≤ _; exact Nat.le_of_eq rfl) (hb hby own_dprog_4_method_7_code_11) (fun _ _ => ⟨rfl, eh23, (by decide : 0 + 0 ≤ _), (by decide : 0 + 0 ≤ _)⟩)
  dsimp only [Pt.U, Pt.locs, Pt.cells, Pt.slots] at X24 l24 y24 z24 st24 hQ24
  subst l24 y24 z24
  obtain ⟨rfl, N24q, eh24⟩ := hQ24
  have N24 := Fr.app N23 N24q
  refine own_step st24 ?_
  show own_Goes p e below _ (T24.setTop (mkF m 14 #[.val (.ref a1), .val (.int q1), .val (.double d1), .second, .val (.int q2), .val (.double d2), .second, .val (.int vic), .unset, .unset] [(.int (1 : Int32))]))
  refine own_step (fun t k => XS.istore X24.here hx rfl (hb hby own_dprog_4_method_7_code_14) rfl (l' := #[.val (.ref a1), .val (.int q1), .val (.double d1), .second, .val (.int q2), .val (.double d2), .second, .val (.int vic), .val (.int (1 : Int32)), .unset]) rfl k) ?_
  show own_Goes p e below _ (T24.setTop (mkF m 16 #[.val (.ref a1), .val (.int q1), .val (.double d1), .second, .val (.int q2), .val (.double d2), .second, .val (.int vic), .val (.int (1 : Int32)), .unset] []))
  refine own_step (fun t k => XS.aloadN X24.here hx rfl (hb hby own_dprog_4_method_7_code_16) rfl rfl k) ?_
  show own_Goes p e below _ (T24.setTop (mkF m 17 #[.val (.ref a1), .val (.int q1), .val (.double d1), .second, .val (.int q2), .val (.double d2), .second, .val (.int vic), .val (.int (1 : Int32)), .unset] [(.ref a1)]))
  obtain ⟨cq25, kq25, q25a, q25b, q25c⟩ := isOf hZ eh24 E_a1
  obtain ⟨_, _, ⟨T25, L25, k25, n25⟩, -, X25, ⟨Lc25, hQ25, l25, y25, z25⟩, st25⟩ := X24.virtualBack hx (y := (⟨"com/example/waysmith/waysmith/evaluation/Objective", "vehiclesFirst", "()Z"⟩ : MethodName)) (z := (⟨"com/example/waysmith/waysmith/evaluation/Objective", "vehiclesFirst", "()Z"⟩ : MethodName)) hown (mvT hZ w31) (mvT hZ w4) (notFace_of_selects (args := #[]) (mvT hZ w6)) (mvT hZ w6) (mvT hZ w5) (by decide) (backOf (W := 0) (own_b1 l Z a0 hw [] a1 (w_FEWEST_VEHICLES) (r1) h0 n0 Z0 S_FEWEST_VEHICLES O0 (hr1)) hZ w7 w1 (by decide) (by decide)) q25a q25c (g := (mkF m 17 #[.val (.ref a1), .val (.int q1), .val (.double d1), .second, .val (.int q2), .val (.double d2), .second, .val (.int vic), .val (.int (1 : Int32)), .unset] [(.ref a1)])) rfl (by rw [hml]; rfl) (Steps.refl _) (argsL := []) (rest := []) (lenOf own_pd2 rfl) rfl (by show 2 * 0 + _ ≤ _; exact Nat.le_of_eq rfl) (hb hby own_dprog_4_method_7_code_17) (fun _ _ => ⟨rfl, eh24, (by decide : 0 + 0 ≤ _), (by decide : 0 + 0 ≤ _)⟩)
  dsimp only [Pt.U, Pt.locs, Pt.cells, Pt.slots] at X25 l25 y25 z25 st25 hQ25
  subst l25 y25 z25
  obtain ⟨rfl, N25q, eh25⟩ := hQ25
  have N25 := Fr.app N24 N25q
  refine own_jump st25 ?_
  show own_Goes p e below _ (T25.setTop (mkF m 20 #[.val (.ref a1), .val (.int q1), .val (.double d1), .second, .val (.int q2), .val (.double d2), .second, .val (.int vic), .val (.int (1 : Int32)), .unset] [(.int r1)]))
  refine own_step (S' := T25.setTop (mkF m 54 #[.val (.ref a1), .val (.int q1), .val (.double d1), .second, .val (.int q2), .val (.double d2), .second, .val (.int vic), .val (.int (1 : Int32)), .val (.int (if r1 = (0 : Int32) then (1 : Int32) else (if vic = (0 : Int32) then (1 : Int32) else vic)))] [])) (fun t k => ?_) ?_
  · show Steps p.tables e below (T25.setTop (mkF m 20 #[.val (.ref a1), .val (.int q1), .val (.double d1), .second, .val (.int q2), .val (.double d2), .second, .val (.int vic), .val (.int (1 : Int32)), .unset] [(.int r1)])) _
    by_cases hc26 : r1 = (0 : Int32)
    · --
      refine XS.ifYes X25.here hx rfl (pc0 := 20) (pc' := 40) rfl (hb hby own_dprog_4_method_7_code_20) rfl ((if0 _ _).trans (teq hc26).1) (by decide) (by decide) ?_
      show Steps p.tables e below (T25.setTop (mkF m 40 #[.val (.ref a1), .val (.int q1), .val (.double d1), .second, .val (.int q2), .val (.double d2), .second, .val (.int vic), .val (.int (1 : Int32)), .unset] [])) _
      refine XS.iload X25.here hx rfl (hb hby own_dprog_4_method_7_code_40) rfl ?_
      show Steps p.tables e below (T25.setTop (mkF m 42 #[.val (.ref a1), .val (.int q1), .val (.double d1), .second, .val (.int q2), .val (.double d2), .second, .val (.int vic), .val (.int (1 : Int32)), .unset] [(.int (1 : Int32))])) _
      have hc27 : ¬ ((1 : Int32) = (0 : Int32)) := by decide
      refine XS.ifNo X25.here hx rfl (hb hby own_dprog_4_method_7_code_42) rfl ((if0 _ _).trans (feq hc27).1) ?_
      show Steps p.tables e below (T25.setTop (mkF m 45 #[.val (.ref a1), .val (.int q1), .val (.double d1), .second, .val (.int q2), .val (.double d2), .second, .val (.int vic), .val (.int (1 : Int32)), .unset] [])) _
      refine XS.iload X25.here hx rfl (hb hby own_dprog_4_method_7_code_45) rfl ?_
      show Steps p.tables e below (T25.setTop (mkF m 47 #[.val (.ref a1), .val (.int q1), .val (.double d1), .second, .val (.int q2), .val (.double d2), .second, .val (.int vic), .val (.int (1 : Int32)), .unset] [(.int (1 : Int32))])) _
      refine XS.goto X25.here hx rfl (pc0 := 47) (pc' := 52) rfl (hb hby own_dprog_4_method_7_code_47) (by decide) (by decide) ?_
      show Steps p.tables e below (T25.setTop (mkF m 52 #[.val (.ref a1), .val (.int q1), .val (.double d1), .second, .val (.int q2), .val (.double d2), .second, .val (.int vic), .val (.int (1 : Int32)), .unset] [(.int (1 : Int32))])) _
      refine XS.istore X25.here hx rfl (hb hby own_dprog_4_method_7_code_52) rfl (l' := #[.val (.ref a1), .val (.int q1), .val (.double d1), .second, .val (.int q2), .val (.double d2), .second, .val (.int vic), .val (.int (1 : Int32)), .val (.int (1 : Int32))]) rfl ?_
      show Steps p.tables e below (T25.setTop (mkF m 54 #[.val (.ref a1), .val (.int q1), .val (.double d1), .second, .val (.int q2), .val (.double d2), .second, .val (.int vic), .val (.int (1 : Int32)), .val (.int (1 : Int32))] [])) _
      simp only [if_pos hc26] at k
      exact k
    · --
      refine XS.ifNo X25.here hx rfl (hb hby own_dprog_4_method_7_code_20) rfl ((if0 _ _).trans (feq hc26).1) ?_
      show Steps p.tables e below (T25.setTop (mkF m 23 #[.val (.ref a1), .val (.int q1), .val (.double d1), .second, .val (.int q2), .val (.double d2), .second, .val (.int vic), .val (.int (1 : Int32)), .unset] [])) _
      refine XS.iload X25.here hx rfl (hb hby own_dprog_4_method_7_code_23) rfl ?_
      show Steps p.tables e below (T25.setTop (mkF m 25 #[.val (.ref a1), .val (.int q1), .val (.double d1), .second, .val (.int q2), .val (.double d2), .second, .val (.int vic), .val (.int (1 : Int32)), .unset] [(.int vic)])) _
      by_cases hc28 : vic = (0 : Int32)
      · --
        refine XS.ifYes X25.here hx rfl (pc0 := 25) (pc' := 33) rfl (hb hby own_dprog_4_method_7_code_25) rfl ((if0 _ _).trans (teq hc28).1) (by decide) (by decide) ?_
        show Steps p.tables e below (T25.setTop (mkF m 33 #[.val (.ref a1), .val (.int q1), .val (.double d1), .second, .val (.int q2), .val (.double d2), .second, .val (.int vic), .val (.int (1 : Int32)), .unset] [])) _
        refine XS.iload X25.here hx rfl (hb hby own_dprog_4_method_7_code_33) rfl ?_
        show Steps p.tables e below (T25.setTop (mkF m 35 #[.val (.ref a1), .val (.int q1), .val (.double d1), .second, .val (.int q2), .val (.double d2), .second, .val (.int vic), .val (.int (1 : Int32)), .unset] [(.int (1 : Int32))])) _
        refine XS.istore X25.here hx rfl (hb hby own_dprog_4_method_7_code_35) rfl (l' := #[.val (.ref a1), .val (.int q1), .val (.double d1), .second, .val (.int q2), .val (.double d2), .second, .val (.int vic), .val (.int (1 : Int32)), .val (.int (1 : Int32))]) rfl ?_
        show Steps p.tables e below (T25.setTop (mkF m 37 #[.val (.ref a1), .val (.int q1), .val (.double d1), .second, .val (.int q2), .val (.double d2), .second, .val (.int vic), .val (.int (1 : Int32)), .val (.int (1 : Int32))] [])) _
        refine XS.goto X25.here hx rfl (pc0 := 37) (pc' := 54) rfl (hb hby own_dprog_4_method_7_code_37) (by decide) (by decide) ?_
        show Steps p.tables e below (T25.setTop (mkF m 54 #[.val (.ref a1), .val (.int q1), .val (.double d1), .second, .val (.int q2), .val (.double d2), .second, .val (.int vic), .val (.int (1 : Int32)), .val (.int (1 : Int32))] [])) _
        simp only [if_neg hc26, if_pos hc28] at k
        exact k
      · --
        refine XS.ifNo X25.here hx rfl (hb hby own_dprog_4_method_7_code_25) rfl ((if0 _ _).trans (feq hc28).1) ?_
        show Steps p.tables e below (T25.setTop (mkF m 28 #[.val (.ref a1), .val (.int q1), .val (.double d1), .second, .val (.int q2), .val (.double d2), .second, .val (.int vic), .val (.int (1 : Int32)), .unset] [])) _
        refine XS.iload X25.here hx rfl (hb hby own_dprog_4_method_7_code_28) rfl ?_
        show Steps p.tables e below (T25.setTop (mkF m 30 #[.val (.ref a1), .val (.int q1), .val (.double d1), .second, .val (.int q2), .val (.double d2), .second, .val (.int vic), .val (.int (1 : Int32)), .unset] [(.int vic)])) _
        refine XS.goto X25.here hx rfl (pc0 := 30) (pc' := 35) rfl (hb hby own_dprog_4_method_7_code_30) (by decide) (by decide) ?_
        show Steps p.tables e below (T25.setTop (mkF m 35 #[.val (.ref a1), .val (.int q1), .val (.double d1), .second, .val (.int q2), .val (.double d2), .second, .val (.int vic), .val (.int (1 : Int32)), .unset] [(.int vic)])) _
        refine XS.istore X25.here hx rfl (hb hby own_dprog_4_method_7_code_35) rfl (l' := #[.val (.ref a1), .val (.int q1), .val (.double d1), .second, .val (.int q2), .val (.double d2), .second, .val (.int vic), .val (.int (1 : Int32)), .val (.int vic)]) rfl ?_
        show Steps p.tables e below (T25.setTop (mkF m 37 #[.val (.ref a1), .val (.int q1), .val (.double d1), .second, .val (.int q2), .val (.double d2), .second, .val (.int vic), .val (.int (1 : Int32)), .val (.int vic)] [])) _
        refine XS.goto X25.here hx rfl (pc0 := 37) (pc' := 54) rfl (hb hby own_dprog_4_method_7_code_37) (by decide) (by decide) ?_
        show Steps p.tables e below (T25.setTop (mkF m 54 #[.val (.ref a1), .val (.int q1), .val (.double d1), .second, .val (.int q2), .val (.double d2), .second, .val (.int vic), .val (.int (1 : Int32)), .val (.int vic)] [])) _
        simp only [if_neg hc26, if_neg hc28] at k
        exact k
  show own_Goes p e below _ (T25.setTop (mkF m 54 #[.val (.ref a1), .val (.int q1), .val (.double d1), .second, .val (.int q2), .val (.double d2), .second, .val (.int vic), .val (.int (1 : Int32)), .val (.int (if r1 = (0 : Int32) then (1 : Int32) else (if vic = (0 : Int32) then (1 : Int32) else vic)))] []))
  refine own_step (fun t k => XS.iload X25.here hx rfl (hb hby own_dprog_4_method_7_code_54) rfl k) ?_
  show own_Goes p e below _ (T25.setTop (mkF m 56 #[.val (.ref a1), .val (.int q1), .val (.double d1), .second, .val (.int q2), .val (.double d2), .second, .val (.int vic), .val (.int (1 : Int32)), .val (.int (if r1 = (0 : Int32) then (1 : Int32) else (if vic = (0 : Int32) then (1 : Int32) else vic)))] [(.int (if r1 = (0 : Int32) then (1 : Int32) else (if vic = (0 : Int32) then (1 : Int32) else vic)))]))
  refine own_retV X25 hx hlk Bd.returns (w := (.int (if r1 = (0 : Int32) then (1 : Int32) else (if vic = (0 : Int32) then (1 : Int32) else vic)))) rfl (Or.inl ⟨rfl, Or.inl rfl, _, rfl⟩) (hb hby own_dprog_4_method_7_code_56) ?_ (by decide) (by decide)
  show own_b6_Q Z a1 q1 d1 q2 d2 w_FEWEST_VEHICLES r1 h0 n0 _ T25.heap _
  rw [eh25]
  exact ⟨(by subst hv_vic; rfl), N25, rfl⟩
theorem own_pn3 : plainName "com/example/waysmith/waysmith/evaluation/ObjectiveVehiclesFirstPinLaw" = true := by first | (simp [plainName, overriddenIn]; done) | decide +kernel
theorem own_pd3 : parseMethodDescriptor "(IDID)I" = some ⟨[.int, .double, .int, .double], some .int⟩ := by decide +kernel
theorem own_law_ef (m : MethodId) (p0 : Int32) (p1 : Int32) (p2 : Int32) (p3 : Int32) (p4 : Int32) : entryFrame m #[(.int p0), (.int p1), (.int p2), (.int p3), (.int p4)] maxLocals = mkF m 0 #[.val (.int p0), .val (.int p1), .val (.int p2), .val (.int p3), .val (.int p4), .unset, .unset, .unset, .unset, .unset, .unset, .unset, .unset, .unset, .unset, .unset, .unset, .unset, .unset] [] := by first | (simp [entryFrame, mkF, argsToLocals, Value.category, maxLocals]; done) | rfl
set_option maxRecDepth 65536 in
set_option maxHeartbeats 40000000 in
theorem own_law (l : Launch) (Z : State) (a0 : Array Value) (hw : ∀ d ∈ tables_1, d.before a0 Z = true) (ws : List Jvm.Cond) (p0 : Int32) (p1 : Int32) (p2 : Int32) (p3 : Int32) (p4 : Int32) (w_FEWEST_VEHICLES : Addr) (w_SHORTEST_DISTANCE : Addr) (h0 : Heap) (n0 : Nat) (Z0 : n0 ≤ h0.size) (S_FEWEST_VEHICLES : Sta Z Z.heap "com/example/waysmith/waysmith/evaluation/Objective" "FEWEST_VEHICLES" "Lcom/example/waysmith/waysmith/evaluation/Objective;" (.ref w_FEWEST_VEHICLES)) (S_SHORTEST_DISTANCE : Sta Z Z.heap "com/example/waysmith/waysmith/evaluation/Objective" "SHORTEST_DISTANCE" "Lcom/example/waysmith/waysmith/evaluation/Objective;" (.ref w_SHORTEST_DISTANCE)) (O0 : Old Z n0 h0) (E_w_FEWEST_VEHICLES : Exa Z h0 w_FEWEST_VEHICLES "com/example/waysmith/waysmith/evaluation/Objective") (E_w_SHORTEST_DISTANCE : Exa Z h0 w_SHORTEST_DISTANCE "com/example/waysmith/waysmith/evaluation/Objective") (hSF : ¬ w_SHORTEST_DISTANCE = w_FEWEST_VEHICLES) :
    MetFree l x (head1 (Jvm.Cond.code x code maxLocals ret :: ws) room_1) (fun aa U => aa = #[(.int p0), (.int p1), (.int p2), (.int p3), (.int p4)] ∧ Z.Warmed39 U.vm ∧ U.heap = h0) (fun _ _ _ _ _ => True) (fun _ U o U' => ∃ v L, o = .returned v ∧ own_Q0 n0 v U'.heap L ∧ FrameEnd U o U' L 0 0) := by
  refine MetFree.of_bodySF (plainFor_of_name own_pn3) hisR ?_
  have w0 := hw _ (List.mem_of_getElem? (i := 0) rfl)
  have w1 := hw _ (List.mem_of_getElem? (i := 1) rfl)
  have w3 := hw _ (List.mem_of_getElem? (i := 3) rfl)
  have w4 := hw _ (List.mem_of_getElem? (i := 4) rfl)
  have w5 := hw _ (List.mem_of_getElem? (i := 5) rfl)
  have w6 := hw _ (List.mem_of_getElem? (i := 6) rfl)
  have w7 := hw _ (List.mem_of_getElem? (i := 7) rfl)
  have w10 := hw _ (List.mem_of_getElem? (i := 10) rfl)
  have w11 := hw _ (List.mem_of_getElem? (i := 11) rfl)
  have w12 := hw _ (List.mem_of_getElem? (i := 12) rfl)
  have w13 := hw _ (List.mem_of_getElem? (i := 13) rfl)
  have w14 := hw _ (List.mem_of_getElem? (i := 14) rfl)
  have w15 := hw _ (List.mem_of_getElem? (i := 15) rfl)
  have w16 := hw _ (List.mem_of_getElem? (i := 16) rfl)
  have w17 := hw _ (List.mem_of_getElem? (i := 17) rfl)
  have w18 := hw _ (List.mem_of_getElem? (i := 18) rfl)
  have w19 := hw _ (List.mem_of_getElem? (i := 19) rfl)
  have w20 := hw _ (List.mem_of_getElem? (i := 20) rfl)
  have w21 := hw _ (List.mem_of_getElem? (i := 21) rfl)
  have w22 := hw _ (List.mem_of_getElem? (i := 22) rfl)
  have w32 := hw _ (List.mem_of_getElem? (i := 32) rfl)
  intro p e s m args below meth c s₁ Bd hml0 hP hK
  obtain ⟨rfl, hZ, hh⟩ := hP
  have hx := Bd.exec
  have hby := Bd.bytes
  have hlk := Bd.notSynchronized
  have hml : c.maxLocals = 19 := hml0
  have hown : s.vm.findClass "com/example/waysmith/waysmith/evaluation/ObjectiveVehiclesFirstPinLaw" = some m.cls := findClass_of_methodNamed Bd.named
  have hnm := (name_of_methodNamed Bd.named Bd.method).1
  have X0 : Stand p l e room_1 s m #[(.int p0), (.int p1), (.int p2), (.int p3), (.int p4)] below meth c s₁ [] 0 0 := Stand.of_body Bd
  have e0 : s₁.heap = h0 := by rw [← hh, Bd.state]; rfl
  have N0 := Fr.nil n0
  have K0 : Keep h0 h0 [] := Keep.refl h0 _
  show own_Goes p e below (own_Fin s (own_Q0 n0) 0 0) _
  refine own_step (fun t k => castTop (own_law_ef m p0 p1 p2 p3 p4) k) ?_
  show own_Goes p e below _ (s₁.setTop (mkF m 0 #[.val (.int p0), .val (.int p1), .val (.int p2), .val (.int p3), .val (.int p4), .unset, .unset, .unset, .unset, .unset, .unset, .unset, .unset, .unset, .unset, .unset, .unset, .unset, .unset] []))
  refine own_step (fun t k => XS.iloadN X0.here hx rfl (hb hby at_0) rfl k) ?_
  show own_Goes p e below _ (s₁.setTop (mkF m 1 #[.val (.int p0), .val (.int p1), .val (.int p2), .val (.int p3), .val (.int p4), .unset, .unset, .unset, .unset, .unset, .unset, .unset, .unset, .unset, .unset, .unset, .unset, .unset, .unset] [(.int p0)]))
  refine own_step (fun t k => XS.iconst X0.here hx rfl (hb hby at_1) k) ?_
  show own_Goes p e below _ (s₁.setTop (mkF m 2 #[.val (.int p0), .val (.int p1), .val (.int p2), .val (.int p3), .val (.int p4), .unset, .unset, .unset, .unset, .unset, .unset, .unset, .unset, .unset, .unset, .unset, .unset, .unset, .unset] [(.int (1 : Int32)), (.int p0)]))
  refine own_step (fun t k => XS.iand X0.here hx rfl (hb hby at_2) rfl k) ?_
  show own_Goes p e below _ (s₁.setTop (mkF m 3 #[.val (.int p0), .val (.int p1), .val (.int p2), .val (.int p3), .val (.int p4), .unset, .unset, .unset, .unset, .unset, .unset, .unset, .unset, .unset, .unset, .unset, .unset, .unset, .unset] [(.int (p0 &&& (1 : Int32)))]))
  refine own_step (S' := s₁.setTop (mkF m 11 #[.val (.int p0), .val (.int p1), .val (.int p2), .val (.int p3), .val (.int p4), .unset, .unset, .unset, .unset, .unset, .unset, .unset, .unset, .unset, .unset, .unset, .unset, .unset, .unset] [(.int (if (p0 &&& (1 : Int32)) = (0 : Int32) then (0 : Int32) else (1 : Int32)))])) (fun t k => ?_) ?_
  · show Steps p.tables e below (s₁.setTop (mkF m 3 #[.val (.int p0), .val (.int p1), .val (.int p2), .val (.int p3), .val (.int p4), .unset, .unset, .unset, .unset, .unset, .unset, .unset, .unset, .unset, .unset, .unset, .unset, .unset, .unset] [(.int (p0 &&& (1 : Int32)))])) _
    by_cases hc29 : (p0 &&& (1 : Int32)) = (0 : Int32)
    · --
      refine XS.ifYes X0.here hx rfl (pc0 := 3) (pc' := 10) rfl (hb hby at_3) rfl ((if0 _ _).trans (teq hc29).1) (by decide) (by decide) ?_
      show Steps p.tables e below (s₁.setTop (mkF m 10 #[.val (.int p0), .val (.int p1), .val (.int p2), .val (.int p3), .val (.int p4), .unset, .unset, .unset, .unset, .unset, .unset, .unset, .unset, .unset, .unset, .unset, .unset, .unset, .unset] [])) _
      refine XS.iconst X0.here hx rfl (hb hby at_10) ?_
      show Steps p.tables e below (s₁.setTop (mkF m 11 #[.val (.int p0), .val (.int p1), .val (.int p2), .val (.int p3), .val (.int p4), .unset, .unset, .unset, .unset, .unset, .unset, .unset, .unset, .unset, .unset, .unset, .unset, .unset, .unset] [(.int (0 : Int32))])) _
      simp only [if_pos hc29] at k
      exact k
    · --
      refine XS.ifNo X0.here hx rfl (hb hby at_3) rfl ((if0 _ _).trans (feq hc29).1) ?_
      show Steps p.tables e below (s₁.setTop (mkF m 6 #[.val (.int p0), .val (.int p1), .val (.int p2), .val (.int p3), .val (.int p4), .unset, .unset, .unset, .unset, .unset, .unset, .unset, .unset, .unset, .unset, .unset, .unset, .unset, .unset] [])) _
      refine XS.iconst X0.here hx rfl (hb hby at_6) ?_
      show Steps p.tables e below (s₁.setTop (mkF m 7 #[.val (.int p0), .val (.int p1), .val (.int p2), .val (.int p3), .val (.int p4), .unset, .unset, .unset, .unset, .unset, .unset, .unset, .unset, .unset, .unset, .unset, .unset, .unset, .unset] [(.int (1 : Int32))])) _
      refine XS.goto X0.here hx rfl (pc0 := 7) (pc' := 11) rfl (hb hby at_7) (by decide) (by decide) ?_
      show Steps p.tables e below (s₁.setTop (mkF m 11 #[.val (.int p0), .val (.int p1), .val (.int p2), .val (.int p3), .val (.int p4), .unset, .unset, .unset, .unset, .unset, .unset, .unset, .unset, .unset, .unset, .unset, .unset, .unset, .unset] [(.int (1 : Int32))])) _
      simp only [if_neg hc29] at k
      exact k
  show own_Goes p e below _ (s₁.setTop (mkF m 11 #[.val (.int p0), .val (.int p1), .val (.int p2), .val (.int p3), .val (.int p4), .unset, .unset, .unset, .unset, .unset, .unset, .unset, .unset, .unset, .unset, .unset, .unset, .unset, .unset] [(.int (if (p0 &&& (1 : Int32)) = (0 : Int32) then (0 : Int32) else (1 : Int32)))]))
  refine own_step (fun t k => XS.istore X0.here hx rfl (hb hby at_11) rfl (l' := #[.val (.int p0), .val (.int p1), .val (.int p2), .val (.int p3), .val (.int p4), .val (.int (if (p0 &&& (1 : Int32)) = (0 : Int32) then (0 : Int32) else (1 : Int32))), .unset, .unset, .unset, .unset, .unset, .unset, .unset, .unset, .unset, .unset, .unset, .unset, .unset]) rfl k) ?_
  show own_Goes p e below _ (s₁.setTop (mkF m 13 #[.val (.int p0), .val (.int p1), .val (.int p2), .val (.int p3), .val (.int p4), .val (.int (if (p0 &&& (1 : Int32)) = (0 : Int32) then (0 : Int32) else (1 : Int32))), .unset, .unset, .unset, .unset, .unset, .unset, .unset, .unset, .unset, .unset, .unset, .unset, .unset] []))
  generalize hv_vi : (if (p0 &&& (1 : Int32)) = (0 : Int32) then (0 : Int32) else (1 : Int32)) = vi
  have hvi : vi = (0 : Int32) ∨ vi = (1 : Int32) := own_cases hv_vi
  clear hv_vi
  rcases hvi with rfl | rfl
  · --
    show own_Goes p e below _ (s₁.setTop (mkF m 13 #[.val (.int p0), .val (.int p1), .val (.int p2), .val (.int p3), .val (.int p4), .val (.int (0 : Int32)), .unset, .unset, .unset, .unset, .unset, .unset, .unset, .unset, .unset, .unset, .unset, .unset, .unset] []))
    refine own_step (fun t k => XS.iload X0.here hx rfl (hb hby at_13) rfl k) ?_
    show own_Goes p e below _ (s₁.setTop (mkF m 15 #[.val (.int p0), .val (.int p1), .val (.int p2), .val (.int p3), .val (.int p4), .val (.int (0 : Int32)), .unset, .unset, .unset, .unset, .unset, .unset, .unset, .unset, .unset, .unset, .unset, .unset, .unset] [(.int (0 : Int32))]))
    have hc30 : (0 : Int32) = (0 : Int32) := rfl
    refine own_step (fun t k => XS.ifYes X0.here hx rfl (pc0 := 15) (pc' := 24) rfl (hb hby at_15) rfl ((if0 _ _).trans (teq hc30).1) (by decide) (by decide) k) ?_
    show own_Goes p e below _ (s₁.setTop (mkF m 24 #[.val (.int p0), .val (.int p1), .val (.int p2), .val (.int p3), .val (.int p4), .val (.int (0 : Int32)), .unset, .unset, .unset, .unset, .unset, .unset, .unset, .unset, .unset, .unset, .unset, .unset, .unset] []))
    obtain ⟨T31, X31, e31, st31⟩ := getS2 X0 hx hZ hown (host := "") (Or.inl w0) Via.refl e0 (S_SHORTEST_DISTANCE.ext O0.2) (g := (mkF m 24 #[.val (.int p0), .val (.int p1), .val (.int p2), .val (.int p3), .val (.int p4), .val (.int (0 : Int32)), .unset, .unset, .unset, .unset, .unset, .unset, .unset, .unset, .unset, .unset, .unset, .unset, .unset] [])) rfl (hb hby at_24)
    refine own_step st31 ?_
    show own_Goes p e below _ (T31.setTop (mkF m 27 #[.val (.int p0), .val (.int p1), .val (.int p2), .val (.int p3), .val (.int p4), .val (.int (0 : Int32)), .unset, .unset, .unset, .unset, .unset, .unset, .unset, .unset, .unset, .unset, .unset, .unset, .unset] [(.ref w_SHORTEST_DISTANCE)]))
    refine own_step (fun t k => XS.astore X31.here hx rfl (hb hby at_27) rfl rfl (l' := #[.val (.int p0), .val (.int p1), .val (.int p2), .val (.int p3), .val (.int p4), .val (.int (0 : Int32)), .val (.ref w_SHORTEST_DISTANCE), .unset, .unset, .unset, .unset, .unset, .unset, .unset, .unset, .unset, .unset, .unset, .unset]) rfl k) ?_
    show own_Goes p e below _ (T31.setTop (mkF m 29 #[.val (.int p0), .val (.int p1), .val (.int p2), .val (.int p3), .val (.int p4), .val (.int (0 : Int32)), .val (.ref w_SHORTEST_DISTANCE), .unset, .unset, .unset, .unset, .unset, .unset, .unset, .unset, .unset, .unset, .unset, .unset] []))
    refine own_step (fun t k => XS.aload X31.here hx rfl (hb hby at_29) rfl rfl k) ?_
    show own_Goes p e below _ (T31.setTop (mkF m 31 #[.val (.int p0), .val (.int p1), .val (.int p2), .val (.int p3), .val (.int p4), .val (.int (0 : Int32)), .val (.ref w_SHORTEST_DISTANCE), .unset, .unset, .unset, .unset, .unset, .unset, .unset, .unset, .unset, .unset, .unset, .unset] [(.ref w_SHORTEST_DISTANCE)]))
    obtain ⟨cq32, kq32, q32a, q32b, q32c⟩ := isOf hZ e31 E_w_SHORTEST_DISTANCE
    obtain ⟨_, _, ⟨T32, L32, k32, n32⟩, -, X32, ⟨Lc32, hQ32, l32, y32, z32⟩, st32⟩ := X31.virtualBack hx (y := (⟨"com/example/waysmith/waysmith/evaluation/Objective", "vehiclesFirst", "()Z"⟩ : MethodName)) (z := (⟨"com/example/waysmith/waysmith/evaluation/Objective", "vehiclesFirst", "()Z"⟩ : MethodName)) hown (mvT hZ w3) (mvT hZ w4) (notFace_of_selects (args := #[]) (mvT hZ w6)) (mvT hZ w6) (mvT hZ w5) (by decide) (backOf (W := 0) (own_b1 l Z a0 hw [] w_SHORTEST_DISTANCE (w_FEWEST_VEHICLES) ((0 : Int32)) h0 n0 Z0 S_FEWEST_VEHICLES O0 (if_neg hSF)) hZ w7 w1 (by decide) (by decide)) q32a q32c (g := (mkF m 31 #[.val (.int p0), .val (.int p1), .val (.int p2), .val (.int p3), .val (.int p4), .val (.int (0 : Int32)), .val (.ref w_SHORTEST_DISTANCE), .unset, .unset, .unset, .unset, .unset, .unset, .unset, .unset, .unset, .unset, .unset, .unset] [(.ref w_SHORTEST_DISTANCE)])) rfl (by rw [hml]; rfl) (Steps.refl _) (argsL := []) (rest := []) (lenOf own_pd2 rfl) rfl (by show 2 * 0 + _ ≤ _; exact Nat.le_of_eq rfl) (hb hby at_31) (fun _ _ => ⟨rfl, e31, (by decide : 0 + 0 ≤ _), (by decide : 0 + 0 ≤ _)⟩)
    dsimp only [Pt.U, Pt.locs, Pt.cells, Pt.slots] at X32 l32 y32 z32 st32 hQ32
    subst l32 y32 z32
    obtain ⟨rfl, N32q, eh32⟩ := hQ32
    have N32 := Fr.app N0 N32q
    refine own_jump st32 ?_
    show own_Goes p e below _ (T32.setTop (mkF m 34 #[.val (.int p0), .val (.int p1), .val (.int p2), .val (.int p3), .val (.int p4), .val (.int (0 : Int32)), .val (.ref w_SHORTEST_DISTANCE), .unset, .unset, .unset, .unset, .unset, .unset, .unset, .unset, .unset, .unset, .unset, .unset] [(.int (0 : Int32))]))
    refine own_step (fun t k => XS.istore X32.here hx rfl (hb hby at_34) rfl (l' := #[.val (.int p0), .val (.int p1), .val (.int p2), .val (.int p3), .val (.int p4), .val (.int (0 : Int32)), .val (.ref w_SHORTEST_DISTANCE), .val (.int (0 : Int32)), .unset, .unset, .unset, .unset, .unset, .unset, .unset, .unset, .unset, .unset, .unset]) rfl k) ?_
    show own_Goes p e below _ (T32.setTop (mkF m 36 #[.val (.int p0), .val (.int p1), .val (.int p2), .val (.int p3), .val (.int p4), .val (.int (0 : Int32)), .val (.ref w_SHORTEST_DISTANCE), .val (.int (0 : Int32)), .unset, .unset, .unset, .unset, .unset, .unset, .unset, .unset, .unset, .unset, .unset] []))
    refine own_step (fun t k => XS.iload X32.here hx rfl (hb hby at_36) rfl k) ?_
    show own_Goes p e below _ (T32.setTop (mkF m 38 #[.val (.int p0), .val (.int p1), .val (.int p2), .val (.int p3), .val (.int p4), .val (.int (0 : Int32)), .val (.ref w_SHORTEST_DISTANCE), .val (.int (0 : Int32)), .unset, .unset, .unset, .unset, .unset, .unset, .unset, .unset, .unset, .unset, .unset] [(.int (0 : Int32))]))
    refine own_step (fun t k => XS.iload X32.here hx rfl (hb hby at_38) rfl k) ?_
    show own_Goes p e below _ (T32.setTop (mkF m 40 #[.val (.int p0), .val (.int p1), .val (.int p2), .val (.int p3), .val (.int p4), .val (.int (0 : Int32)), .val (.ref w_SHORTEST_DISTANCE), .val (.int (0 : Int32)), .unset, .unset, .unset, .unset, .unset, .unset, .unset, .unset, .unset, .unset, .unset] [(.int (0 : Int32)), (.int (0 : Int32))]))
    have hc33 : (0 : Int32) = (0 : Int32) := rfl
    refine own_step (fun t k => XS.icmpNo X32.here hx rfl (hb hby at_40) rfl (teq hc33).2 k) ?_
    show own_Goes p e below _ (T32.setTop (mkF m 43 #[.val (.int p0), .val (.int p1), .val (.int p2), .val (.int p3), .val (.int p4), .val (.int (0 : Int32)), .val (.ref w_SHORTEST_DISTANCE), .val (.int (0 : Int32)), .unset, .unset, .unset, .unset, .unset, .unset, .unset, .unset, .unset, .unset, .unset] []))
    refine own_step (fun t k => XS.iconst X32.here hx rfl (hb hby at_43) k) ?_
    show own_Goes p e below _ (T32.setTop (mkF m 44 #[.val (.int p0), .val (.int p1), .val (.int p2), .val (.int p3), .val (.int p4), .val (.int (0 : Int32)), .val (.ref w_SHORTEST_DISTANCE), .val (.int (0 : Int32)), .unset, .unset, .unset, .unset, .unset, .unset, .unset, .unset, .unset, .unset, .unset] [(.int (1 : Int32))]))
    refine own_step (fun t k => XS.goto X32.here hx rfl (pc0 := 44) (pc' := 48) rfl (hb hby at_44) (by decide) (by decide) k) ?_
    show own_Goes p e below _ (T32.setTop (mkF m 48 #[.val (.int p0), .val (.int p1), .val (.int p2), .val (.int p3), .val (.int p4), .val (.int (0 : Int32)), .val (.ref w_SHORTEST_DISTANCE), .val (.int (0 : Int32)), .unset, .unset, .unset, .unset, .unset, .unset, .unset, .unset, .unset, .unset, .unset] [(.int (1 : Int32))]))
    refine own_step (fun t k => XS.istore X32.here hx rfl (hb hby at_48) rfl (l' := #[.val (.int p0), .val (.int p1), .val (.int p2), .val (.int p3), .val (.int p4), .val (.int (0 : Int32)), .val (.ref w_SHORTEST_DISTANCE), .val (.int (0 : Int32)), .val (.int (1 : Int32)), .unset, .unset, .unset, .unset, .unset, .unset, .unset, .unset, .unset, .unset]) rfl k) ?_
    show own_Goes p e below _ (T32.setTop (mkF m 50 #[.val (.int p0), .val (.int p1), .val (.int p2), .val (.int p3), .val (.int p4), .val (.int (0 : Int32)), .val (.ref w_SHORTEST_DISTANCE), .val (.int (0 : Int32)), .val (.int (1 : Int32)), .unset, .unset, .unset, .unset, .unset, .unset, .unset, .unset, .unset, .unset] []))
    refine own_step (fun t k => XS.iloadN X32.here hx rfl (hb hby at_50) rfl k) ?_
    show own_Goes p e below _ (T32.setTop (mkF m 51 #[.val (.int p0), .val (.int p1), .val (.int p2), .val (.int p3), .val (.int p4), .val (.int (0 : Int32)), .val (.ref w_SHORTEST_DISTANCE), .val (.int (0 : Int32)), .val (.int (1 : Int32)), .unset, .unset, .unset, .unset, .unset, .unset, .unset, .unset, .unset, .unset] [(.int p1)]))
    refine own_step (fun t k => XS.iloadN X32.here hx rfl (hb hby at_51) rfl k) ?_
    show own_Goes p e below _ (T32.setTop (mkF m 52 #[.val (.int p0), .val (.int p1), .val (.int p2), .val (.int p3), .val (.int p4), .val (.int (0 : Int32)), .val (.ref w_SHORTEST_DISTANCE), .val (.int (0 : Int32)), .val (.int (1 : Int32)), .unset, .unset, .unset, .unset, .unset, .unset, .unset, .unset, .unset, .unset] [(.int p2), (.int p1)]))
    obtain ⟨_, _, ⟨T34, L34, k34, n34⟩, -, X34, ⟨Lc34, hQ34, l34, y34, z34⟩, st34⟩ := Jvm.LawKit.callS X32 hx (y := (⟨"java/lang/Math", "min", "(II)I"⟩ : MethodName)) hown (mvT hZ w10) (mvT hZ w11) (mvT hZ w12) (mvT hZ w13) (by decide) (backOf (W := 0) (own_b2 l Z a0 hw [] p1 p2  h0 n0 Z0 ) hZ w13 w12 (by decide) (by decide)) (g := (mkF m 52 #[.val (.int p0), .val (.int p1), .val (.int p2), .val (.int p3), .val (.int p4), .val (.int (0 : Int32)), .val (.ref w_SHORTEST_DISTANCE), .val (.int (0 : Int32)), .val (.int (1 : Int32)), .unset, .unset, .unset, .unset, .unset, .unset, .unset, .unset, .unset, .unset] [(.int p2), (.int p1)])) rfl (by rw [hml]; rfl) (argsL := [(.int p1), (.int p2)]) (rest := []) (lenOf own_pd0 rfl) rfl (by show 2 * 0 + _ ≤ _; exact Nat.le_of_eq rfl) (hb hby at_52) (fun _ _ => ⟨rfl, eh32, (by decide : 0 + 0 ≤ _), (by decide : 0 + 0 ≤ _)⟩)
    dsimp only [Pt.U, Pt.locs, Pt.cells, Pt.slots] at X34 l34 y34 z34 st34 hQ34
    subst l34 y34 z34
    obtain ⟨rfl, N34q, eh34⟩ := hQ34
    have N34 := Fr.app N32 N34q
    refine own_step st34 ?_
    show own_Goes p e below _ (T34.setTop (mkF m 55 #[.val (.int p0), .val (.int p1), .val (.int p2), .val (.int p3), .val (.int p4), .val (.int (0 : Int32)), .val (.ref w_SHORTEST_DISTANCE), .val (.int (0 : Int32)), .val (.int (1 : Int32)), .unset, .unset, .unset, .unset, .unset, .unset, .unset, .unset, .unset, .unset] [(.int (if p2 < p1 then p2 else p1))]))
    generalize hv_v1 : (if p2 < p1 then p2 else p1) = v1
    refine own_step (fun t k => XS.istore X34.here hx rfl (hb hby at_55) rfl (l' := #[.val (.int p0), .val (.int p1), .val (.int p2), .val (.int p3), .val (.int p4), .val (.int (0 : Int32)), .val (.ref w_SHORTEST_DISTANCE), .val (.int (0 : Int32)), .val (.int (1 : Int32)), .val (.int v1), .unset, .unset, .unset, .unset, .unset, .unset, .unset, .unset, .unset]) rfl k) ?_
    show own_Goes p e below _ (T34.setTop (mkF m 57 #[.val (.int p0), .val (.int p1), .val (.int p2), .val (.int p3), .val (.int p4), .val (.int (0 : Int32)), .val (.ref w_SHORTEST_DISTANCE), .val (.int (0 : Int32)), .val (.int (1 : Int32)), .val (.int v1), .unset, .unset, .unset, .unset, .unset, .unset, .unset, .unset, .unset] []))
    refine own_step (fun t k => XS.iloadN X34.here hx rfl (hb hby at_57) rfl k) ?_
    show own_Goes p e below _ (T34.setTop (mkF m 58 #[.val (.int p0), .val (.int p1), .val (.int p2), .val (.int p3), .val (.int p4), .val (.int (0 : Int32)), .val (.ref w_SHORTEST_DISTANCE), .val (.int (0 : Int32)), .val (.int (1 : Int32)), .val (.int v1), .unset, .unset, .unset, .unset, .unset, .unset, .unset, .unset, .unset] [(.int p1)]))
    refine own_step (fun t k => XS.iloadN X34.here hx rfl (hb hby at_58) rfl k) ?_
    show own_Goes p e below _ (T34.setTop (mkF m 59 #[.val (.int p0), .val (.int p1), .val (.int p2), .val (.int p3), .val (.int p4), .val (.int (0 : Int32)), .val (.ref w_SHORTEST_DISTANCE), .val (.int (0 : Int32)), .val (.int (1 : Int32)), .val (.int v1), .unset, .unset, .unset, .unset, .unset, .unset, .unset, .unset, .unset] [(.int p2), (.int p1)]))
    obtain ⟨_, _, ⟨T35, L35, k35, n35⟩, -, X35, ⟨Lc35, hQ35, l35, y35, z35⟩, st35⟩ := Jvm.LawKit.callS X34 hx (y := (⟨"java/lang/Math", "max", "(II)I"⟩ : MethodName)) hown (mvT hZ w14) (mvT hZ w15) (mvT hZ w12) (mvT hZ w16) (by decide) (backOf (W := 0) (own_b3 l Z a0 hw [] p1 p2  h0 n0 Z0 ) hZ w16 w12 (by decide) (by decide)) (g := (mkF m 59 #[.val (.int p0), .val (.int p1), .val (.int p2), .val (.int p3), .val (.int p4), .val (.int (0 : Int32)), .val (.ref w_SHORTEST_DISTANCE), .val (.int (0 : Int32)), .val (.int (1 : Int32)), .val (.int v1), .unset, .unset, .unset, .unset, .unset, .unset, .unset, .unset, .unset] [(.int p2), (.int p1)])) rfl (by rw [hml]; rfl) (argsL := [(.int p1), (.int p2)]) (rest := []) (lenOf own_pd0 rfl) rfl (by show 2 * 0 + _ ≤ _; exact Nat.le_of_eq rfl) (hb hby at_59) (fun _ _ => ⟨rfl, eh34, (by decide : 0 + 0 ≤ _), (by decide : 0 + 0 ≤ _)⟩)
    dsimp only [Pt.U, Pt.locs, Pt.cells, Pt.slots] at X35 l35 y35 z35 st35 hQ35
    subst l35 y35 z35
    obtain ⟨rfl, N35q, eh35⟩ := hQ35
    have N35 := Fr.app N34 N35q
    refine own_step st35 ?_
    show own_Goes p e below _ (T35.setTop (mkF m 62 #[.val (.int p0), .val (.int p1), .val (.int p2), .val (.int p3), .val (.int p4), .val (.int (0 : Int32)), .val (.ref w_SHORTEST_DISTANCE), .val (.int (0 : Int32)), .val (.int (1 : Int32)), .val (.int v1), .unset, .unset, .unset, .unset, .unset, .unset, .unset, .unset, .unset] [(.int (if p1 < p2 then p2 else p1))]))
    generalize hv_v2 : (if p1 < p2 then p2 else p1) = v2
    refine own_step (fun t k => XS.istore X35.here hx rfl (hb hby at_62) rfl (l' := #[.val (.int p0), .val (.int p1), .val (.int p2), .val (.int p3), .val (.int p4), .val (.int (0 : Int32)), .val (.ref w_SHORTEST_DISTANCE), .val (.int (0 : Int32)), .val (.int (1 : Int32)), .val (.int v1), .val (.int v2), .unset, .unset, .unset, .unset, .unset, .unset, .unset, .unset]) rfl k) ?_
    show own_Goes p e below _ (T35.setTop (mkF m 64 #[.val (.int p0), .val (.int p1), .val (.int p2), .val (.int p3), .val (.int p4), .val (.int (0 : Int32)), .val (.ref w_SHORTEST_DISTANCE), .val (.int (0 : Int32)), .val (.int (1 : Int32)), .val (.int v1), .val (.int v2), .unset, .unset, .unset, .unset, .unset, .unset, .unset, .unset] []))
    refine own_step (fun t k => XS.iloadN X35.here hx rfl (hb hby at_64) rfl k) ?_
    show own_Goes p e below _ (T35.setTop (mkF m 65 #[.val (.int p0), .val (.int p1), .val (.int p2), .val (.int p3), .val (.int p4), .val (.int (0 : Int32)), .val (.ref w_SHORTEST_DISTANCE), .val (.int (0 : Int32)), .val (.int (1 : Int32)), .val (.int v1), .val (.int v2), .unset, .unset, .unset, .unset, .unset, .unset, .unset, .unset] [(.int p3)]))
    refine own_step (fun t k => X35.ldcInt hx hown (mvT hZ w17) (g := (mkF m 65 #[.val (.int p0), .val (.int p1), .val (.int p2), .val (.int p3), .val (.int p4), .val (.int (0 : Int32)), .val (.ref w_SHORTEST_DISTANCE), .val (.int (0 : Int32)), .val (.int (1 : Int32)), .val (.int v1), .val (.int v2), .unset, .unset, .unset, .unset, .unset, .unset, .unset, .unset] [(.int p3)])) rfl (hb hby at_65) _ k) ?_
    show own_Goes p e below _ (T35.setTop (mkF m 67 #[.val (.int p0), .val (.int p1), .val (.int p2), .val (.int p3), .val (.int p4), .val (.int (0 : Int32)), .val (.ref w_SHORTEST_DISTANCE), .val (.int (0 : Int32)), .val (.int (1 : Int32)), .val (.int v1), .val (.int v2), .unset, .unset, .unset, .unset, .unset, .unset, .unset, .unset] [(.int (65535 : Int32)), (.int p3)]))
    refine own_step (fun t k => XS.iand X35.here hx rfl (hb hby at_67) rfl k) ?_
    show own_Goes p e below _ (T35.setTop (mkF m 68 #[.val (.int p0), .val (.int p1), .val (.int p2), .val (.int p3), .val (.int p4), .val (.int (0 : Int32)), .val (.ref w_SHORTEST_DISTANCE), .val (.int (0 : Int32)), .val (.int (1 : Int32)), .val (.int v1), .val (.int v2), .unset, .unset, .unset, .unset, .unset, .unset, .unset, .unset] [(.int (p3 &&& (65535 : Int32)))]))
    refine own_step (fun t k => XS.istore X35.here hx rfl (hb hby at_68) rfl (l' := #[.val (.int p0), .val (.int p1), .val (.int p2), .val (.int p3), .val (.int p4), .val (.int (0 : Int32)), .val (.ref w_SHORTEST_DISTANCE), .val (.int (0 : Int32)), .val (.int (1 : Int32)), .val (.int v1), .val (.int v2), .val (.int (p3 &&& (65535 : Int32))), .unset, .unset, .unset, .unset, .unset, .unset, .unset]) rfl k) ?_
    show own_Goes p e below _ (T35.setTop (mkF m 70 #[.val (.int p0), .val (.int p1), .val (.int p2), .val (.int p3), .val (.int p4), .val (.int (0 : Int32)), .val (.ref w_SHORTEST_DISTANCE), .val (.int (0 : Int32)), .val (.int (1 : Int32)), .val (.int v1), .val (.int v2), .val (.int (p3 &&& (65535 : Int32))), .unset, .unset, .unset, .unset, .unset, .unset, .unset] []))
    generalize hv_m1 : (p3 &&& (65535 : Int32)) = m1
    refine own_step (fun t k => XS.iload X35.here hx rfl (hb hby at_70) rfl k) ?_
    show own_Goes p e below _ (T35.setTop (mkF m 72 #[.val (.int p0), .val (.int p1), .val (.int p2), .val (.int p3), .val (.int p4), .val (.int (0 : Int32)), .val (.ref w_SHORTEST_DISTANCE), .val (.int (0 : Int32)), .val (.int (1 : Int32)), .val (.int v1), .val (.int v2), .val (.int m1), .unset, .unset, .unset, .unset, .unset, .unset, .unset] [(.int p4)]))
    refine own_step (fun t k => X35.ldcInt hx hown (mvT hZ w17) (g := (mkF m 72 #[.val (.int p0), .val (.int p1), .val (.int p2), .val (.int p3), .val (.int p4), .val (.int (0 : Int32)), .val (.ref w_SHORTEST_DISTANCE), .val (.int (0 : Int32)), .val (.int (1 : Int32)), .val (.int v1), .val (.int v2), .val (.int m1), .unset, .unset, .unset, .unset, .unset, .unset, .unset] [(.int p4)])) rfl (hb hby at_72) _ k) ?_
    show own_Goes p e below _ (T35.setTop (mkF m 74 #[.val (.int p0), .val (.int p1), .val (.int p2), .val (.int p3), .val (.int p4), .val (.int (0 : Int32)), .val (.ref w_SHORTEST_DISTANCE), .val (.int (0 : Int32)), .val (.int (1 : Int32)), .val (.int v1), .val (.int v2), .val (.int m1), .unset, .unset, .unset, .unset, .unset, .unset, .unset] [(.int (65535 : Int32)), (.int p4)]))
    refine own_step (fun t k => XS.iand X35.here hx rfl (hb hby at_74) rfl k) ?_
    show own_Goes p e below _ (T35.setTop (mkF m 75 #[.val (.int p0), .val (.int p1), .val (.int p2), .val (.int p3), .val (.int p4), .val (.int (0 : Int32)), .val (.ref w_SHORTEST_DISTANCE), .val (.int (0 : Int32)), .val (.int (1 : Int32)), .val (.int v1), .val (.int v2), .val (.int m1), .unset, .unset, .unset, .unset, .unset, .unset, .unset] [(.int (p4 &&& (65535 : Int32)))]))
    refine own_step (fun t k => XS.istore X35.here hx rfl (hb hby at_75) rfl (l' := #[.val (.int p0), .val (.int p1), .val (.int p2), .val (.int p3), .val (.int p4), .val (.int (0 : Int32)), .val (.ref w_SHORTEST_DISTANCE), .val (.int (0 : Int32)), .val (.int (1 : Int32)), .val (.int v1), .val (.int v2), .val (.int m1), .val (.int (p4 &&& (65535 : Int32))), .unset, .unset, .unset, .unset, .unset, .unset]) rfl k) ?_
    show own_Goes p e below _ (T35.setTop (mkF m 77 #[.val (.int p0), .val (.int p1), .val (.int p2), .val (.int p3), .val (.int p4), .val (.int (0 : Int32)), .val (.ref w_SHORTEST_DISTANCE), .val (.int (0 : Int32)), .val (.int (1 : Int32)), .val (.int v1), .val (.int v2), .val (.int m1), .val (.int (p4 &&& (65535 : Int32))), .unset, .unset, .unset, .unset, .unset, .unset] []))
    generalize hv_m2 : (p4 &&& (65535 : Int32)) = m2
    refine own_step (fun t k => XS.iload X35.here hx rfl (hb hby at_77) rfl k) ?_
    show own_Goes p e below _ (T35.setTop (mkF m 79 #[.val (.int p0), .val (.int p1), .val (.int p2), .val (.int p3), .val (.int p4), .val (.int (0 : Int32)), .val (.ref w_SHORTEST_DISTANCE), .val (.int (0 : Int32)), .val (.int (1 : Int32)), .val (.int v1), .val (.int v2), .val (.int m1), .val (.int m2), .unset, .unset, .unset, .unset, .unset, .unset] [(.int m1)]))
    refine own_step (fun t k => XS.iload X35.here hx rfl (hb hby at_79) rfl k) ?_
    show own_Goes p e below _ (T35.setTop (mkF m 81 #[.val (.int p0), .val (.int p1), .val (.int p2), .val (.int p3), .val (.int p4), .val (.int (0 : Int32)), .val (.ref w_SHORTEST_DISTANCE), .val (.int (0 : Int32)), .val (.int (1 : Int32)), .val (.int v1), .val (.int v2), .val (.int m1), .val (.int m2), .unset, .unset, .unset, .unset, .unset, .unset] [(.int m2), (.int m1)]))
    obtain ⟨_, _, ⟨T36, L36, k36, n36⟩, -, X36, ⟨Lc36, hQ36, l36, y36, z36⟩, st36⟩ := Jvm.LawKit.callS X35 hx (y := (⟨"java/lang/Math", "max", "(II)I"⟩ : MethodName)) hown (mvT hZ w14) (mvT hZ w15) (mvT hZ w12) (mvT hZ w16) (by decide) (backOf (W := 0) (own_b3 l Z a0 hw [] m1 m2  h0 n0 Z0 ) hZ w16 w12 (by decide) (by decide)) (g := (mkF m 81 #[.val (.int p0), .val (.int p1), .val (.int p2), .val (.int p3), .val (.int p4), .val (.int (0 : Int32)), .val (.ref w_SHORTEST_DISTANCE), .val (.int (0 : Int32)), .val (.int (1 : Int32)), .val (.int v1), .val (.int v2), .val (.int m1), .val (.int m2), .unset, .unset, .unset, .unset, .unset, .unset] [(.int m2), (.int m1)])) rfl (by rw [hml]; rfl) (argsL := [(.int m1), (.int m2)]) (rest := []) (lenOf own_pd0 rfl) rfl (by show 2 * 0 + _ ≤ _; exact Nat.le_of_eq rfl) (hb hby at_81) (fun _ _ => ⟨rfl, eh35, (by decide : 0 + 0 ≤ _), (by decide : 0 + 0 ≤ _)⟩)
    dsimp only [Pt.U, Pt.locs, Pt.cells, Pt.slots] at X36 l36 y36 z36 st36 hQ36
    subst l36 y36 z36
    obtain ⟨rfl, N36q, eh36⟩ := hQ36
    have N36 := Fr.app N35 N36q
    refine own_step st36 ?_
    show own_Goes p e below _ (T36.setTop (mkF m 84 #[.val (.int p0), .val (.int p1), .val (.int p2), .val (.int p3), .val (.int p4), .val (.int (0 : Int32)), .val (.ref w_SHORTEST_DISTANCE), .val (.int (0 : Int32)), .val (.int (1 : Int32)), .val (.int v1), .val (.int v2), .val (.int m1), .val (.int m2), .unset, .unset, .unset, .unset, .unset, .unset] [(.int (if m1 < m2 then m2 else m1))]))
    generalize hv_vM : (if m1 < m2 then m2 else m1) = vM
    refine own_step (fun t k => XS.i2dS X36.here hx rfl (hb hby at_84) rfl rfl k) ?_
    show own_Goes p e below _ (T36.setTop (mkF m 85 #[.val (.int p0), .val (.int p1), .val (.int p2), .val (.int p3), .val (.int p4), .val (.int (0 : Int32)), .val (.ref w_SHORTEST_DISTANCE), .val (.int (0 : Int32)), .val (.int (1 : Int32)), .val (.int v1), .val (.int v2), .val (.int m1), .val (.int m2), .unset, .unset, .unset, .unset, .unset, .unset] [(.double (FP.i2d vM))]))
    refine own_step (fun t k => XS.dstore X36.here hx rfl (hb hby at_85) rfl (l' := #[.val (.int p0), .val (.int p1), .val (.int p2), .val (.int p3), .val (.int p4), .val (.int (0 : Int32)), .val (.ref w_SHORTEST_DISTANCE), .val (.int (0 : Int32)), .val (.int (1 : Int32)), .val (.int v1), .val (.int v2), .val (.int m1), .val (.int m2), .val (.double (FP.i2d vM)), .second, .unset, .unset, .unset, .unset]) rfl k) ?_
    show own_Goes p e below _ (T36.setTop (mkF m 87 #[.val (.int p0), .val (.int p1), .val (.int p2), .val (.int p3), .val (.int p4), .val (.int (0 : Int32)), .val (.ref w_SHORTEST_DISTANCE), .val (.int (0 : Int32)), .val (.int (1 : Int32)), .val (.int v1), .val (.int v2), .val (.int m1), .val (.int m2), .val (.double (FP.i2d vM)), .second, .unset, .unset, .unset, .unset] []))
    refine own_step (fun t k => XS.iload X36.here hx rfl (hb hby at_87) rfl k) ?_
    show own_Goes p e below _ (T36.setTop (mkF m 89 #[.val (.int p0), .val (.int p1), .val (.int p2), .val (.int p3), .val (.int p4), .val (.int (0 : Int32)), .val (.ref w_SHORTEST_DISTANCE), .val (.int (0 : Int32)), .val (.int (1 : Int32)), .val (.int v1), .val (.int v2), .val (.int m1), .val (.int m2), .val (.double (FP.i2d vM)), .second, .unset, .unset, .unset, .unset] [(.int m1)]))
    refine own_step (fun t k => XS.iload X36.here hx rfl (hb hby at_89) rfl k) ?_
    show own_Goes p e below _ (T36.setTop (mkF m 91 #[.val (.int p0), .val (.int p1), .val (.int p2), .val (.int p3), .val (.int p4), .val (.int (0 : Int32)), .val (.ref w_SHORTEST_DISTANCE), .val (.int (0 : Int32)), .val (.int (1 : Int32)), .val (.int v1), .val (.int v2), .val (.int m1), .val (.int m2), .val (.double (FP.i2d vM)), .second, .unset, .unset, .unset, .unset] [(.int m2), (.int m1)]))
    obtain ⟨_, _, ⟨T37, L37, k37, n37⟩, -, X37, ⟨Lc37, hQ37, l37, y37, z37⟩, st37⟩ := Jvm.LawKit.callS X36 hx (y := (⟨"java/lang/Math", "min", "(II)I"⟩ : MethodName)) hown (mvT hZ w10) (mvT hZ w11) (mvT hZ w12) (mvT hZ w13) (by decide) (backOf (W := 0) (own_b2 l Z a0 hw [] m1 m2  h0 n0 Z0 ) hZ w13 w12 (by decide) (by decide)) (g := (mkF m 91 #[.val (.int p0), .val (.int p1), .val (.int p2), .val (.int p3), .val (.int p4), .val (.int (0 : Int32)), .val (.ref w_SHORTEST_DISTANCE), .val (.int (0 : Int32)), .val (.int (1 : Int32)), .val (.int v1), .val (.int v2), .val (.int m1), .val (.int m2), .val (.double (FP.i2d vM)), .second, .unset, .unset, .unset, .unset] [(.int m2), (.int m1)])) rfl (by rw [hml]; rfl) (argsL := [(.int m1), (.int m2)]) (rest := []) (lenOf own_pd0 rfl) rfl (by show 2 * 0 + _ ≤ _; exact Nat.le_of_eq rfl) (hb hby at_91) (fun _ _ => ⟨rfl, eh36, (by decide : 0 + 0 ≤ _), (by decide : 0 + 0 ≤ _)⟩)
    dsimp only [Pt.U, Pt.locs, Pt.cells, Pt.slots] at X37 l37 y37 z37 st37 hQ37
    subst l37 y37 z37
    obtain ⟨rfl, N37q, eh37⟩ := hQ37
    have N37 := Fr.app N36 N37q
    refine own_step st37 ?_
    show own_Goes p e below _ (T37.setTop (mkF m 94 #[.val (.int p0), .val (.int p1), .val (.int p2), .val (.int p3), .val (.int p4), .val (.int (0 : Int32)), .val (.ref w_SHORTEST_DISTANCE), .val (.int (0 : Int32)), .val (.int (1 : Int32)), .val (.int v1), .val (.int v2), .val (.int m1), .val (.int m2), .val (.double (FP.i2d vM)), .second, .unset, .unset, .unset, .unset] [(.int (if m2 < m1 then m2 else m1))]))
    generalize hv_vN : (if m2 < m1 then m2 else m1) = vN
    refine own_step (fun t k => XS.i2dS X37.here hx rfl (hb hby at_94) rfl rfl k) ?_
    show own_Goes p e below _ (T37.setTop (mkF m 95 #[.val (.int p0), .val (.int p1), .val (.int p2), .val (.int p3), .val (.int p4), .val (.int (0 : Int32)), .val (.ref w_SHORTEST_DISTANCE), .val (.int (0 : Int32)), .val (.int (1 : Int32)), .val (.int v1), .val (.int v2), .val (.int m1), .val (.int m2), .val (.double (FP.i2d vM)), .second, .unset, .unset, .unset, .unset] [(.double (FP.i2d vN))]))
    refine own_step (fun t k => XS.dstore X37.here hx rfl (hb hby at_95) rfl (l' := #[.val (.int p0), .val (.int p1), .val (.int p2), .val (.int p3), .val (.int p4), .val (.int (0 : Int32)), .val (.ref w_SHORTEST_DISTANCE), .val (.int (0 : Int32)), .val (.int (1 : Int32)), .val (.int v1), .val (.int v2), .val (.int m1), .val (.int m2), .val (.double (FP.i2d vM)), .second, .val (.double (FP.i2d vN)), .second, .unset, .unset]) rfl k) ?_
    show own_Goes p e below _ (T37.setTop (mkF m 97 #[.val (.int p0), .val (.int p1), .val (.int p2), .val (.int p3), .val (.int p4), .val (.int (0 : Int32)), .val (.ref w_SHORTEST_DISTANCE), .val (.int (0 : Int32)), .val (.int (1 : Int32)), .val (.int v1), .val (.int v2), .val (.int m1), .val (.int m2), .val (.double (FP.i2d vM)), .second, .val (.double (FP.i2d vN)), .second, .unset, .unset] []))
    refine own_step (fun t k => XS.iload X37.here hx rfl (hb hby at_97) rfl k) ?_
    show own_Goes p e below _ (T37.setTop (mkF m 99 #[.val (.int p0), .val (.int p1), .val (.int p2), .val (.int p3), .val (.int p4), .val (.int (0 : Int32)), .val (.ref w_SHORTEST_DISTANCE), .val (.int (0 : Int32)), .val (.int (1 : Int32)), .val (.int v1), .val (.int v2), .val (.int m1), .val (.int m2), .val (.double (FP.i2d vM)), .second, .val (.double (FP.i2d vN)), .second, .unset, .unset] [(.int v1)]))
    refine own_step (fun t k => XS.iload X37.here hx rfl (hb hby at_99) rfl k) ?_
    show own_Goes p e below _ (T37.setTop (mkF m 101 #[.val (.int p0), .val (.int p1), .val (.int p2), .val (.int p3), .val (.int p4), .val (.int (0 : Int32)), .val (.ref w_SHORTEST_DISTANCE), .val (.int (0 : Int32)), .val (.int (1 : Int32)), .val (.int v1), .val (.int v2), .val (.int m1), .val (.int m2), .val (.double (FP.i2d vM)), .second, .val (.double (FP.i2d vN)), .second, .unset, .unset] [(.int v2), (.int v1)]))
    by_cases hc38 : v1 = v2
    · --
      refine own_step (fun t k => XS.icmpYes X37.here hx rfl (pc0 := 101) (pc' := 112) rfl (hb hby at_101) rfl (teq hc38).1 (by decide) (by decide) k) ?_
      show own_Goes p e below _ (T37.setTop (mkF m 112 #[.val (.int p0), .val (.int p1), .val (.int p2), .val (.int p3), .val (.int p4), .val (.int (0 : Int32)), .val (.ref w_SHORTEST_DISTANCE), .val (.int (0 : Int32)), .val (.int (1 : Int32)), .val (.int v1), .val (.int v2), .val (.int m1), .val (.int m2), .val (.double (FP.i2d vM)), .second, .val (.double (FP.i2d vN)), .second, .unset, .unset] []))
      refine own_step (fun t k => XS.iload X37.here hx rfl (hb hby at_112) rfl k) ?_
      show own_Goes p e below _ (T37.setTop (mkF m 114 #[.val (.int p0), .val (.int p1), .val (.int p2), .val (.int p3), .val (.int p4), .val (.int (0 : Int32)), .val (.ref w_SHORTEST_DISTANCE), .val (.int (0 : Int32)), .val (.int (1 : Int32)), .val (.int v1), .val (.int v2), .val (.int m1), .val (.int m2), .val (.double (FP.i2d vM)), .second, .val (.double (FP.i2d vN)), .second, .unset, .unset] [(.int (1 : Int32))]))
      refine own_retL X37 hx hlk Bd.returns (hb hby at_114) (?_ : (1 : Int32) = 1) N37 (by decide) (by decide)
      exact rfl
    · --
      refine own_step (fun t k => XS.icmpNo X37.here hx rfl (hb hby at_101) rfl (feq hc38).1 k) ?_
      show own_Goes p e below _ (T37.setTop (mkF m 104 #[.val (.int p0), .val (.int p1), .val (.int p2), .val (.int p3), .val (.int p4), .val (.int (0 : Int32)), .val (.ref w_SHORTEST_DISTANCE), .val (.int (0 : Int32)), .val (.int (1 : Int32)), .val (.int v1), .val (.int v2), .val (.int m1), .val (.int m2), .val (.double (FP.i2d vM)), .second, .val (.double (FP.i2d vN)), .second, .unset, .unset] []))
      refine own_step (fun t k => XS.dload X37.here hx rfl (hb hby at_104) rfl k) ?_
      show own_Goes p e below _ (T37.setTop (mkF m 106 #[.val (.int p0), .val (.int p1), .val (.int p2), .val (.int p3), .val (.int p4), .val (.int (0 : Int32)), .val (.ref w_SHORTEST_DISTANCE), .val (.int (0 : Int32)), .val (.int (1 : Int32)), .val (.int v1), .val (.int v2), .val (.int m1), .val (.int m2), .val (.double (FP.i2d vM)), .second, .val (.double (FP.i2d vN)), .second, .unset, .unset] [(.double (FP.i2d vM))]))
      refine own_step (fun t k => XS.dload X37.here hx rfl (hb hby at_106) rfl k) ?_
      show own_Goes p e below _ (T37.setTop (mkF m 108 #[.val (.int p0), .val (.int p1), .val (.int p2), .val (.int p3), .val (.int p4), .val (.int (0 : Int32)), .val (.ref w_SHORTEST_DISTANCE), .val (.int (0 : Int32)), .val (.int (1 : Int32)), .val (.int v1), .val (.int v2), .val (.int m1), .val (.int m2), .val (.double (FP.i2d vM)), .second, .val (.double (FP.i2d vN)), .second, .unset, .unset] [(.double (FP.i2d vN)), (.double (FP.i2d vM))]))
      refine own_step (fun t k => XS.dcmpS X37.here hx rfl (hb hby at_108) rfl (own_dl _ _ _) k) ?_
      show own_Goes p e below _ (T37.setTop (mkF m 109 #[.val (.int p0), .val (.int p1), .val (.int p2), .val (.int p3), .val (.int p4), .val (.int (0 : Int32)), .val (.ref w_SHORTEST_DISTANCE), .val (.int (0 : Int32)), .val (.int (1 : Int32)), .val (.int v1), .val (.int v2), .val (.int m1), .val (.int m2), .val (.double (FP.i2d vM)), .second, .val (.double (FP.i2d vN)), .second, .unset, .unset] [(.int (lcmpW vM.toInt64 vN.toInt64))]))
      by_cases hc39 : vM.toInt64 = vN.toInt64
      · --
        refine own_step (fun t k => XS.ifNo X37.here hx rfl (hb hby at_109) rfl ((if0 _ _).trans (teq ((lw_eq vM.toInt64 vN.toInt64).mpr hc39)).2) k) ?_
        show own_Goes p e below _ (T37.setTop (mkF m 112 #[.val (.int p0), .val (.int p1), .val (.int p2), .val (.int p3), .val (.int p4), .val (.int (0 : Int32)), .val (.ref w_SHORTEST_DISTANCE), .val (.int (0 : Int32)), .val (.int (1 : Int32)), .val (.int v1), .val (.int v2), .val (.int m1), .val (.int m2), .val (.double (FP.i2d vM)), .second, .val (.double (FP.i2d vN)), .second, .unset, .unset] []))
        refine own_step (fun t k => XS.iload X37.here hx rfl (hb hby at_112) rfl k) ?_
        show own_Goes p e below _ (T37.setTop (mkF m 114 #[.val (.int p0), .val (.int p1), .val (.int p2), .val (.int p3), .val (.int p4), .val (.int (0 : Int32)), .val (.ref w_SHORTEST_DISTANCE), .val (.int (0 : Int32)), .val (.int (1 : Int32)), .val (.int v1), .val (.int v2), .val (.int m1), .val (.int m2), .val (.double (FP.i2d vM)), .second, .val (.double (FP.i2d vN)), .second, .unset, .unset] [(.int (1 : Int32))]))
        refine own_retL X37 hx hlk Bd.returns (hb hby at_114) (?_ : (1 : Int32) = 1) N37 (by decide) (by decide)
        exact rfl
      · --
        refine own_step (fun t k => XS.ifYes X37.here hx rfl (pc0 := 109) (pc' := 115) rfl (hb hby at_109) rfl ((if0 _ _).trans (feq (fun zq => hc39 ((lw_eq vM.toInt64 vN.toInt64).mp zq))).2) (by decide) (by decide) k) ?_
        show own_Goes p e below _ (T37.setTop (mkF m 115 #[.val (.int p0), .val (.int p1), .val (.int p2), .val (.int p3), .val (.int p4), .val (.int (0 : Int32)), .val (.ref w_SHORTEST_DISTANCE), .val (.int (0 : Int32)), .val (.int (1 : Int32)), .val (.int v1), .val (.int v2), .val (.int m1), .val (.int m2), .val (.double (FP.i2d vM)), .second, .val (.double (FP.i2d vN)), .second, .unset, .unset] []))
        refine own_step (fun t k => XS.aload X37.here hx rfl (hb hby at_115) rfl rfl k) ?_
        show own_Goes p e below _ (T37.setTop (mkF m 117 #[.val (.int p0), .val (.int p1), .val (.int p2), .val (.int p3), .val (.int p4), .val (.int (0 : Int32)), .val (.ref w_SHORTEST_DISTANCE), .val (.int (0 : Int32)), .val (.int (1 : Int32)), .val (.int v1), .val (.int v2), .val (.int m1), .val (.int m2), .val (.double (FP.i2d vM)), .second, .val (.double (FP.i2d vN)), .second, .unset, .unset] [(.ref w_SHORTEST_DISTANCE)]))
        refine own_step (fun t k => XS.iload X37.here hx rfl (hb hby at_117) rfl k) ?_
        show own_Goes p e below _ (T37.setTop (mkF m 119 #[.val (.int p0), .val (.int p1), .val (.int p2), .val (.int p3), .val (.int p4), .val (.int (0 : Int32)), .val (.ref w_SHORTEST_DISTANCE), .val (.int (0 : Int32)), .val (.int (1 : Int32)), .val (.int v1), .val (.int v2), .val (.int m1), .val (.int m2), .val (.double (FP.i2d vM)), .second, .val (.double (FP.i2d vN)), .second, .unset, .unset] [(.int v1), (.ref w_SHORTEST_DISTANCE)]))
        refine own_step (fun t k => XS.dload X37.here hx rfl (hb hby at_119) rfl k) ?_
        show own_Goes p e below _ (T37.setTop (mkF m 121 #[.val (.int p0), .val (.int p1), .val (.int p2), .val (.int p3), .val (.int p4), .val (.int (0 : Int32)), .val (.ref w_SHORTEST_DISTANCE), .val (.int (0 : Int32)), .val (.int (1 : Int32)), .val (.int v1), .val (.int v2), .val (.int m1), .val (.int m2), .val (.double (FP.i2d vM)), .second, .val (.double (FP.i2d vN)), .second, .unset, .unset] [(.double (FP.i2d vM)), (.int v1), (.ref w_SHORTEST_DISTANCE)]))
        refine own_step (fun t k => XS.iload X37.here hx rfl (hb hby at_121) rfl k) ?_
        show own_Goes p e below _ (T37.setTop (mkF m 123 #[.val (.int p0), .val (.int p1), .val (.int p2), .val (.int p3), .val (.int p4), .val (.int (0 : Int32)), .val (.ref w_SHORTEST_DISTANCE), .val (.int (0 : Int32)), .val (.int (1 : Int32)), .val (.int v1), .val (.int v2), .val (.int m1), .val (.int m2), .val (.double (FP.i2d vM)), .second, .val (.double (FP.i2d vN)), .second, .unset, .unset] [(.int v2), (.double (FP.i2d vM)), (.int v1), (.ref w_SHORTEST_DISTANCE)]))
        refine own_step (fun t k => XS.dload X37.here hx rfl (hb hby at_123) rfl k) ?_
        show own_Goes p e below _ (T37.setTop (mkF m 125 #[.val (.int p0), .val (.int p1), .val (.int p2), .val (.int p3), .val (.int p4), .val (.int (0 : Int32)), .val (.ref w_SHORTEST_DISTANCE), .val (.int (0 : Int32)), .val (.int (1 : Int32)), .val (.int v1), .val (.int v2), .val (.int m1), .val (.int m2), .val (.double (FP.i2d vM)), .second, .val (.double (FP.i2d vN)), .second, .unset, .unset] [(.double (FP.i2d vN)), (.int v2), (.double (FP.i2d vM)), (.int v1), (.ref w_SHORTEST_DISTANCE)]))
        obtain ⟨cq40, kq40, q40a, q40b, q40c⟩ := isOf hZ eh37 E_w_SHORTEST_DISTANCE
        obtain ⟨_, _, ⟨T40, L40, k40, n40⟩, -, X40, ⟨Lc40, hQ40, l40, y40, z40⟩, st40⟩ := X37.virtualBack hx (y := (⟨"com/example/waysmith/waysmith/evaluation/Objective", "compare", "(IDID)I"⟩ : MethodName)) (z := (⟨"com/example/waysmith/waysmith/evaluation/Objective", "compare", "(IDID)I"⟩ : MethodName)) hown (mvT hZ w18) (mvT hZ w19) (notFace_of_selects (args := #[]) (mvT hZ w21)) (mvT hZ w21) (mvT hZ w20) (by decide) (backOf (W := 0) (own_b6 l Z a0 hw [] w_SHORTEST_DISTANCE v1 (FP.i2d vM) v2 (FP.i2d vN) (w_FEWEST_VEHICLES) ((0 : Int32)) h0 n0 Z0 S_FEWEST_VEHICLES O0 E_w_SHORTEST_DISTANCE (if_neg hSF) (own_dc hv_vM hv_vN hc39 _) (own_dc hv_vM hv_vN hc39 _)) hZ w22 w1 (by decide) (by decide)) q40a q40c (g := (mkF m 125 #[.val (.int p0), .val (.int p1), .val (.int p2), .val (.int p3), .val (.int p4), .val (.int (0 : Int32)), .val (.ref w_SHORTEST_DISTANCE), .val (.int (0 : Int32)), .val (.int (1 : Int32)), .val (.int v1), .val (.int v2), .val (.int m1), .val (.int m2), .val (.double (FP.i2d vM)), .second, .val (.double (FP.i2d vN)), .second, .unset, .unset] [(.double (FP.i2d vN)), (.int v2), (.double (FP.i2d vM)), (.int v1), (.ref w_SHORTEST_DISTANCE)])) rfl (by rw [hml]; rfl) (Steps.refl _) (argsL := [(.int v1), (.double (FP.i2d vM)), (.int v2), (.double (FP.i2d vN))]) (rest := []) (lenOf own_pd3 rfl) rfl (by show 2 * 0 + _ ≤ _; exact Nat.le_of_eq rfl) (hb hby at_125) (fun _ _ => ⟨rfl, eh37, (by decide : 0 + 0 ≤ _), (by decide : 0 + 0 ≤ _)⟩)
        dsimp only [Pt.U, Pt.locs, Pt.cells, Pt.slots] at X40 l40 y40 z40 st40 hQ40
        subst l40 y40 z40
        obtain ⟨rfl, N40q, eh40⟩ := hQ40
        have N40 := Fr.app N37 N40q
        refine own_jump st40 ?_
        show own_Goes p e below _ (T40.setTop (mkF m 128 #[.val (.int p0), .val (.int p1), .val (.int p2), .val (.int p3), .val (.int p4), .val (.int (0 : Int32)), .val (.ref w_SHORTEST_DISTANCE), .val (.int (0 : Int32)), .val (.int (1 : Int32)), .val (.int v1), .val (.int v2), .val (.int m1), .val (.int m2), .val (.double (FP.i2d vM)), .second, .val (.double (FP.i2d vN)), .second, .unset, .unset] [(.int (if (0 : Int32) = (0 : Int32) then (1 : Int32) else (if (if v1 < v2 then (-1 : Int32) else (if v1 = v2 then (0 : Int32) else (1 : Int32))) = (0 : Int32) then (1 : Int32) else (if v1 < v2 then (-1 : Int32) else (if v1 = v2 then (0 : Int32) else (1 : Int32))))))]))
        refine own_step (fun t k => XS.istore X40.here hx rfl (hb hby at_128) rfl (l' := #[.val (.int p0), .val (.int p1), .val (.int p2), .val (.int p3), .val (.int p4), .val (.int (0 : Int32)), .val (.ref w_SHORTEST_DISTANCE), .val (.int (0 : Int32)), .val (.int (1 : Int32)), .val (.int v1), .val (.int v2), .val (.int m1), .val (.int m2), .val (.double (FP.i2d vM)), .second, .val (.double (FP.i2d vN)), .second, .val (.int (if (0 : Int32) = (0 : Int32) then (1 : Int32) else (if (if v1 < v2 then (-1 : Int32) else (if v1 = v2 then (0 : Int32) else (1 : Int32))) = (0 : Int32) then (1 : Int32) else (if v1 < v2 then (-1 : Int32) else (if v1 = v2 then (0 : Int32) else (1 : Int32)))))), .unset]) rfl k) ?_
        show own_Goes p e below _ (T40.setTop (mkF m 130 #[.val (.int p0), .val (.int p1), .val (.int p2), .val (.int p3), .val (.int p4), .val (.int (0 : Int32)), .val (.ref w_SHORTEST_DISTANCE), .val (.int (0 : Int32)), .val (.int (1 : Int32)), .val (.int v1), .val (.int v2), .val (.int m1), .val (.int m2), .val (.double (FP.i2d vM)), .second, .val (.double (FP.i2d vN)), .second, .val (.int (if (0 : Int32) = (0 : Int32) then (1 : Int32) else (if (if v1 < v2 then (-1 : Int32) else (if v1 = v2 then (0 : Int32) else (1 : Int32))) = (0 : Int32) then (1 : Int32) else (if v1 < v2 then (-1 : Int32) else (if v1 = v2 then (0 : Int32) else (1 : Int32)))))), .unset] []))
        refine own_step (fun t k => XS.iload X40.here hx rfl (hb hby at_130) rfl k) ?_
        show own_Goes p e below _ (T40.setTop (mkF m 132 #[.val (.int p0), .val (.int p1), .val (.int p2), .val (.int p3), .val (.int p4), .val (.int (0 : Int32)), .val (.ref w_SHORTEST_DISTANCE), .val (.int (0 : Int32)), .val (.int (1 : Int32)), .val (.int v1), .val (.int v2), .val (.int m1), .val (.int m2), .val (.double (FP.i2d vM)), .second, .val (.double (FP.i2d vN)), .second, .val (.int (if (0 : Int32) = (0 : Int32) then (1 : Int32) else (if (if v1 < v2 then (-1 : Int32) else (if v1 = v2 then (0 : Int32) else (1 : Int32))) = (0 : Int32) then (1 : Int32) else (if v1 < v2 then (-1 : Int32) else (if v1 = v2 then (0 : Int32) else (1 : Int32)))))), .unset] [(.int (0 : Int32))]))
        have hc41 : (0 : Int32) = (0 : Int32) := rfl
        refine own_step (fun t k => XS.ifYes X40.here hx rfl (pc0 := 132) (pc' := 148) rfl (hb hby at_132) rfl ((if0 _ _).trans (teq hc41).1) (by decide) (by decide) k) ?_
        show own_Goes p e below _ (T40.setTop (mkF m 148 #[.val (.int p0), .val (.int p1), .val (.int p2), .val (.int p3), .val (.int p4), .val (.int (0 : Int32)), .val (.ref w_SHORTEST_DISTANCE), .val (.int (0 : Int32)), .val (.int (1 : Int32)), .val (.int v1), .val (.int v2), .val (.int m1), .val (.int m2), .val (.double (FP.i2d vM)), .second, .val (.double (FP.i2d vN)), .second, .val (.int (if (0 : Int32) = (0 : Int32) then (1 : Int32) else (if (if v1 < v2 then (-1 : Int32) else (if v1 = v2 then (0 : Int32) else (1 : Int32))) = (0 : Int32) then (1 : Int32) else (if v1 < v2 then (-1 : Int32) else (if v1 = v2 then (0 : Int32) else (1 : Int32)))))), .unset] []))
        refine own_step (fun t k => XS.iload X40.here hx rfl (hb hby at_148) rfl k) ?_
        show own_Goes p e below _ (T40.setTop (mkF m 150 #[.val (.int p0), .val (.int p1), .val (.int p2), .val (.int p3), .val (.int p4), .val (.int (0 : Int32)), .val (.ref w_SHORTEST_DISTANCE), .val (.int (0 : Int32)), .val (.int (1 : Int32)), .val (.int v1), .val (.int v2), .val (.int m1), .val (.int m2), .val (.double (FP.i2d vM)), .second, .val (.double (FP.i2d vN)), .second, .val (.int (if (0 : Int32) = (0 : Int32) then (1 : Int32) else (if (if v1 < v2 then (-1 : Int32) else (if v1 = v2 then (0 : Int32) else (1 : Int32))) = (0 : Int32) then (1 : Int32) else (if v1 < v2 then (-1 : Int32) else (if v1 = v2 then (0 : Int32) else (1 : Int32)))))), .unset] [(.int (if (0 : Int32) = (0 : Int32) then (1 : Int32) else (if (if v1 < v2 then (-1 : Int32) else (if v1 = v2 then (0 : Int32) else (1 : Int32))) = (0 : Int32) then (1 : Int32) else (if v1 < v2 then (-1 : Int32) else (if v1 = v2 then (0 : Int32) else (1 : Int32))))))]))
        refine own_step (S' := T40.setTop (mkF m 158 #[.val (.int p0), .val (.int p1), .val (.int p2), .val (.int p3), .val (.int p4), .val (.int (0 : Int32)), .val (.ref w_SHORTEST_DISTANCE), .val (.int (0 : Int32)), .val (.int (1 : Int32)), .val (.int v1), .val (.int v2), .val (.int m1), .val (.int m2), .val (.double (FP.i2d vM)), .second, .val (.double (FP.i2d vN)), .second, .val (.int (if (0 : Int32) = (0 : Int32) then (1 : Int32) else (if (if v1 < v2 then (-1 : Int32) else (if v1 = v2 then (0 : Int32) else (1 : Int32))) = (0 : Int32) then (1 : Int32) else (if v1 < v2 then (-1 : Int32) else (if v1 = v2 then (0 : Int32) else (1 : Int32)))))), .unset] [(.int (if (0 : Int32) < (if (0 : Int32) = (0 : Int32) then (1 : Int32) else (if (if v1 < v2 then (-1 : Int32) else (if v1 = v2 then (0 : Int32) else (1 : Int32))) = (0 : Int32) then (1 : Int32) else (if v1 < v2 then (-1 : Int32) else (if v1 = v2 then (0 : Int32) else (1 : Int32))))) then (1 : Int32) else (0 : Int32)))])) (fun t k => ?_) ?_
        · show Steps p.tables e below (T40.setTop (mkF m 150 #[.val (.int p0), .val (.int p1), .val (.int p2), .val (.int p3), .val (.int p4), .val (.int (0 : Int32)), .val (.ref w_SHORTEST_DISTANCE), .val (.int (0 : Int32)), .val (.int (1 : Int32)), .val (.int v1), .val (.int v2), .val (.int m1), .val (.int m2), .val (.double (FP.i2d vM)), .second, .val (.double (FP.i2d vN)), .second, .val (.int (if (0 : Int32) = (0 : Int32) then (1 : Int32) else (if (if v1 < v2 then (-1 : Int32) else (if v1 = v2 then (0 : Int32) else (1 : Int32))) = (0 : Int32) then (1 : Int32) else (if v1 < v2 then (-1 : Int32) else (if v1 = v2 then (0 : Int32) else (1 : Int32)))))), .unset] [(.int (if (0 : Int32) = (0 : Int32) then (1 : Int32) else (if (if v1 < v2 then (-1 : Int32) else (if v1 = v2 then (0 : Int32) else (1 : Int32))) = (0 : Int32) then (1 : Int32) else (if v1 < v2 then (-1 : Int32) else (if v1 = v2 then (0 : Int32) else (1 : Int32))))))])) _
          by_cases hc42 : (0 : Int32) < (if (0 : Int32) = (0 : Int32) then (1 : Int32) else (if (if v1 < v2 then (-1 : Int32) else (if v1 = v2 then (0 : Int32) else (1 : Int32))) = (0 : Int32) then (1 : Int32) else (if v1 < v2 then (-1 : Int32) else (if v1 = v2 then (0 : Int32) else (1 : Int32)))))
          · --
            refine XS.ifNo X40.here hx rfl (hb hby at_150) rfl ((if0 _ _).trans (tlt hc42).2.2.2) ?_
            show Steps p.tables e below (T40.setTop (mkF m 153 #[.val (.int p0), .val (.int p1), .val (.int p2), .val (.int p3), .val (.int p4), .val (.int (0 : Int32)), .val (.ref w_SHORTEST_DISTANCE), .val (.int (0 : Int32)), .val (.int (1 : Int32)), .val (.int v1), .val (.int v2), .val (.int m1), .val (.int m2), .val (.double (FP.i2d vM)), .second, .val (.double (FP.i2d vN)), .second, .val (.int (if (0 : Int32) = (0 : Int32) then (1 : Int32) else (if (if v1 < v2 then (-1 : Int32) else (if v1 = v2 then (0 : Int32) else (1 : Int32))) = (0 : Int32) then (1 : Int32) else (if v1 < v2 then (-1 : Int32) else (if v1 = v2 then (0 : Int32) else (1 : Int32)))))), .unset] [])) _
            refine XS.iconst X40.here hx rfl (hb hby at_153) ?_
            show Steps p.tables e below (T40.setTop (mkF m 154 #[.val (.int p0), .val (.int p1), .val (.int p2), .val (.int p3), .val (.int p4), .val (.int (0 : Int32)), .val (.ref w_SHORTEST_DISTANCE), .val (.int (0 : Int32)), .val (.int (1 : Int32)), .val (.int v1), .val (.int v2), .val (.int m1), .val (.int m2), .val (.double (FP.i2d vM)), .second, .val (.double (FP.i2d vN)), .second, .val (.int (if (0 : Int32) = (0 : Int32) then (1 : Int32) else (if (if v1 < v2 then (-1 : Int32) else (if v1 = v2 then (0 : Int32) else (1 : Int32))) = (0 : Int32) then (1 : Int32) else (if v1 < v2 then (-1 : Int32) else (if v1 = v2 then (0 : Int32) else (1 : Int32)))))), .unset] [(.int (1 : Int32))])) _
            refine XS.goto X40.here hx rfl (pc0 := 154) (pc' := 158) rfl (hb hby at_154) (by decide) (by decide) ?_
            show Steps p.tables e below (T40.setTop (mkF m 158 #[.val (.int p0), .val (.int p1), .val (.int p2), .val (.int p3), .val (.int p4), .val (.int (0 : Int32)), .val (.ref w_SHORTEST_DISTANCE), .val (.int (0 : Int32)), .val (.int (1 : Int32)), .val (.int v1), .val (.int v2), .val (.int m1), .val (.int m2), .val (.double (FP.i2d vM)), .second, .val (.double (FP.i2d vN)), .second, .val (.int (if (0 : Int32) = (0 : Int32) then (1 : Int32) else (if (if v1 < v2 then (-1 : Int32) else (if v1 = v2 then (0 : Int32) else (1 : Int32))) = (0 : Int32) then (1 : Int32) else (if v1 < v2 then (-1 : Int32) else (if v1 = v2 then (0 : Int32) else (1 : Int32)))))), .unset] [(.int (1 : Int32))])) _
            first | (simp only [if_pos hc42] at k; exact k) | ((repeat (first | rw [if_pos hc42] at k)); exact k)
          · --
            refine XS.ifYes X40.here hx rfl (pc0 := 150) (pc' := 157) rfl (hb hby at_150) rfl ((if0 _ _).trans (flt hc42).2.2.2) (by decide) (by decide) ?_
            show Steps p.tables e below (T40.setTop (mkF m 157 #[.val (.int p0), .val (.int p1), .val (.int p2), .val (.int p3), .val (.int p4), .val (.int (0 : Int32)), .val (.ref w_SHORTEST_DISTANCE), .val (.int (0 : Int32)), .val (.int (1 : Int32)), .val (.int v1), .val (.int v2), .val (.int m1), .val (.int m2), .val (.double (FP.i2d vM)), .second, .val (.double (FP.i2d vN)), .second, .val (.int (if (0 : Int32) = (0 : Int32) then (1 : Int32) else (if (if v1 < v2 then (-1 : Int32) else (if v1 = v2 then (0 : Int32) else (1 : Int32))) = (0 : Int32) then (1 : Int32) else (if v1 < v2 then (-1 : Int32) else (if v1 = v2 then (0 : Int32) else (1 : Int32)))))), .unset] [])) _
            refine XS.iconst X40.here hx rfl (hb hby at_157) ?_
            show Steps p.tables e below (T40.setTop (mkF m 158 #[.val (.int p0), .val (.int p1), .val (.int p2), .val (.int p3), .val (.int p4), .val (.int (0 : Int32)), .val (.ref w_SHORTEST_DISTANCE), .val (.int (0 : Int32)), .val (.int (1 : Int32)), .val (.int v1), .val (.int v2), .val (.int m1), .val (.int m2), .val (.double (FP.i2d vM)), .second, .val (.double (FP.i2d vN)), .second, .val (.int (if (0 : Int32) = (0 : Int32) then (1 : Int32) else (if (if v1 < v2 then (-1 : Int32) else (if v1 = v2 then (0 : Int32) else (1 : Int32))) = (0 : Int32) then (1 : Int32) else (if v1 < v2 then (-1 : Int32) else (if v1 = v2 then (0 : Int32) else (1 : Int32)))))), .unset] [(.int (0 : Int32))])) _
            first | (simp only [if_neg hc42] at k; exact k) | ((repeat (first | rw [if_neg hc42] at k)); exact k)
        show own_Goes p e below _ (T40.setTop (mkF m 158 #[.val (.int p0), .val (.int p1), .val (.int p2), .val (.int p3), .val (.int p4), .val (.int (0 : Int32)), .val (.ref w_SHORTEST_DISTANCE), .val (.int (0 : Int32)), .val (.int (1 : Int32)), .val (.int v1), .val (.int v2), .val (.int m1), .val (.int m2), .val (.double (FP.i2d vM)), .second, .val (.double (FP.i2d vN)), .second, .val (.int (if (0 : Int32) = (0 : Int32) then (1 : Int32) else (if (if v1 < v2 then (-1 : Int32) else (if v1 = v2 then (0 : Int32) else (1 : Int32))) = (0 : Int32) then (1 : Int32) else (if v1 < v2 then (-1 : Int32) else (if v1 = v2 then (0 : Int32) else (1 : Int32)))))), .unset] [(.int (if (0 : Int32) < (if (0 : Int32) = (0 : Int32) then (1 : Int32) else (if (if v1 < v2 then (-1 : Int32) else (if v1 = v2 then (0 : Int32) else (1 : Int32))) = (0 : Int32) then (1 : Int32) else (if v1 < v2 then (-1 : Int32) else (if v1 = v2 then (0 : Int32) else (1 : Int32))))) then (1 : Int32) else (0 : Int32)))]))
        refine own_step (fun t k => XS.istore X40.here hx rfl (hb hby at_158) rfl (l' := #[.val (.int p0), .val (.int p1), .val (.int p2), .val (.int p3), .val (.int p4), .val (.int (0 : Int32)), .val (.ref w_SHORTEST_DISTANCE), .val (.int (0 : Int32)), .val (.int (1 : Int32)), .val (.int v1), .val (.int v2), .val (.int m1), .val (.int m2), .val (.double (FP.i2d vM)), .second, .val (.double (FP.i2d vN)), .second, .val (.int (if (0 : Int32) = (0 : Int32) then (1 : Int32) else (if (if v1 < v2 then (-1 : Int32) else (if v1 = v2 then (0 : Int32) else (1 : Int32))) = (0 : Int32) then (1 : Int32) else (if v1 < v2 then (-1 : Int32) else (if v1 = v2 then (0 : Int32) else (1 : Int32)))))), .val (.int (if (0 : Int32) < (if (0 : Int32) = (0 : Int32) then (1 : Int32) else (if (if v1 < v2 then (-1 : Int32) else (if v1 = v2 then (0 : Int32) else (1 : Int32))) = (0 : Int32) then (1 : Int32) else (if v1 < v2 then (-1 : Int32) else (if v1 = v2 then (0 : Int32) else (1 : Int32))))) then (1 : Int32) else (0 : Int32)))]) rfl k) ?_
        show own_Goes p e below _ (T40.setTop (mkF m 160 #[.val (.int p0), .val (.int p1), .val (.int p2), .val (.int p3), .val (.int p4), .val (.int (0 : Int32)), .val (.ref w_SHORTEST_DISTANCE), .val (.int (0 : Int32)), .val (.int (1 : Int32)), .val (.int v1), .val (.int v2), .val (.int m1), .val (.int m2), .val (.double (FP.i2d vM)), .second, .val (.double (FP.i2d vN)), .second, .val (.int (if (0 : Int32) = (0 : Int32) then (1 : Int32) else (if (if v1 < v2 then (-1 : Int32) else (if v1 = v2 then (0 : Int32) else (1 : Int32))) = (0 : Int32) then (1 : Int32) else (if v1 < v2 then (-1 : Int32) else (if v1 = v2 then (0 : Int32) else (1 : Int32)))))), .val (.int (if (0 : Int32) < (if (0 : Int32) = (0 : Int32) then (1 : Int32) else (if (if v1 < v2 then (-1 : Int32) else (if v1 = v2 then (0 : Int32) else (1 : Int32))) = (0 : Int32) then (1 : Int32) else (if v1 < v2 then (-1 : Int32) else (if v1 = v2 then (0 : Int32) else (1 : Int32))))) then (1 : Int32) else (0 : Int32)))] []))
        refine own_step (fun t k => XS.iload X40.here hx rfl (hb hby at_160) rfl k) ?_
        show own_Goes p e below _ (T40.setTop (mkF m 162 #[.val (.int p0), .val (.int p1), .val (.int p2), .val (.int p3), .val (.int p4), .val (.int (0 : Int32)), .val (.ref w_SHORTEST_DISTANCE), .val (.int (0 : Int32)), .val (.int (1 : Int32)), .val (.int v1), .val (.int v2), .val (.int m1), .val (.int m2), .val (.double (FP.i2d vM)), .second, .val (.double (FP.i2d vN)), .second, .val (.int (if (0 : Int32) = (0 : Int32) then (1 : Int32) else (if (if v1 < v2 then (-1 : Int32) else (if v1 = v2 then (0 : Int32) else (1 : Int32))) = (0 : Int32) then (1 : Int32) else (if v1 < v2 then (-1 : Int32) else (if v1 = v2 then (0 : Int32) else (1 : Int32)))))), .val (.int (if (0 : Int32) < (if (0 : Int32) = (0 : Int32) then (1 : Int32) else (if (if v1 < v2 then (-1 : Int32) else (if v1 = v2 then (0 : Int32) else (1 : Int32))) = (0 : Int32) then (1 : Int32) else (if v1 < v2 then (-1 : Int32) else (if v1 = v2 then (0 : Int32) else (1 : Int32))))) then (1 : Int32) else (0 : Int32)))] [(.int (1 : Int32))]))
        have hc43 : ¬ ((1 : Int32) = (0 : Int32)) := by decide
        refine own_step (fun t k => XS.ifNo X40.here hx rfl (hb hby at_162) rfl ((if0 _ _).trans (feq hc43).1) k) ?_
        show own_Goes p e below _ (T40.setTop (mkF m 165 #[.val (.int p0), .val (.int p1), .val (.int p2), .val (.int p3), .val (.int p4), .val (.int (0 : Int32)), .val (.ref w_SHORTEST_DISTANCE), .val (.int (0 : Int32)), .val (.int (1 : Int32)), .val (.int v1), .val (.int v2), .val (.int m1), .val (.int m2), .val (.double (FP.i2d vM)), .second, .val (.double (FP.i2d vN)), .second, .val (.int (if (0 : Int32) = (0 : Int32) then (1 : Int32) else (if (if v1 < v2 then (-1 : Int32) else (if v1 = v2 then (0 : Int32) else (1 : Int32))) = (0 : Int32) then (1 : Int32) else (if v1 < v2 then (-1 : Int32) else (if v1 = v2 then (0 : Int32) else (1 : Int32)))))), .val (.int (if (0 : Int32) < (if (0 : Int32) = (0 : Int32) then (1 : Int32) else (if (if v1 < v2 then (-1 : Int32) else (if v1 = v2 then (0 : Int32) else (1 : Int32))) = (0 : Int32) then (1 : Int32) else (if v1 < v2 then (-1 : Int32) else (if v1 = v2 then (0 : Int32) else (1 : Int32))))) then (1 : Int32) else (0 : Int32)))] []))
        refine own_step (fun t k => XS.iload X40.here hx rfl (hb hby at_165) rfl k) ?_
        show own_Goes p e below _ (T40.setTop (mkF m 167 #[.val (.int p0), .val (.int p1), .val (.int p2), .val (.int p3), .val (.int p4), .val (.int (0 : Int32)), .val (.ref w_SHORTEST_DISTANCE), .val (.int (0 : Int32)), .val (.int (1 : Int32)), .val (.int v1), .val (.int v2), .val (.int m1), .val (.int m2), .val (.double (FP.i2d vM)), .second, .val (.double (FP.i2d vN)), .second, .val (.int (if (0 : Int32) = (0 : Int32) then (1 : Int32) else (if (if v1 < v2 then (-1 : Int32) else (if v1 = v2 then (0 : Int32) else (1 : Int32))) = (0 : Int32) then (1 : Int32) else (if v1 < v2 then (-1 : Int32) else (if v1 = v2 then (0 : Int32) else (1 : Int32)))))), .val (.int (if (0 : Int32) < (if (0 : Int32) = (0 : Int32) then (1 : Int32) else (if (if v1 < v2 then (-1 : Int32) else (if v1 = v2 then (0 : Int32) else (1 : Int32))) = (0 : Int32) then (1 : Int32) else (if v1 < v2 then (-1 : Int32) else (if v1 = v2 then (0 : Int32) else (1 : Int32))))) then (1 : Int32) else (0 : Int32)))] [(.int (if (0 : Int32) < (if (0 : Int32) = (0 : Int32) then (1 : Int32) else (if (if v1 < v2 then (-1 : Int32) else (if v1 = v2 then (0 : Int32) else (1 : Int32))) = (0 : Int32) then (1 : Int32) else (if v1 < v2 then (-1 : Int32) else (if v1 = v2 then (0 : Int32) else (1 : Int32))))) then (1 : Int32) else (0 : Int32)))]))
        refine own_step (S' := T40.setTop (mkF m 175 #[.val (.int p0), .val (.int p1), .val (.int p2), .val (.int p3), .val (.int p4), .val (.int (0 : Int32)), .val (.ref w_SHORTEST_DISTANCE), .val (.int (0 : Int32)), .val (.int (1 : Int32)), .val (.int v1), .val (.int v2), .val (.int m1), .val (.int m2), .val (.double (FP.i2d vM)), .second, .val (.double (FP.i2d vN)), .second, .val (.int (if (0 : Int32) = (0 : Int32) then (1 : Int32) else (if (if v1 < v2 then (-1 : Int32) else (if v1 = v2 then (0 : Int32) else (1 : Int32))) = (0 : Int32) then (1 : Int32) else (if v1 < v2 then (-1 : Int32) else (if v1 = v2 then (0 : Int32) else (1 : Int32)))))), .val (.int (if (0 : Int32) < (if (0 : Int32) = (0 : Int32) then (1 : Int32) else (if (if v1 < v2 then (-1 : Int32) else (if v1 = v2 then (0 : Int32) else (1 : Int32))) = (0 : Int32) then (1 : Int32) else (if v1 < v2 then (-1 : Int32) else (if v1 = v2 then (0 : Int32) else (1 : Int32))))) then (1 : Int32) else (0 : Int32)))] [(.int (if (if (0 : Int32) < (if (0 : Int32) = (0 : Int32) then (1 : Int32) else (if (if v1 < v2 then (-1 : Int32) else (if v1 = v2 then (0 : Int32) else (1 : Int32))) = (0 : Int32) then (1 : Int32) else (if v1 < v2 then (-1 : Int32) else (if v1 = v2 then (0 : Int32) else (1 : Int32))))) then (1 : Int32) else (0 : Int32)) = (0 : Int32) then (0 : Int32) else (1 : Int32)))])) (fun t k => ?_) ?_
        · show Steps p.tables e below (T40.setTop (mkF m 167 #[.val (.int p0), .val (.int p1), .val (.int p2), .val (.int p3), .val (.int p4), .val (.int (0 : Int32)), .val (.ref w_SHORTEST_DISTANCE), .val (.int (0 : Int32)), .val (.int (1 : Int32)), .val (.int v1), .val (.int v2), .val (.int m1), .val (.int m2), .val (.double (FP.i2d vM)), .second, .val (.double (FP.i2d vN)), .second, .val (.int (if (0 : Int32) = (0 : Int32) then (1 : Int32) else (if (if v1 < v2 then (-1 : Int32) else (if v1 = v2 then (0 : Int32) else (1 : Int32))) = (0 : Int32) then (1 : Int32) else (if v1 < v2 then (-1 : Int32) else (if v1 = v2 then (0 : Int32) else (1 : Int32)))))), .val (.int (if (0 : Int32) < (if (0 : Int32) = (0 : Int32) then (1 : Int32) else (if (if v1 < v2 then (-1 : Int32) else (if v1 = v2 then (0 : Int32) else (1 : Int32))) = (0 : Int32) then (1 : Int32) else (if v1 < v2 then (-1 : Int32) else (if v1 = v2 then (0 : Int32) else (1 : Int32))))) then (1 : Int32) else (0 : Int32)))] [(.int (if (0 : Int32) < (if (0 : Int32) = (0 : Int32) then (1 : Int32) else (if (if v1 < v2 then (-1 : Int32) else (if v1 = v2 then (0 : Int32) else (1 : Int32))) = (0 : Int32) then (1 : Int32) else (if v1 < v2 then (-1 : Int32) else (if v1 = v2 then (0 : Int32) else (1 : Int32))))) then (1 : Int32) else (0 : Int32)))])) _
          by_cases hc44 : (if (0 : Int32) < (if (0 : Int32) = (0 : Int32) then (1 : Int32) else (if (if v1 < v2 then (-1 : Int32) else (if v1 = v2 then (0 : Int32) else (1 : Int32))) = (0 : Int32) then (1 : Int32) else (if v1 < v2 then (-1 : Int32) else (if v1 = v2 then (0 : Int32) else (1 : Int32))))) then (1 : Int32) else (0 : Int32)) = (0 : Int32)
          · --
            refine XS.ifYes X40.here hx rfl (pc0 := 167) (pc' := 174) rfl (hb hby at_167) rfl ((if0 _ _).trans (teq hc44).1) (by decide) (by decide) ?_
            show Steps p.tables e below (T40.setTop (mkF m 174 #[.val (.int p0), .val (.int p1), .val (.int p2), .val (.int p3), .val (.int p4), .val (.int (0 : Int32)), .val (.ref w_SHORTEST_DISTANCE), .val (.int (0 : Int32)), .val (.int (1 : Int32)), .val (.int v1), .val (.int v2), .val (.int m1), .val (.int m2), .val (.double (FP.i2d vM)), .second, .val (.double (FP.i2d vN)), .second, .val (.int (if (0 : Int32) = (0 : Int32) then (1 : Int32) else (if (if v1 < v2 then (-1 : Int32) else (if v1 = v2 then (0 : Int32) else (1 : Int32))) = (0 : Int32) then (1 : Int32) else (if v1 < v2 then (-1 : Int32) else (if v1 = v2 then (0 : Int32) else (1 : Int32)))))), .val (.int (if (0 : Int32) < (if (0 : Int32) = (0 : Int32) then (1 : Int32) else (if (if v1 < v2 then (-1 : Int32) else (if v1 = v2 then (0 : Int32) else (1 : Int32))) = (0 : Int32) then (1 : Int32) else (if v1 < v2 then (-1 : Int32) else (if v1 = v2 then (0 : Int32) else (1 : Int32))))) then (1 : Int32) else (0 : Int32)))] [])) _
            refine XS.iconst X40.here hx rfl (hb hby at_174) ?_
            show Steps p.tables e below (T40.setTop (mkF m 175 #[.val (.int p0), .val (.int p1), .val (.int p2), .val (.int p3), .val (.int p4), .val (.int (0 : Int32)), .val (.ref w_SHORTEST_DISTANCE), .val (.int (0 : Int32)), .val (.int (1 : Int32)), .val (.int v1), .val (.int v2), .val (.int m1), .val (.int m2), .val (.double (FP.i2d vM)), .second, .val (.double (FP.i2d vN)), .second, .val (.int (if (0 : Int32) = (0 : Int32) then (1 : Int32) else (if (if v1 < v2 then (-1 : Int32) else (if v1 = v2 then (0 : Int32) else (1 : Int32))) = (0 : Int32) then (1 : Int32) else (if v1 < v2 then (-1 : Int32) else (if v1 = v2 then (0 : Int32) else (1 : Int32)))))), .val (.int (if (0 : Int32) < (if (0 : Int32) = (0 : Int32) then (1 : Int32) else (if (if v1 < v2 then (-1 : Int32) else (if v1 = v2 then (0 : Int32) else (1 : Int32))) = (0 : Int32) then (1 : Int32) else (if v1 < v2 then (-1 : Int32) else (if v1 = v2 then (0 : Int32) else (1 : Int32))))) then (1 : Int32) else (0 : Int32)))] [(.int (0 : Int32))])) _
            first | (simp only [if_pos hc44] at k; exact k) | ((repeat (first | rw [if_pos hc44] at k)); exact k)
          · --
            refine XS.ifNo X40.here hx rfl (hb hby at_167) rfl ((if0 _ _).trans (feq hc44).1) ?_
            show Steps p.tables e below (T40.setTop (mkF m 170 #[.val (.int p0), .val (.int p1), .val (.int p2), .val (.int p3), .val (.int p4), .val (.int (0 : Int32)), .val (.ref w_SHORTEST_DISTANCE), .val (.int (0 : Int32)), .val (.int (1 : Int32)), .val (.int v1), .val (.int v2), .val (.int m1), .val (.int m2), .val (.double (FP.i2d vM)), .second, .val (.double (FP.i2d vN)), .second, .val (.int (if (0 : Int32) = (0 : Int32) then (1 : Int32) else (if (if v1 < v2 then (-1 : Int32) else (if v1 = v2 then (0 : Int32) else (1 : Int32))) = (0 : Int32) then (1 : Int32) else (if v1 < v2 then (-1 : Int32) else (if v1 = v2 then (0 : Int32) else (1 : Int32)))))), .val (.int (if (0 : Int32) < (if (0 : Int32) = (0 : Int32) then (1 : Int32) else (if (if v1 < v2 then (-1 : Int32) else (if v1 = v2 then (0 : Int32) else (1 : Int32))) = (0 : Int32) then (1 : Int32) else (if v1 < v2 then (-1 : Int32) else (if v1 = v2 then (0 : Int32) else (1 : Int32))))) then (1 : Int32) else (0 : Int32)))] [])) _
            refine XS.iconst X40.here hx rfl (hb hby at_170) ?_
            show Steps p.tables e below (T40.setTop (mkF m 171 #[.val (.int p0), .val (.int p1), .val (.int p2), .val (.int p3), .val (.int p4), .val (.int (0 : Int32)), .val (.ref w_SHORTEST_DISTANCE), .val (.int (0 : Int32)), .val (.int (1 : Int32)), .val (.int v1), .val (.int v2), .val (.int m1), .val (.int m2), .val (.double (FP.i2d vM)), .second, .val (.double (FP.i2d vN)), .second, .val (.int (if (0 : Int32) = (0 : Int32) then (1 : Int32) else (if (if v1 < v2 then (-1 : Int32) else (if v1 = v2 then (0 : Int32) else (1 : Int32))) = (0 : Int32) then (1 : Int32) else (if v1 < v2 then (-1 : Int32) else (if v1 = v2 then (0 : Int32) else (1 : Int32)))))), .val (.int (if (0 : Int32) < (if (0 : Int32) = (0 : Int32) then (1 : Int32) else (if (if v1 < v2 then (-1 : Int32) else (if v1 = v2 then (0 : Int32) else (1 : Int32))) = (0 : Int32) then (1 : Int32) else (if v1 < v2 then (-1 : Int32) else (if v1 = v2 then (0 : Int32) else (1 : Int32))))) then (1 : Int32) else (0 : Int32)))] [(.int (1 : Int32))])) _
            refine XS.goto X40.here hx rfl (pc0 := 171) (pc' := 175) rfl (hb hby at_171) (by decide) (by decide) ?_
            show Steps p.tables e below (T40.setTop (mkF m 175 #[.val (.int p0), .val (.int p1), .val (.int p2), .val (.int p3), .val (.int p4), .val (.int (0 : Int32)), .val (.ref w_SHORTEST_DISTANCE), .val (.int (0 : Int32)), .val (.int (1 : Int32)), .val (.int v1), .val (.int v2), .val (.int m1), .val (.int m2), .val (.double (FP.i2d vM)), .second, .val (.double (FP.i2d vN)), .second, .val (.int (if (0 : Int32) = (0 : Int32) then (1 : Int32) else (if (if v1 < v2 then (-1 : Int32) else (if v1 = v2 then (0 : Int32) else (1 : Int32))) = (0 : Int32) then (1 : Int32) else (if v1 < v2 then (-1 : Int32) else (if v1 = v2 then (0 : Int32) else (1 : Int32)))))), .val (.int (if (0 : Int32) < (if (0 : Int32) = (0 : Int32) then (1 : Int32) else (if (if v1 < v2 then (-1 : Int32) else (if v1 = v2 then (0 : Int32) else (1 : Int32))) = (0 : Int32) then (1 : Int32) else (if v1 < v2 then (-1 : Int32) else (if v1 = v2 then (0 : Int32) else (1 : Int32))))) then (1 : Int32) else (0 : Int32)))] [(.int (1 : Int32))])) _
            first | (simp only [if_neg hc44] at k; exact k) | ((repeat (first | rw [if_neg hc44] at k)); exact k)
        show own_Goes p e below _ (T40.setTop (mkF m 175 #[.val (.int p0), .val (.int p1), .val (.int p2), .val (.int p3), .val (.int p4), .val (.int (0 : Int32)), .val (.ref w_SHORTEST_DISTANCE), .val (.int (0 : Int32)), .val (.int (1 : Int32)), .val (.int v1), .val (.int v2), .val (.int m1), .val (.int m2), .val (.double (FP.i2d vM)), .second, .val (.double (FP.i2d vN)), .second, .val (.int (if (0 : Int32) = (0 : Int32) then (1 : Int32) else (if (if v1 < v2 then (-1 : Int32) else (if v1 = v2 then (0 : Int32) else (1 : Int32))) = (0 : Int32) then (1 : Int32) else (if v1 < v2 then (-1 : Int32) else (if v1 = v2 then (0 : Int32) else (1 : Int32)))))), .val (.int (if (0 : Int32) < (if (0 : Int32) = (0 : Int32) then (1 : Int32) else (if (if v1 < v2 then (-1 : Int32) else (if v1 = v2 then (0 : Int32) else (1 : Int32))) = (0 : Int32) then (1 : Int32) else (if v1 < v2 then (-1 : Int32) else (if v1 = v2 then (0 : Int32) else (1 : Int32))))) then (1 : Int32) else (0 : Int32)))] [(.int (if (if (0 : Int32) < (if (0 : Int32) = (0 : Int32) then (1 : Int32) else (if (if v1 < v2 then (-1 : Int32) else (if v1 = v2 then (0 : Int32) else (1 : Int32))) = (0 : Int32) then (1 : Int32) else (if v1 < v2 then (-1 : Int32) else (if v1 = v2 then (0 : Int32) else (1 : Int32))))) then (1 : Int32) else (0 : Int32)) = (0 : Int32) then (0 : Int32) else (1 : Int32)))]))
        refine own_retL X40 hx hlk Bd.returns (hb hby at_175) (?_ : (if (if (0 : Int32) < (if (0 : Int32) = (0 : Int32) then (1 : Int32) else (if (if v1 < v2 then (-1 : Int32) else (if v1 = v2 then (0 : Int32) else (1 : Int32))) = (0 : Int32) then (1 : Int32) else (if v1 < v2 then (-1 : Int32) else (if v1 = v2 then (0 : Int32) else (1 : Int32))))) then (1 : Int32) else (0 : Int32)) = (0 : Int32) then (0 : Int32) else (1 : Int32)) = 1) N40 (by decide) (by decide)
        exact own_plain0 hv_v1 hv_v2 hc38
  · --
    show own_Goes p e below _ (s₁.setTop (mkF m 13 #[.val (.int p0), .val (.int p1), .val (.int p2), .val (.int p3), .val (.int p4), .val (.int (1 : Int32)), .unset, .unset, .unset, .unset, .unset, .unset, .unset, .unset, .unset, .unset, .unset, .unset, .unset] []))
    refine own_step (fun t k => XS.iload X0.here hx rfl (hb hby at_13) rfl k) ?_
    show own_Goes p e below _ (s₁.setTop (mkF m 15 #[.val (.int p0), .val (.int p1), .val (.int p2), .val (.int p3), .val (.int p4), .val (.int (1 : Int32)), .unset, .unset, .unset, .unset, .unset, .unset, .unset, .unset, .unset, .unset, .unset, .unset, .unset] [(.int (1 : Int32))]))
    have hc45 : ¬ ((1 : Int32) = (0 : Int32)) := by decide
    refine own_step (fun t k => XS.ifNo X0.here hx rfl (hb hby at_15) rfl ((if0 _ _).trans (feq hc45).1) k) ?_
    show own_Goes p e below _ (s₁.setTop (mkF m 18 #[.val (.int p0), .val (.int p1), .val (.int p2), .val (.int p3), .val (.int p4), .val (.int (1 : Int32)), .unset, .unset, .unset, .unset, .unset, .unset, .unset, .unset, .unset, .unset, .unset, .unset, .unset] []))
    obtain ⟨T46, X46, e46, st46⟩ := getS2 X0 hx hZ hown (host := "") (Or.inl w32) Via.refl e0 (S_FEWEST_VEHICLES.ext O0.2) (g := (mkF m 18 #[.val (.int p0), .val (.int p1), .val (.int p2), .val (.int p3), .val (.int p4), .val (.int (1 : Int32)), .unset, .unset, .unset, .unset, .unset, .unset, .unset, .unset, .unset, .unset, .unset, .unset, .unset] [])) rfl (hb hby at_18)
    refine own_step st46 ?_
    show own_Goes p e below _ (T46.setTop (mkF m 21 #[.val (.int p0), .val (.int p1), .val (.int p2), .val (.int p3), .val (.int p4), .val (.int (1 : Int32)), .unset, .unset, .unset, .unset, .unset, .unset, .unset, .unset, .unset, .unset, .unset, .unset, .unset] [(.ref w_FEWEST_VEHICLES)]))
    refine own_step (fun t k => XS.goto X46.here hx rfl (pc0 := 21) (pc' := 27) rfl (hb hby at_21) (by decide) (by decide) k) ?_
    show own_Goes p e below _ (T46.setTop (mkF m 27 #[.val (.int p0), .val (.int p1), .val (.int p2), .val (.int p3), .val (.int p4), .val (.int (1 : Int32)), .unset, .unset, .unset, .unset, .unset, .unset, .unset, .unset, .unset, .unset, .unset, .unset, .unset] [(.ref w_FEWEST_VEHICLES)]))
    refine own_step (fun t k => XS.astore X46.here hx rfl (hb hby at_27) rfl rfl (l' := #[.val (.int p0), .val (.int p1), .val (.int p2), .val (.int p3), .val (.int p4), .val (.int (1 : Int32)), .val (.ref w_FEWEST_VEHICLES), .unset, .unset, .unset, .unset, .unset, .unset, .unset, .unset, .unset, .unset, .unset, .unset]) rfl k) ?_
    show own_Goes p e below _ (T46.setTop (mkF m 29 #[.val (.int p0), .val (.int p1), .val (.int p2), .val (.int p3), .val (.int p4), .val (.int (1 : Int32)), .val (.ref w_FEWEST_VEHICLES), .unset, .unset, .unset, .unset, .unset, .unset, .unset, .unset, .unset, .unset, .unset, .unset] []))
    refine own_step (fun t k => XS.aload X46.here hx rfl (hb hby at_29) rfl rfl k) ?_
    show own_Goes p e below _ (T46.setTop (mkF m 31 #[.val (.int p0), .val (.int p1), .val (.int p2), .val (.int p3), .val (.int p4), .val (.int (1 : Int32)), .val (.ref w_FEWEST_VEHICLES), .unset, .unset, .unset, .unset, .unset, .unset, .unset, .unset, .unset, .unset, .unset, .unset] [(.ref w_FEWEST_VEHICLES)]))
    obtain ⟨cq47, kq47, q47a, q47b, q47c⟩ := isOf hZ e46 E_w_FEWEST_VEHICLES
    obtain ⟨_, _, ⟨T47, L47, k47, n47⟩, -, X47, ⟨Lc47, hQ47, l47, y47, z47⟩, st47⟩ := X46.virtualBack hx (y := (⟨"com/example/waysmith/waysmith/evaluation/Objective", "vehiclesFirst", "()Z"⟩ : MethodName)) (z := (⟨"com/example/waysmith/waysmith/evaluation/Objective", "vehiclesFirst", "()Z"⟩ : MethodName)) hown (mvT hZ w3) (mvT hZ w4) (notFace_of_selects (args := #[]) (mvT hZ w6)) (mvT hZ w6) (mvT hZ w5) (by decide) (backOf (W := 0) (own_b1 l Z a0 hw [] w_FEWEST_VEHICLES (w_FEWEST_VEHICLES) ((1 : Int32)) h0 n0 Z0 S_FEWEST_VEHICLES O0 (if_pos rfl)) hZ w7 w1 (by decide) (by decide)) q47a q47c (g := (mkF m 31 #[.val (.int p0), .val (.int p1), .val (.int p2), .val (.int p3), .val (.int p4), .val (.int (1 : Int32)), .val (.ref w_FEWEST_VEHICLES), .unset, .unset, .unset, .unset, .unset, .unset, .unset, .unset, .unset, .unset, .unset, .unset] [(.ref w_FEWEST_VEHICLES)])) rfl (by rw [hml]; rfl) (Steps.refl _) (argsL := []) (rest := []) (lenOf own_pd2 rfl) rfl (by show 2 * 0 + _ ≤ _; exact Nat.le_of_eq rfl) (hb hby at_31) (fun _ _ => ⟨rfl, e46, (by decide : 0 + 0 ≤ _), (by decide : 0 + 0 ≤ _)⟩)
    dsimp only [Pt.U, Pt.locs, Pt.cells, Pt.slots] at X47 l47 y47 z47 st47 hQ47
    subst l47 y47 z47
    obtain ⟨rfl, N47q, eh47⟩ := hQ47
    have N47 := Fr.app N0 N47q
    refine own_jump st47 ?_
    show own_Goes p e below _ (T47.setTop (mkF m 34 #[.val (.int p0), .val (.int p1), .val (.int p2), .val (.int p3), .val (.int p4), .val (.int (1 : Int32)), .val (.ref w_FEWEST_VEHICLES), .unset, .unset, .unset, .unset, .unset, .unset, .unset, .unset, .unset, .unset, .unset, .unset] [(.int (1 : Int32))]))
    refine own_step (fun t k => XS.istore X47.here hx rfl (hb hby at_34) rfl (l' := #[.val (.int p0), .val (.int p1), .val (.int p2), .val (.int p3), .val (.int p4), .val (.int (1 : Int32)), .val (.ref w_FEWEST_VEHICLES), .val (.int (1 : Int32)), .unset, .unset, .unset, .unset, .unset, .unset, .unset, .unset, .unset, .unset, .unset]) rfl k) ?_
    show own_Goes p e below _ (T47.setTop (mkF m 36 #[.val (.int p0), .val (.int p1), .val (.int p2), .val (.int p3), .val (.int p4), .val (.int (1 : Int32)), .val (.ref w_FEWEST_VEHICLES), .val (.int (1 : Int32)), .unset, .unset, .unset, .unset, .unset, .unset, .unset, .unset, .unset, .unset, .unset] []))
    refine own_step (fun t k => XS.iload X47.here hx rfl (hb hby at_36) rfl k) ?_
    show own_Goes p e below _ (T47.setTop (mkF m 38 #[.val (.int p0), .val (.int p1), .val (.int p2), .val (.int p3), .val (.int p4), .val (.int (1 : Int32)), .val (.ref w_FEWEST_VEHICLES), .val (.int (1 : Int32)), .unset, .unset, .unset, .unset, .unset, .unset, .unset, .unset, .unset, .unset, .unset] [(.int (1 : Int32))]))
    refine own_step (fun t k => XS.iload X47.here hx rfl (hb hby at_38) rfl k) ?_
    show own_Goes p e below _ (T47.setTop (mkF m 40 #[.val (.int p0), .val (.int p1), .val (.int p2), .val (.int p3), .val (.int p4), .val (.int (1 : Int32)), .val (.ref w_FEWEST_VEHICLES), .val (.int (1 : Int32)), .unset, .unset, .unset, .unset, .unset, .unset, .unset, .unset, .unset, .unset, .unset] [(.int (1 : Int32)), (.int (1 : Int32))]))
    have hc48 : (1 : Int32) = (1 : Int32) := rfl
    refine own_step (fun t k => XS.icmpNo X47.here hx rfl (hb hby at_40) rfl (teq hc48).2 k) ?_
    show own_Goes p e below _ (T47.setTop (mkF m 43 #[.val (.int p0), .val (.int p1), .val (.int p2), .val (.int p3), .val (.int p4), .val (.int (1 : Int32)), .val (.ref w_FEWEST_VEHICLES), .val (.int (1 : Int32)), .unset, .unset, .unset, .unset, .unset, .unset, .unset, .unset, .unset, .unset, .unset] []))
    refine own_step (fun t k => XS.iconst X47.here hx rfl (hb hby at_43) k) ?_
    show own_Goes p e below _ (T47.setTop (mkF m 44 #[.val (.int p0), .val (.int p1), .val (.int p2), .val (.int p3), .val (.int p4), .val (.int (1 : Int32)), .val (.ref w_FEWEST_VEHICLES), .val (.int (1 : Int32)), .unset, .unset, .unset, .unset, .unset, .unset, .unset, .unset, .unset, .unset, .unset] [(.int (1 : Int32))]))
    refine own_step (fun t k => XS.goto X47.here hx rfl (pc0 := 44) (pc' := 48) rfl (hb hby at_44) (by decide) (by decide) k) ?_
    show own_Goes p e below _ (T47.setTop (mkF m 48 #[.val (.int p0), .val (.int p1), .val (.int p2), .val (.int p3), .val (.int p4), .val (.int (1 : Int32)), .val (.ref w_FEWEST_VEHICLES), .val (.int (1 : Int32)), .unset, .unset, .unset, .unset, .unset, .unset, .unset, .unset, .unset, .unset, .unset] [(.int (1 : Int32))]))
    refine own_step (fun t k => XS.istore X47.here hx rfl (hb hby at_48) rfl (l' := #[.val (.int p0), .val (.int p1), .val (.int p2), .val (.int p3), .val (.int p4), .val (.int (1 : Int32)), .val (.ref w_FEWEST_VEHICLES), .val (.int (1 : Int32)), .val (.int (1 : Int32)), .unset, .unset, .unset, .unset, .unset, .unset, .unset, .unset, .unset, .unset]) rfl k) ?_
    show own_Goes p e below _ (T47.setTop (mkF m 50 #[.val (.int p0), .val (.int p1), .val (.int p2), .val (.int p3), .val (.int p4), .val (.int (1 : Int32)), .val (.ref w_FEWEST_VEHICLES), .val (.int (1 : Int32)), .val (.int (1 : Int32)), .unset, .unset, .unset, .unset, .unset, .unset, .unset, .unset, .unset, .unset] []))
    refine own_step (fun t k => XS.iloadN X47.here hx rfl (hb hby at_50) rfl k) ?_
    show own_Goes p e below _ (T47.setTop (mkF m 51 #[.val (.int p0), .val (.int p1), .val (.int p2), .val (.int p3), .val (.int p4), .val (.int (1 : Int32)), .val (.ref w_FEWEST_VEHICLES), .val (.int (1 : Int32)), .val (.int (1 : Int32)), .unset, .unset, .unset, .unset, .unset, .unset, .unset, .unset, .unset, .unset] [(.int p1)]))
    refine own_step (fun t k => XS.iloadN X47.here hx rfl (hb hby at_51) rfl k) ?_
    show own_Goes p e below _ (T47.setTop (mkF m 52 #[.val (.int p0), .val (.int p1), .val (.int p2), .val (.int p3), .val (.int p4), .val (.int (1 : Int32)), .val (.ref w_FEWEST_VEHICLES), .val (.int (1 : Int32)), .val (.int (1 : Int32)), .unset, .unset, .unset, .unset, .unset, .unset, .unset, .unset, .unset, .unset] [(.int p2), (.int p1)]))
    obtain ⟨_, _, ⟨T49, L49, k49, n49⟩, -, X49, ⟨Lc49, hQ49, l49, y49, z49⟩, st49⟩ := Jvm.LawKit.callS X47 hx (y := (⟨"java/lang/Math", "min", "(II)I"⟩ : MethodName)) hown (mvT hZ w10) (mvT hZ w11) (mvT hZ w12) (mvT hZ w13) (by decide) (backOf (W := 0) (own_b2 l Z a0 hw [] p1 p2  h0 n0 Z0 ) hZ w13 w12 (by decide) (by decide)) (g := (mkF m 52 #[.val (.int p0), .val (.int p1), .val (.int p2), .val (.int p3), .val (.int p4), .val (.int (1 : Int32)), .val (.ref w_FEWEST_VEHICLES), .val (.int (1 : Int32)), .val (.int (1 : Int32)), .unset, .unset, .unset, .unset, .unset, .unset, .unset, .unset, .unset, .unset] [(.int p2), (.int p1)])) rfl (by rw [hml]; rfl) (argsL := [(.int p1), (.int p2)]) (rest := []) (lenOf own_pd0 rfl) rfl (by show 2 * 0 + _ ≤ _; exact Nat.le_of_eq rfl) (hb hby at_52) (fun _ _ => ⟨rfl, eh47, (by decide : 0 + 0 ≤ _), (by decide : 0 + 0 ≤ _)⟩)
    dsimp only [Pt.U, Pt.locs, Pt.cells, Pt.slots] at X49 l49 y49 z49 st49 hQ49
    subst l49 y49 z49
    obtain ⟨rfl, N49q, eh49⟩ := hQ49
    have N49 := Fr.app N47 N49q
    refine own_step st49 ?_
    show own_Goes p e below _ (T49.setTop (mkF m 55 #[.val (.int p0), .val (.int p1), .val (.int p2), .val (.int p3), .val (.int p4), .val (.int (1 : Int32)), .val (.ref w_FEWEST_VEHICLES), .val (.int (1 : Int32)), .val (.int (1 : Int32)), .unset, .unset, .unset, .unset, .unset, .unset, .unset, .unset, .unset, .unset] [(.int (if p2 < p1 then p2 else p1))]))
    generalize hv_v1 : (if p2 < p1 then p2 else p1) = v1
    refine own_step (fun t k => XS.istore X49.here hx rfl (hb hby at_55) rfl (l' := #[.val (.int p0), .val (.int p1), .val (.int p2), .val (.int p3), .val (.int p4), .val (.int (1 : Int32)), .val (.ref w_FEWEST_VEHICLES), .val (.int (1 : Int32)), .val (.int (1 : Int32)), .val (.int v1), .unset, .unset, .unset, .unset, .unset, .unset, .unset, .unset, .unset]) rfl k) ?_
    show own_Goes p e below _ (T49.setTop (mkF m 57 #[.val (.int p0), .val (.int p1), .val (.int p2), .val (.int p3), .val (.int p4), .val (.int (1 : Int32)), .val (.ref w_FEWEST_VEHICLES), .val (.int (1 : Int32)), .val (.int (1 : Int32)), .val (.int v1), .unset, .unset, .unset, .unset, .unset, .unset, .unset, .unset, .unset] []))
    refine own_step (fun t k => XS.iloadN X49.here hx rfl (hb hby at_57) rfl k) ?_
    show own_Goes p e below _ (T49.setTop (mkF m 58 #[.val (.int p0), .val (.int p1), .val (.int p2), .val (.int p3), .val (.int p4), .val (.int (1 : Int32)), .val (.ref w_FEWEST_VEHICLES), .val (.int (1 : Int32)), .val (.int (1 : Int32)), .val (.int v1), .unset, .unset, .unset, .unset, .unset, .unset, .unset, .unset, .unset] [(.int p1)]))
    refine own_step (fun t k => XS.iloadN X49.here hx rfl (hb hby at_58) rfl k) ?_
    show own_Goes p e below _ (T49.setTop (mkF m 59 #[.val (.int p0), .val (.int p1), .val (.int p2), .val (.int p3), .val (.int p4), .val (.int (1 : Int32)), .val (.ref w_FEWEST_VEHICLES), .val (.int (1 : Int32)), .val (.int (1 : Int32)), .val (.int v1), .unset, .unset, .unset, .unset, .unset, .unset, .unset, .unset, .unset] [(.int p2), (.int p1)]))
    obtain ⟨_, _, ⟨T50, L50, k50, n50⟩, -, X50, ⟨Lc50, hQ50, l50, y50, z50⟩, st50⟩ := Jvm.LawKit.callS X49 hx (y := (⟨"java/lang/Math", "max", "(II)I"⟩ : MethodName)) hown (mvT hZ w14) (mvT hZ w15) (mvT hZ w12) (mvT hZ w16) (by decide) (backOf (W := 0) (own_b3 l Z a0 hw [] p1 p2  h0 n0 Z0 ) hZ w16 w12 (by decide) (by decide)) (g := (mkF m 59 #[.val (.int p0), .val (.int p1), .val (.int p2), .val (.int p3), .val (.int p4), .val (.int (1 : Int32)), .val (.ref w_FEWEST_VEHICLES), .val (.int (1 : Int32)), .val (.int (1 : Int32)), .val (.int v1), .unset, .unset, .unset, .unset, .unset, .unset, .unset, .unset, .unset] [(.int p2), (.int p1)])) rfl (by rw [hml]; rfl) (argsL := [(.int p1), (.int p2)]) (rest := []) (lenOf own_pd0 rfl) rfl (by show 2 * 0 + _ ≤ _; exact Nat.le_of_eq rfl) (hb hby at_59) (fun _ _ => ⟨rfl, eh49, (by decide : 0 + 0 ≤ _), (by decide : 0 + 0 ≤ _)⟩)
    dsimp only [Pt.U, Pt.locs, Pt.cells, Pt.slots] at X50 l50 y50 z50 st50 hQ50
    subst l50 y50 z50
    obtain ⟨rfl, N50q, eh50⟩ := hQ50
    have N50 := Fr.app N49 N50q
    refine own_step st50 ?_
    show own_Goes p e below _ (T50.setTop (mkF m 62 #[.val (.int p0), .val (.int p1), .val (.int p2), .val (.int p3), .val (.int p4), .val (.int (1 : Int32)), .val (.ref w_FEWEST_VEHICLES), .val (.int (1 : Int32)), .val (.int (1 : Int32)), .val (.int v1), .unset, .unset, .unset, .unset, .unset, .unset, .unset, .unset, .unset] [(.int (if p1 < p2 then p2 else p1))]))
    generalize hv_v2 : (if p1 < p2 then p2 else p1) = v2
    refine own_step (fun t k => XS.istore X50.here hx rfl (hb hby at_62) rfl (l' := #[.val (.int p0), .val (.int p1), .val (.int p2), .val (.int p3), .val (.int p4), .val (.int (1 : Int32)), .val (.ref w_FEWEST_VEHICLES), .val (.int (1 : Int32)), .val (.int (1 : Int32)), .val (.int v1), .val (.int v2), .unset, .unset, .unset, .unset, .unset, .unset, .unset, .unset]) rfl k) ?_
    show own_Goes p e below _ (T50.setTop (mkF m 64 #[.val (.int p0), .val (.int p1), .val (.int p2), .val (.int p3), .val (.int p4), .val (.int (1 : Int32)), .val (.ref w_FEWEST_VEHICLES), .val (.int (1 : Int32)), .val (.int (1 : Int32)), .val (.int v1), .val (.int v2), .unset, .unset, .unset, .unset, .unset, .unset, .unset, .unset] []))
    refine own_step (fun t k => XS.iloadN X50.here hx rfl (hb hby at_64) rfl k) ?_
    show own_Goes p e below _ (T50.setTop (mkF m 65 #[.val (.int p0), .val (.int p1), .val (.int p2), .val (.int p3), .val (.int p4), .val (.int (1 : Int32)), .val (.ref w_FEWEST_VEHICLES), .val (.int (1 : Int32)), .val (.int (1 : Int32)), .val (.int v1), .val (.int v2), .unset, .unset, .unset, .unset, .unset, .unset, .unset, .unset] [(.int p3)]))
    refine own_step (fun t k => X50.ldcInt hx hown (mvT hZ w17) (g := (mkF m 65 #[.val (.int p0), .val (.int p1), .val (.int p2), .val (.int p3), .val (.int p4), .val (.int (1 : Int32)), .val (.ref w_FEWEST_VEHICLES), .val (.int (1 : Int32)), .val (.int (1 : Int32)), .val (.int v1), .val (.int v2), .unset, .unset, .unset, .unset, .unset, .unset, .unset, .unset] [(.int p3)])) rfl (hb hby at_65) _ k) ?_
    show own_Goes p e below _ (T50.setTop (mkF m 67 #[.val (.int p0), .val (.int p1), .val (.int p2), .val (.int p3), .val (.int p4), .val (.int (1 : Int32)), .val (.ref w_FEWEST_VEHICLES), .val (.int (1 : Int32)), .val (.int (1 : Int32)), .val (.int v1), .val (.int v2), .unset, .unset, .unset, .unset, .unset, .unset, .unset, .unset] [(.int (65535 : Int32)), (.int p3)]))
    refine own_step (fun t k => XS.iand X50.here hx rfl (hb hby at_67) rfl k) ?_
    show own_Goes p e below _ (T50.setTop (mkF m 68 #[.val (.int p0), .val (.int p1), .val (.int p2), .val (.int p3), .val (.int p4), .val (.int (1 : Int32)), .val (.ref w_FEWEST_VEHICLES), .val (.int (1 : Int32)), .val (.int (1 : Int32)), .val (.int v1), .val (.int v2), .unset, .unset, .unset, .unset, .unset, .unset, .unset, .unset] [(.int (p3 &&& (65535 : Int32)))]))
    refine own_step (fun t k => XS.istore X50.here hx rfl (hb hby at_68) rfl (l' := #[.val (.int p0), .val (.int p1), .val (.int p2), .val (.int p3), .val (.int p4), .val (.int (1 : Int32)), .val (.ref w_FEWEST_VEHICLES), .val (.int (1 : Int32)), .val (.int (1 : Int32)), .val (.int v1), .val (.int v2), .val (.int (p3 &&& (65535 : Int32))), .unset, .unset, .unset, .unset, .unset, .unset, .unset]) rfl k) ?_
    show own_Goes p e below _ (T50.setTop (mkF m 70 #[.val (.int p0), .val (.int p1), .val (.int p2), .val (.int p3), .val (.int p4), .val (.int (1 : Int32)), .val (.ref w_FEWEST_VEHICLES), .val (.int (1 : Int32)), .val (.int (1 : Int32)), .val (.int v1), .val (.int v2), .val (.int (p3 &&& (65535 : Int32))), .unset, .unset, .unset, .unset, .unset, .unset, .unset] []))
    generalize hv_m1 : (p3 &&& (65535 : Int32)) = m1
    refine own_step (fun t k => XS.iload X50.here hx rfl (hb hby at_70) rfl k) ?_
    show own_Goes p e below _ (T50.setTop (mkF m 72 #[.val (.int p0), .val (.int p1), .val (.int p2), .val (.int p3), .val (.int p4), .val (.int (1 : Int32)), .val (.ref w_FEWEST_VEHICLES), .val (.int (1 : Int32)), .val (.int (1 : Int32)), .val (.int v1), .val (.int v2), .val (.int m1), .unset, .unset, .unset, .unset, .unset, .unset, .unset] [(.int p4)]))
    refine own_step (fun t k => X50.ldcInt hx hown (mvT hZ w17) (g := (mkF m 72 #[.val (.int p0), .val (.int p1), .val (.int p2), .val (.int p3), .val (.int p4), .val (.int (1 : Int32)), .val (.ref w_FEWEST_VEHICLES), .val (.int (1 : Int32)), .val (.int (1 : Int32)), .val (.int v1), .val (.int v2), .val (.int m1), .unset, .unset, .unset, .unset, .unset, .unset, .unset] [(.int p4)])) rfl (hb hby at_72) _ k) ?_
    show own_Goes p e below _ (T50.setTop (mkF m 74 #[.val (.int p0), .val (.int p1), .val (.int p2), .val (.int p3), .val (.int p4), .val (.int (1 : Int32)), .val (.ref w_FEWEST_VEHICLES), .val (.int (1 : Int32)), .val (.int (1 : Int32)), .val (.int v1), .val (.int v2), .val (.int m1), .unset, .unset, .unset, .unset, .unset, .unset, .unset] [(.int (65535 : Int32)), (.int p4)]))
    refine own_step (fun t k => XS.iand X50.here hx rfl (hb hby at_74) rfl k) ?_
    show own_Goes p e below _ (T50.setTop (mkF m 75 #[.val (.int p0), .val (.int p1), .val (.int p2), .val (.int p3), .val (.int p4), .val (.int (1 : Int32)), .val (.ref w_FEWEST_VEHICLES), .val (.int (1 : Int32)), .val (.int (1 : Int32)), .val (.int v1), .val (.int v2), .val (.int m1), .unset, .unset, .unset, .unset, .unset, .unset, .unset] [(.int (p4 &&& (65535 : Int32)))]))
    refine own_step (fun t k => XS.istore X50.here hx rfl (hb hby at_75) rfl (l' := #[.val (.int p0), .val (.int p1), .val (.int p2), .val (.int p3), .val (.int p4), .val (.int (1 : Int32)), .val (.ref w_FEWEST_VEHICLES), .val (.int (1 : Int32)), .val (.int (1 : Int32)), .val (.int v1), .val (.int v2), .val (.int m1), .val (.int (p4 &&& (65535 : Int32))), .unset, .unset, .unset, .unset, .unset, .unset]) rfl k) ?_
    show own_Goes p e below _ (T50.setTop (mkF m 77 #[.val (.int p0), .val (.int p1), .val (.int p2), .val (.int p3), .val (.int p4), .val (.int (1 : Int32)), .val (.ref w_FEWEST_VEHICLES), .val (.int (1 : Int32)), .val (.int (1 : Int32)), .val (.int v1), .val (.int v2), .val (.int m1), .val (.int (p4 &&& (65535 : Int32))), .unset, .unset, .unset, .unset, .unset, .unset] []))
    generalize hv_m2 : (p4 &&& (65535 : Int32)) = m2
    refine own_step (fun t k => XS.iload X50.here hx rfl (hb hby at_77) rfl k) ?_
    show own_Goes p e below _ (T50.setTop (mkF m 79 #[.val (.int p0), .val (.int p1), .val (.int p2), .val (.int p3), .val (.int p4), .val (.int (1 : Int32)), .val (.ref w_FEWEST_VEHICLES), .val (.int (1 : Int32)), .val (.int (1 : Int32)), .val (.int v1), .val (.int v2), .val (.int m1), .val (.int m2), .unset, .unset, .unset, .unset, .unset, .unset] [(.int m1)]))
    refine own_step (fun t k => XS.iload X50.here hx rfl (hb hby at_79) rfl k) ?_
    show own_Goes p e below _ (T50.setTop (mkF m 81 #[.val (.int p0), .val (.int p1), .val (.int p2), .val (.int p3), .val (.int p4), .val (.int (1 : Int32)), .val (.ref w_FEWEST_VEHICLES), .val (.int (1 : Int32)), .val (.int (1 : Int32)), .val (.int v1), .val (.int v2), .val (.int m1), .val (.int m2), .unset, .unset, .unset, .unset, .unset, .unset] [(.int m2), (.int m1)]))
    obtain ⟨_, _, ⟨T51, L51, k51, n51⟩, -, X51, ⟨Lc51, hQ51, l51, y51, z51⟩, st51⟩ := Jvm.LawKit.callS X50 hx (y := (⟨"java/lang/Math", "max", "(II)I"⟩ : MethodName)) hown (mvT hZ w14) (mvT hZ w15) (mvT hZ w12) (mvT hZ w16) (by decide) (backOf (W := 0) (own_b3 l Z a0 hw [] m1 m2  h0 n0 Z0 ) hZ w16 w12 (by decide) (by decide)) (g := (mkF m 81 #[.val (.int p0), .val (.int p1), .val (.int p2), .val (.int p3), .val (.int p4), .val (.int (1 : Int32)), .val (.ref w_FEWEST_VEHICLES), .val (.int (1 : Int32)), .val (.int (1 : Int32)), .val (.int v1), .val (.int v2), .val (.int m1), .val (.int m2), .unset, .unset, .unset, .unset, .unset, .unset] [(.int m2), (.int m1)])) rfl (by rw [hml]; rfl) (argsL := [(.int m1), (.int m2)]) (rest := []) (lenOf own_pd0 rfl) rfl (by show 2 * 0 + _ ≤ _; exact Nat.le_of_eq rfl) (hb hby at_81) (fun _ _ => ⟨rfl, eh50, (by decide : 0 + 0 ≤ _), (by decide : 0 + 0 ≤ _)⟩)
    dsimp only [Pt.U, Pt.locs, Pt.cells, Pt.slots] at X51 l51 y51 z51 st51 hQ51
    subst l51 y51 z51
    obtain ⟨rfl, N51q, eh51⟩ := hQ51
    have N51 := Fr.app N50 N51q
    refine own_step st51 ?_
    show own_Goes p e below _ (T51.setTop (mkF m 84 #[.val (.int p0), .val (.int p1), .val (.int p2), .val (.int p3), .val (.int p4), .val (.int (1 : Int32)), .val (.ref w_FEWEST_VEHICLES), .val (.int (1 : Int32)), .val (.int (1 : Int32)), .val (.int v1), .val (.int v2), .val (.int m1), .val (.int m2), .unset, .unset, .unset, .unset, .unset, .unset] [(.int (if m1 < m2 then m2 else m1))]))
    generalize hv_vM : (if m1 < m2 then m2 else m1) = vM
    refine own_step (fun t k => XS.i2dS X51.here hx rfl (hb hby at_84) rfl rfl k) ?_
    show own_Goes p e below _ (T51.setTop (mkF m 85 #[.val (.int p0), .val (.int p1), .val (.int p2), .val (.int p3), .val (.int p4), .val (.int (1 : Int32)), .val (.ref w_FEWEST_VEHICLES), .val (.int (1 : Int32)), .val (.int (1 : Int32)), .val (.int v1), .val (.int v2), .val (.int m1), .val (.int m2), .unset, .unset, .unset, .unset, .unset, .unset] [(.double (FP.i2d vM))]))
    refine own_step (fun t k => XS.dstore X51.here hx rfl (hb hby at_85) rfl (l' := #[.val (.int p0), .val (.int p1), .val (.int p2), .val (.int p3), .val (.int p4), .val (.int (1 : Int32)), .val (.ref w_FEWEST_VEHICLES), .val (.int (1 : Int32)), .val (.int (1 : Int32)), .val (.int v1), .val (.int v2), .val (.int m1), .val (.int m2), .val (.double (FP.i2d vM)), .second, .unset, .unset, .unset, .unset]) rfl k) ?_
    show own_Goes p e below _ (T51.setTop (mkF m 87 #[.val (.int p0), .val (.int p1), .val (.int p2), .val (.int p3), .val (.int p4), .val (.int (1 : Int32)), .val (.ref w_FEWEST_VEHICLES), .val (.int (1 : Int32)), .val (.int (1 : Int32)), .val (.int v1), .val (.int v2), .val (.int m1), .val (.int m2), .val (.double (FP.i2d vM)), .second, .unset, .unset, .unset, .unset] []))
    refine own_step (fun t k => XS.iload X51.here hx rfl (hb hby at_87) rfl k) ?_
    show own_Goes p e below _ (T51.setTop (mkF m 89 #[.val (.int p0), .val (.int p1), .val (.int p2), .val (.int p3), .val (.int p4), .val (.int (1 : Int32)), .val (.ref w_FEWEST_VEHICLES), .val (.int (1 : Int32)), .val (.int (1 : Int32)), .val (.int v1), .val (.int v2), .val (.int m1), .val (.int m2), .val (.double (FP.i2d vM)), .second, .unset, .unset, .unset, .unset] [(.int m1)]))
    refine own_step (fun t k => XS.iload X51.here hx rfl (hb hby at_89) rfl k) ?_
    show own_Goes p e below _ (T51.setTop (mkF m 91 #[.val (.int p0), .val (.int p1), .val (.int p2), .val (.int p3), .val (.int p4), .val (.int (1 : Int32)), .val (.ref w_FEWEST_VEHICLES), .val (.int (1 : Int32)), .val (.int (1 : Int32)), .val (.int v1), .val (.int v2), .val (.int m1), .val (.int m2), .val (.double (FP.i2d vM)), .second, .unset, .unset, .unset, .unset] [(.int m2), (.int m1)]))
    obtain ⟨_, _, ⟨T52, L52, k52, n52⟩, -, X52, ⟨Lc52, hQ52, l52, y52, z52⟩, st52⟩ := Jvm.LawKit.callS X51 hx (y := (⟨"java/lang/Math", "min", "(II)I"⟩ : MethodName)) hown (mvT hZ w10) (mvT hZ w11) (mvT hZ w12) (mvT hZ w13) (by decide) (backOf (W := 0) (own_b2 l Z a0 hw [] m1 m2  h0 n0 Z0 ) hZ w13 w12 (by decide) (by decide)) (g := (mkF m 91 #[.val (.int p0), .val (.int p1), .val (.int p2), .val (.int p3), .val (.int p4), .val (.int (1 : Int32)), .val (.ref w_FEWEST_VEHICLES), .val (.int (1 : Int32)), .val (.int (1 : Int32)), .val (.int v1), .val (.int v2), .val (.int m1), .val (.int m2), .val (.double (FP.i2d vM)), .second, .unset, .unset, .unset, .unset] [(.int m2), (.int m1)])) rfl (by rw [hml]; rfl) (argsL := [(.int m1), (.int m2)]) (rest := []) (lenOf own_pd0 rfl) rfl (by show 2 * 0 + _ ≤ _; exact Nat.le_of_eq rfl) (hb hby at_91) (fun _ _ => ⟨rfl, eh51, (by decide : 0 + 0 ≤ _), (by decide : 0 + 0 ≤ _)⟩)
    dsimp only [Pt.U, Pt.locs, Pt.cells, Pt.slots] at X52 l52 y52 z52 st52 hQ52
    subst l52 y52 z52
    obtain ⟨rfl, N52q, eh52⟩ := hQ52
    have N52 := Fr.app N51 N52q
    refine own_step st52 ?_
    show own_Goes p e below _ (T52.setTop (mkF m 94 #[.val (.int p0), .val (.int p1), .val (.int p2), .val (.int p3), .val (.int p4), .val (.int (1 : Int32)), .val (.ref w_FEWEST_VEHICLES), .val (.int (1 : Int32)), .val (.int (1 : Int32)), .val (.int v1), .val (.int v2), .val (.int m1), .val (.int m2), .val (.double (FP.i2d vM)), .second, .unset, .unset, .unset, .unset] [(.int (if m2 < m1 then m2 else m1))]))
    generalize hv_vN : (if m2 < m1 then m2 else m1) = vN
    refine own_step (fun t k => XS.i2dS X52.here hx rfl (hb hby at_94) rfl rfl k) ?_
    show own_Goes p e below _ (T52.setTop (mkF m 95 #[.val (.int p0), .val (.int p1), .val (.int p2), .val (.int p3), .val (.int p4), .val (.int (1 : Int32)), .val (.ref w_FEWEST_VEHICLES), .val (.int (1 : Int32)), .val (.int (1 : Int32)), .val (.int v1), .val (.int v2), .val (.int m1), .val (.int m2), .val (.double (FP.i2d vM)), .second, .unset, .unset, .unset, .unset] [(.double (FP.i2d vN))]))
    refine own_step (fun t k => XS.dstore X52.here hx rfl (hb hby at_95) rfl (l' := #[.val (.int p0), .val (.int p1), .val (.int p2), .val (.int p3), .val (.int p4), .val (.int (1 : Int32)), .val (.ref w_FEWEST_VEHICLES), .val (.int (1 : Int32)), .val (.int (1 : Int32)), .val (.int v1), .val (.int v2), .val (.int m1), .val (.int m2), .val (.double (FP.i2d vM)), .second, .val (.double (FP.i2d vN)), .second, .unset, .unset]) rfl k) ?_
    show own_Goes p e below _ (T52.setTop (mkF m 97 #[.val (.int p0), .val (.int p1), .val (.int p2), .val (.int p3), .val (.int p4), .val (.int (1 : Int32)), .val (.ref w_FEWEST_VEHICLES), .val (.int (1 : Int32)), .val (.int (1 : Int32)), .val (.int v1), .val (.int v2), .val (.int m1), .val (.int m2), .val (.double (FP.i2d vM)), .second, .val (.double (FP.i2d vN)), .second, .unset, .unset] []))
    refine own_step (fun t k => XS.iload X52.here hx rfl (hb hby at_97) rfl k) ?_
    show own_Goes p e below _ (T52.setTop (mkF m 99 #[.val (.int p0), .val (.int p1), .val (.int p2), .val (.int p3), .val (.int p4), .val (.int (1 : Int32)), .val (.ref w_FEWEST_VEHICLES), .val (.int (1 : Int32)), .val (.int (1 : Int32)), .val (.int v1), .val (.int v2), .val (.int m1), .val (.int m2), .val (.double (FP.i2d vM)), .second, .val (.double (FP.i2d vN)), .second, .unset, .unset] [(.int v1)]))
    refine own_step (fun t k => XS.iload X52.here hx rfl (hb hby at_99) rfl k) ?_
    show own_Goes p e below _ (T52.setTop (mkF m 101 #[.val (.int p0), .val (.int p1), .val (.int p2), .val (.int p3), .val (.int p4), .val (.int (1 : Int32)), .val (.ref w_FEWEST_VEHICLES), .val (.int (1 : Int32)), .val (.int (1 : Int32)), .val (.int v1), .val (.int v2), .val (.int m1), .val (.int m2), .val (.double (FP.i2d vM)), .second, .val (.double (FP.i2d vN)), .second, .unset, .unset] [(.int v2), (.int v1)]))
    by_cases hc53 : v1 = v2
    · --
      refine own_step (fun t k => XS.icmpYes X52.here hx rfl (pc0 := 101) (pc' := 112) rfl (hb hby at_101) rfl (teq hc53).1 (by decide) (by decide) k) ?_
      show own_Goes p e below _ (T52.setTop (mkF m 112 #[.val (.int p0), .val (.int p1), .val (.int p2), .val (.int p3), .val (.int p4), .val (.int (1 : Int32)), .val (.ref w_FEWEST_VEHICLES), .val (.int (1 : Int32)), .val (.int (1 : Int32)), .val (.int v1), .val (.int v2), .val (.int m1), .val (.int m2), .val (.double (FP.i2d vM)), .second, .val (.double (FP.i2d vN)), .second, .unset, .unset] []))
      refine own_step (fun t k => XS.iload X52.here hx rfl (hb hby at_112) rfl k) ?_
      show own_Goes p e below _ (T52.setTop (mkF m 114 #[.val (.int p0), .val (.int p1), .val (.int p2), .val (.int p3), .val (.int p4), .val (.int (1 : Int32)), .val (.ref w_FEWEST_VEHICLES), .val (.int (1 : Int32)), .val (.int (1 : Int32)), .val (.int v1), .val (.int v2), .val (.int m1), .val (.int m2), .val (.double (FP.i2d vM)), .second, .val (.double (FP.i2d vN)), .second, .unset, .unset] [(.int (1 : Int32))]))
      refine own_retL X52 hx hlk Bd.returns (hb hby at_114) (?_ : (1 : Int32) = 1) N52 (by decide) (by decide)
      exact rfl
    · --
      refine own_step (fun t k => XS.icmpNo X52.here hx rfl (hb hby at_101) rfl (feq hc53).1 k) ?_
      show own_Goes p e below _ (T52.setTop (mkF m 104 #[.val (.int p0), .val (.int p1), .val (.int p2), .val (.int p3), .val (.int p4), .val (.int (1 : Int32)), .val (.ref w_FEWEST_VEHICLES), .val (.int (1 : Int32)), .val (.int (1 : Int32)), .val (.int v1), .val (.int v2), .val (.int m1), .val (.int m2), .val (.double (FP.i2d vM)), .second, .val (.double (FP.i2d vN)), .second, .unset, .unset] []))
      refine own_step (fun t k => XS.dload X52.here hx rfl (hb hby at_104) rfl k) ?_
      show own_Goes p e below _ (T52.setTop (mkF m 106 #[.val (.int p0), .val (.int p1), .val (.int p2), .val (.int p3), .val (.int p4), .val (.int (1 : Int32)), .val (.ref w_FEWEST_VEHICLES), .val (.int (1 : Int32)), .val (.int (1 : Int32)), .val (.int v1), .val (.int v2), .val (.int m1), .val (.int m2), .val (.double (FP.i2d vM)), .second, .val (.double (FP.i2d vN)), .second, .unset, .unset] [(.double (FP.i2d vM))]))
      refine own_step (fun t k => XS.dload X52.here hx rfl (hb hby at_106) rfl k) ?_
      show own_Goes p e below _ (T52.setTop (mkF m 108 #[.val (.int p0), .val (.int p1), .val (.int p2), .val (.int p3), .val (.int p4), .val (.int (1 : Int32)), .val (.ref w_FEWEST_VEHICLES), .val (.int (1 : Int32)), .val (.int (1 : Int32)), .val (.int v1), .val (.int v2), .val (.int m1), .val (.int m2), .val (.double (FP.i2d vM)), .second, .val (.double (FP.i2d vN)), .second, .unset, .unset] [(.double (FP.i2d vN)), (.double (FP.i2d vM))]))
      refine own_step (fun t k => XS.dcmpS X52.here hx rfl (hb hby at_108) rfl (own_dl _ _ _) k) ?_
      show own_Goes p e below _ (T52.setTop (mkF m 109 #[.val (.int p0), .val (.int p1), .val (.int p2), .val (.int p3), .val (.int p4), .val (.int (1 : Int32)), .val (.ref w_FEWEST_VEHICLES), .val (.int (1 : Int32)), .val (.int (1 : Int32)), .val (.int v1), .val (.int v2), .val (.int m1), .val (.int m2), .val (.double (FP.i2d vM)), .second, .val (.double (FP.i2d vN)), .second, .unset, .unset] [(.int (lcmpW vM.toInt64 vN.toInt64))]))
      by_cases hc54 : vM.toInt64 = vN.toInt64
      · --
        refine own_step (fun t k => XS.ifNo X52.here hx rfl (hb hby at_109) rfl ((if0 _ _).trans (teq ((lw_eq vM.toInt64 vN.toInt64).mpr hc54)).2) k) ?_
        show own_Goes p e below _ (T52.setTop (mkF m 112 #[.val (.int p0), .val (.int p1), .val (.int p2), .val (.int p3), .val (.int p4), .val (.int (1 : Int32)), .val (.ref w_FEWEST_VEHICLES), .val (.int (1 : Int32)), .val (.int (1 : Int32)), .val (.int v1), .val (.int v2), .val (.int m1), .val (.int m2), .val (.double (FP.i2d vM)), .second, .val (.double (FP.i2d vN)), .second, .unset, .unset] []))
        refine own_step (fun t k => XS.iload X52.here hx rfl (hb hby at_112) rfl k) ?_
        show own_Goes p e below _ (T52.setTop (mkF m 114 #[.val (.int p0), .val (.int p1), .val (.int p2), .val (.int p3), .val (.int p4), .val (.int (1 : Int32)), .val (.ref w_FEWEST_VEHICLES), .val (.int (1 : Int32)), .val (.int (1 : Int32)), .val (.int v1), .val (.int v2), .val (.int m1), .val (.int m2), .val (.double (FP.i2d vM)), .second, .val (.double (FP.i2d vN)), .second, .unset, .unset] [(.int (1 : Int32))]))
        refine own_retL X52 hx hlk Bd.returns (hb hby at_114) (?_ : (1 : Int32) = 1) N52 (by decide) (by decide)
        exact rfl
      · --
        refine own_step (fun t k => XS.ifYes X52.here hx rfl (pc0 := 109) (pc' := 115) rfl (hb hby at_109) rfl ((if0 _ _).trans (feq (fun zq => hc54 ((lw_eq vM.toInt64 vN.toInt64).mp zq))).2) (by decide) (by decide) k) ?_
        show own_Goes p e below _ (T52.setTop (mkF m 115 #[.val (.int p0), .val (.int p1), .val (.int p2), .val (.int p3), .val (.int p4), .val (.int (1 : Int32)), .val (.ref w_FEWEST_VEHICLES), .val (.int (1 : Int32)), .val (.int (1 : Int32)), .val (.int v1), .val (.int v2), .val (.int m1), .val (.int m2), .val (.double (FP.i2d vM)), .second, .val (.double (FP.i2d vN)), .second, .unset, .unset] []))
        refine own_step (fun t k => XS.aload X52.here hx rfl (hb hby at_115) rfl rfl k) ?_
        show own_Goes p e below _ (T52.setTop (mkF m 117 #[.val (.int p0), .val (.int p1), .val (.int p2), .val (.int p3), .val (.int p4), .val (.int (1 : Int32)), .val (.ref w_FEWEST_VEHICLES), .val (.int (1 : Int32)), .val (.int (1 : Int32)), .val (.int v1), .val (.int v2), .val (.int m1), .val (.int m2), .val (.double (FP.i2d vM)), .second, .val (.double (FP.i2d vN)), .second, .unset, .unset] [(.ref w_FEWEST_VEHICLES)]))
        refine own_step (fun t k => XS.iload X52.here hx rfl (hb hby at_117) rfl k) ?_
        show own_Goes p e below _ (T52.setTop (mkF m 119 #[.val (.int p0), .val (.int p1), .val (.int p2), .val (.int p3), .val (.int p4), .val (.int (1 : Int32)), .val (.ref w_FEWEST_VEHICLES), .val (.int (1 : Int32)), .val (.int (1 : Int32)), .val (.int v1), .val (.int v2), .val (.int m1), .val (.int m2), .val (.double (FP.i2d vM)), .second, .val (.double (FP.i2d vN)), .second, .unset, .unset] [(.int v1), (.ref w_FEWEST_VEHICLES)]))
        refine own_step (fun t k => XS.dload X52.here hx rfl (hb hby at_119) rfl k) ?_
        show own_Goes p e below _ (T52.setTop (mkF m 121 #[.val (.int p0), .val (.int p1), .val (.int p2), .val (.int p3), .val (.int p4), .val (.int (1 : Int32)), .val (.ref w_FEWEST_VEHICLES), .val (.int (1 : Int32)), .val (.int (1 : Int32)), .val (.int v1), .val (.int v2), .val (.int m1), .val (.int m2), .val (.double (FP.i2d vM)), .second, .val (.double (FP.i2d vN)), .second, .unset, .unset] [(.double (FP.i2d vM)), (.int v1), (.ref w_FEWEST_VEHICLES)]))
        refine own_step (fun t k => XS.iload X52.here hx rfl (hb hby at_121) rfl k) ?_
        show own_Goes p e below _ (T52.setTop (mkF m 123 #[.val (.int p0), .val (.int p1), .val (.int p2), .val (.int p3), .val (.int p4), .val (.int (1 : Int32)), .val (.ref w_FEWEST_VEHICLES), .val (.int (1 : Int32)), .val (.int (1 : Int32)), .val (.int v1), .val (.int v2), .val (.int m1), .val (.int m2), .val (.double (FP.i2d vM)), .second, .val (.double (FP.i2d vN)), .second, .unset, .unset] [(.int v2), (.double (FP.i2d vM)), (.int v1), (.ref w_FEWEST_VEHICLES)]))
        refine own_step (fun t k => XS.dload X52.here hx rfl (hb hby at_123) rfl k) ?_
        show own_Goes p e below _ (T52.setTop (mkF m 125 #[.val (.int p0), .val (.int p1), .val (.int p2), .val (.int p3), .val (.int p4), .val (.int (1 : Int32)), .val (.ref w_FEWEST_VEHICLES), .val (.int (1 : Int32)), .val (.int (1 : Int32)), .val (.int v1), .val (.int v2), .val (.int m1), .val (.int m2), .val (.double (FP.i2d vM)), .second, .val (.double (FP.i2d vN)), .second, .unset, .unset] [(.double (FP.i2d vN)), (.int v2), (.double (FP.i2d vM)), (.int v1), (.ref w_FEWEST_VEHICLES)]))
        obtain ⟨cq55, kq55, q55a, q55b, q55c⟩ := isOf hZ eh52 E_w_FEWEST_VEHICLES
        obtain ⟨_, _, ⟨T55, L55, k55, n55⟩, -, X55, ⟨Lc55, hQ55, l55, y55, z55⟩, st55⟩ := X52.virtualBack hx (y := (⟨"com/example/waysmith/waysmith/evaluation/Objective", "compare", "(IDID)I"⟩ : MethodName)) (z := (⟨"com/example/waysmith/waysmith/evaluation/Objective", "compare", "(IDID)I"⟩ : MethodName)) hown (mvT hZ w18) (mvT hZ w19) (notFace_of_selects (args := #[]) (mvT hZ w21)) (mvT hZ w21) (mvT hZ w20) (by decide) (backOf (W := 0) (own_b6 l Z a0 hw [] w_FEWEST_VEHICLES v1 (FP.i2d vM) v2 (FP.i2d vN) (w_FEWEST_VEHICLES) ((1 : Int32)) h0 n0 Z0 S_FEWEST_VEHICLES O0 E_w_FEWEST_VEHICLES (if_pos rfl) (own_dc hv_vM hv_vN hc54 _) (own_dc hv_vM hv_vN hc54 _)) hZ w22 w1 (by decide) (by decide)) q55a q55c (g := (mkF m 125 #[.val (.int p0), .val (.int p1), .val (.int p2), .val (.int p3), .val (.int p4), .val (.int (1 : Int32)), .val (.ref w_FEWEST_VEHICLES), .val (.int (1 : Int32)), .val (.int (1 : Int32)), .val (.int v1), .val (.int v2), .val (.int m1), .val (.int m2), .val (.double (FP.i2d vM)), .second, .val (.double (FP.i2d vN)), .second, .unset, .unset] [(.double (FP.i2d vN)), (.int v2), (.double (FP.i2d vM)), (.int v1), (.ref w_FEWEST_VEHICLES)])) rfl (by rw [hml]; rfl) (Steps.refl _) (argsL := [(.int v1), (.double (FP.i2d vM)), (.int v2), (.double (FP.i2d vN))]) (rest := []) (lenOf own_pd3 rfl) rfl (by show 2 * 0 + _ ≤ _; exact Nat.le_of_eq rfl) (hb hby at_125) (fun _ _ => ⟨rfl, eh52, (by decide : 0 + 0 ≤ _), (by decide : 0 + 0 ≤ _)⟩)
        dsimp only [Pt.U, Pt.locs, Pt.cells, Pt.slots] at X55 l55 y55 z55 st55 hQ55
        subst l55 y55 z55
        obtain ⟨rfl, N55q, eh55⟩ := hQ55
        have N55 := Fr.app N52 N55q
        refine own_jump st55 ?_
        show own_Goes p e below _ (T55.setTop (mkF m 128 #[.val (.int p0), .val (.int p1), .val (.int p2), .val (.int p3), .val (.int p4), .val (.int (1 : Int32)), .val (.ref w_FEWEST_VEHICLES), .val (.int (1 : Int32)), .val (.int (1 : Int32)), .val (.int v1), .val (.int v2), .val (.int m1), .val (.int m2), .val (.double (FP.i2d vM)), .second, .val (.double (FP.i2d vN)), .second, .unset, .unset] [(.int (if (1 : Int32) = (0 : Int32) then (1 : Int32) else (if (if v1 < v2 then (-1 : Int32) else (if v1 = v2 then (0 : Int32) else (1 : Int32))) = (0 : Int32) then (1 : Int32) else (if v1 < v2 then (-1 : Int32) else (if v1 = v2 then (0 : Int32) else (1 : Int32))))))]))
        refine own_step (fun t k => XS.istore X55.here hx rfl (hb hby at_128) rfl (l' := #[.val (.int p0), .val (.int p1), .val (.int p2), .val (.int p3), .val (.int p4), .val (.int (1 : Int32)), .val (.ref w_FEWEST_VEHICLES), .val (.int (1 : Int32)), .val (.int (1 : Int32)), .val (.int v1), .val (.int v2), .val (.int m1), .val (.int m2), .val (.double (FP.i2d vM)), .second, .val (.double (FP.i2d vN)), .second, .val (.int (if (1 : Int32) = (0 : Int32) then (1 : Int32) else (if (if v1 < v2 then (-1 : Int32) else (if v1 = v2 then (0 : Int32) else (1 : Int32))) = (0 : Int32) then (1 : Int32) else (if v1 < v2 then (-1 : Int32) else (if v1 = v2 then (0 : Int32) else (1 : Int32)))))), .unset]) rfl k) ?_
        show own_Goes p e below _ (T55.setTop (mkF m 130 #[.val (.int p0), .val (.int p1), .val (.int p2), .val (.int p3), .val (.int p4), .val (.int (1 : Int32)), .val (.ref w_FEWEST_VEHICLES), .val (.int (1 : Int32)), .val (.int (1 : Int32)), .val (.int v1), .val (.int v2), .val (.int m1), .val (.int m2), .val (.double (FP.i2d vM)), .second, .val (.double (FP.i2d vN)), .second, .val (.int (if (1 : Int32) = (0 : Int32) then (1 : Int32) else (if (if v1 < v2 then (-1 : Int32) else (if v1 = v2 then (0 : Int32) else (1 : Int32))) = (0 : Int32) then (1 : Int32) else (if v1 < v2 then (-1 : Int32) else (if v1 = v2 then (0 : Int32) else (1 : Int32)))))), .unset] []))
        refine own_step (fun t k => XS.iload X55.here hx rfl (hb hby at_130) rfl k) ?_
        show own_Goes p e below _ (T55.setTop (mkF m 132 #[.val (.int p0), .val (.int p1), .val (.int p2), .val (.int p3), .val (.int p4), .val (.int (1 : Int32)), .val (.ref w_FEWEST_VEHICLES), .val (.int (1 : Int32)), .val (.int (1 : Int32)), .val (.int v1), .val (.int v2), .val (.int m1), .val (.int m2), .val (.double (FP.i2d vM)), .second, .val (.double (FP.i2d vN)), .second, .val (.int (if (1 : Int32) = (0 : Int32) then (1 : Int32) else (if (if v1 < v2 then (-1 : Int32) else (if v1 = v2 then (0 : Int32) else (1 : Int32))) = (0 : Int32) then (1 : Int32) else (if v1 < v2 then (-1 : Int32) else (if v1 = v2 then (0 : Int32) else (1 : Int32)))))), .unset] [(.int (1 : Int32))]))
        have hc56 : ¬ ((1 : Int32) = (0 : Int32)) := by decide
        refine own_step (fun t k => XS.ifNo X55.here hx rfl (hb hby at_132) rfl ((if0 _ _).trans (feq hc56).1) k) ?_
        show own_Goes p e below _ (T55.setTop (mkF m 135 #[.val (.int p0), .val (.int p1), .val (.int p2), .val (.int p3), .val (.int p4), .val (.int (1 : Int32)), .val (.ref w_FEWEST_VEHICLES), .val (.int (1 : Int32)), .val (.int (1 : Int32)), .val (.int v1), .val (.int v2), .val (.int m1), .val (.int m2), .val (.double (FP.i2d vM)), .second, .val (.double (FP.i2d vN)), .second, .val (.int (if (1 : Int32) = (0 : Int32) then (1 : Int32) else (if (if v1 < v2 then (-1 : Int32) else (if v1 = v2 then (0 : Int32) else (1 : Int32))) = (0 : Int32) then (1 : Int32) else (if v1 < v2 then (-1 : Int32) else (if v1 = v2 then (0 : Int32) else (1 : Int32)))))), .unset] []))
        refine own_step (fun t k => XS.iload X55.here hx rfl (hb hby at_135) rfl k) ?_
        show own_Goes p e below _ (T55.setTop (mkF m 137 #[.val (.int p0), .val (.int p1), .val (.int p2), .val (.int p3), .val (.int p4), .val (.int (1 : Int32)), .val (.ref w_FEWEST_VEHICLES), .val (.int (1 : Int32)), .val (.int (1 : Int32)), .val (.int v1), .val (.int v2), .val (.int m1), .val (.int m2), .val (.double (FP.i2d vM)), .second, .val (.double (FP.i2d vN)), .second, .val (.int (if (1 : Int32) = (0 : Int32) then (1 : Int32) else (if (if v1 < v2 then (-1 : Int32) else (if v1 = v2 then (0 : Int32) else (1 : Int32))) = (0 : Int32) then (1 : Int32) else (if v1 < v2 then (-1 : Int32) else (if v1 = v2 then (0 : Int32) else (1 : Int32)))))), .unset] [(.int (if (1 : Int32) = (0 : Int32) then (1 : Int32) else (if (if v1 < v2 then (-1 : Int32) else (if v1 = v2 then (0 : Int32) else (1 : Int32))) = (0 : Int32) then (1 : Int32) else (if v1 < v2 then (-1 : Int32) else (if v1 = v2 then (0 : Int32) else (1 : Int32))))))]))
        refine own_step (S' := T55.setTop (mkF m 158 #[.val (.int p0), .val (.int p1), .val (.int p2), .val (.int p3), .val (.int p4), .val (.int (1 : Int32)), .val (.ref w_FEWEST_VEHICLES), .val (.int (1 : Int32)), .val (.int (1 : Int32)), .val (.int v1), .val (.int v2), .val (.int m1), .val (.int m2), .val (.double (FP.i2d vM)), .second, .val (.double (FP.i2d vN)), .second, .val (.int (if (1 : Int32) = (0 : Int32) then (1 : Int32) else (if (if v1 < v2 then (-1 : Int32) else (if v1 = v2 then (0 : Int32) else (1 : Int32))) = (0 : Int32) then (1 : Int32) else (if v1 < v2 then (-1 : Int32) else (if v1 = v2 then (0 : Int32) else (1 : Int32)))))), .unset] [(.int (if (if (1 : Int32) = (0 : Int32) then (1 : Int32) else (if (if v1 < v2 then (-1 : Int32) else (if v1 = v2 then (0 : Int32) else (1 : Int32))) = (0 : Int32) then (1 : Int32) else (if v1 < v2 then (-1 : Int32) else (if v1 = v2 then (0 : Int32) else (1 : Int32))))) < (0 : Int32) then (1 : Int32) else (0 : Int32)))])) (fun t k => ?_) ?_
        · show Steps p.tables e below (T55.setTop (mkF m 137 #[.val (.int p0), .val (.int p1), .val (.int p2), .val (.int p3), .val (.int p4), .val (.int (1 : Int32)), .val (.ref w_FEWEST_VEHICLES), .val (.int (1 : Int32)), .val (.int (1 : Int32)), .val (.int v1), .val (.int v2), .val (.int m1), .val (.int m2), .val (.double (FP.i2d vM)), .second, .val (.double (FP.i2d vN)), .second, .val (.int (if (1 : Int32) = (0 : Int32) then (1 : Int32) else (if (if v1 < v2 then (-1 : Int32) else (if v1 = v2 then (0 : Int32) else (1 : Int32))) = (0 : Int32) then (1 : Int32) else (if v1 < v2 then (-1 : Int32) else (if v1 = v2 then (0 : Int32) else (1 : Int32)))))), .unset] [(.int (if (1 : Int32) = (0 : Int32) then (1 : Int32) else (if (if v1 < v2 then (-1 : Int32) else (if v1 = v2 then (0 : Int32) else (1 : Int32))) = (0 : Int32) then (1 : Int32) else (if v1 < v2 then (-1 : Int32) else (if v1 = v2 then (0 : Int32) else (1 : Int32))))))])) _
          by_cases hc57 : (if (1 : Int32) = (0 : Int32) then (1 : Int32) else (if (if v1 < v2 then (-1 : Int32) else (if v1 = v2 then (0 : Int32) else (1 : Int32))) = (0 : Int32) then (1 : Int32) else (if v1 < v2 then (-1 : Int32) else (if v1 = v2 then (0 : Int32) else (1 : Int32))))) < (0 : Int32)
          · --
            refine XS.ifNo X55.here hx rfl (hb hby at_137) rfl ((if0 _ _).trans (tlt hc57).2.1) ?_
            show Steps p.tables e below (T55.setTop (mkF m 140 #[.val (.int p0), .val (.int p1), .val (.int p2), .val (.int p3), .val (.int p4), .val (.int (1 : Int32)), .val (.ref w_FEWEST_VEHICLES), .val (.int (1 : Int32)), .val (.int (1 : Int32)), .val (.int v1), .val (.int v2), .val (.int m1), .val (.int m2), .val (.double (FP.i2d vM)), .second, .val (.double (FP.i2d vN)), .second, .val (.int (if (1 : Int32) = (0 : Int32) then (1 : Int32) else (if (if v1 < v2 then (-1 : Int32) else (if v1 = v2 then (0 : Int32) else (1 : Int32))) = (0 : Int32) then (1 : Int32) else (if v1 < v2 then (-1 : Int32) else (if v1 = v2 then (0 : Int32) else (1 : Int32)))))), .unset] [])) _
            refine XS.iconst X55.here hx rfl (hb hby at_140) ?_
            show Steps p.tables e below (T55.setTop (mkF m 141 #[.val (.int p0), .val (.int p1), .val (.int p2), .val (.int p3), .val (.int p4), .val (.int (1 : Int32)), .val (.ref w_FEWEST_VEHICLES), .val (.int (1 : Int32)), .val (.int (1 : Int32)), .val (.int v1), .val (.int v2), .val (.int m1), .val (.int m2), .val (.double (FP.i2d vM)), .second, .val (.double (FP.i2d vN)), .second, .val (.int (if (1 : Int32) = (0 : Int32) then (1 : Int32) else (if (if v1 < v2 then (-1 : Int32) else (if v1 = v2 then (0 : Int32) else (1 : Int32))) = (0 : Int32) then (1 : Int32) else (if v1 < v2 then (-1 : Int32) else (if v1 = v2 then (0 : Int32) else (1 : Int32)))))), .unset] [(.int (1 : Int32))])) _
            refine XS.goto X55.here hx rfl (pc0 := 141) (pc' := 158) rfl (hb hby at_141) (by decide) (by decide) ?_
            show Steps p.tables e below (T55.setTop (mkF m 158 #[.val (.int p0), .val (.int p1), .val (.int p2), .val (.int p3), .val (.int p4), .val (.int (1 : Int32)), .val (.ref w_FEWEST_VEHICLES), .val (.int (1 : Int32)), .val (.int (1 : Int32)), .val (.int v1), .val (.int v2), .val (.int m1), .val (.int m2), .val (.double (FP.i2d vM)), .second, .val (.double (FP.i2d vN)), .second, .val (.int (if (1 : Int32) = (0 : Int32) then (1 : Int32) else (if (if v1 < v2 then (-1 : Int32) else (if v1 = v2 then (0 : Int32) else (1 : Int32))) = (0 : Int32) then (1 : Int32) else (if v1 < v2 then (-1 : Int32) else (if v1 = v2 then (0 : Int32) else (1 : Int32)))))), .unset] [(.int (1 : Int32))])) _
            simp only [if_pos hc57] at k
            exact k
          · --
            refine XS.ifYes X55.here hx rfl (pc0 := 137) (pc' := 144) rfl (hb hby at_137) rfl ((if0 _ _).trans (flt hc57).2.1) (by decide) (by decide) ?_
            show Steps p.tables e below (T55.setTop (mkF m 144 #[.val (.int p0), .val (.int p1), .val (.int p2), .val (.int p3), .val (.int p4), .val (.int (1 : Int32)), .val (.ref w_FEWEST_VEHICLES), .val (.int (1 : Int32)), .val (.int (1 : Int32)), .val (.int v1), .val (.int v2), .val (.int m1), .val (.int m2), .val (.double (FP.i2d vM)), .second, .val (.double (FP.i2d vN)), .second, .val (.int (if (1 : Int32) = (0 : Int32) then (1 : Int32) else (if (if v1 < v2 then (-1 : Int32) else (if v1 = v2 then (0 : Int32) else (1 : Int32))) = (0 : Int32) then (1 : Int32) else (if v1 < v2 then (-1 : Int32) else (if v1 = v2 then (0 : Int32) else (1 : Int32)))))), .unset] [])) _
            refine XS.iconst X55.here hx rfl (hb hby at_144) ?_
            show Steps p.tables e below (T55.setTop (mkF m 145 #[.val (.int p0), .val (.int p1), .val (.int p2), .val (.int p3), .val (.int p4), .val (.int (1 : Int32)), .val (.ref w_FEWEST_VEHICLES), .val (.int (1 : Int32)), .val (.int (1 : Int32)), .val (.int v1), .val (.int v2), .val (.int m1), .val (.int m2), .val (.double (FP.i2d vM)), .second, .val (.double (FP.i2d vN)), .second, .val (.int (if (1 : Int32) = (0 : Int32) then (1 : Int32) else (if (if v1 < v2 then (-1 : Int32) else (if v1 = v2 then (0 : Int32) else (1 : Int32))) = (0 : Int32) then (1 : Int32) else (if v1 < v2 then (-1 : Int32) else (if v1 = v2 then (0 : Int32) else (1 : Int32)))))), .unset] [(.int (0 : Int32))])) _
            refine XS.goto X55.here hx rfl (pc0 := 145) (pc' := 158) rfl (hb hby at_145) (by decide) (by decide) ?_
            show Steps p.tables e below (T55.setTop (mkF m 158 #[.val (.int p0), .val (.int p1), .val (.int p2), .val (.int p3), .val (.int p4), .val (.int (1 : Int32)), .val (.ref w_FEWEST_VEHICLES), .val (.int (1 : Int32)), .val (.int (1 : Int32)), .val (.int v1), .val (.int v2), .val (.int m1), .val (.int m2), .val (.double (FP.i2d vM)), .second, .val (.double (FP.i2d vN)), .second, .val (.int (if (1 : Int32) = (0 : Int32) then (1 : Int32) else (if (if v1 < v2 then (-1 : Int32) else (if v1 = v2 then (0 : Int32) else (1 : Int32))) = (0 : Int32) then (1 : Int32) else (if v1 < v2 then (-1 : Int32) else (if v1 = v2 then (0 : Int32) else (1 : Int32)))))), .unset] [(.int (0 : Int32))])) _
            simp only [if_neg hc57] at k
            exact k
        show own_Goes p e below _ (T55.setTop (mkF m 158 #[.val (.int p0), .val (.int p1), .val (.int p2), .val (.int p3), .val (.int p4), .val (.int (1 : Int32)), .val (.ref w_FEWEST_VEHICLES), .val (.int (1 : Int32)), .val (.int (1 : Int32)), .val (.int v1), .val (.int v2), .val (.int m1), .val (.int m2), .val (.double (FP.i2d vM)), .second, .val (.double (FP.i2d vN)), .second, .val (.int (if (1 : Int32) = (0 : Int32) then (1 : Int32) else (if (if v1 < v2 then (-1 : Int32) else (if v1 = v2 then (0 : Int32) else (1 : Int32))) = (0 : Int32) then (1 : Int32) else (if v1 < v2 then (-1 : Int32) else (if v1 = v2 then (0 : Int32) else (1 : Int32)))))), .unset] [(.int (if (if (1 : Int32) = (0 : Int32) then (1 : Int32) else (if (if v1 < v2 then (-1 : Int32) else (if v1 = v2 then (0 : Int32) else (1 : Int32))) = (0 : Int32) then (1 : Int32) else (if v1 < v2 then (-1 : Int32) else (if v1 = v2 then (0 : Int32) else (1 : Int32))))) < (0 : Int32) then (1 : Int32) else (0 : Int32)))]))
        refine own_step (fun t k => XS.istore X55.here hx rfl (hb hby at_158) rfl (l' := #[.val (.int p0), .val (.int p1), .val (.int p2), .val (.int p3), .val (.int p4), .val (.int (1 : Int32)), .val (.ref w_FEWEST_VEHICLES), .val (.int (1 : Int32)), .val (.int (1 : Int32)), .val (.int v1), .val (.int v2), .val (.int m1), .val (.int m2), .val (.double (FP.i2d vM)), .second, .val (.double (FP.i2d vN)), .second, .val (.int (if (1 : Int32) = (0 : Int32) then (1 : Int32) else (if (if v1 < v2 then (-1 : Int32) else (if v1 = v2 then (0 : Int32) else (1 : Int32))) = (0 : Int32) then (1 : Int32) else (if v1 < v2 then (-1 : Int32) else (if v1 = v2 then (0 : Int32) else (1 : Int32)))))), .val (.int (if (if (1 : Int32) = (0 : Int32) then (1 : Int32) else (if (if v1 < v2 then (-1 : Int32) else (if v1 = v2 then (0 : Int32) else (1 : Int32))) = (0 : Int32) then (1 : Int32) else (if v1 < v2 then (-1 : Int32) else (if v1 = v2 then (0 : Int32) else (1 : Int32))))) < (0 : Int32) then (1 : Int32) else (0 : Int32)))]) rfl k) ?_
        show own_Goes p e below _ (T55.setTop (mkF m 160 #[.val (.int p0), .val (.int p1), .val (.int p2), .val (.int p3), .val (.int p4), .val (.int (1 : Int32)), .val (.ref w_FEWEST_VEHICLES), .val (.int (1 : Int32)), .val (.int (1 : Int32)), .val (.int v1), .val (.int v2), .val (.int m1), .val (.int m2), .val (.double (FP.i2d vM)), .second, .val (.double (FP.i2d vN)), .second, .val (.int (if (1 : Int32) = (0 : Int32) then (1 : Int32) else (if (if v1 < v2 then (-1 : Int32) else (if v1 = v2 then (0 : Int32) else (1 : Int32))) = (0 : Int32) then (1 : Int32) else (if v1 < v2 then (-1 : Int32) else (if v1 = v2 then (0 : Int32) else (1 : Int32)))))), .val (.int (if (if (1 : Int32) = (0 : Int32) then (1 : Int32) else (if (if v1 < v2 then (-1 : Int32) else (if v1 = v2 then (0 : Int32) else (1 : Int32))) = (0 : Int32) then (1 : Int32) else (if v1 < v2 then (-1 : Int32) else (if v1 = v2 then (0 : Int32) else (1 : Int32))))) < (0 : Int32) then (1 : Int32) else (0 : Int32)))] []))
        refine own_step (fun t k => XS.iload X55.here hx rfl (hb hby at_160) rfl k) ?_
        show own_Goes p e below _ (T55.setTop (mkF m 162 #[.val (.int p0), .val (.int p1), .val (.int p2), .val (.int p3), .val (.int p4), .val (.int (1 : Int32)), .val (.ref w_FEWEST_VEHICLES), .val (.int (1 : Int32)), .val (.int (1 : Int32)), .val (.int v1), .val (.int v2), .val (.int m1), .val (.int m2), .val (.double (FP.i2d vM)), .second, .val (.double (FP.i2d vN)), .second, .val (.int (if (1 : Int32) = (0 : Int32) then (1 : Int32) else (if (if v1 < v2 then (-1 : Int32) else (if v1 = v2 then (0 : Int32) else (1 : Int32))) = (0 : Int32) then (1 : Int32) else (if v1 < v2 then (-1 : Int32) else (if v1 = v2 then (0 : Int32) else (1 : Int32)))))), .val (.int (if (if (1 : Int32) = (0 : Int32) then (1 : Int32) else (if (if v1 < v2 then (-1 : Int32) else (if v1 = v2 then (0 : Int32) else (1 : Int32))) = (0 : Int32) then (1 : Int32) else (if v1 < v2 then (-1 : Int32) else (if v1 = v2 then (0 : Int32) else (1 : Int32))))) < (0 : Int32) then (1 : Int32) else (0 : Int32)))] [(.int (1 : Int32))]))
        have hc58 : ¬ ((1 : Int32) = (0 : Int32)) := by decide
        refine own_step (fun t k => XS.ifNo X55.here hx rfl (hb hby at_162) rfl ((if0 _ _).trans (feq hc58).1) k) ?_
        show own_Goes p e below _ (T55.setTop (mkF m 165 #[.val (.int p0), .val (.int p1), .val (.int p2), .val (.int p3), .val (.int p4), .val (.int (1 : Int32)), .val (.ref w_FEWEST_VEHICLES), .val (.int (1 : Int32)), .val (.int (1 : Int32)), .val (.int v1), .val (.int v2), .val (.int m1), .val (.int m2), .val (.double (FP.i2d vM)), .second, .val (.double (FP.i2d vN)), .second, .val (.int (if (1 : Int32) = (0 : Int32) then (1 : Int32) else (if (if v1 < v2 then (-1 : Int32) else (if v1 = v2 then (0 : Int32) else (1 : Int32))) = (0 : Int32) then (1 : Int32) else (if v1 < v2 then (-1 : Int32) else (if v1 = v2 then (0 : Int32) else (1 : Int32)))))), .val (.int (if (if (1 : Int32) = (0 : Int32) then (1 : Int32) else (if (if v1 < v2 then (-1 : Int32) else (if v1 = v2 then (0 : Int32) else (1 : Int32))) = (0 : Int32) then (1 : Int32) else (if v1 < v2 then (-1 : Int32) else (if v1 = v2 then (0 : Int32) else (1 : Int32))))) < (0 : Int32) then (1 : Int32) else (0 : Int32)))] []))
        refine own_step (fun t k => XS.iload X55.here hx rfl (hb hby at_165) rfl k) ?_
        show own_Goes p e below _ (T55.setTop (mkF m 167 #[.val (.int p0), .val (.int p1), .val (.int p2), .val (.int p3), .val (.int p4), .val (.int (1 : Int32)), .val (.ref w_FEWEST_VEHICLES), .val (.int (1 : Int32)), .val (.int (1 : Int32)), .val (.int v1), .val (.int v2), .val (.int m1), .val (.int m2), .val (.double (FP.i2d vM)), .second, .val (.double (FP.i2d vN)), .second, .val (.int (if (1 : Int32) = (0 : Int32) then (1 : Int32) else (if (if v1 < v2 then (-1 : Int32) else (if v1 = v2 then (0 : Int32) else (1 : Int32))) = (0 : Int32) then (1 : Int32) else (if v1 < v2 then (-1 : Int32) else (if v1 = v2 then (0 : Int32) else (1 : Int32)))))), .val (.int (if (if (1 : Int32) = (0 : Int32) then (1 : Int32) else (if (if v1 < v2 then (-1 : Int32) else (if v1 = v2 then (0 : Int32) else (1 : Int32))) = (0 : Int32) then (1 : Int32) else (if v1 < v2 then (-1 : Int32) else (if v1 = v2 then (0 : Int32) else (1 : Int32))))) < (0 : Int32) then (1 : Int32) else (0 : Int32)))] [(.int (if (if (1 : Int32) = (0 : Int32) then (1 : Int32) else (if (if v1 < v2 then (-1 : Int32) else (if v1 = v2 then (0 : Int32) else (1 : Int32))) = (0 : Int32) then (1 : Int32) else (if v1 < v2 then (-1 : Int32) else (if v1 = v2 then (0 : Int32) else (1 : Int32))))) < (0 : Int32) then (1 : Int32) else (0 : Int32)))]))
        refine own_step (S' := T55.setTop (mkF m 175 #[.val (.int p0), .val (.int p1), .val (.int p2), .val (.int p3), .val (.int p4), .val (.int (1 : Int32)), .val (.ref w_FEWEST_VEHICLES), .val (.int (1 : Int32)), .val (.int (1 : Int32)), .val (.int v1), .val (.int v2), .val (.int m1), .val (.int m2), .val (.double (FP.i2d vM)), .second, .val (.double (FP.i2d vN)), .second, .val (.int (if (1 : Int32) = (0 : Int32) then (1 : Int32) else (if (if v1 < v2 then (-1 : Int32) else (if v1 = v2 then (0 : Int32) else (1 : Int32))) = (0 : Int32) then (1 : Int32) else (if v1 < v2 then (-1 : Int32) else (if v1 = v2 then (0 : Int32) else (1 : Int32)))))), .val (.int (if (if (1 : Int32) = (0 : Int32) then (1 : Int32) else (if (if v1 < v2 then (-1 : Int32) else (if v1 = v2 then (0 : Int32) else (1 : Int32))) = (0 : Int32) then (1 : Int32) else (if v1 < v2 then (-1 : Int32) else (if v1 = v2 then (0 : Int32) else (1 : Int32))))) < (0 : Int32) then (1 : Int32) else (0 : Int32)))] [(.int (if (if (if (1 : Int32) = (0 : Int32) then (1 : Int32) else (if (if v1 < v2 then (-1 : Int32) else (if v1 = v2 then (0 : Int32) else (1 : Int32))) = (0 : Int32) then (1 : Int32) else (if v1 < v2 then (-1 : Int32) else (if v1 = v2 then (0 : Int32) else (1 : Int32))))) < (0 : Int32) then (1 : Int32) else (0 : Int32)) = (0 : Int32) then (0 : Int32) else (1 : Int32)))])) (fun t k => ?_) ?_
        · show Steps p.tables e below (T55.setTop (mkF m 167 #[.val (.int p0), .val (.int p1), .val (.int p2), .val (.int p3), .val (.int p4), .val (.int (1 : Int32)), .val (.ref w_FEWEST_VEHICLES), .val (.int (1 : Int32)), .val (.int (1 : Int32)), .val (.int v1), .val (.int v2), .val (.int m1), .val (.int m2), .val (.double (FP.i2d vM)), .second, .val (.double (FP.i2d vN)), .second, .val (.int (if (1 : Int32) = (0 : Int32) then (1 : Int32) else (if (if v1 < v2 then (-1 : Int32) else (if v1 = v2 then (0 : Int32) else (1 : Int32))) = (0 : Int32) then (1 : Int32) else (if v1 < v2 then (-1 : Int32) else (if v1 = v2 then (0 : Int32) else (1 : Int32)))))), .val (.int (if (if (1 : Int32) = (0 : Int32) then (1 : Int32) else (if (if v1 < v2 then (-1 : Int32) else (if v1 = v2 then (0 : Int32) else (1 : Int32))) = (0 : Int32) then (1 : Int32) else (if v1 < v2 then (-1 : Int32) else (if v1 = v2 then (0 : Int32) else (1 : Int32))))) < (0 : Int32) then (1 : Int32) else (0 : Int32)))] [(.int (if (if (1 : Int32) = (0 : Int32) then (1 : Int32) else (if (if v1 < v2 then (-1 : Int32) else (if v1 = v2 then (0 : Int32) else (1 : Int32))) = (0 : Int32) then (1 : Int32) else (if v1 < v2 then (-1 : Int32) else (if v1 = v2 then (0 : Int32) else (1 : Int32))))) < (0 : Int32) then (1 : Int32) else (0 : Int32)))])) _
          by_cases hc59 : (if (if (1 : Int32) = (0 : Int32) then (1 : Int32) else (if (if v1 < v2 then (-1 : Int32) else (if v1 = v2 then (0 : Int32) else (1 : Int32))) = (0 : Int32) then (1 : Int32) else (if v1 < v2 then (-1 : Int32) else (if v1 = v2 then (0 : Int32) else (1 : Int32))))) < (0 : Int32) then (1 : Int32) else (0 : Int32)) = (0 : Int32)
          · --
            refine XS.ifYes X55.here hx rfl (pc0 := 167) (pc' := 174) rfl (hb hby at_167) rfl ((if0 _ _).trans (teq hc59).1) (by decide) (by decide) ?_
            show Steps p.tables e below (T55.setTop (mkF m 174 #[.val (.int p0), .val (.int p1), .val (.int p2), .val (.int p3), .val (.int p4), .val (.int (1 : Int32)), .val (.ref w_FEWEST_VEHICLES), .val (.int (1 : Int32)), .val (.int (1 : Int32)), .val (.int v1), .val (.int v2), .val (.int m1), .val (.int m2), .val (.double (FP.i2d vM)), .second, .val (.double (FP.i2d vN)), .second, .val (.int (if (1 : Int32) = (0 : Int32) then (1 : Int32) else (if (if v1 < v2 then (-1 : Int32) else (if v1 = v2 then (0 : Int32) else (1 : Int32))) = (0 : Int32) then (1 : Int32) else (if v1 < v2 then (-1 : Int32) else (if v1 = v2 then (0 : Int32) else (1 : Int32)))))), .val (.int (if (if (1 : Int32) = (0 : Int32) then (1 : Int32) else (if (if v1 < v2 then (-1 : Int32) else (if v1 = v2 then (0 : Int32) else (1 : Int32))) = (0 : Int32) then (1 : Int32) else (if v1 < v2 then (-1 : Int32) else (if v1 = v2 then (0 : Int32) else (1 : Int32))))) < (0 : Int32) then (1 : Int32) else (0 : Int32)))] [])) _
            refine XS.iconst X55.here hx rfl (hb hby at_174) ?_
            show Steps p.tables e below (T55.setTop (mkF m 175 #[.val (.int p0), .val (.int p1), .val (.int p2), .val (.int p3), .val (.int p4), .val (.int (1 : Int32)), .val (.ref w_FEWEST_VEHICLES), .val (.int (1 : Int32)), .val (.int (1 : Int32)), .val (.int v1), .val (.int v2), .val (.int m1), .val (.int m2), .val (.double (FP.i2d vM)), .second, .val (.double (FP.i2d vN)), .second, .val (.int (if (1 : Int32) = (0 : Int32) then (1 : Int32) else (if (if v1 < v2 then (-1 : Int32) else (if v1 = v2 then (0 : Int32) else (1 : Int32))) = (0 : Int32) then (1 : Int32) else (if v1 < v2 then (-1 : Int32) else (if v1 = v2 then (0 : Int32) else (1 : Int32)))))), .val (.int (if (if (1 : Int32) = (0 : Int32) then (1 : Int32) else (if (if v1 < v2 then (-1 : Int32) else (if v1 = v2 then (0 : Int32) else (1 : Int32))) = (0 : Int32) then (1 : Int32) else (if v1 < v2 then (-1 : Int32) else (if v1 = v2 then (0 : Int32) else (1 : Int32))))) < (0 : Int32) then (1 : Int32) else (0 : Int32)))] [(.int (0 : Int32))])) _
            simp only [if_pos hc59] at k
            exact k
          · --
            refine XS.ifNo X55.here hx rfl (hb hby at_167) rfl ((if0 _ _).trans (feq hc59).1) ?_
            show Steps p.tables e below (T55.setTop (mkF m 170 #[.val (.int p0), .val (.int p1), .val (.int p2), .val (.int p3), .val (.int p4), .val (.int (1 : Int32)), .val (.ref w_FEWEST_VEHICLES), .val (.int (1 : Int32)), .val (.int (1 : Int32)), .val (.int v1), .val (.int v2), .val (.int m1), .val (.int m2), .val (.double (FP.i2d vM)), .second, .val (.double (FP.i2d vN)), .second, .val (.int (if (1 : Int32) = (0 : Int32) then (1 : Int32) else (if (if v1 < v2 then (-1 : Int32) else (if v1 = v2 then (0 : Int32) else (1 : Int32))) = (0 : Int32) then (1 : Int32) else (if v1 < v2 then (-1 : Int32) else (if v1 = v2 then (0 : Int32) else (1 : Int32)))))), .val (.int (if (if (1 : Int32) = (0 : Int32) then (1 : Int32) else (if (if v1 < v2 then (-1 : Int32) else (if v1 = v2 then (0 : Int32) else (1 : Int32))) = (0 : Int32) then (1 : Int32) else (if v1 < v2 then (-1 : Int32) else (if v1 = v2 then (0 : Int32) else (1 : Int32))))) < (0 : Int32) then (1 : Int32) else (0 : Int32)))] [])) _
            refine XS.iconst X55.here hx rfl (hb hby at_170) ?_
            show Steps p.tables e below (T55.setTop (mkF m 171 #[.val (.int p0), .val (.int p1), .val (.int p2), .val (.int p3), .val (.int p4), .val (.int (1 : Int32)), .val (.ref w_FEWEST_VEHICLES), .val (.int (1 : Int32)), .val (.int (1 : Int32)), .val (.int v1), .val (.int v2), .val (.int m1), .val (.int m2), .val (.double (FP.i2d vM)), .second, .val (.double (FP.i2d vN)), .second, .val (.int (if (1 : Int32) = (0 : Int32) then (1 : Int32) else (if (if v1 < v2 then (-1 : Int32) else (if v1 = v2 then (0 : Int32) else (1 : Int32))) = (0 : Int32) then (1 : Int32) else (if v1 < v2 then (-1 : Int32) else (if v1 = v2 then (0 : Int32) else (1 : Int32)))))), .val (.int (if (if (1 : Int32) = (0 : Int32) then (1 : Int32) else (if (if v1 < v2 then (-1 : Int32) else (if v1 = v2 then (0 : Int32) else (1 : Int32))) = (0 : Int32) then (1 : Int32) else (if v1 < v2 then (-1 : Int32) else (if v1 = v2 then (0 : Int32) else (1 : Int32))))) < (0 : Int32) then (1 : Int32) else (0 : Int32)))] [(.int (1 : Int32))])) _
            refine XS.goto X55.here hx rfl (pc0 := 171) (pc' := 175) rfl (hb hby at_171) (by decide) (by decide) ?_
            show Steps p.tables e below (T55.setTop (mkF m 175 #[.val (.int p0), .val (.int p1), .val (.int p2), .val (.int p3), .val (.int p4), .val (.int (1 : Int32)), .val (.ref w_FEWEST_VEHICLES), .val (.int (1 : Int32)), .val (.int (1 : Int32)), .val (.int v1), .val (.int v2), .val (.int m1), .val (.int m2), .val (.double (FP.i2d vM)), .second, .val (.double (FP.i2d vN)), .second, .val (.int (if (1 : Int32) = (0 : Int32) then (1 : Int32) else (if (if v1 < v2 then (-1 : Int32) else (if v1 = v2 then (0 : Int32) else (1 : Int32))) = (0 : Int32) then (1 : Int32) else (if v1 < v2 then (-1 : Int32) else (if v1 = v2 then (0 : Int32) else (1 : Int32)))))), .val (.int (if (if (1 : Int32) = (0 : Int32) then (1 : Int32) else (if (if v1 < v2 then (-1 : Int32) else (if v1 = v2 then (0 : Int32) else (1 : Int32))) = (0 : Int32) then (1 : Int32) else (if v1 < v2 then (-1 : Int32) else (if v1 = v2 then (0 : Int32) else (1 : Int32))))) < (0 : Int32) then (1 : Int32) else (0 : Int32)))] [(.int (1 : Int32))])) _
            simp only [if_neg hc59] at k
            exact k
        show own_Goes p e below _ (T55.setTop (mkF m 175 #[.val (.int p0), .val (.int p1), .val (.int p2), .val (.int p3), .val (.int p4), .val (.int (1 : Int32)), .val (.ref w_FEWEST_VEHICLES), .val (.int (1 : Int32)), .val (.int (1 : Int32)), .val (.int v1), .val (.int v2), .val (.int m1), .val (.int m2), .val (.double (FP.i2d vM)), .second, .val (.double (FP.i2d vN)), .second, .val (.int (if (1 : Int32) = (0 : Int32) then (1 : Int32) else (if (if v1 < v2 then (-1 : Int32) else (if v1 = v2 then (0 : Int32) else (1 : Int32))) = (0 : Int32) then (1 : Int32) else (if v1 < v2 then (-1 : Int32) else (if v1 = v2 then (0 : Int32) else (1 : Int32)))))), .val (.int (if (if (1 : Int32) = (0 : Int32) then (1 : Int32) else (if (if v1 < v2 then (-1 : Int32) else (if v1 = v2 then (0 : Int32) else (1 : Int32))) = (0 : Int32) then (1 : Int32) else (if v1 < v2 then (-1 : Int32) else (if v1 = v2 then (0 : Int32) else (1 : Int32))))) < (0 : Int32) then (1 : Int32) else (0 : Int32)))] [(.int (if (if (if (1 : Int32) = (0 : Int32) then (1 : Int32) else (if (if v1 < v2 then (-1 : Int32) else (if v1 = v2 then (0 : Int32) else (1 : Int32))) = (0 : Int32) then (1 : Int32) else (if v1 < v2 then (-1 : Int32) else (if v1 = v2 then (0 : Int32) else (1 : Int32))))) < (0 : Int32) then (1 : Int32) else (0 : Int32)) = (0 : Int32) then (0 : Int32) else (1 : Int32)))]))
        refine own_retL X55 hx hlk Bd.returns (hb hby at_175) (?_ : (if (if (if (1 : Int32) = (0 : Int32) then (1 : Int32) else (if (if v1 < v2 then (-1 : Int32) else (if v1 = v2 then (0 : Int32) else (1 : Int32))) = (0 : Int32) then (1 : Int32) else (if v1 < v2 then (-1 : Int32) else (if v1 = v2 then (0 : Int32) else (1 : Int32))))) < (0 : Int32) then (1 : Int32) else (0 : Int32)) = (0 : Int32) then (0 : Int32) else (1 : Int32)) = 1) N55 (by decide) (by decide)
        exact own_plain1 hv_v1 hv_v2 hc53
set_option maxRecDepth 65536 in
set_option maxHeartbeats 40000000 in
theorem comes_1 {Post : Tables → Env → Array Value → State → Outcome → State → Prop} (hpost : ∀ tb e args s v u, (limb_1_1.after args s (.returned v) u = true ∧ limb_1_2.after args s (.returned v) u = true ∧ True) → FrameEnd s (.returned v) u (Jvm.fieldLocs frame_1_writes args s ++ Jvm.arrayLocs frame_1_arrays args s ++ Jvm.staticLocs frame_1_statics s) 0 0 → Post tb e args s (.returned v) u) :
    ArmFor flags0 classFile x code maxLocals ret World_1 tables_1 room_1 Calls_1 rest_1 Pre_1 Post := by
  intro l hfl _ _ p e ha hc hk s m args below hf hA hF happ hP
  obtain ⟨hcalls, hrest, hpre⟩ := hP
  obtain ⟨-, -, -, hnamed, -, -, -, hat⟩ := (Spec.applies_iff hf).mp happ
  obtain ⟨hg, hn⟩ := and_e (Cond.before_iff.mp (show (Jvm.Cond.and given_1 narrow_1).before args s = true from hpre))
  obtain ⟨gg1, gg2⟩ := and_e hg
  obtain ⟨gg3, gg4⟩ := and_e gg2
  obtain ⟨gg5, gg6⟩ := and_e gg4
  obtain ⟨gg7, gg8⟩ := and_e gg6
  obtain ⟨gg9, gg10⟩ := and_e gg8
  obtain ⟨w0, w1, w2, w3, w4, rfl⟩ : ∃ w0 w1 w2 w3 w4 : Value, args = #[w0, w1, w2, w3, w4] := by
    have hs : args.size = 5 := by simpa [Cond.value, given_1] using gg1
    obtain ⟨L⟩ := args
    match L, hs with
    | [w0, w1, w2, w3, w4], _ => exact ⟨w0, w1, w2, w3, w4, rfl⟩
  have hw := fun d (hd : d ∈ tables_1) => atoms_spec (ws := Jvm.Cond.code x code maxLocals ret :: tables_1) hat d (List.mem_cons_of_mem _ hd)
  have hfit : Fit s := fun {y c} hc i hi => by
    obtain ⟨ha, rfl⟩ := Array.getElem?_eq_some_iff.mp hc
    have q := List.all_eq_true.mp ((Array.all_eq_true_iff_forall_mem.mp hF) _ (Array.getElem_mem ha)) i (List.mem_range.mpr hi)
    simpa [Array.getElem?_eq_getElem hi] using q
  obtain ⟨i0, ei0⟩ := is_v gg3
  obtain rfl : w0 = (.int i0) := Option.some.inj ei0
  obtain ⟨i1, ei1⟩ := is_v gg5
  obtain rfl : w1 = (.int i1) := Option.some.inj ei1
  obtain ⟨i2, ei2⟩ := is_v gg7
  obtain rfl : w2 = (.int i2) := Option.some.inj ei2
  obtain ⟨i3, ei3⟩ := is_v gg9
  obtain rfl : w3 = (.int i3) := Option.some.inj ei3
  obtain ⟨i4, ei4⟩ := is_v gg10
  obtain rfl : w4 = (.int i4) := Option.some.inj ei4
  obtain ⟨gn1, gn2⟩ := and_e hn
  obtain ⟨gn3, gn4⟩ := and_e gn2
  obtain ⟨gn5, gn6⟩ := and_e gn4
  obtain ⟨w_FEWEST_VEHICLES, ev_FEWEST_VEHICLES⟩ := exa_v gn3
  have S_FEWEST_VEHICLES := Sta.start ev_FEWEST_VEHICLES (Or.inr ⟨(hw _ (List.mem_of_getElem? (i := 1) rfl)), (hw _ (List.mem_of_getElem? (i := 9) rfl))⟩)
  have E_FEWEST_VEHICLES := Exa.start ev_FEWEST_VEHICLES gn3
  have O_FEWEST_VEHICLES := own_ord ev_FEWEST_VEHICLES gn6
  obtain ⟨w_SHORTEST_DISTANCE, ev_SHORTEST_DISTANCE⟩ := exa_v gn1
  have S_SHORTEST_DISTANCE := Sta.start ev_SHORTEST_DISTANCE (Or.inr ⟨(hw _ (List.mem_of_getElem? (i := 1) rfl)), (hw _ (List.mem_of_getElem? (i := 2) rfl))⟩)
  have E_SHORTEST_DISTANCE := Exa.start ev_SHORTEST_DISTANCE gn1
  have O_SHORTEST_DISTANCE := own_ord ev_SHORTEST_DISTANCE gn5
  obtain ⟨n, o, h1, h2, h3, _, L, rfl, ⟨rfl, N⟩, hq⟩ := own_law l s _ hw tables_1 i0 i1 i2 i3 i4 w_FEWEST_VEHICLES w_SHORTEST_DISTANCE s.heap s.heap.size (Nat.le_refl _) S_FEWEST_VEHICLES S_SHORTEST_DISTANCE (Old.start s) E_FEWEST_VEHICLES E_SHORTEST_DISTANCE (O_SHORTEST_DISTANCE.ne O_FEWEST_VEHICLES (by decide)) p e ha hc hk s m _ below hf ((Spec.applies_iff_loose hf).mp happ).1 ⟨rfl, State.Warmed39.refl s, rfl⟩ trivial
  refine ⟨n, _, h1, h2, h3, hpost _ _ _ _ _ _ ⟨Cond.after_iff.mpr rfl, Cond.after_iff.mpr (eq_i res_at (Term.int_eval (1)) rfl), trivial⟩ ⟨hq.1, hq.2.1, (hq.2.2.sift fun y hy => Or.inr (N y hy)).mono (by decide) (by decide)⟩⟩
theorem main_1_1 : Claimed_1_1 := comes_1 fun _ _ _ _ _ _ h hF => ⟨h.1, hF⟩
theorem main_1_2 : Claimed_1_2 := comes_1 fun _ _ _ _ _ _ h hF => ⟨h.2.1, hF⟩
end Jvm.Pilot.@@N@@
namespace Jvm.Pilot.@@N@@
open Jvm Jvm.ClassFile Sem Op Lib Jvm.Free Jvm.Stand Jvm.Pilot.@@N@@.Jvm.D
/-! MADE BY PROGRAM (witnessworld.py) out of the Statement's table words and the real class files: 17 classes; the members and pool entries that the words name. The judged class is class 1, her method 1. -/
namespace start1
open Jvm.ClassFile
def u (s : String) : CpInfo := .utf8 (stringToUtf16 s)
/-- a pool by its gaps: so many unusable entries, then the entry; so many at the end -/
def gap : Nat → List CpInfo → List CpInfo
  | 0, r => r
  | n + 1, r => .unusable :: gap n r
def poolList (es : List (Nat × CpInfo)) (last : Nat) : List CpInfo := es.foldr (fun e r => gap e.1 (e.2 :: r)) (gap last [])
def pool (es : List (Nat × CpInfo)) (last : Nat) : Array CpInfo := ⟨poolList es last⟩
def fileOf (pool : Array CpInfo) (this : Nat) (attrs : Array Attribute := #[]) (ms : Array MethodInfo := #[]) (fl : Nat := 33) (sup : Nat := 0) (ifs : Array Nat := #[]) (fds : Array FieldInfo := #[]) : ClassFile where
  minorVersion := 0
  majorVersion := 65
  constantPool := pool
  accessFlags := fl
  thisClass := this
  superClass := sup
  interfaces := ifs
  fields := fds
  methods := ms
  attributes := attrs
def plain (name : String) (sup : Option ClassId) : Class where
  name := name
  kind := .ordinary
  loader := none
  accessFlags := 33
  super := sup
  interfaces := #[]
  cf := none
  fields := #[]
  methods := #[]
  instanceTypes := #[]
  staticTypes := #[]
  resolved := #[]
  callSites := []
  init := .initialized
  statics := none
  mirror := none

def pool0 : Array CpInfo := pool [(5, u "<init>"), (0, u "()V"), (1, .class_ 10), (1, u "java/lang/Object")] 113

def k0m0 : Method := { name := "<init>", desc := "()V", sig := { parameters := [], returnType := none }, accessFlags := 1, code := none }
/-- java/lang/Object -/
def k0 : Class := { plain "java/lang/Object" none with
  accessFlags := 33
  interfaces := #[]
  cf := some (fileOf pool0 8 #[] #[{ accessFlags := 1, nameIndex := 5, descriptorIndex := 6, attributes := #[] }] 33 0 #[] #[])
  fields := #[]
  methods := #[k0m0]
  instanceTypes := #[]
  staticTypes := #[]
  resolved := Array.replicate 124 none
  statics := none }

def pool1 : Array CpInfo := pool [(2, .class_ 4), (1, u "java/lang/Object"), (0, u "<init>"), (0, u "()V"), (0, .fieldref 8 9), (0, .class_ 10), (0, .nameAndType 11 12), (0, u "com/example/waysmith/waysmith/evaluation/Objective"), (0, u "FEWEST_VEHICLES"), (0, u "Lcom/example/waysmith/waysmith/evaluation/Objective;"), (0, .fieldref 8 14), (0, .nameAndType 15 12), (0, u "SHORTEST_DISTANCE"), (0, .methodref 8 17), (0, .nameAndType 18 19), (0, u "vehiclesFirst"), (0, u "()Z"), (0, .methodref 21 22), (0, .class_ 23), (0, .nameAndType 24 25), (0, u "java/lang/Math"), (0, u "min"), (0, u "(II)I"), (0, .methodref 21 27), (0, .nameAndType 28 25), (0, u "max"), (0, .integer 65535), (0, .methodref 8 31), (0, .nameAndType 32 33), (0, u "compare"), (0, u "(IDID)I"), (0, .class_ 35), (0, u "com/example/waysmith/waysmith/evaluation/ObjectiveVehiclesFirstPinLaw"), (2, u "law"), (0, u "(IIIII)Z")] 3

def k1m0 : Method := { name := "<init>", desc := "()V", sig := { parameters := [], returnType := none }, accessFlags := 1, code := none }
def k1c1 : Code := { maxStack := 7, maxLocals := 19, code := code, exceptionTable := #[], attributes := #[] }
def k1m1 : Method := { name := "law", desc := "(IIIII)Z", sig := { parameters := [.int, .int, .int, .int, .int], returnType := some .boolean }, accessFlags := 9, code := some k1c1 }
/-- com/example/waysmith/waysmith/evaluation/ObjectiveVehiclesFirstPinLaw -/
def k1 : Class := { plain "com/example/waysmith/waysmith/evaluation/ObjectiveVehiclesFirstPinLaw" (some 0) with
  accessFlags := 49
  interfaces := #[]
  cf := some (fileOf pool1 34 #[] #[{ accessFlags := 1, nameIndex := 5, descriptorIndex := 6, attributes := #[] }, { accessFlags := 9, nameIndex := 38, descriptorIndex := 39, attributes := #[] }] 49 2 #[] #[])
  fields := #[]
  methods := #[k1m0, k1m1]
  instanceTypes := #[]
  staticTypes := #[]
  resolved := Array.replicate 43 none
  statics := none }

def pool2 : Array CpInfo := pool [(1, .class_ 2), (0, u "java/lang/constant/Constable"), (0, .class_ 4), (0, u "java/lang/Object")] 6

/-- java/lang/constant/Constable -/
def k2 : Class := { plain "java/lang/constant/Constable" (some 0) with
  accessFlags := 1537
  interfaces := #[]
  cf := some (fileOf pool2 1 #[] #[] 1537 3 #[] #[])
  fields := #[]
  methods := #[]
  instanceTypes := #[]
  staticTypes := #[]
  resolved := Array.replicate 11 none
  statics := none }

def pool3 : Array CpInfo := pool [(1, .class_ 2), (0, u "java/lang/Comparable"), (0, .class_ 4), (0, u "java/lang/Object")] 7

/-- java/lang/Comparable -/
def k3 : Class := { plain "java/lang/Comparable" (some 0) with
  accessFlags := 1537
  interfaces := #[]
  cf := some (fileOf pool3 1 #[] #[] 1537 3 #[] #[])
  fields := #[]
  methods := #[]
  instanceTypes := #[]
  staticTypes := #[]
  resolved := Array.replicate 12 none
  statics := none }

def pool4 : Array CpInfo := pool [(1, .class_ 2), (0, u "java/io/Serializable"), (0, .class_ 4), (0, u "java/lang/Object")] 2

/-- java/io/Serializable -/
def k4 : Class := { plain "java/io/Serializable" (some 0) with
  accessFlags := 1537
  interfaces := #[]
  cf := some (fileOf pool4 1 #[] #[] 1537 3 #[] #[])
  fields := #[]
  methods := #[]
  instanceTypes := #[]
  staticTypes := #[]
  resolved := Array.replicate 7 none
  statics := none }

def pool5 : Array CpInfo := pool [(2, .class_ 4), (1, u "java/lang/Enum"), (0, u "name"), (0, u "Ljava/lang/String;"), (2, u "ordinal"), (0, u "I"), (1, .class_ 14), (1, u "java/lang/Object"), (4, u "hash"), (86, .class_ 108), (1, u "java/lang/Enum$EnumDesc"), (2, .class_ 112), (0, u "java/lang/constant/Constable"), (0, .class_ 114), (0, u "java/lang/Comparable"), (0, .class_ 116), (0, u "java/io/Serializable")] 87

/-- java/lang/Enum -/
def k5 : Class := { plain "java/lang/Enum" (some 0) with
  accessFlags := 1057
  interfaces := #[2, 3, 4]
  cf := some (fileOf pool5 2 #[.nestMembers #[106]] #[] 1057 12 #[111, 113, 115] #[{ accessFlags := 18, nameIndex := 5, descriptorIndex := 6, attributes := #[] }, { accessFlags := 18, nameIndex := 9, descriptorIndex := 10, attributes := #[] }, { accessFlags := 2, nameIndex := 19, descriptorIndex := 10, attributes := #[] }])
  fields := #[{ name := "name", type := (.object "java/lang/String"), accessFlags := 18, slot := 0, constantValue := 0 }, { name := "ordinal", type := .int, accessFlags := 18, slot := 1, constantValue := 0 }, { name := "hash", type := .int, accessFlags := 2, slot := 2, constantValue := 0 }]
  methods := #[]
  instanceTypes := #[(.object "java/lang/String"), .int, .int]
  staticTypes := #[]
  resolved := Array.replicate 204 none
  statics := none }

def pool6 : Array CpInfo := pool [(1, .class_ 2), (0, u "com/example/waysmith/waysmith/evaluation/Objective"), (0, .fieldref 1 4), (0, .nameAndType 5 6), (0, u "FEWEST_VEHICLES"), (0, u "Lcom/example/waysmith/waysmith/evaluation/Objective;"), (2, u "SHORTEST_DISTANCE"), (2, u "$VALUES"), (0, u "[Lcom/example/waysmith/waysmith/evaluation/Objective;"), (6, .class_ 22), (1, u "java/lang/Enum"), (11, u "()Z"), (12, u "compare"), (5, .methodref 54 55), (0, .class_ 56), (0, .nameAndType 47 57), (0, u "java/lang/Integer"), (0, u "(II)I"), (0, .methodref 59 60), (0, .class_ 61), (0, .nameAndType 47 62), (0, u "java/lang/Double"), (0, u "(DD)I"), (0, .methodref 1 64), (0, .nameAndType 65 34), (0, u "vehiclesFirst"), (12, u "(IDID)I")] 62

def k6c0 : Code := { maxStack := 2, maxLocals := 1, code := prog_4_method_5_code, exceptionTable := #[], attributes := #[] }
def k6m0 : Method := { name := "vehiclesFirst", desc := "()Z", sig := { parameters := [], returnType := some .boolean }, accessFlags := 1, code := some k6c0 }
def k6c1 : Code := { maxStack := 4, maxLocals := 10, code := prog_4_method_7_code, exceptionTable := #[], attributes := #[] }
def k6m1 : Method := { name := "compare", desc := "(IDID)I", sig := { parameters := [.int, .double, .int, .double], returnType := some .int }, accessFlags := 1, code := some k6c1 }
/-- com/example/waysmith/waysmith/evaluation/Objective -/
def k6 : Class := { plain "com/example/waysmith/waysmith/evaluation/Objective" (some 5) with
  accessFlags := 16433
  interfaces := #[]
  cf := some (fileOf pool6 1 #[] #[{ accessFlags := 1, nameIndex := 65, descriptorIndex := 34, attributes := #[] }, { accessFlags := 1, nameIndex := 47, descriptorIndex := 78, attributes := #[] }] 16433 20 #[] #[{ accessFlags := 16409, nameIndex := 5, descriptorIndex := 6, attributes := #[] }, { accessFlags := 16409, nameIndex := 9, descriptorIndex := 6, attributes := #[] }, { accessFlags := 4122, nameIndex := 12, descriptorIndex := 13, attributes := #[] }])
  fields := #[{ name := "FEWEST_VEHICLES", type := (.object "com/example/waysmith/waysmith/evaluation/Objective"), accessFlags := 16409, slot := 0, constantValue := 0 }, { name := "SHORTEST_DISTANCE", type := (.object "com/example/waysmith/waysmith/evaluation/Objective"), accessFlags := 16409, slot := 1, constantValue := 0 }, { name := "$VALUES", type := (.array (.object "com/example/waysmith/waysmith/evaluation/Objective")), accessFlags := 4122, slot := 2, constantValue := 0 }]
  methods := #[k6m0, k6m1]
  instanceTypes := #[(.object "java/lang/String"), .int, .int]
  staticTypes := #[(.object "com/example/waysmith/waysmith/evaluation/Objective"), (.object "com/example/waysmith/waysmith/evaluation/Objective"), (.array (.object "com/example/waysmith/waysmith/evaluation/Objective"))]
  resolved := Array.replicate 141 none
  statics := some 0 }

def pool7 : Array CpInfo := pool [(1, .class_ 2), (0, u "java/lang/Math"), (1, .class_ 6), (1, u "java/lang/Object"), (0, u "<init>"), (0, u "()V"), (89, .class_ 100), (1, u "java/lang/Math$RandomNumberGeneratorHolder"), (71, u "negativeZeroFloatBits"), (0, u "J"), (2, u "negativeZeroDoubleBits"), (21, u "max"), (2, u "min"), (43, u "$assertionsDisabled"), (0, u "Z"), (88, u "(II)I"), (2, u "twoToTheDoubleScaleDown"), (0, u "D"), (4, u "twoToTheDoubleScaleUp"), (9, u "E"), (3, u "PI"), (2, u "TAU"), (2, u "DEGREES_TO_RADIANS"), (0, u "RADIANS_TO_DEGREES")] 94

def k7m0 : Method := { name := "<init>", desc := "()V", sig := { parameters := [], returnType := none }, accessFlags := 2, code := none }
def k7c1 : Code := { maxStack := 2, maxLocals := 2, code := jdk_29_method_65_code, exceptionTable := #[], attributes := #[] }
def k7m1 : Method := { name := "max", desc := "(II)I", sig := { parameters := [.int, .int], returnType := some .int }, accessFlags := 9, code := some k7c1 }
def k7c2 : Code := { maxStack := 2, maxLocals := 2, code := jdk_29_method_69_code, exceptionTable := #[], attributes := #[] }
def k7m2 : Method := { name := "min", desc := "(II)I", sig := { parameters := [.int, .int], returnType := some .int }, accessFlags := 9, code := some k7c2 }
/-- java/lang/Math -/
def k7 : Class := { plain "java/lang/Math" (some 0) with
  accessFlags := 49
  interfaces := #[]
  cf := some (fileOf pool7 1 #[.nestMembers #[98]] #[{ accessFlags := 2, nameIndex := 7, descriptorIndex := 8, attributes := #[] }, { accessFlags := 9, nameIndex := 198, descriptorIndex := 335, attributes := #[] }, { accessFlags := 9, nameIndex := 201, descriptorIndex := 335, attributes := #[] }] 49 4 #[] #[{ accessFlags := 25, nameIndex := 354, descriptorIndex := 339, attributes := #[] }, { accessFlags := 25, nameIndex := 358, descriptorIndex := 339, attributes := #[] }, { accessFlags := 25, nameIndex := 361, descriptorIndex := 339, attributes := #[] }, { accessFlags := 26, nameIndex := 364, descriptorIndex := 339, attributes := #[] }, { accessFlags := 26, nameIndex := 365, descriptorIndex := 339, attributes := #[] }, { accessFlags := 26, nameIndex := 172, descriptorIndex := 173, attributes := #[] }, { accessFlags := 26, nameIndex := 176, descriptorIndex := 173, attributes := #[] }, { accessFlags := 8, nameIndex := 344, descriptorIndex := 339, attributes := #[] }, { accessFlags := 8, nameIndex := 338, descriptorIndex := 339, attributes := #[] }, { accessFlags := 4120, nameIndex := 245, descriptorIndex := 246, attributes := #[] }])
  fields := #[{ name := "E", type := .double, accessFlags := 25, slot := 0, constantValue := 0 }, { name := "PI", type := .double, accessFlags := 25, slot := 1, constantValue := 0 }, { name := "TAU", type := .double, accessFlags := 25, slot := 2, constantValue := 0 }, { name := "DEGREES_TO_RADIANS", type := .double, accessFlags := 26, slot := 3, constantValue := 0 }, { name := "RADIANS_TO_DEGREES", type := .double, accessFlags := 26, slot := 4, constantValue := 0 }, { name := "negativeZeroFloatBits", type := .long, accessFlags := 26, slot := 5, constantValue := 0 }, { name := "negativeZeroDoubleBits", type := .long, accessFlags := 26, slot := 6, constantValue := 0 }, { name := "twoToTheDoubleScaleUp", type := .double, accessFlags := 8, slot := 7, constantValue := 0 }, { name := "twoToTheDoubleScaleDown", type := .double, accessFlags := 8, slot := 8, constantValue := 0 }, { name := "$assertionsDisabled", type := .boolean, accessFlags := 4120, slot := 9, constantValue := 0 }]
  methods := #[k7m0, k7m1, k7m2]
  instanceTypes := #[]
  staticTypes := #[.double, .double, .double, .double, .double, .long, .long, .double, .double, .boolean]
  resolved := Array.replicate 460 none
  statics := none }

def pool8 : Array CpInfo := pool [(2, .class_ 4), (1, u "java/lang/Object"), (0, u "<init>"), (0, u "()V"), (1, .class_ 10), (1, u "java/lang/Number"), (2, .class_ 14), (0, u "java/io/Serializable"), (0, u "serialVersionUID"), (0, u "J")] 20

def k8m0 : Method := { name := "<init>", desc := "()V", sig := { parameters := [], returnType := none }, accessFlags := 1, code := none }
/-- java/lang/Number -/
def k8 : Class := { plain "java/lang/Number" (some 0) with
  accessFlags := 1057
  interfaces := #[4]
  cf := some (fileOf pool8 8 #[] #[{ accessFlags := 1, nameIndex := 5, descriptorIndex := 6, attributes := #[] }] 1057 2 #[13] #[{ accessFlags := 26, nameIndex := 15, descriptorIndex := 16, attributes := #[] }])
  fields := #[{ name := "serialVersionUID", type := .long, accessFlags := 26, slot := 0, constantValue := 0 }]
  methods := #[k8m0]
  instanceTypes := #[]
  staticTypes := #[.long]
  resolved := Array.replicate 37 none
  statics := none }

def pool9 : Array CpInfo := pool [(1, .class_ 2), (0, u "java/lang/constant/ConstantDesc"), (0, .class_ 4), (0, u "java/lang/Object")] 32

/-- java/lang/constant/ConstantDesc -/
def k9 : Class := { plain "java/lang/constant/ConstantDesc" (some 0) with
  accessFlags := 1537
  interfaces := #[]
  cf := some (fileOf pool9 1 #[] #[] 1537 3 #[] #[])
  fields := #[]
  methods := #[]
  instanceTypes := #[]
  staticTypes := #[]
  resolved := Array.replicate 37 none
  statics := none }

def pool10 : Array CpInfo := pool [(1, .class_ 2), (0, u "java/lang/Integer"), (16, u "digits"), (0, u "[C"), (39, u "(II)I"), (24, u "DigitOnes"), (0, u "[B"), (2, u "DigitTens"), (99, .class_ 190), (0, u "java/lang/Integer$IntegerCache"), (3, u "I"), (8, .class_ 204), (0, u "java/lang/Number"), (2, u "value"), (53, u "compare"), (40, u "TYPE"), (0, u "Ljava/lang/Class;"), (0, .class_ 305), (0, u "java/lang/Comparable"), (0, .class_ 307), (0, u "java/lang/constant/Constable"), (0, .class_ 309), (0, u "java/lang/constant/ConstantDesc"), (0, u "MIN_VALUE"), (1, u "MAX_VALUE"), (3, u "SIZE"), (1, u "BYTES"), (1, u "serialVersionUID"), (0, u "J")] 131

def k10c0 : Code := { maxStack := 2, maxLocals := 2, code := jdk_33_method_40_code, exceptionTable := #[], attributes := #[] }
def k10m0 : Method := { name := "compare", desc := "(II)I", sig := { parameters := [.int, .int], returnType := some .int }, accessFlags := 9, code := some k10c0 }
/-- java/lang/Integer -/
def k10 : Class := { plain "java/lang/Integer" (some 8) with
  accessFlags := 49
  interfaces := #[3, 2, 9]
  cf := some (fileOf pool10 1 #[.nestMembers #[189]] #[{ accessFlags := 9, nameIndex := 261, descriptorIndex := 60, attributes := #[] }] 49 203 #[304, 306, 308] #[{ accessFlags := 25, nameIndex := 310, descriptorIndex := 194, attributes := #[] }, { accessFlags := 25, nameIndex := 312, descriptorIndex := 194, attributes := #[] }, { accessFlags := 25, nameIndex := 302, descriptorIndex := 303, attributes := #[] }, { accessFlags := 24, nameIndex := 19, descriptorIndex := 20, attributes := #[] }, { accessFlags := 24, nameIndex := 89, descriptorIndex := 86, attributes := #[] }, { accessFlags := 24, nameIndex := 85, descriptorIndex := 86, attributes := #[] }, { accessFlags := 18, nameIndex := 207, descriptorIndex := 194, attributes := #[] }, { accessFlags := 25, nameIndex := 316, descriptorIndex := 194, attributes := #[] }, { accessFlags := 25, nameIndex := 318, descriptorIndex := 194, attributes := #[] }, { accessFlags := 26, nameIndex := 320, descriptorIndex := 321, attributes := #[] }])
  fields := #[{ name := "MIN_VALUE", type := .int, accessFlags := 25, slot := 0, constantValue := 0 }, { name := "MAX_VALUE", type := .int, accessFlags := 25, slot := 1, constantValue := 0 }, { name := "TYPE", type := (.object "java/lang/Class"), accessFlags := 25, slot := 2, constantValue := 0 }, { name := "digits", type := (.array .char), accessFlags := 24, slot := 3, constantValue := 0 }, { name := "DigitTens", type := (.array .byte), accessFlags := 24, slot := 4, constantValue := 0 }, { name := "DigitOnes", type := (.array .byte), accessFlags := 24, slot := 5, constantValue := 0 }, { name := "value", type := .int, accessFlags := 18, slot := 0, constantValue := 0 }, { name := "SIZE", type := .int, accessFlags := 25, slot := 6, constantValue := 0 }, { name := "BYTES", type := .int, accessFlags := 25, slot := 7, constantValue := 0 }, { name := "serialVersionUID", type := .long, accessFlags := 26, slot := 8, constantValue := 0 }]
  methods := #[k10m0]
  instanceTypes := #[.int]
  staticTypes := #[.int, .int, (.object "java/lang/Class"), (.array .char), (.array .byte), (.array .byte), .int, .int, .long]
  resolved := Array.replicate 453 none
  statics := none }

def pool11 : Array CpInfo := pool [(1, .class_ 2), (0, u "java/lang/Double"), (111, .class_ 116), (1, u "java/lang/Number"), (3, u "value"), (0, u "D"), (19, u "compare"), (0, u "(DD)I"), (30, u "TYPE"), (0, u "Ljava/lang/Class;"), (0, .class_ 176), (0, u "java/lang/Comparable"), (0, .class_ 178), (0, u "java/lang/constant/Constable"), (0, .class_ 180), (0, u "java/lang/constant/ConstantDesc"), (0, u "POSITIVE_INFINITY"), (3, u "NEGATIVE_INFINITY"), (2, u "NaN"), (2, u "MAX_VALUE"), (0, u "MIN_NORMAL"), (0, u "MIN_VALUE"), (2, u "SIZE"), (0, u "I"), (1, u "PRECISION"), (1, u "MAX_EXPONENT"), (1, u "MIN_EXPONENT"), (1, u "BYTES"), (3, u "serialVersionUID"), (0, u "J")] 79

def k11c0 : Code := { maxStack := 4, maxLocals := 8, code := jdk_117_method_27_code, exceptionTable := #[], attributes := #[] }
def k11m0 : Method := { name := "compare", desc := "(DD)I", sig := { parameters := [.double, .double], returnType := some .int }, accessFlags := 9, code := some k11c0 }
/-- java/lang/Double -/
def k11 : Class := { plain "java/lang/Double" (some 8) with
  accessFlags := 49
  interfaces := #[3, 2, 9]
  cf := some (fileOf pool11 1 #[] #[{ accessFlags := 9, nameIndex := 141, descriptorIndex := 142, attributes := #[] }] 49 114 #[175, 177, 179] #[{ accessFlags := 25, nameIndex := 181, descriptorIndex := 121, attributes := #[] }, { accessFlags := 25, nameIndex := 185, descriptorIndex := 121, attributes := #[] }, { accessFlags := 25, nameIndex := 188, descriptorIndex := 121, attributes := #[] }, { accessFlags := 25, nameIndex := 191, descriptorIndex := 121, attributes := #[] }, { accessFlags := 25, nameIndex := 192, descriptorIndex := 121, attributes := #[] }, { accessFlags := 25, nameIndex := 193, descriptorIndex := 121, attributes := #[] }, { accessFlags := 25, nameIndex := 196, descriptorIndex := 197, attributes := #[] }, { accessFlags := 25, nameIndex := 199, descriptorIndex := 197, attributes := #[] }, { accessFlags := 25, nameIndex := 201, descriptorIndex := 197, attributes := #[] }, { accessFlags := 25, nameIndex := 203, descriptorIndex := 197, attributes := #[] }, { accessFlags := 25, nameIndex := 205, descriptorIndex := 197, attributes := #[] }, { accessFlags := 25, nameIndex := 173, descriptorIndex := 174, attributes := #[] }, { accessFlags := 18, nameIndex := 120, descriptorIndex := 121, attributes := #[] }, { accessFlags := 26, nameIndex := 209, descriptorIndex := 210, attributes := #[] }])
  fields := #[{ name := "POSITIVE_INFINITY", type := .double, accessFlags := 25, slot := 0, constantValue := 0 }, { name := "NEGATIVE_INFINITY", type := .double, accessFlags := 25, slot := 1, constantValue := 0 }, { name := "NaN", type := .double, accessFlags := 25, slot := 2, constantValue := 0 }, { name := "MAX_VALUE", type := .double, accessFlags := 25, slot := 3, constantValue := 0 }, { name := "MIN_NORMAL", type := .double, accessFlags := 25, slot := 4, constantValue := 0 }, { name := "MIN_VALUE", type := .double, accessFlags := 25, slot := 5, constantValue := 0 }, { name := "SIZE", type := .int, accessFlags := 25, slot := 6, constantValue := 0 }, { name := "PRECISION", type := .int, accessFlags := 25, slot := 7, constantValue := 0 }, { name := "MAX_EXPONENT", type := .int, accessFlags := 25, slot := 8, constantValue := 0 }, { name := "MIN_EXPONENT", type := .int, accessFlags := 25, slot := 9, constantValue := 0 }, { name := "BYTES", type := .int, accessFlags := 25, slot := 10, constantValue := 0 }, { name := "TYPE", type := (.object "java/lang/Class"), accessFlags := 25, slot := 11, constantValue := 0 }, { name := "value", type := .double, accessFlags := 18, slot := 0, constantValue := 0 }, { name := "serialVersionUID", type := .long, accessFlags := 26, slot := 12, constantValue := 0 }]
  methods := #[k11m0]
  instanceTypes := #[.double]
  staticTypes := #[.double, .double, .double, .double, .double, .double, .int, .int, .int, .int, .int, (.object "java/lang/Class"), .long]
  resolved := Array.replicate 290 none
  statics := none }

def pool12 : Array CpInfo := pool [(1, u "java/lang/Cloneable"), (0, .class_ 1), (0, u "java/lang/Object"), (0, .class_ 3)] 3

/-- java/lang/Cloneable -/
def k12 : Class := { plain "java/lang/Cloneable" (some 0) with
  accessFlags := 1537
  interfaces := #[]
  cf := some (fileOf pool12 2 #[] #[] 1537 4 #[] #[])
  fields := #[]
  methods := #[]
  instanceTypes := #[]
  staticTypes := #[]
  resolved := Array.replicate 8 none
  statics := none }

/-- the primitive byte -/
def k13 : Class := { plain "byte" none with kind := .primitive 'B', accessFlags := 0x411 }
/-- [B -/
def k14 : Class := { plain "[B" (some 0) with kind := .array 13 .byte, interfaces := #[12, 4], accessFlags := 1041 }

/-- the primitive int -/
def k15 : Class := { plain "int" none with kind := .primitive 'I', accessFlags := 0x411 }
/-- [I -/
def k16 : Class := { plain "[I" (some 0) with kind := .array 15 .int, interfaces := #[12, 4], accessFlags := 1041 }

def heap : Heap := #[{ cls := 6, slots := #[.ref 2, .ref 1, .null], vm := .statics 6 },
  { cls := 6, slots := #[.null, .int 1, .int 0], vm := .none },
  { cls := 6, slots := #[.null, .int 0, .int 0], vm := .none }]
def classes : Array Class := #[k0, k1, k2, k3, k4, k5, k6, k7, k8, k9, k10, k11, k12, k13, k14, k15, k16]
def interned : List (Array UInt16 × Addr) := []
def slotsUsed : Nat := 9
def theMethod : MethodId := ⟨1, 1⟩
def args0 : Array Value := #[.int 1, .int 2, .int 3, .int 4, .int 5]
def aboutOver (below : List Frame) : State where
  vm := { classes := classes, interned := interned.toArray }
  heap := heap
  slotsUsed := slotsUsed
  threads := #[{ frames := .invoking theMethod args0 :: below }]
def below0 : List Frame := [.native { method := ⟨0, 0⟩, args := #[] }]
def about1 : State := aboutOver below0
def p0 : Program := .bare "" "" ""
def e0 : Env := launch0.env 0 0 0
theorem w_frames : about1.frames = Frame.invoking theMethod args0 :: below0 := rfl
set_option maxRecDepth 65536 in
theorem w_args : argsFit about1.vm theMethod args0 = true := by decide +kernel
set_option maxRecDepth 65536 in
theorem w_heap : heapFits about1 = true := by decide +kernel
set_option maxRecDepth 65536 in
theorem w_runnable : about1.curStatus? = some .runnable := by decide +kernel
set_option maxRecDepth 65536 in
theorem w_alone : about1.alone = true := by decide +kernel
set_option maxRecDepth 65536 in
theorem w_named : about1.methodNamed? x = some theMethod := by decide +kernel
set_option maxRecDepth 65536 in
theorem w_hears : about1.hears theMethod below0 = true := by decide +kernel
set_option maxRecDepth 65536 in
theorem w_ripe : about1.ripe theMethod args0 below0 = true := by decide +kernel
theorem w_running : about1.status = .running := rfl
set_option maxRecDepth 65536 in
theorem w_room : about1.hasRoom e0.platform room_1 = true :=
  launch0.hasRoom_least _ room_1 (by decide +kernel) (by decide +kernel) (by decide +kernel) (by decide +kernel) (by decide +kernel) (by decide +kernel)
theorem allAtoms_all (ts : List Jvm.Cond) (a : Array Jvm.Value) (st : Jvm.State) : (allAtoms ts).before a st = ts.all (fun c => c.before a st) := by
  induction ts with
  | nil => rfl
  | cons c t ih =>
    show (Jvm.Cond.and c (allAtoms t)).before a st = _
    rw [Jvm.Cond.before_and, ih, List.all_cons]
def words1 : List Jvm.Cond := Jvm.Cond.code x code maxLocals ret :: tables_1
/-- a 'code' word, met by the world's own term for the bytes: nothing is compared byte by byte -/
theorem code_word {y : MethodName} {bytes : ByteArray} {mx : Nat} {rt : Option FieldType} {a : Array Value} {s : State} {m : MethodId} {meth : Method} {c : Code} (h1 : s.methodNamed? y = some m) (h2 : s.vm.method? m = some meth) (h3 : meth.code = some c) (h4 : c.code = bytes)
    (h5 : (c.maxLocals == mx && c.exceptionTable.isEmpty && decide (c.maxStack ≤ mostOperands) && decide (meth.sig.returnType = rt) && !meth.locks && decide (parseMethodDescriptor y.desc = some meth.sig)) = true) : (Jvm.Cond.code y bytes mx rt).before a s = true := by
  simp only [Bool.and_eq_true, beq_iff_eq, Bool.not_eq_true', decide_eq_true_eq] at h5
  obtain ⟨⟨⟨⟨⟨g1, g2⟩, g3⟩, g4⟩, g5⟩, g6⟩ := h5
  simp [Cond.before, Cond.holds, Cond.value, h1, h2, h3, h4, g1, g2, g3, g4, g5, g6]
def isCode : Jvm.Cond → Bool
  | .code _ _ _ _ => true
  | _ => false
theorem all_split {L : List Jvm.Cond} {P : Jvm.Cond → Bool} (h1 : L.all (fun c => isCode c || P c) = true) (h2 : ∀ c ∈ L.filter isCode, P c = true) : L.all P = true := by
  refine List.all_eq_true.mpr fun c hc => ?_
  have h := List.all_eq_true.mp h1 c hc
  rcases Bool.eq_false_or_eq_true (isCode c) with hi | hi
  · exact h2 c (List.mem_filter.mpr ⟨hc, hi⟩)
  · simpa [hi] using h
set_option maxRecDepth 65536 in
theorem w_c0 : (Jvm.Cond.code x code maxLocals ret).before args0 about1 = true := code_word (m := ⟨1, 1⟩) (meth := k1m1) (c := k1c1) (by decide +kernel) rfl rfl rfl (by decide +kernel)
set_option maxRecDepth 65536 in
theorem w_c1 : (Jvm.Cond.code ({ cls := "com/example/waysmith/waysmith/evaluation/Objective", name := "vehiclesFirst", desc := "()Z" } : Jvm.MethodName) prog_4_method_5_code (1 : Nat) (Option.some Jvm.ClassFile.FieldType.boolean)).before args0 about1 = true := code_word (m := ⟨6, 0⟩) (meth := k6m0) (c := k6c0) (by decide +kernel) rfl rfl rfl (by decide +kernel)
set_option maxRecDepth 65536 in
theorem w_c2 : (Jvm.Cond.code ({ cls := "java/lang/Math", name := "min", desc := "(II)I" } : Jvm.MethodName) jdk_29_method_69_code (2 : Nat) (Option.some Jvm.ClassFile.FieldType.int)).before args0 about1 = true := code_word (m := ⟨7, 2⟩) (meth := k7m2) (c := k7c2) (by decide +kernel) rfl rfl rfl (by decide +kernel)
set_option maxRecDepth 65536 in
theorem w_c3 : (Jvm.Cond.code ({ cls := "java/lang/Math", name := "max", desc := "(II)I" } : Jvm.MethodName) jdk_29_method_65_code (2 : Nat) (Option.some Jvm.ClassFile.FieldType.int)).before args0 about1 = true := code_word (m := ⟨7, 1⟩) (meth := k7m1) (c := k7c1) (by decide +kernel) rfl rfl rfl (by decide +kernel)
set_option maxRecDepth 65536 in
theorem w_c4 : (Jvm.Cond.code ({ cls := "com/example/waysmith/waysmith/evaluation/Objective", name := "compare", desc := "(IDID)I" } : Jvm.MethodName) prog_4_method_7_code (10 : Nat) (Option.some Jvm.ClassFile.FieldType.int)).before args0 about1 = true := code_word (m := ⟨6, 1⟩) (meth := k6m1) (c := k6c1) (by decide +kernel) rfl rfl rfl (by decide +kernel)
set_option maxRecDepth 65536 in
theorem w_c5 : (Jvm.Cond.code ({ cls := "java/lang/Integer", name := "compare", desc := "(II)I" } : Jvm.MethodName) jdk_33_method_40_code (2 : Nat) (Option.some Jvm.ClassFile.FieldType.int)).before args0 about1 = true := code_word (m := ⟨10, 0⟩) (meth := k10m0) (c := k10c0) (by decide +kernel) rfl rfl rfl (by decide +kernel)
set_option maxRecDepth 65536 in
theorem w_c6 : (Jvm.Cond.code ({ cls := "java/lang/Double", name := "compare", desc := "(DD)I" } : Jvm.MethodName) jdk_117_method_27_code (8 : Nat) (Option.some Jvm.ClassFile.FieldType.int)).before args0 about1 = true := code_word (m := ⟨11, 0⟩) (meth := k11m0) (c := k11c0) (by decide +kernel) rfl rfl rfl (by decide +kernel)
def codes1 : List Jvm.Cond := [Jvm.Cond.code x code maxLocals ret, Jvm.Cond.code ({ cls := "com/example/waysmith/waysmith/evaluation/Objective", name := "vehiclesFirst", desc := "()Z" } : Jvm.MethodName) prog_4_method_5_code (1 : Nat) (Option.some Jvm.ClassFile.FieldType.boolean), Jvm.Cond.code ({ cls := "java/lang/Math", name := "min", desc := "(II)I" } : Jvm.MethodName) jdk_29_method_69_code (2 : Nat) (Option.some Jvm.ClassFile.FieldType.int), Jvm.Cond.code ({ cls := "java/lang/Math", name := "max", desc := "(II)I" } : Jvm.MethodName) jdk_29_method_65_code (2 : Nat) (Option.some Jvm.ClassFile.FieldType.int), Jvm.Cond.code ({ cls := "com/example/waysmith/waysmith/evaluation/Objective", name := "compare", desc := "(IDID)I" } : Jvm.MethodName) prog_4_method_7_code (10 : Nat) (Option.some Jvm.ClassFile.FieldType.int), Jvm.Cond.code ({ cls := "java/lang/Integer", name := "compare", desc := "(II)I" } : Jvm.MethodName) jdk_33_method_40_code (2 : Nat) (Option.some Jvm.ClassFile.FieldType.int), Jvm.Cond.code ({ cls := "java/lang/Double", name := "compare", desc := "(DD)I" } : Jvm.MethodName) jdk_117_method_27_code (8 : Nat) (Option.some Jvm.ClassFile.FieldType.int)]
set_option maxRecDepth 65536 in
theorem codes_eq : words1.filter isCode = codes1 := rfl
theorem w_codes : ∀ c ∈ words1.filter isCode, c.before args0 about1 = true := by
  rw [codes_eq]
  intro c hc
  simp only [codes1, List.mem_cons, List.not_mem_nil, or_false] at hc
  rcases hc with rfl | rfl | rfl | rfl | rfl | rfl | rfl
  · exact w_c0
  · exact w_c1
  · exact w_c2
  · exact w_c3
  · exact w_c4
  · exact w_c5
  · exact w_c6
set_option maxRecDepth 65536 in
theorem w_t1 : (words1.take 24).all (fun c => isCode c || c.before args0 about1) = true := by decide +kernel
set_option maxRecDepth 65536 in
theorem w_t2 : (words1.drop 24).all (fun c => isCode c || c.before args0 about1) = true := by decide +kernel
theorem w_tables : (allAtoms (Jvm.Cond.code x code maxLocals ret :: tables_1)).before args0 about1 = true := by
  rw [allAtoms_all]
  show words1.all (fun c => c.before args0 about1) = true
  refine all_split ?_ w_codes
  rw [← List.take_append_drop 24 words1, List.all_append, w_t1, w_t2]
  rfl
set_option maxRecDepth 65536 in
theorem w_case : (Jvm.Cond.and given_1 narrow_1).before args0 about1 = true := by decide +kernel
theorem w_applies : (headSpec (Jvm.Cond.code x code maxLocals ret :: tables_1) room_1).applies x e0.platform about1 = true :=
  (Spec.applies_iff w_frames).mpr ⟨w_running, w_runnable, w_alone, w_named, w_hears, w_ripe, w_room, w_tables⟩
theorem atStart : AtStart classFile x code maxLocals ret World_1 tables_1 room_1 Calls_1 rest_1 Pre_1 launch0 p0 e0 about1 theMethod args0 below0 :=
  ⟨lists_1, trivial, launch0.admits_env _ _ _, launch0.least_env, fairChoices_fair.cas, fairChoices_fair.clock, w_frames, w_args, w_heap, w_applies, trivial, trivial, w_case⟩
end start1
theorem witness_1 : WitnessClaimed_1 := ⟨start1.p0, start1.e0, start1.about1, start1.theMethod, start1.args0, start1.below0, start1.atStart⟩
end Jvm.Pilot.@@N@@
