import JvmDerived
import JvmDerived.Pilot.@@N@@Statement
import JvmDerived.Pilot.@@N@@Code
set_option linter.unusedVariables false
set_option linter.unusedSimpArgs false
namespace Jvm.Pilot.@@N@@
open Jvm Jvm.ClassFile Sem Op Lib Jvm.Free Jvm.Stand Jvm.LawKit Jvm.RoadKit Bundle Jvm.Pilot.@@N@@.Jvm.D
section Own
variable {p : Program} {l : Launch} {e : Env} {R : Room} {s : State} {m : MethodId} {args : Array Value} {below : List Frame} {meth : Method} {c : Code} {T : State} {locs : List Loc} {cells slots : Nat} {Z : State} {h h' : Heap} {a b : Addr} {G : State → Outcome → Prop} {Q : Option Value → Heap → List Loc → Prop} {C K : Nat}
/-- the run comes to an end of which G holds -/
def own_Goes (p : Program) (e : Env) (below : List Frame) (G : State → Outcome → Prop) (S : State) : Prop := ∃ s₂ o, Steps p.tables e below S s₂ ∧ s₂.status = .running ∧ Ended s₂ below o ∧ G s₂ o
theorem own_step {S S' : State} (k : ∀ t, Steps p.tables e below S' t → Steps p.tables e below S t) (h : own_Goes p e below G S') : own_Goes p e below G S := by
  obtain ⟨s₂, o, h1, h2⟩ := h
  exact ⟨s₂, o, k _ h1, h2⟩
theorem own_jump {S S' : State} (k : Steps p.tables e below S S') (h : own_Goes p e below G S') : own_Goes p e below G S := own_step (fun _ q => k.trans q) h
def own_Fin (s : State) (Q : Option Value → Heap → List Loc → Prop) (C K : Nat) : State → Outcome → Prop := fun U o => ∃ v L, o = .returned v ∧ Q v U.heap L ∧ FrameEnd s o U L C K
theorem own_ret0 (X : Stand p l e R s m args below meth c T locs cells slots) (hx : p.tables.exec = Jvm.exec) (hlk : meth.locks = false) (hret : meth.sig.returnType = none) {pc : Nat} {Ls : Array Slot} (hd : decode c.code pc = .ok (.return_, 1)) (hq : Q none T.heap locs) (hc : cells ≤ C) (hk : slots ≤ K) :
    own_Goes p e below (own_Fin s Q C K) (T.setTop (mkF m pc Ls [])) := by
  obtain ⟨fs, hr, hrun, hended, hW, hsame⟩ := X.leave (v := none) (fun _ => rfl)
  exact ⟨_, _, X.returnOut hx hret hd hr, hrun, hended, _, _, rfl, hq, ⟨_, rfl⟩, hW, hsame.mono hc hk⟩
theorem own_retV (X : Stand p l e R s m args below meth c T locs cells slots) (hx : p.tables.exec = Jvm.exec) (hlk : meth.locks = false) {t : FieldType} (hret : meth.sig.returnType = some t) {w : Value} (hn : narrow t w = w) {i : Instr}
    (hi : (i = .ireturn ∧ (t = .int ∨ t = .boolean ∨ t = .byte ∨ t = .char ∨ t = .short) ∧ ∃ z, w = .int z) ∨ (i = .lreturn ∧ t = .long ∧ ∃ z, w = .long z) ∨ (i = .dreturn ∧ t = .double ∧ ∃ z, w = .double z) ∨ (i = .freturn ∧ t = .float ∧ ∃ z, w = .float z) ∨ (i = .areturn ∧ t.isReference = true ∧ w.isRef = true))
    {pc : Nat} {Ls : Array Slot} {rest : List Value} (hd : decode c.code pc = .ok (i, 1)) (hq : Q (some w) T.heap locs) (hc : cells ≤ C) (hk : slots ≤ K) :
    own_Goes p e below (own_Fin s Q C K) (T.setTop (mkF m pc Ls (w :: rest))) := by
  obtain ⟨fs, hr, hrun, hended, hW, hsame⟩ := X.leave (v := some w) (fun h => by rw [hret] at h; cases h)
  exact ⟨_, _, retOut X hx hret hn hi hd hr, hrun, hended, _, _, rfl, hq, ⟨_, rfl⟩, hW, hsame.mono hc hk⟩
theorem own_nb {z : Int32} (h : z = 0 ∨ z = 1) : narrow .boolean (.int z) = .int z := by
  rcases h with rfl | rfl <;> rfl
theorem own_01 {q : Prop} [Decidable q] {x y : Int32} (hx : x = 0 ∨ x = 1) (hy : y = 0 ∨ y = 1) : (if q then x else y) = 0 ∨ (if q then x else y) = 1 := by
  split
  · exact hx
  · exact hy
/-- the law's own promise -/
def own_Q0 (n0 : Nat) (v : Option Value) (h : Heap) (L : List Loc) : Prop := v = some (.int 1) ∧ Fr n0 L
theorem own_retL {n0 : Nat} (X : Stand p l e R s m args below meth c T locs cells slots) (hx : p.tables.exec = Jvm.exec) (hlk : meth.locks = false) (hret : meth.sig.returnType = some .boolean) {pc : Nat} {Ls : Array Slot} {z : Int32} {rest : List Value} (hd : decode c.code pc = .ok (.ireturn, 1)) (hz : z = 1) (N : Fr n0 locs) (hc : cells ≤ C) (hk : slots ≤ K) :
    own_Goes p e below (own_Fin s (own_Q0 n0) C K) (T.setTop (mkF m pc Ls (.int z :: rest))) := by
  subst hz
  exact own_retV X hx hlk hret (own_nb (Or.inr rfl)) (Or.inl ⟨rfl, Or.inr (Or.inl rfl), _, rfl⟩) hd ⟨rfl, N⟩ hc hk
/-! arrays of ints and of longs, by their lists -/
theorem own_getI (xs : List Int32) (n : Nat) : (xs.map Value.int).getD n (Value.int 0) = Value.int (xs.getD n 0) := by
  simp only [List.getD_eq_getElem?_getD, List.getElem?_map]
  cases xs[n]? <;> rfl
theorem own_getJ (xs : List Int64) (n : Nat) : (xs.map Value.long).getD n (Value.long 0) = Value.long (xs.getD n 0) := by
  simp only [List.getD_eq_getElem?_getD, List.getElem?_map]
  cases xs[n]? <;> rfl
theorem own_newI {k : ClassId} {z : Int32} (A : Arr Z h a (newA k .int z) .int) (q : ¬ z < 0) (n : Nat) : Arv Z h a k .int z ((List.replicate n (0 : Int32)).map Value.int) (Value.int 0) :=
  (Arv.new A q).pad fun i => by rw [List.map_replicate]; exact pad_rep [] (Value.int 0) n i
theorem own_newJ {k : ClassId} {z : Int32} (A : Arr Z h a (newA k .long z) .long) (q : ¬ z < 0) (n : Nat) : Arv Z h a k .long z ((List.replicate n (0 : Int64)).map Value.long) (Value.long 0) :=
  (Arv.new A q).pad fun i => by rw [List.map_replicate]; exact pad_rep [] (Value.long 0) n i
theorem own_ial (X : Stand p l e R s m args below meth c T locs cells slots) (hx : p.tables.exec = Jvm.exec) (hZ : Z.Warmed39 s.vm) (eT : T.heap = h) {k : ClassId} {z j : Int32} {xs : List Int32} (F : Arv Z h a k .int z (xs.map Value.int) (Value.int 0)) (hj : ¬ j < 0 ∧ j < z)
    {g : JFrame} (hg : g.method = m) {rest : List Value} (hs : g.stack = .int j :: .ref a :: rest) (hd : decode c.code g.pc = .ok (.iaload, 1)) (t : State) (kk : Steps p.tables e below (T.setTop { g with pc := g.pc + 1, stack := .int (xs.getD j.toNatClampNeg 0) :: rest }) t) : Steps p.tables e below (T.setTop g) t := by
  obtain ⟨cl, Ar, -, S, -, H, -⟩ := F
  have hin := inb_of S hj
  exact X.iaload hx (j := j) (by rw [eT]; exact Ar.1) (State.isArrayOf_alike hZ.alike Ar.2.1) Ar.2.2 hin (H.at hin (own_getI _ _)) hg hs hd t kk
theorem own_lal (X : Stand p l e R s m args below meth c T locs cells slots) (hx : p.tables.exec = Jvm.exec) (hZ : Z.Warmed39 s.vm) (eT : T.heap = h) {k : ClassId} {z j : Int32} {xs : List Int64} (F : Arv Z h a k .long z (xs.map Value.long) (Value.long 0)) (hj : ¬ j < 0 ∧ j < z)
    {g : JFrame} (hg : g.method = m) {rest : List Value} (hs : g.stack = .int j :: .ref a :: rest) (hd : decode c.code g.pc = .ok (.laload, 1)) (t : State) (kk : Steps p.tables e below (T.setTop { g with pc := g.pc + 1, stack := .long (xs.getD j.toNatClampNeg 0) :: rest }) t) : Steps p.tables e below (T.setTop g) t := by
  obtain ⟨cl, Ar, -, S, -, H, -⟩ := F
  have hin := inb_of S hj
  exact X.laload hx (j := j) (by rw [eT]; exact Ar.1) (State.isArrayOf_alike hZ.alike Ar.2.1) Ar.2.2 hin (H.at hin (own_getJ _ _)) hg hs hd t kk
theorem own_len (X : Stand p l e R s m args below meth c T locs cells slots) (hx : p.tables.exec = Jvm.exec) (hZ : Z.Warmed39 s.vm) (eT : T.heap = h) {k : ClassId} {ty : FieldType} {z : Int32} {vs : List Value} {dv : Value} (F : Arv Z h a k ty z vs dv)
    {g : JFrame} (hg : g.method = m) {rest : List Value} (hs : g.stack = .ref a :: rest) (hd : decode c.code g.pc = .ok (.arraylength, 1)) (t : State) (kk : Steps p.tables e below (T.setTop { g with pc := g.pc + 1, stack := .int z :: rest }) t) : Steps p.tables e below (T.setTop g) t := by
  obtain ⟨cl, Ar, -, S, N, -, -⟩ := F
  refine X.arraylength hx (by rw [eT]; exact Ar.1) (State.isArrayOf_alike hZ.alike Ar.2.1) hg hs hd t ?_
  rw [len_of S N]
  exact kk
theorem own_ist (X : Stand p l e R s m args below meth c T locs cells slots) (hx : p.tables.exec = Jvm.exec) (hZ : Z.Warmed39 s.vm) (eT : T.heap = h) {k : ClassId} {z j y : Int32} {xs : List Int32} (F : Arv Z h a k .int z (xs.map Value.int) (Value.int 0)) (hj : ¬ j < 0 ∧ j < z) (n : Nat) (hn : j.toNatClampNeg = n) (hl : n < xs.length)
    {g : JFrame} (hg : g.method = m) {rest : List Value} (hs : g.stack = .int y :: .int j :: .ref a :: rest) (hd : decode c.code g.pc = .ok (.iastore, 1)) :
    ∃ T' h', Stand p l e R s m args below meth c T' (locs ++ [⟨a, j.toNatClampNeg⟩]) cells slots ∧ T'.heap = h' ∧ Wr h h' a j.toNatClampNeg (.int y) ∧ Arv Z h' a k .int z ((xs.set n y).map Value.int) (Value.int 0) ∧ ∀ t, Steps p.tables e below (T'.setTop { g with pc := g.pc + 1, stack := rest }) t → Steps p.tables e below (T.setTop g) t := by
  obtain ⟨cl, Ar, q, S, N, H, I⟩ := F
  obtain ⟨T', h', X', e', W, st⟩ := stI X hx hZ eT Ar (inb_of S hj) hg hs hd
  refine ⟨T', h', X', e', W, ?_, st⟩
  rw [List.map_set]
  exact Arv.set Ar q S N H I rfl W n hn (by rw [List.length_map]; exact hl)
theorem own_lst (X : Stand p l e R s m args below meth c T locs cells slots) (hx : p.tables.exec = Jvm.exec) (hZ : Z.Warmed39 s.vm) (eT : T.heap = h) {k : ClassId} {z j : Int32} {y : Int64} {xs : List Int64} (F : Arv Z h a k .long z (xs.map Value.long) (Value.long 0)) (hj : ¬ j < 0 ∧ j < z) (n : Nat) (hn : j.toNatClampNeg = n) (hl : n < xs.length)
    {g : JFrame} (hg : g.method = m) {rest : List Value} (hs : g.stack = .long y :: .int j :: .ref a :: rest) (hd : decode c.code g.pc = .ok (.lastore, 1)) :
    ∃ T' h', Stand p l e R s m args below meth c T' (locs ++ [⟨a, j.toNatClampNeg⟩]) cells slots ∧ T'.heap = h' ∧ Wr h h' a j.toNatClampNeg (.long y) ∧ Arv Z h' a k .long z ((xs.set n y).map Value.long) (Value.long 0) ∧ ∀ t, Steps p.tables e below (T'.setTop { g with pc := g.pc + 1, stack := rest }) t → Steps p.tables e below (T.setTop g) t := by
  obtain ⟨cl, Ar, q, S, N, H, I⟩ := F
  obtain ⟨T', h', X', e', W, st⟩ := stJ X hx hZ eT Ar (inb_of S hj) hg hs hd
  refine ⟨T', h', X', e', W, ?_, st⟩
  rw [List.map_set]
  exact Arv.set Ar q S N H I rfl W n hn (by rw [List.length_map]; exact hl)
end Own
theorem own_f1 : Jvm.Free.Fl.Fin64 FP.dconst1 := by unfold Jvm.Free.Fl.Fin64; decide +kernel
theorem own_f2 : Jvm.Free.Fl.Fin64 (4611686018427387904 : UInt64) := by unfold Jvm.Free.Fl.Fin64; decide
theorem own_f3 : Jvm.Free.Fl.Fin64 (4613937818241073152 : UInt64) := by unfold Jvm.Free.Fl.Fin64; decide
theorem own_pn0 : plainName "com/example/waysmith/waysmith/solver/Stretch" = true := by first | (simp [plainName, overriddenIn]; done) | decide +kernel
theorem own_dprog_62_method_1_code_0 : decode prog_62_method_1_code 0 = .ok (.aload_n 0, 1) := by decide +kernel
theorem own_dprog_62_method_1_code_1 : decode prog_62_method_1_code 1 = .ok (.invokespecial 1, 3) := by decide +kernel
theorem own_dprog_62_method_1_code_4 : decode prog_62_method_1_code 4 = .ok (.return_, 1) := by decide +kernel
theorem own_b1_ef (m : MethodId) (a1 : Addr) : entryFrame m #[(.ref a1)] 1 = mkF m 0 #[.val (.ref a1)] [] := by first | (simp [entryFrame, mkF, argsToLocals, Value.category]; done) | rfl
def own_b1_Q (Z : State) (a1 : Addr) (h0 : Heap) (n0 : Nat) (v : Option Value) (h : Heap) (L : List Loc) : Prop := v = none ∧ Fr n0 L ∧ h = h0
set_option maxRecDepth 65536 in
set_option maxHeartbeats 40000000 in
theorem own_b1 (l : Launch) (Z : State) (a0 : Array Value) (hw : ∀ d ∈ tables_1, d.before a0 Z = true) (ws : List Jvm.Cond) (a1 : Addr) (h0 : Heap) (n0 : Nat) (Z0 : n0 ≤ h0.size) :
    MetFree l (⟨"com/example/waysmith/waysmith/solver/Stretch", "<init>", "()V"⟩ : MethodName) (head1 (Jvm.Cond.code (⟨"com/example/waysmith/waysmith/solver/Stretch", "<init>", "()V"⟩ : MethodName) prog_62_method_1_code 1 none :: ws) ({ frames := 1, cells := 0, slots := 0, locals := 12 } : Room)) (fun aa U => aa = #[(.ref a1)] ∧ Z.Warmed39 U.vm ∧ U.heap = h0) (fun _ _ _ _ _ => True) (fun _ U o U' => ∃ v L, o = .returned v ∧ own_b1_Q Z a1 h0 n0 v U'.heap L ∧ FrameEnd U o U' L ({ frames := 1, cells := 0, slots := 0, locals := 12 } : Room).cells ({ frames := 1, cells := 0, slots := 0, locals := 12 } : Room).slots) := by
  refine MetFree.of_bodySF (plainFor_of_name own_pn0) hisR ?_
  have w6 := hw _ (List.mem_of_getElem? (i := 6) rfl)
  have w7 := hw _ (List.mem_of_getElem? (i := 7) rfl)
  have w8 := hw _ (List.mem_of_getElem? (i := 8) rfl)
  intro p e s m args below meth c s₁ Bd hml0 hP hK
  obtain ⟨rfl, hZ, hh⟩ := hP
  have hx := Bd.exec
  have hby := Bd.bytes
  have hlk := Bd.notSynchronized
  have hml : c.maxLocals = 1 := hml0
  have hown : s.vm.findClass "com/example/waysmith/waysmith/solver/Stretch" = some m.cls := findClass_of_methodNamed Bd.named
  have hnm := (name_of_methodNamed Bd.named Bd.method).1
  have X0 : Stand p l e ({ frames := 1, cells := 0, slots := 0, locals := 12 } : Room) s m #[(.ref a1)] below meth c s₁ [] 0 0 := Stand.of_body Bd
  have e0 : s₁.heap = h0 := by rw [← hh, Bd.state]; rfl
  have N0 := Fr.nil n0
  have K0 : Keep h0 h0 [] := Keep.refl h0 _
  show own_Goes p e below (own_Fin s (own_b1_Q Z a1 h0 n0) ({ frames := 1, cells := 0, slots := 0, locals := 12 } : Room).cells ({ frames := 1, cells := 0, slots := 0, locals := 12 } : Room).slots) _
  refine own_step (fun t k => castTop (own_b1_ef m a1) k) ?_
  show own_Goes p e below _ (s₁.setTop (mkF m 0 #[.val (.ref a1)] []))
  refine own_step (fun t k => XS.aloadN X0.here hx rfl (hb hby own_dprog_62_method_1_code_0) rfl rfl k) ?_
  show own_Goes p e below _ (s₁.setTop (mkF m 1 #[.val (.ref a1)] [(.ref a1)]))
  obtain ⟨T2, X2, e2, st2⟩ := initO X0 hx hZ hown w6 w7 w8 e0 (g := (mkF m 1 #[.val (.ref a1)] [(.ref a1)])) rfl (by rw [hml]; rfl) rfl (hb hby own_dprog_62_method_1_code_1) (by decide) (W := 0) (by show 2 * 0 + _ ≤ _; exact Nat.le_of_eq rfl) (by decide)
  refine own_step st2 ?_
  show own_Goes p e below _ (T2.setTop (mkF m 4 #[.val (.ref a1)] []))
  refine own_ret0 X2 hx hlk Bd.returns (hb hby own_dprog_62_method_1_code_4) ?_ (by decide) (by decide)
  show own_b1_Q Z a1 h0 n0 _ T2.heap _
  rw [e2]
  exact ⟨rfl, N0, rfl⟩
theorem own_dprog_62_method_4_code_0 : decode prog_62_method_4_code 0 = .ok (.aload_n 0, 1) := by decide +kernel
theorem own_dprog_62_method_4_code_1 : decode prog_62_method_4_code 1 = .ok (.aload_n 1, 1) := by decide +kernel
theorem own_dprog_62_method_4_code_2 : decode prog_62_method_4_code 2 = .ok (.getfield 16, 3) := by decide +kernel
theorem own_dprog_62_method_4_code_5 : decode prog_62_method_4_code 5 = .ok (.putfield 16, 3) := by decide +kernel
theorem own_dprog_62_method_4_code_8 : decode prog_62_method_4_code 8 = .ok (.aload_n 0, 1) := by decide +kernel
theorem own_dprog_62_method_4_code_9 : decode prog_62_method_4_code 9 = .ok (.aload_n 1, 1) := by decide +kernel
theorem own_dprog_62_method_4_code_10 : decode prog_62_method_4_code 10 = .ok (.getfield 20, 3) := by decide +kernel
theorem own_dprog_62_method_4_code_13 : decode prog_62_method_4_code 13 = .ok (.putfield 20, 3) := by decide +kernel
theorem own_dprog_62_method_4_code_16 : decode prog_62_method_4_code 16 = .ok (.aload_n 0, 1) := by decide +kernel
theorem own_dprog_62_method_4_code_17 : decode prog_62_method_4_code 17 = .ok (.aload_n 1, 1) := by decide +kernel
theorem own_dprog_62_method_4_code_18 : decode prog_62_method_4_code 18 = .ok (.getfield 26, 3) := by decide +kernel
theorem own_dprog_62_method_4_code_21 : decode prog_62_method_4_code 21 = .ok (.putfield 26, 3) := by decide +kernel
theorem own_dprog_62_method_4_code_24 : decode prog_62_method_4_code 24 = .ok (.aload_n 0, 1) := by decide +kernel
theorem own_dprog_62_method_4_code_25 : decode prog_62_method_4_code 25 = .ok (.aload_n 1, 1) := by decide +kernel
theorem own_dprog_62_method_4_code_26 : decode prog_62_method_4_code 26 = .ok (.getfield 32, 3) := by decide +kernel
theorem own_dprog_62_method_4_code_29 : decode prog_62_method_4_code 29 = .ok (.putfield 32, 3) := by decide +kernel
theorem own_dprog_62_method_4_code_32 : decode prog_62_method_4_code 32 = .ok (.return_, 1) := by decide +kernel
theorem own_b2_ef (m : MethodId) (a1 : Addr) (o1 : Addr) : entryFrame m #[(.ref a1), (.ref o1)] 2 = mkF m 0 #[.val (.ref a1), .val (.ref o1)] [] := by first | (simp [entryFrame, mkF, argsToLocals, Value.category]; done) | rfl
def own_b2_Q (Z : State) (a1 : Addr) (o1 : Addr) (u0 : Value) (u1 : Value) (u2 : Value) (u3 : Value) (x0 : UInt64) (x1 : UInt64) (x2 : UInt64) (x3 : UInt64) (h0 : Heap) (n0 : Nat) (v : Option Value) (h : Heap) (L : List Loc) : Prop := v = none ∧ Fr n0 L ∧ Keep h0 h [a1] ∧ Exa Z h a1 "com/example/waysmith/waysmith/solver/Stretch" ∧ Fld Z h a1 "com/example/waysmith/waysmith/solver/Stretch" "duration" "D" (.double x0) ∧ Fld Z h a1 "com/example/waysmith/waysmith/solver/Stretch" "timeWarp" "D" (.double x1) ∧ Fld Z h a1 "com/example/waysmith/waysmith/solver/Stretch" "earliest" "D" (.double x2) ∧ Fld Z h a1 "com/example/waysmith/waysmith/solver/Stretch" "latest" "D" (.double x3)
set_option maxRecDepth 65536 in
set_option maxHeartbeats 40000000 in
theorem own_b2 (l : Launch) (Z : State) (a0 : Array Value) (hw : ∀ d ∈ tables_1, d.before a0 Z = true) (ws : List Jvm.Cond) (a1 : Addr) (o1 : Addr) (u0 : Value) (u1 : Value) (u2 : Value) (u3 : Value) (x0 : UInt64) (x1 : UInt64) (x2 : UInt64) (x3 : UInt64) (h0 : Heap) (n0 : Nat) (Z0 : n0 ≤ h0.size) (E_a1 : Exa Z h0 a1 "com/example/waysmith/waysmith/solver/Stretch") (g_a1 : n0 ≤ a1) (ne_a1_o1 : a1 ≠ o1) (F_duration_a1 : Fld Z h0 a1 "com/example/waysmith/waysmith/solver/Stretch" "duration" "D" u0) (F_timeWarp_a1 : Fld Z h0 a1 "com/example/waysmith/waysmith/solver/Stretch" "timeWarp" "D" u1) (F_earliest_a1 : Fld Z h0 a1 "com/example/waysmith/waysmith/solver/Stretch" "earliest" "D" u2) (F_latest_a1 : Fld Z h0 a1 "com/example/waysmith/waysmith/solver/Stretch" "latest" "D" u3) (F_duration_o1 : Fld Z h0 o1 "com/example/waysmith/waysmith/solver/Stretch" "duration" "D" (.double x0)) (F_timeWarp_o1 : Fld Z h0 o1 "com/example/waysmith/waysmith/solver/Stretch" "timeWarp" "D" (.double x1)) (F_earliest_o1 : Fld Z h0 o1 "com/example/waysmith/waysmith/solver/Stretch" "earliest" "D" (.double x2)) (F_latest_o1 : Fld Z h0 o1 "com/example/waysmith/waysmith/solver/Stretch" "latest" "D" (.double x3)) :
    MetFree l (⟨"com/example/waysmith/waysmith/solver/Stretch", "set", "(Lcom/example/waysmith/waysmith/solver/Stretch;)V"⟩ : MethodName) (head1 (Jvm.Cond.code (⟨"com/example/waysmith/waysmith/solver/Stretch", "set", "(Lcom/example/waysmith/waysmith/solver/Stretch;)V"⟩ : MethodName) prog_62_method_4_code 2 none :: ws) ({ frames := 0, cells := 0, slots := 0, locals := 0 } : Room)) (fun aa U => aa = #[(.ref a1), (.ref o1)] ∧ Z.Warmed39 U.vm ∧ U.heap = h0) (fun _ _ _ _ _ => True) (fun _ U o U' => ∃ v L, o = .returned v ∧ own_b2_Q Z a1 o1 u0 u1 u2 u3 x0 x1 x2 x3 h0 n0 v U'.heap L ∧ FrameEnd U o U' L ({ frames := 0, cells := 0, slots := 0, locals := 0 } : Room).cells ({ frames := 0, cells := 0, slots := 0, locals := 0 } : Room).slots) := by
  refine MetFree.of_bodySF (plainFor_of_name own_pn0) hisR ?_
  have w1 := hw _ (List.mem_of_getElem? (i := 1) rfl)
  have w10 := hw _ (List.mem_of_getElem? (i := 10) rfl)
  have w12 := hw _ (List.mem_of_getElem? (i := 12) rfl)
  have w14 := hw _ (List.mem_of_getElem? (i := 14) rfl)
  have w16 := hw _ (List.mem_of_getElem? (i := 16) rfl)
  have w24 := hw _ (List.mem_of_getElem? (i := 24) rfl)
  have w25 := hw _ (List.mem_of_getElem? (i := 25) rfl)
  have w26 := hw _ (List.mem_of_getElem? (i := 26) rfl)
  have w27 := hw _ (List.mem_of_getElem? (i := 27) rfl)
  intro p e s m args below meth c s₁ Bd hml0 hP hK
  obtain ⟨rfl, hZ, hh⟩ := hP
  have hx := Bd.exec
  have hby := Bd.bytes
  have hlk := Bd.notSynchronized
  have hml : c.maxLocals = 2 := hml0
  have hown : s.vm.findClass "com/example/waysmith/waysmith/solver/Stretch" = some m.cls := findClass_of_methodNamed Bd.named
  have hnm := (name_of_methodNamed Bd.named Bd.method).1
  have X0 : Stand p l e ({ frames := 0, cells := 0, slots := 0, locals := 0 } : Room) s m #[(.ref a1), (.ref o1)] below meth c s₁ [] 0 0 := Stand.of_body Bd
  have e0 : s₁.heap = h0 := by rw [← hh, Bd.state]; rfl
  have N0 := Fr.nil n0
  have K0 : Keep h0 h0 [a1] := Keep.refl h0 _
  show own_Goes p e below (own_Fin s (own_b2_Q Z a1 o1 u0 u1 u2 u3 x0 x1 x2 x3 h0 n0) ({ frames := 0, cells := 0, slots := 0, locals := 0 } : Room).cells ({ frames := 0, cells := 0, slots := 0, locals := 0 } : Room).slots) _
  refine own_step (fun t k => castTop (own_b2_ef m a1 o1) k) ?_
  show own_Goes p e below _ (s₁.setTop (mkF m 0 #[.val (.ref a1), .val (.ref o1)] []))
  refine own_step (fun t k => XS.aloadN X0.here hx rfl (hb hby own_dprog_62_method_4_code_0) rfl rfl k) ?_
  show own_Goes p e below _ (s₁.setTop (mkF m 1 #[.val (.ref a1), .val (.ref o1)] [(.ref a1)]))
  refine own_step (fun t k => XS.aloadN X0.here hx rfl (hb hby own_dprog_62_method_4_code_1) rfl rfl k) ?_
  show own_Goes p e below _ (s₁.setTop (mkF m 2 #[.val (.ref a1), .val (.ref o1)] [(.ref o1), (.ref a1)]))
  obtain ⟨T15, X15, e15, st15⟩ := getF X0 hx hZ hown (host := "") (Or.inl w24) Via.refl e0 F_duration_o1 (g := (mkF m 2 #[.val (.ref a1), .val (.ref o1)] [(.ref o1), (.ref a1)])) rfl rfl (hb hby own_dprog_62_method_4_code_2)
  refine own_step st15 ?_
  show own_Goes p e below _ (T15.setTop (mkF m 5 #[.val (.ref a1), .val (.ref o1)] [(.double x0), (.ref a1)]))
  obtain ⟨T16, h16, X16, e16, W16, st16⟩ := putF X15 hx hZ hown (host := "") (Or.inl w24) Via.refl e15 F_duration_a1 E_a1 (Or.inl w10) w1 (ty := .double) (by decide) rfl rfl (g := (mkF m 5 #[.val (.ref a1), .val (.ref o1)] [(.double x0), (.ref a1)])) rfl rfl (hb hby own_dprog_62_method_4_code_5)
  have Fw16 := F_duration_a1.same W16
  have N16 := Fr.snoc X16 N0 g_a1
  have K17 : Keep h0 h16 [a1] := K0.wr W16 (Or.inl (List.mem_of_getElem? (i := 0) rfl))
  refine own_step st16 ?_
  show own_Goes p e below _ (T16.setTop (mkF m 8 #[.val (.ref a1), .val (.ref o1)] []))
  refine own_step (fun t k => XS.aloadN X16.here hx rfl (hb hby own_dprog_62_method_4_code_8) rfl rfl k) ?_
  show own_Goes p e below _ (T16.setTop (mkF m 9 #[.val (.ref a1), .val (.ref o1)] [(.ref a1)]))
  refine own_step (fun t k => XS.aloadN X16.here hx rfl (hb hby own_dprog_62_method_4_code_9) rfl rfl k) ?_
  show own_Goes p e below _ (T16.setTop (mkF m 10 #[.val (.ref a1), .val (.ref o1)] [(.ref o1), (.ref a1)]))
  obtain ⟨T18, X18, e18, st18⟩ := getF X16 hx hZ hown (host := "") (Or.inl w25) Via.refl e16 (F_timeWarp_o1.other W16 (Or.inl (Ne.symm ne_a1_o1))) (g := (mkF m 10 #[.val (.ref a1), .val (.ref o1)] [(.ref o1), (.ref a1)])) rfl rfl (hb hby own_dprog_62_method_4_code_10)
  refine own_step st18 ?_
  show own_Goes p e below _ (T18.setTop (mkF m 13 #[.val (.ref a1), .val (.ref o1)] [(.double x1), (.ref a1)]))
  obtain ⟨T19, h19, X19, e19, W19, st19⟩ := putF X18 hx hZ hown (host := "") (Or.inl w25) Via.refl e18 (F_timeWarp_a1.other W16 (Or.inr (slot_ne (Or.inl w12) (Or.inl w10) (by decide) (t := .double) (t' := .double) (by decide) (by decide)))) (E_a1.wr W16) (Or.inl w12) w1 (ty := .double) (by decide) rfl rfl (g := (mkF m 13 #[.val (.ref a1), .val (.ref o1)] [(.double x1), (.ref a1)])) rfl rfl (hb hby own_dprog_62_method_4_code_13)
  have Fw19 := (F_timeWarp_a1.other W16 (Or.inr (slot_ne (Or.inl w12) (Or.inl w10) (by decide) (t := .double) (t' := .double) (by decide) (by decide)))).same W19
  have N19 := Fr.snoc X19 N16 g_a1
  have K20 : Keep h0 h19 [a1] := K17.wr W19 (Or.inl (List.mem_of_getElem? (i := 0) rfl))
  refine own_step st19 ?_
  show own_Goes p e below _ (T19.setTop (mkF m 16 #[.val (.ref a1), .val (.ref o1)] []))
  refine own_step (fun t k => XS.aloadN X19.here hx rfl (hb hby own_dprog_62_method_4_code_16) rfl rfl k) ?_
  show own_Goes p e below _ (T19.setTop (mkF m 17 #[.val (.ref a1), .val (.ref o1)] [(.ref a1)]))
  refine own_step (fun t k => XS.aloadN X19.here hx rfl (hb hby own_dprog_62_method_4_code_17) rfl rfl k) ?_
  show own_Goes p e below _ (T19.setTop (mkF m 18 #[.val (.ref a1), .val (.ref o1)] [(.ref o1), (.ref a1)]))
  obtain ⟨T21, X21, e21, st21⟩ := getF X19 hx hZ hown (host := "") (Or.inl w26) Via.refl e19 ((F_earliest_o1.other W16 (Or.inl (Ne.symm ne_a1_o1))).other W19 (Or.inl (Ne.symm ne_a1_o1))) (g := (mkF m 18 #[.val (.ref a1), .val (.ref o1)] [(.ref o1), (.ref a1)])) rfl rfl (hb hby own_dprog_62_method_4_code_18)
  refine own_step st21 ?_
  show own_Goes p e below _ (T21.setTop (mkF m 21 #[.val (.ref a1), .val (.ref o1)] [(.double x2), (.ref a1)]))
  obtain ⟨T22, h22, X22, e22, W22, st22⟩ := putF X21 hx hZ hown (host := "") (Or.inl w26) Via.refl e21 ((F_earliest_a1.other W16 (Or.inr (slot_ne (Or.inl w14) (Or.inl w10) (by decide) (t := .double) (t' := .double) (by decide) (by decide)))).other W19 (Or.inr (slot_ne (Or.inl w14) (Or.inl w12) (by decide) (t := .double) (t' := .double) (by decide) (by decide)))) ((E_a1.wr W16).wr W19) (Or.inl w14) w1 (ty := .double) (by decide) rfl rfl (g := (mkF m 21 #[.val (.ref a1), .val (.ref o1)] [(.double x2), (.ref a1)])) rfl rfl (hb hby own_dprog_62_method_4_code_21)
  have Fw22 := ((F_earliest_a1.other W16 (Or.inr (slot_ne (Or.inl w14) (Or.inl w10) (by decide) (t := .double) (t' := .double) (by decide) (by decide)))).other W19 (Or.inr (slot_ne (Or.inl w14) (Or.inl w12) (by decide) (t := .double) (t' := .double) (by decide) (by decide)))).same W22
  have N22 := Fr.snoc X22 N19 g_a1
  have K23 : Keep h0 h22 [a1] := K20.wr W22 (Or.inl (List.mem_of_getElem? (i := 0) rfl))
  refine own_step st22 ?_
  show own_Goes p e below _ (T22.setTop (mkF m 24 #[.val (.ref a1), .val (.ref o1)] []))
  refine own_step (fun t k => XS.aloadN X22.here hx rfl (hb hby own_dprog_62_method_4_code_24) rfl rfl k) ?_
  show own_Goes p e below _ (T22.setTop (mkF m 25 #[.val (.ref a1), .val (.ref o1)] [(.ref a1)]))
  refine own_step (fun t k => XS.aloadN X22.here hx rfl (hb hby own_dprog_62_method_4_code_25) rfl rfl k) ?_
  show own_Goes p e below _ (T22.setTop (mkF m 26 #[.val (.ref a1), .val (.ref o1)] [(.ref o1), (.ref a1)]))
  obtain ⟨T24, X24, e24, st24⟩ := getF X22 hx hZ hown (host := "") (Or.inl w27) Via.refl e22 (((F_latest_o1.other W16 (Or.inl (Ne.symm ne_a1_o1))).other W19 (Or.inl (Ne.symm ne_a1_o1))).other W22 (Or.inl (Ne.symm ne_a1_o1))) (g := (mkF m 26 #[.val (.ref a1), .val (.ref o1)] [(.ref o1), (.ref a1)])) rfl rfl (hb hby own_dprog_62_method_4_code_26)
  refine own_step st24 ?_
  show own_Goes p e below _ (T24.setTop (mkF m 29 #[.val (.ref a1), .val (.ref o1)] [(.double x3), (.ref a1)]))
  obtain ⟨T25, h25, X25, e25, W25, st25⟩ := putF X24 hx hZ hown (host := "") (Or.inl w27) Via.refl e24 (((F_latest_a1.other W16 (Or.inr (slot_ne (Or.inl w16) (Or.inl w10) (by decide) (t := .double) (t' := .double) (by decide) (by decide)))).other W19 (Or.inr (slot_ne (Or.inl w16) (Or.inl w12) (by decide) (t := .double) (t' := .double) (by decide) (by decide)))).other W22 (Or.inr (slot_ne (Or.inl w16) (Or.inl w14) (by decide) (t := .double) (t' := .double) (by decide) (by decide)))) (((E_a1.wr W16).wr W19).wr W22) (Or.inl w16) w1 (ty := .double) (by decide) rfl rfl (g := (mkF m 29 #[.val (.ref a1), .val (.ref o1)] [(.double x3), (.ref a1)])) rfl rfl (hb hby own_dprog_62_method_4_code_29)
  have Fw25 := (((F_latest_a1.other W16 (Or.inr (slot_ne (Or.inl w16) (Or.inl w10) (by decide) (t := .double) (t' := .double) (by decide) (by decide)))).other W19 (Or.inr (slot_ne (Or.inl w16) (Or.inl w12) (by decide) (t := .double) (t' := .double) (by decide) (by decide)))).other W22 (Or.inr (slot_ne (Or.inl w16) (Or.inl w14) (by decide) (t := .double) (t' := .double) (by decide) (by decide)))).same W25
  have N25 := Fr.snoc X25 N22 g_a1
  have K26 : Keep h0 h25 [a1] := K23.wr W25 (Or.inl (List.mem_of_getElem? (i := 0) rfl))
  refine own_step st25 ?_
  show own_Goes p e below _ (T25.setTop (mkF m 32 #[.val (.ref a1), .val (.ref o1)] []))
  refine own_ret0 X25 hx hlk Bd.returns (hb hby own_dprog_62_method_4_code_32) ?_ (by decide) (by decide)
  show own_b2_Q Z a1 o1 u0 u1 u2 u3 x0 x1 x2 x3 h0 n0 _ T25.heap _
  rw [e25]
  exact ⟨rfl, N25, K26, ((((E_a1.wr W16).wr W19).wr W22).wr W25), (((Fw16.other W19 (Or.inr (slot_ne (Or.inl w10) (Or.inl w12) (by decide) (t := .double) (t' := .double) (by decide) (by decide)))).other W22 (Or.inr (slot_ne (Or.inl w10) (Or.inl w14) (by decide) (t := .double) (t' := .double) (by decide) (by decide)))).other W25 (Or.inr (slot_ne (Or.inl w10) (Or.inl w16) (by decide) (t := .double) (t' := .double) (by decide) (by decide)))), ((Fw19.other W22 (Or.inr (slot_ne (Or.inl w12) (Or.inl w14) (by decide) (t := .double) (t' := .double) (by decide) (by decide)))).other W25 (Or.inr (slot_ne (Or.inl w12) (Or.inl w16) (by decide) (t := .double) (t' := .double) (by decide) (by decide)))), (Fw22.other W25 (Or.inr (slot_ne (Or.inl w14) (Or.inl w16) (by decide) (t := .double) (t' := .double) (by decide) (by decide)))), Fw25⟩
theorem own_b3_ef (m : MethodId) (a1 : Addr) : entryFrame m #[(.ref a1), (.ref a1)] 2 = mkF m 0 #[.val (.ref a1), .val (.ref a1)] [] := by first | (simp [entryFrame, mkF, argsToLocals, Value.category]; done) | rfl
def own_b3_Q (Z : State) (a1 : Addr) (x0 : UInt64) (x1 : UInt64) (x2 : UInt64) (x3 : UInt64) (h0 : Heap) (n0 : Nat) (v : Option Value) (h : Heap) (L : List Loc) : Prop := v = none ∧ Fr n0 L ∧ Keep h0 h [a1] ∧ Exa Z h a1 "com/example/waysmith/waysmith/solver/Stretch" ∧ Fld Z h a1 "com/example/waysmith/waysmith/solver/Stretch" "duration" "D" (.double x0) ∧ Fld Z h a1 "com/example/waysmith/waysmith/solver/Stretch" "timeWarp" "D" (.double x1) ∧ Fld Z h a1 "com/example/waysmith/waysmith/solver/Stretch" "earliest" "D" (.double x2) ∧ Fld Z h a1 "com/example/waysmith/waysmith/solver/Stretch" "latest" "D" (.double x3)
set_option maxRecDepth 65536 in
set_option maxHeartbeats 40000000 in
theorem own_b3 (l : Launch) (Z : State) (a0 : Array Value) (hw : ∀ d ∈ tables_1, d.before a0 Z = true) (ws : List Jvm.Cond) (a1 : Addr) (x0 : UInt64) (x1 : UInt64) (x2 : UInt64) (x3 : UInt64) (h0 : Heap) (n0 : Nat) (Z0 : n0 ≤ h0.size) (E_a1 : Exa Z h0 a1 "com/example/waysmith/waysmith/solver/Stretch") (g_a1 : n0 ≤ a1) (F_duration_a1 : Fld Z h0 a1 "com/example/waysmith/waysmith/solver/Stretch" "duration" "D" (.double x0)) (F_timeWarp_a1 : Fld Z h0 a1 "com/example/waysmith/waysmith/solver/Stretch" "timeWarp" "D" (.double x1)) (F_earliest_a1 : Fld Z h0 a1 "com/example/waysmith/waysmith/solver/Stretch" "earliest" "D" (.double x2)) (F_latest_a1 : Fld Z h0 a1 "com/example/waysmith/waysmith/solver/Stretch" "latest" "D" (.double x3)) :
    MetFree l (⟨"com/example/waysmith/waysmith/solver/Stretch", "set", "(Lcom/example/waysmith/waysmith/solver/Stretch;)V"⟩ : MethodName) (head1 (Jvm.Cond.code (⟨"com/example/waysmith/waysmith/solver/Stretch", "set", "(Lcom/example/waysmith/waysmith/solver/Stretch;)V"⟩ : MethodName) prog_62_method_4_code 2 none :: ws) ({ frames := 0, cells := 0, slots := 0, locals := 0 } : Room)) (fun aa U => aa = #[(.ref a1), (.ref a1)] ∧ Z.Warmed39 U.vm ∧ U.heap = h0) (fun _ _ _ _ _ => True) (fun _ U o U' => ∃ v L, o = .returned v ∧ own_b3_Q Z a1 x0 x1 x2 x3 h0 n0 v U'.heap L ∧ FrameEnd U o U' L ({ frames := 0, cells := 0, slots := 0, locals := 0 } : Room).cells ({ frames := 0, cells := 0, slots := 0, locals := 0 } : Room).slots) := by
  refine MetFree.of_bodySF (plainFor_of_name own_pn0) hisR ?_
  have w1 := hw _ (List.mem_of_getElem? (i := 1) rfl)
  have w10 := hw _ (List.mem_of_getElem? (i := 10) rfl)
  have w12 := hw _ (List.mem_of_getElem? (i := 12) rfl)
  have w14 := hw _ (List.mem_of_getElem? (i := 14) rfl)
  have w16 := hw _ (List.mem_of_getElem? (i := 16) rfl)
  have w24 := hw _ (List.mem_of_getElem? (i := 24) rfl)
  have w25 := hw _ (List.mem_of_getElem? (i := 25) rfl)
  have w26 := hw _ (List.mem_of_getElem? (i := 26) rfl)
  have w27 := hw _ (List.mem_of_getElem? (i := 27) rfl)
  intro p e s m args below meth c s₁ Bd hml0 hP hK
  obtain ⟨rfl, hZ, hh⟩ := hP
  have hx := Bd.exec
  have hby := Bd.bytes
  have hlk := Bd.notSynchronized
  have hml : c.maxLocals = 2 := hml0
  have hown : s.vm.findClass "com/example/waysmith/waysmith/solver/Stretch" = some m.cls := findClass_of_methodNamed Bd.named
  have hnm := (name_of_methodNamed Bd.named Bd.method).1
  have X0 : Stand p l e ({ frames := 0, cells := 0, slots := 0, locals := 0 } : Room) s m #[(.ref a1), (.ref a1)] below meth c s₁ [] 0 0 := Stand.of_body Bd
  have e0 : s₁.heap = h0 := by rw [← hh, Bd.state]; rfl
  have N0 := Fr.nil n0
  have K0 : Keep h0 h0 [a1] := Keep.refl h0 _
  show own_Goes p e below (own_Fin s (own_b3_Q Z a1 x0 x1 x2 x3 h0 n0) ({ frames := 0, cells := 0, slots := 0, locals := 0 } : Room).cells ({ frames := 0, cells := 0, slots := 0, locals := 0 } : Room).slots) _
  refine own_step (fun t k => castTop (own_b3_ef m a1) k) ?_
  show own_Goes p e below _ (s₁.setTop (mkF m 0 #[.val (.ref a1), .val (.ref a1)] []))
  refine own_step (fun t k => XS.aloadN X0.here hx rfl (hb hby own_dprog_62_method_4_code_0) rfl rfl k) ?_
  show own_Goes p e below _ (s₁.setTop (mkF m 1 #[.val (.ref a1), .val (.ref a1)] [(.ref a1)]))
  refine own_step (fun t k => XS.aloadN X0.here hx rfl (hb hby own_dprog_62_method_4_code_1) rfl rfl k) ?_
  show own_Goes p e below _ (s₁.setTop (mkF m 2 #[.val (.ref a1), .val (.ref a1)] [(.ref a1), (.ref a1)]))
  obtain ⟨T39, X39, e39, st39⟩ := getF X0 hx hZ hown (host := "") (Or.inl w24) Via.refl e0 F_duration_a1 (g := (mkF m 2 #[.val (.ref a1), .val (.ref a1)] [(.ref a1), (.ref a1)])) rfl rfl (hb hby own_dprog_62_method_4_code_2)
  refine own_step st39 ?_
  show own_Goes p e below _ (T39.setTop (mkF m 5 #[.val (.ref a1), .val (.ref a1)] [(.double x0), (.ref a1)]))
  obtain ⟨T40, h40, X40, e40, W40, st40⟩ := putF X39 hx hZ hown (host := "") (Or.inl w24) Via.refl e39 F_duration_a1 E_a1 (Or.inl w10) w1 (ty := .double) (by decide) rfl rfl (g := (mkF m 5 #[.val (.ref a1), .val (.ref a1)] [(.double x0), (.ref a1)])) rfl rfl (hb hby own_dprog_62_method_4_code_5)
  have Fw40 := F_duration_a1.same W40
  have N40 := Fr.snoc X40 N0 g_a1
  have K41 : Keep h0 h40 [a1] := K0.wr W40 (Or.inl (List.mem_of_getElem? (i := 0) rfl))
  refine own_step st40 ?_
  show own_Goes p e below _ (T40.setTop (mkF m 8 #[.val (.ref a1), .val (.ref a1)] []))
  refine own_step (fun t k => XS.aloadN X40.here hx rfl (hb hby own_dprog_62_method_4_code_8) rfl rfl k) ?_
  show own_Goes p e below _ (T40.setTop (mkF m 9 #[.val (.ref a1), .val (.ref a1)] [(.ref a1)]))
  refine own_step (fun t k => XS.aloadN X40.here hx rfl (hb hby own_dprog_62_method_4_code_9) rfl rfl k) ?_
  show own_Goes p e below _ (T40.setTop (mkF m 10 #[.val (.ref a1), .val (.ref a1)] [(.ref a1), (.ref a1)]))
  obtain ⟨T42, X42, e42, st42⟩ := getF X40 hx hZ hown (host := "") (Or.inl w25) Via.refl e40 (F_timeWarp_a1.other W40 (Or.inr (slot_ne (Or.inl w12) (Or.inl w10) (by decide) (t := .double) (t' := .double) (by decide) (by decide)))) (g := (mkF m 10 #[.val (.ref a1), .val (.ref a1)] [(.ref a1), (.ref a1)])) rfl rfl (hb hby own_dprog_62_method_4_code_10)
  refine own_step st42 ?_
  show own_Goes p e below _ (T42.setTop (mkF m 13 #[.val (.ref a1), .val (.ref a1)] [(.double x1), (.ref a1)]))
  obtain ⟨T43, h43, X43, e43, W43, st43⟩ := putF X42 hx hZ hown (host := "") (Or.inl w25) Via.refl e42 (F_timeWarp_a1.other W40 (Or.inr (slot_ne (Or.inl w12) (Or.inl w10) (by decide) (t := .double) (t' := .double) (by decide) (by decide)))) (E_a1.wr W40) (Or.inl w12) w1 (ty := .double) (by decide) rfl rfl (g := (mkF m 13 #[.val (.ref a1), .val (.ref a1)] [(.double x1), (.ref a1)])) rfl rfl (hb hby own_dprog_62_method_4_code_13)
  have Fw43 := (F_timeWarp_a1.other W40 (Or.inr (slot_ne (Or.inl w12) (Or.inl w10) (by decide) (t := .double) (t' := .double) (by decide) (by decide)))).same W43
  have N43 := Fr.snoc X43 N40 g_a1
  have K44 : Keep h0 h43 [a1] := K41.wr W43 (Or.inl (List.mem_of_getElem? (i := 0) rfl))
  refine own_step st43 ?_
  show own_Goes p e below _ (T43.setTop (mkF m 16 #[.val (.ref a1), .val (.ref a1)] []))
  refine own_step (fun t k => XS.aloadN X43.here hx rfl (hb hby own_dprog_62_method_4_code_16) rfl rfl k) ?_
  show own_Goes p e below _ (T43.setTop (mkF m 17 #[.val (.ref a1), .val (.ref a1)] [(.ref a1)]))
  refine own_step (fun t k => XS.aloadN X43.here hx rfl (hb hby own_dprog_62_method_4_code_17) rfl rfl k) ?_
  show own_Goes p e below _ (T43.setTop (mkF m 18 #[.val (.ref a1), .val (.ref a1)] [(.ref a1), (.ref a1)]))
  obtain ⟨T45, X45, e45, st45⟩ := getF X43 hx hZ hown (host := "") (Or.inl w26) Via.refl e43 ((F_earliest_a1.other W40 (Or.inr (slot_ne (Or.inl w14) (Or.inl w10) (by decide) (t := .double) (t' := .double) (by decide) (by decide)))).other W43 (Or.inr (slot_ne (Or.inl w14) (Or.inl w12) (by decide) (t := .double) (t' := .double) (by decide) (by decide)))) (g := (mkF m 18 #[.val (.ref a1), .val (.ref a1)] [(.ref a1), (.ref a1)])) rfl rfl (hb hby own_dprog_62_method_4_code_18)
  refine own_step st45 ?_
  show own_Goes p e below _ (T45.setTop (mkF m 21 #[.val (.ref a1), .val (.ref a1)] [(.double x2), (.ref a1)]))
  obtain ⟨T46, h46, X46, e46, W46, st46⟩ := putF X45 hx hZ hown (host := "") (Or.inl w26) Via.refl e45 ((F_earliest_a1.other W40 (Or.inr (slot_ne (Or.inl w14) (Or.inl w10) (by decide) (t := .double) (t' := .double) (by decide) (by decide)))).other W43 (Or.inr (slot_ne (Or.inl w14) (Or.inl w12) (by decide) (t := .double) (t' := .double) (by decide) (by decide)))) ((E_a1.wr W40).wr W43) (Or.inl w14) w1 (ty := .double) (by decide) rfl rfl (g := (mkF m 21 #[.val (.ref a1), .val (.ref a1)] [(.double x2), (.ref a1)])) rfl rfl (hb hby own_dprog_62_method_4_code_21)
  have Fw46 := ((F_earliest_a1.other W40 (Or.inr (slot_ne (Or.inl w14) (Or.inl w10) (by decide) (t := .double) (t' := .double) (by decide) (by decide)))).other W43 (Or.inr (slot_ne (Or.inl w14) (Or.inl w12) (by decide) (t := .double) (t' := .double) (by decide) (by decide)))).same W46
  have N46 := Fr.snoc X46 N43 g_a1
  have K47 : Keep h0 h46 [a1] := K44.wr W46 (Or.inl (List.mem_of_getElem? (i := 0) rfl))
  refine own_step st46 ?_
  show own_Goes p e below _ (T46.setTop (mkF m 24 #[.val (.ref a1), .val (.ref a1)] []))
  refine own_step (fun t k => XS.aloadN X46.here hx rfl (hb hby own_dprog_62_method_4_code_24) rfl rfl k) ?_
  show own_Goes p e below _ (T46.setTop (mkF m 25 #[.val (.ref a1), .val (.ref a1)] [(.ref a1)]))
  refine own_step (fun t k => XS.aloadN X46.here hx rfl (hb hby own_dprog_62_method_4_code_25) rfl rfl k) ?_
  show own_Goes p e below _ (T46.setTop (mkF m 26 #[.val (.ref a1), .val (.ref a1)] [(.ref a1), (.ref a1)]))
  obtain ⟨T48, X48, e48, st48⟩ := getF X46 hx hZ hown (host := "") (Or.inl w27) Via.refl e46 (((F_latest_a1.other W40 (Or.inr (slot_ne (Or.inl w16) (Or.inl w10) (by decide) (t := .double) (t' := .double) (by decide) (by decide)))).other W43 (Or.inr (slot_ne (Or.inl w16) (Or.inl w12) (by decide) (t := .double) (t' := .double) (by decide) (by decide)))).other W46 (Or.inr (slot_ne (Or.inl w16) (Or.inl w14) (by decide) (t := .double) (t' := .double) (by decide) (by decide)))) (g := (mkF m 26 #[.val (.ref a1), .val (.ref a1)] [(.ref a1), (.ref a1)])) rfl rfl (hb hby own_dprog_62_method_4_code_26)
  refine own_step st48 ?_
  show own_Goes p e below _ (T48.setTop (mkF m 29 #[.val (.ref a1), .val (.ref a1)] [(.double x3), (.ref a1)]))
  obtain ⟨T49, h49, X49, e49, W49, st49⟩ := putF X48 hx hZ hown (host := "") (Or.inl w27) Via.refl e48 (((F_latest_a1.other W40 (Or.inr (slot_ne (Or.inl w16) (Or.inl w10) (by decide) (t := .double) (t' := .double) (by decide) (by decide)))).other W43 (Or.inr (slot_ne (Or.inl w16) (Or.inl w12) (by decide) (t := .double) (t' := .double) (by decide) (by decide)))).other W46 (Or.inr (slot_ne (Or.inl w16) (Or.inl w14) (by decide) (t := .double) (t' := .double) (by decide) (by decide)))) (((E_a1.wr W40).wr W43).wr W46) (Or.inl w16) w1 (ty := .double) (by decide) rfl rfl (g := (mkF m 29 #[.val (.ref a1), .val (.ref a1)] [(.double x3), (.ref a1)])) rfl rfl (hb hby own_dprog_62_method_4_code_29)
  have Fw49 := (((F_latest_a1.other W40 (Or.inr (slot_ne (Or.inl w16) (Or.inl w10) (by decide) (t := .double) (t' := .double) (by decide) (by decide)))).other W43 (Or.inr (slot_ne (Or.inl w16) (Or.inl w12) (by decide) (t := .double) (t' := .double) (by decide) (by decide)))).other W46 (Or.inr (slot_ne (Or.inl w16) (Or.inl w14) (by decide) (t := .double) (t' := .double) (by decide) (by decide)))).same W49
  have N49 := Fr.snoc X49 N46 g_a1
  have K50 : Keep h0 h49 [a1] := K47.wr W49 (Or.inl (List.mem_of_getElem? (i := 0) rfl))
  refine own_step st49 ?_
  show own_Goes p e below _ (T49.setTop (mkF m 32 #[.val (.ref a1), .val (.ref a1)] []))
  refine own_ret0 X49 hx hlk Bd.returns (hb hby own_dprog_62_method_4_code_32) ?_ (by decide) (by decide)
  show own_b3_Q Z a1 x0 x1 x2 x3 h0 n0 _ T49.heap _
  rw [e49]
  exact ⟨rfl, N49, K50, ((((E_a1.wr W40).wr W43).wr W46).wr W49), (((Fw40.other W43 (Or.inr (slot_ne (Or.inl w10) (Or.inl w12) (by decide) (t := .double) (t' := .double) (by decide) (by decide)))).other W46 (Or.inr (slot_ne (Or.inl w10) (Or.inl w14) (by decide) (t := .double) (t' := .double) (by decide) (by decide)))).other W49 (Or.inr (slot_ne (Or.inl w10) (Or.inl w16) (by decide) (t := .double) (t' := .double) (by decide) (by decide)))), ((Fw43.other W46 (Or.inr (slot_ne (Or.inl w12) (Or.inl w14) (by decide) (t := .double) (t' := .double) (by decide) (by decide)))).other W49 (Or.inr (slot_ne (Or.inl w12) (Or.inl w16) (by decide) (t := .double) (t' := .double) (by decide) (by decide)))), (Fw46.other W49 (Or.inr (slot_ne (Or.inl w14) (Or.inl w16) (by decide) (t := .double) (t' := .double) (by decide) (by decide)))), Fw49⟩
theorem own_pn1 : plainName "com/example/waysmith/waysmith/solver/StretchSetPinLaw" = true := by first | (simp [plainName, overriddenIn]; done) | decide +kernel
theorem own_pd0 : parseMethodDescriptor "()V" = some ⟨[], none⟩ := by decide +kernel
theorem own_pd1 : parseMethodDescriptor "(Lcom/example/waysmith/waysmith/solver/Stretch;)V" = some ⟨[(.object "com/example/waysmith/waysmith/solver/Stretch")], none⟩ := by decide +kernel
theorem own_law_ef (m : MethodId) (p0 : Int32) (p1 : Int32) (p2 : Int32) (p3 : Int32) (p4 : Int32) (p5 : Int32) : entryFrame m #[(.int p0), (.int p1), (.int p2), (.int p3), (.int p4), (.int p5)] maxLocals = mkF m 0 #[.val (.int p0), .val (.int p1), .val (.int p2), .val (.int p3), .val (.int p4), .val (.int p5), .unset, .unset, .unset, .unset, .unset] [] := by first | (simp [entryFrame, mkF, argsToLocals, Value.category, maxLocals]; done) | rfl
set_option maxRecDepth 65536 in
set_option maxHeartbeats 40000000 in
theorem own_law (l : Launch) (Z : State) (a0 : Array Value) (hw : ∀ d ∈ tables_1, d.before a0 Z = true) (ws : List Jvm.Cond) (p0 : Int32) (p1 : Int32) (p2 : Int32) (p3 : Int32) (p4 : Int32) (p5 : Int32) (h0 : Heap) (n0 : Nat) (Z0 : n0 ≤ h0.size) :
    MetFree l x (head1 (Jvm.Cond.code x code maxLocals ret :: ws) room_1) (fun aa U => aa = #[(.int p0), (.int p1), (.int p2), (.int p3), (.int p4), (.int p5)] ∧ Z.Warmed39 U.vm ∧ U.heap = h0) (fun _ _ _ _ _ => True) (fun _ U o U' => ∃ v L, o = .returned v ∧ own_Q0 n0 v U'.heap L ∧ FrameEnd U o U' L 16 128) := by
  refine MetFree.of_bodySF (plainFor_of_name own_pn1) hisR ?_
  have w0 := hw _ (List.mem_of_getElem? (i := 0) rfl)
  have w1 := hw _ (List.mem_of_getElem? (i := 1) rfl)
  have w2 := hw _ (List.mem_of_getElem? (i := 2) rfl)
  have w3 := hw _ (List.mem_of_getElem? (i := 3) rfl)
  have w4 := hw _ (List.mem_of_getElem? (i := 4) rfl)
  have w5 := hw _ (List.mem_of_getElem? (i := 5) rfl)
  have w9 := hw _ (List.mem_of_getElem? (i := 9) rfl)
  have w10 := hw _ (List.mem_of_getElem? (i := 10) rfl)
  have w11 := hw _ (List.mem_of_getElem? (i := 11) rfl)
  have w12 := hw _ (List.mem_of_getElem? (i := 12) rfl)
  have w13 := hw _ (List.mem_of_getElem? (i := 13) rfl)
  have w14 := hw _ (List.mem_of_getElem? (i := 14) rfl)
  have w15 := hw _ (List.mem_of_getElem? (i := 15) rfl)
  have w16 := hw _ (List.mem_of_getElem? (i := 16) rfl)
  have w17 := hw _ (List.mem_of_getElem? (i := 17) rfl)
  have w18 := hw _ (List.mem_of_getElem? (i := 18) rfl)
  have w19 := hw _ (List.mem_of_getElem? (i := 19) rfl)
  have w20 := hw _ (List.mem_of_getElem? (i := 20) rfl)
  have w21 := hw _ (List.mem_of_getElem? (i := 21) rfl)
  have w22 := hw _ (List.mem_of_getElem? (i := 22) rfl)
  have w23 := hw _ (List.mem_of_getElem? (i := 23) rfl)
  intro p e s m args below meth c s₁ Bd hml0 hP hK
  obtain ⟨rfl, hZ, hh⟩ := hP
  have hx := Bd.exec
  have hby := Bd.bytes
  have hlk := Bd.notSynchronized
  have hml : c.maxLocals = 11 := hml0
  have hown : s.vm.findClass "com/example/waysmith/waysmith/solver/StretchSetPinLaw" = some m.cls := findClass_of_methodNamed Bd.named
  have hnm := (name_of_methodNamed Bd.named Bd.method).1
  have X0 : Stand p l e room_1 s m #[(.int p0), (.int p1), (.int p2), (.int p3), (.int p4), (.int p5)] below meth c s₁ [] 0 0 := Stand.of_body Bd
  have e0 : s₁.heap = h0 := by rw [← hh, Bd.state]; rfl
  have N0 := Fr.nil n0
  have K0 : Keep h0 h0 [] := Keep.refl h0 _
  show own_Goes p e below (own_Fin s (own_Q0 n0) 16 128) _
  refine own_step (fun t k => castTop (own_law_ef m p0 p1 p2 p3 p4 p5) k) ?_
  show own_Goes p e below _ (s₁.setTop (mkF m 0 #[.val (.int p0), .val (.int p1), .val (.int p2), .val (.int p3), .val (.int p4), .val (.int p5), .unset, .unset, .unset, .unset, .unset] []))
  obtain ⟨T51, h51, X51, e51, E51, A51, D51, -, st51⟩ := newO X0 hx hZ hown w0 w1 w2 e0 (g := (mkF m 0 #[.val (.int p0), .val (.int p1), .val (.int p2), .val (.int p3), .val (.int p4), .val (.int p5), .unset, .unset, .unset, .unset, .unset] [])) rfl (hb hby at_0) (by decide) (by decide)
  obtain ⟨b51, g51⟩ : ∃ z, z = h0.size := ⟨_, rfl⟩
  rw [← g51] at A51 D51 st51
  have g_b51 : n0 ≤ b51 := Nat.le_trans Z0 (Nat.le_of_eq g51.symm)
  have sz_b51 : h0.size ≤ b51 := Nat.le_trans K0.1 (Nat.le_of_eq g51.symm)
  have K52 : Keep h0 h51 [] := K0.ext E51
  have F_duration_b51 : Fld Z h51 b51 "com/example/waysmith/waysmith/solver/Stretch" "duration" "D" (.double (0 : UInt64)) := D51 (Or.inl w10) (ty := .double) (by decide)
  have F_timeWarp_b51 : Fld Z h51 b51 "com/example/waysmith/waysmith/solver/Stretch" "timeWarp" "D" (.double (0 : UInt64)) := D51 (Or.inl w12) (ty := .double) (by decide)
  have F_earliest_b51 : Fld Z h51 b51 "com/example/waysmith/waysmith/solver/Stretch" "earliest" "D" (.double (0 : UInt64)) := D51 (Or.inl w14) (ty := .double) (by decide)
  have F_latest_b51 : Fld Z h51 b51 "com/example/waysmith/waysmith/solver/Stretch" "latest" "D" (.double (0 : UInt64)) := D51 (Or.inl w16) (ty := .double) (by decide)
  refine own_step st51 ?_
  show own_Goes p e below _ (T51.setTop (mkF m 3 #[.val (.int p0), .val (.int p1), .val (.int p2), .val (.int p3), .val (.int p4), .val (.int p5), .unset, .unset, .unset, .unset, .unset] [(.ref b51)]))
  refine own_step (fun t k => XS.dup X51.here hx rfl (hb hby at_3) rfl rfl k) ?_
  show own_Goes p e below _ (T51.setTop (mkF m 4 #[.val (.int p0), .val (.int p1), .val (.int p2), .val (.int p3), .val (.int p4), .val (.int p5), .unset, .unset, .unset, .unset, .unset] [(.ref b51), (.ref b51)]))
  obtain ⟨_, _, ⟨T53, L53, k53, n53⟩, -, X53, ⟨Lc53, hQ53, l53, y53, z53⟩, st53⟩ := X51.specialBack hx (y := (⟨"com/example/waysmith/waysmith/solver/Stretch", "<init>", "()V"⟩ : MethodName)) rfl hown (mvT hZ w3) (mvT hZ w4) (mvT hZ w5) (by decide) (backOf (W := 1) (own_b1 l Z a0 hw [] b51  h51 n0 (Nat.le_trans Z0 E51.1) ) hZ w5 w2 (by decide) (by decide)) (g := (mkF m 4 #[.val (.int p0), .val (.int p1), .val (.int p2), .val (.int p3), .val (.int p4), .val (.int p5), .unset, .unset, .unset, .unset, .unset] [(.ref b51), (.ref b51)])) rfl (by rw [hml]; rfl) (Steps.refl _) (a := b51) (argsL := []) (rest := [(.ref b51)]) (lenOf own_pd0 rfl) rfl (by show 2 * 0 + _ ≤ _; exact Nat.le_of_eq rfl) (hb hby at_4) (fun _ _ => ⟨rfl, e51, (by decide : 1 + 0 ≤ _), (by decide : 4 + 0 ≤ _)⟩)
  dsimp only [Pt.U, Pt.locs, Pt.cells, Pt.slots] at X53 l53 y53 z53 st53 hQ53
  subst l53 y53 z53
  obtain ⟨rfl, N53q, eh53⟩ := hQ53
  have N53 := Fr.app N0 N53q
  refine own_jump st53 ?_
  show own_Goes p e below _ (T53.setTop (mkF m 7 #[.val (.int p0), .val (.int p1), .val (.int p2), .val (.int p3), .val (.int p4), .val (.int p5), .unset, .unset, .unset, .unset, .unset] [(.ref b51)]))
  refine own_step (fun t k => XS.astore X53.here hx rfl (hb hby at_7) rfl rfl (l' := #[.val (.int p0), .val (.int p1), .val (.int p2), .val (.int p3), .val (.int p4), .val (.int p5), .val (.ref b51), .unset, .unset, .unset, .unset]) rfl k) ?_
  show own_Goes p e below _ (T53.setTop (mkF m 9 #[.val (.int p0), .val (.int p1), .val (.int p2), .val (.int p3), .val (.int p4), .val (.int p5), .val (.ref b51), .unset, .unset, .unset, .unset] []))
  obtain ⟨T54, h54, X54, e54, E54, A54, D54, -, st54⟩ := newO X53 hx hZ hown w0 w1 w2 eh53 (g := (mkF m 9 #[.val (.int p0), .val (.int p1), .val (.int p2), .val (.int p3), .val (.int p4), .val (.int p5), .val (.ref b51), .unset, .unset, .unset, .unset] [])) rfl (hb hby at_9) (by decide) (by decide)
  obtain ⟨b54, g54⟩ : ∃ z, z = h51.size := ⟨_, rfl⟩
  rw [← g54] at A54 D54 st54
  have ne_b51_b54 : b51 ≠ b54 := Nat.ne_of_lt (Nat.lt_of_lt_of_le A51.lt (Nat.le_of_eq g54.symm))
  have g_b54 : n0 ≤ b54 := Nat.le_trans (Nat.le_trans Z0 E51.1) (Nat.le_of_eq g54.symm)
  have sz_b54 : h0.size ≤ b54 := Nat.le_trans K52.1 (Nat.le_of_eq g54.symm)
  have K55 : Keep h0 h54 [] := K52.ext E54
  have F_duration_b54 : Fld Z h54 b54 "com/example/waysmith/waysmith/solver/Stretch" "duration" "D" (.double (0 : UInt64)) := D54 (Or.inl w10) (ty := .double) (by decide)
  have F_timeWarp_b54 : Fld Z h54 b54 "com/example/waysmith/waysmith/solver/Stretch" "timeWarp" "D" (.double (0 : UInt64)) := D54 (Or.inl w12) (ty := .double) (by decide)
  have F_earliest_b54 : Fld Z h54 b54 "com/example/waysmith/waysmith/solver/Stretch" "earliest" "D" (.double (0 : UInt64)) := D54 (Or.inl w14) (ty := .double) (by decide)
  have F_latest_b54 : Fld Z h54 b54 "com/example/waysmith/waysmith/solver/Stretch" "latest" "D" (.double (0 : UInt64)) := D54 (Or.inl w16) (ty := .double) (by decide)
  refine own_step st54 ?_
  show own_Goes p e below _ (T54.setTop (mkF m 12 #[.val (.int p0), .val (.int p1), .val (.int p2), .val (.int p3), .val (.int p4), .val (.int p5), .val (.ref b51), .unset, .unset, .unset, .unset] [(.ref b54)]))
  refine own_step (fun t k => XS.dup X54.here hx rfl (hb hby at_12) rfl rfl k) ?_
  show own_Goes p e below _ (T54.setTop (mkF m 13 #[.val (.int p0), .val (.int p1), .val (.int p2), .val (.int p3), .val (.int p4), .val (.int p5), .val (.ref b51), .unset, .unset, .unset, .unset] [(.ref b54), (.ref b54)]))
  obtain ⟨_, _, ⟨T56, L56, k56, n56⟩, -, X56, ⟨Lc56, hQ56, l56, y56, z56⟩, st56⟩ := X54.specialBack hx (y := (⟨"com/example/waysmith/waysmith/solver/Stretch", "<init>", "()V"⟩ : MethodName)) rfl hown (mvT hZ w3) (mvT hZ w4) (mvT hZ w5) (by decide) (backOf (W := 1) (own_b1 l Z a0 hw [] b54  h54 n0 (Nat.le_trans (Nat.le_trans Z0 E51.1) E54.1) ) hZ w5 w2 (by decide) (by decide)) (g := (mkF m 13 #[.val (.int p0), .val (.int p1), .val (.int p2), .val (.int p3), .val (.int p4), .val (.int p5), .val (.ref b51), .unset, .unset, .unset, .unset] [(.ref b54), (.ref b54)])) rfl (by rw [hml]; rfl) (Steps.refl _) (a := b54) (argsL := []) (rest := [(.ref b54)]) (lenOf own_pd0 rfl) rfl (by show 2 * 0 + _ ≤ _; exact Nat.le_of_eq rfl) (hb hby at_13) (fun _ _ => ⟨rfl, e54, (by decide : 2 + 0 ≤ _), (by decide : 8 + 0 ≤ _)⟩)
  dsimp only [Pt.U, Pt.locs, Pt.cells, Pt.slots] at X56 l56 y56 z56 st56 hQ56
  subst l56 y56 z56
  obtain ⟨rfl, N56q, eh56⟩ := hQ56
  have N56 := Fr.app N53 N56q
  refine own_jump st56 ?_
  show own_Goes p e below _ (T56.setTop (mkF m 16 #[.val (.int p0), .val (.int p1), .val (.int p2), .val (.int p3), .val (.int p4), .val (.int p5), .val (.ref b51), .unset, .unset, .unset, .unset] [(.ref b54)]))
  refine own_step (fun t k => XS.astore X56.here hx rfl (hb hby at_16) rfl rfl (l' := #[.val (.int p0), .val (.int p1), .val (.int p2), .val (.int p3), .val (.int p4), .val (.int p5), .val (.ref b51), .val (.ref b54), .unset, .unset, .unset]) rfl k) ?_
  show own_Goes p e below _ (T56.setTop (mkF m 18 #[.val (.int p0), .val (.int p1), .val (.int p2), .val (.int p3), .val (.int p4), .val (.int p5), .val (.ref b51), .val (.ref b54), .unset, .unset, .unset] []))
  refine own_step (fun t k => XS.aload X56.here hx rfl (hb hby at_18) rfl rfl k) ?_
  show own_Goes p e below _ (T56.setTop (mkF m 20 #[.val (.int p0), .val (.int p1), .val (.int p2), .val (.int p3), .val (.int p4), .val (.int p5), .val (.ref b51), .val (.ref b54), .unset, .unset, .unset] [(.ref b51)]))
  refine own_step (fun t k => XS.iloadN X56.here hx rfl (hb hby at_20) rfl k) ?_
  show own_Goes p e below _ (T56.setTop (mkF m 21 #[.val (.int p0), .val (.int p1), .val (.int p2), .val (.int p3), .val (.int p4), .val (.int p5), .val (.ref b51), .val (.ref b54), .unset, .unset, .unset] [(.int p0), (.ref b51)]))
  refine own_step (fun t k => XS.i2dS X56.here hx rfl (hb hby at_21) rfl rfl k) ?_
  show own_Goes p e below _ (T56.setTop (mkF m 22 #[.val (.int p0), .val (.int p1), .val (.int p2), .val (.int p3), .val (.int p4), .val (.int p5), .val (.ref b51), .val (.ref b54), .unset, .unset, .unset] [(.double (FP.i2d p0)), (.ref b51)]))
  obtain ⟨T57, h57, X57, e57, W57, st57⟩ := putF X56 hx hZ hown (host := "") (Or.inl w9) Via.refl eh56 (F_duration_b51.ext E54) (A51.ext E54) (Or.inl w10) w1 (ty := .double) (by decide) rfl rfl (g := (mkF m 22 #[.val (.int p0), .val (.int p1), .val (.int p2), .val (.int p3), .val (.int p4), .val (.int p5), .val (.ref b51), .val (.ref b54), .unset, .unset, .unset] [(.double (FP.i2d p0)), (.ref b51)])) rfl rfl (hb hby at_22)
  have Fw57 := (F_duration_b51.ext E54).same W57
  have N57 := Fr.snoc X57 N56 g_b51
  have K58 : Keep h0 h57 [] := K55.wr W57 (Or.inr sz_b51)
  refine own_step st57 ?_
  show own_Goes p e below _ (T57.setTop (mkF m 25 #[.val (.int p0), .val (.int p1), .val (.int p2), .val (.int p3), .val (.int p4), .val (.int p5), .val (.ref b51), .val (.ref b54), .unset, .unset, .unset] []))
  refine own_step (fun t k => XS.aload X57.here hx rfl (hb hby at_25) rfl rfl k) ?_
  show own_Goes p e below _ (T57.setTop (mkF m 27 #[.val (.int p0), .val (.int p1), .val (.int p2), .val (.int p3), .val (.int p4), .val (.int p5), .val (.ref b51), .val (.ref b54), .unset, .unset, .unset] [(.ref b51)]))
  refine own_step (fun t k => XS.iloadN X57.here hx rfl (hb hby at_27) rfl k) ?_
  show own_Goes p e below _ (T57.setTop (mkF m 28 #[.val (.int p0), .val (.int p1), .val (.int p2), .val (.int p3), .val (.int p4), .val (.int p5), .val (.ref b51), .val (.ref b54), .unset, .unset, .unset] [(.int p1), (.ref b51)]))
  refine own_step (fun t k => XS.i2dS X57.here hx rfl (hb hby at_28) rfl rfl k) ?_
  show own_Goes p e below _ (T57.setTop (mkF m 29 #[.val (.int p0), .val (.int p1), .val (.int p2), .val (.int p3), .val (.int p4), .val (.int p5), .val (.ref b51), .val (.ref b54), .unset, .unset, .unset] [(.double (FP.i2d p1)), (.ref b51)]))
  obtain ⟨T59, h59, X59, e59, W59, st59⟩ := putF X57 hx hZ hown (host := "") (Or.inl w11) Via.refl e57 ((F_timeWarp_b51.ext E54).other W57 (Or.inr (slot_ne (Or.inl w12) (Or.inl w10) (by decide) (t := .double) (t' := .double) (by decide) (by decide)))) ((A51.ext E54).wr W57) (Or.inl w12) w1 (ty := .double) (by decide) rfl rfl (g := (mkF m 29 #[.val (.int p0), .val (.int p1), .val (.int p2), .val (.int p3), .val (.int p4), .val (.int p5), .val (.ref b51), .val (.ref b54), .unset, .unset, .unset] [(.double (FP.i2d p1)), (.ref b51)])) rfl rfl (hb hby at_29)
  have Fw59 := ((F_timeWarp_b51.ext E54).other W57 (Or.inr (slot_ne (Or.inl w12) (Or.inl w10) (by decide) (t := .double) (t' := .double) (by decide) (by decide)))).same W59
  have N59 := Fr.snoc X59 N57 g_b51
  have K60 : Keep h0 h59 [] := K58.wr W59 (Or.inr sz_b51)
  refine own_step st59 ?_
  show own_Goes p e below _ (T59.setTop (mkF m 32 #[.val (.int p0), .val (.int p1), .val (.int p2), .val (.int p3), .val (.int p4), .val (.int p5), .val (.ref b51), .val (.ref b54), .unset, .unset, .unset] []))
  refine own_step (fun t k => XS.aload X59.here hx rfl (hb hby at_32) rfl rfl k) ?_
  show own_Goes p e below _ (T59.setTop (mkF m 34 #[.val (.int p0), .val (.int p1), .val (.int p2), .val (.int p3), .val (.int p4), .val (.int p5), .val (.ref b51), .val (.ref b54), .unset, .unset, .unset] [(.ref b51)]))
  refine own_step (fun t k => XS.iloadN X59.here hx rfl (hb hby at_34) rfl k) ?_
  show own_Goes p e below _ (T59.setTop (mkF m 35 #[.val (.int p0), .val (.int p1), .val (.int p2), .val (.int p3), .val (.int p4), .val (.int p5), .val (.ref b51), .val (.ref b54), .unset, .unset, .unset] [(.int p2), (.ref b51)]))
  refine own_step (fun t k => XS.i2dS X59.here hx rfl (hb hby at_35) rfl rfl k) ?_
  show own_Goes p e below _ (T59.setTop (mkF m 36 #[.val (.int p0), .val (.int p1), .val (.int p2), .val (.int p3), .val (.int p4), .val (.int p5), .val (.ref b51), .val (.ref b54), .unset, .unset, .unset] [(.double (FP.i2d p2)), (.ref b51)]))
  obtain ⟨T61, h61, X61, e61, W61, st61⟩ := putF X59 hx hZ hown (host := "") (Or.inl w13) Via.refl e59 (((F_earliest_b51.ext E54).other W57 (Or.inr (slot_ne (Or.inl w14) (Or.inl w10) (by decide) (t := .double) (t' := .double) (by decide) (by decide)))).other W59 (Or.inr (slot_ne (Or.inl w14) (Or.inl w12) (by decide) (t := .double) (t' := .double) (by decide) (by decide)))) (((A51.ext E54).wr W57).wr W59) (Or.inl w14) w1 (ty := .double) (by decide) rfl rfl (g := (mkF m 36 #[.val (.int p0), .val (.int p1), .val (.int p2), .val (.int p3), .val (.int p4), .val (.int p5), .val (.ref b51), .val (.ref b54), .unset, .unset, .unset] [(.double (FP.i2d p2)), (.ref b51)])) rfl rfl (hb hby at_36)
  have Fw61 := (((F_earliest_b51.ext E54).other W57 (Or.inr (slot_ne (Or.inl w14) (Or.inl w10) (by decide) (t := .double) (t' := .double) (by decide) (by decide)))).other W59 (Or.inr (slot_ne (Or.inl w14) (Or.inl w12) (by decide) (t := .double) (t' := .double) (by decide) (by decide)))).same W61
  have N61 := Fr.snoc X61 N59 g_b51
  have K62 : Keep h0 h61 [] := K60.wr W61 (Or.inr sz_b51)
  refine own_step st61 ?_
  show own_Goes p e below _ (T61.setTop (mkF m 39 #[.val (.int p0), .val (.int p1), .val (.int p2), .val (.int p3), .val (.int p4), .val (.int p5), .val (.ref b51), .val (.ref b54), .unset, .unset, .unset] []))
  refine own_step (fun t k => XS.aload X61.here hx rfl (hb hby at_39) rfl rfl k) ?_
  show own_Goes p e below _ (T61.setTop (mkF m 41 #[.val (.int p0), .val (.int p1), .val (.int p2), .val (.int p3), .val (.int p4), .val (.int p5), .val (.ref b51), .val (.ref b54), .unset, .unset, .unset] [(.ref b51)]))
  refine own_step (fun t k => XS.iloadN X61.here hx rfl (hb hby at_41) rfl k) ?_
  show own_Goes p e below _ (T61.setTop (mkF m 42 #[.val (.int p0), .val (.int p1), .val (.int p2), .val (.int p3), .val (.int p4), .val (.int p5), .val (.ref b51), .val (.ref b54), .unset, .unset, .unset] [(.int p3), (.ref b51)]))
  refine own_step (fun t k => XS.i2dS X61.here hx rfl (hb hby at_42) rfl rfl k) ?_
  show own_Goes p e below _ (T61.setTop (mkF m 43 #[.val (.int p0), .val (.int p1), .val (.int p2), .val (.int p3), .val (.int p4), .val (.int p5), .val (.ref b51), .val (.ref b54), .unset, .unset, .unset] [(.double (FP.i2d p3)), (.ref b51)]))
  obtain ⟨T63, h63, X63, e63, W63, st63⟩ := putF X61 hx hZ hown (host := "") (Or.inl w15) Via.refl e61 ((((F_latest_b51.ext E54).other W57 (Or.inr (slot_ne (Or.inl w16) (Or.inl w10) (by decide) (t := .double) (t' := .double) (by decide) (by decide)))).other W59 (Or.inr (slot_ne (Or.inl w16) (Or.inl w12) (by decide) (t := .double) (t' := .double) (by decide) (by decide)))).other W61 (Or.inr (slot_ne (Or.inl w16) (Or.inl w14) (by decide) (t := .double) (t' := .double) (by decide) (by decide)))) ((((A51.ext E54).wr W57).wr W59).wr W61) (Or.inl w16) w1 (ty := .double) (by decide) rfl rfl (g := (mkF m 43 #[.val (.int p0), .val (.int p1), .val (.int p2), .val (.int p3), .val (.int p4), .val (.int p5), .val (.ref b51), .val (.ref b54), .unset, .unset, .unset] [(.double (FP.i2d p3)), (.ref b51)])) rfl rfl (hb hby at_43)
  have Fw63 := ((((F_latest_b51.ext E54).other W57 (Or.inr (slot_ne (Or.inl w16) (Or.inl w10) (by decide) (t := .double) (t' := .double) (by decide) (by decide)))).other W59 (Or.inr (slot_ne (Or.inl w16) (Or.inl w12) (by decide) (t := .double) (t' := .double) (by decide) (by decide)))).other W61 (Or.inr (slot_ne (Or.inl w16) (Or.inl w14) (by decide) (t := .double) (t' := .double) (by decide) (by decide)))).same W63
  have N63 := Fr.snoc X63 N61 g_b51
  have K64 : Keep h0 h63 [] := K62.wr W63 (Or.inr sz_b51)
  refine own_step st63 ?_
  show own_Goes p e below _ (T63.setTop (mkF m 46 #[.val (.int p0), .val (.int p1), .val (.int p2), .val (.int p3), .val (.int p4), .val (.int p5), .val (.ref b51), .val (.ref b54), .unset, .unset, .unset] []))
  refine own_step (fun t k => XS.aload X63.here hx rfl (hb hby at_46) rfl rfl k) ?_
  show own_Goes p e below _ (T63.setTop (mkF m 48 #[.val (.int p0), .val (.int p1), .val (.int p2), .val (.int p3), .val (.int p4), .val (.int p5), .val (.ref b51), .val (.ref b54), .unset, .unset, .unset] [(.ref b54)]))
  refine own_step (fun t k => XS.iload X63.here hx rfl (hb hby at_48) rfl k) ?_
  show own_Goes p e below _ (T63.setTop (mkF m 50 #[.val (.int p0), .val (.int p1), .val (.int p2), .val (.int p3), .val (.int p4), .val (.int p5), .val (.ref b51), .val (.ref b54), .unset, .unset, .unset] [(.int p4), (.ref b54)]))
  refine own_step (fun t k => XS.i2dS X63.here hx rfl (hb hby at_50) rfl rfl k) ?_
  show own_Goes p e below _ (T63.setTop (mkF m 51 #[.val (.int p0), .val (.int p1), .val (.int p2), .val (.int p3), .val (.int p4), .val (.int p5), .val (.ref b51), .val (.ref b54), .unset, .unset, .unset] [(.double (FP.i2d p4)), (.ref b54)]))
  obtain ⟨T65, h65, X65, e65, W65, st65⟩ := putF X63 hx hZ hown (host := "") (Or.inl w9) Via.refl e63 ((((F_duration_b54.other W57 (Or.inl (Ne.symm ne_b51_b54))).other W59 (Or.inl (Ne.symm ne_b51_b54))).other W61 (Or.inl (Ne.symm ne_b51_b54))).other W63 (Or.inl (Ne.symm ne_b51_b54))) ((((A54.wr W57).wr W59).wr W61).wr W63) (Or.inl w10) w1 (ty := .double) (by decide) rfl rfl (g := (mkF m 51 #[.val (.int p0), .val (.int p1), .val (.int p2), .val (.int p3), .val (.int p4), .val (.int p5), .val (.ref b51), .val (.ref b54), .unset, .unset, .unset] [(.double (FP.i2d p4)), (.ref b54)])) rfl rfl (hb hby at_51)
  have Fw65 := ((((F_duration_b54.other W57 (Or.inl (Ne.symm ne_b51_b54))).other W59 (Or.inl (Ne.symm ne_b51_b54))).other W61 (Or.inl (Ne.symm ne_b51_b54))).other W63 (Or.inl (Ne.symm ne_b51_b54))).same W65
  have N65 := Fr.snoc X65 N63 g_b54
  have K66 : Keep h0 h65 [] := K64.wr W65 (Or.inr sz_b54)
  refine own_step st65 ?_
  show own_Goes p e below _ (T65.setTop (mkF m 54 #[.val (.int p0), .val (.int p1), .val (.int p2), .val (.int p3), .val (.int p4), .val (.int p5), .val (.ref b51), .val (.ref b54), .unset, .unset, .unset] []))
  refine own_step (fun t k => XS.aload X65.here hx rfl (hb hby at_54) rfl rfl k) ?_
  show own_Goes p e below _ (T65.setTop (mkF m 56 #[.val (.int p0), .val (.int p1), .val (.int p2), .val (.int p3), .val (.int p4), .val (.int p5), .val (.ref b51), .val (.ref b54), .unset, .unset, .unset] [(.ref b54)]))
  refine own_step (fun t k => XS.iload X65.here hx rfl (hb hby at_56) rfl k) ?_
  show own_Goes p e below _ (T65.setTop (mkF m 58 #[.val (.int p0), .val (.int p1), .val (.int p2), .val (.int p3), .val (.int p4), .val (.int p5), .val (.ref b51), .val (.ref b54), .unset, .unset, .unset] [(.int p4), (.ref b54)]))
  refine own_step (fun t k => XS.i2dS X65.here hx rfl (hb hby at_58) rfl rfl k) ?_
  show own_Goes p e below _ (T65.setTop (mkF m 59 #[.val (.int p0), .val (.int p1), .val (.int p2), .val (.int p3), .val (.int p4), .val (.int p5), .val (.ref b51), .val (.ref b54), .unset, .unset, .unset] [(.double (FP.i2d p4)), (.ref b54)]))
  refine own_step (fun t k => XS.dconst1 X65.here hx rfl (hb hby at_59) rfl k) ?_
  show own_Goes p e below _ (T65.setTop (mkF m 60 #[.val (.int p0), .val (.int p1), .val (.int p2), .val (.int p3), .val (.int p4), .val (.int p5), .val (.ref b51), .val (.ref b54), .unset, .unset, .unset] [(.double FP.dconst1), (.double (FP.i2d p4)), (.ref b54)]))
  refine own_step (fun t k => XS.daddS X65.here hx rfl (hb hby at_60) rfl (Jvm.Free.Fl.dadd_out (Jvm.Free.Fl.i2d_fin _).noNaN own_f1) rfl k) ?_
  show own_Goes p e below _ (T65.setTop (mkF m 61 #[.val (.int p0), .val (.int p1), .val (.int p2), .val (.int p3), .val (.int p4), .val (.int p5), .val (.ref b51), .val (.ref b54), .unset, .unset, .unset] [(.double (FP.dadd (FP.i2d p4) FP.dconst1)), (.ref b54)]))
  obtain ⟨T67, h67, X67, e67, W67, st67⟩ := putF X65 hx hZ hown (host := "") (Or.inl w11) Via.refl e65 (((((F_timeWarp_b54.other W57 (Or.inl (Ne.symm ne_b51_b54))).other W59 (Or.inl (Ne.symm ne_b51_b54))).other W61 (Or.inl (Ne.symm ne_b51_b54))).other W63 (Or.inl (Ne.symm ne_b51_b54))).other W65 (Or.inr (slot_ne (Or.inl w12) (Or.inl w10) (by decide) (t := .double) (t' := .double) (by decide) (by decide)))) (((((A54.wr W57).wr W59).wr W61).wr W63).wr W65) (Or.inl w12) w1 (ty := .double) (by decide) rfl rfl (g := (mkF m 61 #[.val (.int p0), .val (.int p1), .val (.int p2), .val (.int p3), .val (.int p4), .val (.int p5), .val (.ref b51), .val (.ref b54), .unset, .unset, .unset] [(.double (FP.dadd (FP.i2d p4) FP.dconst1)), (.ref b54)])) rfl rfl (hb hby at_61)
  have Fw67 := (((((F_timeWarp_b54.other W57 (Or.inl (Ne.symm ne_b51_b54))).other W59 (Or.inl (Ne.symm ne_b51_b54))).other W61 (Or.inl (Ne.symm ne_b51_b54))).other W63 (Or.inl (Ne.symm ne_b51_b54))).other W65 (Or.inr (slot_ne (Or.inl w12) (Or.inl w10) (by decide) (t := .double) (t' := .double) (by decide) (by decide)))).same W67
  have N67 := Fr.snoc X67 N65 g_b54
  have K68 : Keep h0 h67 [] := K66.wr W67 (Or.inr sz_b54)
  refine own_step st67 ?_
  show own_Goes p e below _ (T67.setTop (mkF m 64 #[.val (.int p0), .val (.int p1), .val (.int p2), .val (.int p3), .val (.int p4), .val (.int p5), .val (.ref b51), .val (.ref b54), .unset, .unset, .unset] []))
  refine own_step (fun t k => XS.aload X67.here hx rfl (hb hby at_64) rfl rfl k) ?_
  show own_Goes p e below _ (T67.setTop (mkF m 66 #[.val (.int p0), .val (.int p1), .val (.int p2), .val (.int p3), .val (.int p4), .val (.int p5), .val (.ref b51), .val (.ref b54), .unset, .unset, .unset] [(.ref b54)]))
  refine own_step (fun t k => XS.iload X67.here hx rfl (hb hby at_66) rfl k) ?_
  show own_Goes p e below _ (T67.setTop (mkF m 68 #[.val (.int p0), .val (.int p1), .val (.int p2), .val (.int p3), .val (.int p4), .val (.int p5), .val (.ref b51), .val (.ref b54), .unset, .unset, .unset] [(.int p4), (.ref b54)]))
  refine own_step (fun t k => XS.i2dS X67.here hx rfl (hb hby at_68) rfl rfl k) ?_
  show own_Goes p e below _ (T67.setTop (mkF m 69 #[.val (.int p0), .val (.int p1), .val (.int p2), .val (.int p3), .val (.int p4), .val (.int p5), .val (.ref b51), .val (.ref b54), .unset, .unset, .unset] [(.double (FP.i2d p4)), (.ref b54)]))
  refine own_step (fun t k => X67.ldc2DoubleC hx hown (mvT hZ w17) (g := (mkF m 69 #[.val (.int p0), .val (.int p1), .val (.int p2), .val (.int p3), .val (.int p4), .val (.int p5), .val (.ref b51), .val (.ref b54), .unset, .unset, .unset] [(.double (FP.i2d p4)), (.ref b54)])) rfl (hb hby at_69) _ k) ?_
  show own_Goes p e below _ (T67.setTop (mkF m 72 #[.val (.int p0), .val (.int p1), .val (.int p2), .val (.int p3), .val (.int p4), .val (.int p5), .val (.ref b51), .val (.ref b54), .unset, .unset, .unset] [(.double (4611686018427387904 : UInt64)), (.double (FP.i2d p4)), (.ref b54)]))
  refine own_step (fun t k => XS.daddS X67.here hx rfl (hb hby at_72) rfl (Jvm.Free.Fl.dadd_out (Jvm.Free.Fl.i2d_fin _).noNaN own_f2) rfl k) ?_
  show own_Goes p e below _ (T67.setTop (mkF m 73 #[.val (.int p0), .val (.int p1), .val (.int p2), .val (.int p3), .val (.int p4), .val (.int p5), .val (.ref b51), .val (.ref b54), .unset, .unset, .unset] [(.double (FP.dadd (FP.i2d p4) (4611686018427387904 : UInt64))), (.ref b54)]))
  obtain ⟨T69, h69, X69, e69, W69, st69⟩ := putF X67 hx hZ hown (host := "") (Or.inl w13) Via.refl e67 ((((((F_earliest_b54.other W57 (Or.inl (Ne.symm ne_b51_b54))).other W59 (Or.inl (Ne.symm ne_b51_b54))).other W61 (Or.inl (Ne.symm ne_b51_b54))).other W63 (Or.inl (Ne.symm ne_b51_b54))).other W65 (Or.inr (slot_ne (Or.inl w14) (Or.inl w10) (by decide) (t := .double) (t' := .double) (by decide) (by decide)))).other W67 (Or.inr (slot_ne (Or.inl w14) (Or.inl w12) (by decide) (t := .double) (t' := .double) (by decide) (by decide)))) ((((((A54.wr W57).wr W59).wr W61).wr W63).wr W65).wr W67) (Or.inl w14) w1 (ty := .double) (by decide) rfl rfl (g := (mkF m 73 #[.val (.int p0), .val (.int p1), .val (.int p2), .val (.int p3), .val (.int p4), .val (.int p5), .val (.ref b51), .val (.ref b54), .unset, .unset, .unset] [(.double (FP.dadd (FP.i2d p4) (4611686018427387904 : UInt64))), (.ref b54)])) rfl rfl (hb hby at_73)
  have Fw69 := ((((((F_earliest_b54.other W57 (Or.inl (Ne.symm ne_b51_b54))).other W59 (Or.inl (Ne.symm ne_b51_b54))).other W61 (Or.inl (Ne.symm ne_b51_b54))).other W63 (Or.inl (Ne.symm ne_b51_b54))).other W65 (Or.inr (slot_ne (Or.inl w14) (Or.inl w10) (by decide) (t := .double) (t' := .double) (by decide) (by decide)))).other W67 (Or.inr (slot_ne (Or.inl w14) (Or.inl w12) (by decide) (t := .double) (t' := .double) (by decide) (by decide)))).same W69
  have N69 := Fr.snoc X69 N67 g_b54
  have K70 : Keep h0 h69 [] := K68.wr W69 (Or.inr sz_b54)
  refine own_step st69 ?_
  show own_Goes p e below _ (T69.setTop (mkF m 76 #[.val (.int p0), .val (.int p1), .val (.int p2), .val (.int p3), .val (.int p4), .val (.int p5), .val (.ref b51), .val (.ref b54), .unset, .unset, .unset] []))
  refine own_step (fun t k => XS.aload X69.here hx rfl (hb hby at_76) rfl rfl k) ?_
  show own_Goes p e below _ (T69.setTop (mkF m 78 #[.val (.int p0), .val (.int p1), .val (.int p2), .val (.int p3), .val (.int p4), .val (.int p5), .val (.ref b51), .val (.ref b54), .unset, .unset, .unset] [(.ref b54)]))
  refine own_step (fun t k => XS.iload X69.here hx rfl (hb hby at_78) rfl k) ?_
  show own_Goes p e below _ (T69.setTop (mkF m 80 #[.val (.int p0), .val (.int p1), .val (.int p2), .val (.int p3), .val (.int p4), .val (.int p5), .val (.ref b51), .val (.ref b54), .unset, .unset, .unset] [(.int p4), (.ref b54)]))
  refine own_step (fun t k => XS.i2dS X69.here hx rfl (hb hby at_80) rfl rfl k) ?_
  show own_Goes p e below _ (T69.setTop (mkF m 81 #[.val (.int p0), .val (.int p1), .val (.int p2), .val (.int p3), .val (.int p4), .val (.int p5), .val (.ref b51), .val (.ref b54), .unset, .unset, .unset] [(.double (FP.i2d p4)), (.ref b54)]))
  refine own_step (fun t k => X69.ldc2DoubleC hx hown (mvT hZ w18) (g := (mkF m 81 #[.val (.int p0), .val (.int p1), .val (.int p2), .val (.int p3), .val (.int p4), .val (.int p5), .val (.ref b51), .val (.ref b54), .unset, .unset, .unset] [(.double (FP.i2d p4)), (.ref b54)])) rfl (hb hby at_81) _ k) ?_
  show own_Goes p e below _ (T69.setTop (mkF m 84 #[.val (.int p0), .val (.int p1), .val (.int p2), .val (.int p3), .val (.int p4), .val (.int p5), .val (.ref b51), .val (.ref b54), .unset, .unset, .unset] [(.double (4613937818241073152 : UInt64)), (.double (FP.i2d p4)), (.ref b54)]))
  refine own_step (fun t k => XS.daddS X69.here hx rfl (hb hby at_84) rfl (Jvm.Free.Fl.dadd_out (Jvm.Free.Fl.i2d_fin _).noNaN own_f3) rfl k) ?_
  show own_Goes p e below _ (T69.setTop (mkF m 85 #[.val (.int p0), .val (.int p1), .val (.int p2), .val (.int p3), .val (.int p4), .val (.int p5), .val (.ref b51), .val (.ref b54), .unset, .unset, .unset] [(.double (FP.dadd (FP.i2d p4) (4613937818241073152 : UInt64))), (.ref b54)]))
  obtain ⟨T71, h71, X71, e71, W71, st71⟩ := putF X69 hx hZ hown (host := "") (Or.inl w15) Via.refl e69 (((((((F_latest_b54.other W57 (Or.inl (Ne.symm ne_b51_b54))).other W59 (Or.inl (Ne.symm ne_b51_b54))).other W61 (Or.inl (Ne.symm ne_b51_b54))).other W63 (Or.inl (Ne.symm ne_b51_b54))).other W65 (Or.inr (slot_ne (Or.inl w16) (Or.inl w10) (by decide) (t := .double) (t' := .double) (by decide) (by decide)))).other W67 (Or.inr (slot_ne (Or.inl w16) (Or.inl w12) (by decide) (t := .double) (t' := .double) (by decide) (by decide)))).other W69 (Or.inr (slot_ne (Or.inl w16) (Or.inl w14) (by decide) (t := .double) (t' := .double) (by decide) (by decide)))) (((((((A54.wr W57).wr W59).wr W61).wr W63).wr W65).wr W67).wr W69) (Or.inl w16) w1 (ty := .double) (by decide) rfl rfl (g := (mkF m 85 #[.val (.int p0), .val (.int p1), .val (.int p2), .val (.int p3), .val (.int p4), .val (.int p5), .val (.ref b51), .val (.ref b54), .unset, .unset, .unset] [(.double (FP.dadd (FP.i2d p4) (4613937818241073152 : UInt64))), (.ref b54)])) rfl rfl (hb hby at_85)
  have Fw71 := (((((((F_latest_b54.other W57 (Or.inl (Ne.symm ne_b51_b54))).other W59 (Or.inl (Ne.symm ne_b51_b54))).other W61 (Or.inl (Ne.symm ne_b51_b54))).other W63 (Or.inl (Ne.symm ne_b51_b54))).other W65 (Or.inr (slot_ne (Or.inl w16) (Or.inl w10) (by decide) (t := .double) (t' := .double) (by decide) (by decide)))).other W67 (Or.inr (slot_ne (Or.inl w16) (Or.inl w12) (by decide) (t := .double) (t' := .double) (by decide) (by decide)))).other W69 (Or.inr (slot_ne (Or.inl w16) (Or.inl w14) (by decide) (t := .double) (t' := .double) (by decide) (by decide)))).same W71
  have N71 := Fr.snoc X71 N69 g_b54
  have K72 : Keep h0 h71 [] := K70.wr W71 (Or.inr sz_b54)
  refine own_step st71 ?_
  show own_Goes p e below _ (T71.setTop (mkF m 88 #[.val (.int p0), .val (.int p1), .val (.int p2), .val (.int p3), .val (.int p4), .val (.int p5), .val (.ref b51), .val (.ref b54), .unset, .unset, .unset] []))
  refine own_step (fun t k => XS.aload X71.here hx rfl (hb hby at_88) rfl rfl k) ?_
  show own_Goes p e below _ (T71.setTop (mkF m 90 #[.val (.int p0), .val (.int p1), .val (.int p2), .val (.int p3), .val (.int p4), .val (.int p5), .val (.ref b51), .val (.ref b54), .unset, .unset, .unset] [(.ref b54)]))
  refine own_step (fun t k => XS.astore X71.here hx rfl (hb hby at_90) rfl rfl (l' := #[.val (.int p0), .val (.int p1), .val (.int p2), .val (.int p3), .val (.int p4), .val (.int p5), .val (.ref b51), .val (.ref b54), .val (.ref b54), .unset, .unset]) rfl k) ?_
  show own_Goes p e below _ (T71.setTop (mkF m 92 #[.val (.int p0), .val (.int p1), .val (.int p2), .val (.int p3), .val (.int p4), .val (.int p5), .val (.ref b51), .val (.ref b54), .val (.ref b54), .unset, .unset] []))
  refine own_step (fun t k => XS.iload X71.here hx rfl (hb hby at_92) rfl k) ?_
  show own_Goes p e below _ (T71.setTop (mkF m 94 #[.val (.int p0), .val (.int p1), .val (.int p2), .val (.int p3), .val (.int p4), .val (.int p5), .val (.ref b51), .val (.ref b54), .val (.ref b54), .unset, .unset] [(.int p5)]))
  refine own_step (fun t k => XS.iconst X71.here hx rfl (hb hby at_94) k) ?_
  show own_Goes p e below _ (T71.setTop (mkF m 95 #[.val (.int p0), .val (.int p1), .val (.int p2), .val (.int p3), .val (.int p4), .val (.int p5), .val (.ref b51), .val (.ref b54), .val (.ref b54), .unset, .unset] [(.int (1 : Int32)), (.int p5)]))
  refine own_step (fun t k => XS.iand X71.here hx rfl (hb hby at_95) rfl k) ?_
  show own_Goes p e below _ (T71.setTop (mkF m 96 #[.val (.int p0), .val (.int p1), .val (.int p2), .val (.int p3), .val (.int p4), .val (.int p5), .val (.ref b51), .val (.ref b54), .val (.ref b54), .unset, .unset] [(.int (p5 &&& (1 : Int32)))]))
  by_cases hc73 : (p5 &&& (1 : Int32)) = (0 : Int32)
  · --
    refine own_step (fun t k => XS.ifYes X71.here hx rfl (pc0 := 96) (pc' := 103) rfl (hb hby at_96) rfl ((if0 _ _).trans (teq hc73).1) (by decide) (by decide) k) ?_
    show own_Goes p e below _ (T71.setTop (mkF m 103 #[.val (.int p0), .val (.int p1), .val (.int p2), .val (.int p3), .val (.int p4), .val (.int p5), .val (.ref b51), .val (.ref b54), .val (.ref b54), .unset, .unset] []))
    refine own_step (fun t k => XS.aload X71.here hx rfl (hb hby at_103) rfl rfl k) ?_
    show own_Goes p e below _ (T71.setTop (mkF m 105 #[.val (.int p0), .val (.int p1), .val (.int p2), .val (.int p3), .val (.int p4), .val (.int p5), .val (.ref b51), .val (.ref b54), .val (.ref b54), .unset, .unset] [(.ref b54)]))
    refine own_step (fun t k => XS.aload X71.here hx rfl (hb hby at_105) rfl rfl k) ?_
    show own_Goes p e below _ (T71.setTop (mkF m 107 #[.val (.int p0), .val (.int p1), .val (.int p2), .val (.int p3), .val (.int p4), .val (.int p5), .val (.ref b51), .val (.ref b54), .val (.ref b54), .unset, .unset] [(.ref b51), (.ref b54)]))
    obtain ⟨cq74, kq74, q74a, q74b, q74c⟩ := isOf hZ e71 ((((((((A54.wr W57).wr W59).wr W61).wr W63).wr W65).wr W67).wr W69).wr W71)
    obtain ⟨_, _, ⟨T74, L74, k74, n74⟩, -, X74, ⟨Lc74, hQ74, l74, y74, z74⟩, st74⟩ := X71.virtualBack hx (y := (⟨"com/example/waysmith/waysmith/solver/Stretch", "set", "(Lcom/example/waysmith/waysmith/solver/Stretch;)V"⟩ : MethodName)) (z := (⟨"com/example/waysmith/waysmith/solver/Stretch", "set", "(Lcom/example/waysmith/waysmith/solver/Stretch;)V"⟩ : MethodName)) hown (mvT hZ w19) (mvT hZ w20) (notFace_of_selects (args := #[]) (mvT hZ w22)) (mvT hZ w22) (mvT hZ w21) (by decide) (backOf (W := 0) (own_b2 l Z a0 hw [] b54 b51 ((.double (FP.i2d p4))) ((.double (FP.dadd (FP.i2d p4) FP.dconst1))) ((.double (FP.dadd (FP.i2d p4) (4611686018427387904 : UInt64)))) ((.double (FP.dadd (FP.i2d p4) (4613937818241073152 : UInt64)))) ((FP.i2d p0)) ((FP.i2d p1)) ((FP.i2d p2)) ((FP.i2d p3)) h71 n0 (Nat.le_trans (Nat.le_trans (Nat.le_trans (Nat.le_trans (Nat.le_trans (Nat.le_trans (Nat.le_trans (Nat.le_trans (Nat.le_trans (Nat.le_trans Z0 E51.1) E54.1) (Keep.of_wr W57).1) (Keep.of_wr W59).1) (Keep.of_wr W61).1) (Keep.of_wr W63).1) (Keep.of_wr W65).1) (Keep.of_wr W67).1) (Keep.of_wr W69).1) (Keep.of_wr W71).1) ((((((((A54.wr W57).wr W59).wr W61).wr W63).wr W65).wr W67).wr W69).wr W71) g_b54 (Ne.symm ne_b51_b54) (((Fw65.other W67 (Or.inr (slot_ne (Or.inl w10) (Or.inl w12) (by decide) (t := .double) (t' := .double) (by decide) (by decide)))).other W69 (Or.inr (slot_ne (Or.inl w10) (Or.inl w14) (by decide) (t := .double) (t' := .double) (by decide) (by decide)))).other W71 (Or.inr (slot_ne (Or.inl w10) (Or.inl w16) (by decide) (t := .double) (t' := .double) (by decide) (by decide)))) ((Fw67.other W69 (Or.inr (slot_ne (Or.inl w12) (Or.inl w14) (by decide) (t := .double) (t' := .double) (by decide) (by decide)))).other W71 (Or.inr (slot_ne (Or.inl w12) (Or.inl w16) (by decide) (t := .double) (t' := .double) (by decide) (by decide)))) (Fw69.other W71 (Or.inr (slot_ne (Or.inl w14) (Or.inl w16) (by decide) (t := .double) (t' := .double) (by decide) (by decide)))) Fw71 (((((((Fw57.other W59 (Or.inr (slot_ne (Or.inl w10) (Or.inl w12) (by decide) (t := .double) (t' := .double) (by decide) (by decide)))).other W61 (Or.inr (slot_ne (Or.inl w10) (Or.inl w14) (by decide) (t := .double) (t' := .double) (by decide) (by decide)))).other W63 (Or.inr (slot_ne (Or.inl w10) (Or.inl w16) (by decide) (t := .double) (t' := .double) (by decide) (by decide)))).other W65 (Or.inl ne_b51_b54)).other W67 (Or.inl ne_b51_b54)).other W69 (Or.inl ne_b51_b54)).other W71 (Or.inl ne_b51_b54)) ((((((Fw59.other W61 (Or.inr (slot_ne (Or.inl w12) (Or.inl w14) (by decide) (t := .double) (t' := .double) (by decide) (by decide)))).other W63 (Or.inr (slot_ne (Or.inl w12) (Or.inl w16) (by decide) (t := .double) (t' := .double) (by decide) (by decide)))).other W65 (Or.inl ne_b51_b54)).other W67 (Or.inl ne_b51_b54)).other W69 (Or.inl ne_b51_b54)).other W71 (Or.inl ne_b51_b54)) (((((Fw61.other W63 (Or.inr (slot_ne (Or.inl w14) (Or.inl w16) (by decide) (t := .double) (t' := .double) (by decide) (by decide)))).other W65 (Or.inl ne_b51_b54)).other W67 (Or.inl ne_b51_b54)).other W69 (Or.inl ne_b51_b54)).other W71 (Or.inl ne_b51_b54)) ((((Fw63.other W65 (Or.inl ne_b51_b54)).other W67 (Or.inl ne_b51_b54)).other W69 (Or.inl ne_b51_b54)).other W71 (Or.inl ne_b51_b54))) hZ w23 w2 (by decide) (by decide)) q74a q74c (g := (mkF m 107 #[.val (.int p0), .val (.int p1), .val (.int p2), .val (.int p3), .val (.int p4), .val (.int p5), .val (.ref b51), .val (.ref b54), .val (.ref b54), .unset, .unset] [(.ref b51), (.ref b54)])) rfl (by rw [hml]; rfl) (Steps.refl _) (argsL := [(.ref b51)]) (rest := []) (lenOf own_pd1 rfl) rfl (by show 2 * 0 + _ ≤ _; exact Nat.le_of_eq rfl) (hb hby at_107) (fun _ _ => ⟨rfl, e71, (by decide : 2 + 0 ≤ _), (by decide : 8 + 0 ≤ _)⟩)
    dsimp only [Pt.U, Pt.locs, Pt.cells, Pt.slots] at X74 l74 y74 z74 st74 hQ74
    subst l74 y74 z74
    obtain ⟨rfl, N74q, K74c, f74_0, f74_1, f74_2, f74_3, f74_4⟩ := hQ74
    have N74 := Fr.app N71 N74q
    refine own_jump st74 ?_
    have K75 : Keep h0 T74.heap [] := K72.trans K74c (allS (Or.inr sz_b54) all0)
    show own_Goes p e below _ (T74.setTop (mkF m 110 #[.val (.int p0), .val (.int p1), .val (.int p2), .val (.int p3), .val (.int p4), .val (.int p5), .val (.ref b51), .val (.ref b54), .val (.ref b54), .unset, .unset] []))
    refine own_step (fun t k => XS.aload X74.here hx rfl (hb hby at_110) rfl rfl k) ?_
    show own_Goes p e below _ (T74.setTop (mkF m 112 #[.val (.int p0), .val (.int p1), .val (.int p2), .val (.int p3), .val (.int p4), .val (.int p5), .val (.ref b51), .val (.ref b54), .val (.ref b54), .unset, .unset] [(.ref b54)]))
    obtain ⟨T76, X76, e76, st76⟩ := getF X74 hx hZ hown (host := "") (Or.inl w9) Via.refl rfl f74_1 (g := (mkF m 112 #[.val (.int p0), .val (.int p1), .val (.int p2), .val (.int p3), .val (.int p4), .val (.int p5), .val (.ref b51), .val (.ref b54), .val (.ref b54), .unset, .unset] [(.ref b54)])) rfl rfl (hb hby at_112)
    refine own_step st76 ?_
    show own_Goes p e below _ (T76.setTop (mkF m 115 #[.val (.int p0), .val (.int p1), .val (.int p2), .val (.int p3), .val (.int p4), .val (.int p5), .val (.ref b51), .val (.ref b54), .val (.ref b54), .unset, .unset] [(.double (FP.i2d p0))]))
    refine own_step (fun t k => XS.iloadN X76.here hx rfl (hb hby at_115) rfl k) ?_
    show own_Goes p e below _ (T76.setTop (mkF m 116 #[.val (.int p0), .val (.int p1), .val (.int p2), .val (.int p3), .val (.int p4), .val (.int p5), .val (.ref b51), .val (.ref b54), .val (.ref b54), .unset, .unset] [(.int p0), (.double (FP.i2d p0))]))
    refine own_step (fun t k => XS.i2dS X76.here hx rfl (hb hby at_116) rfl rfl k) ?_
    show own_Goes p e below _ (T76.setTop (mkF m 117 #[.val (.int p0), .val (.int p1), .val (.int p2), .val (.int p3), .val (.int p4), .val (.int p5), .val (.ref b51), .val (.ref b54), .val (.ref b54), .unset, .unset] [(.double (FP.i2d p0)), (.double (FP.i2d p0))]))
    refine own_step (fun t k => XS.dcmpS X76.here hx rfl (hb hby at_117) rfl (dcmpV_self (Jvm.Free.Fl.i2d_fin _).noNaN _) k) ?_
    show own_Goes p e below _ (T76.setTop (mkF m 118 #[.val (.int p0), .val (.int p1), .val (.int p2), .val (.int p3), .val (.int p4), .val (.int p5), .val (.ref b51), .val (.ref b54), .val (.ref b54), .unset, .unset] [(.int (0 : Int32))]))
    have hc77 : (0 : Int32) = (0 : Int32) := rfl
    refine own_step (fun t k => XS.ifNo X76.here hx rfl (hb hby at_118) rfl ((if0 _ _).trans (teq hc77).2) k) ?_
    show own_Goes p e below _ (T76.setTop (mkF m 121 #[.val (.int p0), .val (.int p1), .val (.int p2), .val (.int p3), .val (.int p4), .val (.int p5), .val (.ref b51), .val (.ref b54), .val (.ref b54), .unset, .unset] []))
    refine own_step (fun t k => XS.aload X76.here hx rfl (hb hby at_121) rfl rfl k) ?_
    show own_Goes p e below _ (T76.setTop (mkF m 123 #[.val (.int p0), .val (.int p1), .val (.int p2), .val (.int p3), .val (.int p4), .val (.int p5), .val (.ref b51), .val (.ref b54), .val (.ref b54), .unset, .unset] [(.ref b54)]))
    obtain ⟨T78, X78, e78, st78⟩ := getF X76 hx hZ hown (host := "") (Or.inl w11) Via.refl e76 f74_2 (g := (mkF m 123 #[.val (.int p0), .val (.int p1), .val (.int p2), .val (.int p3), .val (.int p4), .val (.int p5), .val (.ref b51), .val (.ref b54), .val (.ref b54), .unset, .unset] [(.ref b54)])) rfl rfl (hb hby at_123)
    refine own_step st78 ?_
    show own_Goes p e below _ (T78.setTop (mkF m 126 #[.val (.int p0), .val (.int p1), .val (.int p2), .val (.int p3), .val (.int p4), .val (.int p5), .val (.ref b51), .val (.ref b54), .val (.ref b54), .unset, .unset] [(.double (FP.i2d p1))]))
    refine own_step (fun t k => XS.iloadN X78.here hx rfl (hb hby at_126) rfl k) ?_
    show own_Goes p e below _ (T78.setTop (mkF m 127 #[.val (.int p0), .val (.int p1), .val (.int p2), .val (.int p3), .val (.int p4), .val (.int p5), .val (.ref b51), .val (.ref b54), .val (.ref b54), .unset, .unset] [(.int p1), (.double (FP.i2d p1))]))
    refine own_step (fun t k => XS.i2dS X78.here hx rfl (hb hby at_127) rfl rfl k) ?_
    show own_Goes p e below _ (T78.setTop (mkF m 128 #[.val (.int p0), .val (.int p1), .val (.int p2), .val (.int p3), .val (.int p4), .val (.int p5), .val (.ref b51), .val (.ref b54), .val (.ref b54), .unset, .unset] [(.double (FP.i2d p1)), (.double (FP.i2d p1))]))
    refine own_step (fun t k => XS.dcmpS X78.here hx rfl (hb hby at_128) rfl (dcmpV_self (Jvm.Free.Fl.i2d_fin _).noNaN _) k) ?_
    show own_Goes p e below _ (T78.setTop (mkF m 129 #[.val (.int p0), .val (.int p1), .val (.int p2), .val (.int p3), .val (.int p4), .val (.int p5), .val (.ref b51), .val (.ref b54), .val (.ref b54), .unset, .unset] [(.int (0 : Int32))]))
    have hc79 : (0 : Int32) = (0 : Int32) := rfl
    refine own_step (fun t k => XS.ifNo X78.here hx rfl (hb hby at_129) rfl ((if0 _ _).trans (teq hc79).2) k) ?_
    show own_Goes p e below _ (T78.setTop (mkF m 132 #[.val (.int p0), .val (.int p1), .val (.int p2), .val (.int p3), .val (.int p4), .val (.int p5), .val (.ref b51), .val (.ref b54), .val (.ref b54), .unset, .unset] []))
    refine own_step (fun t k => XS.aload X78.here hx rfl (hb hby at_132) rfl rfl k) ?_
    show own_Goes p e below _ (T78.setTop (mkF m 134 #[.val (.int p0), .val (.int p1), .val (.int p2), .val (.int p3), .val (.int p4), .val (.int p5), .val (.ref b51), .val (.ref b54), .val (.ref b54), .unset, .unset] [(.ref b54)]))
    obtain ⟨T80, X80, e80, st80⟩ := getF X78 hx hZ hown (host := "") (Or.inl w13) Via.refl e78 f74_3 (g := (mkF m 134 #[.val (.int p0), .val (.int p1), .val (.int p2), .val (.int p3), .val (.int p4), .val (.int p5), .val (.ref b51), .val (.ref b54), .val (.ref b54), .unset, .unset] [(.ref b54)])) rfl rfl (hb hby at_134)
    refine own_step st80 ?_
    show own_Goes p e below _ (T80.setTop (mkF m 137 #[.val (.int p0), .val (.int p1), .val (.int p2), .val (.int p3), .val (.int p4), .val (.int p5), .val (.ref b51), .val (.ref b54), .val (.ref b54), .unset, .unset] [(.double (FP.i2d p2))]))
    refine own_step (fun t k => XS.iloadN X80.here hx rfl (hb hby at_137) rfl k) ?_
    show own_Goes p e below _ (T80.setTop (mkF m 138 #[.val (.int p0), .val (.int p1), .val (.int p2), .val (.int p3), .val (.int p4), .val (.int p5), .val (.ref b51), .val (.ref b54), .val (.ref b54), .unset, .unset] [(.int p2), (.double (FP.i2d p2))]))
    refine own_step (fun t k => XS.i2dS X80.here hx rfl (hb hby at_138) rfl rfl k) ?_
    show own_Goes p e below _ (T80.setTop (mkF m 139 #[.val (.int p0), .val (.int p1), .val (.int p2), .val (.int p3), .val (.int p4), .val (.int p5), .val (.ref b51), .val (.ref b54), .val (.ref b54), .unset, .unset] [(.double (FP.i2d p2)), (.double (FP.i2d p2))]))
    refine own_step (fun t k => XS.dcmpS X80.here hx rfl (hb hby at_139) rfl (dcmpV_self (Jvm.Free.Fl.i2d_fin _).noNaN _) k) ?_
    show own_Goes p e below _ (T80.setTop (mkF m 140 #[.val (.int p0), .val (.int p1), .val (.int p2), .val (.int p3), .val (.int p4), .val (.int p5), .val (.ref b51), .val (.ref b54), .val (.ref b54), .unset, .unset] [(.int (0 : Int32))]))
    have hc81 : (0 : Int32) = (0 : Int32) := rfl
    refine own_step (fun t k => XS.ifNo X80.here hx rfl (hb hby at_140) rfl ((if0 _ _).trans (teq hc81).2) k) ?_
    show own_Goes p e below _ (T80.setTop (mkF m 143 #[.val (.int p0), .val (.int p1), .val (.int p2), .val (.int p3), .val (.int p4), .val (.int p5), .val (.ref b51), .val (.ref b54), .val (.ref b54), .unset, .unset] []))
    refine own_step (fun t k => XS.aload X80.here hx rfl (hb hby at_143) rfl rfl k) ?_
    show own_Goes p e below _ (T80.setTop (mkF m 145 #[.val (.int p0), .val (.int p1), .val (.int p2), .val (.int p3), .val (.int p4), .val (.int p5), .val (.ref b51), .val (.ref b54), .val (.ref b54), .unset, .unset] [(.ref b54)]))
    obtain ⟨T82, X82, e82, st82⟩ := getF X80 hx hZ hown (host := "") (Or.inl w15) Via.refl e80 f74_4 (g := (mkF m 145 #[.val (.int p0), .val (.int p1), .val (.int p2), .val (.int p3), .val (.int p4), .val (.int p5), .val (.ref b51), .val (.ref b54), .val (.ref b54), .unset, .unset] [(.ref b54)])) rfl rfl (hb hby at_145)
    refine own_step st82 ?_
    show own_Goes p e below _ (T82.setTop (mkF m 148 #[.val (.int p0), .val (.int p1), .val (.int p2), .val (.int p3), .val (.int p4), .val (.int p5), .val (.ref b51), .val (.ref b54), .val (.ref b54), .unset, .unset] [(.double (FP.i2d p3))]))
    refine own_step (fun t k => XS.iloadN X82.here hx rfl (hb hby at_148) rfl k) ?_
    show own_Goes p e below _ (T82.setTop (mkF m 149 #[.val (.int p0), .val (.int p1), .val (.int p2), .val (.int p3), .val (.int p4), .val (.int p5), .val (.ref b51), .val (.ref b54), .val (.ref b54), .unset, .unset] [(.int p3), (.double (FP.i2d p3))]))
    refine own_step (fun t k => XS.i2dS X82.here hx rfl (hb hby at_149) rfl rfl k) ?_
    show own_Goes p e below _ (T82.setTop (mkF m 150 #[.val (.int p0), .val (.int p1), .val (.int p2), .val (.int p3), .val (.int p4), .val (.int p5), .val (.ref b51), .val (.ref b54), .val (.ref b54), .unset, .unset] [(.double (FP.i2d p3)), (.double (FP.i2d p3))]))
    refine own_step (fun t k => XS.dcmpS X82.here hx rfl (hb hby at_150) rfl (dcmpV_self (Jvm.Free.Fl.i2d_fin _).noNaN _) k) ?_
    show own_Goes p e below _ (T82.setTop (mkF m 151 #[.val (.int p0), .val (.int p1), .val (.int p2), .val (.int p3), .val (.int p4), .val (.int p5), .val (.ref b51), .val (.ref b54), .val (.ref b54), .unset, .unset] [(.int (0 : Int32))]))
    have hc83 : (0 : Int32) = (0 : Int32) := rfl
    refine own_step (fun t k => XS.ifNo X82.here hx rfl (hb hby at_151) rfl ((if0 _ _).trans (teq hc83).2) k) ?_
    show own_Goes p e below _ (T82.setTop (mkF m 154 #[.val (.int p0), .val (.int p1), .val (.int p2), .val (.int p3), .val (.int p4), .val (.int p5), .val (.ref b51), .val (.ref b54), .val (.ref b54), .unset, .unset] []))
    refine own_step (fun t k => XS.iconst X82.here hx rfl (hb hby at_154) k) ?_
    show own_Goes p e below _ (T82.setTop (mkF m 155 #[.val (.int p0), .val (.int p1), .val (.int p2), .val (.int p3), .val (.int p4), .val (.int p5), .val (.ref b51), .val (.ref b54), .val (.ref b54), .unset, .unset] [(.int (1 : Int32))]))
    refine own_step (fun t k => XS.goto X82.here hx rfl (pc0 := 155) (pc' := 159) rfl (hb hby at_155) (by decide) (by decide) k) ?_
    show own_Goes p e below _ (T82.setTop (mkF m 159 #[.val (.int p0), .val (.int p1), .val (.int p2), .val (.int p3), .val (.int p4), .val (.int p5), .val (.ref b51), .val (.ref b54), .val (.ref b54), .unset, .unset] [(.int (1 : Int32))]))
    refine own_step (fun t k => XS.istore X82.here hx rfl (hb hby at_159) rfl (l' := #[.val (.int p0), .val (.int p1), .val (.int p2), .val (.int p3), .val (.int p4), .val (.int p5), .val (.ref b51), .val (.ref b54), .val (.ref b54), .val (.int (1 : Int32)), .unset]) rfl k) ?_
    show own_Goes p e below _ (T82.setTop (mkF m 161 #[.val (.int p0), .val (.int p1), .val (.int p2), .val (.int p3), .val (.int p4), .val (.int p5), .val (.ref b51), .val (.ref b54), .val (.ref b54), .val (.int (1 : Int32)), .unset] []))
    refine own_step (fun t k => XS.aload X82.here hx rfl (hb hby at_161) rfl rfl k) ?_
    show own_Goes p e below _ (T82.setTop (mkF m 163 #[.val (.int p0), .val (.int p1), .val (.int p2), .val (.int p3), .val (.int p4), .val (.int p5), .val (.ref b51), .val (.ref b54), .val (.ref b54), .val (.int (1 : Int32)), .unset] [(.ref b51)]))
    obtain ⟨T84, X84, e84, st84⟩ := getF X82 hx hZ hown (host := "") (Or.inl w9) Via.refl e82 ((((((((Fw57.other W59 (Or.inr (slot_ne (Or.inl w10) (Or.inl w12) (by decide) (t := .double) (t' := .double) (by decide) (by decide)))).other W61 (Or.inr (slot_ne (Or.inl w10) (Or.inl w14) (by decide) (t := .double) (t' := .double) (by decide) (by decide)))).other W63 (Or.inr (slot_ne (Or.inl w10) (Or.inl w16) (by decide) (t := .double) (t' := .double) (by decide) (by decide)))).other W65 (Or.inl ne_b51_b54)).other W67 (Or.inl ne_b51_b54)).other W69 (Or.inl ne_b51_b54)).other W71 (Or.inl ne_b51_b54)).keep K74c (ninS ne_b51_b54 nin0)) (g := (mkF m 163 #[.val (.int p0), .val (.int p1), .val (.int p2), .val (.int p3), .val (.int p4), .val (.int p5), .val (.ref b51), .val (.ref b54), .val (.ref b54), .val (.int (1 : Int32)), .unset] [(.ref b51)])) rfl rfl (hb hby at_163)
    refine own_step st84 ?_
    show own_Goes p e below _ (T84.setTop (mkF m 166 #[.val (.int p0), .val (.int p1), .val (.int p2), .val (.int p3), .val (.int p4), .val (.int p5), .val (.ref b51), .val (.ref b54), .val (.ref b54), .val (.int (1 : Int32)), .unset] [(.double (FP.i2d p0))]))
    refine own_step (fun t k => XS.iloadN X84.here hx rfl (hb hby at_166) rfl k) ?_
    show own_Goes p e below _ (T84.setTop (mkF m 167 #[.val (.int p0), .val (.int p1), .val (.int p2), .val (.int p3), .val (.int p4), .val (.int p5), .val (.ref b51), .val (.ref b54), .val (.ref b54), .val (.int (1 : Int32)), .unset] [(.int p0), (.double (FP.i2d p0))]))
    refine own_step (fun t k => XS.i2dS X84.here hx rfl (hb hby at_167) rfl rfl k) ?_
    show own_Goes p e below _ (T84.setTop (mkF m 168 #[.val (.int p0), .val (.int p1), .val (.int p2), .val (.int p3), .val (.int p4), .val (.int p5), .val (.ref b51), .val (.ref b54), .val (.ref b54), .val (.int (1 : Int32)), .unset] [(.double (FP.i2d p0)), (.double (FP.i2d p0))]))
    refine own_step (fun t k => XS.dcmpS X84.here hx rfl (hb hby at_168) rfl (dcmpV_self (Jvm.Free.Fl.i2d_fin _).noNaN _) k) ?_
    show own_Goes p e below _ (T84.setTop (mkF m 169 #[.val (.int p0), .val (.int p1), .val (.int p2), .val (.int p3), .val (.int p4), .val (.int p5), .val (.ref b51), .val (.ref b54), .val (.ref b54), .val (.int (1 : Int32)), .unset] [(.int (0 : Int32))]))
    have hc85 : (0 : Int32) = (0 : Int32) := rfl
    refine own_step (fun t k => XS.ifNo X84.here hx rfl (hb hby at_169) rfl ((if0 _ _).trans (teq hc85).2) k) ?_
    show own_Goes p e below _ (T84.setTop (mkF m 172 #[.val (.int p0), .val (.int p1), .val (.int p2), .val (.int p3), .val (.int p4), .val (.int p5), .val (.ref b51), .val (.ref b54), .val (.ref b54), .val (.int (1 : Int32)), .unset] []))
    refine own_step (fun t k => XS.aload X84.here hx rfl (hb hby at_172) rfl rfl k) ?_
    show own_Goes p e below _ (T84.setTop (mkF m 174 #[.val (.int p0), .val (.int p1), .val (.int p2), .val (.int p3), .val (.int p4), .val (.int p5), .val (.ref b51), .val (.ref b54), .val (.ref b54), .val (.int (1 : Int32)), .unset] [(.ref b51)]))
    obtain ⟨T86, X86, e86, st86⟩ := getF X84 hx hZ hown (host := "") (Or.inl w11) Via.refl e84 (((((((Fw59.other W61 (Or.inr (slot_ne (Or.inl w12) (Or.inl w14) (by decide) (t := .double) (t' := .double) (by decide) (by decide)))).other W63 (Or.inr (slot_ne (Or.inl w12) (Or.inl w16) (by decide) (t := .double) (t' := .double) (by decide) (by decide)))).other W65 (Or.inl ne_b51_b54)).other W67 (Or.inl ne_b51_b54)).other W69 (Or.inl ne_b51_b54)).other W71 (Or.inl ne_b51_b54)).keep K74c (ninS ne_b51_b54 nin0)) (g := (mkF m 174 #[.val (.int p0), .val (.int p1), .val (.int p2), .val (.int p3), .val (.int p4), .val (.int p5), .val (.ref b51), .val (.ref b54), .val (.ref b54), .val (.int (1 : Int32)), .unset] [(.ref b51)])) rfl rfl (hb hby at_174)
    refine own_step st86 ?_
    show own_Goes p e below _ (T86.setTop (mkF m 177 #[.val (.int p0), .val (.int p1), .val (.int p2), .val (.int p3), .val (.int p4), .val (.int p5), .val (.ref b51), .val (.ref b54), .val (.ref b54), .val (.int (1 : Int32)), .unset] [(.double (FP.i2d p1))]))
    refine own_step (fun t k => XS.iloadN X86.here hx rfl (hb hby at_177) rfl k) ?_
    show own_Goes p e below _ (T86.setTop (mkF m 178 #[.val (.int p0), .val (.int p1), .val (.int p2), .val (.int p3), .val (.int p4), .val (.int p5), .val (.ref b51), .val (.ref b54), .val (.ref b54), .val (.int (1 : Int32)), .unset] [(.int p1), (.double (FP.i2d p1))]))
    refine own_step (fun t k => XS.i2dS X86.here hx rfl (hb hby at_178) rfl rfl k) ?_
    show own_Goes p e below _ (T86.setTop (mkF m 179 #[.val (.int p0), .val (.int p1), .val (.int p2), .val (.int p3), .val (.int p4), .val (.int p5), .val (.ref b51), .val (.ref b54), .val (.ref b54), .val (.int (1 : Int32)), .unset] [(.double (FP.i2d p1)), (.double (FP.i2d p1))]))
    refine own_step (fun t k => XS.dcmpS X86.here hx rfl (hb hby at_179) rfl (dcmpV_self (Jvm.Free.Fl.i2d_fin _).noNaN _) k) ?_
    show own_Goes p e below _ (T86.setTop (mkF m 180 #[.val (.int p0), .val (.int p1), .val (.int p2), .val (.int p3), .val (.int p4), .val (.int p5), .val (.ref b51), .val (.ref b54), .val (.ref b54), .val (.int (1 : Int32)), .unset] [(.int (0 : Int32))]))
    have hc87 : (0 : Int32) = (0 : Int32) := rfl
    refine own_step (fun t k => XS.ifNo X86.here hx rfl (hb hby at_180) rfl ((if0 _ _).trans (teq hc87).2) k) ?_
    show own_Goes p e below _ (T86.setTop (mkF m 183 #[.val (.int p0), .val (.int p1), .val (.int p2), .val (.int p3), .val (.int p4), .val (.int p5), .val (.ref b51), .val (.ref b54), .val (.ref b54), .val (.int (1 : Int32)), .unset] []))
    refine own_step (fun t k => XS.aload X86.here hx rfl (hb hby at_183) rfl rfl k) ?_
    show own_Goes p e below _ (T86.setTop (mkF m 185 #[.val (.int p0), .val (.int p1), .val (.int p2), .val (.int p3), .val (.int p4), .val (.int p5), .val (.ref b51), .val (.ref b54), .val (.ref b54), .val (.int (1 : Int32)), .unset] [(.ref b51)]))
    obtain ⟨T88, X88, e88, st88⟩ := getF X86 hx hZ hown (host := "") (Or.inl w13) Via.refl e86 ((((((Fw61.other W63 (Or.inr (slot_ne (Or.inl w14) (Or.inl w16) (by decide) (t := .double) (t' := .double) (by decide) (by decide)))).other W65 (Or.inl ne_b51_b54)).other W67 (Or.inl ne_b51_b54)).other W69 (Or.inl ne_b51_b54)).other W71 (Or.inl ne_b51_b54)).keep K74c (ninS ne_b51_b54 nin0)) (g := (mkF m 185 #[.val (.int p0), .val (.int p1), .val (.int p2), .val (.int p3), .val (.int p4), .val (.int p5), .val (.ref b51), .val (.ref b54), .val (.ref b54), .val (.int (1 : Int32)), .unset] [(.ref b51)])) rfl rfl (hb hby at_185)
    refine own_step st88 ?_
    show own_Goes p e below _ (T88.setTop (mkF m 188 #[.val (.int p0), .val (.int p1), .val (.int p2), .val (.int p3), .val (.int p4), .val (.int p5), .val (.ref b51), .val (.ref b54), .val (.ref b54), .val (.int (1 : Int32)), .unset] [(.double (FP.i2d p2))]))
    refine own_step (fun t k => XS.iloadN X88.here hx rfl (hb hby at_188) rfl k) ?_
    show own_Goes p e below _ (T88.setTop (mkF m 189 #[.val (.int p0), .val (.int p1), .val (.int p2), .val (.int p3), .val (.int p4), .val (.int p5), .val (.ref b51), .val (.ref b54), .val (.ref b54), .val (.int (1 : Int32)), .unset] [(.int p2), (.double (FP.i2d p2))]))
    refine own_step (fun t k => XS.i2dS X88.here hx rfl (hb hby at_189) rfl rfl k) ?_
    show own_Goes p e below _ (T88.setTop (mkF m 190 #[.val (.int p0), .val (.int p1), .val (.int p2), .val (.int p3), .val (.int p4), .val (.int p5), .val (.ref b51), .val (.ref b54), .val (.ref b54), .val (.int (1 : Int32)), .unset] [(.double (FP.i2d p2)), (.double (FP.i2d p2))]))
    refine own_step (fun t k => XS.dcmpS X88.here hx rfl (hb hby at_190) rfl (dcmpV_self (Jvm.Free.Fl.i2d_fin _).noNaN _) k) ?_
    show own_Goes p e below _ (T88.setTop (mkF m 191 #[.val (.int p0), .val (.int p1), .val (.int p2), .val (.int p3), .val (.int p4), .val (.int p5), .val (.ref b51), .val (.ref b54), .val (.ref b54), .val (.int (1 : Int32)), .unset] [(.int (0 : Int32))]))
    have hc89 : (0 : Int32) = (0 : Int32) := rfl
    refine own_step (fun t k => XS.ifNo X88.here hx rfl (hb hby at_191) rfl ((if0 _ _).trans (teq hc89).2) k) ?_
    show own_Goes p e below _ (T88.setTop (mkF m 194 #[.val (.int p0), .val (.int p1), .val (.int p2), .val (.int p3), .val (.int p4), .val (.int p5), .val (.ref b51), .val (.ref b54), .val (.ref b54), .val (.int (1 : Int32)), .unset] []))
    refine own_step (fun t k => XS.aload X88.here hx rfl (hb hby at_194) rfl rfl k) ?_
    show own_Goes p e below _ (T88.setTop (mkF m 196 #[.val (.int p0), .val (.int p1), .val (.int p2), .val (.int p3), .val (.int p4), .val (.int p5), .val (.ref b51), .val (.ref b54), .val (.ref b54), .val (.int (1 : Int32)), .unset] [(.ref b51)]))
    obtain ⟨T90, X90, e90, st90⟩ := getF X88 hx hZ hown (host := "") (Or.inl w15) Via.refl e88 (((((Fw63.other W65 (Or.inl ne_b51_b54)).other W67 (Or.inl ne_b51_b54)).other W69 (Or.inl ne_b51_b54)).other W71 (Or.inl ne_b51_b54)).keep K74c (ninS ne_b51_b54 nin0)) (g := (mkF m 196 #[.val (.int p0), .val (.int p1), .val (.int p2), .val (.int p3), .val (.int p4), .val (.int p5), .val (.ref b51), .val (.ref b54), .val (.ref b54), .val (.int (1 : Int32)), .unset] [(.ref b51)])) rfl rfl (hb hby at_196)
    refine own_step st90 ?_
    show own_Goes p e below _ (T90.setTop (mkF m 199 #[.val (.int p0), .val (.int p1), .val (.int p2), .val (.int p3), .val (.int p4), .val (.int p5), .val (.ref b51), .val (.ref b54), .val (.ref b54), .val (.int (1 : Int32)), .unset] [(.double (FP.i2d p3))]))
    refine own_step (fun t k => XS.iloadN X90.here hx rfl (hb hby at_199) rfl k) ?_
    show own_Goes p e below _ (T90.setTop (mkF m 200 #[.val (.int p0), .val (.int p1), .val (.int p2), .val (.int p3), .val (.int p4), .val (.int p5), .val (.ref b51), .val (.ref b54), .val (.ref b54), .val (.int (1 : Int32)), .unset] [(.int p3), (.double (FP.i2d p3))]))
    refine own_step (fun t k => XS.i2dS X90.here hx rfl (hb hby at_200) rfl rfl k) ?_
    show own_Goes p e below _ (T90.setTop (mkF m 201 #[.val (.int p0), .val (.int p1), .val (.int p2), .val (.int p3), .val (.int p4), .val (.int p5), .val (.ref b51), .val (.ref b54), .val (.ref b54), .val (.int (1 : Int32)), .unset] [(.double (FP.i2d p3)), (.double (FP.i2d p3))]))
    refine own_step (fun t k => XS.dcmpS X90.here hx rfl (hb hby at_201) rfl (dcmpV_self (Jvm.Free.Fl.i2d_fin _).noNaN _) k) ?_
    show own_Goes p e below _ (T90.setTop (mkF m 202 #[.val (.int p0), .val (.int p1), .val (.int p2), .val (.int p3), .val (.int p4), .val (.int p5), .val (.ref b51), .val (.ref b54), .val (.ref b54), .val (.int (1 : Int32)), .unset] [(.int (0 : Int32))]))
    have hc91 : (0 : Int32) = (0 : Int32) := rfl
    refine own_step (fun t k => XS.ifNo X90.here hx rfl (hb hby at_202) rfl ((if0 _ _).trans (teq hc91).2) k) ?_
    show own_Goes p e below _ (T90.setTop (mkF m 205 #[.val (.int p0), .val (.int p1), .val (.int p2), .val (.int p3), .val (.int p4), .val (.int p5), .val (.ref b51), .val (.ref b54), .val (.ref b54), .val (.int (1 : Int32)), .unset] []))
    refine own_step (fun t k => XS.iconst X90.here hx rfl (hb hby at_205) k) ?_
    show own_Goes p e below _ (T90.setTop (mkF m 206 #[.val (.int p0), .val (.int p1), .val (.int p2), .val (.int p3), .val (.int p4), .val (.int p5), .val (.ref b51), .val (.ref b54), .val (.ref b54), .val (.int (1 : Int32)), .unset] [(.int (1 : Int32))]))
    refine own_step (fun t k => XS.goto X90.here hx rfl (pc0 := 206) (pc' := 210) rfl (hb hby at_206) (by decide) (by decide) k) ?_
    show own_Goes p e below _ (T90.setTop (mkF m 210 #[.val (.int p0), .val (.int p1), .val (.int p2), .val (.int p3), .val (.int p4), .val (.int p5), .val (.ref b51), .val (.ref b54), .val (.ref b54), .val (.int (1 : Int32)), .unset] [(.int (1 : Int32))]))
    refine own_step (fun t k => XS.istore X90.here hx rfl (hb hby at_210) rfl (l' := #[.val (.int p0), .val (.int p1), .val (.int p2), .val (.int p3), .val (.int p4), .val (.int p5), .val (.ref b51), .val (.ref b54), .val (.ref b54), .val (.int (1 : Int32)), .val (.int (1 : Int32))]) rfl k) ?_
    show own_Goes p e below _ (T90.setTop (mkF m 212 #[.val (.int p0), .val (.int p1), .val (.int p2), .val (.int p3), .val (.int p4), .val (.int p5), .val (.ref b51), .val (.ref b54), .val (.ref b54), .val (.int (1 : Int32)), .val (.int (1 : Int32))] []))
    refine own_step (fun t k => XS.iload X90.here hx rfl (hb hby at_212) rfl k) ?_
    show own_Goes p e below _ (T90.setTop (mkF m 214 #[.val (.int p0), .val (.int p1), .val (.int p2), .val (.int p3), .val (.int p4), .val (.int p5), .val (.ref b51), .val (.ref b54), .val (.ref b54), .val (.int (1 : Int32)), .val (.int (1 : Int32))] [(.int (1 : Int32))]))
    have hc92 : ¬ ((1 : Int32) = (0 : Int32)) := by decide
    refine own_step (fun t k => XS.ifNo X90.here hx rfl (hb hby at_214) rfl ((if0 _ _).trans (feq hc92).1) k) ?_
    show own_Goes p e below _ (T90.setTop (mkF m 217 #[.val (.int p0), .val (.int p1), .val (.int p2), .val (.int p3), .val (.int p4), .val (.int p5), .val (.ref b51), .val (.ref b54), .val (.ref b54), .val (.int (1 : Int32)), .val (.int (1 : Int32))] []))
    refine own_step (fun t k => XS.iload X90.here hx rfl (hb hby at_217) rfl k) ?_
    show own_Goes p e below _ (T90.setTop (mkF m 219 #[.val (.int p0), .val (.int p1), .val (.int p2), .val (.int p3), .val (.int p4), .val (.int p5), .val (.ref b51), .val (.ref b54), .val (.ref b54), .val (.int (1 : Int32)), .val (.int (1 : Int32))] [(.int (1 : Int32))]))
    have hc93 : ¬ ((1 : Int32) = (0 : Int32)) := by decide
    refine own_step (fun t k => XS.ifNo X90.here hx rfl (hb hby at_219) rfl ((if0 _ _).trans (feq hc93).1) k) ?_
    show own_Goes p e below _ (T90.setTop (mkF m 222 #[.val (.int p0), .val (.int p1), .val (.int p2), .val (.int p3), .val (.int p4), .val (.int p5), .val (.ref b51), .val (.ref b54), .val (.ref b54), .val (.int (1 : Int32)), .val (.int (1 : Int32))] []))
    refine own_step (fun t k => XS.iconst X90.here hx rfl (hb hby at_222) k) ?_
    show own_Goes p e below _ (T90.setTop (mkF m 223 #[.val (.int p0), .val (.int p1), .val (.int p2), .val (.int p3), .val (.int p4), .val (.int p5), .val (.ref b51), .val (.ref b54), .val (.ref b54), .val (.int (1 : Int32)), .val (.int (1 : Int32))] [(.int (1 : Int32))]))
    refine own_step (fun t k => XS.goto X90.here hx rfl (pc0 := 223) (pc' := 227) rfl (hb hby at_223) (by decide) (by decide) k) ?_
    show own_Goes p e below _ (T90.setTop (mkF m 227 #[.val (.int p0), .val (.int p1), .val (.int p2), .val (.int p3), .val (.int p4), .val (.int p5), .val (.ref b51), .val (.ref b54), .val (.ref b54), .val (.int (1 : Int32)), .val (.int (1 : Int32))] [(.int (1 : Int32))]))
    refine own_retL X90 hx hlk Bd.returns (hb hby at_227) (?_ : (1 : Int32) = 1) N74 (by decide) (by decide)
    exact rfl
  · --
    refine own_step (fun t k => XS.ifNo X71.here hx rfl (hb hby at_96) rfl ((if0 _ _).trans (feq hc73).1) k) ?_
    show own_Goes p e below _ (T71.setTop (mkF m 99 #[.val (.int p0), .val (.int p1), .val (.int p2), .val (.int p3), .val (.int p4), .val (.int p5), .val (.ref b51), .val (.ref b54), .val (.ref b54), .unset, .unset] []))
    refine own_step (fun t k => XS.aload X71.here hx rfl (hb hby at_99) rfl rfl k) ?_
    show own_Goes p e below _ (T71.setTop (mkF m 101 #[.val (.int p0), .val (.int p1), .val (.int p2), .val (.int p3), .val (.int p4), .val (.int p5), .val (.ref b51), .val (.ref b54), .val (.ref b54), .unset, .unset] [(.ref b51)]))
    refine own_step (fun t k => XS.astore X71.here hx rfl (hb hby at_101) rfl rfl (l' := #[.val (.int p0), .val (.int p1), .val (.int p2), .val (.int p3), .val (.int p4), .val (.int p5), .val (.ref b51), .val (.ref b54), .val (.ref b51), .unset, .unset]) rfl k) ?_
    show own_Goes p e below _ (T71.setTop (mkF m 103 #[.val (.int p0), .val (.int p1), .val (.int p2), .val (.int p3), .val (.int p4), .val (.int p5), .val (.ref b51), .val (.ref b54), .val (.ref b51), .unset, .unset] []))
    refine own_step (fun t k => XS.aload X71.here hx rfl (hb hby at_103) rfl rfl k) ?_
    show own_Goes p e below _ (T71.setTop (mkF m 105 #[.val (.int p0), .val (.int p1), .val (.int p2), .val (.int p3), .val (.int p4), .val (.int p5), .val (.ref b51), .val (.ref b54), .val (.ref b51), .unset, .unset] [(.ref b51)]))
    refine own_step (fun t k => XS.aload X71.here hx rfl (hb hby at_105) rfl rfl k) ?_
    show own_Goes p e below _ (T71.setTop (mkF m 107 #[.val (.int p0), .val (.int p1), .val (.int p2), .val (.int p3), .val (.int p4), .val (.int p5), .val (.ref b51), .val (.ref b54), .val (.ref b51), .unset, .unset] [(.ref b51), (.ref b51)]))
    obtain ⟨cq94, kq94, q94a, q94b, q94c⟩ := isOf hZ e71 (((((((((A51.ext E54).wr W57).wr W59).wr W61).wr W63).wr W65).wr W67).wr W69).wr W71)
    obtain ⟨_, _, ⟨T94, L94, k94, n94⟩, -, X94, ⟨Lc94, hQ94, l94, y94, z94⟩, st94⟩ := X71.virtualBack hx (y := (⟨"com/example/waysmith/waysmith/solver/Stretch", "set", "(Lcom/example/waysmith/waysmith/solver/Stretch;)V"⟩ : MethodName)) (z := (⟨"com/example/waysmith/waysmith/solver/Stretch", "set", "(Lcom/example/waysmith/waysmith/solver/Stretch;)V"⟩ : MethodName)) hown (mvT hZ w19) (mvT hZ w20) (notFace_of_selects (args := #[]) (mvT hZ w22)) (mvT hZ w22) (mvT hZ w21) (by decide) (backOf (W := 0) (own_b3 l Z a0 hw [] b51 ((FP.i2d p0)) ((FP.i2d p1)) ((FP.i2d p2)) ((FP.i2d p3)) h71 n0 (Nat.le_trans (Nat.le_trans (Nat.le_trans (Nat.le_trans (Nat.le_trans (Nat.le_trans (Nat.le_trans (Nat.le_trans (Nat.le_trans (Nat.le_trans Z0 E51.1) E54.1) (Keep.of_wr W57).1) (Keep.of_wr W59).1) (Keep.of_wr W61).1) (Keep.of_wr W63).1) (Keep.of_wr W65).1) (Keep.of_wr W67).1) (Keep.of_wr W69).1) (Keep.of_wr W71).1) (((((((((A51.ext E54).wr W57).wr W59).wr W61).wr W63).wr W65).wr W67).wr W69).wr W71) g_b51 (((((((Fw57.other W59 (Or.inr (slot_ne (Or.inl w10) (Or.inl w12) (by decide) (t := .double) (t' := .double) (by decide) (by decide)))).other W61 (Or.inr (slot_ne (Or.inl w10) (Or.inl w14) (by decide) (t := .double) (t' := .double) (by decide) (by decide)))).other W63 (Or.inr (slot_ne (Or.inl w10) (Or.inl w16) (by decide) (t := .double) (t' := .double) (by decide) (by decide)))).other W65 (Or.inl ne_b51_b54)).other W67 (Or.inl ne_b51_b54)).other W69 (Or.inl ne_b51_b54)).other W71 (Or.inl ne_b51_b54)) ((((((Fw59.other W61 (Or.inr (slot_ne (Or.inl w12) (Or.inl w14) (by decide) (t := .double) (t' := .double) (by decide) (by decide)))).other W63 (Or.inr (slot_ne (Or.inl w12) (Or.inl w16) (by decide) (t := .double) (t' := .double) (by decide) (by decide)))).other W65 (Or.inl ne_b51_b54)).other W67 (Or.inl ne_b51_b54)).other W69 (Or.inl ne_b51_b54)).other W71 (Or.inl ne_b51_b54)) (((((Fw61.other W63 (Or.inr (slot_ne (Or.inl w14) (Or.inl w16) (by decide) (t := .double) (t' := .double) (by decide) (by decide)))).other W65 (Or.inl ne_b51_b54)).other W67 (Or.inl ne_b51_b54)).other W69 (Or.inl ne_b51_b54)).other W71 (Or.inl ne_b51_b54)) ((((Fw63.other W65 (Or.inl ne_b51_b54)).other W67 (Or.inl ne_b51_b54)).other W69 (Or.inl ne_b51_b54)).other W71 (Or.inl ne_b51_b54))) hZ w23 w2 (by decide) (by decide)) q94a q94c (g := (mkF m 107 #[.val (.int p0), .val (.int p1), .val (.int p2), .val (.int p3), .val (.int p4), .val (.int p5), .val (.ref b51), .val (.ref b54), .val (.ref b51), .unset, .unset] [(.ref b51), (.ref b51)])) rfl (by rw [hml]; rfl) (Steps.refl _) (argsL := [(.ref b51)]) (rest := []) (lenOf own_pd1 rfl) rfl (by show 2 * 0 + _ ≤ _; exact Nat.le_of_eq rfl) (hb hby at_107) (fun _ _ => ⟨rfl, e71, (by decide : 2 + 0 ≤ _), (by decide : 8 + 0 ≤ _)⟩)
    dsimp only [Pt.U, Pt.locs, Pt.cells, Pt.slots] at X94 l94 y94 z94 st94 hQ94
    subst l94 y94 z94
    obtain ⟨rfl, N94q, K94c, f94_0, f94_1, f94_2, f94_3, f94_4⟩ := hQ94
    have N94 := Fr.app N71 N94q
    refine own_jump st94 ?_
    have K95 : Keep h0 T94.heap [] := K72.trans K94c (allS (Or.inr sz_b51) all0)
    show own_Goes p e below _ (T94.setTop (mkF m 110 #[.val (.int p0), .val (.int p1), .val (.int p2), .val (.int p3), .val (.int p4), .val (.int p5), .val (.ref b51), .val (.ref b54), .val (.ref b51), .unset, .unset] []))
    refine own_step (fun t k => XS.aload X94.here hx rfl (hb hby at_110) rfl rfl k) ?_
    show own_Goes p e below _ (T94.setTop (mkF m 112 #[.val (.int p0), .val (.int p1), .val (.int p2), .val (.int p3), .val (.int p4), .val (.int p5), .val (.ref b51), .val (.ref b54), .val (.ref b51), .unset, .unset] [(.ref b51)]))
    obtain ⟨T96, X96, e96, st96⟩ := getF X94 hx hZ hown (host := "") (Or.inl w9) Via.refl rfl f94_1 (g := (mkF m 112 #[.val (.int p0), .val (.int p1), .val (.int p2), .val (.int p3), .val (.int p4), .val (.int p5), .val (.ref b51), .val (.ref b54), .val (.ref b51), .unset, .unset] [(.ref b51)])) rfl rfl (hb hby at_112)
    refine own_step st96 ?_
    show own_Goes p e below _ (T96.setTop (mkF m 115 #[.val (.int p0), .val (.int p1), .val (.int p2), .val (.int p3), .val (.int p4), .val (.int p5), .val (.ref b51), .val (.ref b54), .val (.ref b51), .unset, .unset] [(.double (FP.i2d p0))]))
    refine own_step (fun t k => XS.iloadN X96.here hx rfl (hb hby at_115) rfl k) ?_
    show own_Goes p e below _ (T96.setTop (mkF m 116 #[.val (.int p0), .val (.int p1), .val (.int p2), .val (.int p3), .val (.int p4), .val (.int p5), .val (.ref b51), .val (.ref b54), .val (.ref b51), .unset, .unset] [(.int p0), (.double (FP.i2d p0))]))
    refine own_step (fun t k => XS.i2dS X96.here hx rfl (hb hby at_116) rfl rfl k) ?_
    show own_Goes p e below _ (T96.setTop (mkF m 117 #[.val (.int p0), .val (.int p1), .val (.int p2), .val (.int p3), .val (.int p4), .val (.int p5), .val (.ref b51), .val (.ref b54), .val (.ref b51), .unset, .unset] [(.double (FP.i2d p0)), (.double (FP.i2d p0))]))
    refine own_step (fun t k => XS.dcmpS X96.here hx rfl (hb hby at_117) rfl (dcmpV_self (Jvm.Free.Fl.i2d_fin _).noNaN _) k) ?_
    show own_Goes p e below _ (T96.setTop (mkF m 118 #[.val (.int p0), .val (.int p1), .val (.int p2), .val (.int p3), .val (.int p4), .val (.int p5), .val (.ref b51), .val (.ref b54), .val (.ref b51), .unset, .unset] [(.int (0 : Int32))]))
    have hc97 : (0 : Int32) = (0 : Int32) := rfl
    refine own_step (fun t k => XS.ifNo X96.here hx rfl (hb hby at_118) rfl ((if0 _ _).trans (teq hc97).2) k) ?_
    show own_Goes p e below _ (T96.setTop (mkF m 121 #[.val (.int p0), .val (.int p1), .val (.int p2), .val (.int p3), .val (.int p4), .val (.int p5), .val (.ref b51), .val (.ref b54), .val (.ref b51), .unset, .unset] []))
    refine own_step (fun t k => XS.aload X96.here hx rfl (hb hby at_121) rfl rfl k) ?_
    show own_Goes p e below _ (T96.setTop (mkF m 123 #[.val (.int p0), .val (.int p1), .val (.int p2), .val (.int p3), .val (.int p4), .val (.int p5), .val (.ref b51), .val (.ref b54), .val (.ref b51), .unset, .unset] [(.ref b51)]))
    obtain ⟨T98, X98, e98, st98⟩ := getF X96 hx hZ hown (host := "") (Or.inl w11) Via.refl e96 f94_2 (g := (mkF m 123 #[.val (.int p0), .val (.int p1), .val (.int p2), .val (.int p3), .val (.int p4), .val (.int p5), .val (.ref b51), .val (.ref b54), .val (.ref b51), .unset, .unset] [(.ref b51)])) rfl rfl (hb hby at_123)
    refine own_step st98 ?_
    show own_Goes p e below _ (T98.setTop (mkF m 126 #[.val (.int p0), .val (.int p1), .val (.int p2), .val (.int p3), .val (.int p4), .val (.int p5), .val (.ref b51), .val (.ref b54), .val (.ref b51), .unset, .unset] [(.double (FP.i2d p1))]))
    refine own_step (fun t k => XS.iloadN X98.here hx rfl (hb hby at_126) rfl k) ?_
    show own_Goes p e below _ (T98.setTop (mkF m 127 #[.val (.int p0), .val (.int p1), .val (.int p2), .val (.int p3), .val (.int p4), .val (.int p5), .val (.ref b51), .val (.ref b54), .val (.ref b51), .unset, .unset] [(.int p1), (.double (FP.i2d p1))]))
    refine own_step (fun t k => XS.i2dS X98.here hx rfl (hb hby at_127) rfl rfl k) ?_
    show own_Goes p e below _ (T98.setTop (mkF m 128 #[.val (.int p0), .val (.int p1), .val (.int p2), .val (.int p3), .val (.int p4), .val (.int p5), .val (.ref b51), .val (.ref b54), .val (.ref b51), .unset, .unset] [(.double (FP.i2d p1)), (.double (FP.i2d p1))]))
    refine own_step (fun t k => XS.dcmpS X98.here hx rfl (hb hby at_128) rfl (dcmpV_self (Jvm.Free.Fl.i2d_fin _).noNaN _) k) ?_
    show own_Goes p e below _ (T98.setTop (mkF m 129 #[.val (.int p0), .val (.int p1), .val (.int p2), .val (.int p3), .val (.int p4), .val (.int p5), .val (.ref b51), .val (.ref b54), .val (.ref b51), .unset, .unset] [(.int (0 : Int32))]))
    have hc99 : (0 : Int32) = (0 : Int32) := rfl
    refine own_step (fun t k => XS.ifNo X98.here hx rfl (hb hby at_129) rfl ((if0 _ _).trans (teq hc99).2) k) ?_
    show own_Goes p e below _ (T98.setTop (mkF m 132 #[.val (.int p0), .val (.int p1), .val (.int p2), .val (.int p3), .val (.int p4), .val (.int p5), .val (.ref b51), .val (.ref b54), .val (.ref b51), .unset, .unset] []))
    refine own_step (fun t k => XS.aload X98.here hx rfl (hb hby at_132) rfl rfl k) ?_
    show own_Goes p e below _ (T98.setTop (mkF m 134 #[.val (.int p0), .val (.int p1), .val (.int p2), .val (.int p3), .val (.int p4), .val (.int p5), .val (.ref b51), .val (.ref b54), .val (.ref b51), .unset, .unset] [(.ref b51)]))
    obtain ⟨T100, X100, e100, st100⟩ := getF X98 hx hZ hown (host := "") (Or.inl w13) Via.refl e98 f94_3 (g := (mkF m 134 #[.val (.int p0), .val (.int p1), .val (.int p2), .val (.int p3), .val (.int p4), .val (.int p5), .val (.ref b51), .val (.ref b54), .val (.ref b51), .unset, .unset] [(.ref b51)])) rfl rfl (hb hby at_134)
    refine own_step st100 ?_
    show own_Goes p e below _ (T100.setTop (mkF m 137 #[.val (.int p0), .val (.int p1), .val (.int p2), .val (.int p3), .val (.int p4), .val (.int p5), .val (.ref b51), .val (.ref b54), .val (.ref b51), .unset, .unset] [(.double (FP.i2d p2))]))
    refine own_step (fun t k => XS.iloadN X100.here hx rfl (hb hby at_137) rfl k) ?_
    show own_Goes p e below _ (T100.setTop (mkF m 138 #[.val (.int p0), .val (.int p1), .val (.int p2), .val (.int p3), .val (.int p4), .val (.int p5), .val (.ref b51), .val (.ref b54), .val (.ref b51), .unset, .unset] [(.int p2), (.double (FP.i2d p2))]))
    refine own_step (fun t k => XS.i2dS X100.here hx rfl (hb hby at_138) rfl rfl k) ?_
    show own_Goes p e below _ (T100.setTop (mkF m 139 #[.val (.int p0), .val (.int p1), .val (.int p2), .val (.int p3), .val (.int p4), .val (.int p5), .val (.ref b51), .val (.ref b54), .val (.ref b51), .unset, .unset] [(.double (FP.i2d p2)), (.double (FP.i2d p2))]))
    refine own_step (fun t k => XS.dcmpS X100.here hx rfl (hb hby at_139) rfl (dcmpV_self (Jvm.Free.Fl.i2d_fin _).noNaN _) k) ?_
    show own_Goes p e below _ (T100.setTop (mkF m 140 #[.val (.int p0), .val (.int p1), .val (.int p2), .val (.int p3), .val (.int p4), .val (.int p5), .val (.ref b51), .val (.ref b54), .val (.ref b51), .unset, .unset] [(.int (0 : Int32))]))
    have hc101 : (0 : Int32) = (0 : Int32) := rfl
    refine own_step (fun t k => XS.ifNo X100.here hx rfl (hb hby at_140) rfl ((if0 _ _).trans (teq hc101).2) k) ?_
    show own_Goes p e below _ (T100.setTop (mkF m 143 #[.val (.int p0), .val (.int p1), .val (.int p2), .val (.int p3), .val (.int p4), .val (.int p5), .val (.ref b51), .val (.ref b54), .val (.ref b51), .unset, .unset] []))
    refine own_step (fun t k => XS.aload X100.here hx rfl (hb hby at_143) rfl rfl k) ?_
    show own_Goes p e below _ (T100.setTop (mkF m 145 #[.val (.int p0), .val (.int p1), .val (.int p2), .val (.int p3), .val (.int p4), .val (.int p5), .val (.ref b51), .val (.ref b54), .val (.ref b51), .unset, .unset] [(.ref b51)]))
    obtain ⟨T102, X102, e102, st102⟩ := getF X100 hx hZ hown (host := "") (Or.inl w15) Via.refl e100 f94_4 (g := (mkF m 145 #[.val (.int p0), .val (.int p1), .val (.int p2), .val (.int p3), .val (.int p4), .val (.int p5), .val (.ref b51), .val (.ref b54), .val (.ref b51), .unset, .unset] [(.ref b51)])) rfl rfl (hb hby at_145)
    refine own_step st102 ?_
    show own_Goes p e below _ (T102.setTop (mkF m 148 #[.val (.int p0), .val (.int p1), .val (.int p2), .val (.int p3), .val (.int p4), .val (.int p5), .val (.ref b51), .val (.ref b54), .val (.ref b51), .unset, .unset] [(.double (FP.i2d p3))]))
    refine own_step (fun t k => XS.iloadN X102.here hx rfl (hb hby at_148) rfl k) ?_
    show own_Goes p e below _ (T102.setTop (mkF m 149 #[.val (.int p0), .val (.int p1), .val (.int p2), .val (.int p3), .val (.int p4), .val (.int p5), .val (.ref b51), .val (.ref b54), .val (.ref b51), .unset, .unset] [(.int p3), (.double (FP.i2d p3))]))
    refine own_step (fun t k => XS.i2dS X102.here hx rfl (hb hby at_149) rfl rfl k) ?_
    show own_Goes p e below _ (T102.setTop (mkF m 150 #[.val (.int p0), .val (.int p1), .val (.int p2), .val (.int p3), .val (.int p4), .val (.int p5), .val (.ref b51), .val (.ref b54), .val (.ref b51), .unset, .unset] [(.double (FP.i2d p3)), (.double (FP.i2d p3))]))
    refine own_step (fun t k => XS.dcmpS X102.here hx rfl (hb hby at_150) rfl (dcmpV_self (Jvm.Free.Fl.i2d_fin _).noNaN _) k) ?_
    show own_Goes p e below _ (T102.setTop (mkF m 151 #[.val (.int p0), .val (.int p1), .val (.int p2), .val (.int p3), .val (.int p4), .val (.int p5), .val (.ref b51), .val (.ref b54), .val (.ref b51), .unset, .unset] [(.int (0 : Int32))]))
    have hc103 : (0 : Int32) = (0 : Int32) := rfl
    refine own_step (fun t k => XS.ifNo X102.here hx rfl (hb hby at_151) rfl ((if0 _ _).trans (teq hc103).2) k) ?_
    show own_Goes p e below _ (T102.setTop (mkF m 154 #[.val (.int p0), .val (.int p1), .val (.int p2), .val (.int p3), .val (.int p4), .val (.int p5), .val (.ref b51), .val (.ref b54), .val (.ref b51), .unset, .unset] []))
    refine own_step (fun t k => XS.iconst X102.here hx rfl (hb hby at_154) k) ?_
    show own_Goes p e below _ (T102.setTop (mkF m 155 #[.val (.int p0), .val (.int p1), .val (.int p2), .val (.int p3), .val (.int p4), .val (.int p5), .val (.ref b51), .val (.ref b54), .val (.ref b51), .unset, .unset] [(.int (1 : Int32))]))
    refine own_step (fun t k => XS.goto X102.here hx rfl (pc0 := 155) (pc' := 159) rfl (hb hby at_155) (by decide) (by decide) k) ?_
    show own_Goes p e below _ (T102.setTop (mkF m 159 #[.val (.int p0), .val (.int p1), .val (.int p2), .val (.int p3), .val (.int p4), .val (.int p5), .val (.ref b51), .val (.ref b54), .val (.ref b51), .unset, .unset] [(.int (1 : Int32))]))
    refine own_step (fun t k => XS.istore X102.here hx rfl (hb hby at_159) rfl (l' := #[.val (.int p0), .val (.int p1), .val (.int p2), .val (.int p3), .val (.int p4), .val (.int p5), .val (.ref b51), .val (.ref b54), .val (.ref b51), .val (.int (1 : Int32)), .unset]) rfl k) ?_
    show own_Goes p e below _ (T102.setTop (mkF m 161 #[.val (.int p0), .val (.int p1), .val (.int p2), .val (.int p3), .val (.int p4), .val (.int p5), .val (.ref b51), .val (.ref b54), .val (.ref b51), .val (.int (1 : Int32)), .unset] []))
    refine own_step (fun t k => XS.aload X102.here hx rfl (hb hby at_161) rfl rfl k) ?_
    show own_Goes p e below _ (T102.setTop (mkF m 163 #[.val (.int p0), .val (.int p1), .val (.int p2), .val (.int p3), .val (.int p4), .val (.int p5), .val (.ref b51), .val (.ref b54), .val (.ref b51), .val (.int (1 : Int32)), .unset] [(.ref b51)]))
    obtain ⟨T104, X104, e104, st104⟩ := getF X102 hx hZ hown (host := "") (Or.inl w9) Via.refl e102 f94_1 (g := (mkF m 163 #[.val (.int p0), .val (.int p1), .val (.int p2), .val (.int p3), .val (.int p4), .val (.int p5), .val (.ref b51), .val (.ref b54), .val (.ref b51), .val (.int (1 : Int32)), .unset] [(.ref b51)])) rfl rfl (hb hby at_163)
    refine own_step st104 ?_
    show own_Goes p e below _ (T104.setTop (mkF m 166 #[.val (.int p0), .val (.int p1), .val (.int p2), .val (.int p3), .val (.int p4), .val (.int p5), .val (.ref b51), .val (.ref b54), .val (.ref b51), .val (.int (1 : Int32)), .unset] [(.double (FP.i2d p0))]))
    refine own_step (fun t k => XS.iloadN X104.here hx rfl (hb hby at_166) rfl k) ?_
    show own_Goes p e below _ (T104.setTop (mkF m 167 #[.val (.int p0), .val (.int p1), .val (.int p2), .val (.int p3), .val (.int p4), .val (.int p5), .val (.ref b51), .val (.ref b54), .val (.ref b51), .val (.int (1 : Int32)), .unset] [(.int p0), (.double (FP.i2d p0))]))
    refine own_step (fun t k => XS.i2dS X104.here hx rfl (hb hby at_167) rfl rfl k) ?_
    show own_Goes p e below _ (T104.setTop (mkF m 168 #[.val (.int p0), .val (.int p1), .val (.int p2), .val (.int p3), .val (.int p4), .val (.int p5), .val (.ref b51), .val (.ref b54), .val (.ref b51), .val (.int (1 : Int32)), .unset] [(.double (FP.i2d p0)), (.double (FP.i2d p0))]))
    refine own_step (fun t k => XS.dcmpS X104.here hx rfl (hb hby at_168) rfl (dcmpV_self (Jvm.Free.Fl.i2d_fin _).noNaN _) k) ?_
    show own_Goes p e below _ (T104.setTop (mkF m 169 #[.val (.int p0), .val (.int p1), .val (.int p2), .val (.int p3), .val (.int p4), .val (.int p5), .val (.ref b51), .val (.ref b54), .val (.ref b51), .val (.int (1 : Int32)), .unset] [(.int (0 : Int32))]))
    have hc105 : (0 : Int32) = (0 : Int32) := rfl
    refine own_step (fun t k => XS.ifNo X104.here hx rfl (hb hby at_169) rfl ((if0 _ _).trans (teq hc105).2) k) ?_
    show own_Goes p e below _ (T104.setTop (mkF m 172 #[.val (.int p0), .val (.int p1), .val (.int p2), .val (.int p3), .val (.int p4), .val (.int p5), .val (.ref b51), .val (.ref b54), .val (.ref b51), .val (.int (1 : Int32)), .unset] []))
    refine own_step (fun t k => XS.aload X104.here hx rfl (hb hby at_172) rfl rfl k) ?_
    show own_Goes p e below _ (T104.setTop (mkF m 174 #[.val (.int p0), .val (.int p1), .val (.int p2), .val (.int p3), .val (.int p4), .val (.int p5), .val (.ref b51), .val (.ref b54), .val (.ref b51), .val (.int (1 : Int32)), .unset] [(.ref b51)]))
    obtain ⟨T106, X106, e106, st106⟩ := getF X104 hx hZ hown (host := "") (Or.inl w11) Via.refl e104 f94_2 (g := (mkF m 174 #[.val (.int p0), .val (.int p1), .val (.int p2), .val (.int p3), .val (.int p4), .val (.int p5), .val (.ref b51), .val (.ref b54), .val (.ref b51), .val (.int (1 : Int32)), .unset] [(.ref b51)])) rfl rfl (hb hby at_174)
    refine own_step st106 ?_
    show own_Goes p e below _ (T106.setTop (mkF m 177 #[.val (.int p0), .val (.int p1), .val (.int p2), .val (.int p3), .val (.int p4), .val (.int p5), .val (.ref b51), .val (.ref b54), .val (.ref b51), .val (.int (1 : Int32)), .unset] [(.double (FP.i2d p1))]))
    refine own_step (fun t k => XS.iloadN X106.here hx rfl (hb hby at_177) rfl k) ?_
    show own_Goes p e below _ (T106.setTop (mkF m 178 #[.val (.int p0), .val (.int p1), .val (.int p2), .val (.int p3), .val (.int p4), .val (.int p5), .val (.ref b51), .val (.ref b54), .val (.ref b51), .val (.int (1 : Int32)), .unset] [(.int p1), (.double (FP.i2d p1))]))
    refine own_step (fun t k => XS.i2dS X106.here hx rfl (hb hby at_178) rfl rfl k) ?_
    show own_Goes p e below _ (T106.setTop (mkF m 179 #[.val (.int p0), .val (.int p1), .val (.int p2), .val (.int p3), .val (.int p4), .val (.int p5), .val (.ref b51), .val (.ref b54), .val (.ref b51), .val (.int (1 : Int32)), .unset] [(.double (FP.i2d p1)), (.double (FP.i2d p1))]))
    refine own_step (fun t k => XS.dcmpS X106.here hx rfl (hb hby at_179) rfl (dcmpV_self (Jvm.Free.Fl.i2d_fin _).noNaN _) k) ?_
    show own_Goes p e below _ (T106.setTop (mkF m 180 #[.val (.int p0), .val (.int p1), .val (.int p2), .val (.int p3), .val (.int p4), .val (.int p5), .val (.ref b51), .val (.ref b54), .val (.ref b51), .val (.int (1 : Int32)), .unset] [(.int (0 : Int32))]))
    have hc107 : (0 : Int32) = (0 : Int32) := rfl
    refine own_step (fun t k => XS.ifNo X106.here hx rfl (hb hby at_180) rfl ((if0 _ _).trans (teq hc107).2) k) ?_
    show own_Goes p e below _ (T106.setTop (mkF m 183 #[.val (.int p0), .val (.int p1), .val (.int p2), .val (.int p3), .val (.int p4), .val (.int p5), .val (.ref b51), .val (.ref b54), .val (.ref b51), .val (.int (1 : Int32)), .unset] []))
    refine own_step (fun t k => XS.aload X106.here hx rfl (hb hby at_183) rfl rfl k) ?_
    show own_Goes p e below _ (T106.setTop (mkF m 185 #[.val (.int p0), .val (.int p1), .val (.int p2), .val (.int p3), .val (.int p4), .val (.int p5), .val (.ref b51), .val (.ref b54), .val (.ref b51), .val (.int (1 : Int32)), .unset] [(.ref b51)]))
    obtain ⟨T108, X108, e108, st108⟩ := getF X106 hx hZ hown (host := "") (Or.inl w13) Via.refl e106 f94_3 (g := (mkF m 185 #[.val (.int p0), .val (.int p1), .val (.int p2), .val (.int p3), .val (.int p4), .val (.int p5), .val (.ref b51), .val (.ref b54), .val (.ref b51), .val (.int (1 : Int32)), .unset] [(.ref b51)])) rfl rfl (hb hby at_185)
    refine own_step st108 ?_
    show own_Goes p e below _ (T108.setTop (mkF m 188 #[.val (.int p0), .val (.int p1), .val (.int p2), .val (.int p3), .val (.int p4), .val (.int p5), .val (.ref b51), .val (.ref b54), .val (.ref b51), .val (.int (1 : Int32)), .unset] [(.double (FP.i2d p2))]))
    refine own_step (fun t k => XS.iloadN X108.here hx rfl (hb hby at_188) rfl k) ?_
    show own_Goes p e below _ (T108.setTop (mkF m 189 #[.val (.int p0), .val (.int p1), .val (.int p2), .val (.int p3), .val (.int p4), .val (.int p5), .val (.ref b51), .val (.ref b54), .val (.ref b51), .val (.int (1 : Int32)), .unset] [(.int p2), (.double (FP.i2d p2))]))
    refine own_step (fun t k => XS.i2dS X108.here hx rfl (hb hby at_189) rfl rfl k) ?_
    show own_Goes p e below _ (T108.setTop (mkF m 190 #[.val (.int p0), .val (.int p1), .val (.int p2), .val (.int p3), .val (.int p4), .val (.int p5), .val (.ref b51), .val (.ref b54), .val (.ref b51), .val (.int (1 : Int32)), .unset] [(.double (FP.i2d p2)), (.double (FP.i2d p2))]))
    refine own_step (fun t k => XS.dcmpS X108.here hx rfl (hb hby at_190) rfl (dcmpV_self (Jvm.Free.Fl.i2d_fin _).noNaN _) k) ?_
    show own_Goes p e below _ (T108.setTop (mkF m 191 #[.val (.int p0), .val (.int p1), .val (.int p2), .val (.int p3), .val (.int p4), .val (.int p5), .val (.ref b51), .val (.ref b54), .val (.ref b51), .val (.int (1 : Int32)), .unset] [(.int (0 : Int32))]))
    have hc109 : (0 : Int32) = (0 : Int32) := rfl
    refine own_step (fun t k => XS.ifNo X108.here hx rfl (hb hby at_191) rfl ((if0 _ _).trans (teq hc109).2) k) ?_
    show own_Goes p e below _ (T108.setTop (mkF m 194 #[.val (.int p0), .val (.int p1), .val (.int p2), .val (.int p3), .val (.int p4), .val (.int p5), .val (.ref b51), .val (.ref b54), .val (.ref b51), .val (.int (1 : Int32)), .unset] []))
    refine own_step (fun t k => XS.aload X108.here hx rfl (hb hby at_194) rfl rfl k) ?_
    show own_Goes p e below _ (T108.setTop (mkF m 196 #[.val (.int p0), .val (.int p1), .val (.int p2), .val (.int p3), .val (.int p4), .val (.int p5), .val (.ref b51), .val (.ref b54), .val (.ref b51), .val (.int (1 : Int32)), .unset] [(.ref b51)]))
    obtain ⟨T110, X110, e110, st110⟩ := getF X108 hx hZ hown (host := "") (Or.inl w15) Via.refl e108 f94_4 (g := (mkF m 196 #[.val (.int p0), .val (.int p1), .val (.int p2), .val (.int p3), .val (.int p4), .val (.int p5), .val (.ref b51), .val (.ref b54), .val (.ref b51), .val (.int (1 : Int32)), .unset] [(.ref b51)])) rfl rfl (hb hby at_196)
    refine own_step st110 ?_
    show own_Goes p e below _ (T110.setTop (mkF m 199 #[.val (.int p0), .val (.int p1), .val (.int p2), .val (.int p3), .val (.int p4), .val (.int p5), .val (.ref b51), .val (.ref b54), .val (.ref b51), .val (.int (1 : Int32)), .unset] [(.double (FP.i2d p3))]))
    refine own_step (fun t k => XS.iloadN X110.here hx rfl (hb hby at_199) rfl k) ?_
    show own_Goes p e below _ (T110.setTop (mkF m 200 #[.val (.int p0), .val (.int p1), .val (.int p2), .val (.int p3), .val (.int p4), .val (.int p5), .val (.ref b51), .val (.ref b54), .val (.ref b51), .val (.int (1 : Int32)), .unset] [(.int p3), (.double (FP.i2d p3))]))
    refine own_step (fun t k => XS.i2dS X110.here hx rfl (hb hby at_200) rfl rfl k) ?_
    show own_Goes p e below _ (T110.setTop (mkF m 201 #[.val (.int p0), .val (.int p1), .val (.int p2), .val (.int p3), .val (.int p4), .val (.int p5), .val (.ref b51), .val (.ref b54), .val (.ref b51), .val (.int (1 : Int32)), .unset] [(.double (FP.i2d p3)), (.double (FP.i2d p3))]))
    refine own_step (fun t k => XS.dcmpS X110.here hx rfl (hb hby at_201) rfl (dcmpV_self (Jvm.Free.Fl.i2d_fin _).noNaN _) k) ?_
    show own_Goes p e below _ (T110.setTop (mkF m 202 #[.val (.int p0), .val (.int p1), .val (.int p2), .val (.int p3), .val (.int p4), .val (.int p5), .val (.ref b51), .val (.ref b54), .val (.ref b51), .val (.int (1 : Int32)), .unset] [(.int (0 : Int32))]))
    have hc111 : (0 : Int32) = (0 : Int32) := rfl
    refine own_step (fun t k => XS.ifNo X110.here hx rfl (hb hby at_202) rfl ((if0 _ _).trans (teq hc111).2) k) ?_
    show own_Goes p e below _ (T110.setTop (mkF m 205 #[.val (.int p0), .val (.int p1), .val (.int p2), .val (.int p3), .val (.int p4), .val (.int p5), .val (.ref b51), .val (.ref b54), .val (.ref b51), .val (.int (1 : Int32)), .unset] []))
    refine own_step (fun t k => XS.iconst X110.here hx rfl (hb hby at_205) k) ?_
    show own_Goes p e below _ (T110.setTop (mkF m 206 #[.val (.int p0), .val (.int p1), .val (.int p2), .val (.int p3), .val (.int p4), .val (.int p5), .val (.ref b51), .val (.ref b54), .val (.ref b51), .val (.int (1 : Int32)), .unset] [(.int (1 : Int32))]))
    refine own_step (fun t k => XS.goto X110.here hx rfl (pc0 := 206) (pc' := 210) rfl (hb hby at_206) (by decide) (by decide) k) ?_
    show own_Goes p e below _ (T110.setTop (mkF m 210 #[.val (.int p0), .val (.int p1), .val (.int p2), .val (.int p3), .val (.int p4), .val (.int p5), .val (.ref b51), .val (.ref b54), .val (.ref b51), .val (.int (1 : Int32)), .unset] [(.int (1 : Int32))]))
    refine own_step (fun t k => XS.istore X110.here hx rfl (hb hby at_210) rfl (l' := #[.val (.int p0), .val (.int p1), .val (.int p2), .val (.int p3), .val (.int p4), .val (.int p5), .val (.ref b51), .val (.ref b54), .val (.ref b51), .val (.int (1 : Int32)), .val (.int (1 : Int32))]) rfl k) ?_
    show own_Goes p e below _ (T110.setTop (mkF m 212 #[.val (.int p0), .val (.int p1), .val (.int p2), .val (.int p3), .val (.int p4), .val (.int p5), .val (.ref b51), .val (.ref b54), .val (.ref b51), .val (.int (1 : Int32)), .val (.int (1 : Int32))] []))
    refine own_step (fun t k => XS.iload X110.here hx rfl (hb hby at_212) rfl k) ?_
    show own_Goes p e below _ (T110.setTop (mkF m 214 #[.val (.int p0), .val (.int p1), .val (.int p2), .val (.int p3), .val (.int p4), .val (.int p5), .val (.ref b51), .val (.ref b54), .val (.ref b51), .val (.int (1 : Int32)), .val (.int (1 : Int32))] [(.int (1 : Int32))]))
    have hc112 : ¬ ((1 : Int32) = (0 : Int32)) := by decide
    refine own_step (fun t k => XS.ifNo X110.here hx rfl (hb hby at_214) rfl ((if0 _ _).trans (feq hc112).1) k) ?_
    show own_Goes p e below _ (T110.setTop (mkF m 217 #[.val (.int p0), .val (.int p1), .val (.int p2), .val (.int p3), .val (.int p4), .val (.int p5), .val (.ref b51), .val (.ref b54), .val (.ref b51), .val (.int (1 : Int32)), .val (.int (1 : Int32))] []))
    refine own_step (fun t k => XS.iload X110.here hx rfl (hb hby at_217) rfl k) ?_
    show own_Goes p e below _ (T110.setTop (mkF m 219 #[.val (.int p0), .val (.int p1), .val (.int p2), .val (.int p3), .val (.int p4), .val (.int p5), .val (.ref b51), .val (.ref b54), .val (.ref b51), .val (.int (1 : Int32)), .val (.int (1 : Int32))] [(.int (1 : Int32))]))
    have hc113 : ¬ ((1 : Int32) = (0 : Int32)) := by decide
    refine own_step (fun t k => XS.ifNo X110.here hx rfl (hb hby at_219) rfl ((if0 _ _).trans (feq hc113).1) k) ?_
    show own_Goes p e below _ (T110.setTop (mkF m 222 #[.val (.int p0), .val (.int p1), .val (.int p2), .val (.int p3), .val (.int p4), .val (.int p5), .val (.ref b51), .val (.ref b54), .val (.ref b51), .val (.int (1 : Int32)), .val (.int (1 : Int32))] []))
    refine own_step (fun t k => XS.iconst X110.here hx rfl (hb hby at_222) k) ?_
    show own_Goes p e below _ (T110.setTop (mkF m 223 #[.val (.int p0), .val (.int p1), .val (.int p2), .val (.int p3), .val (.int p4), .val (.int p5), .val (.ref b51), .val (.ref b54), .val (.ref b51), .val (.int (1 : Int32)), .val (.int (1 : Int32))] [(.int (1 : Int32))]))
    refine own_step (fun t k => XS.goto X110.here hx rfl (pc0 := 223) (pc' := 227) rfl (hb hby at_223) (by decide) (by decide) k) ?_
    show own_Goes p e below _ (T110.setTop (mkF m 227 #[.val (.int p0), .val (.int p1), .val (.int p2), .val (.int p3), .val (.int p4), .val (.int p5), .val (.ref b51), .val (.ref b54), .val (.ref b51), .val (.int (1 : Int32)), .val (.int (1 : Int32))] [(.int (1 : Int32))]))
    refine own_retL X110 hx hlk Bd.returns (hb hby at_227) (?_ : (1 : Int32) = 1) N94 (by decide) (by decide)
    exact rfl
set_option maxRecDepth 65536 in
set_option maxHeartbeats 40000000 in
theorem comes_1 {Post : Tables → Env → Array Value → State → Outcome → State → Prop} (hpost : ∀ tb e args s v u, (limb_1_1.after args s (.returned v) u = true ∧ limb_1_2.after args s (.returned v) u = true ∧ True) → FrameEnd s (.returned v) u (Jvm.fieldLocs frame_1_writes args s ++ Jvm.arrayLocs frame_1_arrays args s ++ Jvm.staticLocs frame_1_statics s) 16 128 → Post tb e args s (.returned v) u) :
    ArmFor flags0 classFile x code maxLocals ret World_1 tables_1 room_1 Calls_1 rest_1 Pre_1 Post := by
  intro l hfl _ _ p e ha hc hk s m args below hf hA hF happ hP
  obtain ⟨hcalls, hrest, hpre⟩ := hP
  obtain ⟨-, -, -, hnamed, -, -, -, hat⟩ := (Spec.applies_iff hf).mp happ
  obtain ⟨hg, hn⟩ := and_e (Cond.before_iff.mp (show (Jvm.Cond.and given_1 narrow_1).before args s = true from hpre))
  obtain ⟨gg1, gg2⟩ := and_e hg
  obtain ⟨gg3, gg4⟩ := and_e gg2
  obtain ⟨gg5, gg6⟩ := and_e gg4
  obtain ⟨gg7, gg8⟩ := and_e gg6
  obtain ⟨gg9, gg10⟩ := and_e gg8
  obtain ⟨gg11, gg12⟩ := and_e gg10
  obtain ⟨w0, w1, w2, w3, w4, w5, rfl⟩ : ∃ w0 w1 w2 w3 w4 w5 : Value, args = #[w0, w1, w2, w3, w4, w5] := by
    have hs : args.size = 6 := by simpa [Cond.value, given_1] using gg1
    obtain ⟨L⟩ := args
    match L, hs with
    | [w0, w1, w2, w3, w4, w5], _ => exact ⟨w0, w1, w2, w3, w4, w5, rfl⟩
  have hw := fun d (hd : d ∈ tables_1) => atoms_spec (ws := Jvm.Cond.code x code maxLocals ret :: tables_1) hat d (List.mem_cons_of_mem _ hd)
  have hfit : Fit s := fun {y c} hc i hi => by
    obtain ⟨ha, rfl⟩ := Array.getElem?_eq_some_iff.mp hc
    have q := List.all_eq_true.mp ((Array.all_eq_true_iff_forall_mem.mp hF) _ (Array.getElem_mem ha)) i (List.mem_range.mpr hi)
    simpa [Array.getElem?_eq_getElem hi] using q
  obtain ⟨i0, ei0⟩ := is_v gg3
  obtain rfl : w0 = (.int i0) := Option.some.inj ei0
  obtain ⟨i1, ei1⟩ := is_v gg5
  obtain rfl : w1 = (.int i1) := Option.some.inj ei1
  obtain ⟨i2, ei2⟩ := is_v gg7
  obtain rfl : w2 = (.int i2) := Option.some.inj ei2
  obtain ⟨i3, ei3⟩ := is_v gg9
  obtain rfl : w3 = (.int i3) := Option.some.inj ei3
  obtain ⟨i4, ei4⟩ := is_v gg11
  obtain rfl : w4 = (.int i4) := Option.some.inj ei4
  obtain ⟨i5, ei5⟩ := is_v gg12
  obtain rfl : w5 = (.int i5) := Option.some.inj ei5
  obtain ⟨n, o, h1, h2, h3, _, L, rfl, ⟨rfl, N⟩, hq⟩ := own_law l s _ hw tables_1 i0 i1 i2 i3 i4 i5  s.heap s.heap.size (Nat.le_refl _)  p e ha hc hk s m _ below hf ((Spec.applies_iff_loose hf).mp happ).1 ⟨rfl, State.Warmed39.refl s, rfl⟩ trivial
  refine ⟨n, _, h1, h2, h3, hpost _ _ _ _ _ _ ⟨Cond.after_iff.mpr rfl, Cond.after_iff.mpr (eq_i res_at (Term.int_eval (1)) rfl), trivial⟩ ⟨hq.1, hq.2.1, (hq.2.2.sift fun y hy => Or.inr (N y hy)).mono (by decide) (by decide)⟩⟩
theorem main_1_1 : Claimed_1_1 := comes_1 fun _ _ _ _ _ _ h hF => ⟨h.1, hF⟩
theorem main_1_2 : Claimed_1_2 := comes_1 fun _ _ _ _ _ _ h hF => ⟨h.2.1, hF⟩
end Jvm.Pilot.@@N@@
namespace Jvm.Pilot.@@N@@
open Jvm Jvm.ClassFile Sem Op Lib Jvm.Free Jvm.Stand Jvm.Pilot.@@N@@.Jvm.D
/-! MADE BY PROGRAM (witnessworld.py) out of the Statement's table words and the real class files: 7 classes; the members and pool entries that the words name. The judged class is class 1, her method 1. -/
namespace start1
open Jvm.ClassFile
def u (s : String) : CpInfo := .utf8 (stringToUtf16 s)
/-- a pool by its gaps: so many unusable entries, then the entry; so many at the end -/
def gap : Nat → List CpInfo → List CpInfo
  | 0, r => r
  | n + 1, r => .unusable :: gap n r
def poolList (es : List (Nat × CpInfo)) (last : Nat) : List CpInfo := es.foldr (fun e r => gap e.1 (e.2 :: r)) (gap last [])
def pool (es : List (Nat × CpInfo)) (last : Nat) : Array CpInfo := ⟨poolList es last⟩
def fileOf (pool : Array CpInfo) (this : Nat) (attrs : Array Attribute := #[]) (ms : Array MethodInfo := #[]) (fl : Nat := 33) (sup : Nat := 0) (ifs : Array Nat := #[]) (fds : Array FieldInfo := #[]) : ClassFile where
  minorVersion := 0
  majorVersion := 65
  constantPool := pool
  accessFlags := fl
  thisClass := this
  superClass := sup
  interfaces := ifs
  fields := fds
  methods := ms
  attributes := attrs
def plain (name : String) (sup : Option ClassId) : Class where
  name := name
  kind := .ordinary
  loader := none
  accessFlags := 33
  super := sup
  interfaces := #[]
  cf := none
  fields := #[]
  methods := #[]
  instanceTypes := #[]
  staticTypes := #[]
  resolved := #[]
  callSites := []
  init := .initialized
  statics := none
  mirror := none

def pool0 : Array CpInfo := pool [(5, u "<init>"), (0, u "()V"), (1, .class_ 10), (1, u "java/lang/Object")] 113

def k0c0 : Code := { maxStack := 0, maxLocals := 1, code := object_method_1_code, exceptionTable := #[], attributes := #[] }
def k0m0 : Method := { name := "<init>", desc := "()V", sig := { parameters := [], returnType := none }, accessFlags := 1, code := some k0c0 }
/-- java/lang/Object -/
def k0 : Class := { plain "java/lang/Object" none with
  accessFlags := 33
  interfaces := #[]
  cf := some (fileOf pool0 8 #[] #[{ accessFlags := 1, nameIndex := 5, descriptorIndex := 6, attributes := #[] }] 33 0 #[] #[])
  fields := #[]
  methods := #[k0m0]
  instanceTypes := #[]
  staticTypes := #[]
  resolved := Array.replicate 124 none
  statics := none }

def pool1 : Array CpInfo := pool [(2, .class_ 4), (0, .nameAndType 5 6), (0, u "java/lang/Object"), (0, u "<init>"), (0, u "()V"), (0, .class_ 8), (0, u "com/example/waysmith/waysmith/solver/Stretch"), (0, .methodref 7 3), (0, .fieldref 7 11), (0, .nameAndType 12 13), (0, u "duration"), (0, u "D"), (0, .fieldref 7 15), (0, .nameAndType 16 13), (0, u "timeWarp"), (0, .fieldref 7 18), (0, .nameAndType 19 13), (0, u "earliest"), (0, .fieldref 7 21), (0, .nameAndType 22 13), (0, u "latest"), (0, .double 4611686018427387904), (1, .double 4613937818241073152), (1, .methodref 7 28), (0, .nameAndType 29 30), (0, u "set"), (0, u "(Lcom/example/waysmith/waysmith/solver/Stretch;)V"), (0, .class_ 32), (0, u "com/example/waysmith/waysmith/solver/StretchSetPinLaw"), (2, u "law"), (0, u "(IIIIII)Z")] 3

def k1m0 : Method := { name := "<init>", desc := "()V", sig := { parameters := [], returnType := none }, accessFlags := 1, code := none }
def k1c1 : Code := { maxStack := 5, maxLocals := 11, code := code, exceptionTable := #[], attributes := #[] }
def k1m1 : Method := { name := "law", desc := "(IIIIII)Z", sig := { parameters := [.int, .int, .int, .int, .int, .int], returnType := some .boolean }, accessFlags := 9, code := some k1c1 }
/-- com/example/waysmith/waysmith/solver/StretchSetPinLaw -/
def k1 : Class := { plain "com/example/waysmith/waysmith/solver/StretchSetPinLaw" (some 0) with
  accessFlags := 49
  interfaces := #[]
  cf := some (fileOf pool1 31 #[] #[{ accessFlags := 1, nameIndex := 5, descriptorIndex := 6, attributes := #[] }, { accessFlags := 9, nameIndex := 35, descriptorIndex := 36, attributes := #[] }] 49 2 #[] #[])
  fields := #[]
  methods := #[k1m0, k1m1]
  instanceTypes := #[]
  staticTypes := #[]
  resolved := Array.replicate 40 none
  statics := none }

def pool2 : Array CpInfo := pool [(1, .methodref 2 3), (0, .class_ 4), (0, .nameAndType 5 6), (0, u "java/lang/Object"), (0, u "<init>"), (0, u "()V"), (0, .class_ 8), (0, u "com/example/waysmith/waysmith/solver/Stretch"), (7, .fieldref 7 17), (0, .nameAndType 18 19), (0, u "duration"), (0, u "D"), (0, .fieldref 7 21), (0, .nameAndType 22 19), (0, u "timeWarp"), (3, .fieldref 7 27), (0, .nameAndType 28 19), (0, u "earliest"), (3, .fieldref 7 33), (0, .nameAndType 34 19), (0, u "latest"), (18, u "set"), (0, u "(Lcom/example/waysmith/waysmith/solver/Stretch;)V")] 6

def k2c0 : Code := { maxStack := 1, maxLocals := 1, code := prog_62_method_1_code, exceptionTable := #[], attributes := #[] }
def k2m0 : Method := { name := "<init>", desc := "()V", sig := { parameters := [], returnType := none }, accessFlags := 0, code := some k2c0 }
def k2c1 : Code := { maxStack := 3, maxLocals := 2, code := prog_62_method_4_code, exceptionTable := #[], attributes := #[] }
def k2m1 : Method := { name := "set", desc := "(Lcom/example/waysmith/waysmith/solver/Stretch;)V", sig := { parameters := [(.object "com/example/waysmith/waysmith/solver/Stretch")], returnType := none }, accessFlags := 0, code := some k2c1 }
/-- com/example/waysmith/waysmith/solver/Stretch -/
def k2 : Class := { plain "com/example/waysmith/waysmith/solver/Stretch" (some 0) with
  accessFlags := 48
  interfaces := #[]
  cf := some (fileOf pool2 7 #[] #[{ accessFlags := 0, nameIndex := 5, descriptorIndex := 6, attributes := #[] }, { accessFlags := 0, nameIndex := 53, descriptorIndex := 54, attributes := #[] }] 48 2 #[] #[{ accessFlags := 0, nameIndex := 18, descriptorIndex := 19, attributes := #[] }, { accessFlags := 0, nameIndex := 22, descriptorIndex := 19, attributes := #[] }, { accessFlags := 0, nameIndex := 28, descriptorIndex := 19, attributes := #[] }, { accessFlags := 0, nameIndex := 34, descriptorIndex := 19, attributes := #[] }])
  fields := #[{ name := "duration", type := .double, accessFlags := 0, slot := 0, constantValue := 0 }, { name := "timeWarp", type := .double, accessFlags := 0, slot := 1, constantValue := 0 }, { name := "earliest", type := .double, accessFlags := 0, slot := 2, constantValue := 0 }, { name := "latest", type := .double, accessFlags := 0, slot := 3, constantValue := 0 }]
  methods := #[k2m0, k2m1]
  instanceTypes := #[.double, .double, .double, .double]
  staticTypes := #[]
  resolved := Array.replicate 61 none
  statics := none }

def pool3 : Array CpInfo := pool [(1, u "java/lang/Cloneable"), (0, .class_ 1), (0, u "java/lang/Object"), (0, .class_ 3)] 3

/-- java/lang/Cloneable -/
def k3 : Class := { plain "java/lang/Cloneable" (some 0) with
  accessFlags := 1537
  interfaces := #[]
  cf := some (fileOf pool3 2 #[] #[] 1537 4 #[] #[])
  fields := #[]
  methods := #[]
  instanceTypes := #[]
  staticTypes := #[]
  resolved := Array.replicate 8 none
  statics := none }

def pool4 : Array CpInfo := pool [(1, u "java/io/Serializable"), (0, .class_ 1), (0, u "java/lang/Object"), (0, .class_ 3)] 3

/-- java/io/Serializable -/
def k4 : Class := { plain "java/io/Serializable" (some 0) with
  accessFlags := 1537
  interfaces := #[]
  cf := some (fileOf pool4 2 #[] #[] 1537 4 #[] #[])
  fields := #[]
  methods := #[]
  instanceTypes := #[]
  staticTypes := #[]
  resolved := Array.replicate 8 none
  statics := none }

/-- the primitive byte -/
def k5 : Class := { plain "byte" none with kind := .primitive 'B', accessFlags := 0x411 }
/-- [B -/
def k6 : Class := { plain "[B" (some 0) with kind := .array 5 .byte, interfaces := #[3, 4], accessFlags := 1041 }

def heap : Heap := #[]
def classes : Array Class := #[k0, k1, k2, k3, k4, k5, k6]
def interned : List (Array UInt16 × Addr) := []
def slotsUsed : Nat := 0
def theMethod : MethodId := ⟨1, 1⟩
def args0 : Array Value := #[.int 1, .int 2, .int 3, .int 4, .int 5, .int 6]
def aboutOver (below : List Frame) : State where
  vm := { classes := classes, interned := interned.toArray }
  heap := heap
  slotsUsed := slotsUsed
  threads := #[{ frames := .invoking theMethod args0 :: below }]
def below0 : List Frame := [.native { method := ⟨0, 0⟩, args := #[] }]
def about1 : State := aboutOver below0
def p0 : Program := .bare "" "" ""
def e0 : Env := launch0.env 0 0 0
theorem w_frames : about1.frames = Frame.invoking theMethod args0 :: below0 := rfl
set_option maxRecDepth 65536 in
theorem w_args : argsFit about1.vm theMethod args0 = true := by decide +kernel
set_option maxRecDepth 65536 in
theorem w_heap : heapFits about1 = true := by decide +kernel
set_option maxRecDepth 65536 in
theorem w_runnable : about1.curStatus? = some .runnable := by decide +kernel
set_option maxRecDepth 65536 in
theorem w_alone : about1.alone = true := by decide +kernel
set_option maxRecDepth 65536 in
theorem w_named : about1.methodNamed? x = some theMethod := by decide +kernel
set_option maxRecDepth 65536 in
theorem w_hears : about1.hears theMethod below0 = true := by decide +kernel
set_option maxRecDepth 65536 in
theorem w_ripe : about1.ripe theMethod args0 below0 = true := by decide +kernel
theorem w_running : about1.status = .running := rfl
set_option maxRecDepth 65536 in
theorem w_room : about1.hasRoom e0.platform room_1 = true :=
  launch0.hasRoom_least _ room_1 (by decide +kernel) (by decide +kernel) (by decide +kernel) (by decide +kernel) (by decide +kernel) (by decide +kernel)
theorem allAtoms_all (ts : List Jvm.Cond) (a : Array Jvm.Value) (st : Jvm.State) : (allAtoms ts).before a st = ts.all (fun c => c.before a st) := by
  induction ts with
  | nil => rfl
  | cons c t ih =>
    show (Jvm.Cond.and c (allAtoms t)).before a st = _
    rw [Jvm.Cond.before_and, ih, List.all_cons]
def words1 : List Jvm.Cond := Jvm.Cond.code x code maxLocals ret :: tables_1
/-- a 'code' word, met by the world's own term for the bytes: nothing is compared byte by byte -/
theorem code_word {y : MethodName} {bytes : ByteArray} {mx : Nat} {rt : Option FieldType} {a : Array Value} {s : State} {m : MethodId} {meth : Method} {c : Code} (h1 : s.methodNamed? y = some m) (h2 : s.vm.method? m = some meth) (h3 : meth.code = some c) (h4 : c.code = bytes)
    (h5 : (c.maxLocals == mx && c.exceptionTable.isEmpty && decide (c.maxStack ≤ mostOperands) && decide (meth.sig.returnType = rt) && !meth.locks && decide (parseMethodDescriptor y.desc = some meth.sig)) = true) : (Jvm.Cond.code y bytes mx rt).before a s = true := by
  simp only [Bool.and_eq_true, beq_iff_eq, Bool.not_eq_true', decide_eq_true_eq] at h5
  obtain ⟨⟨⟨⟨⟨g1, g2⟩, g3⟩, g4⟩, g5⟩, g6⟩ := h5
  simp [Cond.before, Cond.holds, Cond.value, h1, h2, h3, h4, g1, g2, g3, g4, g5, g6]
def isCode : Jvm.Cond → Bool
  | .code _ _ _ _ => true
  | _ => false
theorem all_split {L : List Jvm.Cond} {P : Jvm.Cond → Bool} (h1 : L.all (fun c => isCode c || P c) = true) (h2 : ∀ c ∈ L.filter isCode, P c = true) : L.all P = true := by
  refine List.all_eq_true.mpr fun c hc => ?_
  have h := List.all_eq_true.mp h1 c hc
  rcases Bool.eq_false_or_eq_true (isCode c) with hi | hi
  · exact h2 c (List.mem_filter.mpr ⟨hc, hi⟩)
  · simpa [hi] using h
set_option maxRecDepth 65536 in
theorem w_c0 : (Jvm.Cond.code x code maxLocals ret).before args0 about1 = true := code_word (m := ⟨1, 1⟩) (meth := k1m1) (c := k1c1) (by decide +kernel) rfl rfl rfl (by decide +kernel)
set_option maxRecDepth 65536 in
theorem w_c1 : (Jvm.Cond.code ({ cls := "com/example/waysmith/waysmith/solver/Stretch", name := "<init>", desc := "()V" } : Jvm.MethodName) prog_62_method_1_code (1 : Nat) (Option.none : Option Jvm.ClassFile.FieldType)).before args0 about1 = true := code_word (m := ⟨2, 0⟩) (meth := k2m0) (c := k2c0) (by decide +kernel) rfl rfl rfl (by decide +kernel)
set_option maxRecDepth 65536 in
theorem w_c2 : (Jvm.Cond.code ({ cls := "java/lang/Object", name := "<init>", desc := "()V" } : Jvm.MethodName) object_method_1_code (1 : Nat) (Option.none : Option Jvm.ClassFile.FieldType)).before args0 about1 = true := code_word (m := ⟨0, 0⟩) (meth := k0m0) (c := k0c0) (by decide +kernel) rfl rfl rfl (by decide +kernel)
set_option maxRecDepth 65536 in
theorem w_c3 : (Jvm.Cond.code ({ cls := "com/example/waysmith/waysmith/solver/Stretch", name := "set", desc := "(Lcom/example/waysmith/waysmith/solver/Stretch;)V" } : Jvm.MethodName) prog_62_method_4_code (2 : Nat) (Option.none : Option Jvm.ClassFile.FieldType)).before args0 about1 = true := code_word (m := ⟨2, 1⟩) (meth := k2m1) (c := k2c1) (by decide +kernel) rfl rfl rfl (by decide +kernel)
def codes1 : List Jvm.Cond := [Jvm.Cond.code x code maxLocals ret, Jvm.Cond.code ({ cls := "com/example/waysmith/waysmith/solver/Stretch", name := "<init>", desc := "()V" } : Jvm.MethodName) prog_62_method_1_code (1 : Nat) (Option.none : Option Jvm.ClassFile.FieldType), Jvm.Cond.code ({ cls := "java/lang/Object", name := "<init>", desc := "()V" } : Jvm.MethodName) object_method_1_code (1 : Nat) (Option.none : Option Jvm.ClassFile.FieldType), Jvm.Cond.code ({ cls := "com/example/waysmith/waysmith/solver/Stretch", name := "set", desc := "(Lcom/example/waysmith/waysmith/solver/Stretch;)V" } : Jvm.MethodName) prog_62_method_4_code (2 : Nat) (Option.none : Option Jvm.ClassFile.FieldType)]
set_option maxRecDepth 65536 in
theorem codes_eq : words1.filter isCode = codes1 := rfl
theorem w_codes : ∀ c ∈ words1.filter isCode, c.before args0 about1 = true := by
  rw [codes_eq]
  intro c hc
  simp only [codes1, List.mem_cons, List.not_mem_nil, or_false] at hc
  rcases hc with rfl | rfl | rfl | rfl
  · exact w_c0
  · exact w_c1
  · exact w_c2
  · exact w_c3
set_option maxRecDepth 65536 in
theorem w_t1 : (words1.take 24).all (fun c => isCode c || c.before args0 about1) = true := by decide +kernel
set_option maxRecDepth 65536 in
theorem w_t2 : (words1.drop 24).all (fun c => isCode c || c.before args0 about1) = true := by decide +kernel
theorem w_tables : (allAtoms (Jvm.Cond.code x code maxLocals ret :: tables_1)).before args0 about1 = true := by
  rw [allAtoms_all]
  show words1.all (fun c => c.before args0 about1) = true
  refine all_split ?_ w_codes
  rw [← List.take_append_drop 24 words1, List.all_append, w_t1, w_t2]
  rfl
set_option maxRecDepth 65536 in
theorem w_case : (Jvm.Cond.and given_1 narrow_1).before args0 about1 = true := by decide +kernel
theorem w_applies : (headSpec (Jvm.Cond.code x code maxLocals ret :: tables_1) room_1).applies x e0.platform about1 = true :=
  (Spec.applies_iff w_frames).mpr ⟨w_running, w_runnable, w_alone, w_named, w_hears, w_ripe, w_room, w_tables⟩
theorem atStart : AtStart classFile x code maxLocals ret World_1 tables_1 room_1 Calls_1 rest_1 Pre_1 launch0 p0 e0 about1 theMethod args0 below0 :=
  ⟨lists_1, trivial, launch0.admits_env _ _ _, launch0.least_env, fairChoices_fair.cas, fairChoices_fair.clock, w_frames, w_args, w_heap, w_applies, trivial, trivial, w_case⟩
end start1
theorem witness_1 : WitnessClaimed_1 := ⟨start1.p0, start1.e0, start1.about1, start1.theMethod, start1.args0, start1.below0, start1.atStart⟩
end Jvm.Pilot.@@N@@
