import JvmDerived
import JvmDerived.Pilot.@@N@@Statement
import JvmDerived.Pilot.@@N@@Code
set_option linter.unusedVariables false
set_option linter.unusedSimpArgs false
namespace Jvm.Pilot.@@N@@
open Jvm Jvm.ClassFile Sem Op Lib Jvm.Free Jvm.Stand Jvm.LawKit Jvm.RoadKit Bundle Jvm.Pilot.@@N@@.Jvm.D
section Own
variable {p : Program} {l : Launch} {e : Env} {R : Room} {s : State} {m : MethodId} {args : Array Value} {below : List Frame} {meth : Method} {c : Code} {T : State} {locs : List Loc} {cells slots : Nat} {Z : State} {h h' : Heap} {a b : Addr} {G : State → Outcome → Prop} {Q : Option Value → Heap → List Loc → Prop} {C K : Nat}
/-- the run comes to an end of which G holds -/
def own_Goes (p : Program) (e : Env) (below : List Frame) (G : State → Outcome → Prop) (S : State) : Prop := ∃ s₂ o, Steps p.tables e below S s₂ ∧ s₂.status = .running ∧ Ended s₂ below o ∧ G s₂ o
theorem own_step {S S' : State} (k : ∀ t, Steps p.tables e below S' t → Steps p.tables e below S t) (h : own_Goes p e below G S') : own_Goes p e below G S := by
  obtain ⟨s₂, o, h1, h2⟩ := h
  exact ⟨s₂, o, k _ h1, h2⟩
theorem own_jump {S S' : State} (k : Steps p.tables e below S S') (h : own_Goes p e below G S') : own_Goes p e below G S := own_step (fun _ q => k.trans q) h
def own_Fin (s : State) (Q : Option Value → Heap → List Loc → Prop) (C K : Nat) : State → Outcome → Prop := fun U o => ∃ v L, o = .returned v ∧ Q v U.heap L ∧ FrameEnd s o U L C K
theorem own_ret0 (X : Stand p l e R s m args below meth c T locs cells slots) (hx : p.tables.exec = Jvm.exec) (hlk : meth.locks = false) (hret : meth.sig.returnType = none) {pc : Nat} {Ls : Array Slot} (hd : decode c.code pc = .ok (.return_, 1)) (hq : Q none T.heap locs) (hc : cells ≤ C) (hk : slots ≤ K) :
    own_Goes p e below (own_Fin s Q C K) (T.setTop (mkF m pc Ls [])) := by
  obtain ⟨fs, hr, hrun, hended, hW, hsame⟩ := X.leave (v := none) (fun _ => rfl)
  exact ⟨_, _, X.returnOut hx hret hd hr, hrun, hended, _, _, rfl, hq, ⟨_, rfl⟩, hW, hsame.mono hc hk⟩
theorem own_retV (X : Stand p l e R s m args below meth c T locs cells slots) (hx : p.tables.exec = Jvm.exec) (hlk : meth.locks = false) {t : FieldType} (hret : meth.sig.returnType = some t) {w : Value} (hn : narrow t w = w) {i : Instr}
    (hi : (i = .ireturn ∧ (t = .int ∨ t = .boolean ∨ t = .byte ∨ t = .char ∨ t = .short) ∧ ∃ z, w = .int z) ∨ (i = .lreturn ∧ t = .long ∧ ∃ z, w = .long z) ∨ (i = .dreturn ∧ t = .double ∧ ∃ z, w = .double z) ∨ (i = .freturn ∧ t = .float ∧ ∃ z, w = .float z) ∨ (i = .areturn ∧ t.isReference = true ∧ w.isRef = true))
    {pc : Nat} {Ls : Array Slot} {rest : List Value} (hd : decode c.code pc = .ok (i, 1)) (hq : Q (some w) T.heap locs) (hc : cells ≤ C) (hk : slots ≤ K) :
    own_Goes p e below (own_Fin s Q C K) (T.setTop (mkF m pc Ls (w :: rest))) := by
  obtain ⟨fs, hr, hrun, hended, hW, hsame⟩ := X.leave (v := some w) (fun h => by rw [hret] at h; cases h)
  exact ⟨_, _, retOut X hx hret hn hi hd hr, hrun, hended, _, _, rfl, hq, ⟨_, rfl⟩, hW, hsame.mono hc hk⟩
theorem own_nb {z : Int32} (h : z = 0 ∨ z = 1) : narrow .boolean (.int z) = .int z := by
  rcases h with rfl | rfl <;> rfl
theorem own_01 {q : Prop} [Decidable q] {x y : Int32} (hx : x = 0 ∨ x = 1) (hy : y = 0 ∨ y = 1) : (if q then x else y) = 0 ∨ (if q then x else y) = 1 := by
  split
  · exact hx
  · exact hy
/-- the law's own promise -/
def own_Q0 (n0 : Nat) (v : Option Value) (h : Heap) (L : List Loc) : Prop := v = some (.int 1) ∧ Fr n0 L
theorem own_retL {n0 : Nat} (X : Stand p l e R s m args below meth c T locs cells slots) (hx : p.tables.exec = Jvm.exec) (hlk : meth.locks = false) (hret : meth.sig.returnType = some .boolean) {pc : Nat} {Ls : Array Slot} {z : Int32} {rest : List Value} (hd : decode c.code pc = .ok (.ireturn, 1)) (hz : z = 1) (N : Fr n0 locs) (hc : cells ≤ C) (hk : slots ≤ K) :
    own_Goes p e below (own_Fin s (own_Q0 n0) C K) (T.setTop (mkF m pc Ls (.int z :: rest))) := by
  subst hz
  exact own_retV X hx hlk hret (own_nb (Or.inr rfl)) (Or.inl ⟨rfl, Or.inr (Or.inl rfl), _, rfl⟩) hd ⟨rfl, N⟩ hc hk
/-! arrays of ints and of longs, by their lists -/
theorem own_getI (xs : List Int32) (n : Nat) : (xs.map Value.int).getD n (Value.int 0) = Value.int (xs.getD n 0) := by
  simp only [List.getD_eq_getElem?_getD, List.getElem?_map]
  cases xs[n]? <;> rfl
theorem own_getJ (xs : List Int64) (n : Nat) : (xs.map Value.long).getD n (Value.long 0) = Value.long (xs.getD n 0) := by
  simp only [List.getD_eq_getElem?_getD, List.getElem?_map]
  cases xs[n]? <;> rfl
theorem own_newI {k : ClassId} {z : Int32} (A : Arr Z h a (newA k .int z) .int) (q : ¬ z < 0) (n : Nat) : Arv Z h a k .int z ((List.replicate n (0 : Int32)).map Value.int) (Value.int 0) :=
  (Arv.new A q).pad fun i => by rw [List.map_replicate]; exact pad_rep [] (Value.int 0) n i
theorem own_newJ {k : ClassId} {z : Int32} (A : Arr Z h a (newA k .long z) .long) (q : ¬ z < 0) (n : Nat) : Arv Z h a k .long z ((List.replicate n (0 : Int64)).map Value.long) (Value.long 0) :=
  (Arv.new A q).pad fun i => by rw [List.map_replicate]; exact pad_rep [] (Value.long 0) n i
theorem own_ial (X : Stand p l e R s m args below meth c T locs cells slots) (hx : p.tables.exec = Jvm.exec) (hZ : Z.Warmed39 s.vm) (eT : T.heap = h) {k : ClassId} {z j : Int32} {xs : List Int32} (F : Arv Z h a k .int z (xs.map Value.int) (Value.int 0)) (hj : ¬ j < 0 ∧ j < z)
    {g : JFrame} (hg : g.method = m) {rest : List Value} (hs : g.stack = .int j :: .ref a :: rest) (hd : decode c.code g.pc = .ok (.iaload, 1)) (t : State) (kk : Steps p.tables e below (T.setTop { g with pc := g.pc + 1, stack := .int (xs.getD j.toNatClampNeg 0) :: rest }) t) : Steps p.tables e below (T.setTop g) t := by
  obtain ⟨cl, Ar, -, S, -, H, -⟩ := F
  have hin := inb_of S hj
  exact X.iaload hx (j := j) (by rw [eT]; exact Ar.1) (State.isArrayOf_alike hZ.alike Ar.2.1) Ar.2.2 hin (H.at hin (own_getI _ _)) hg hs hd t kk
theorem own_lal (X : Stand p l e R s m args below meth c T locs cells slots) (hx : p.tables.exec = Jvm.exec) (hZ : Z.Warmed39 s.vm) (eT : T.heap = h) {k : ClassId} {z j : Int32} {xs : List Int64} (F : Arv Z h a k .long z (xs.map Value.long) (Value.long 0)) (hj : ¬ j < 0 ∧ j < z)
    {g : JFrame} (hg : g.method = m) {rest : List Value} (hs : g.stack = .int j :: .ref a :: rest) (hd : decode c.code g.pc = .ok (.laload, 1)) (t : State) (kk : Steps p.tables e below (T.setTop { g with pc := g.pc + 1, stack := .long (xs.getD j.toNatClampNeg 0) :: rest }) t) : Steps p.tables e below (T.setTop g) t := by
  obtain ⟨cl, Ar, -, S, -, H, -⟩ := F
  have hin := inb_of S hj
  exact X.laload hx (j := j) (by rw [eT]; exact Ar.1) (State.isArrayOf_alike hZ.alike Ar.2.1) Ar.2.2 hin (H.at hin (own_getJ _ _)) hg hs hd t kk
theorem own_len (X : Stand p l e R s m args below meth c T locs cells slots) (hx : p.tables.exec = Jvm.exec) (hZ : Z.Warmed39 s.vm) (eT : T.heap = h) {k : ClassId} {ty : FieldType} {z : Int32} {vs : List Value} {dv : Value} (F : Arv Z h a k ty z vs dv)
    {g : JFrame} (hg : g.method = m) {rest : List Value} (hs : g.stack = .ref a :: rest) (hd : decode c.code g.pc = .ok (.arraylength, 1)) (t : State) (kk : Steps p.tables e below (T.setTop { g with pc := g.pc + 1, stack := .int z :: rest }) t) : Steps p.tables e below (T.setTop g) t := by
  obtain ⟨cl, Ar, -, S, N, -, -⟩ := F
  refine X.arraylength hx (by rw [eT]; exact Ar.1) (State.isArrayOf_alike hZ.alike Ar.2.1) hg hs hd t ?_
  rw [len_of S N]
  exact kk
theorem own_ist (X : Stand p l e R s m args below meth c T locs cells slots) (hx : p.tables.exec = Jvm.exec) (hZ : Z.Warmed39 s.vm) (eT : T.heap = h) {k : ClassId} {z j y : Int32} {xs : List Int32} (F : Arv Z h a k .int z (xs.map Value.int) (Value.int 0)) (hj : ¬ j < 0 ∧ j < z) (n : Nat) (hn : j.toNatClampNeg = n) (hl : n < xs.length)
    {g : JFrame} (hg : g.method = m) {rest : List Value} (hs : g.stack = .int y :: .int j :: .ref a :: rest) (hd : decode c.code g.pc = .ok (.iastore, 1)) :
    ∃ T' h', Stand p l e R s m args below meth c T' (locs ++ [⟨a, j.toNatClampNeg⟩]) cells slots ∧ T'.heap = h' ∧ Wr h h' a j.toNatClampNeg (.int y) ∧ Arv Z h' a k .int z ((xs.set n y).map Value.int) (Value.int 0) ∧ ∀ t, Steps p.tables e below (T'.setTop { g with pc := g.pc + 1, stack := rest }) t → Steps p.tables e below (T.setTop g) t := by
  obtain ⟨cl, Ar, q, S, N, H, I⟩ := F
  obtain ⟨T', h', X', e', W, st⟩ := stI X hx hZ eT Ar (inb_of S hj) hg hs hd
  refine ⟨T', h', X', e', W, ?_, st⟩
  rw [List.map_set]
  exact Arv.set Ar q S N H I rfl W n hn (by rw [List.length_map]; exact hl)
theorem own_lst (X : Stand p l e R s m args below meth c T locs cells slots) (hx : p.tables.exec = Jvm.exec) (hZ : Z.Warmed39 s.vm) (eT : T.heap = h) {k : ClassId} {z j : Int32} {y : Int64} {xs : List Int64} (F : Arv Z h a k .long z (xs.map Value.long) (Value.long 0)) (hj : ¬ j < 0 ∧ j < z) (n : Nat) (hn : j.toNatClampNeg = n) (hl : n < xs.length)
    {g : JFrame} (hg : g.method = m) {rest : List Value} (hs : g.stack = .long y :: .int j :: .ref a :: rest) (hd : decode c.code g.pc = .ok (.lastore, 1)) :
    ∃ T' h', Stand p l e R s m args below meth c T' (locs ++ [⟨a, j.toNatClampNeg⟩]) cells slots ∧ T'.heap = h' ∧ Wr h h' a j.toNatClampNeg (.long y) ∧ Arv Z h' a k .long z ((xs.set n y).map Value.long) (Value.long 0) ∧ ∀ t, Steps p.tables e below (T'.setTop { g with pc := g.pc + 1, stack := rest }) t → Steps p.tables e below (T.setTop g) t := by
  obtain ⟨cl, Ar, q, S, N, H, I⟩ := F
  obtain ⟨T', h', X', e', W, st⟩ := stJ X hx hZ eT Ar (inb_of S hj) hg hs hd
  refine ⟨T', h', X', e', W, ?_, st⟩
  rw [List.map_set]
  exact Arv.set Ar q S N H I rfl W n hn (by rw [List.length_map]; exact hl)
end Own
def own_first (q : Int64) : Int32 := (((q.toUInt64 >>> ((32 : Int32) &&& 0x3f).toInt64.toUInt64).toInt64).toInt32)
def own_last (q : Int64) : Int32 := q.toInt32
def own_span (q : Int64) : Int64 := (((own_last q).toInt64) - ((own_first q).toInt64)) + (1 : Int64)
theorem own_sp (q : Int64) : (own_span q).toInt32 = (own_last q - own_first q) + (1 : Int32) := by
  apply Int32.toInt_inj.mp
  have e1 := c_l2i (own_span q)
  have e2 := c_ladd (((own_last q).toInt64) - ((own_first q).toInt64)) 1
  have e3 := c_lsub ((own_last q).toInt64) ((own_first q).toInt64)
  have e4 := c_i2l (own_last q)
  have e5 := c_i2l (own_first q)
  have e6 := c_iadd (own_last q - own_first q) 1
  have e7 := c_isub (own_last q) (own_first q)
  have z1 : (1 : Int64).toInt = 1 := rfl
  have z2 : (1 : Int32).toInt = 1 := rfl
  have r1 := rng32 ((own_span q).toInt32)
  have r2 := rng32 ((own_last q - own_first q) + (1 : Int32))
  have e8 : own_span q = (((own_last q).toInt64) - ((own_first q).toInt64)) + (1 : Int64) := rfl
  rw [e8] at e1 r1 ⊢
  omega
theorem own_ad (x y : Int64) : (x + y).toInt32 = x.toInt32 + y.toInt32 := by
  apply Int32.toInt_inj.mp
  have e1 := c_l2i (x + y)
  have e2 := c_ladd x y
  have e3 := c_l2i x
  have e4 := c_l2i y
  have e5 := c_iadd x.toInt32 y.toInt32
  have r1 := rng32 ((x + y).toInt32)
  have r2 := rng32 (x.toInt32 + y.toInt32)
  omega
theorem own_cases {x v : Int32} (h : ((x &&& (2147483647 : Int32)) % (5 : Int32)) = v) : v = (0 : Int32) ∨ v = (1 : Int32) ∨ v = (2 : Int32) ∨ v = (3 : Int32) ∨ v = (4 : Int32) := by
  have q := c_and x 2147483647 (by decide)
  have r := (c_irem (x &&& (2147483647 : Int32)) 5 5 rfl).1 q.1
  rw [h] at r
  have hb : v.toInt = (0 : Int32).toInt ∨ v.toInt = (1 : Int32).toInt ∨ v.toInt = (2 : Int32).toInt ∨ v.toInt = (3 : Int32).toInt ∨ v.toInt = (4 : Int32).toInt := by
    show v.toInt = 0 ∨ v.toInt = 1 ∨ v.toInt = 2 ∨ v.toInt = 3 ∨ v.toInt = 4
    omega
  exact hb.imp Int32.toInt_inj.mp (Or.imp Int32.toInt_inj.mp (Or.imp Int32.toInt_inj.mp (Or.imp Int32.toInt_inj.mp (Int32.toInt_inj.mp))))
theorem own_plain0 (p2 p3 p4 p5 : Int64) : (if (0 : Int32) = ((0 : Int64).toInt32) then (1 : Int32) else (0 : Int32)) = 1 := by
  decide
theorem own_plain1 (p2 p3 p4 p5 : Int64) : (if ((0 : Int32) + (((([(own_last p2)] : List Int32).getD (0 : Int32).toNatClampNeg 0) - (([(own_first p2)] : List Int32).getD (0 : Int32).toNatClampNeg 0)) + (1 : Int32))) = (((0 : Int64) + (own_span p2)).toInt32) then (1 : Int32) else (0 : Int32)) = 1 := by
  refine if_pos ?_
  simp only [own_ad, own_sp]
  rfl
theorem own_plain2 (p2 p3 p4 p5 : Int64) : (if (((0 : Int32) + (((([(own_last p2), (own_last p3)] : List Int32).getD (0 : Int32).toNatClampNeg 0) - (([(own_first p2), (own_first p3)] : List Int32).getD (0 : Int32).toNatClampNeg 0)) + (1 : Int32))) + (((([(own_last p2), (own_last p3)] : List Int32).getD (1 : Int32).toNatClampNeg 0) - (([(own_first p2), (own_first p3)] : List Int32).getD (1 : Int32).toNatClampNeg 0)) + (1 : Int32))) = ((((0 : Int64) + (own_span p2)) + (own_span p3)).toInt32) then (1 : Int32) else (0 : Int32)) = 1 := by
  refine if_pos ?_
  simp only [own_ad, own_sp]
  rfl
theorem own_plain3 (p2 p3 p4 p5 : Int64) : (if ((((0 : Int32) + (((([(own_last p2), (own_last p3), (own_last p4)] : List Int32).getD (0 : Int32).toNatClampNeg 0) - (([(own_first p2), (own_first p3), (own_first p4)] : List Int32).getD (0 : Int32).toNatClampNeg 0)) + (1 : Int32))) + (((([(own_last p2), (own_last p3), (own_last p4)] : List Int32).getD (1 : Int32).toNatClampNeg 0) - (([(own_first p2), (own_first p3), (own_first p4)] : List Int32).getD (1 : Int32).toNatClampNeg 0)) + (1 : Int32))) + (((([(own_last p2), (own_last p3), (own_last p4)] : List Int32).getD (2 : Int32).toNatClampNeg 0) - (([(own_first p2), (own_first p3), (own_first p4)] : List Int32).getD (2 : Int32).toNatClampNeg 0)) + (1 : Int32))) = (((((0 : Int64) + (own_span p2)) + (own_span p3)) + (own_span p4)).toInt32) then (1 : Int32) else (0 : Int32)) = 1 := by
  refine if_pos ?_
  simp only [own_ad, own_sp]
  rfl
theorem own_plain4 (p2 p3 p4 p5 : Int64) : (if (((((0 : Int32) + (((([(own_last p2), (own_last p3), (own_last p4), (own_last p5)] : List Int32).getD (0 : Int32).toNatClampNeg 0) - (([(own_first p2), (own_first p3), (own_first p4), (own_first p5)] : List Int32).getD (0 : Int32).toNatClampNeg 0)) + (1 : Int32))) + (((([(own_last p2), (own_last p3), (own_last p4), (own_last p5)] : List Int32).getD (1 : Int32).toNatClampNeg 0) - (([(own_first p2), (own_first p3), (own_first p4), (own_first p5)] : List Int32).getD (1 : Int32).toNatClampNeg 0)) + (1 : Int32))) + (((([(own_last p2), (own_last p3), (own_last p4), (own_last p5)] : List Int32).getD (2 : Int32).toNatClampNeg 0) - (([(own_first p2), (own_first p3), (own_first p4), (own_first p5)] : List Int32).getD (2 : Int32).toNatClampNeg 0)) + (1 : Int32))) + (((([(own_last p2), (own_last p3), (own_last p4), (own_last p5)] : List Int32).getD (3 : Int32).toNatClampNeg 0) - (([(own_first p2), (own_first p3), (own_first p4), (own_first p5)] : List Int32).getD (3 : Int32).toNatClampNeg 0)) + (1 : Int32))) = ((((((0 : Int64) + (own_span p2)) + (own_span p3)) + (own_span p4)) + (own_span p5)).toInt32) then (1 : Int32) else (0 : Int32)) = 1 := by
  refine if_pos ?_
  simp only [own_ad, own_sp]
  rfl
theorem own_pn0 : plainName "java/lang/Record" = true := by first | (simp [plainName, overriddenIn]; done) | decide +kernel
theorem own_djdk_30_method_1_code_0 : decode jdk_30_method_1_code 0 = .ok (.aload_n 0, 1) := by decide +kernel
theorem own_djdk_30_method_1_code_1 : decode jdk_30_method_1_code 1 = .ok (.invokespecial 1, 3) := by decide +kernel
theorem own_djdk_30_method_1_code_4 : decode jdk_30_method_1_code 4 = .ok (.return_, 1) := by decide +kernel
theorem own_b1_ef (m : MethodId) (a1 : Addr) : entryFrame m #[(.ref a1)] 1 = mkF m 0 #[.val (.ref a1)] [] := by first | (simp [entryFrame, mkF, argsToLocals, Value.category]; done) | rfl
def own_b1_Q (Z : State) (a1 : Addr) (h0 : Heap) (n0 : Nat) (v : Option Value) (h : Heap) (L : List Loc) : Prop := v = none ∧ Fr n0 L ∧ h = h0
set_option maxRecDepth 65536 in
set_option maxHeartbeats 40000000 in
theorem own_b1 (l : Launch) (Z : State) (a0 : Array Value) (hw : ∀ d ∈ tables_1, d.before a0 Z = true) (ws : List Jvm.Cond) (a1 : Addr) (h0 : Heap) (n0 : Nat) (Z0 : n0 ≤ h0.size) :
    MetFree l (⟨"java/lang/Record", "<init>", "()V"⟩ : MethodName) (head1 (Jvm.Cond.code (⟨"java/lang/Record", "<init>", "()V"⟩ : MethodName) jdk_30_method_1_code 1 none :: ws) ({ frames := 1, cells := 0, slots := 0, locals := 12 } : Room)) (fun aa U => aa = #[(.ref a1)] ∧ Z.Warmed39 U.vm ∧ U.heap = h0) (fun _ _ _ _ _ => True) (fun _ U o U' => ∃ v L, o = .returned v ∧ own_b1_Q Z a1 h0 n0 v U'.heap L ∧ FrameEnd U o U' L ({ frames := 1, cells := 0, slots := 0, locals := 12 } : Room).cells ({ frames := 1, cells := 0, slots := 0, locals := 12 } : Room).slots) := by
  refine MetFree.of_bodySF (plainFor_of_name own_pn0) hisR ?_
  have w14 := hw _ (List.mem_of_getElem? (i := 14) rfl)
  have w15 := hw _ (List.mem_of_getElem? (i := 15) rfl)
  have w16 := hw _ (List.mem_of_getElem? (i := 16) rfl)
  intro p e s m args below meth c s₁ Bd hml0 hP hK
  obtain ⟨rfl, hZ, hh⟩ := hP
  have hx := Bd.exec
  have hby := Bd.bytes
  have hlk := Bd.notSynchronized
  have hml : c.maxLocals = 1 := hml0
  have hown : s.vm.findClass "java/lang/Record" = some m.cls := findClass_of_methodNamed Bd.named
  have hnm := (name_of_methodNamed Bd.named Bd.method).1
  have X0 : Stand p l e ({ frames := 1, cells := 0, slots := 0, locals := 12 } : Room) s m #[(.ref a1)] below meth c s₁ [] 0 0 := Stand.of_body Bd
  have e0 : s₁.heap = h0 := by rw [← hh, Bd.state]; rfl
  have N0 := Fr.nil n0
  have K0 : Keep h0 h0 [] := Keep.refl h0 _
  show own_Goes p e below (own_Fin s (own_b1_Q Z a1 h0 n0) ({ frames := 1, cells := 0, slots := 0, locals := 12 } : Room).cells ({ frames := 1, cells := 0, slots := 0, locals := 12 } : Room).slots) _
  refine own_step (fun t k => castTop (own_b1_ef m a1) k) ?_
  show own_Goes p e below _ (s₁.setTop (mkF m 0 #[.val (.ref a1)] []))
  refine own_step (fun t k => XS.aloadN X0.here hx rfl (hb hby own_djdk_30_method_1_code_0) rfl rfl k) ?_
  show own_Goes p e below _ (s₁.setTop (mkF m 1 #[.val (.ref a1)] [(.ref a1)]))
  obtain ⟨T2, X2, e2, st2⟩ := initO X0 hx hZ hown w14 w15 w16 e0 (g := (mkF m 1 #[.val (.ref a1)] [(.ref a1)])) rfl (by rw [hml]; rfl) rfl (hb hby own_djdk_30_method_1_code_1) (by decide) (W := 0) (by show 2 * 0 + _ ≤ _; exact Nat.le_of_eq rfl) (by decide)
  refine own_step st2 ?_
  show own_Goes p e below _ (T2.setTop (mkF m 4 #[.val (.ref a1)] []))
  refine own_ret0 X2 hx hlk Bd.returns (hb hby own_djdk_30_method_1_code_4) ?_ (by decide) (by decide)
  show own_b1_Q Z a1 h0 n0 _ T2.heap _
  rw [e2]
  exact ⟨rfl, N0, rfl⟩
theorem own_pn1 : plainName "com/example/concepta/concepta/store/OidSet$Rows" = true := by first | (simp [plainName, overriddenIn]; done) | decide +kernel
theorem own_dprog_129_method_1_code_0 : decode prog_129_method_1_code 0 = .ok (.aload_n 0, 1) := by decide +kernel
theorem own_pd0 : parseMethodDescriptor "()V" = some ⟨[], none⟩ := by decide +kernel
theorem own_dprog_129_method_1_code_1 : decode prog_129_method_1_code 1 = .ok (.invokespecial 1, 3) := by decide +kernel
theorem own_dprog_129_method_1_code_4 : decode prog_129_method_1_code 4 = .ok (.aload_n 0, 1) := by decide +kernel
theorem own_dprog_129_method_1_code_5 : decode prog_129_method_1_code 5 = .ok (.aload_n 1, 1) := by decide +kernel
theorem own_dprog_129_method_1_code_6 : decode prog_129_method_1_code 6 = .ok (.putfield 7, 3) := by decide +kernel
theorem own_dprog_129_method_1_code_9 : decode prog_129_method_1_code 9 = .ok (.aload_n 0, 1) := by decide +kernel
theorem own_dprog_129_method_1_code_10 : decode prog_129_method_1_code 10 = .ok (.aload_n 2, 1) := by decide +kernel
theorem own_dprog_129_method_1_code_11 : decode prog_129_method_1_code 11 = .ok (.putfield 13, 3) := by decide +kernel
theorem own_dprog_129_method_1_code_14 : decode prog_129_method_1_code 14 = .ok (.aload_n 0, 1) := by decide +kernel
theorem own_dprog_129_method_1_code_15 : decode prog_129_method_1_code 15 = .ok (.aload_n 3, 1) := by decide +kernel
theorem own_dprog_129_method_1_code_16 : decode prog_129_method_1_code 16 = .ok (.putfield 17, 3) := by decide +kernel
theorem own_dprog_129_method_1_code_19 : decode prog_129_method_1_code 19 = .ok (.aload_n 0, 1) := by decide +kernel
theorem own_dprog_129_method_1_code_20 : decode prog_129_method_1_code 20 = .ok (.aload 4, 2) := by decide +kernel
theorem own_dprog_129_method_1_code_22 : decode prog_129_method_1_code 22 = .ok (.putfield 20, 3) := by decide +kernel
theorem own_dprog_129_method_1_code_25 : decode prog_129_method_1_code 25 = .ok (.aload_n 0, 1) := by decide +kernel
theorem own_dprog_129_method_1_code_26 : decode prog_129_method_1_code 26 = .ok (.aload 5, 2) := by decide +kernel
theorem own_dprog_129_method_1_code_28 : decode prog_129_method_1_code 28 = .ok (.putfield 23, 3) := by decide +kernel
theorem own_dprog_129_method_1_code_31 : decode prog_129_method_1_code 31 = .ok (.return_, 1) := by decide +kernel
theorem own_b2_ef (m : MethodId) (a1 : Addr) (r1 : Addr) (r2 : Addr) (r3 : Addr) (r4 : Addr) (r5 : Addr) : entryFrame m #[(.ref a1), (.ref r1), (.ref r2), (.ref r3), (.ref r4), (.ref r5)] 6 = mkF m 0 #[.val (.ref a1), .val (.ref r1), .val (.ref r2), .val (.ref r3), .val (.ref r4), .val (.ref r5)] [] := by first | (simp [entryFrame, mkF, argsToLocals, Value.category]; done) | rfl
def own_b2_Q (Z : State) (a1 : Addr) (r1 : Addr) (r2 : Addr) (r3 : Addr) (r4 : Addr) (r5 : Addr) (u1 : Value) (u2 : Value) (u3 : Value) (u4 : Value) (u5 : Value) (h0 : Heap) (n0 : Nat) (v : Option Value) (h : Heap) (L : List Loc) : Prop := v = none ∧ Fr n0 L ∧ Keep h0 h [a1] ∧ Exa Z h a1 "com/example/concepta/concepta/store/OidSet$Rows" ∧ Fld Z h a1 "com/example/concepta/concepta/store/OidSet$Rows" "regions" "[J" (.ref r1) ∧ Fld Z h a1 "com/example/concepta/concepta/store/OidSet$Rows" "firsts" "[I" (.ref r2) ∧ Fld Z h a1 "com/example/concepta/concepta/store/OidSet$Rows" "lasts" "[I" (.ref r3)
set_option maxRecDepth 65536 in
set_option maxHeartbeats 40000000 in
theorem own_b2 (l : Launch) (Z : State) (a0 : Array Value) (hw : ∀ d ∈ tables_1, d.before a0 Z = true) (ws : List Jvm.Cond) (a1 : Addr) (r1 : Addr) (r2 : Addr) (r3 : Addr) (r4 : Addr) (r5 : Addr) (u1 : Value) (u2 : Value) (u3 : Value) (u4 : Value) (u5 : Value) (h0 : Heap) (n0 : Nat) (Z0 : n0 ≤ h0.size) (E_a1 : Exa Z h0 a1 "com/example/concepta/concepta/store/OidSet$Rows") (g_a1 : n0 ≤ a1) (F_regions_a1 : Fld Z h0 a1 "com/example/concepta/concepta/store/OidSet$Rows" "regions" "[J" u1) (F_firsts_a1 : Fld Z h0 a1 "com/example/concepta/concepta/store/OidSet$Rows" "firsts" "[I" u2) (F_lasts_a1 : Fld Z h0 a1 "com/example/concepta/concepta/store/OidSet$Rows" "lasts" "[I" u3) (F_blocks_a1 : Fld Z h0 a1 "com/example/concepta/concepta/store/OidSet$Rows" "blocks" "[J" u4) (F_bits_a1 : Fld Z h0 a1 "com/example/concepta/concepta/store/OidSet$Rows" "bits" "[J" u5) :
    MetFree l (⟨"com/example/concepta/concepta/store/OidSet$Rows", "<init>", "([J[I[I[J[J)V"⟩ : MethodName) (head1 (Jvm.Cond.code (⟨"com/example/concepta/concepta/store/OidSet$Rows", "<init>", "([J[I[I[J[J)V"⟩ : MethodName) prog_129_method_1_code 6 none :: ws) ({ frames := 2, cells := 0, slots := 0, locals := 24 } : Room)) (fun aa U => aa = #[(.ref a1), (.ref r1), (.ref r2), (.ref r3), (.ref r4), (.ref r5)] ∧ Z.Warmed39 U.vm ∧ U.heap = h0) (fun _ _ _ _ _ => True) (fun _ U o U' => ∃ v L, o = .returned v ∧ own_b2_Q Z a1 r1 r2 r3 r4 r5 u1 u2 u3 u4 u5 h0 n0 v U'.heap L ∧ FrameEnd U o U' L ({ frames := 2, cells := 0, slots := 0, locals := 24 } : Room).cells ({ frames := 2, cells := 0, slots := 0, locals := 24 } : Room).slots) := by
  refine MetFree.of_bodySF (plainFor_of_name own_pn1) hisR ?_
  have w4 := hw _ (List.mem_of_getElem? (i := 4) rfl)
  have w9 := hw _ (List.mem_of_getElem? (i := 9) rfl)
  have w10 := hw _ (List.mem_of_getElem? (i := 10) rfl)
  have w12 := hw _ (List.mem_of_getElem? (i := 12) rfl)
  have w13 := hw _ (List.mem_of_getElem? (i := 13) rfl)
  have w17 := hw _ (List.mem_of_getElem? (i := 17) rfl)
  have w18 := hw _ (List.mem_of_getElem? (i := 18) rfl)
  have w19 := hw _ (List.mem_of_getElem? (i := 19) rfl)
  have w20 := hw _ (List.mem_of_getElem? (i := 20) rfl)
  have w21 := hw _ (List.mem_of_getElem? (i := 21) rfl)
  have w22 := hw _ (List.mem_of_getElem? (i := 22) rfl)
  have w23 := hw _ (List.mem_of_getElem? (i := 23) rfl)
  have w24 := hw _ (List.mem_of_getElem? (i := 24) rfl)
  have w25 := hw _ (List.mem_of_getElem? (i := 25) rfl)
  have w26 := hw _ (List.mem_of_getElem? (i := 26) rfl)
  intro p e s m args below meth c s₁ Bd hml0 hP hK
  obtain ⟨rfl, hZ, hh⟩ := hP
  have hx := Bd.exec
  have hby := Bd.bytes
  have hlk := Bd.notSynchronized
  have hml : c.maxLocals = 6 := hml0
  have hown : s.vm.findClass "com/example/concepta/concepta/store/OidSet$Rows" = some m.cls := findClass_of_methodNamed Bd.named
  have hnm := (name_of_methodNamed Bd.named Bd.method).1
  have X0 : Stand p l e ({ frames := 2, cells := 0, slots := 0, locals := 24 } : Room) s m #[(.ref a1), (.ref r1), (.ref r2), (.ref r3), (.ref r4), (.ref r5)] below meth c s₁ [] 0 0 := Stand.of_body Bd
  have e0 : s₁.heap = h0 := by rw [← hh, Bd.state]; rfl
  have N0 := Fr.nil n0
  have K0 : Keep h0 h0 [a1] := Keep.refl h0 _
  show own_Goes p e below (own_Fin s (own_b2_Q Z a1 r1 r2 r3 r4 r5 u1 u2 u3 u4 u5 h0 n0) ({ frames := 2, cells := 0, slots := 0, locals := 24 } : Room).cells ({ frames := 2, cells := 0, slots := 0, locals := 24 } : Room).slots) _
  refine own_step (fun t k => castTop (own_b2_ef m a1 r1 r2 r3 r4 r5) k) ?_
  show own_Goes p e below _ (s₁.setTop (mkF m 0 #[.val (.ref a1), .val (.ref r1), .val (.ref r2), .val (.ref r3), .val (.ref r4), .val (.ref r5)] []))
  refine own_step (fun t k => XS.aloadN X0.here hx rfl (hb hby own_dprog_129_method_1_code_0) rfl rfl k) ?_
  show own_Goes p e below _ (s₁.setTop (mkF m 1 #[.val (.ref a1), .val (.ref r1), .val (.ref r2), .val (.ref r3), .val (.ref r4), .val (.ref r5)] [(.ref a1)]))
  obtain ⟨_, _, ⟨T14, L14, k14, n14⟩, -, X14, ⟨Lc14, hQ14, l14, y14, z14⟩, st14⟩ := X0.specialBack hx (y := (⟨"java/lang/Record", "<init>", "()V"⟩ : MethodName)) rfl hown (mvT hZ w9) (mvT hZ w10) (mvT hZ w13) (by decide) (backOf (W := 0) (own_b1 l Z a0 hw [] a1  h0 n0 Z0 ) hZ w13 w12 (by decide) (by decide)) (g := (mkF m 1 #[.val (.ref a1), .val (.ref r1), .val (.ref r2), .val (.ref r3), .val (.ref r4), .val (.ref r5)] [(.ref a1)])) rfl (by rw [hml]; rfl) (Steps.refl _) (a := a1) (argsL := []) (rest := []) (lenOf own_pd0 rfl) rfl (by show 2 * 0 + _ ≤ _; exact Nat.le_of_eq rfl) (hb hby own_dprog_129_method_1_code_1) (fun _ _ => ⟨rfl, e0, (by decide : 0 + 0 ≤ _), (by decide : 0 + 0 ≤ _)⟩)
  dsimp only [Pt.U, Pt.locs, Pt.cells, Pt.slots] at X14 l14 y14 z14 st14 hQ14
  subst y14 z14
  obtain ⟨rfl, N14q, eh14⟩ := hQ14
  have N14 : Fr n0 L14 := by rw [l14]; exact Fr.app N0 N14q
  refine own_jump st14 ?_
  show own_Goes p e below _ (T14.setTop (mkF m 4 #[.val (.ref a1), .val (.ref r1), .val (.ref r2), .val (.ref r3), .val (.ref r4), .val (.ref r5)] []))
  refine own_step (fun t k => XS.aloadN X14.here hx rfl (hb hby own_dprog_129_method_1_code_4) rfl rfl k) ?_
  show own_Goes p e below _ (T14.setTop (mkF m 5 #[.val (.ref a1), .val (.ref r1), .val (.ref r2), .val (.ref r3), .val (.ref r4), .val (.ref r5)] [(.ref a1)]))
  refine own_step (fun t k => XS.aloadN X14.here hx rfl (hb hby own_dprog_129_method_1_code_5) rfl rfl k) ?_
  show own_Goes p e below _ (T14.setTop (mkF m 6 #[.val (.ref a1), .val (.ref r1), .val (.ref r2), .val (.ref r3), .val (.ref r4), .val (.ref r5)] [(.ref r1), (.ref a1)]))
  obtain ⟨T15, h15, X15, e15, W15, st15⟩ := putF X14 hx hZ hown (host := "") (Or.inl w17) Via.refl eh14 F_regions_a1 E_a1 (Or.inr ⟨w18, rfl, hnm⟩) w4 (ty := (.array .long)) (by decide) rfl rfl (g := (mkF m 6 #[.val (.ref a1), .val (.ref r1), .val (.ref r2), .val (.ref r3), .val (.ref r4), .val (.ref r5)] [(.ref r1), (.ref a1)])) rfl rfl (hb hby own_dprog_129_method_1_code_6)
  have Fw15 := F_regions_a1.same W15
  have N15 := Fr.snoc X15 N14 g_a1
  have K16 : Keep h0 h15 [a1] := K0.wr W15 (Or.inl (List.mem_of_getElem? (i := 0) rfl))
  refine own_step st15 ?_
  show own_Goes p e below _ (T15.setTop (mkF m 9 #[.val (.ref a1), .val (.ref r1), .val (.ref r2), .val (.ref r3), .val (.ref r4), .val (.ref r5)] []))
  refine own_step (fun t k => XS.aloadN X15.here hx rfl (hb hby own_dprog_129_method_1_code_9) rfl rfl k) ?_
  show own_Goes p e below _ (T15.setTop (mkF m 10 #[.val (.ref a1), .val (.ref r1), .val (.ref r2), .val (.ref r3), .val (.ref r4), .val (.ref r5)] [(.ref a1)]))
  refine own_step (fun t k => XS.aloadN X15.here hx rfl (hb hby own_dprog_129_method_1_code_10) rfl rfl k) ?_
  show own_Goes p e below _ (T15.setTop (mkF m 11 #[.val (.ref a1), .val (.ref r1), .val (.ref r2), .val (.ref r3), .val (.ref r4), .val (.ref r5)] [(.ref r2), (.ref a1)]))
  obtain ⟨T17, h17, X17, e17, W17, st17⟩ := putF X15 hx hZ hown (host := "") (Or.inl w19) Via.refl e15 (F_firsts_a1.other W15 (Or.inr (slot_ne (Or.inr w20) (Or.inr w18) (by decide) (t := (.array .int)) (t' := (.array .long)) (by decide) (by decide)))) (E_a1.wr W15) (Or.inr ⟨w20, rfl, hnm⟩) w4 (ty := (.array .int)) (by decide) rfl rfl (g := (mkF m 11 #[.val (.ref a1), .val (.ref r1), .val (.ref r2), .val (.ref r3), .val (.ref r4), .val (.ref r5)] [(.ref r2), (.ref a1)])) rfl rfl (hb hby own_dprog_129_method_1_code_11)
  have Fw17 := (F_firsts_a1.other W15 (Or.inr (slot_ne (Or.inr w20) (Or.inr w18) (by decide) (t := (.array .int)) (t' := (.array .long)) (by decide) (by decide)))).same W17
  have N17 := Fr.snoc X17 N15 g_a1
  have K18 : Keep h0 h17 [a1] := K16.wr W17 (Or.inl (List.mem_of_getElem? (i := 0) rfl))
  refine own_step st17 ?_
  show own_Goes p e below _ (T17.setTop (mkF m 14 #[.val (.ref a1), .val (.ref r1), .val (.ref r2), .val (.ref r3), .val (.ref r4), .val (.ref r5)] []))
  refine own_step (fun t k => XS.aloadN X17.here hx rfl (hb hby own_dprog_129_method_1_code_14) rfl rfl k) ?_
  show own_Goes p e below _ (T17.setTop (mkF m 15 #[.val (.ref a1), .val (.ref r1), .val (.ref r2), .val (.ref r3), .val (.ref r4), .val (.ref r5)] [(.ref a1)]))
  refine own_step (fun t k => XS.aloadN X17.here hx rfl (hb hby own_dprog_129_method_1_code_15) rfl rfl k) ?_
  show own_Goes p e below _ (T17.setTop (mkF m 16 #[.val (.ref a1), .val (.ref r1), .val (.ref r2), .val (.ref r3), .val (.ref r4), .val (.ref r5)] [(.ref r3), (.ref a1)]))
  obtain ⟨T19, h19, X19, e19, W19, st19⟩ := putF X17 hx hZ hown (host := "") (Or.inl w21) Via.refl e17 ((F_lasts_a1.other W15 (Or.inr (slot_ne (Or.inr w22) (Or.inr w18) (by decide) (t := (.array .int)) (t' := (.array .long)) (by decide) (by decide)))).other W17 (Or.inr (slot_ne (Or.inr w22) (Or.inr w20) (by decide) (t := (.array .int)) (t' := (.array .int)) (by decide) (by decide)))) ((E_a1.wr W15).wr W17) (Or.inr ⟨w22, rfl, hnm⟩) w4 (ty := (.array .int)) (by decide) rfl rfl (g := (mkF m 16 #[.val (.ref a1), .val (.ref r1), .val (.ref r2), .val (.ref r3), .val (.ref r4), .val (.ref r5)] [(.ref r3), (.ref a1)])) rfl rfl (hb hby own_dprog_129_method_1_code_16)
  have Fw19 := ((F_lasts_a1.other W15 (Or.inr (slot_ne (Or.inr w22) (Or.inr w18) (by decide) (t := (.array .int)) (t' := (.array .long)) (by decide) (by decide)))).other W17 (Or.inr (slot_ne (Or.inr w22) (Or.inr w20) (by decide) (t := (.array .int)) (t' := (.array .int)) (by decide) (by decide)))).same W19
  have N19 := Fr.snoc X19 N17 g_a1
  have K20 : Keep h0 h19 [a1] := K18.wr W19 (Or.inl (List.mem_of_getElem? (i := 0) rfl))
  refine own_step st19 ?_
  show own_Goes p e below _ (T19.setTop (mkF m 19 #[.val (.ref a1), .val (.ref r1), .val (.ref r2), .val (.ref r3), .val (.ref r4), .val (.ref r5)] []))
  refine own_step (fun t k => XS.aloadN X19.here hx rfl (hb hby own_dprog_129_method_1_code_19) rfl rfl k) ?_
  show own_Goes p e below _ (T19.setTop (mkF m 20 #[.val (.ref a1), .val (.ref r1), .val (.ref r2), .val (.ref r3), .val (.ref r4), .val (.ref r5)] [(.ref a1)]))
  refine own_step (fun t k => XS.aload X19.here hx rfl (hb hby own_dprog_129_method_1_code_20) rfl rfl k) ?_
  show own_Goes p e below _ (T19.setTop (mkF m 22 #[.val (.ref a1), .val (.ref r1), .val (.ref r2), .val (.ref r3), .val (.ref r4), .val (.ref r5)] [(.ref r4), (.ref a1)]))
  obtain ⟨T21, h21, X21, e21, W21, st21⟩ := putF X19 hx hZ hown (host := "") (Or.inl w23) Via.refl e19 (((F_blocks_a1.other W15 (Or.inr (slot_ne (Or.inr w24) (Or.inr w18) (by decide) (t := (.array .long)) (t' := (.array .long)) (by decide) (by decide)))).other W17 (Or.inr (slot_ne (Or.inr w24) (Or.inr w20) (by decide) (t := (.array .long)) (t' := (.array .int)) (by decide) (by decide)))).other W19 (Or.inr (slot_ne (Or.inr w24) (Or.inr w22) (by decide) (t := (.array .long)) (t' := (.array .int)) (by decide) (by decide)))) (((E_a1.wr W15).wr W17).wr W19) (Or.inr ⟨w24, rfl, hnm⟩) w4 (ty := (.array .long)) (by decide) rfl rfl (g := (mkF m 22 #[.val (.ref a1), .val (.ref r1), .val (.ref r2), .val (.ref r3), .val (.ref r4), .val (.ref r5)] [(.ref r4), (.ref a1)])) rfl rfl (hb hby own_dprog_129_method_1_code_22)
  have Fw21 := (((F_blocks_a1.other W15 (Or.inr (slot_ne (Or.inr w24) (Or.inr w18) (by decide) (t := (.array .long)) (t' := (.array .long)) (by decide) (by decide)))).other W17 (Or.inr (slot_ne (Or.inr w24) (Or.inr w20) (by decide) (t := (.array .long)) (t' := (.array .int)) (by decide) (by decide)))).other W19 (Or.inr (slot_ne (Or.inr w24) (Or.inr w22) (by decide) (t := (.array .long)) (t' := (.array .int)) (by decide) (by decide)))).same W21
  have N21 := Fr.snoc X21 N19 g_a1
  have K22 : Keep h0 h21 [a1] := K20.wr W21 (Or.inl (List.mem_of_getElem? (i := 0) rfl))
  refine own_step st21 ?_
  show own_Goes p e below _ (T21.setTop (mkF m 25 #[.val (.ref a1), .val (.ref r1), .val (.ref r2), .val (.ref r3), .val (.ref r4), .val (.ref r5)] []))
  refine own_step (fun t k => XS.aloadN X21.here hx rfl (hb hby own_dprog_129_method_1_code_25) rfl rfl k) ?_
  show own_Goes p e below _ (T21.setTop (mkF m 26 #[.val (.ref a1), .val (.ref r1), .val (.ref r2), .val (.ref r3), .val (.ref r4), .val (.ref r5)] [(.ref a1)]))
  refine own_step (fun t k => XS.aload X21.here hx rfl (hb hby own_dprog_129_method_1_code_26) rfl rfl k) ?_
  show own_Goes p e below _ (T21.setTop (mkF m 28 #[.val (.ref a1), .val (.ref r1), .val (.ref r2), .val (.ref r3), .val (.ref r4), .val (.ref r5)] [(.ref r5), (.ref a1)]))
  obtain ⟨T23, h23, X23, e23, W23, st23⟩ := putF X21 hx hZ hown (host := "") (Or.inl w25) Via.refl e21 ((((F_bits_a1.other W15 (Or.inr (slot_ne (Or.inr w26) (Or.inr w18) (by decide) (t := (.array .long)) (t' := (.array .long)) (by decide) (by decide)))).other W17 (Or.inr (slot_ne (Or.inr w26) (Or.inr w20) (by decide) (t := (.array .long)) (t' := (.array .int)) (by decide) (by decide)))).other W19 (Or.inr (slot_ne (Or.inr w26) (Or.inr w22) (by decide) (t := (.array .long)) (t' := (.array .int)) (by decide) (by decide)))).other W21 (Or.inr (slot_ne (Or.inr w26) (Or.inr w24) (by decide) (t := (.array .long)) (t' := (.array .long)) (by decide) (by decide)))) ((((E_a1.wr W15).wr W17).wr W19).wr W21) (Or.inr ⟨w26, rfl, hnm⟩) w4 (ty := (.array .long)) (by decide) rfl rfl (g := (mkF m 28 #[.val (.ref a1), .val (.ref r1), .val (.ref r2), .val (.ref r3), .val (.ref r4), .val (.ref r5)] [(.ref r5), (.ref a1)])) rfl rfl (hb hby own_dprog_129_method_1_code_28)
  have Fw23 := ((((F_bits_a1.other W15 (Or.inr (slot_ne (Or.inr w26) (Or.inr w18) (by decide) (t := (.array .long)) (t' := (.array .long)) (by decide) (by decide)))).other W17 (Or.inr (slot_ne (Or.inr w26) (Or.inr w20) (by decide) (t := (.array .long)) (t' := (.array .int)) (by decide) (by decide)))).other W19 (Or.inr (slot_ne (Or.inr w26) (Or.inr w22) (by decide) (t := (.array .long)) (t' := (.array .int)) (by decide) (by decide)))).other W21 (Or.inr (slot_ne (Or.inr w26) (Or.inr w24) (by decide) (t := (.array .long)) (t' := (.array .long)) (by decide) (by decide)))).same W23
  have N23 := Fr.snoc X23 N21 g_a1
  have K24 : Keep h0 h23 [a1] := K22.wr W23 (Or.inl (List.mem_of_getElem? (i := 0) rfl))
  refine own_step st23 ?_
  show own_Goes p e below _ (T23.setTop (mkF m 31 #[.val (.ref a1), .val (.ref r1), .val (.ref r2), .val (.ref r3), .val (.ref r4), .val (.ref r5)] []))
  refine own_ret0 X23 hx hlk Bd.returns (hb hby own_dprog_129_method_1_code_31) ?_ (by decide) (by decide)
  show own_b2_Q Z a1 r1 r2 r3 r4 r5 u1 u2 u3 u4 u5 h0 n0 _ T23.heap _
  rw [e23]
  exact ⟨rfl, N23, K24, (((((E_a1.wr W15).wr W17).wr W19).wr W21).wr W23), ((((Fw15.other W17 (Or.inr (slot_ne (Or.inr w18) (Or.inr w20) (by decide) (t := (.array .long)) (t' := (.array .int)) (by decide) (by decide)))).other W19 (Or.inr (slot_ne (Or.inr w18) (Or.inr w22) (by decide) (t := (.array .long)) (t' := (.array .int)) (by decide) (by decide)))).other W21 (Or.inr (slot_ne (Or.inr w18) (Or.inr w24) (by decide) (t := (.array .long)) (t' := (.array .long)) (by decide) (by decide)))).other W23 (Or.inr (slot_ne (Or.inr w18) (Or.inr w26) (by decide) (t := (.array .long)) (t' := (.array .long)) (by decide) (by decide)))), (((Fw17.other W19 (Or.inr (slot_ne (Or.inr w20) (Or.inr w22) (by decide) (t := (.array .int)) (t' := (.array .int)) (by decide) (by decide)))).other W21 (Or.inr (slot_ne (Or.inr w20) (Or.inr w24) (by decide) (t := (.array .int)) (t' := (.array .long)) (by decide) (by decide)))).other W23 (Or.inr (slot_ne (Or.inr w20) (Or.inr w26) (by decide) (t := (.array .int)) (t' := (.array .long)) (by decide) (by decide)))), ((Fw19.other W21 (Or.inr (slot_ne (Or.inr w22) (Or.inr w24) (by decide) (t := (.array .int)) (t' := (.array .long)) (by decide) (by decide)))).other W23 (Or.inr (slot_ne (Or.inr w22) (Or.inr w26) (by decide) (t := (.array .int)) (t' := (.array .long)) (by decide) (by decide))))⟩
theorem own_pn2 : plainName "com/example/concepta/concepta/store/RowsBlockCountPinLaw" = true := by first | (simp [plainName, overriddenIn]; done) | decide +kernel
theorem own_dmethod_3_code_0 : decode method_3_code 0 = .ok (.lload_n 0, 1) := by decide +kernel
theorem own_dmethod_3_code_1 : decode method_3_code 1 = .ok (.bipush 32, 2) := by decide +kernel
theorem own_dmethod_3_code_3 : decode method_3_code 3 = .ok (.lushr, 1) := by decide +kernel
theorem own_dmethod_3_code_4 : decode method_3_code 4 = .ok (.l2i, 1) := by decide +kernel
theorem own_dmethod_3_code_5 : decode method_3_code 5 = .ok (.ireturn, 1) := by decide +kernel
theorem own_b3_ef (m : MethodId) (q1 : Int64) : entryFrame m #[(.long q1)] 2 = mkF m 0 #[.val (.long q1), .second] [] := by first | (simp [entryFrame, mkF, argsToLocals, Value.category]; done) | rfl
def own_b3_Q (Z : State) (q1 : Int64) (h0 : Heap) (n0 : Nat) (v : Option Value) (h : Heap) (L : List Loc) : Prop := v = some (.int (own_first q1)) ∧ Fr n0 L ∧ h = h0
set_option maxRecDepth 65536 in
set_option maxHeartbeats 40000000 in
theorem own_b3 (l : Launch) (Z : State) (a0 : Array Value) (hw : ∀ d ∈ tables_1, d.before a0 Z = true) (ws : List Jvm.Cond) (q1 : Int64) (h0 : Heap) (n0 : Nat) (Z0 : n0 ≤ h0.size) :
    MetFree l (⟨"com/example/concepta/concepta/store/RowsBlockCountPinLaw", "first", "(J)I"⟩ : MethodName) (head1 (Jvm.Cond.code (⟨"com/example/concepta/concepta/store/RowsBlockCountPinLaw", "first", "(J)I"⟩ : MethodName) method_3_code 2 (some .int) :: ws) ({ frames := 0, cells := 0, slots := 0, locals := 0 } : Room)) (fun aa U => aa = #[(.long q1)] ∧ Z.Warmed39 U.vm ∧ U.heap = h0) (fun _ _ _ _ _ => True) (fun _ U o U' => ∃ v L, o = .returned v ∧ own_b3_Q Z q1 h0 n0 v U'.heap L ∧ FrameEnd U o U' L ({ frames := 0, cells := 0, slots := 0, locals := 0 } : Room).cells ({ frames := 0, cells := 0, slots := 0, locals := 0 } : Room).slots) := by
  refine MetFree.of_bodySF (plainFor_of_name own_pn2) hisR ?_
  intro p e s m args below meth c s₁ Bd hml0 hP hK
  obtain ⟨rfl, hZ, hh⟩ := hP
  have hx := Bd.exec
  have hby := Bd.bytes
  have hlk := Bd.notSynchronized
  have hml : c.maxLocals = 2 := hml0
  have hown : s.vm.findClass "com/example/concepta/concepta/store/RowsBlockCountPinLaw" = some m.cls := findClass_of_methodNamed Bd.named
  have hnm := (name_of_methodNamed Bd.named Bd.method).1
  have X0 : Stand p l e ({ frames := 0, cells := 0, slots := 0, locals := 0 } : Room) s m #[(.long q1)] below meth c s₁ [] 0 0 := Stand.of_body Bd
  have e0 : s₁.heap = h0 := by rw [← hh, Bd.state]; rfl
  have N0 := Fr.nil n0
  have K0 : Keep h0 h0 [] := Keep.refl h0 _
  show own_Goes p e below (own_Fin s (own_b3_Q Z q1 h0 n0) ({ frames := 0, cells := 0, slots := 0, locals := 0 } : Room).cells ({ frames := 0, cells := 0, slots := 0, locals := 0 } : Room).slots) _
  refine own_step (fun t k => castTop (own_b3_ef m q1) k) ?_
  show own_Goes p e below _ (s₁.setTop (mkF m 0 #[.val (.long q1), .second] []))
  refine own_step (fun t k => XS.lloadN X0.here hx rfl (hb hby own_dmethod_3_code_0) rfl k) ?_
  show own_Goes p e below _ (s₁.setTop (mkF m 1 #[.val (.long q1), .second] [(.long q1)]))
  refine own_step (fun t k => XS.bipush X0.here hx rfl (hb hby own_dmethod_3_code_1) k) ?_
  show own_Goes p e below _ (s₁.setTop (mkF m 3 #[.val (.long q1), .second] [(.int (32 : Int32)), (.long q1)]))
  refine own_step (fun t k => XS.lushr X0.here hx rfl (hb hby own_dmethod_3_code_3) rfl k) ?_
  show own_Goes p e below _ (s₁.setTop (mkF m 4 #[.val (.long q1), .second] [(.long ((q1.toUInt64 >>> ((32 : Int32) &&& 0x3f).toInt64.toUInt64).toInt64))]))
  refine own_step (fun t k => XS.l2i X0.here hx rfl (hb hby own_dmethod_3_code_4) rfl k) ?_
  show own_Goes p e below _ (s₁.setTop (mkF m 5 #[.val (.long q1), .second] [(.int (((q1.toUInt64 >>> ((32 : Int32) &&& 0x3f).toInt64.toUInt64).toInt64).toInt32))]))
  refine own_retV X0 hx hlk Bd.returns (w := (.int (((q1.toUInt64 >>> ((32 : Int32) &&& 0x3f).toInt64.toUInt64).toInt64).toInt32))) rfl (Or.inl ⟨rfl, Or.inl rfl, _, rfl⟩) (hb hby own_dmethod_3_code_5) ?_ (by decide) (by decide)
  show own_b3_Q Z q1 h0 n0 _ s₁.heap _
  rw [e0]
  exact ⟨rfl, N0, rfl⟩
theorem own_dmethod_4_code_0 : decode method_4_code 0 = .ok (.lload_n 0, 1) := by decide +kernel
theorem own_dmethod_4_code_1 : decode method_4_code 1 = .ok (.l2i, 1) := by decide +kernel
theorem own_dmethod_4_code_2 : decode method_4_code 2 = .ok (.ireturn, 1) := by decide +kernel
theorem own_b4_ef (m : MethodId) (q1 : Int64) : entryFrame m #[(.long q1)] 2 = mkF m 0 #[.val (.long q1), .second] [] := by first | (simp [entryFrame, mkF, argsToLocals, Value.category]; done) | rfl
def own_b4_Q (Z : State) (q1 : Int64) (h0 : Heap) (n0 : Nat) (v : Option Value) (h : Heap) (L : List Loc) : Prop := v = some (.int (own_last q1)) ∧ Fr n0 L ∧ h = h0
set_option maxRecDepth 65536 in
set_option maxHeartbeats 40000000 in
theorem own_b4 (l : Launch) (Z : State) (a0 : Array Value) (hw : ∀ d ∈ tables_1, d.before a0 Z = true) (ws : List Jvm.Cond) (q1 : Int64) (h0 : Heap) (n0 : Nat) (Z0 : n0 ≤ h0.size) :
    MetFree l (⟨"com/example/concepta/concepta/store/RowsBlockCountPinLaw", "last", "(J)I"⟩ : MethodName) (head1 (Jvm.Cond.code (⟨"com/example/concepta/concepta/store/RowsBlockCountPinLaw", "last", "(J)I"⟩ : MethodName) method_4_code 2 (some .int) :: ws) ({ frames := 0, cells := 0, slots := 0, locals := 0 } : Room)) (fun aa U => aa = #[(.long q1)] ∧ Z.Warmed39 U.vm ∧ U.heap = h0) (fun _ _ _ _ _ => True) (fun _ U o U' => ∃ v L, o = .returned v ∧ own_b4_Q Z q1 h0 n0 v U'.heap L ∧ FrameEnd U o U' L ({ frames := 0, cells := 0, slots := 0, locals := 0 } : Room).cells ({ frames := 0, cells := 0, slots := 0, locals := 0 } : Room).slots) := by
  refine MetFree.of_bodySF (plainFor_of_name own_pn2) hisR ?_
  intro p e s m args below meth c s₁ Bd hml0 hP hK
  obtain ⟨rfl, hZ, hh⟩ := hP
  have hx := Bd.exec
  have hby := Bd.bytes
  have hlk := Bd.notSynchronized
  have hml : c.maxLocals = 2 := hml0
  have hown : s.vm.findClass "com/example/concepta/concepta/store/RowsBlockCountPinLaw" = some m.cls := findClass_of_methodNamed Bd.named
  have hnm := (name_of_methodNamed Bd.named Bd.method).1
  have X0 : Stand p l e ({ frames := 0, cells := 0, slots := 0, locals := 0 } : Room) s m #[(.long q1)] below meth c s₁ [] 0 0 := Stand.of_body Bd
  have e0 : s₁.heap = h0 := by rw [← hh, Bd.state]; rfl
  have N0 := Fr.nil n0
  have K0 : Keep h0 h0 [] := Keep.refl h0 _
  show own_Goes p e below (own_Fin s (own_b4_Q Z q1 h0 n0) ({ frames := 0, cells := 0, slots := 0, locals := 0 } : Room).cells ({ frames := 0, cells := 0, slots := 0, locals := 0 } : Room).slots) _
  refine own_step (fun t k => castTop (own_b4_ef m q1) k) ?_
  show own_Goes p e below _ (s₁.setTop (mkF m 0 #[.val (.long q1), .second] []))
  refine own_step (fun t k => XS.lloadN X0.here hx rfl (hb hby own_dmethod_4_code_0) rfl k) ?_
  show own_Goes p e below _ (s₁.setTop (mkF m 1 #[.val (.long q1), .second] [(.long q1)]))
  refine own_step (fun t k => XS.l2i X0.here hx rfl (hb hby own_dmethod_4_code_1) rfl k) ?_
  show own_Goes p e below _ (s₁.setTop (mkF m 2 #[.val (.long q1), .second] [(.int (q1.toInt32))]))
  refine own_retV X0 hx hlk Bd.returns (w := (.int (q1.toInt32))) rfl (Or.inl ⟨rfl, Or.inl rfl, _, rfl⟩) (hb hby own_dmethod_4_code_2) ?_ (by decide) (by decide)
  show own_b4_Q Z q1 h0 n0 _ s₁.heap _
  rw [e0]
  exact ⟨rfl, N0, rfl⟩
theorem own_dmethod_5_code_0 : decode method_5_code 0 = .ok (.lload_n 0, 1) := by decide +kernel
theorem own_pd1 : parseMethodDescriptor "(J)I" = some ⟨[.long], some .int⟩ := by decide +kernel
theorem own_dmethod_5_code_1 : decode method_5_code 1 = .ok (.invokestatic 14, 3) := by decide +kernel
theorem own_dmethod_5_code_4 : decode method_5_code 4 = .ok (.i2l, 1) := by decide +kernel
theorem own_dmethod_5_code_5 : decode method_5_code 5 = .ok (.lload_n 0, 1) := by decide +kernel
theorem own_dmethod_5_code_6 : decode method_5_code 6 = .ok (.invokestatic 8, 3) := by decide +kernel
theorem own_dmethod_5_code_9 : decode method_5_code 9 = .ok (.i2l, 1) := by decide +kernel
theorem own_dmethod_5_code_10 : decode method_5_code 10 = .ok (.lsub, 1) := by decide +kernel
theorem own_dmethod_5_code_11 : decode method_5_code 11 = .ok (.lconst 1, 1) := by decide +kernel
theorem own_dmethod_5_code_12 : decode method_5_code 12 = .ok (.ladd, 1) := by decide +kernel
theorem own_dmethod_5_code_13 : decode method_5_code 13 = .ok (.lreturn, 1) := by decide +kernel
theorem own_b5_ef (m : MethodId) (q1 : Int64) : entryFrame m #[(.long q1)] 2 = mkF m 0 #[.val (.long q1), .second] [] := by first | (simp [entryFrame, mkF, argsToLocals, Value.category]; done) | rfl
def own_b5_Q (Z : State) (q1 : Int64) (h0 : Heap) (n0 : Nat) (v : Option Value) (h : Heap) (L : List Loc) : Prop := v = some (.long (own_span q1)) ∧ Fr n0 L ∧ h = h0
set_option maxRecDepth 65536 in
set_option maxHeartbeats 40000000 in
theorem own_b5 (l : Launch) (Z : State) (a0 : Array Value) (hw : ∀ d ∈ tables_1, d.before a0 Z = true) (ws : List Jvm.Cond) (q1 : Int64) (h0 : Heap) (n0 : Nat) (Z0 : n0 ≤ h0.size) :
    MetFree l (⟨"com/example/concepta/concepta/store/RowsBlockCountPinLaw", "span", "(J)J"⟩ : MethodName) (head1 (Jvm.Cond.code (⟨"com/example/concepta/concepta/store/RowsBlockCountPinLaw", "span", "(J)J"⟩ : MethodName) method_5_code 2 (some .long) :: ws) ({ frames := 1, cells := 0, slots := 0, locals := 15 } : Room)) (fun aa U => aa = #[(.long q1)] ∧ Z.Warmed39 U.vm ∧ U.heap = h0) (fun _ _ _ _ _ => True) (fun _ U o U' => ∃ v L, o = .returned v ∧ own_b5_Q Z q1 h0 n0 v U'.heap L ∧ FrameEnd U o U' L ({ frames := 1, cells := 0, slots := 0, locals := 15 } : Room).cells ({ frames := 1, cells := 0, slots := 0, locals := 15 } : Room).slots) := by
  refine MetFree.of_bodySF (plainFor_of_name own_pn2) hisR ?_
  have w32 := hw _ (List.mem_of_getElem? (i := 32) rfl)
  have w33 := hw _ (List.mem_of_getElem? (i := 33) rfl)
  have w34 := hw _ (List.mem_of_getElem? (i := 34) rfl)
  have w35 := hw _ (List.mem_of_getElem? (i := 35) rfl)
  have w36 := hw _ (List.mem_of_getElem? (i := 36) rfl)
  have w37 := hw _ (List.mem_of_getElem? (i := 37) rfl)
  have w38 := hw _ (List.mem_of_getElem? (i := 38) rfl)
  intro p e s m args below meth c s₁ Bd hml0 hP hK
  obtain ⟨rfl, hZ, hh⟩ := hP
  have hx := Bd.exec
  have hby := Bd.bytes
  have hlk := Bd.notSynchronized
  have hml : c.maxLocals = 2 := hml0
  have hown : s.vm.findClass "com/example/concepta/concepta/store/RowsBlockCountPinLaw" = some m.cls := findClass_of_methodNamed Bd.named
  have hnm := (name_of_methodNamed Bd.named Bd.method).1
  have X0 : Stand p l e ({ frames := 1, cells := 0, slots := 0, locals := 15 } : Room) s m #[(.long q1)] below meth c s₁ [] 0 0 := Stand.of_body Bd
  have e0 : s₁.heap = h0 := by rw [← hh, Bd.state]; rfl
  have N0 := Fr.nil n0
  have K0 : Keep h0 h0 [] := Keep.refl h0 _
  show own_Goes p e below (own_Fin s (own_b5_Q Z q1 h0 n0) ({ frames := 1, cells := 0, slots := 0, locals := 15 } : Room).cells ({ frames := 1, cells := 0, slots := 0, locals := 15 } : Room).slots) _
  refine own_step (fun t k => castTop (own_b5_ef m q1) k) ?_
  show own_Goes p e below _ (s₁.setTop (mkF m 0 #[.val (.long q1), .second] []))
  refine own_step (fun t k => XS.lloadN X0.here hx rfl (hb hby own_dmethod_5_code_0) rfl k) ?_
  show own_Goes p e below _ (s₁.setTop (mkF m 1 #[.val (.long q1), .second] [(.long q1)]))
  obtain ⟨_, _, ⟨T27, L27, k27, n27⟩, -, X27, ⟨Lc27, hQ27, l27, y27, z27⟩, st27⟩ := Jvm.LawKit.callS X0 hx (y := (⟨"com/example/concepta/concepta/store/RowsBlockCountPinLaw", "last", "(J)I"⟩ : MethodName)) hown (mvT hZ w36) (mvT hZ w37) (mvT hZ w34) (mvT hZ w38) (by decide) (backOf (W := 0) (own_b4 l Z a0 hw [] q1  h0 n0 Z0 ) hZ w38 w34 (by decide) (by decide)) (g := (mkF m 1 #[.val (.long q1), .second] [(.long q1)])) rfl (by rw [hml]; rfl) (argsL := [(.long q1)]) (rest := []) (lenOf own_pd1 rfl) rfl (by show 2 * 0 + _ ≤ _; exact Nat.le_of_eq rfl) (hb hby own_dmethod_5_code_1) (fun _ _ => ⟨rfl, e0, (by decide : 0 + 0 ≤ _), (by decide : 0 + 0 ≤ _)⟩)
  dsimp only [Pt.U, Pt.locs, Pt.cells, Pt.slots] at X27 l27 y27 z27 st27 hQ27
  subst y27 z27
  obtain ⟨rfl, N27q, eh27⟩ := hQ27
  have N27 : Fr n0 L27 := by rw [l27]; exact Fr.app N0 N27q
  refine own_step st27 ?_
  show own_Goes p e below _ (T27.setTop (mkF m 4 #[.val (.long q1), .second] [(.int (own_last q1))]))
  refine own_step (fun t k => XS.i2l X27.here hx rfl (hb hby own_dmethod_5_code_4) rfl k) ?_
  show own_Goes p e below _ (T27.setTop (mkF m 5 #[.val (.long q1), .second] [(.long ((own_last q1).toInt64))]))
  refine own_step (fun t k => XS.lloadN X27.here hx rfl (hb hby own_dmethod_5_code_5) rfl k) ?_
  show own_Goes p e below _ (T27.setTop (mkF m 6 #[.val (.long q1), .second] [(.long q1), (.long ((own_last q1).toInt64))]))
  obtain ⟨_, _, ⟨T28, L28, k28, n28⟩, -, X28, ⟨Lc28, hQ28, l28, y28, z28⟩, st28⟩ := Jvm.LawKit.callS X27 hx (y := (⟨"com/example/concepta/concepta/store/RowsBlockCountPinLaw", "first", "(J)I"⟩ : MethodName)) hown (mvT hZ w32) (mvT hZ w33) (mvT hZ w34) (mvT hZ w35) (by decide) (backOf (W := 2) (own_b3 l Z a0 hw [] q1  h0 n0 Z0 ) hZ w35 w34 (by decide) (by decide)) (g := (mkF m 6 #[.val (.long q1), .second] [(.long q1), (.long ((own_last q1).toInt64))])) rfl (by rw [hml]; rfl) (argsL := [(.long q1)]) (rest := [(.long ((own_last q1).toInt64))]) (lenOf own_pd1 rfl) rfl (by show 2 * 0 + _ ≤ _; exact Nat.le_of_eq rfl) (hb hby own_dmethod_5_code_6) (fun _ _ => ⟨rfl, eh27, (by decide : 0 + 0 ≤ _), (by decide : 0 + 0 ≤ _)⟩)
  dsimp only [Pt.U, Pt.locs, Pt.cells, Pt.slots] at X28 l28 y28 z28 st28 hQ28
  subst y28 z28
  obtain ⟨rfl, N28q, eh28⟩ := hQ28
  have N28 : Fr n0 L28 := by rw [l28]; exact Fr.app N27 N28q
  refine own_step st28 ?_
  show own_Goes p e below _ (T28.setTop (mkF m 9 #[.val (.long q1), .second] [(.int (own_first q1)), (.long ((own_last q1).toInt64))]))
  refine own_step (fun t k => XS.i2l X28.here hx rfl (hb hby own_dmethod_5_code_9) rfl k) ?_
  show own_Goes p e below _ (T28.setTop (mkF m 10 #[.val (.long q1), .second] [(.long ((own_first q1).toInt64)), (.long ((own_last q1).toInt64))]))
  refine own_step (fun t k => XS.lsub X28.here hx rfl (hb hby own_dmethod_5_code_10) rfl k) ?_
  show own_Goes p e below _ (T28.setTop (mkF m 11 #[.val (.long q1), .second] [(.long (((own_last q1).toInt64) - ((own_first q1).toInt64)))]))
  refine own_step (fun t k => XS.lconst X28.here hx rfl (hb hby own_dmethod_5_code_11) k) ?_
  show own_Goes p e below _ (T28.setTop (mkF m 12 #[.val (.long q1), .second] [(.long (1 : Int64)), (.long (((own_last q1).toInt64) - ((own_first q1).toInt64)))]))
  refine own_step (fun t k => XS.ladd X28.here hx rfl (hb hby own_dmethod_5_code_12) rfl k) ?_
  show own_Goes p e below _ (T28.setTop (mkF m 13 #[.val (.long q1), .second] [(.long ((((own_last q1).toInt64) - ((own_first q1).toInt64)) + (1 : Int64)))]))
  refine own_retV X28 hx hlk Bd.returns (w := (.long ((((own_last q1).toInt64) - ((own_first q1).toInt64)) + (1 : Int64)))) rfl (Or.inr (Or.inl ⟨rfl, rfl, _, rfl⟩)) (hb hby own_dmethod_5_code_13) ?_ (by decide) (by decide)
  show own_b5_Q Z q1 h0 n0 _ T28.heap _
  rw [eh28]
  exact ⟨rfl, N28, rfl⟩
theorem own_dprog_129_method_2_code_0 : decode prog_129_method_2_code 0 = .ok (.iconst 0, 1) := by decide +kernel
theorem own_dprog_129_method_2_code_1 : decode prog_129_method_2_code 1 = .ok (.istore_n 1, 1) := by decide +kernel
theorem own_dprog_129_method_2_code_2 : decode prog_129_method_2_code 2 = .ok (.iconst 0, 1) := by decide +kernel
theorem own_dprog_129_method_2_code_3 : decode prog_129_method_2_code 3 = .ok (.istore_n 2, 1) := by decide +kernel
theorem own_dprog_129_method_2_code_4 : decode prog_129_method_2_code 4 = .ok (.iload_n 2, 1) := by decide +kernel
theorem own_dprog_129_method_2_code_5 : decode prog_129_method_2_code 5 = .ok (.aload_n 0, 1) := by decide +kernel
theorem own_dprog_129_method_2_code_6 : decode prog_129_method_2_code 6 = .ok (.getfield 7, 3) := by decide +kernel
theorem own_dprog_129_method_2_code_9 : decode prog_129_method_2_code 9 = .ok (.arraylength, 1) := by decide +kernel
theorem own_dprog_129_method_2_code_10 : decode prog_129_method_2_code 10 = .ok (.if_icmp .ge 27, 3) := by decide +kernel
theorem own_dprog_129_method_2_code_37 : decode prog_129_method_2_code 37 = .ok (.iload_n 1, 1) := by decide +kernel
theorem own_dprog_129_method_2_code_38 : decode prog_129_method_2_code 38 = .ok (.ireturn, 1) := by decide +kernel
theorem own_c0_ef (m : MethodId) (a1 : Addr) : entryFrame m #[(.ref a1)] 3 = mkF m 0 #[.val (.ref a1), .unset, .unset] [] := by first | (simp [entryFrame, mkF, argsToLocals, Value.category]; done) | rfl
def own_c0_Q (Z : State) (a1 : Addr) (rg : Addr) (fi : Addr) (la : Addr) (k1 : ClassId) (k2 : ClassId) (k3 : ClassId) (xs1 : List Int64) (xs2 : List Int32) (xs3 : List Int32) (h0 : Heap) (n0 : Nat) (v : Option Value) (h : Heap) (L : List Loc) : Prop := v = some (.int (0 : Int32)) ∧ Fr n0 L ∧ h = h0
set_option maxRecDepth 65536 in
set_option maxHeartbeats 40000000 in
theorem own_c0 (l : Launch) (Z : State) (a0 : Array Value) (hw : ∀ d ∈ tables_1, d.before a0 Z = true) (ws : List Jvm.Cond) (a1 : Addr) (rg : Addr) (fi : Addr) (la : Addr) (k1 : ClassId) (k2 : ClassId) (k3 : ClassId) (xs1 : List Int64) (xs2 : List Int32) (xs3 : List Int32) (h0 : Heap) (n0 : Nat) (Z0 : n0 ≤ h0.size) (F_regions_a1 : Fld Z h0 a1 "com/example/concepta/concepta/store/OidSet$Rows" "regions" "[J" (.ref rg)) (F_firsts_a1 : Fld Z h0 a1 "com/example/concepta/concepta/store/OidSet$Rows" "firsts" "[I" (.ref fi)) (F_lasts_a1 : Fld Z h0 a1 "com/example/concepta/concepta/store/OidSet$Rows" "lasts" "[I" (.ref la)) (V_rg : Arv Z h0 rg k1 .long (0 : Int32) (xs1.map Value.long) (Value.long 0)) (V_fi : Arv Z h0 fi k2 .int (0 : Int32) (xs2.map Value.int) (Value.int 0)) (V_la : Arv Z h0 la k3 .int (0 : Int32) (xs3.map Value.int) (Value.int 0)) :
    MetFree l (⟨"com/example/concepta/concepta/store/OidSet$Rows", "blockCount", "()I"⟩ : MethodName) (head1 (Jvm.Cond.code (⟨"com/example/concepta/concepta/store/OidSet$Rows", "blockCount", "()I"⟩ : MethodName) prog_129_method_2_code 3 (some .int) :: ws) ({ frames := 0, cells := 0, slots := 0, locals := 0 } : Room)) (fun aa U => aa = #[(.ref a1)] ∧ Z.Warmed39 U.vm ∧ U.heap = h0) (fun _ _ _ _ _ => True) (fun _ U o U' => ∃ v L, o = .returned v ∧ own_c0_Q Z a1 rg fi la k1 k2 k3 xs1 xs2 xs3 h0 n0 v U'.heap L ∧ FrameEnd U o U' L ({ frames := 0, cells := 0, slots := 0, locals := 0 } : Room).cells ({ frames := 0, cells := 0, slots := 0, locals := 0 } : Room).slots) := by
  refine MetFree.of_bodySF (plainFor_of_name own_pn1) hisR ?_
  have w17 := hw _ (List.mem_of_getElem? (i := 17) rfl)
  intro p e s m args below meth c s₁ Bd hml0 hP hK
  obtain ⟨rfl, hZ, hh⟩ := hP
  have hx := Bd.exec
  have hby := Bd.bytes
  have hlk := Bd.notSynchronized
  have hml : c.maxLocals = 3 := hml0
  have hown : s.vm.findClass "com/example/concepta/concepta/store/OidSet$Rows" = some m.cls := findClass_of_methodNamed Bd.named
  have hnm := (name_of_methodNamed Bd.named Bd.method).1
  have X0 : Stand p l e ({ frames := 0, cells := 0, slots := 0, locals := 0 } : Room) s m #[(.ref a1)] below meth c s₁ [] 0 0 := Stand.of_body Bd
  have e0 : s₁.heap = h0 := by rw [← hh, Bd.state]; rfl
  have N0 := Fr.nil n0
  have K0 : Keep h0 h0 [] := Keep.refl h0 _
  show own_Goes p e below (own_Fin s (own_c0_Q Z a1 rg fi la k1 k2 k3 xs1 xs2 xs3 h0 n0) ({ frames := 0, cells := 0, slots := 0, locals := 0 } : Room).cells ({ frames := 0, cells := 0, slots := 0, locals := 0 } : Room).slots) _
  refine own_step (fun t k => castTop (own_c0_ef m a1) k) ?_
  show own_Goes p e below _ (s₁.setTop (mkF m 0 #[.val (.ref a1), .unset, .unset] []))
  refine own_step (fun t k => XS.iconst X0.here hx rfl (hb hby own_dprog_129_method_2_code_0) k) ?_
  show own_Goes p e below _ (s₁.setTop (mkF m 1 #[.val (.ref a1), .unset, .unset] [(.int (0 : Int32))]))
  refine own_step (fun t k => XS.istoreN X0.here hx rfl (hb hby own_dprog_129_method_2_code_1) rfl (l' := #[.val (.ref a1), .val (.int (0 : Int32)), .unset]) rfl k) ?_
  show own_Goes p e below _ (s₁.setTop (mkF m 2 #[.val (.ref a1), .val (.int (0 : Int32)), .unset] []))
  refine own_step (fun t k => XS.iconst X0.here hx rfl (hb hby own_dprog_129_method_2_code_2) k) ?_
  show own_Goes p e below _ (s₁.setTop (mkF m 3 #[.val (.ref a1), .val (.int (0 : Int32)), .unset] [(.int (0 : Int32))]))
  refine own_step (fun t k => XS.istoreN X0.here hx rfl (hb hby own_dprog_129_method_2_code_3) rfl (l' := #[.val (.ref a1), .val (.int (0 : Int32)), .val (.int (0 : Int32))]) rfl k) ?_
  show own_Goes p e below _ (s₁.setTop (mkF m 4 #[.val (.ref a1), .val (.int (0 : Int32)), .val (.int (0 : Int32))] []))
  refine own_step (fun t k => XS.iloadN X0.here hx rfl (hb hby own_dprog_129_method_2_code_4) rfl k) ?_
  show own_Goes p e below _ (s₁.setTop (mkF m 5 #[.val (.ref a1), .val (.int (0 : Int32)), .val (.int (0 : Int32))] [(.int (0 : Int32))]))
  refine own_step (fun t k => XS.aloadN X0.here hx rfl (hb hby own_dprog_129_method_2_code_5) rfl rfl k) ?_
  show own_Goes p e below _ (s₁.setTop (mkF m 6 #[.val (.ref a1), .val (.int (0 : Int32)), .val (.int (0 : Int32))] [(.ref a1), (.int (0 : Int32))]))
  obtain ⟨T31, X31, e31, st31⟩ := getF X0 hx hZ hown (host := "") (Or.inl w17) Via.refl e0 F_regions_a1 (g := (mkF m 6 #[.val (.ref a1), .val (.int (0 : Int32)), .val (.int (0 : Int32))] [(.ref a1), (.int (0 : Int32))])) rfl rfl (hb hby own_dprog_129_method_2_code_6)
  refine own_step st31 ?_
  show own_Goes p e below _ (T31.setTop (mkF m 9 #[.val (.ref a1), .val (.int (0 : Int32)), .val (.int (0 : Int32))] [(.ref rg), (.int (0 : Int32))]))
  refine own_step (fun t k => own_len X31 hx hZ e31 V_rg (g := (mkF m 9 #[.val (.ref a1), .val (.int (0 : Int32)), .val (.int (0 : Int32))] [(.ref rg), (.int (0 : Int32))])) rfl rfl (hb hby own_dprog_129_method_2_code_9) _ k) ?_
  show own_Goes p e below _ (T31.setTop (mkF m 10 #[.val (.ref a1), .val (.int (0 : Int32)), .val (.int (0 : Int32))] [(.int (0 : Int32)), (.int (0 : Int32))]))
  have hc32 : ¬ ((0 : Int32) < (0 : Int32)) := by decide
  refine own_step (fun t k => XS.icmpYes X31.here hx rfl (pc0 := 10) (pc' := 37) rfl (hb hby own_dprog_129_method_2_code_10) rfl (flt hc32).2.1 (by decide) (by decide) k) ?_
  show own_Goes p e below _ (T31.setTop (mkF m 37 #[.val (.ref a1), .val (.int (0 : Int32)), .val (.int (0 : Int32))] []))
  refine own_step (fun t k => XS.iloadN X31.here hx rfl (hb hby own_dprog_129_method_2_code_37) rfl k) ?_
  show own_Goes p e below _ (T31.setTop (mkF m 38 #[.val (.ref a1), .val (.int (0 : Int32)), .val (.int (0 : Int32))] [(.int (0 : Int32))]))
  refine own_retV X31 hx hlk Bd.returns (w := (.int (0 : Int32))) rfl (Or.inl ⟨rfl, Or.inl rfl, _, rfl⟩) (hb hby own_dprog_129_method_2_code_38) ?_ (by decide) (by decide)
  show own_c0_Q Z a1 rg fi la k1 k2 k3 xs1 xs2 xs3 h0 n0 _ T31.heap _
  rw [e31]
  exact ⟨rfl, N0, rfl⟩
theorem own_dprog_129_method_2_code_13 : decode prog_129_method_2_code 13 = .ok (.iload_n 1, 1) := by decide +kernel
theorem own_dprog_129_method_2_code_14 : decode prog_129_method_2_code 14 = .ok (.aload_n 0, 1) := by decide +kernel
theorem own_dprog_129_method_2_code_15 : decode prog_129_method_2_code 15 = .ok (.getfield 17, 3) := by decide +kernel
theorem own_dprog_129_method_2_code_18 : decode prog_129_method_2_code 18 = .ok (.iload_n 2, 1) := by decide +kernel
theorem own_dprog_129_method_2_code_19 : decode prog_129_method_2_code 19 = .ok (.iaload, 1) := by decide +kernel
theorem own_dprog_129_method_2_code_20 : decode prog_129_method_2_code 20 = .ok (.aload_n 0, 1) := by decide +kernel
theorem own_dprog_129_method_2_code_21 : decode prog_129_method_2_code 21 = .ok (.getfield 13, 3) := by decide +kernel
theorem own_dprog_129_method_2_code_24 : decode prog_129_method_2_code 24 = .ok (.iload_n 2, 1) := by decide +kernel
theorem own_dprog_129_method_2_code_25 : decode prog_129_method_2_code 25 = .ok (.iaload, 1) := by decide +kernel
theorem own_dprog_129_method_2_code_26 : decode prog_129_method_2_code 26 = .ok (.isub, 1) := by decide +kernel
theorem own_dprog_129_method_2_code_27 : decode prog_129_method_2_code 27 = .ok (.iconst 1, 1) := by decide +kernel
theorem own_dprog_129_method_2_code_28 : decode prog_129_method_2_code 28 = .ok (.iadd, 1) := by decide +kernel
theorem own_dprog_129_method_2_code_29 : decode prog_129_method_2_code 29 = .ok (.iadd, 1) := by decide +kernel
theorem own_dprog_129_method_2_code_30 : decode prog_129_method_2_code 30 = .ok (.istore_n 1, 1) := by decide +kernel
theorem own_dprog_129_method_2_code_31 : decode prog_129_method_2_code 31 = .ok (.iinc 2 1, 3) := by decide +kernel
theorem own_dprog_129_method_2_code_34 : decode prog_129_method_2_code 34 = .ok (.goto (-30), 3) := by decide +kernel
theorem own_c1_ef (m : MethodId) (a1 : Addr) : entryFrame m #[(.ref a1)] 3 = mkF m 0 #[.val (.ref a1), .unset, .unset] [] := by first | (simp [entryFrame, mkF, argsToLocals, Value.category]; done) | rfl
def own_c1_Q (Z : State) (a1 : Addr) (rg : Addr) (fi : Addr) (la : Addr) (k1 : ClassId) (k2 : ClassId) (k3 : ClassId) (xs1 : List Int64) (xs2 : List Int32) (xs3 : List Int32) (h0 : Heap) (n0 : Nat) (v : Option Value) (h : Heap) (L : List Loc) : Prop := v = some (.int ((0 : Int32) + (((xs3.getD (0 : Int32).toNatClampNeg 0) - (xs2.getD (0 : Int32).toNatClampNeg 0)) + (1 : Int32)))) ∧ Fr n0 L ∧ h = h0
set_option maxRecDepth 65536 in
set_option maxHeartbeats 40000000 in
theorem own_c1 (l : Launch) (Z : State) (a0 : Array Value) (hw : ∀ d ∈ tables_1, d.before a0 Z = true) (ws : List Jvm.Cond) (a1 : Addr) (rg : Addr) (fi : Addr) (la : Addr) (k1 : ClassId) (k2 : ClassId) (k3 : ClassId) (xs1 : List Int64) (xs2 : List Int32) (xs3 : List Int32) (h0 : Heap) (n0 : Nat) (Z0 : n0 ≤ h0.size) (F_regions_a1 : Fld Z h0 a1 "com/example/concepta/concepta/store/OidSet$Rows" "regions" "[J" (.ref rg)) (F_firsts_a1 : Fld Z h0 a1 "com/example/concepta/concepta/store/OidSet$Rows" "firsts" "[I" (.ref fi)) (F_lasts_a1 : Fld Z h0 a1 "com/example/concepta/concepta/store/OidSet$Rows" "lasts" "[I" (.ref la)) (V_rg : Arv Z h0 rg k1 .long (1 : Int32) (xs1.map Value.long) (Value.long 0)) (V_fi : Arv Z h0 fi k2 .int (1 : Int32) (xs2.map Value.int) (Value.int 0)) (V_la : Arv Z h0 la k3 .int (1 : Int32) (xs3.map Value.int) (Value.int 0)) :
    MetFree l (⟨"com/example/concepta/concepta/store/OidSet$Rows", "blockCount", "()I"⟩ : MethodName) (head1 (Jvm.Cond.code (⟨"com/example/concepta/concepta/store/OidSet$Rows", "blockCount", "()I"⟩ : MethodName) prog_129_method_2_code 3 (some .int) :: ws) ({ frames := 0, cells := 0, slots := 0, locals := 0 } : Room)) (fun aa U => aa = #[(.ref a1)] ∧ Z.Warmed39 U.vm ∧ U.heap = h0) (fun _ _ _ _ _ => True) (fun _ U o U' => ∃ v L, o = .returned v ∧ own_c1_Q Z a1 rg fi la k1 k2 k3 xs1 xs2 xs3 h0 n0 v U'.heap L ∧ FrameEnd U o U' L ({ frames := 0, cells := 0, slots := 0, locals := 0 } : Room).cells ({ frames := 0, cells := 0, slots := 0, locals := 0 } : Room).slots) := by
  refine MetFree.of_bodySF (plainFor_of_name own_pn1) hisR ?_
  have w17 := hw _ (List.mem_of_getElem? (i := 17) rfl)
  have w19 := hw _ (List.mem_of_getElem? (i := 19) rfl)
  have w21 := hw _ (List.mem_of_getElem? (i := 21) rfl)
  intro p e s m args below meth c s₁ Bd hml0 hP hK
  obtain ⟨rfl, hZ, hh⟩ := hP
  have hx := Bd.exec
  have hby := Bd.bytes
  have hlk := Bd.notSynchronized
  have hml : c.maxLocals = 3 := hml0
  have hown : s.vm.findClass "com/example/concepta/concepta/store/OidSet$Rows" = some m.cls := findClass_of_methodNamed Bd.named
  have hnm := (name_of_methodNamed Bd.named Bd.method).1
  have X0 : Stand p l e ({ frames := 0, cells := 0, slots := 0, locals := 0 } : Room) s m #[(.ref a1)] below meth c s₁ [] 0 0 := Stand.of_body Bd
  have e0 : s₁.heap = h0 := by rw [← hh, Bd.state]; rfl
  have N0 := Fr.nil n0
  have K0 : Keep h0 h0 [] := Keep.refl h0 _
  show own_Goes p e below (own_Fin s (own_c1_Q Z a1 rg fi la k1 k2 k3 xs1 xs2 xs3 h0 n0) ({ frames := 0, cells := 0, slots := 0, locals := 0 } : Room).cells ({ frames := 0, cells := 0, slots := 0, locals := 0 } : Room).slots) _
  refine own_step (fun t k => castTop (own_c1_ef m a1) k) ?_
  show own_Goes p e below _ (s₁.setTop (mkF m 0 #[.val (.ref a1), .unset, .unset] []))
  refine own_step (fun t k => XS.iconst X0.here hx rfl (hb hby own_dprog_129_method_2_code_0) k) ?_
  show own_Goes p e below _ (s₁.setTop (mkF m 1 #[.val (.ref a1), .unset, .unset] [(.int (0 : Int32))]))
  refine own_step (fun t k => XS.istoreN X0.here hx rfl (hb hby own_dprog_129_method_2_code_1) rfl (l' := #[.val (.ref a1), .val (.int (0 : Int32)), .unset]) rfl k) ?_
  show own_Goes p e below _ (s₁.setTop (mkF m 2 #[.val (.ref a1), .val (.int (0 : Int32)), .unset] []))
  refine own_step (fun t k => XS.iconst X0.here hx rfl (hb hby own_dprog_129_method_2_code_2) k) ?_
  show own_Goes p e below _ (s₁.setTop (mkF m 3 #[.val (.ref a1), .val (.int (0 : Int32)), .unset] [(.int (0 : Int32))]))
  refine own_step (fun t k => XS.istoreN X0.here hx rfl (hb hby own_dprog_129_method_2_code_3) rfl (l' := #[.val (.ref a1), .val (.int (0 : Int32)), .val (.int (0 : Int32))]) rfl k) ?_
  show own_Goes p e below _ (s₁.setTop (mkF m 4 #[.val (.ref a1), .val (.int (0 : Int32)), .val (.int (0 : Int32))] []))
  refine own_step (fun t k => XS.iloadN X0.here hx rfl (hb hby own_dprog_129_method_2_code_4) rfl k) ?_
  show own_Goes p e below _ (s₁.setTop (mkF m 5 #[.val (.ref a1), .val (.int (0 : Int32)), .val (.int (0 : Int32))] [(.int (0 : Int32))]))
  refine own_step (fun t k => XS.aloadN X0.here hx rfl (hb hby own_dprog_129_method_2_code_5) rfl rfl k) ?_
  show own_Goes p e below _ (s₁.setTop (mkF m 6 #[.val (.ref a1), .val (.int (0 : Int32)), .val (.int (0 : Int32))] [(.ref a1), (.int (0 : Int32))]))
  obtain ⟨T39, X39, e39, st39⟩ := getF X0 hx hZ hown (host := "") (Or.inl w17) Via.refl e0 F_regions_a1 (g := (mkF m 6 #[.val (.ref a1), .val (.int (0 : Int32)), .val (.int (0 : Int32))] [(.ref a1), (.int (0 : Int32))])) rfl rfl (hb hby own_dprog_129_method_2_code_6)
  refine own_step st39 ?_
  show own_Goes p e below _ (T39.setTop (mkF m 9 #[.val (.ref a1), .val (.int (0 : Int32)), .val (.int (0 : Int32))] [(.ref rg), (.int (0 : Int32))]))
  refine own_step (fun t k => own_len X39 hx hZ e39 V_rg (g := (mkF m 9 #[.val (.ref a1), .val (.int (0 : Int32)), .val (.int (0 : Int32))] [(.ref rg), (.int (0 : Int32))])) rfl rfl (hb hby own_dprog_129_method_2_code_9) _ k) ?_
  show own_Goes p e below _ (T39.setTop (mkF m 10 #[.val (.ref a1), .val (.int (0 : Int32)), .val (.int (0 : Int32))] [(.int (1 : Int32)), (.int (0 : Int32))]))
  have hc40 : (0 : Int32) < (1 : Int32) := by decide
  refine own_step (fun t k => XS.icmpNo X39.here hx rfl (hb hby own_dprog_129_method_2_code_10) rfl (tlt hc40).2.1 k) ?_
  show own_Goes p e below _ (T39.setTop (mkF m 13 #[.val (.ref a1), .val (.int (0 : Int32)), .val (.int (0 : Int32))] []))
  refine own_step (fun t k => XS.iloadN X39.here hx rfl (hb hby own_dprog_129_method_2_code_13) rfl k) ?_
  show own_Goes p e below _ (T39.setTop (mkF m 14 #[.val (.ref a1), .val (.int (0 : Int32)), .val (.int (0 : Int32))] [(.int (0 : Int32))]))
  refine own_step (fun t k => XS.aloadN X39.here hx rfl (hb hby own_dprog_129_method_2_code_14) rfl rfl k) ?_
  show own_Goes p e below _ (T39.setTop (mkF m 15 #[.val (.ref a1), .val (.int (0 : Int32)), .val (.int (0 : Int32))] [(.ref a1), (.int (0 : Int32))]))
  obtain ⟨T41, X41, e41, st41⟩ := getF X39 hx hZ hown (host := "") (Or.inl w21) Via.refl e39 F_lasts_a1 (g := (mkF m 15 #[.val (.ref a1), .val (.int (0 : Int32)), .val (.int (0 : Int32))] [(.ref a1), (.int (0 : Int32))])) rfl rfl (hb hby own_dprog_129_method_2_code_15)
  refine own_step st41 ?_
  show own_Goes p e below _ (T41.setTop (mkF m 18 #[.val (.ref a1), .val (.int (0 : Int32)), .val (.int (0 : Int32))] [(.ref la), (.int (0 : Int32))]))
  refine own_step (fun t k => XS.iloadN X41.here hx rfl (hb hby own_dprog_129_method_2_code_18) rfl k) ?_
  show own_Goes p e below _ (T41.setTop (mkF m 19 #[.val (.ref a1), .val (.int (0 : Int32)), .val (.int (0 : Int32))] [(.int (0 : Int32)), (.ref la), (.int (0 : Int32))]))
  refine own_step (fun t k => own_ial X41 hx hZ e41 V_la ⟨by decide, by decide⟩ (g := (mkF m 19 #[.val (.ref a1), .val (.int (0 : Int32)), .val (.int (0 : Int32))] [(.int (0 : Int32)), (.ref la), (.int (0 : Int32))])) rfl rfl (hb hby own_dprog_129_method_2_code_19) _ k) ?_
  show own_Goes p e below _ (T41.setTop (mkF m 20 #[.val (.ref a1), .val (.int (0 : Int32)), .val (.int (0 : Int32))] [(.int (xs3.getD (0 : Int32).toNatClampNeg 0)), (.int (0 : Int32))]))
  refine own_step (fun t k => XS.aloadN X41.here hx rfl (hb hby own_dprog_129_method_2_code_20) rfl rfl k) ?_
  show own_Goes p e below _ (T41.setTop (mkF m 21 #[.val (.ref a1), .val (.int (0 : Int32)), .val (.int (0 : Int32))] [(.ref a1), (.int (xs3.getD (0 : Int32).toNatClampNeg 0)), (.int (0 : Int32))]))
  obtain ⟨T42, X42, e42, st42⟩ := getF X41 hx hZ hown (host := "") (Or.inl w19) Via.refl e41 F_firsts_a1 (g := (mkF m 21 #[.val (.ref a1), .val (.int (0 : Int32)), .val (.int (0 : Int32))] [(.ref a1), (.int (xs3.getD (0 : Int32).toNatClampNeg 0)), (.int (0 : Int32))])) rfl rfl (hb hby own_dprog_129_method_2_code_21)
  refine own_step st42 ?_
  show own_Goes p e below _ (T42.setTop (mkF m 24 #[.val (.ref a1), .val (.int (0 : Int32)), .val (.int (0 : Int32))] [(.ref fi), (.int (xs3.getD (0 : Int32).toNatClampNeg 0)), (.int (0 : Int32))]))
  refine own_step (fun t k => XS.iloadN X42.here hx rfl (hb hby own_dprog_129_method_2_code_24) rfl k) ?_
  show own_Goes p e below _ (T42.setTop (mkF m 25 #[.val (.ref a1), .val (.int (0 : Int32)), .val (.int (0 : Int32))] [(.int (0 : Int32)), (.ref fi), (.int (xs3.getD (0 : Int32).toNatClampNeg 0)), (.int (0 : Int32))]))
  refine own_step (fun t k => own_ial X42 hx hZ e42 V_fi ⟨by decide, by decide⟩ (g := (mkF m 25 #[.val (.ref a1), .val (.int (0 : Int32)), .val (.int (0 : Int32))] [(.int (0 : Int32)), (.ref fi), (.int (xs3.getD (0 : Int32).toNatClampNeg 0)), (.int (0 : Int32))])) rfl rfl (hb hby own_dprog_129_method_2_code_25) _ k) ?_
  show own_Goes p e below _ (T42.setTop (mkF m 26 #[.val (.ref a1), .val (.int (0 : Int32)), .val (.int (0 : Int32))] [(.int (xs2.getD (0 : Int32).toNatClampNeg 0)), (.int (xs3.getD (0 : Int32).toNatClampNeg 0)), (.int (0 : Int32))]))
  refine own_step (fun t k => XS.isub X42.here hx rfl (hb hby own_dprog_129_method_2_code_26) rfl k) ?_
  show own_Goes p e below _ (T42.setTop (mkF m 27 #[.val (.ref a1), .val (.int (0 : Int32)), .val (.int (0 : Int32))] [(.int ((xs3.getD (0 : Int32).toNatClampNeg 0) - (xs2.getD (0 : Int32).toNatClampNeg 0))), (.int (0 : Int32))]))
  refine own_step (fun t k => XS.iconst X42.here hx rfl (hb hby own_dprog_129_method_2_code_27) k) ?_
  show own_Goes p e below _ (T42.setTop (mkF m 28 #[.val (.ref a1), .val (.int (0 : Int32)), .val (.int (0 : Int32))] [(.int (1 : Int32)), (.int ((xs3.getD (0 : Int32).toNatClampNeg 0) - (xs2.getD (0 : Int32).toNatClampNeg 0))), (.int (0 : Int32))]))
  refine own_step (fun t k => XS.iadd X42.here hx rfl (hb hby own_dprog_129_method_2_code_28) rfl k) ?_
  show own_Goes p e below _ (T42.setTop (mkF m 29 #[.val (.ref a1), .val (.int (0 : Int32)), .val (.int (0 : Int32))] [(.int (((xs3.getD (0 : Int32).toNatClampNeg 0) - (xs2.getD (0 : Int32).toNatClampNeg 0)) + (1 : Int32))), (.int (0 : Int32))]))
  refine own_step (fun t k => XS.iadd X42.here hx rfl (hb hby own_dprog_129_method_2_code_29) rfl k) ?_
  show own_Goes p e below _ (T42.setTop (mkF m 30 #[.val (.ref a1), .val (.int (0 : Int32)), .val (.int (0 : Int32))] [(.int ((0 : Int32) + (((xs3.getD (0 : Int32).toNatClampNeg 0) - (xs2.getD (0 : Int32).toNatClampNeg 0)) + (1 : Int32))))]))
  refine own_step (fun t k => XS.istoreN X42.here hx rfl (hb hby own_dprog_129_method_2_code_30) rfl (l' := #[.val (.ref a1), .val (.int ((0 : Int32) + (((xs3.getD (0 : Int32).toNatClampNeg 0) - (xs2.getD (0 : Int32).toNatClampNeg 0)) + (1 : Int32)))), .val (.int (0 : Int32))]) rfl k) ?_
  show own_Goes p e below _ (T42.setTop (mkF m 31 #[.val (.ref a1), .val (.int ((0 : Int32) + (((xs3.getD (0 : Int32).toNatClampNeg 0) - (xs2.getD (0 : Int32).toNatClampNeg 0)) + (1 : Int32)))), .val (.int (0 : Int32))] []))
  refine own_step (fun t k => XS.iinc X42.here hx rfl (hb hby own_dprog_129_method_2_code_31) rfl (l' := #[.val (.ref a1), .val (.int ((0 : Int32) + (((xs3.getD (0 : Int32).toNatClampNeg 0) - (xs2.getD (0 : Int32).toNatClampNeg 0)) + (1 : Int32)))), .val (.int (1 : Int32))]) rfl k) ?_
  show own_Goes p e below _ (T42.setTop (mkF m 34 #[.val (.ref a1), .val (.int ((0 : Int32) + (((xs3.getD (0 : Int32).toNatClampNeg 0) - (xs2.getD (0 : Int32).toNatClampNeg 0)) + (1 : Int32)))), .val (.int (1 : Int32))] []))
  refine own_step (fun t k => XS.goto X42.here hx rfl (pc0 := 34) (pc' := 4) rfl (hb hby own_dprog_129_method_2_code_34) (by decide) (by decide) k) ?_
  show own_Goes p e below _ (T42.setTop (mkF m 4 #[.val (.ref a1), .val (.int ((0 : Int32) + (((xs3.getD (0 : Int32).toNatClampNeg 0) - (xs2.getD (0 : Int32).toNatClampNeg 0)) + (1 : Int32)))), .val (.int (1 : Int32))] []))
  refine own_step (fun t k => XS.iloadN X42.here hx rfl (hb hby own_dprog_129_method_2_code_4) rfl k) ?_
  show own_Goes p e below _ (T42.setTop (mkF m 5 #[.val (.ref a1), .val (.int ((0 : Int32) + (((xs3.getD (0 : Int32).toNatClampNeg 0) - (xs2.getD (0 : Int32).toNatClampNeg 0)) + (1 : Int32)))), .val (.int (1 : Int32))] [(.int (1 : Int32))]))
  refine own_step (fun t k => XS.aloadN X42.here hx rfl (hb hby own_dprog_129_method_2_code_5) rfl rfl k) ?_
  show own_Goes p e below _ (T42.setTop (mkF m 6 #[.val (.ref a1), .val (.int ((0 : Int32) + (((xs3.getD (0 : Int32).toNatClampNeg 0) - (xs2.getD (0 : Int32).toNatClampNeg 0)) + (1 : Int32)))), .val (.int (1 : Int32))] [(.ref a1), (.int (1 : Int32))]))
  obtain ⟨T43, X43, e43, st43⟩ := getF X42 hx hZ hown (host := "") (Or.inl w17) Via.refl e42 F_regions_a1 (g := (mkF m 6 #[.val (.ref a1), .val (.int ((0 : Int32) + (((xs3.getD (0 : Int32).toNatClampNeg 0) - (xs2.getD (0 : Int32).toNatClampNeg 0)) + (1 : Int32)))), .val (.int (1 : Int32))] [(.ref a1), (.int (1 : Int32))])) rfl rfl (hb hby own_dprog_129_method_2_code_6)
  refine own_step st43 ?_
  show own_Goes p e below _ (T43.setTop (mkF m 9 #[.val (.ref a1), .val (.int ((0 : Int32) + (((xs3.getD (0 : Int32).toNatClampNeg 0) - (xs2.getD (0 : Int32).toNatClampNeg 0)) + (1 : Int32)))), .val (.int (1 : Int32))] [(.ref rg), (.int (1 : Int32))]))
  refine own_step (fun t k => own_len X43 hx hZ e43 V_rg (g := (mkF m 9 #[.val (.ref a1), .val (.int ((0 : Int32) + (((xs3.getD (0 : Int32).toNatClampNeg 0) - (xs2.getD (0 : Int32).toNatClampNeg 0)) + (1 : Int32)))), .val (.int (1 : Int32))] [(.ref rg), (.int (1 : Int32))])) rfl rfl (hb hby own_dprog_129_method_2_code_9) _ k) ?_
  show own_Goes p e below _ (T43.setTop (mkF m 10 #[.val (.ref a1), .val (.int ((0 : Int32) + (((xs3.getD (0 : Int32).toNatClampNeg 0) - (xs2.getD (0 : Int32).toNatClampNeg 0)) + (1 : Int32)))), .val (.int (1 : Int32))] [(.int (1 : Int32)), (.int (1 : Int32))]))
  have hc44 : ¬ ((1 : Int32) < (1 : Int32)) := by decide
  refine own_step (fun t k => XS.icmpYes X43.here hx rfl (pc0 := 10) (pc' := 37) rfl (hb hby own_dprog_129_method_2_code_10) rfl (flt hc44).2.1 (by decide) (by decide) k) ?_
  show own_Goes p e below _ (T43.setTop (mkF m 37 #[.val (.ref a1), .val (.int ((0 : Int32) + (((xs3.getD (0 : Int32).toNatClampNeg 0) - (xs2.getD (0 : Int32).toNatClampNeg 0)) + (1 : Int32)))), .val (.int (1 : Int32))] []))
  refine own_step (fun t k => XS.iloadN X43.here hx rfl (hb hby own_dprog_129_method_2_code_37) rfl k) ?_
  show own_Goes p e below _ (T43.setTop (mkF m 38 #[.val (.ref a1), .val (.int ((0 : Int32) + (((xs3.getD (0 : Int32).toNatClampNeg 0) - (xs2.getD (0 : Int32).toNatClampNeg 0)) + (1 : Int32)))), .val (.int (1 : Int32))] [(.int ((0 : Int32) + (((xs3.getD (0 : Int32).toNatClampNeg 0) - (xs2.getD (0 : Int32).toNatClampNeg 0)) + (1 : Int32))))]))
  refine own_retV X43 hx hlk Bd.returns (w := (.int ((0 : Int32) + (((xs3.getD (0 : Int32).toNatClampNeg 0) - (xs2.getD (0 : Int32).toNatClampNeg 0)) + (1 : Int32))))) rfl (Or.inl ⟨rfl, Or.inl rfl, _, rfl⟩) (hb hby own_dprog_129_method_2_code_38) ?_ (by decide) (by decide)
  show own_c1_Q Z a1 rg fi la k1 k2 k3 xs1 xs2 xs3 h0 n0 _ T43.heap _
  rw [e43]
  exact ⟨rfl, N0, rfl⟩
theorem own_c2_ef (m : MethodId) (a1 : Addr) : entryFrame m #[(.ref a1)] 3 = mkF m 0 #[.val (.ref a1), .unset, .unset] [] := by first | (simp [entryFrame, mkF, argsToLocals, Value.category]; done) | rfl
def own_c2_Q (Z : State) (a1 : Addr) (rg : Addr) (fi : Addr) (la : Addr) (k1 : ClassId) (k2 : ClassId) (k3 : ClassId) (xs1 : List Int64) (xs2 : List Int32) (xs3 : List Int32) (h0 : Heap) (n0 : Nat) (v : Option Value) (h : Heap) (L : List Loc) : Prop := v = some (.int (((0 : Int32) + (((xs3.getD (0 : Int32).toNatClampNeg 0) - (xs2.getD (0 : Int32).toNatClampNeg 0)) + (1 : Int32))) + (((xs3.getD (1 : Int32).toNatClampNeg 0) - (xs2.getD (1 : Int32).toNatClampNeg 0)) + (1 : Int32)))) ∧ Fr n0 L ∧ h = h0
set_option maxRecDepth 65536 in
set_option maxHeartbeats 40000000 in
theorem own_c2 (l : Launch) (Z : State) (a0 : Array Value) (hw : ∀ d ∈ tables_1, d.before a0 Z = true) (ws : List Jvm.Cond) (a1 : Addr) (rg : Addr) (fi : Addr) (la : Addr) (k1 : ClassId) (k2 : ClassId) (k3 : ClassId) (xs1 : List Int64) (xs2 : List Int32) (xs3 : List Int32) (h0 : Heap) (n0 : Nat) (Z0 : n0 ≤ h0.size) (F_regions_a1 : Fld Z h0 a1 "com/example/concepta/concepta/store/OidSet$Rows" "regions" "[J" (.ref rg)) (F_firsts_a1 : Fld Z h0 a1 "com/example/concepta/concepta/store/OidSet$Rows" "firsts" "[I" (.ref fi)) (F_lasts_a1 : Fld Z h0 a1 "com/example/concepta/concepta/store/OidSet$Rows" "lasts" "[I" (.ref la)) (V_rg : Arv Z h0 rg k1 .long (2 : Int32) (xs1.map Value.long) (Value.long 0)) (V_fi : Arv Z h0 fi k2 .int (2 : Int32) (xs2.map Value.int) (Value.int 0)) (V_la : Arv Z h0 la k3 .int (2 : Int32) (xs3.map Value.int) (Value.int 0)) :
    MetFree l (⟨"com/example/concepta/concepta/store/OidSet$Rows", "blockCount", "()I"⟩ : MethodName) (head1 (Jvm.Cond.code (⟨"com/example/concepta/concepta/store/OidSet$Rows", "blockCount", "()I"⟩ : MethodName) prog_129_method_2_code 3 (some .int) :: ws) ({ frames := 0, cells := 0, slots := 0, locals := 0 } : Room)) (fun aa U => aa = #[(.ref a1)] ∧ Z.Warmed39 U.vm ∧ U.heap = h0) (fun _ _ _ _ _ => True) (fun _ U o U' => ∃ v L, o = .returned v ∧ own_c2_Q Z a1 rg fi la k1 k2 k3 xs1 xs2 xs3 h0 n0 v U'.heap L ∧ FrameEnd U o U' L ({ frames := 0, cells := 0, slots := 0, locals := 0 } : Room).cells ({ frames := 0, cells := 0, slots := 0, locals := 0 } : Room).slots) := by
  refine MetFree.of_bodySF (plainFor_of_name own_pn1) hisR ?_
  have w17 := hw _ (List.mem_of_getElem? (i := 17) rfl)
  have w19 := hw _ (List.mem_of_getElem? (i := 19) rfl)
  have w21 := hw _ (List.mem_of_getElem? (i := 21) rfl)
  intro p e s m args below meth c s₁ Bd hml0 hP hK
  obtain ⟨rfl, hZ, hh⟩ := hP
  have hx := Bd.exec
  have hby := Bd.bytes
  have hlk := Bd.notSynchronized
  have hml : c.maxLocals = 3 := hml0
  have hown : s.vm.findClass "com/example/concepta/concepta/store/OidSet$Rows" = some m.cls := findClass_of_methodNamed Bd.named
  have hnm := (name_of_methodNamed Bd.named Bd.method).1
  have X0 : Stand p l e ({ frames := 0, cells := 0, slots := 0, locals := 0 } : Room) s m #[(.ref a1)] below meth c s₁ [] 0 0 := Stand.of_body Bd
  have e0 : s₁.heap = h0 := by rw [← hh, Bd.state]; rfl
  have N0 := Fr.nil n0
  have K0 : Keep h0 h0 [] := Keep.refl h0 _
  show own_Goes p e below (own_Fin s (own_c2_Q Z a1 rg fi la k1 k2 k3 xs1 xs2 xs3 h0 n0) ({ frames := 0, cells := 0, slots := 0, locals := 0 } : Room).cells ({ frames := 0, cells := 0, slots := 0, locals := 0 } : Room).slots) _
  refine own_step (fun t k => castTop (own_c2_ef m a1) k) ?_
  show own_Goes p e below _ (s₁.setTop (mkF m 0 #[.val (.ref a1), .unset, .unset] []))
  refine own_step (fun t k => XS.iconst X0.here hx rfl (hb hby own_dprog_129_method_2_code_0) k) ?_
  show own_Goes p e below _ (s₁.setTop (mkF m 1 #[.val (.ref a1), .unset, .unset] [(.int (0 : Int32))]))
  refine own_step (fun t k => XS.istoreN X0.here hx rfl (hb hby own_dprog_129_method_2_code_1) rfl (l' := #[.val (.ref a1), .val (.int (0 : Int32)), .unset]) rfl k) ?_
  show own_Goes p e below _ (s₁.setTop (mkF m 2 #[.val (.ref a1), .val (.int (0 : Int32)), .unset] []))
  refine own_step (fun t k => XS.iconst X0.here hx rfl (hb hby own_dprog_129_method_2_code_2) k) ?_
  show own_Goes p e below _ (s₁.setTop (mkF m 3 #[.val (.ref a1), .val (.int (0 : Int32)), .unset] [(.int (0 : Int32))]))
  refine own_step (fun t k => XS.istoreN X0.here hx rfl (hb hby own_dprog_129_method_2_code_3) rfl (l' := #[.val (.ref a1), .val (.int (0 : Int32)), .val (.int (0 : Int32))]) rfl k) ?_
  show own_Goes p e below _ (s₁.setTop (mkF m 4 #[.val (.ref a1), .val (.int (0 : Int32)), .val (.int (0 : Int32))] []))
  refine own_step (fun t k => XS.iloadN X0.here hx rfl (hb hby own_dprog_129_method_2_code_4) rfl k) ?_
  show own_Goes p e below _ (s₁.setTop (mkF m 5 #[.val (.ref a1), .val (.int (0 : Int32)), .val (.int (0 : Int32))] [(.int (0 : Int32))]))
  refine own_step (fun t k => XS.aloadN X0.here hx rfl (hb hby own_dprog_129_method_2_code_5) rfl rfl k) ?_
  show own_Goes p e below _ (s₁.setTop (mkF m 6 #[.val (.ref a1), .val (.int (0 : Int32)), .val (.int (0 : Int32))] [(.ref a1), (.int (0 : Int32))]))
  obtain ⟨T55, X55, e55, st55⟩ := getF X0 hx hZ hown (host := "") (Or.inl w17) Via.refl e0 F_regions_a1 (g := (mkF m 6 #[.val (.ref a1), .val (.int (0 : Int32)), .val (.int (0 : Int32))] [(.ref a1), (.int (0 : Int32))])) rfl rfl (hb hby own_dprog_129_method_2_code_6)
  refine own_step st55 ?_
  show own_Goes p e below _ (T55.setTop (mkF m 9 #[.val (.ref a1), .val (.int (0 : Int32)), .val (.int (0 : Int32))] [(.ref rg), (.int (0 : Int32))]))
  refine own_step (fun t k => own_len X55 hx hZ e55 V_rg (g := (mkF m 9 #[.val (.ref a1), .val (.int (0 : Int32)), .val (.int (0 : Int32))] [(.ref rg), (.int (0 : Int32))])) rfl rfl (hb hby own_dprog_129_method_2_code_9) _ k) ?_
  show own_Goes p e below _ (T55.setTop (mkF m 10 #[.val (.ref a1), .val (.int (0 : Int32)), .val (.int (0 : Int32))] [(.int (2 : Int32)), (.int (0 : Int32))]))
  have hc56 : (0 : Int32) < (2 : Int32) := by decide
  refine own_step (fun t k => XS.icmpNo X55.here hx rfl (hb hby own_dprog_129_method_2_code_10) rfl (tlt hc56).2.1 k) ?_
  show own_Goes p e below _ (T55.setTop (mkF m 13 #[.val (.ref a1), .val (.int (0 : Int32)), .val (.int (0 : Int32))] []))
  refine own_step (fun t k => XS.iloadN X55.here hx rfl (hb hby own_dprog_129_method_2_code_13) rfl k) ?_
  show own_Goes p e below _ (T55.setTop (mkF m 14 #[.val (.ref a1), .val (.int (0 : Int32)), .val (.int (0 : Int32))] [(.int (0 : Int32))]))
  refine own_step (fun t k => XS.aloadN X55.here hx rfl (hb hby own_dprog_129_method_2_code_14) rfl rfl k) ?_
  show own_Goes p e below _ (T55.setTop (mkF m 15 #[.val (.ref a1), .val (.int (0 : Int32)), .val (.int (0 : Int32))] [(.ref a1), (.int (0 : Int32))]))
  obtain ⟨T57, X57, e57, st57⟩ := getF X55 hx hZ hown (host := "") (Or.inl w21) Via.refl e55 F_lasts_a1 (g := (mkF m 15 #[.val (.ref a1), .val (.int (0 : Int32)), .val (.int (0 : Int32))] [(.ref a1), (.int (0 : Int32))])) rfl rfl (hb hby own_dprog_129_method_2_code_15)
  refine own_step st57 ?_
  show own_Goes p e below _ (T57.setTop (mkF m 18 #[.val (.ref a1), .val (.int (0 : Int32)), .val (.int (0 : Int32))] [(.ref la), (.int (0 : Int32))]))
  refine own_step (fun t k => XS.iloadN X57.here hx rfl (hb hby own_dprog_129_method_2_code_18) rfl k) ?_
  show own_Goes p e below _ (T57.setTop (mkF m 19 #[.val (.ref a1), .val (.int (0 : Int32)), .val (.int (0 : Int32))] [(.int (0 : Int32)), (.ref la), (.int (0 : Int32))]))
  refine own_step (fun t k => own_ial X57 hx hZ e57 V_la ⟨by decide, by decide⟩ (g := (mkF m 19 #[.val (.ref a1), .val (.int (0 : Int32)), .val (.int (0 : Int32))] [(.int (0 : Int32)), (.ref la), (.int (0 : Int32))])) rfl rfl (hb hby own_dprog_129_method_2_code_19) _ k) ?_
  show own_Goes p e below _ (T57.setTop (mkF m 20 #[.val (.ref a1), .val (.int (0 : Int32)), .val (.int (0 : Int32))] [(.int (xs3.getD (0 : Int32).toNatClampNeg 0)), (.int (0 : Int32))]))
  refine own_step (fun t k => XS.aloadN X57.here hx rfl (hb hby own_dprog_129_method_2_code_20) rfl rfl k) ?_
  show own_Goes p e below _ (T57.setTop (mkF m 21 #[.val (.ref a1), .val (.int (0 : Int32)), .val (.int (0 : Int32))] [(.ref a1), (.int (xs3.getD (0 : Int32).toNatClampNeg 0)), (.int (0 : Int32))]))
  obtain ⟨T58, X58, e58, st58⟩ := getF X57 hx hZ hown (host := "") (Or.inl w19) Via.refl e57 F_firsts_a1 (g := (mkF m 21 #[.val (.ref a1), .val (.int (0 : Int32)), .val (.int (0 : Int32))] [(.ref a1), (.int (xs3.getD (0 : Int32).toNatClampNeg 0)), (.int (0 : Int32))])) rfl rfl (hb hby own_dprog_129_method_2_code_21)
  refine own_step st58 ?_
  show own_Goes p e below _ (T58.setTop (mkF m 24 #[.val (.ref a1), .val (.int (0 : Int32)), .val (.int (0 : Int32))] [(.ref fi), (.int (xs3.getD (0 : Int32).toNatClampNeg 0)), (.int (0 : Int32))]))
  refine own_step (fun t k => XS.iloadN X58.here hx rfl (hb hby own_dprog_129_method_2_code_24) rfl k) ?_
  show own_Goes p e below _ (T58.setTop (mkF m 25 #[.val (.ref a1), .val (.int (0 : Int32)), .val (.int (0 : Int32))] [(.int (0 : Int32)), (.ref fi), (.int (xs3.getD (0 : Int32).toNatClampNeg 0)), (.int (0 : Int32))]))
  refine own_step (fun t k => own_ial X58 hx hZ e58 V_fi ⟨by decide, by decide⟩ (g := (mkF m 25 #[.val (.ref a1), .val (.int (0 : Int32)), .val (.int (0 : Int32))] [(.int (0 : Int32)), (.ref fi), (.int (xs3.getD (0 : Int32).toNatClampNeg 0)), (.int (0 : Int32))])) rfl rfl (hb hby own_dprog_129_method_2_code_25) _ k) ?_
  show own_Goes p e below _ (T58.setTop (mkF m 26 #[.val (.ref a1), .val (.int (0 : Int32)), .val (.int (0 : Int32))] [(.int (xs2.getD (0 : Int32).toNatClampNeg 0)), (.int (xs3.getD (0 : Int32).toNatClampNeg 0)), (.int (0 : Int32))]))
  refine own_step (fun t k => XS.isub X58.here hx rfl (hb hby own_dprog_129_method_2_code_26) rfl k) ?_
  show own_Goes p e below _ (T58.setTop (mkF m 27 #[.val (.ref a1), .val (.int (0 : Int32)), .val (.int (0 : Int32))] [(.int ((xs3.getD (0 : Int32).toNatClampNeg 0) - (xs2.getD (0 : Int32).toNatClampNeg 0))), (.int (0 : Int32))]))
  refine own_step (fun t k => XS.iconst X58.here hx rfl (hb hby own_dprog_129_method_2_code_27) k) ?_
  show own_Goes p e below _ (T58.setTop (mkF m 28 #[.val (.ref a1), .val (.int (0 : Int32)), .val (.int (0 : Int32))] [(.int (1 : Int32)), (.int ((xs3.getD (0 : Int32).toNatClampNeg 0) - (xs2.getD (0 : Int32).toNatClampNeg 0))), (.int (0 : Int32))]))
  refine own_step (fun t k => XS.iadd X58.here hx rfl (hb hby own_dprog_129_method_2_code_28) rfl k) ?_
  show own_Goes p e below _ (T58.setTop (mkF m 29 #[.val (.ref a1), .val (.int (0 : Int32)), .val (.int (0 : Int32))] [(.int (((xs3.getD (0 : Int32).toNatClampNeg 0) - (xs2.getD (0 : Int32).toNatClampNeg 0)) + (1 : Int32))), (.int (0 : Int32))]))
  refine own_step (fun t k => XS.iadd X58.here hx rfl (hb hby own_dprog_129_method_2_code_29) rfl k) ?_
  show own_Goes p e below _ (T58.setTop (mkF m 30 #[.val (.ref a1), .val (.int (0 : Int32)), .val (.int (0 : Int32))] [(.int ((0 : Int32) + (((xs3.getD (0 : Int32).toNatClampNeg 0) - (xs2.getD (0 : Int32).toNatClampNeg 0)) + (1 : Int32))))]))
  refine own_step (fun t k => XS.istoreN X58.here hx rfl (hb hby own_dprog_129_method_2_code_30) rfl (l' := #[.val (.ref a1), .val (.int ((0 : Int32) + (((xs3.getD (0 : Int32).toNatClampNeg 0) - (xs2.getD (0 : Int32).toNatClampNeg 0)) + (1 : Int32)))), .val (.int (0 : Int32))]) rfl k) ?_
  show own_Goes p e below _ (T58.setTop (mkF m 31 #[.val (.ref a1), .val (.int ((0 : Int32) + (((xs3.getD (0 : Int32).toNatClampNeg 0) - (xs2.getD (0 : Int32).toNatClampNeg 0)) + (1 : Int32)))), .val (.int (0 : Int32))] []))
  refine own_step (fun t k => XS.iinc X58.here hx rfl (hb hby own_dprog_129_method_2_code_31) rfl (l' := #[.val (.ref a1), .val (.int ((0 : Int32) + (((xs3.getD (0 : Int32).toNatClampNeg 0) - (xs2.getD (0 : Int32).toNatClampNeg 0)) + (1 : Int32)))), .val (.int (1 : Int32))]) rfl k) ?_
  show own_Goes p e below _ (T58.setTop (mkF m 34 #[.val (.ref a1), .val (.int ((0 : Int32) + (((xs3.getD (0 : Int32).toNatClampNeg 0) - (xs2.getD (0 : Int32).toNatClampNeg 0)) + (1 : Int32)))), .val (.int (1 : Int32))] []))
  refine own_step (fun t k => XS.goto X58.here hx rfl (pc0 := 34) (pc' := 4) rfl (hb hby own_dprog_129_method_2_code_34) (by decide) (by decide) k) ?_
  show own_Goes p e below _ (T58.setTop (mkF m 4 #[.val (.ref a1), .val (.int ((0 : Int32) + (((xs3.getD (0 : Int32).toNatClampNeg 0) - (xs2.getD (0 : Int32).toNatClampNeg 0)) + (1 : Int32)))), .val (.int (1 : Int32))] []))
  refine own_step (fun t k => XS.iloadN X58.here hx rfl (hb hby own_dprog_129_method_2_code_4) rfl k) ?_
  show own_Goes p e below _ (T58.setTop (mkF m 5 #[.val (.ref a1), .val (.int ((0 : Int32) + (((xs3.getD (0 : Int32).toNatClampNeg 0) - (xs2.getD (0 : Int32).toNatClampNeg 0)) + (1 : Int32)))), .val (.int (1 : Int32))] [(.int (1 : Int32))]))
  refine own_step (fun t k => XS.aloadN X58.here hx rfl (hb hby own_dprog_129_method_2_code_5) rfl rfl k) ?_
  show own_Goes p e below _ (T58.setTop (mkF m 6 #[.val (.ref a1), .val (.int ((0 : Int32) + (((xs3.getD (0 : Int32).toNatClampNeg 0) - (xs2.getD (0 : Int32).toNatClampNeg 0)) + (1 : Int32)))), .val (.int (1 : Int32))] [(.ref a1), (.int (1 : Int32))]))
  obtain ⟨T59, X59, e59, st59⟩ := getF X58 hx hZ hown (host := "") (Or.inl w17) Via.refl e58 F_regions_a1 (g := (mkF m 6 #[.val (.ref a1), .val (.int ((0 : Int32) + (((xs3.getD (0 : Int32).toNatClampNeg 0) - (xs2.getD (0 : Int32).toNatClampNeg 0)) + (1 : Int32)))), .val (.int (1 : Int32))] [(.ref a1), (.int (1 : Int32))])) rfl rfl (hb hby own_dprog_129_method_2_code_6)
  refine own_step st59 ?_
  show own_Goes p e below _ (T59.setTop (mkF m 9 #[.val (.ref a1), .val (.int ((0 : Int32) + (((xs3.getD (0 : Int32).toNatClampNeg 0) - (xs2.getD (0 : Int32).toNatClampNeg 0)) + (1 : Int32)))), .val (.int (1 : Int32))] [(.ref rg), (.int (1 : Int32))]))
  refine own_step (fun t k => own_len X59 hx hZ e59 V_rg (g := (mkF m 9 #[.val (.ref a1), .val (.int ((0 : Int32) + (((xs3.getD (0 : Int32).toNatClampNeg 0) - (xs2.getD (0 : Int32).toNatClampNeg 0)) + (1 : Int32)))), .val (.int (1 : Int32))] [(.ref rg), (.int (1 : Int32))])) rfl rfl (hb hby own_dprog_129_method_2_code_9) _ k) ?_
  show own_Goes p e below _ (T59.setTop (mkF m 10 #[.val (.ref a1), .val (.int ((0 : Int32) + (((xs3.getD (0 : Int32).toNatClampNeg 0) - (xs2.getD (0 : Int32).toNatClampNeg 0)) + (1 : Int32)))), .val (.int (1 : Int32))] [(.int (2 : Int32)), (.int (1 : Int32))]))
  have hc60 : (1 : Int32) < (2 : Int32) := by decide
  refine own_step (fun t k => XS.icmpNo X59.here hx rfl (hb hby own_dprog_129_method_2_code_10) rfl (tlt hc60).2.1 k) ?_
  show own_Goes p e below _ (T59.setTop (mkF m 13 #[.val (.ref a1), .val (.int ((0 : Int32) + (((xs3.getD (0 : Int32).toNatClampNeg 0) - (xs2.getD (0 : Int32).toNatClampNeg 0)) + (1 : Int32)))), .val (.int (1 : Int32))] []))
  refine own_step (fun t k => XS.iloadN X59.here hx rfl (hb hby own_dprog_129_method_2_code_13) rfl k) ?_
  show own_Goes p e below _ (T59.setTop (mkF m 14 #[.val (.ref a1), .val (.int ((0 : Int32) + (((xs3.getD (0 : Int32).toNatClampNeg 0) - (xs2.getD (0 : Int32).toNatClampNeg 0)) + (1 : Int32)))), .val (.int (1 : Int32))] [(.int ((0 : Int32) + (((xs3.getD (0 : Int32).toNatClampNeg 0) - (xs2.getD (0 : Int32).toNatClampNeg 0)) + (1 : Int32))))]))
  refine own_step (fun t k => XS.aloadN X59.here hx rfl (hb hby own_dprog_129_method_2_code_14) rfl rfl k) ?_
  show own_Goes p e below _ (T59.setTop (mkF m 15 #[.val (.ref a1), .val (.int ((0 : Int32) + (((xs3.getD (0 : Int32).toNatClampNeg 0) - (xs2.getD (0 : Int32).toNatClampNeg 0)) + (1 : Int32)))), .val (.int (1 : Int32))] [(.ref a1), (.int ((0 : Int32) + (((xs3.getD (0 : Int32).toNatClampNeg 0) - (xs2.getD (0 : Int32).toNatClampNeg 0)) + (1 : Int32))))]))
  obtain ⟨T61, X61, e61, st61⟩ := getF X59 hx hZ hown (host := "") (Or.inl w21) Via.refl e59 F_lasts_a1 (g := (mkF m 15 #[.val (.ref a1), .val (.int ((0 : Int32) + (((xs3.getD (0 : Int32).toNatClampNeg 0) - (xs2.getD (0 : Int32).toNatClampNeg 0)) + (1 : Int32)))), .val (.int (1 : Int32))] [(.ref a1), (.int ((0 : Int32) + (((xs3.getD (0 : Int32).toNatClampNeg 0) - (xs2.getD (0 : Int32).toNatClampNeg 0)) + (1 : Int32))))])) rfl rfl (hb hby own_dprog_129_method_2_code_15)
  refine own_step st61 ?_
  show own_Goes p e below _ (T61.setTop (mkF m 18 #[.val (.ref a1), .val (.int ((0 : Int32) + (((xs3.getD (0 : Int32).toNatClampNeg 0) - (xs2.getD (0 : Int32).toNatClampNeg 0)) + (1 : Int32)))), .val (.int (1 : Int32))] [(.ref la), (.int ((0 : Int32) + (((xs3.getD (0 : Int32).toNatClampNeg 0) - (xs2.getD (0 : Int32).toNatClampNeg 0)) + (1 : Int32))))]))
  refine own_step (fun t k => XS.iloadN X61.here hx rfl (hb hby own_dprog_129_method_2_code_18) rfl k) ?_
  show own_Goes p e below _ (T61.setTop (mkF m 19 #[.val (.ref a1), .val (.int ((0 : Int32) + (((xs3.getD (0 : Int32).toNatClampNeg 0) - (xs2.getD (0 : Int32).toNatClampNeg 0)) + (1 : Int32)))), .val (.int (1 : Int32))] [(.int (1 : Int32)), (.ref la), (.int ((0 : Int32) + (((xs3.getD (0 : Int32).toNatClampNeg 0) - (xs2.getD (0 : Int32).toNatClampNeg 0)) + (1 : Int32))))]))
  refine own_step (fun t k => own_ial X61 hx hZ e61 V_la ⟨by decide, by decide⟩ (g := (mkF m 19 #[.val (.ref a1), .val (.int ((0 : Int32) + (((xs3.getD (0 : Int32).toNatClampNeg 0) - (xs2.getD (0 : Int32).toNatClampNeg 0)) + (1 : Int32)))), .val (.int (1 : Int32))] [(.int (1 : Int32)), (.ref la), (.int ((0 : Int32) + (((xs3.getD (0 : Int32).toNatClampNeg 0) - (xs2.getD (0 : Int32).toNatClampNeg 0)) + (1 : Int32))))])) rfl rfl (hb hby own_dprog_129_method_2_code_19) _ k) ?_
  show own_Goes p e below _ (T61.setTop (mkF m 20 #[.val (.ref a1), .val (.int ((0 : Int32) + (((xs3.getD (0 : Int32).toNatClampNeg 0) - (xs2.getD (0 : Int32).toNatClampNeg 0)) + (1 : Int32)))), .val (.int (1 : Int32))] [(.int (xs3.getD (1 : Int32).toNatClampNeg 0)), (.int ((0 : Int32) + (((xs3.getD (0 : Int32).toNatClampNeg 0) - (xs2.getD (0 : Int32).toNatClampNeg 0)) + (1 : Int32))))]))
  refine own_step (fun t k => XS.aloadN X61.here hx rfl (hb hby own_dprog_129_method_2_code_20) rfl rfl k) ?_
  show own_Goes p e below _ (T61.setTop (mkF m 21 #[.val (.ref a1), .val (.int ((0 : Int32) + (((xs3.getD (0 : Int32).toNatClampNeg 0) - (xs2.getD (0 : Int32).toNatClampNeg 0)) + (1 : Int32)))), .val (.int (1 : Int32))] [(.ref a1), (.int (xs3.getD (1 : Int32).toNatClampNeg 0)), (.int ((0 : Int32) + (((xs3.getD (0 : Int32).toNatClampNeg 0) - (xs2.getD (0 : Int32).toNatClampNeg 0)) + (1 : Int32))))]))
  obtain ⟨T62, X62, e62, st62⟩ := getF X61 hx hZ hown (host := "") (Or.inl w19) Via.refl e61 F_firsts_a1 (g := (mkF m 21 #[.val (.ref a1), .val (.int ((0 : Int32) + (((xs3.getD (0 : Int32).toNatClampNeg 0) - (xs2.getD (0 : Int32).toNatClampNeg 0)) + (1 : Int32)))), .val (.int (1 : Int32))] [(.ref a1), (.int (xs3.getD (1 : Int32).toNatClampNeg 0)), (.int ((0 : Int32) + (((xs3.getD (0 : Int32).toNatClampNeg 0) - (xs2.getD (0 : Int32).toNatClampNeg 0)) + (1 : Int32))))])) rfl rfl (hb hby own_dprog_129_method_2_code_21)
  refine own_step st62 ?_
  show own_Goes p e below _ (T62.setTop (mkF m 24 #[.val (.ref a1), .val (.int ((0 : Int32) + (((xs3.getD (0 : Int32).toNatClampNeg 0) - (xs2.getD (0 : Int32).toNatClampNeg 0)) + (1 : Int32)))), .val (.int (1 : Int32))] [(.ref fi), (.int (xs3.getD (1 : Int32).toNatClampNeg 0)), (.int ((0 : Int32) + (((xs3.getD (0 : Int32).toNatClampNeg 0) - (xs2.getD (0 : Int32).toNatClampNeg 0)) + (1 : Int32))))]))
  refine own_step (fun t k => XS.iloadN X62.here hx rfl (hb hby own_dprog_129_method_2_code_24) rfl k) ?_
  show own_Goes p e below _ (T62.setTop (mkF m 25 #[.val (.ref a1), .val (.int ((0 : Int32) + (((xs3.getD (0 : Int32).toNatClampNeg 0) - (xs2.getD (0 : Int32).toNatClampNeg 0)) + (1 : Int32)))), .val (.int (1 : Int32))] [(.int (1 : Int32)), (.ref fi), (.int (xs3.getD (1 : Int32).toNatClampNeg 0)), (.int ((0 : Int32) + (((xs3.getD (0 : Int32).toNatClampNeg 0) - (xs2.getD (0 : Int32).toNatClampNeg 0)) + (1 : Int32))))]))
  refine own_step (fun t k => own_ial X62 hx hZ e62 V_fi ⟨by decide, by decide⟩ (g := (mkF m 25 #[.val (.ref a1), .val (.int ((0 : Int32) + (((xs3.getD (0 : Int32).toNatClampNeg 0) - (xs2.getD (0 : Int32).toNatClampNeg 0)) + (1 : Int32)))), .val (.int (1 : Int32))] [(.int (1 : Int32)), (.ref fi), (.int (xs3.getD (1 : Int32).toNatClampNeg 0)), (.int ((0 : Int32) + (((xs3.getD (0 : Int32).toNatClampNeg 0) - (xs2.getD (0 : Int32).toNatClampNeg 0)) + (1 : Int32))))])) rfl rfl (hb hby own_dprog_129_method_2_code_25) _ k) ?_
  show own_Goes p e below _ (T62.setTop (mkF m 26 #[.val (.ref a1), .val (.int ((0 : Int32) + (((xs3.getD (0 : Int32).toNatClampNeg 0) - (xs2.getD (0 : Int32).toNatClampNeg 0)) + (1 : Int32)))), .val (.int (1 : Int32))] [(.int (xs2.getD (1 : Int32).toNatClampNeg 0)), (.int (xs3.getD (1 : Int32).toNatClampNeg 0)), (.int ((0 : Int32) + (((xs3.getD (0 : Int32).toNatClampNeg 0) - (xs2.getD (0 : Int32).toNatClampNeg 0)) + (1 : Int32))))]))
  refine own_step (fun t k => XS.isub X62.here hx rfl (hb hby own_dprog_129_method_2_code_26) rfl k) ?_
  show own_Goes p e below _ (T62.setTop (mkF m 27 #[.val (.ref a1), .val (.int ((0 : Int32) + (((xs3.getD (0 : Int32).toNatClampNeg 0) - (xs2.getD (0 : Int32).toNatClampNeg 0)) + (1 : Int32)))), .val (.int (1 : Int32))] [(.int ((xs3.getD (1 : Int32).toNatClampNeg 0) - (xs2.getD (1 : Int32).toNatClampNeg 0))), (.int ((0 : Int32) + (((xs3.getD (0 : Int32).toNatClampNeg 0) - (xs2.getD (0 : Int32).toNatClampNeg 0)) + (1 : Int32))))]))
  refine own_step (fun t k => XS.iconst X62.here hx rfl (hb hby own_dprog_129_method_2_code_27) k) ?_
  show own_Goes p e below _ (T62.setTop (mkF m 28 #[.val (.ref a1), .val (.int ((0 : Int32) + (((xs3.getD (0 : Int32).toNatClampNeg 0) - (xs2.getD (0 : Int32).toNatClampNeg 0)) + (1 : Int32)))), .val (.int (1 : Int32))] [(.int (1 : Int32)), (.int ((xs3.getD (1 : Int32).toNatClampNeg 0) - (xs2.getD (1 : Int32).toNatClampNeg 0))), (.int ((0 : Int32) + (((xs3.getD (0 : Int32).toNatClampNeg 0) - (xs2.getD (0 : Int32).toNatClampNeg 0)) + (1 : Int32))))]))
  refine own_step (fun t k => XS.iadd X62.here hx rfl (hb hby own_dprog_129_method_2_code_28) rfl k) ?_
  show own_Goes p e below _ (T62.setTop (mkF m 29 #[.val (.ref a1), .val (.int ((0 : Int32) + (((xs3.getD (0 : Int32).toNatClampNeg 0) - (xs2.getD (0 : Int32).toNatClampNeg 0)) + (1 : Int32)))), .val (.int (1 : Int32))] [(.int (((xs3.getD (1 : Int32).toNatClampNeg 0) - (xs2.getD (1 : Int32).toNatClampNeg 0)) + (1 : Int32))), (.int ((0 : Int32) + (((xs3.getD (0 : Int32).toNatClampNeg 0) - (xs2.getD (0 : Int32).toNatClampNeg 0)) + (1 : Int32))))]))
  refine own_step (fun t k => XS.iadd X62.here hx rfl (hb hby own_dprog_129_method_2_code_29) rfl k) ?_
  show own_Goes p e below _ (T62.setTop (mkF m 30 #[.val (.ref a1), .val (.int ((0 : Int32) + (((xs3.getD (0 : Int32).toNatClampNeg 0) - (xs2.getD (0 : Int32).toNatClampNeg 0)) + (1 : Int32)))), .val (.int (1 : Int32))] [(.int (((0 : Int32) + (((xs3.getD (0 : Int32).toNatClampNeg 0) - (xs2.getD (0 : Int32).toNatClampNeg 0)) + (1 : Int32))) + (((xs3.getD (1 : Int32).toNatClampNeg 0) - (xs2.getD (1 : Int32).toNatClampNeg 0)) + (1 : Int32))))]))
  refine own_step (fun t k => XS.istoreN X62.here hx rfl (hb hby own_dprog_129_method_2_code_30) rfl (l' := #[.val (.ref a1), .val (.int (((0 : Int32) + (((xs3.getD (0 : Int32).toNatClampNeg 0) - (xs2.getD (0 : Int32).toNatClampNeg 0)) + (1 : Int32))) + (((xs3.getD (1 : Int32).toNatClampNeg 0) - (xs2.getD (1 : Int32).toNatClampNeg 0)) + (1 : Int32)))), .val (.int (1 : Int32))]) rfl k) ?_
  show own_Goes p e below _ (T62.setTop (mkF m 31 #[.val (.ref a1), .val (.int (((0 : Int32) + (((xs3.getD (0 : Int32).toNatClampNeg 0) - (xs2.getD (0 : Int32).toNatClampNeg 0)) + (1 : Int32))) + (((xs3.getD (1 : Int32).toNatClampNeg 0) - (xs2.getD (1 : Int32).toNatClampNeg 0)) + (1 : Int32)))), .val (.int (1 : Int32))] []))
  refine own_step (fun t k => XS.iinc X62.here hx rfl (hb hby own_dprog_129_method_2_code_31) rfl (l' := #[.val (.ref a1), .val (.int (((0 : Int32) + (((xs3.getD (0 : Int32).toNatClampNeg 0) - (xs2.getD (0 : Int32).toNatClampNeg 0)) + (1 : Int32))) + (((xs3.getD (1 : Int32).toNatClampNeg 0) - (xs2.getD (1 : Int32).toNatClampNeg 0)) + (1 : Int32)))), .val (.int (2 : Int32))]) rfl k) ?_
  show own_Goes p e below _ (T62.setTop (mkF m 34 #[.val (.ref a1), .val (.int (((0 : Int32) + (((xs3.getD (0 : Int32).toNatClampNeg 0) - (xs2.getD (0 : Int32).toNatClampNeg 0)) + (1 : Int32))) + (((xs3.getD (1 : Int32).toNatClampNeg 0) - (xs2.getD (1 : Int32).toNatClampNeg 0)) + (1 : Int32)))), .val (.int (2 : Int32))] []))
  refine own_step (fun t k => XS.goto X62.here hx rfl (pc0 := 34) (pc' := 4) rfl (hb hby own_dprog_129_method_2_code_34) (by decide) (by decide) k) ?_
  show own_Goes p e below _ (T62.setTop (mkF m 4 #[.val (.ref a1), .val (.int (((0 : Int32) + (((xs3.getD (0 : Int32).toNatClampNeg 0) - (xs2.getD (0 : Int32).toNatClampNeg 0)) + (1 : Int32))) + (((xs3.getD (1 : Int32).toNatClampNeg 0) - (xs2.getD (1 : Int32).toNatClampNeg 0)) + (1 : Int32)))), .val (.int (2 : Int32))] []))
  refine own_step (fun t k => XS.iloadN X62.here hx rfl (hb hby own_dprog_129_method_2_code_4) rfl k) ?_
  show own_Goes p e below _ (T62.setTop (mkF m 5 #[.val (.ref a1), .val (.int (((0 : Int32) + (((xs3.getD (0 : Int32).toNatClampNeg 0) - (xs2.getD (0 : Int32).toNatClampNeg 0)) + (1 : Int32))) + (((xs3.getD (1 : Int32).toNatClampNeg 0) - (xs2.getD (1 : Int32).toNatClampNeg 0)) + (1 : Int32)))), .val (.int (2 : Int32))] [(.int (2 : Int32))]))
  refine own_step (fun t k => XS.aloadN X62.here hx rfl (hb hby own_dprog_129_method_2_code_5) rfl rfl k) ?_
  show own_Goes p e below _ (T62.setTop (mkF m 6 #[.val (.ref a1), .val (.int (((0 : Int32) + (((xs3.getD (0 : Int32).toNatClampNeg 0) - (xs2.getD (0 : Int32).toNatClampNeg 0)) + (1 : Int32))) + (((xs3.getD (1 : Int32).toNatClampNeg 0) - (xs2.getD (1 : Int32).toNatClampNeg 0)) + (1 : Int32)))), .val (.int (2 : Int32))] [(.ref a1), (.int (2 : Int32))]))
  obtain ⟨T63, X63, e63, st63⟩ := getF X62 hx hZ hown (host := "") (Or.inl w17) Via.refl e62 F_regions_a1 (g := (mkF m 6 #[.val (.ref a1), .val (.int (((0 : Int32) + (((xs3.getD (0 : Int32).toNatClampNeg 0) - (xs2.getD (0 : Int32).toNatClampNeg 0)) + (1 : Int32))) + (((xs3.getD (1 : Int32).toNatClampNeg 0) - (xs2.getD (1 : Int32).toNatClampNeg 0)) + (1 : Int32)))), .val (.int (2 : Int32))] [(.ref a1), (.int (2 : Int32))])) rfl rfl (hb hby own_dprog_129_method_2_code_6)
  refine own_step st63 ?_
  show own_Goes p e below _ (T63.setTop (mkF m 9 #[.val (.ref a1), .val (.int (((0 : Int32) + (((xs3.getD (0 : Int32).toNatClampNeg 0) - (xs2.getD (0 : Int32).toNatClampNeg 0)) + (1 : Int32))) + (((xs3.getD (1 : Int32).toNatClampNeg 0) - (xs2.getD (1 : Int32).toNatClampNeg 0)) + (1 : Int32)))), .val (.int (2 : Int32))] [(.ref rg), (.int (2 : Int32))]))
  refine own_step (fun t k => own_len X63 hx hZ e63 V_rg (g := (mkF m 9 #[.val (.ref a1), .val (.int (((0 : Int32) + (((xs3.getD (0 : Int32).toNatClampNeg 0) - (xs2.getD (0 : Int32).toNatClampNeg 0)) + (1 : Int32))) + (((xs3.getD (1 : Int32).toNatClampNeg 0) - (xs2.getD (1 : Int32).toNatClampNeg 0)) + (1 : Int32)))), .val (.int (2 : Int32))] [(.ref rg), (.int (2 : Int32))])) rfl rfl (hb hby own_dprog_129_method_2_code_9) _ k) ?_
  show own_Goes p e below _ (T63.setTop (mkF m 10 #[.val (.ref a1), .val (.int (((0 : Int32) + (((xs3.getD (0 : Int32).toNatClampNeg 0) - (xs2.getD (0 : Int32).toNatClampNeg 0)) + (1 : Int32))) + (((xs3.getD (1 : Int32).toNatClampNeg 0) - (xs2.getD (1 : Int32).toNatClampNeg 0)) + (1 : Int32)))), .val (.int (2 : Int32))] [(.int (2 : Int32)), (.int (2 : Int32))]))
  have hc64 : ¬ ((2 : Int32) < (2 : Int32)) := by decide
  refine own_step (fun t k => XS.icmpYes X63.here hx rfl (pc0 := 10) (pc' := 37) rfl (hb hby own_dprog_129_method_2_code_10) rfl (flt hc64).2.1 (by decide) (by decide) k) ?_
  show own_Goes p e below _ (T63.setTop (mkF m 37 #[.val (.ref a1), .val (.int (((0 : Int32) + (((xs3.getD (0 : Int32).toNatClampNeg 0) - (xs2.getD (0 : Int32).toNatClampNeg 0)) + (1 : Int32))) + (((xs3.getD (1 : Int32).toNatClampNeg 0) - (xs2.getD (1 : Int32).toNatClampNeg 0)) + (1 : Int32)))), .val (.int (2 : Int32))] []))
  refine own_step (fun t k => XS.iloadN X63.here hx rfl (hb hby own_dprog_129_method_2_code_37) rfl k) ?_
  show own_Goes p e below _ (T63.setTop (mkF m 38 #[.val (.ref a1), .val (.int (((0 : Int32) + (((xs3.getD (0 : Int32).toNatClampNeg 0) - (xs2.getD (0 : Int32).toNatClampNeg 0)) + (1 : Int32))) + (((xs3.getD (1 : Int32).toNatClampNeg 0) - (xs2.getD (1 : Int32).toNatClampNeg 0)) + (1 : Int32)))), .val (.int (2 : Int32))] [(.int (((0 : Int32) + (((xs3.getD (0 : Int32).toNatClampNeg 0) - (xs2.getD (0 : Int32).toNatClampNeg 0)) + (1 : Int32))) + (((xs3.getD (1 : Int32).toNatClampNeg 0) - (xs2.getD (1 : Int32).toNatClampNeg 0)) + (1 : Int32))))]))
  refine own_retV X63 hx hlk Bd.returns (w := (.int (((0 : Int32) + (((xs3.getD (0 : Int32).toNatClampNeg 0) - (xs2.getD (0 : Int32).toNatClampNeg 0)) + (1 : Int32))) + (((xs3.getD (1 : Int32).toNatClampNeg 0) - (xs2.getD (1 : Int32).toNatClampNeg 0)) + (1 : Int32))))) rfl (Or.inl ⟨rfl, Or.inl rfl, _, rfl⟩) (hb hby own_dprog_129_method_2_code_38) ?_ (by decide) (by decide)
  show own_c2_Q Z a1 rg fi la k1 k2 k3 xs1 xs2 xs3 h0 n0 _ T63.heap _
  rw [e63]
  exact ⟨rfl, N0, rfl⟩
theorem own_c3_ef (m : MethodId) (a1 : Addr) : entryFrame m #[(.ref a1)] 3 = mkF m 0 #[.val (.ref a1), .unset, .unset] [] := by first | (simp [entryFrame, mkF, argsToLocals, Value.category]; done) | rfl
def own_c3_Q (Z : State) (a1 : Addr) (rg : Addr) (fi : Addr) (la : Addr) (k1 : ClassId) (k2 : ClassId) (k3 : ClassId) (xs1 : List Int64) (xs2 : List Int32) (xs3 : List Int32) (h0 : Heap) (n0 : Nat) (v : Option Value) (h : Heap) (L : List Loc) : Prop := v = some (.int ((((0 : Int32) + (((xs3.getD (0 : Int32).toNatClampNeg 0) - (xs2.getD (0 : Int32).toNatClampNeg 0)) + (1 : Int32))) + (((xs3.getD (1 : Int32).toNatClampNeg 0) - (xs2.getD (1 : Int32).toNatClampNeg 0)) + (1 : Int32))) + (((xs3.getD (2 : Int32).toNatClampNeg 0) - (xs2.getD (2 : Int32).toNatClampNeg 0)) + (1 : Int32)))) ∧ Fr n0 L ∧ h = h0
set_option maxRecDepth 65536 in
set_option maxHeartbeats 40000000 in
theorem own_c3 (l : Launch) (Z : State) (a0 : Array Value) (hw : ∀ d ∈ tables_1, d.before a0 Z = true) (ws : List Jvm.Cond) (a1 : Addr) (rg : Addr) (fi : Addr) (la : Addr) (k1 : ClassId) (k2 : ClassId) (k3 : ClassId) (xs1 : List Int64) (xs2 : List Int32) (xs3 : List Int32) (h0 : Heap) (n0 : Nat) (Z0 : n0 ≤ h0.size) (F_regions_a1 : Fld Z h0 a1 "com/example/concepta/concepta/store/OidSet$Rows" "regions" "[J" (.ref rg)) (F_firsts_a1 : Fld Z h0 a1 "com/example/concepta/concepta/store/OidSet$Rows" "firsts" "[I" (.ref fi)) (F_lasts_a1 : Fld Z h0 a1 "com/example/concepta/concepta/store/OidSet$Rows" "lasts" "[I" (.ref la)) (V_rg : Arv Z h0 rg k1 .long (3 : Int32) (xs1.map Value.long) (Value.long 0)) (V_fi : Arv Z h0 fi k2 .int (3 : Int32) (xs2.map Value.int) (Value.int 0)) (V_la : Arv Z h0 la k3 .int (3 : Int32) (xs3.map Value.int) (Value.int 0)) :
    MetFree l (⟨"com/example/concepta/concepta/store/OidSet$Rows", "blockCount", "()I"⟩ : MethodName) (head1 (Jvm.Cond.code (⟨"com/example/concepta/concepta/store/OidSet$Rows", "blockCount", "()I"⟩ : MethodName) prog_129_method_2_code 3 (some .int) :: ws) ({ frames := 0, cells := 0, slots := 0, locals := 0 } : Room)) (fun aa U => aa = #[(.ref a1)] ∧ Z.Warmed39 U.vm ∧ U.heap = h0) (fun _ _ _ _ _ => True) (fun _ U o U' => ∃ v L, o = .returned v ∧ own_c3_Q Z a1 rg fi la k1 k2 k3 xs1 xs2 xs3 h0 n0 v U'.heap L ∧ FrameEnd U o U' L ({ frames := 0, cells := 0, slots := 0, locals := 0 } : Room).cells ({ frames := 0, cells := 0, slots := 0, locals := 0 } : Room).slots) := by
  refine MetFree.of_bodySF (plainFor_of_name own_pn1) hisR ?_
  have w17 := hw _ (List.mem_of_getElem? (i := 17) rfl)
  have w19 := hw _ (List.mem_of_getElem? (i := 19) rfl)
  have w21 := hw _ (List.mem_of_getElem? (i := 21) rfl)
  intro p e s m args below meth c s₁ Bd hml0 hP hK
  obtain ⟨rfl, hZ, hh⟩ := hP
  have hx := Bd.exec
  have hby := Bd.bytes
  have hlk := Bd.notSynchronized
  have hml : c.maxLocals = 3 := hml0
  have hown : s.vm.findClass "com/example/concepta/concepta/store/OidSet$Rows" = some m.cls := findClass_of_methodNamed Bd.named
  have hnm := (name_of_methodNamed Bd.named Bd.method).1
  have X0 : Stand p l e ({ frames := 0, cells := 0, slots := 0, locals := 0 } : Room) s m #[(.ref a1)] below meth c s₁ [] 0 0 := Stand.of_body Bd
  have e0 : s₁.heap = h0 := by rw [← hh, Bd.state]; rfl
  have N0 := Fr.nil n0
  have K0 : Keep h0 h0 [] := Keep.refl h0 _
  show own_Goes p e below (own_Fin s (own_c3_Q Z a1 rg fi la k1 k2 k3 xs1 xs2 xs3 h0 n0) ({ frames := 0, cells := 0, slots := 0, locals := 0 } : Room).cells ({ frames := 0, cells := 0, slots := 0, locals := 0 } : Room).slots) _
  refine own_step (fun t k => castTop (own_c3_ef m a1) k) ?_
  show own_Goes p e below _ (s₁.setTop (mkF m 0 #[.val (.ref a1), .unset, .unset] []))
  refine own_step (fun t k => XS.iconst X0.here hx rfl (hb hby own_dprog_129_method_2_code_0) k) ?_
  show own_Goes p e below _ (s₁.setTop (mkF m 1 #[.val (.ref a1), .unset, .unset] [(.int (0 : Int32))]))
  refine own_step (fun t k => XS.istoreN X0.here hx rfl (hb hby own_dprog_129_method_2_code_1) rfl (l' := #[.val (.ref a1), .val (.int (0 : Int32)), .unset]) rfl k) ?_
  show own_Goes p e below _ (s₁.setTop (mkF m 2 #[.val (.ref a1), .val (.int (0 : Int32)), .unset] []))
  refine own_step (fun t k => XS.iconst X0.here hx rfl (hb hby own_dprog_129_method_2_code_2) k) ?_
  show own_Goes p e below _ (s₁.setTop (mkF m 3 #[.val (.ref a1), .val (.int (0 : Int32)), .unset] [(.int (0 : Int32))]))
  refine own_step (fun t k => XS.istoreN X0.here hx rfl (hb hby own_dprog_129_method_2_code_3) rfl (l' := #[.val (.ref a1), .val (.int (0 : Int32)), .val (.int (0 : Int32))]) rfl k) ?_
  show own_Goes p e below _ (s₁.setTop (mkF m 4 #[.val (.ref a1), .val (.int (0 : Int32)), .val (.int (0 : Int32))] []))
  refine own_step (fun t k => XS.iloadN X0.here hx rfl (hb hby own_dprog_129_method_2_code_4) rfl k) ?_
  show own_Goes p e below _ (s₁.setTop (mkF m 5 #[.val (.ref a1), .val (.int (0 : Int32)), .val (.int (0 : Int32))] [(.int (0 : Int32))]))
  refine own_step (fun t k => XS.aloadN X0.here hx rfl (hb hby own_dprog_129_method_2_code_5) rfl rfl k) ?_
  show own_Goes p e below _ (s₁.setTop (mkF m 6 #[.val (.ref a1), .val (.int (0 : Int32)), .val (.int (0 : Int32))] [(.ref a1), (.int (0 : Int32))]))
  obtain ⟨T79, X79, e79, st79⟩ := getF X0 hx hZ hown (host := "") (Or.inl w17) Via.refl e0 F_regions_a1 (g := (mkF m 6 #[.val (.ref a1), .val (.int (0 : Int32)), .val (.int (0 : Int32))] [(.ref a1), (.int (0 : Int32))])) rfl rfl (hb hby own_dprog_129_method_2_code_6)
  refine own_step st79 ?_
  show own_Goes p e below _ (T79.setTop (mkF m 9 #[.val (.ref a1), .val (.int (0 : Int32)), .val (.int (0 : Int32))] [(.ref rg), (.int (0 : Int32))]))
  refine own_step (fun t k => own_len X79 hx hZ e79 V_rg (g := (mkF m 9 #[.val (.ref a1), .val (.int (0 : Int32)), .val (.int (0 : Int32))] [(.ref rg), (.int (0 : Int32))])) rfl rfl (hb hby own_dprog_129_method_2_code_9) _ k) ?_
  show own_Goes p e below _ (T79.setTop (mkF m 10 #[.val (.ref a1), .val (.int (0 : Int32)), .val (.int (0 : Int32))] [(.int (3 : Int32)), (.int (0 : Int32))]))
  have hc80 : (0 : Int32) < (3 : Int32) := by decide
  refine own_step (fun t k => XS.icmpNo X79.here hx rfl (hb hby own_dprog_129_method_2_code_10) rfl (tlt hc80).2.1 k) ?_
  show own_Goes p e below _ (T79.setTop (mkF m 13 #[.val (.ref a1), .val (.int (0 : Int32)), .val (.int (0 : Int32))] []))
  refine own_step (fun t k => XS.iloadN X79.here hx rfl (hb hby own_dprog_129_method_2_code_13) rfl k) ?_
  show own_Goes p e below _ (T79.setTop (mkF m 14 #[.val (.ref a1), .val (.int (0 : Int32)), .val (.int (0 : Int32))] [(.int (0 : Int32))]))
  refine own_step (fun t k => XS.aloadN X79.here hx rfl (hb hby own_dprog_129_method_2_code_14) rfl rfl k) ?_
  show own_Goes p e below _ (T79.setTop (mkF m 15 #[.val (.ref a1), .val (.int (0 : Int32)), .val (.int (0 : Int32))] [(.ref a1), (.int (0 : Int32))]))
  obtain ⟨T81, X81, e81, st81⟩ := getF X79 hx hZ hown (host := "") (Or.inl w21) Via.refl e79 F_lasts_a1 (g := (mkF m 15 #[.val (.ref a1), .val (.int (0 : Int32)), .val (.int (0 : Int32))] [(.ref a1), (.int (0 : Int32))])) rfl rfl (hb hby own_dprog_129_method_2_code_15)
  refine own_step st81 ?_
  show own_Goes p e below _ (T81.setTop (mkF m 18 #[.val (.ref a1), .val (.int (0 : Int32)), .val (.int (0 : Int32))] [(.ref la), (.int (0 : Int32))]))
  refine own_step (fun t k => XS.iloadN X81.here hx rfl (hb hby own_dprog_129_method_2_code_18) rfl k) ?_
  show own_Goes p e below _ (T81.setTop (mkF m 19 #[.val (.ref a1), .val (.int (0 : Int32)), .val (.int (0 : Int32))] [(.int (0 : Int32)), (.ref la), (.int (0 : Int32))]))
  refine own_step (fun t k => own_ial X81 hx hZ e81 V_la ⟨by decide, by decide⟩ (g := (mkF m 19 #[.val (.ref a1), .val (.int (0 : Int32)), .val (.int (0 : Int32))] [(.int (0 : Int32)), (.ref la), (.int (0 : Int32))])) rfl rfl (hb hby own_dprog_129_method_2_code_19) _ k) ?_
  show own_Goes p e below _ (T81.setTop (mkF m 20 #[.val (.ref a1), .val (.int (0 : Int32)), .val (.int (0 : Int32))] [(.int (xs3.getD (0 : Int32).toNatClampNeg 0)), (.int (0 : Int32))]))
  refine own_step (fun t k => XS.aloadN X81.here hx rfl (hb hby own_dprog_129_method_2_code_20) rfl rfl k) ?_
  show own_Goes p e below _ (T81.setTop (mkF m 21 #[.val (.ref a1), .val (.int (0 : Int32)), .val (.int (0 : Int32))] [(.ref a1), (.int (xs3.getD (0 : Int32).toNatClampNeg 0)), (.int (0 : Int32))]))
  obtain ⟨T82, X82, e82, st82⟩ := getF X81 hx hZ hown (host := "") (Or.inl w19) Via.refl e81 F_firsts_a1 (g := (mkF m 21 #[.val (.ref a1), .val (.int (0 : Int32)), .val (.int (0 : Int32))] [(.ref a1), (.int (xs3.getD (0 : Int32).toNatClampNeg 0)), (.int (0 : Int32))])) rfl rfl (hb hby own_dprog_129_method_2_code_21)
  refine own_step st82 ?_
  show own_Goes p e below _ (T82.setTop (mkF m 24 #[.val (.ref a1), .val (.int (0 : Int32)), .val (.int (0 : Int32))] [(.ref fi), (.int (xs3.getD (0 : Int32).toNatClampNeg 0)), (.int (0 : Int32))]))
  refine own_step (fun t k => XS.iloadN X82.here hx rfl (hb hby own_dprog_129_method_2_code_24) rfl k) ?_
  show own_Goes p e below _ (T82.setTop (mkF m 25 #[.val (.ref a1), .val (.int (0 : Int32)), .val (.int (0 : Int32))] [(.int (0 : Int32)), (.ref fi), (.int (xs3.getD (0 : Int32).toNatClampNeg 0)), (.int (0 : Int32))]))
  refine own_step (fun t k => own_ial X82 hx hZ e82 V_fi ⟨by decide, by decide⟩ (g := (mkF m 25 #[.val (.ref a1), .val (.int (0 : Int32)), .val (.int (0 : Int32))] [(.int (0 : Int32)), (.ref fi), (.int (xs3.getD (0 : Int32).toNatClampNeg 0)), (.int (0 : Int32))])) rfl rfl (hb hby own_dprog_129_method_2_code_25) _ k) ?_
  show own_Goes p e below _ (T82.setTop (mkF m 26 #[.val (.ref a1), .val (.int (0 : Int32)), .val (.int (0 : Int32))] [(.int (xs2.getD (0 : Int32).toNatClampNeg 0)), (.int (xs3.getD (0 : Int32).toNatClampNeg 0)), (.int (0 : Int32))]))
  refine own_step (fun t k => XS.isub X82.here hx rfl (hb hby own_dprog_129_method_2_code_26) rfl k) ?_
  show own_Goes p e below _ (T82.setTop (mkF m 27 #[.val (.ref a1), .val (.int (0 : Int32)), .val (.int (0 : Int32))] [(.int ((xs3.getD (0 : Int32).toNatClampNeg 0) - (xs2.getD (0 : Int32).toNatClampNeg 0))), (.int (0 : Int32))]))
  refine own_step (fun t k => XS.iconst X82.here hx rfl (hb hby own_dprog_129_method_2_code_27) k) ?_
  show own_Goes p e below _ (T82.setTop (mkF m 28 #[.val (.ref a1), .val (.int (0 : Int32)), .val (.int (0 : Int32))] [(.int (1 : Int32)), (.int ((xs3.getD (0 : Int32).toNatClampNeg 0) - (xs2.getD (0 : Int32).toNatClampNeg 0))), (.int (0 : Int32))]))
  refine own_step (fun t k => XS.iadd X82.here hx rfl (hb hby own_dprog_129_method_2_code_28) rfl k) ?_
  show own_Goes p e below _ (T82.setTop (mkF m 29 #[.val (.ref a1), .val (.int (0 : Int32)), .val (.int (0 : Int32))] [(.int (((xs3.getD (0 : Int32).toNatClampNeg 0) - (xs2.getD (0 : Int32).toNatClampNeg 0)) + (1 : Int32))), (.int (0 : Int32))]))
  refine own_step (fun t k => XS.iadd X82.here hx rfl (hb hby own_dprog_129_method_2_code_29) rfl k) ?_
  show own_Goes p e below _ (T82.setTop (mkF m 30 #[.val (.ref a1), .val (.int (0 : Int32)), .val (.int (0 : Int32))] [(.int ((0 : Int32) + (((xs3.getD (0 : Int32).toNatClampNeg 0) - (xs2.getD (0 : Int32).toNatClampNeg 0)) + (1 : Int32))))]))
  refine own_step (fun t k => XS.istoreN X82.here hx rfl (hb hby own_dprog_129_method_2_code_30) rfl (l' := #[.val (.ref a1), .val (.int ((0 : Int32) + (((xs3.getD (0 : Int32).toNatClampNeg 0) - (xs2.getD (0 : Int32).toNatClampNeg 0)) + (1 : Int32)))), .val (.int (0 : Int32))]) rfl k) ?_
  show own_Goes p e below _ (T82.setTop (mkF m 31 #[.val (.ref a1), .val (.int ((0 : Int32) + (((xs3.getD (0 : Int32).toNatClampNeg 0) - (xs2.getD (0 : Int32).toNatClampNeg 0)) + (1 : Int32)))), .val (.int (0 : Int32))] []))
  refine own_step (fun t k => XS.iinc X82.here hx rfl (hb hby own_dprog_129_method_2_code_31) rfl (l' := #[.val (.ref a1), .val (.int ((0 : Int32) + (((xs3.getD (0 : Int32).toNatClampNeg 0) - (xs2.getD (0 : Int32).toNatClampNeg 0)) + (1 : Int32)))), .val (.int (1 : Int32))]) rfl k) ?_
  show own_Goes p e below _ (T82.setTop (mkF m 34 #[.val (.ref a1), .val (.int ((0 : Int32) + (((xs3.getD (0 : Int32).toNatClampNeg 0) - (xs2.getD (0 : Int32).toNatClampNeg 0)) + (1 : Int32)))), .val (.int (1 : Int32))] []))
  refine own_step (fun t k => XS.goto X82.here hx rfl (pc0 := 34) (pc' := 4) rfl (hb hby own_dprog_129_method_2_code_34) (by decide) (by decide) k) ?_
  show own_Goes p e below _ (T82.setTop (mkF m 4 #[.val (.ref a1), .val (.int ((0 : Int32) + (((xs3.getD (0 : Int32).toNatClampNeg 0) - (xs2.getD (0 : Int32).toNatClampNeg 0)) + (1 : Int32)))), .val (.int (1 : Int32))] []))
  refine own_step (fun t k => XS.iloadN X82.here hx rfl (hb hby own_dprog_129_method_2_code_4) rfl k) ?_
  show own_Goes p e below _ (T82.setTop (mkF m 5 #[.val (.ref a1), .val (.int ((0 : Int32) + (((xs3.getD (0 : Int32).toNatClampNeg 0) - (xs2.getD (0 : Int32).toNatClampNeg 0)) + (1 : Int32)))), .val (.int (1 : Int32))] [(.int (1 : Int32))]))
  refine own_step (fun t k => XS.aloadN X82.here hx rfl (hb hby own_dprog_129_method_2_code_5) rfl rfl k) ?_
  show own_Goes p e below _ (T82.setTop (mkF m 6 #[.val (.ref a1), .val (.int ((0 : Int32) + (((xs3.getD (0 : Int32).toNatClampNeg 0) - (xs2.getD (0 : Int32).toNatClampNeg 0)) + (1 : Int32)))), .val (.int (1 : Int32))] [(.ref a1), (.int (1 : Int32))]))
  obtain ⟨T83, X83, e83, st83⟩ := getF X82 hx hZ hown (host := "") (Or.inl w17) Via.refl e82 F_regions_a1 (g := (mkF m 6 #[.val (.ref a1), .val (.int ((0 : Int32) + (((xs3.getD (0 : Int32).toNatClampNeg 0) - (xs2.getD (0 : Int32).toNatClampNeg 0)) + (1 : Int32)))), .val (.int (1 : Int32))] [(.ref a1), (.int (1 : Int32))])) rfl rfl (hb hby own_dprog_129_method_2_code_6)
  refine own_step st83 ?_
  show own_Goes p e below _ (T83.setTop (mkF m 9 #[.val (.ref a1), .val (.int ((0 : Int32) + (((xs3.getD (0 : Int32).toNatClampNeg 0) - (xs2.getD (0 : Int32).toNatClampNeg 0)) + (1 : Int32)))), .val (.int (1 : Int32))] [(.ref rg), (.int (1 : Int32))]))
  refine own_step (fun t k => own_len X83 hx hZ e83 V_rg (g := (mkF m 9 #[.val (.ref a1), .val (.int ((0 : Int32) + (((xs3.getD (0 : Int32).toNatClampNeg 0) - (xs2.getD (0 : Int32).toNatClampNeg 0)) + (1 : Int32)))), .val (.int (1 : Int32))] [(.ref rg), (.int (1 : Int32))])) rfl rfl (hb hby own_dprog_129_method_2_code_9) _ k) ?_
  show own_Goes p e below _ (T83.setTop (mkF m 10 #[.val (.ref a1), .val (.int ((0 : Int32) + (((xs3.getD (0 : Int32).toNatClampNeg 0) - (xs2.getD (0 : Int32).toNatClampNeg 0)) + (1 : Int32)))), .val (.int (1 : Int32))] [(.int (3 : Int32)), (.int (1 : Int32))]))
  have hc84 : (1 : Int32) < (3 : Int32) := by decide
  refine own_step (fun t k => XS.icmpNo X83.here hx rfl (hb hby own_dprog_129_method_2_code_10) rfl (tlt hc84).2.1 k) ?_
  show own_Goes p e below _ (T83.setTop (mkF m 13 #[.val (.ref a1), .val (.int ((0 : Int32) + (((xs3.getD (0 : Int32).toNatClampNeg 0) - (xs2.getD (0 : Int32).toNatClampNeg 0)) + (1 : Int32)))), .val (.int (1 : Int32))] []))
  refine own_step (fun t k => XS.iloadN X83.here hx rfl (hb hby own_dprog_129_method_2_code_13) rfl k) ?_
  show own_Goes p e below _ (T83.setTop (mkF m 14 #[.val (.ref a1), .val (.int ((0 : Int32) + (((xs3.getD (0 : Int32).toNatClampNeg 0) - (xs2.getD (0 : Int32).toNatClampNeg 0)) + (1 : Int32)))), .val (.int (1 : Int32))] [(.int ((0 : Int32) + (((xs3.getD (0 : Int32).toNatClampNeg 0) - (xs2.getD (0 : Int32).toNatClampNeg 0)) + (1 : Int32))))]))
  refine own_step (fun t k => XS.aloadN X83.here hx rfl (hb hby own_dprog_129_method_2_code_14) rfl rfl k) ?_
  show own_Goes p e below _ (T83.setTop (mkF m 15 #[.val (.ref a1), .val (.int ((0 : Int32) + (((xs3.getD (0 : Int32).toNatClampNeg 0) - (xs2.getD (0 : Int32).toNatClampNeg 0)) + (1 : Int32)))), .val (.int (1 : Int32))] [(.ref a1), (.int ((0 : Int32) + (((xs3.getD (0 : Int32).toNatClampNeg 0) - (xs2.getD (0 : Int32).toNatClampNeg 0)) + (1 : Int32))))]))
  obtain ⟨T85, X85, e85, st85⟩ := getF X83 hx hZ hown (host := "") (Or.inl w21) Via.refl e83 F_lasts_a1 (g := (mkF m 15 #[.val (.ref a1), .val (.int ((0 : Int32) + (((xs3.getD (0 : Int32).toNatClampNeg 0) - (xs2.getD (0 : Int32).toNatClampNeg 0)) + (1 : Int32)))), .val (.int (1 : Int32))] [(.ref a1), (.int ((0 : Int32) + (((xs3.getD (0 : Int32).toNatClampNeg 0) - (xs2.getD (0 : Int32).toNatClampNeg 0)) + (1 : Int32))))])) rfl rfl (hb hby own_dprog_129_method_2_code_15)
  refine own_step st85 ?_
  show own_Goes p e below _ (T85.setTop (mkF m 18 #[.val (.ref a1), .val (.int ((0 : Int32) + (((xs3.getD (0 : Int32).toNatClampNeg 0) - (xs2.getD (0 : Int32).toNatClampNeg 0)) + (1 : Int32)))), .val (.int (1 : Int32))] [(.ref la), (.int ((0 : Int32) + (((xs3.getD (0 : Int32).toNatClampNeg 0) - (xs2.getD (0 : Int32).toNatClampNeg 0)) + (1 : Int32))))]))
  refine own_step (fun t k => XS.iloadN X85.here hx rfl (hb hby own_dprog_129_method_2_code_18) rfl k) ?_
  show own_Goes p e below _ (T85.setTop (mkF m 19 #[.val (.ref a1), .val (.int ((0 : Int32) + (((xs3.getD (0 : Int32).toNatClampNeg 0) - (xs2.getD (0 : Int32).toNatClampNeg 0)) + (1 : Int32)))), .val (.int (1 : Int32))] [(.int (1 : Int32)), (.ref la), (.int ((0 : Int32) + (((xs3.getD (0 : Int32).toNatClampNeg 0) - (xs2.getD (0 : Int32).toNatClampNeg 0)) + (1 : Int32))))]))
  refine own_step (fun t k => own_ial X85 hx hZ e85 V_la ⟨by decide, by decide⟩ (g := (mkF m 19 #[.val (.ref a1), .val (.int ((0 : Int32) + (((xs3.getD (0 : Int32).toNatClampNeg 0) - (xs2.getD (0 : Int32).toNatClampNeg 0)) + (1 : Int32)))), .val (.int (1 : Int32))] [(.int (1 : Int32)), (.ref la), (.int ((0 : Int32) + (((xs3.getD (0 : Int32).toNatClampNeg 0) - (xs2.getD (0 : Int32).toNatClampNeg 0)) + (1 : Int32))))])) rfl rfl (hb hby own_dprog_129_method_2_code_19) _ k) ?_
  show own_Goes p e below _ (T85.setTop (mkF m 20 #[.val (.ref a1), .val (.int ((0 : Int32) + (((xs3.getD (0 : Int32).toNatClampNeg 0) - (xs2.getD (0 : Int32).toNatClampNeg 0)) + (1 : Int32)))), .val (.int (1 : Int32))] [(.int (xs3.getD (1 : Int32).toNatClampNeg 0)), (.int ((0 : Int32) + (((xs3.getD (0 : Int32).toNatClampNeg 0) - (xs2.getD (0 : Int32).toNatClampNeg 0)) + (1 : Int32))))]))
  refine own_step (fun t k => XS.aloadN X85.here hx rfl (hb hby own_dprog_129_method_2_code_20) rfl rfl k) ?_
  show own_Goes p e below _ (T85.setTop (mkF m 21 #[.val (.ref a1), .val (.int ((0 : Int32) + (((xs3.getD (0 : Int32).toNatClampNeg 0) - (xs2.getD (0 : Int32).toNatClampNeg 0)) + (1 : Int32)))), .val (.int (1 : Int32))] [(.ref a1), (.int (xs3.getD (1 : Int32).toNatClampNeg 0)), (.int ((0 : Int32) + (((xs3.getD (0 : Int32).toNatClampNeg 0) - (xs2.getD (0 : Int32).toNatClampNeg 0)) + (1 : Int32))))]))
  obtain ⟨T86, X86, e86, st86⟩ := getF X85 hx hZ hown (host := "") (Or.inl w19) Via.refl e85 F_firsts_a1 (g := (mkF m 21 #[.val (.ref a1), .val (.int ((0 : Int32) + (((xs3.getD (0 : Int32).toNatClampNeg 0) - (xs2.getD (0 : Int32).toNatClampNeg 0)) + (1 : Int32)))), .val (.int (1 : Int32))] [(.ref a1), (.int (xs3.getD (1 : Int32).toNatClampNeg 0)), (.int ((0 : Int32) + (((xs3.getD (0 : Int32).toNatClampNeg 0) - (xs2.getD (0 : Int32).toNatClampNeg 0)) + (1 : Int32))))])) rfl rfl (hb hby own_dprog_129_method_2_code_21)
  refine own_step st86 ?_
  show own_Goes p e below _ (T86.setTop (mkF m 24 #[.val (.ref a1), .val (.int ((0 : Int32) + (((xs3.getD (0 : Int32).toNatClampNeg 0) - (xs2.getD (0 : Int32).toNatClampNeg 0)) + (1 : Int32)))), .val (.int (1 : Int32))] [(.ref fi), (.int (xs3.getD (1 : Int32).toNatClampNeg 0)), (.int ((0 : Int32) + (((xs3.getD (0 : Int32).toNatClampNeg 0) - (xs2.getD (0 : Int32).toNatClampNeg 0)) + (1 : Int32))))]))
  refine own_step (fun t k => XS.iloadN X86.here hx rfl (hb hby own_dprog_129_method_2_code_24) rfl k) ?_
  show own_Goes p e below _ (T86.setTop (mkF m 25 #[.val (.ref a1), .val (.int ((0 : Int32) + (((xs3.getD (0 : Int32).toNatClampNeg 0) - (xs2.getD (0 : Int32).toNatClampNeg 0)) + (1 : Int32)))), .val (.int (1 : Int32))] [(.int (1 : Int32)), (.ref fi), (.int (xs3.getD (1 : Int32).toNatClampNeg 0)), (.int ((0 : Int32) + (((xs3.getD (0 : Int32).toNatClampNeg 0) - (xs2.getD (0 : Int32).toNatClampNeg 0)) + (1 : Int32))))]))
  refine own_step (fun t k => own_ial X86 hx hZ e86 V_fi ⟨by decide, by decide⟩ (g := (mkF m 25 #[.val (.ref a1), .val (.int ((0 : Int32) + (((xs3.getD (0 : Int32).toNatClampNeg 0) - (xs2.getD (0 : Int32).toNatClampNeg 0)) + (1 : Int32)))), .val (.int (1 : Int32))] [(.int (1 : Int32)), (.ref fi), (.int (xs3.getD (1 : Int32).toNatClampNeg 0)), (.int ((0 : Int32) + (((xs3.getD (0 : Int32).toNatClampNeg 0) - (xs2.getD (0 : Int32).toNatClampNeg 0)) + (1 : Int32))))])) rfl rfl (hb hby own_dprog_129_method_2_code_25) _ k) ?_
  show own_Goes p e below _ (T86.setTop (mkF m 26 #[.val (.ref a1), .val (.int ((0 : Int32) + (((xs3.getD (0 : Int32).toNatClampNeg 0) - (xs2.getD (0 : Int32).toNatClampNeg 0)) + (1 : Int32)))), .val (.int (1 : Int32))] [(.int (xs2.getD (1 : Int32).toNatClampNeg 0)), (.int (xs3.getD (1 : Int32).toNatClampNeg 0)), (.int ((0 : Int32) + (((xs3.getD (0 : Int32).toNatClampNeg 0) - (xs2.getD (0 : Int32).toNatClampNeg 0)) + (1 : Int32))))]))
  refine own_step (fun t k => XS.isub X86.here hx rfl (hb hby own_dprog_129_method_2_code_26) rfl k) ?_
  show own_Goes p e below _ (T86.setTop (mkF m 27 #[.val (.ref a1), .val (.int ((0 : Int32) + (((xs3.getD (0 : Int32).toNatClampNeg 0) - (xs2.getD (0 : Int32).toNatClampNeg 0)) + (1 : Int32)))), .val (.int (1 : Int32))] [(.int ((xs3.getD (1 : Int32).toNatClampNeg 0) - (xs2.getD (1 : Int32).toNatClampNeg 0))), (.int ((0 : Int32) + (((xs3.getD (0 : Int32).toNatClampNeg 0) - (xs2.getD (0 : Int32).toNatClampNeg 0)) + (1 : Int32))))]))
  refine own_step (fun t k => XS.iconst X86.here hx rfl (hb hby own_dprog_129_method_2_code_27) k) ?_
  show own_Goes p e below _ (T86.setTop (mkF m 28 #[.val (.ref a1), .val (.int ((0 : Int32) + (((xs3.getD (0 : Int32).toNatClampNeg 0) - (xs2.getD (0 : Int32).toNatClampNeg 0)) + (1 : Int32)))), .val (.int (1 : Int32))] [(.int (1 : Int32)), (.int ((xs3.getD (1 : Int32).toNatClampNeg 0) - (xs2.getD (1 : Int32).toNatClampNeg 0))), (.int ((0 : Int32) + (((xs3.getD (0 : Int32).toNatClampNeg 0) - (xs2.getD (0 : Int32).toNatClampNeg 0)) + (1 : Int32))))]))
  refine own_step (fun t k => XS.iadd X86.here hx rfl (hb hby own_dprog_129_method_2_code_28) rfl k) ?_
  show own_Goes p e below _ (T86.setTop (mkF m 29 #[.val (.ref a1), .val (.int ((0 : Int32) + (((xs3.getD (0 : Int32).toNatClampNeg 0) - (xs2.getD (0 : Int32).toNatClampNeg 0)) + (1 : Int32)))), .val (.int (1 : Int32))] [(.int (((xs3.getD (1 : Int32).toNatClampNeg 0) - (xs2.getD (1 : Int32).toNatClampNeg 0)) + (1 : Int32))), (.int ((0 : Int32) + (((xs3.getD (0 : Int32).toNatClampNeg 0) - (xs2.getD (0 : Int32).toNatClampNeg 0)) + (1 : Int32))))]))
  refine own_step (fun t k => XS.iadd X86.here hx rfl (hb hby own_dprog_129_method_2_code_29) rfl k) ?_
  show own_Goes p e below _ (T86.setTop (mkF m 30 #[.val (.ref a1), .val (.int ((0 : Int32) + (((xs3.getD (0 : Int32).toNatClampNeg 0) - (xs2.getD (0 : Int32).toNatClampNeg 0)) + (1 : Int32)))), .val (.int (1 : Int32))] [(.int (((0 : Int32) + (((xs3.getD (0 : Int32).toNatClampNeg 0) - (xs2.getD (0 : Int32).toNatClampNeg 0)) + (1 : Int32))) + (((xs3.getD (1 : Int32).toNatClampNeg 0) - (xs2.getD (1 : Int32).toNatClampNeg 0)) + (1 : Int32))))]))
  refine own_step (fun t k => XS.istoreN X86.here hx rfl (hb hby own_dprog_129_method_2_code_30) rfl (l' := #[.val (.ref a1), .val (.int (((0 : Int32) + (((xs3.getD (0 : Int32).toNatClampNeg 0) - (xs2.getD (0 : Int32).toNatClampNeg 0)) + (1 : Int32))) + (((xs3.getD (1 : Int32).toNatClampNeg 0) - (xs2.getD (1 : Int32).toNatClampNeg 0)) + (1 : Int32)))), .val (.int (1 : Int32))]) rfl k) ?_
  show own_Goes p e below _ (T86.setTop (mkF m 31 #[.val (.ref a1), .val (.int (((0 : Int32) + (((xs3.getD (0 : Int32).toNatClampNeg 0) - (xs2.getD (0 : Int32).toNatClampNeg 0)) + (1 : Int32))) + (((xs3.getD (1 : Int32).toNatClampNeg 0) - (xs2.getD (1 : Int32).toNatClampNeg 0)) + (1 : Int32)))), .val (.int (1 : Int32))] []))
  refine own_step (fun t k => XS.iinc X86.here hx rfl (hb hby own_dprog_129_method_2_code_31) rfl (l' := #[.val (.ref a1), .val (.int (((0 : Int32) + (((xs3.getD (0 : Int32).toNatClampNeg 0) - (xs2.getD (0 : Int32).toNatClampNeg 0)) + (1 : Int32))) + (((xs3.getD (1 : Int32).toNatClampNeg 0) - (xs2.getD (1 : Int32).toNatClampNeg 0)) + (1 : Int32)))), .val (.int (2 : Int32))]) rfl k) ?_
  show own_Goes p e below _ (T86.setTop (mkF m 34 #[.val (.ref a1), .val (.int (((0 : Int32) + (((xs3.getD (0 : Int32).toNatClampNeg 0) - (xs2.getD (0 : Int32).toNatClampNeg 0)) + (1 : Int32))) + (((xs3.getD (1 : Int32).toNatClampNeg 0) - (xs2.getD (1 : Int32).toNatClampNeg 0)) + (1 : Int32)))), .val (.int (2 : Int32))] []))
  refine own_step (fun t k => XS.goto X86.here hx rfl (pc0 := 34) (pc' := 4) rfl (hb hby own_dprog_129_method_2_code_34) (by decide) (by decide) k) ?_
  show own_Goes p e below _ (T86.setTop (mkF m 4 #[.val (.ref a1), .val (.int (((0 : Int32) + (((xs3.getD (0 : Int32).toNatClampNeg 0) - (xs2.getD (0 : Int32).toNatClampNeg 0)) + (1 : Int32))) + (((xs3.getD (1 : Int32).toNatClampNeg 0) - (xs2.getD (1 : Int32).toNatClampNeg 0)) + (1 : Int32)))), .val (.int (2 : Int32))] []))
  refine own_step (fun t k => XS.iloadN X86.here hx rfl (hb hby own_dprog_129_method_2_code_4) rfl k) ?_
  show own_Goes p e below _ (T86.setTop (mkF m 5 #[.val (.ref a1), .val (.int (((0 : Int32) + (((xs3.getD (0 : Int32).toNatClampNeg 0) - (xs2.getD (0 : Int32).toNatClampNeg 0)) + (1 : Int32))) + (((xs3.getD (1 : Int32).toNatClampNeg 0) - (xs2.getD (1 : Int32).toNatClampNeg 0)) + (1 : Int32)))), .val (.int (2 : Int32))] [(.int (2 : Int32))]))
  refine own_step (fun t k => XS.aloadN X86.here hx rfl (hb hby own_dprog_129_method_2_code_5) rfl rfl k) ?_
  show own_Goes p e below _ (T86.setTop (mkF m 6 #[.val (.ref a1), .val (.int (((0 : Int32) + (((xs3.getD (0 : Int32).toNatClampNeg 0) - (xs2.getD (0 : Int32).toNatClampNeg 0)) + (1 : Int32))) + (((xs3.getD (1 : Int32).toNatClampNeg 0) - (xs2.getD (1 : Int32).toNatClampNeg 0)) + (1 : Int32)))), .val (.int (2 : Int32))] [(.ref a1), (.int (2 : Int32))]))
  obtain ⟨T87, X87, e87, st87⟩ := getF X86 hx hZ hown (host := "") (Or.inl w17) Via.refl e86 F_regions_a1 (g := (mkF m 6 #[.val (.ref a1), .val (.int (((0 : Int32) + (((xs3.getD (0 : Int32).toNatClampNeg 0) - (xs2.getD (0 : Int32).toNatClampNeg 0)) + (1 : Int32))) + (((xs3.getD (1 : Int32).toNatClampNeg 0) - (xs2.getD (1 : Int32).toNatClampNeg 0)) + (1 : Int32)))), .val (.int (2 : Int32))] [(.ref a1), (.int (2 : Int32))])) rfl rfl (hb hby own_dprog_129_method_2_code_6)
  refine own_step st87 ?_
  show own_Goes p e below _ (T87.setTop (mkF m 9 #[.val (.ref a1), .val (.int (((0 : Int32) + (((xs3.getD (0 : Int32).toNatClampNeg 0) - (xs2.getD (0 : Int32).toNatClampNeg 0)) + (1 : Int32))) + (((xs3.getD (1 : Int32).toNatClampNeg 0) - (xs2.getD (1 : Int32).toNatClampNeg 0)) + (1 : Int32)))), .val (.int (2 : Int32))] [(.ref rg), (.int (2 : Int32))]))
  refine own_step (fun t k => own_len X87 hx hZ e87 V_rg (g := (mkF m 9 #[.val (.ref a1), .val (.int (((0 : Int32) + (((xs3.getD (0 : Int32).toNatClampNeg 0) - (xs2.getD (0 : Int32).toNatClampNeg 0)) + (1 : Int32))) + (((xs3.getD (1 : Int32).toNatClampNeg 0) - (xs2.getD (1 : Int32).toNatClampNeg 0)) + (1 : Int32)))), .val (.int (2 : Int32))] [(.ref rg), (.int (2 : Int32))])) rfl rfl (hb hby own_dprog_129_method_2_code_9) _ k) ?_
  show own_Goes p e below _ (T87.setTop (mkF m 10 #[.val (.ref a1), .val (.int (((0 : Int32) + (((xs3.getD (0 : Int32).toNatClampNeg 0) - (xs2.getD (0 : Int32).toNatClampNeg 0)) + (1 : Int32))) + (((xs3.getD (1 : Int32).toNatClampNeg 0) - (xs2.getD (1 : Int32).toNatClampNeg 0)) + (1 : Int32)))), .val (.int (2 : Int32))] [(.int (3 : Int32)), (.int (2 : Int32))]))
  have hc88 : (2 : Int32) < (3 : Int32) := by decide
  refine own_step (fun t k => XS.icmpNo X87.here hx rfl (hb hby own_dprog_129_method_2_code_10) rfl (tlt hc88).2.1 k) ?_
  show own_Goes p e below _ (T87.setTop (mkF m 13 #[.val (.ref a1), .val (.int (((0 : Int32) + (((xs3.getD (0 : Int32).toNatClampNeg 0) - (xs2.getD (0 : Int32).toNatClampNeg 0)) + (1 : Int32))) + (((xs3.getD (1 : Int32).toNatClampNeg 0) - (xs2.getD (1 : Int32).toNatClampNeg 0)) + (1 : Int32)))), .val (.int (2 : Int32))] []))
  refine own_step (fun t k => XS.iloadN X87.here hx rfl (hb hby own_dprog_129_method_2_code_13) rfl k) ?_
  show own_Goes p e below _ (T87.setTop (mkF m 14 #[.val (.ref a1), .val (.int (((0 : Int32) + (((xs3.getD (0 : Int32).toNatClampNeg 0) - (xs2.getD (0 : Int32).toNatClampNeg 0)) + (1 : Int32))) + (((xs3.getD (1 : Int32).toNatClampNeg 0) - (xs2.getD (1 : Int32).toNatClampNeg 0)) + (1 : Int32)))), .val (.int (2 : Int32))] [(.int (((0 : Int32) + (((xs3.getD (0 : Int32).toNatClampNeg 0) - (xs2.getD (0 : Int32).toNatClampNeg 0)) + (1 : Int32))) + (((xs3.getD (1 : Int32).toNatClampNeg 0) - (xs2.getD (1 : Int32).toNatClampNeg 0)) + (1 : Int32))))]))
  refine own_step (fun t k => XS.aloadN X87.here hx rfl (hb hby own_dprog_129_method_2_code_14) rfl rfl k) ?_
  show own_Goes p e below _ (T87.setTop (mkF m 15 #[.val (.ref a1), .val (.int (((0 : Int32) + (((xs3.getD (0 : Int32).toNatClampNeg 0) - (xs2.getD (0 : Int32).toNatClampNeg 0)) + (1 : Int32))) + (((xs3.getD (1 : Int32).toNatClampNeg 0) - (xs2.getD (1 : Int32).toNatClampNeg 0)) + (1 : Int32)))), .val (.int (2 : Int32))] [(.ref a1), (.int (((0 : Int32) + (((xs3.getD (0 : Int32).toNatClampNeg 0) - (xs2.getD (0 : Int32).toNatClampNeg 0)) + (1 : Int32))) + (((xs3.getD (1 : Int32).toNatClampNeg 0) - (xs2.getD (1 : Int32).toNatClampNeg 0)) + (1 : Int32))))]))
  obtain ⟨T89, X89, e89, st89⟩ := getF X87 hx hZ hown (host := "") (Or.inl w21) Via.refl e87 F_lasts_a1 (g := (mkF m 15 #[.val (.ref a1), .val (.int (((0 : Int32) + (((xs3.getD (0 : Int32).toNatClampNeg 0) - (xs2.getD (0 : Int32).toNatClampNeg 0)) + (1 : Int32))) + (((xs3.getD (1 : Int32).toNatClampNeg 0) - (xs2.getD (1 : Int32).toNatClampNeg 0)) + (1 : Int32)))), .val (.int (2 : Int32))] [(.ref a1), (.int (((0 : Int32) + (((xs3.getD (0 : Int32).toNatClampNeg 0) - (xs2.getD (0 : Int32).toNatClampNeg 0)) + (1 : Int32))) + (((xs3.getD (1 : Int32).toNatClampNeg 0) - (xs2.getD (1 : Int32).toNatClampNeg 0)) + (1 : Int32))))])) rfl rfl (hb hby own_dprog_129_method_2_code_15)
  refine own_step st89 ?_
  show own_Goes p e below _ (T89.setTop (mkF m 18 #[.val (.ref a1), .val (.int (((0 : Int32) + (((xs3.getD (0 : Int32).toNatClampNeg 0) - (xs2.getD (0 : Int32).toNatClampNeg 0)) + (1 : Int32))) + (((xs3.getD (1 : Int32).toNatClampNeg 0) - (xs2.getD (1 : Int32).toNatClampNeg 0)) + (1 : Int32)))), .val (.int (2 : Int32))] [(.ref la), (.int (((0 : Int32) + (((xs3.getD (0 : Int32).toNatClampNeg 0) - (xs2.getD (0 : Int32).toNatClampNeg 0)) + (1 : Int32))) + (((xs3.getD (1 : Int32).toNatClampNeg 0) - (xs2.getD (1 : Int32).toNatClampNeg 0)) + (1 : Int32))))]))
  refine own_step (fun t k => XS.iloadN X89.here hx rfl (hb hby own_dprog_129_method_2_code_18) rfl k) ?_
  show own_Goes p e below _ (T89.setTop (mkF m 19 #[.val (.ref a1), .val (.int (((0 : Int32) + (((xs3.getD (0 : Int32).toNatClampNeg 0) - (xs2.getD (0 : Int32).toNatClampNeg 0)) + (1 : Int32))) + (((xs3.getD (1 : Int32).toNatClampNeg 0) - (xs2.getD (1 : Int32).toNatClampNeg 0)) + (1 : Int32)))), .val (.int (2 : Int32))] [(.int (2 : Int32)), (.ref la), (.int (((0 : Int32) + (((xs3.getD (0 : Int32).toNatClampNeg 0) - (xs2.getD (0 : Int32).toNatClampNeg 0)) + (1 : Int32))) + (((xs3.getD (1 : Int32).toNatClampNeg 0) - (xs2.getD (1 : Int32).toNatClampNeg 0)) + (1 : Int32))))]))
  refine own_step (fun t k => own_ial X89 hx hZ e89 V_la ⟨by decide, by decide⟩ (g := (mkF m 19 #[.val (.ref a1), .val (.int (((0 : Int32) + (((xs3.getD (0 : Int32).toNatClampNeg 0) - (xs2.getD (0 : Int32).toNatClampNeg 0)) + (1 : Int32))) + (((xs3.getD (1 : Int32).toNatClampNeg 0) - (xs2.getD (1 : Int32).toNatClampNeg 0)) + (1 : Int32)))), .val (.int (2 : Int32))] [(.int (2 : Int32)), (.ref la), (.int (((0 : Int32) + (((xs3.getD (0 : Int32).toNatClampNeg 0) - (xs2.getD (0 : Int32).toNatClampNeg 0)) + (1 : Int32))) + (((xs3.getD (1 : Int32).toNatClampNeg 0) - (xs2.getD (1 : Int32).toNatClampNeg 0)) + (1 : Int32))))])) rfl rfl (hb hby own_dprog_129_method_2_code_19) _ k) ?_
  show own_Goes p e below _ (T89.setTop (mkF m 20 #[.val (.ref a1), .val (.int (((0 : Int32) + (((xs3.getD (0 : Int32).toNatClampNeg 0) - (xs2.getD (0 : Int32).toNatClampNeg 0)) + (1 : Int32))) + (((xs3.getD (1 : Int32).toNatClampNeg 0) - (xs2.getD (1 : Int32).toNatClampNeg 0)) + (1 : Int32)))), .val (.int (2 : Int32))] [(.int (xs3.getD (2 : Int32).toNatClampNeg 0)), (.int (((0 : Int32) + (((xs3.getD (0 : Int32).toNatClampNeg 0) - (xs2.getD (0 : Int32).toNatClampNeg 0)) + (1 : Int32))) + (((xs3.getD (1 : Int32).toNatClampNeg 0) - (xs2.getD (1 : Int32).toNatClampNeg 0)) + (1 : Int32))))]))
  refine own_step (fun t k => XS.aloadN X89.here hx rfl (hb hby own_dprog_129_method_2_code_20) rfl rfl k) ?_
  show own_Goes p e below _ (T89.setTop (mkF m 21 #[.val (.ref a1), .val (.int (((0 : Int32) + (((xs3.getD (0 : Int32).toNatClampNeg 0) - (xs2.getD (0 : Int32).toNatClampNeg 0)) + (1 : Int32))) + (((xs3.getD (1 : Int32).toNatClampNeg 0) - (xs2.getD (1 : Int32).toNatClampNeg 0)) + (1 : Int32)))), .val (.int (2 : Int32))] [(.ref a1), (.int (xs3.getD (2 : Int32).toNatClampNeg 0)), (.int (((0 : Int32) + (((xs3.getD (0 : Int32).toNatClampNeg 0) - (xs2.getD (0 : Int32).toNatClampNeg 0)) + (1 : Int32))) + (((xs3.getD (1 : Int32).toNatClampNeg 0) - (xs2.getD (1 : Int32).toNatClampNeg 0)) + (1 : Int32))))]))
  obtain ⟨T90, X90, e90, st90⟩ := getF X89 hx hZ hown (host := "") (Or.inl w19) Via.refl e89 F_firsts_a1 (g := (mkF m 21 #[.val (.ref a1), .val (.int (((0 : Int32) + (((xs3.getD (0 : Int32).toNatClampNeg 0) - (xs2.getD (0 : Int32).toNatClampNeg 0)) + (1 : Int32))) + (((xs3.getD (1 : Int32).toNatClampNeg 0) - (xs2.getD (1 : Int32).toNatClampNeg 0)) + (1 : Int32)))), .val (.int (2 : Int32))] [(.ref a1), (.int (xs3.getD (2 : Int32).toNatClampNeg 0)), (.int (((0 : Int32) + (((xs3.getD (0 : Int32).toNatClampNeg 0) - (xs2.getD (0 : Int32).toNatClampNeg 0)) + (1 : Int32))) + (((xs3.getD (1 : Int32).toNatClampNeg 0) - (xs2.getD (1 : Int32).toNatClampNeg 0)) + (1 : Int32))))])) rfl rfl (hb hby own_dprog_129_method_2_code_21)
  refine own_step st90 ?_
  show own_Goes p e below _ (T90.setTop (mkF m 24 #[.val (.ref a1), .val (.int (((0 : Int32) + (((xs3.getD (0 : Int32).toNatClampNeg 0) - (xs2.getD (0 : Int32).toNatClampNeg 0)) + (1 : Int32))) + (((xs3.getD (1 : Int32).toNatClampNeg 0) - (xs2.getD (1 : Int32).toNatClampNeg 0)) + (1 : Int32)))), .val (.int (2 : Int32))] [(.ref fi), (.int (xs3.getD (2 : Int32).toNatClampNeg 0)), (.int (((0 : Int32) + (((xs3.getD (0 : Int32).toNatClampNeg 0) - (xs2.getD (0 : Int32).toNatClampNeg 0)) + (1 : Int32))) + (((xs3.getD (1 : Int32).toNatClampNeg 0) - (xs2.getD (1 : Int32).toNatClampNeg 0)) + (1 : Int32))))]))
  refine own_step (fun t k => XS.iloadN X90.here hx rfl (hb hby own_dprog_129_method_2_code_24) rfl k) ?_
  show own_Goes p e below _ (T90.setTop (mkF m 25 #[.val (.ref a1), .val (.int (((0 : Int32) + (((xs3.getD (0 : Int32).toNatClampNeg 0) - (xs2.getD (0 : Int32).toNatClampNeg 0)) + (1 : Int32))) + (((xs3.getD (1 : Int32).toNatClampNeg 0) - (xs2.getD (1 : Int32).toNatClampNeg 0)) + (1 : Int32)))), .val (.int (2 : Int32))] [(.int (2 : Int32)), (.ref fi), (.int (xs3.getD (2 : Int32).toNatClampNeg 0)), (.int (((0 : Int32) + (((xs3.getD (0 : Int32).toNatClampNeg 0) - (xs2.getD (0 : Int32).toNatClampNeg 0)) + (1 : Int32))) + (((xs3.getD (1 : Int32).toNatClampNeg 0) - (xs2.getD (1 : Int32).toNatClampNeg 0)) + (1 : Int32))))]))
  refine own_step (fun t k => own_ial X90 hx hZ e90 V_fi ⟨by decide, by decide⟩ (g := (mkF m 25 #[.val (.ref a1), .val (.int (((0 : Int32) + (((xs3.getD (0 : Int32).toNatClampNeg 0) - (xs2.getD (0 : Int32).toNatClampNeg 0)) + (1 : Int32))) + (((xs3.getD (1 : Int32).toNatClampNeg 0) - (xs2.getD (1 : Int32).toNatClampNeg 0)) + (1 : Int32)))), .val (.int (2 : Int32))] [(.int (2 : Int32)), (.ref fi), (.int (xs3.getD (2 : Int32).toNatClampNeg 0)), (.int (((0 : Int32) + (((xs3.getD (0 : Int32).toNatClampNeg 0) - (xs2.getD (0 : Int32).toNatClampNeg 0)) + (1 : Int32))) + (((xs3.getD (1 : Int32).toNatClampNeg 0) - (xs2.getD (1 : Int32).toNatClampNeg 0)) + (1 : Int32))))])) rfl rfl (hb hby own_dprog_129_method_2_code_25) _ k) ?_
  show own_Goes p e below _ (T90.setTop (mkF m 26 #[.val (.ref a1), .val (.int (((0 : Int32) + (((xs3.getD (0 : Int32).toNatClampNeg 0) - (xs2.getD (0 : Int32).toNatClampNeg 0)) + (1 : Int32))) + (((xs3.getD (1 : Int32).toNatClampNeg 0) - (xs2.getD (1 : Int32).toNatClampNeg 0)) + (1 : Int32)))), .val (.int (2 : Int32))] [(.int (xs2.getD (2 : Int32).toNatClampNeg 0)), (.int (xs3.getD (2 : Int32).toNatClampNeg 0)), (.int (((0 : Int32) + (((xs3.getD (0 : Int32).toNatClampNeg 0) - (xs2.getD (0 : Int32).toNatClampNeg 0)) + (1 : Int32))) + (((xs3.getD (1 : Int32).toNatClampNeg 0) - (xs2.getD (1 : Int32).toNatClampNeg 0)) + (1 : Int32))))]))
  refine own_step (fun t k => XS.isub X90.here hx rfl (hb hby own_dprog_129_method_2_code_26) rfl k) ?_
  show own_Goes p e below _ (T90.setTop (mkF m 27 #[.val (.ref a1), .val (.int (((0 : Int32) + (((xs3.getD (0 : Int32).toNatClampNeg 0) - (xs2.getD (0 : Int32).toNatClampNeg 0)) + (1 : Int32))) + (((xs3.getD (1 : Int32).toNatClampNeg 0) - (xs2.getD (1 : Int32).toNatClampNeg 0)) + (1 : Int32)))), .val (.int (2 : Int32))] [(.int ((xs3.getD (2 : Int32).toNatClampNeg 0) - (xs2.getD (2 : Int32).toNatClampNeg 0))), (.int (((0 : Int32) + (((xs3.getD (0 : Int32).toNatClampNeg 0) - (xs2.getD (0 : Int32).toNatClampNeg 0)) + (1 : Int32))) + (((xs3.getD (1 : Int32).toNatClampNeg 0) - (xs2.getD (1 : Int32).toNatClampNeg 0)) + (1 : Int32))))]))
  refine own_step (fun t k => XS.iconst X90.here hx rfl (hb hby own_dprog_129_method_2_code_27) k) ?_
  show own_Goes p e below _ (T90.setTop (mkF m 28 #[.val (.ref a1), .val (.int (((0 : Int32) + (((xs3.getD (0 : Int32).toNatClampNeg 0) - (xs2.getD (0 : Int32).toNatClampNeg 0)) + (1 : Int32))) + (((xs3.getD (1 : Int32).toNatClampNeg 0) - (xs2.getD (1 : Int32).toNatClampNeg 0)) + (1 : Int32)))), .val (.int (2 : Int32))] [(.int (1 : Int32)), (.int ((xs3.getD (2 : Int32).toNatClampNeg 0) - (xs2.getD (2 : Int32).toNatClampNeg 0))), (.int (((0 : Int32) + (((xs3.getD (0 : Int32).toNatClampNeg 0) - (xs2.getD (0 : Int32).toNatClampNeg 0)) + (1 : Int32))) + (((xs3.getD (1 : Int32).toNatClampNeg 0) - (xs2.getD (1 : Int32).toNatClampNeg 0)) + (1 : Int32))))]))
  refine own_step (fun t k => XS.iadd X90.here hx rfl (hb hby own_dprog_129_method_2_code_28) rfl k) ?_
  show own_Goes p e below _ (T90.setTop (mkF m 29 #[.val (.ref a1), .val (.int (((0 : Int32) + (((xs3.getD (0 : Int32).toNatClampNeg 0) - (xs2.getD (0 : Int32).toNatClampNeg 0)) + (1 : Int32))) + (((xs3.getD (1 : Int32).toNatClampNeg 0) - (xs2.getD (1 : Int32).toNatClampNeg 0)) + (1 : Int32)))), .val (.int (2 : Int32))] [(.int (((xs3.getD (2 : Int32).toNatClampNeg 0) - (xs2.getD (2 : Int32).toNatClampNeg 0)) + (1 : Int32))), (.int (((0 : Int32) + (((xs3.getD (0 : Int32).toNatClampNeg 0) - (xs2.getD (0 : Int32).toNatClampNeg 0)) + (1 : Int32))) + (((xs3.getD (1 : Int32).toNatClampNeg 0) - (xs2.getD (1 : Int32).toNatClampNeg 0)) + (1 : Int32))))]))
  refine own_step (fun t k => XS.iadd X90.here hx rfl (hb hby own_dprog_129_method_2_code_29) rfl k) ?_
  show own_Goes p e below _ (T90.setTop (mkF m 30 #[.val (.ref a1), .val (.int (((0 : Int32) + (((xs3.getD (0 : Int32).toNatClampNeg 0) - (xs2.getD (0 : Int32).toNatClampNeg 0)) + (1 : Int32))) + (((xs3.getD (1 : Int32).toNatClampNeg 0) - (xs2.getD (1 : Int32).toNatClampNeg 0)) + (1 : Int32)))), .val (.int (2 : Int32))] [(.int ((((0 : Int32) + (((xs3.getD (0 : Int32).toNatClampNeg 0) - (xs2.getD (0 : Int32).toNatClampNeg 0)) + (1 : Int32))) + (((xs3.getD (1 : Int32).toNatClampNeg 0) - (xs2.getD (1 : Int32).toNatClampNeg 0)) + (1 : Int32))) + (((xs3.getD (2 : Int32).toNatClampNeg 0) - (xs2.getD (2 : Int32).toNatClampNeg 0)) + (1 : Int32))))]))
  refine own_step (fun t k => XS.istoreN X90.here hx rfl (hb hby own_dprog_129_method_2_code_30) rfl (l' := #[.val (.ref a1), .val (.int ((((0 : Int32) + (((xs3.getD (0 : Int32).toNatClampNeg 0) - (xs2.getD (0 : Int32).toNatClampNeg 0)) + (1 : Int32))) + (((xs3.getD (1 : Int32).toNatClampNeg 0) - (xs2.getD (1 : Int32).toNatClampNeg 0)) + (1 : Int32))) + (((xs3.getD (2 : Int32).toNatClampNeg 0) - (xs2.getD (2 : Int32).toNatClampNeg 0)) + (1 : Int32)))), .val (.int (2 : Int32))]) rfl k) ?_
  show own_Goes p e below _ (T90.setTop (mkF m 31 #[.val (.ref a1), .val (.int ((((0 : Int32) + (((xs3.getD (0 : Int32).toNatClampNeg 0) - (xs2.getD (0 : Int32).toNatClampNeg 0)) + (1 : Int32))) + (((xs3.getD (1 : Int32).toNatClampNeg 0) - (xs2.getD (1 : Int32).toNatClampNeg 0)) + (1 : Int32))) + (((xs3.getD (2 : Int32).toNatClampNeg 0) - (xs2.getD (2 : Int32).toNatClampNeg 0)) + (1 : Int32)))), .val (.int (2 : Int32))] []))
  refine own_step (fun t k => XS.iinc X90.here hx rfl (hb hby own_dprog_129_method_2_code_31) rfl (l' := #[.val (.ref a1), .val (.int ((((0 : Int32) + (((xs3.getD (0 : Int32).toNatClampNeg 0) - (xs2.getD (0 : Int32).toNatClampNeg 0)) + (1 : Int32))) + (((xs3.getD (1 : Int32).toNatClampNeg 0) - (xs2.getD (1 : Int32).toNatClampNeg 0)) + (1 : Int32))) + (((xs3.getD (2 : Int32).toNatClampNeg 0) - (xs2.getD (2 : Int32).toNatClampNeg 0)) + (1 : Int32)))), .val (.int (3 : Int32))]) rfl k) ?_
  show own_Goes p e below _ (T90.setTop (mkF m 34 #[.val (.ref a1), .val (.int ((((0 : Int32) + (((xs3.getD (0 : Int32).toNatClampNeg 0) - (xs2.getD (0 : Int32).toNatClampNeg 0)) + (1 : Int32))) + (((xs3.getD (1 : Int32).toNatClampNeg 0) - (xs2.getD (1 : Int32).toNatClampNeg 0)) + (1 : Int32))) + (((xs3.getD (2 : Int32).toNatClampNeg 0) - (xs2.getD (2 : Int32).toNatClampNeg 0)) + (1 : Int32)))), .val (.int (3 : Int32))] []))
  refine own_step (fun t k => XS.goto X90.here hx rfl (pc0 := 34) (pc' := 4) rfl (hb hby own_dprog_129_method_2_code_34) (by decide) (by decide) k) ?_
  show own_Goes p e below _ (T90.setTop (mkF m 4 #[.val (.ref a1), .val (.int ((((0 : Int32) + (((xs3.getD (0 : Int32).toNatClampNeg 0) - (xs2.getD (0 : Int32).toNatClampNeg 0)) + (1 : Int32))) + (((xs3.getD (1 : Int32).toNatClampNeg 0) - (xs2.getD (1 : Int32).toNatClampNeg 0)) + (1 : Int32))) + (((xs3.getD (2 : Int32).toNatClampNeg 0) - (xs2.getD (2 : Int32).toNatClampNeg 0)) + (1 : Int32)))), .val (.int (3 : Int32))] []))
  refine own_step (fun t k => XS.iloadN X90.here hx rfl (hb hby own_dprog_129_method_2_code_4) rfl k) ?_
  show own_Goes p e below _ (T90.setTop (mkF m 5 #[.val (.ref a1), .val (.int ((((0 : Int32) + (((xs3.getD (0 : Int32).toNatClampNeg 0) - (xs2.getD (0 : Int32).toNatClampNeg 0)) + (1 : Int32))) + (((xs3.getD (1 : Int32).toNatClampNeg 0) - (xs2.getD (1 : Int32).toNatClampNeg 0)) + (1 : Int32))) + (((xs3.getD (2 : Int32).toNatClampNeg 0) - (xs2.getD (2 : Int32).toNatClampNeg 0)) + (1 : Int32)))), .val (.int (3 : Int32))] [(.int (3 : Int32))]))
  refine own_step (fun t k => XS.aloadN X90.here hx rfl (hb hby own_dprog_129_method_2_code_5) rfl rfl k) ?_
  show own_Goes p e below _ (T90.setTop (mkF m 6 #[.val (.ref a1), .val (.int ((((0 : Int32) + (((xs3.getD (0 : Int32).toNatClampNeg 0) - (xs2.getD (0 : Int32).toNatClampNeg 0)) + (1 : Int32))) + (((xs3.getD (1 : Int32).toNatClampNeg 0) - (xs2.getD (1 : Int32).toNatClampNeg 0)) + (1 : Int32))) + (((xs3.getD (2 : Int32).toNatClampNeg 0) - (xs2.getD (2 : Int32).toNatClampNeg 0)) + (1 : Int32)))), .val (.int (3 : Int32))] [(.ref a1), (.int (3 : Int32))]))
  obtain ⟨T91, X91, e91, st91⟩ := getF X90 hx hZ hown (host := "") (Or.inl w17) Via.refl e90 F_regions_a1 (g := (mkF m 6 #[.val (.ref a1), .val (.int ((((0 : Int32) + (((xs3.getD (0 : Int32).toNatClampNeg 0) - (xs2.getD (0 : Int32).toNatClampNeg 0)) + (1 : Int32))) + (((xs3.getD (1 : Int32).toNatClampNeg 0) - (xs2.getD (1 : Int32).toNatClampNeg 0)) + (1 : Int32))) + (((xs3.getD (2 : Int32).toNatClampNeg 0) - (xs2.getD (2 : Int32).toNatClampNeg 0)) + (1 : Int32)))), .val (.int (3 : Int32))] [(.ref a1), (.int (3 : Int32))])) rfl rfl (hb hby own_dprog_129_method_2_code_6)
  refine own_step st91 ?_
  show own_Goes p e below _ (T91.setTop (mkF m 9 #[.val (.ref a1), .val (.int ((((0 : Int32) + (((xs3.getD (0 : Int32).toNatClampNeg 0) - (xs2.getD (0 : Int32).toNatClampNeg 0)) + (1 : Int32))) + (((xs3.getD (1 : Int32).toNatClampNeg 0) - (xs2.getD (1 : Int32).toNatClampNeg 0)) + (1 : Int32))) + (((xs3.getD (2 : Int32).toNatClampNeg 0) - (xs2.getD (2 : Int32).toNatClampNeg 0)) + (1 : Int32)))), .val (.int (3 : Int32))] [(.ref rg), (.int (3 : Int32))]))
  refine own_step (fun t k => own_len X91 hx hZ e91 V_rg (g := (mkF m 9 #[.val (.ref a1), .val (.int ((((0 : Int32) + (((xs3.getD (0 : Int32).toNatClampNeg 0) - (xs2.getD (0 : Int32).toNatClampNeg 0)) + (1 : Int32))) + (((xs3.getD (1 : Int32).toNatClampNeg 0) - (xs2.getD (1 : Int32).toNatClampNeg 0)) + (1 : Int32))) + (((xs3.getD (2 : Int32).toNatClampNeg 0) - (xs2.getD (2 : Int32).toNatClampNeg 0)) + (1 : Int32)))), .val (.int (3 : Int32))] [(.ref rg), (.int (3 : Int32))])) rfl rfl (hb hby own_dprog_129_method_2_code_9) _ k) ?_
  show own_Goes p e below _ (T91.setTop (mkF m 10 #[.val (.ref a1), .val (.int ((((0 : Int32) + (((xs3.getD (0 : Int32).toNatClampNeg 0) - (xs2.getD (0 : Int32).toNatClampNeg 0)) + (1 : Int32))) + (((xs3.getD (1 : Int32).toNatClampNeg 0) - (xs2.getD (1 : Int32).toNatClampNeg 0)) + (1 : Int32))) + (((xs3.getD (2 : Int32).toNatClampNeg 0) - (xs2.getD (2 : Int32).toNatClampNeg 0)) + (1 : Int32)))), .val (.int (3 : Int32))] [(.int (3 : Int32)), (.int (3 : Int32))]))
  have hc92 : ¬ ((3 : Int32) < (3 : Int32)) := by decide
  refine own_step (fun t k => XS.icmpYes X91.here hx rfl (pc0 := 10) (pc' := 37) rfl (hb hby own_dprog_129_method_2_code_10) rfl (flt hc92).2.1 (by decide) (by decide) k) ?_
  show own_Goes p e below _ (T91.setTop (mkF m 37 #[.val (.ref a1), .val (.int ((((0 : Int32) + (((xs3.getD (0 : Int32).toNatClampNeg 0) - (xs2.getD (0 : Int32).toNatClampNeg 0)) + (1 : Int32))) + (((xs3.getD (1 : Int32).toNatClampNeg 0) - (xs2.getD (1 : Int32).toNatClampNeg 0)) + (1 : Int32))) + (((xs3.getD (2 : Int32).toNatClampNeg 0) - (xs2.getD (2 : Int32).toNatClampNeg 0)) + (1 : Int32)))), .val (.int (3 : Int32))] []))
  refine own_step (fun t k => XS.iloadN X91.here hx rfl (hb hby own_dprog_129_method_2_code_37) rfl k) ?_
  show own_Goes p e below _ (T91.setTop (mkF m 38 #[.val (.ref a1), .val (.int ((((0 : Int32) + (((xs3.getD (0 : Int32).toNatClampNeg 0) - (xs2.getD (0 : Int32).toNatClampNeg 0)) + (1 : Int32))) + (((xs3.getD (1 : Int32).toNatClampNeg 0) - (xs2.getD (1 : Int32).toNatClampNeg 0)) + (1 : Int32))) + (((xs3.getD (2 : Int32).toNatClampNeg 0) - (xs2.getD (2 : Int32).toNatClampNeg 0)) + (1 : Int32)))), .val (.int (3 : Int32))] [(.int ((((0 : Int32) + (((xs3.getD (0 : Int32).toNatClampNeg 0) - (xs2.getD (0 : Int32).toNatClampNeg 0)) + (1 : Int32))) + (((xs3.getD (1 : Int32).toNatClampNeg 0) - (xs2.getD (1 : Int32).toNatClampNeg 0)) + (1 : Int32))) + (((xs3.getD (2 : Int32).toNatClampNeg 0) - (xs2.getD (2 : Int32).toNatClampNeg 0)) + (1 : Int32))))]))
  refine own_retV X91 hx hlk Bd.returns (w := (.int ((((0 : Int32) + (((xs3.getD (0 : Int32).toNatClampNeg 0) - (xs2.getD (0 : Int32).toNatClampNeg 0)) + (1 : Int32))) + (((xs3.getD (1 : Int32).toNatClampNeg 0) - (xs2.getD (1 : Int32).toNatClampNeg 0)) + (1 : Int32))) + (((xs3.getD (2 : Int32).toNatClampNeg 0) - (xs2.getD (2 : Int32).toNatClampNeg 0)) + (1 : Int32))))) rfl (Or.inl ⟨rfl, Or.inl rfl, _, rfl⟩) (hb hby own_dprog_129_method_2_code_38) ?_ (by decide) (by decide)
  show own_c3_Q Z a1 rg fi la k1 k2 k3 xs1 xs2 xs3 h0 n0 _ T91.heap _
  rw [e91]
  exact ⟨rfl, N0, rfl⟩
theorem own_c4_ef (m : MethodId) (a1 : Addr) : entryFrame m #[(.ref a1)] 3 = mkF m 0 #[.val (.ref a1), .unset, .unset] [] := by first | (simp [entryFrame, mkF, argsToLocals, Value.category]; done) | rfl
def own_c4_Q (Z : State) (a1 : Addr) (rg : Addr) (fi : Addr) (la : Addr) (k1 : ClassId) (k2 : ClassId) (k3 : ClassId) (xs1 : List Int64) (xs2 : List Int32) (xs3 : List Int32) (h0 : Heap) (n0 : Nat) (v : Option Value) (h : Heap) (L : List Loc) : Prop := v = some (.int (((((0 : Int32) + (((xs3.getD (0 : Int32).toNatClampNeg 0) - (xs2.getD (0 : Int32).toNatClampNeg 0)) + (1 : Int32))) + (((xs3.getD (1 : Int32).toNatClampNeg 0) - (xs2.getD (1 : Int32).toNatClampNeg 0)) + (1 : Int32))) + (((xs3.getD (2 : Int32).toNatClampNeg 0) - (xs2.getD (2 : Int32).toNatClampNeg 0)) + (1 : Int32))) + (((xs3.getD (3 : Int32).toNatClampNeg 0) - (xs2.getD (3 : Int32).toNatClampNeg 0)) + (1 : Int32)))) ∧ Fr n0 L ∧ h = h0
set_option maxRecDepth 65536 in
set_option maxHeartbeats 40000000 in
theorem own_c4 (l : Launch) (Z : State) (a0 : Array Value) (hw : ∀ d ∈ tables_1, d.before a0 Z = true) (ws : List Jvm.Cond) (a1 : Addr) (rg : Addr) (fi : Addr) (la : Addr) (k1 : ClassId) (k2 : ClassId) (k3 : ClassId) (xs1 : List Int64) (xs2 : List Int32) (xs3 : List Int32) (h0 : Heap) (n0 : Nat) (Z0 : n0 ≤ h0.size) (F_regions_a1 : Fld Z h0 a1 "com/example/concepta/concepta/store/OidSet$Rows" "regions" "[J" (.ref rg)) (F_firsts_a1 : Fld Z h0 a1 "com/example/concepta/concepta/store/OidSet$Rows" "firsts" "[I" (.ref fi)) (F_lasts_a1 : Fld Z h0 a1 "com/example/concepta/concepta/store/OidSet$Rows" "lasts" "[I" (.ref la)) (V_rg : Arv Z h0 rg k1 .long (4 : Int32) (xs1.map Value.long) (Value.long 0)) (V_fi : Arv Z h0 fi k2 .int (4 : Int32) (xs2.map Value.int) (Value.int 0)) (V_la : Arv Z h0 la k3 .int (4 : Int32) (xs3.map Value.int) (Value.int 0)) :
    MetFree l (⟨"com/example/concepta/concepta/store/OidSet$Rows", "blockCount", "()I"⟩ : MethodName) (head1 (Jvm.Cond.code (⟨"com/example/concepta/concepta/store/OidSet$Rows", "blockCount", "()I"⟩ : MethodName) prog_129_method_2_code 3 (some .int) :: ws) ({ frames := 0, cells := 0, slots := 0, locals := 0 } : Room)) (fun aa U => aa = #[(.ref a1)] ∧ Z.Warmed39 U.vm ∧ U.heap = h0) (fun _ _ _ _ _ => True) (fun _ U o U' => ∃ v L, o = .returned v ∧ own_c4_Q Z a1 rg fi la k1 k2 k3 xs1 xs2 xs3 h0 n0 v U'.heap L ∧ FrameEnd U o U' L ({ frames := 0, cells := 0, slots := 0, locals := 0 } : Room).cells ({ frames := 0, cells := 0, slots := 0, locals := 0 } : Room).slots) := by
  refine MetFree.of_bodySF (plainFor_of_name own_pn1) hisR ?_
  have w17 := hw _ (List.mem_of_getElem? (i := 17) rfl)
  have w19 := hw _ (List.mem_of_getElem? (i := 19) rfl)
  have w21 := hw _ (List.mem_of_getElem? (i := 21) rfl)
  intro p e s m args below meth c s₁ Bd hml0 hP hK
  obtain ⟨rfl, hZ, hh⟩ := hP
  have hx := Bd.exec
  have hby := Bd.bytes
  have hlk := Bd.notSynchronized
  have hml : c.maxLocals = 3 := hml0
  have hown : s.vm.findClass "com/example/concepta/concepta/store/OidSet$Rows" = some m.cls := findClass_of_methodNamed Bd.named
  have hnm := (name_of_methodNamed Bd.named Bd.method).1
  have X0 : Stand p l e ({ frames := 0, cells := 0, slots := 0, locals := 0 } : Room) s m #[(.ref a1)] below meth c s₁ [] 0 0 := Stand.of_body Bd
  have e0 : s₁.heap = h0 := by rw [← hh, Bd.state]; rfl
  have N0 := Fr.nil n0
  have K0 : Keep h0 h0 [] := Keep.refl h0 _
  show own_Goes p e below (own_Fin s (own_c4_Q Z a1 rg fi la k1 k2 k3 xs1 xs2 xs3 h0 n0) ({ frames := 0, cells := 0, slots := 0, locals := 0 } : Room).cells ({ frames := 0, cells := 0, slots := 0, locals := 0 } : Room).slots) _
  refine own_step (fun t k => castTop (own_c4_ef m a1) k) ?_
  show own_Goes p e below _ (s₁.setTop (mkF m 0 #[.val (.ref a1), .unset, .unset] []))
  refine own_step (fun t k => XS.iconst X0.here hx rfl (hb hby own_dprog_129_method_2_code_0) k) ?_
  show own_Goes p e below _ (s₁.setTop (mkF m 1 #[.val (.ref a1), .unset, .unset] [(.int (0 : Int32))]))
  refine own_step (fun t k => XS.istoreN X0.here hx rfl (hb hby own_dprog_129_method_2_code_1) rfl (l' := #[.val (.ref a1), .val (.int (0 : Int32)), .unset]) rfl k) ?_
  show own_Goes p e below _ (s₁.setTop (mkF m 2 #[.val (.ref a1), .val (.int (0 : Int32)), .unset] []))
  refine own_step (fun t k => XS.iconst X0.here hx rfl (hb hby own_dprog_129_method_2_code_2) k) ?_
  show own_Goes p e below _ (s₁.setTop (mkF m 3 #[.val (.ref a1), .val (.int (0 : Int32)), .unset] [(.int (0 : Int32))]))
  refine own_step (fun t k => XS.istoreN X0.here hx rfl (hb hby own_dprog_129_method_2_code_3) rfl (l' := #[.val (.ref a1), .val (.int (0 : Int32)), .val (.int (0 : Int32))]) rfl k) ?_
  show own_Goes p e below _ (s₁.setTop (mkF m 4 #[.val (.ref a1), .val (.int (0 : Int32)), .val (.int (0 : Int32))] []))
  refine own_step (fun t k => XS.iloadN X0.here hx rfl (hb hby own_dprog_129_method_2_code_4) rfl k) ?_
  show own_Goes p e below _ (s₁.setTop (mkF m 5 #[.val (.ref a1), .val (.int (0 : Int32)), .val (.int (0 : Int32))] [(.int (0 : Int32))]))
  refine own_step (fun t k => XS.aloadN X0.here hx rfl (hb hby own_dprog_129_method_2_code_5) rfl rfl k) ?_
  show own_Goes p e below _ (s₁.setTop (mkF m 6 #[.val (.ref a1), .val (.int (0 : Int32)), .val (.int (0 : Int32))] [(.ref a1), (.int (0 : Int32))]))
  obtain ⟨T111, X111, e111, st111⟩ := getF X0 hx hZ hown (host := "") (Or.inl w17) Via.refl e0 F_regions_a1 (g := (mkF m 6 #[.val (.ref a1), .val (.int (0 : Int32)), .val (.int (0 : Int32))] [(.ref a1), (.int (0 : Int32))])) rfl rfl (hb hby own_dprog_129_method_2_code_6)
  refine own_step st111 ?_
  show own_Goes p e below _ (T111.setTop (mkF m 9 #[.val (.ref a1), .val (.int (0 : Int32)), .val (.int (0 : Int32))] [(.ref rg), (.int (0 : Int32))]))
  refine own_step (fun t k => own_len X111 hx hZ e111 V_rg (g := (mkF m 9 #[.val (.ref a1), .val (.int (0 : Int32)), .val (.int (0 : Int32))] [(.ref rg), (.int (0 : Int32))])) rfl rfl (hb hby own_dprog_129_method_2_code_9) _ k) ?_
  show own_Goes p e below _ (T111.setTop (mkF m 10 #[.val (.ref a1), .val (.int (0 : Int32)), .val (.int (0 : Int32))] [(.int (4 : Int32)), (.int (0 : Int32))]))
  have hc112 : (0 : Int32) < (4 : Int32) := by decide
  refine own_step (fun t k => XS.icmpNo X111.here hx rfl (hb hby own_dprog_129_method_2_code_10) rfl (tlt hc112).2.1 k) ?_
  show own_Goes p e below _ (T111.setTop (mkF m 13 #[.val (.ref a1), .val (.int (0 : Int32)), .val (.int (0 : Int32))] []))
  refine own_step (fun t k => XS.iloadN X111.here hx rfl (hb hby own_dprog_129_method_2_code_13) rfl k) ?_
  show own_Goes p e below _ (T111.setTop (mkF m 14 #[.val (.ref a1), .val (.int (0 : Int32)), .val (.int (0 : Int32))] [(.int (0 : Int32))]))
  refine own_step (fun t k => XS.aloadN X111.here hx rfl (hb hby own_dprog_129_method_2_code_14) rfl rfl k) ?_
  show own_Goes p e below _ (T111.setTop (mkF m 15 #[.val (.ref a1), .val (.int (0 : Int32)), .val (.int (0 : Int32))] [(.ref a1), (.int (0 : Int32))]))
  obtain ⟨T113, X113, e113, st113⟩ := getF X111 hx hZ hown (host := "") (Or.inl w21) Via.refl e111 F_lasts_a1 (g := (mkF m 15 #[.val (.ref a1), .val (.int (0 : Int32)), .val (.int (0 : Int32))] [(.ref a1), (.int (0 : Int32))])) rfl rfl (hb hby own_dprog_129_method_2_code_15)
  refine own_step st113 ?_
  show own_Goes p e below _ (T113.setTop (mkF m 18 #[.val (.ref a1), .val (.int (0 : Int32)), .val (.int (0 : Int32))] [(.ref la), (.int (0 : Int32))]))
  refine own_step (fun t k => XS.iloadN X113.here hx rfl (hb hby own_dprog_129_method_2_code_18) rfl k) ?_
  show own_Goes p e below _ (T113.setTop (mkF m 19 #[.val (.ref a1), .val (.int (0 : Int32)), .val (.int (0 : Int32))] [(.int (0 : Int32)), (.ref la), (.int (0 : Int32))]))
  refine own_step (fun t k => own_ial X113 hx hZ e113 V_la ⟨by decide, by decide⟩ (g := (mkF m 19 #[.val (.ref a1), .val (.int (0 : Int32)), .val (.int (0 : Int32))] [(.int (0 : Int32)), (.ref la), (.int (0 : Int32))])) rfl rfl (hb hby own_dprog_129_method_2_code_19) _ k) ?_
  show own_Goes p e below _ (T113.setTop (mkF m 20 #[.val (.ref a1), .val (.int (0 : Int32)), .val (.int (0 : Int32))] [(.int (xs3.getD (0 : Int32).toNatClampNeg 0)), (.int (0 : Int32))]))
  refine own_step (fun t k => XS.aloadN X113.here hx rfl (hb hby own_dprog_129_method_2_code_20) rfl rfl k) ?_
  show own_Goes p e below _ (T113.setTop (mkF m 21 #[.val (.ref a1), .val (.int (0 : Int32)), .val (.int (0 : Int32))] [(.ref a1), (.int (xs3.getD (0 : Int32).toNatClampNeg 0)), (.int (0 : Int32))]))
  obtain ⟨T114, X114, e114, st114⟩ := getF X113 hx hZ hown (host := "") (Or.inl w19) Via.refl e113 F_firsts_a1 (g := (mkF m 21 #[.val (.ref a1), .val (.int (0 : Int32)), .val (.int (0 : Int32))] [(.ref a1), (.int (xs3.getD (0 : Int32).toNatClampNeg 0)), (.int (0 : Int32))])) rfl rfl (hb hby own_dprog_129_method_2_code_21)
  refine own_step st114 ?_
  show own_Goes p e below _ (T114.setTop (mkF m 24 #[.val (.ref a1), .val (.int (0 : Int32)), .val (.int (0 : Int32))] [(.ref fi), (.int (xs3.getD (0 : Int32).toNatClampNeg 0)), (.int (0 : Int32))]))
  refine own_step (fun t k => XS.iloadN X114.here hx rfl (hb hby own_dprog_129_method_2_code_24) rfl k) ?_
  show own_Goes p e below _ (T114.setTop (mkF m 25 #[.val (.ref a1), .val (.int (0 : Int32)), .val (.int (0 : Int32))] [(.int (0 : Int32)), (.ref fi), (.int (xs3.getD (0 : Int32).toNatClampNeg 0)), (.int (0 : Int32))]))
  refine own_step (fun t k => own_ial X114 hx hZ e114 V_fi ⟨by decide, by decide⟩ (g := (mkF m 25 #[.val (.ref a1), .val (.int (0 : Int32)), .val (.int (0 : Int32))] [(.int (0 : Int32)), (.ref fi), (.int (xs3.getD (0 : Int32).toNatClampNeg 0)), (.int (0 : Int32))])) rfl rfl (hb hby own_dprog_129_method_2_code_25) _ k) ?_
  show own_Goes p e below _ (T114.setTop (mkF m 26 #[.val (.ref a1), .val (.int (0 : Int32)), .val (.int (0 : Int32))] [(.int (xs2.getD (0 : Int32).toNatClampNeg 0)), (.int (xs3.getD (0 : Int32).toNatClampNeg 0)), (.int (0 : Int32))]))
  refine own_step (fun t k => XS.isub X114.here hx rfl (hb hby own_dprog_129_method_2_code_26) rfl k) ?_
  show own_Goes p e below _ (T114.setTop (mkF m 27 #[.val (.ref a1), .val (.int (0 : Int32)), .val (.int (0 : Int32))] [(.int ((xs3.getD (0 : Int32).toNatClampNeg 0) - (xs2.getD (0 : Int32).toNatClampNeg 0))), (.int (0 : Int32))]))
  refine own_step (fun t k => XS.iconst X114.here hx rfl (hb hby own_dprog_129_method_2_code_27) k) ?_
  show own_Goes p e below _ (T114.setTop (mkF m 28 #[.val (.ref a1), .val (.int (0 : Int32)), .val (.int (0 : Int32))] [(.int (1 : Int32)), (.int ((xs3.getD (0 : Int32).toNatClampNeg 0) - (xs2.getD (0 : Int32).toNatClampNeg 0))), (.int (0 : Int32))]))
  refine own_step (fun t k => XS.iadd X114.here hx rfl (hb hby own_dprog_129_method_2_code_28) rfl k) ?_
  show own_Goes p e below _ (T114.setTop (mkF m 29 #[.val (.ref a1), .val (.int (0 : Int32)), .val (.int (0 : Int32))] [(.int (((xs3.getD (0 : Int32).toNatClampNeg 0) - (xs2.getD (0 : Int32).toNatClampNeg 0)) + (1 : Int32))), (.int (0 : Int32))]))
  refine own_step (fun t k => XS.iadd X114.here hx rfl (hb hby own_dprog_129_method_2_code_29) rfl k) ?_
  show own_Goes p e below _ (T114.setTop (mkF m 30 #[.val (.ref a1), .val (.int (0 : Int32)), .val (.int (0 : Int32))] [(.int ((0 : Int32) + (((xs3.getD (0 : Int32).toNatClampNeg 0) - (xs2.getD (0 : Int32).toNatClampNeg 0)) + (1 : Int32))))]))
  refine own_step (fun t k => XS.istoreN X114.here hx rfl (hb hby own_dprog_129_method_2_code_30) rfl (l' := #[.val (.ref a1), .val (.int ((0 : Int32) + (((xs3.getD (0 : Int32).toNatClampNeg 0) - (xs2.getD (0 : Int32).toNatClampNeg 0)) + (1 : Int32)))), .val (.int (0 : Int32))]) rfl k) ?_
  show own_Goes p e below _ (T114.setTop (mkF m 31 #[.val (.ref a1), .val (.int ((0 : Int32) + (((xs3.getD (0 : Int32).toNatClampNeg 0) - (xs2.getD (0 : Int32).toNatClampNeg 0)) + (1 : Int32)))), .val (.int (0 : Int32))] []))
  refine own_step (fun t k => XS.iinc X114.here hx rfl (hb hby own_dprog_129_method_2_code_31) rfl (l' := #[.val (.ref a1), .val (.int ((0 : Int32) + (((xs3.getD (0 : Int32).toNatClampNeg 0) - (xs2.getD (0 : Int32).toNatClampNeg 0)) + (1 : Int32)))), .val (.int (1 : Int32))]) rfl k) ?_
  show own_Goes p e below _ (T114.setTop (mkF m 34 #[.val (.ref a1), .val (.int ((0 : Int32) + (((xs3.getD (0 : Int32).toNatClampNeg 0) - (xs2.getD (0 : Int32).toNatClampNeg 0)) + (1 : Int32)))), .val (.int (1 : Int32))] []))
  refine own_step (fun t k => XS.goto X114.here hx rfl (pc0 := 34) (pc' := 4) rfl (hb hby own_dprog_129_method_2_code_34) (by decide) (by decide) k) ?_
  show own_Goes p e below _ (T114.setTop (mkF m 4 #[.val (.ref a1), .val (.int ((0 : Int32) + (((xs3.getD (0 : Int32).toNatClampNeg 0) - (xs2.getD (0 : Int32).toNatClampNeg 0)) + (1 : Int32)))), .val (.int (1 : Int32))] []))
  refine own_step (fun t k => XS.iloadN X114.here hx rfl (hb hby own_dprog_129_method_2_code_4) rfl k) ?_
  show own_Goes p e below _ (T114.setTop (mkF m 5 #[.val (.ref a1), .val (.int ((0 : Int32) + (((xs3.getD (0 : Int32).toNatClampNeg 0) - (xs2.getD (0 : Int32).toNatClampNeg 0)) + (1 : Int32)))), .val (.int (1 : Int32))] [(.int (1 : Int32))]))
  refine own_step (fun t k => XS.aloadN X114.here hx rfl (hb hby own_dprog_129_method_2_code_5) rfl rfl k) ?_
  show own_Goes p e below _ (T114.setTop (mkF m 6 #[.val (.ref a1), .val (.int ((0 : Int32) + (((xs3.getD (0 : Int32).toNatClampNeg 0) - (xs2.getD (0 : Int32).toNatClampNeg 0)) + (1 : Int32)))), .val (.int (1 : Int32))] [(.ref a1), (.int (1 : Int32))]))
  obtain ⟨T115, X115, e115, st115⟩ := getF X114 hx hZ hown (host := "") (Or.inl w17) Via.refl e114 F_regions_a1 (g := (mkF m 6 #[.val (.ref a1), .val (.int ((0 : Int32) + (((xs3.getD (0 : Int32).toNatClampNeg 0) - (xs2.getD (0 : Int32).toNatClampNeg 0)) + (1 : Int32)))), .val (.int (1 : Int32))] [(.ref a1), (.int (1 : Int32))])) rfl rfl (hb hby own_dprog_129_method_2_code_6)
  refine own_step st115 ?_
  show own_Goes p e below _ (T115.setTop (mkF m 9 #[.val (.ref a1), .val (.int ((0 : Int32) + (((xs3.getD (0 : Int32).toNatClampNeg 0) - (xs2.getD (0 : Int32).toNatClampNeg 0)) + (1 : Int32)))), .val (.int (1 : Int32))] [(.ref rg), (.int (1 : Int32))]))
  refine own_step (fun t k => own_len X115 hx hZ e115 V_rg (g := (mkF m 9 #[.val (.ref a1), .val (.int ((0 : Int32) + (((xs3.getD (0 : Int32).toNatClampNeg 0) - (xs2.getD (0 : Int32).toNatClampNeg 0)) + (1 : Int32)))), .val (.int (1 : Int32))] [(.ref rg), (.int (1 : Int32))])) rfl rfl (hb hby own_dprog_129_method_2_code_9) _ k) ?_
  show own_Goes p e below _ (T115.setTop (mkF m 10 #[.val (.ref a1), .val (.int ((0 : Int32) + (((xs3.getD (0 : Int32).toNatClampNeg 0) - (xs2.getD (0 : Int32).toNatClampNeg 0)) + (1 : Int32)))), .val (.int (1 : Int32))] [(.int (4 : Int32)), (.int (1 : Int32))]))
  have hc116 : (1 : Int32) < (4 : Int32) := by decide
  refine own_step (fun t k => XS.icmpNo X115.here hx rfl (hb hby own_dprog_129_method_2_code_10) rfl (tlt hc116).2.1 k) ?_
  show own_Goes p e below _ (T115.setTop (mkF m 13 #[.val (.ref a1), .val (.int ((0 : Int32) + (((xs3.getD (0 : Int32).toNatClampNeg 0) - (xs2.getD (0 : Int32).toNatClampNeg 0)) + (1 : Int32)))), .val (.int (1 : Int32))] []))
  refine own_step (fun t k => XS.iloadN X115.here hx rfl (hb hby own_dprog_129_method_2_code_13) rfl k) ?_
  show own_Goes p e below _ (T115.setTop (mkF m 14 #[.val (.ref a1), .val (.int ((0 : Int32) + (((xs3.getD (0 : Int32).toNatClampNeg 0) - (xs2.getD (0 : Int32).toNatClampNeg 0)) + (1 : Int32)))), .val (.int (1 : Int32))] [(.int ((0 : Int32) + (((xs3.getD (0 : Int32).toNatClampNeg 0) - (xs2.getD (0 : Int32).toNatClampNeg 0)) + (1 : Int32))))]))
  refine own_step (fun t k => XS.aloadN X115.here hx rfl (hb hby own_dprog_129_method_2_code_14) rfl rfl k) ?_
  show own_Goes p e below _ (T115.setTop (mkF m 15 #[.val (.ref a1), .val (.int ((0 : Int32) + (((xs3.getD (0 : Int32).toNatClampNeg 0) - (xs2.getD (0 : Int32).toNatClampNeg 0)) + (1 : Int32)))), .val (.int (1 : Int32))] [(.ref a1), (.int ((0 : Int32) + (((xs3.getD (0 : Int32).toNatClampNeg 0) - (xs2.getD (0 : Int32).toNatClampNeg 0)) + (1 : Int32))))]))
  obtain ⟨T117, X117, e117, st117⟩ := getF X115 hx hZ hown (host := "") (Or.inl w21) Via.refl e115 F_lasts_a1 (g := (mkF m 15 #[.val (.ref a1), .val (.int ((0 : Int32) + (((xs3.getD (0 : Int32).toNatClampNeg 0) - (xs2.getD (0 : Int32).toNatClampNeg 0)) + (1 : Int32)))), .val (.int (1 : Int32))] [(.ref a1), (.int ((0 : Int32) + (((xs3.getD (0 : Int32).toNatClampNeg 0) - (xs2.getD (0 : Int32).toNatClampNeg 0)) + (1 : Int32))))])) rfl rfl (hb hby own_dprog_129_method_2_code_15)
  refine own_step st117 ?_
  show own_Goes p e below _ (T117.setTop (mkF m 18 #[.val (.ref a1), .val (.int ((0 : Int32) + (((xs3.getD (0 : Int32).toNatClampNeg 0) - (xs2.getD (0 : Int32).toNatClampNeg 0)) + (1 : Int32)))), .val (.int (1 : Int32))] [(.ref la), (.int ((0 : Int32) + (((xs3.getD (0 : Int32).toNatClampNeg 0) - (xs2.getD (0 : Int32).toNatClampNeg 0)) + (1 : Int32))))]))
  refine own_step (fun t k => XS.iloadN X117.here hx rfl (hb hby own_dprog_129_method_2_code_18) rfl k) ?_
  show own_Goes p e below _ (T117.setTop (mkF m 19 #[.val (.ref a1), .val (.int ((0 : Int32) + (((xs3.getD (0 : Int32).toNatClampNeg 0) - (xs2.getD (0 : Int32).toNatClampNeg 0)) + (1 : Int32)))), .val (.int (1 : Int32))] [(.int (1 : Int32)), (.ref la), (.int ((0 : Int32) + (((xs3.getD (0 : Int32).toNatClampNeg 0) - (xs2.getD (0 : Int32).toNatClampNeg 0)) + (1 : Int32))))]))
  refine own_step (fun t k => own_ial X117 hx hZ e117 V_la ⟨by decide, by decide⟩ (g := (mkF m 19 #[.val (.ref a1), .val (.int ((0 : Int32) + (((xs3.getD (0 : Int32).toNatClampNeg 0) - (xs2.getD (0 : Int32).toNatClampNeg 0)) + (1 : Int32)))), .val (.int (1 : Int32))] [(.int (1 : Int32)), (.ref la), (.int ((0 : Int32) + (((xs3.getD (0 : Int32).toNatClampNeg 0) - (xs2.getD (0 : Int32).toNatClampNeg 0)) + (1 : Int32))))])) rfl rfl (hb hby own_dprog_129_method_2_code_19) _ k) ?_
  show own_Goes p e below _ (T117.setTop (mkF m 20 #[.val (.ref a1), .val (.int ((0 : Int32) + (((xs3.getD (0 : Int32).toNatClampNeg 0) - (xs2.getD (0 : Int32).toNatClampNeg 0)) + (1 : Int32)))), .val (.int (1 : Int32))] [(.int (xs3.getD (1 : Int32).toNatClampNeg 0)), (.int ((0 : Int32) + (((xs3.getD (0 : Int32).toNatClampNeg 0) - (xs2.getD (0 : Int32).toNatClampNeg 0)) + (1 : Int32))))]))
  refine own_step (fun t k => XS.aloadN X117.here hx rfl (hb hby own_dprog_129_method_2_code_20) rfl rfl k) ?_
  show own_Goes p e below _ (T117.setTop (mkF m 21 #[.val (.ref a1), .val (.int ((0 : Int32) + (((xs3.getD (0 : Int32).toNatClampNeg 0) - (xs2.getD (0 : Int32).toNatClampNeg 0)) + (1 : Int32)))), .val (.int (1 : Int32))] [(.ref a1), (.int (xs3.getD (1 : Int32).toNatClampNeg 0)), (.int ((0 : Int32) + (((xs3.getD (0 : Int32).toNatClampNeg 0) - (xs2.getD (0 : Int32).toNatClampNeg 0)) + (1 : Int32))))]))
  obtain ⟨T118, X118, e118, st118⟩ := getF X117 hx hZ hown (host := "") (Or.inl w19) Via.refl e117 F_firsts_a1 (g := (mkF m 21 #[.val (.ref a1), .val (.int ((0 : Int32) + (((xs3.getD (0 : Int32).toNatClampNeg 0) - (xs2.getD (0 : Int32).toNatClampNeg 0)) + (1 : Int32)))), .val (.int (1 : Int32))] [(.ref a1), (.int (xs3.getD (1 : Int32).toNatClampNeg 0)), (.int ((0 : Int32) + (((xs3.getD (0 : Int32).toNatClampNeg 0) - (xs2.getD (0 : Int32).toNatClampNeg 0)) + (1 : Int32))))])) rfl rfl (hb hby own_dprog_129_method_2_code_21)
  refine own_step st118 ?_
  show own_Goes p e below _ (T118.setTop (mkF m 24 #[.val (.ref a1), .val (.int ((0 : Int32) + (((xs3.getD (0 : Int32).toNatClampNeg 0) - (xs2.getD (0 : Int32).toNatClampNeg 0)) + (1 : Int32)))), .val (.int (1 : Int32))] [(.ref fi), (.int (xs3.getD (1 : Int32).toNatClampNeg 0)), (.int ((0 : Int32) + (((xs3.getD (0 : Int32).toNatClampNeg 0) - (xs2.getD (0 : Int32).toNatClampNeg 0)) + (1 : Int32))))]))
  refine own_step (fun t k => XS.iloadN X118.here hx rfl (hb hby own_dprog_129_method_2_code_24) rfl k) ?_
  show own_Goes p e below _ (T118.setTop (mkF m 25 #[.val (.ref a1), .val (.int ((0 : Int32) + (((xs3.getD (0 : Int32).toNatClampNeg 0) - (xs2.getD (0 : Int32).toNatClampNeg 0)) + (1 : Int32)))), .val (.int (1 : Int32))] [(.int (1 : Int32)), (.ref fi), (.int (xs3.getD (1 : Int32).toNatClampNeg 0)), (.int ((0 : Int32) + (((xs3.getD (0 : Int32).toNatClampNeg 0) - (xs2.getD (0 : Int32).toNatClampNeg 0)) + (1 : Int32))))]))
  refine own_step (fun t k => own_ial X118 hx hZ e118 V_fi ⟨by decide, by decide⟩ (g := (mkF m 25 #[.val (.ref a1), .val (.int ((0 : Int32) + (((xs3.getD (0 : Int32).toNatClampNeg 0) - (xs2.getD (0 : Int32).toNatClampNeg 0)) + (1 : Int32)))), .val (.int (1 : Int32))] [(.int (1 : Int32)), (.ref fi), (.int (xs3.getD (1 : Int32).toNatClampNeg 0)), (.int ((0 : Int32) + (((xs3.getD (0 : Int32).toNatClampNeg 0) - (xs2.getD (0 : Int32).toNatClampNeg 0)) + (1 : Int32))))])) rfl rfl (hb hby own_dprog_129_method_2_code_25) _ k) ?_
  show own_Goes p e below _ (T118.setTop (mkF m 26 #[.val (.ref a1), .val (.int ((0 : Int32) + (((xs3.getD (0 : Int32).toNatClampNeg 0) - (xs2.getD (0 : Int32).toNatClampNeg 0)) + (1 : Int32)))), .val (.int (1 : Int32))] [(.int (xs2.getD (1 : Int32).toNatClampNeg 0)), (.int (xs3.getD (1 : Int32).toNatClampNeg 0)), (.int ((0 : Int32) + (((xs3.getD (0 : Int32).toNatClampNeg 0) - (xs2.getD (0 : Int32).toNatClampNeg 0)) + (1 : Int32))))]))
  refine own_step (fun t k => XS.isub X118.here hx rfl (hb hby own_dprog_129_method_2_code_26) rfl k) ?_
  show own_Goes p e below _ (T118.setTop (mkF m 27 #[.val (.ref a1), .val (.int ((0 : Int32) + (((xs3.getD (0 : Int32).toNatClampNeg 0) - (xs2.getD (0 : Int32).toNatClampNeg 0)) + (1 : Int32)))), .val (.int (1 : Int32))] [(.int ((xs3.getD (1 : Int32).toNatClampNeg 0) - (xs2.getD (1 : Int32).toNatClampNeg 0))), (.int ((0 : Int32) + (((xs3.getD (0 : Int32).toNatClampNeg 0) - (xs2.getD (0 : Int32).toNatClampNeg 0)) + (1 : Int32))))]))
  refine own_step (fun t k => XS.iconst X118.here hx rfl (hb hby own_dprog_129_method_2_code_27) k) ?_
  show own_Goes p e below _ (T118.setTop (mkF m 28 #[.val (.ref a1), .val (.int ((0 : Int32) + (((xs3.getD (0 : Int32).toNatClampNeg 0) - (xs2.getD (0 : Int32).toNatClampNeg 0)) + (1 : Int32)))), .val (.int (1 : Int32))] [(.int (1 : Int32)), (.int ((xs3.getD (1 : Int32).toNatClampNeg 0) - (xs2.getD (1 : Int32).toNatClampNeg 0))), (.int ((0 : Int32) + (((xs3.getD (0 : Int32).toNatClampNeg 0) - (xs2.getD (0 : Int32).toNatClampNeg 0)) + (1 : Int32))))]))
  refine own_step (fun t k => XS.iadd X118.here hx rfl (hb hby own_dprog_129_method_2_code_28) rfl k) ?_
  show own_Goes p e below _ (T118.setTop (mkF m 29 #[.val (.ref a1), .val (.int ((0 : Int32) + (((xs3.getD (0 : Int32).toNatClampNeg 0) - (xs2.getD (0 : Int32).toNatClampNeg 0)) + (1 : Int32)))), .val (.int (1 : Int32))] [(.int (((xs3.getD (1 : Int32).toNatClampNeg 0) - (xs2.getD (1 : Int32).toNatClampNeg 0)) + (1 : Int32))), (.int ((0 : Int32) + (((xs3.getD (0 : Int32).toNatClampNeg 0) - (xs2.getD (0 : Int32).toNatClampNeg 0)) + (1 : Int32))))]))
  refine own_step (fun t k => XS.iadd X118.here hx rfl (hb hby own_dprog_129_method_2_code_29) rfl k) ?_
  show own_Goes p e below _ (T118.setTop (mkF m 30 #[.val (.ref a1), .val (.int ((0 : Int32) + (((xs3.getD (0 : Int32).toNatClampNeg 0) - (xs2.getD (0 : Int32).toNatClampNeg 0)) + (1 : Int32)))), .val (.int (1 : Int32))] [(.int (((0 : Int32) + (((xs3.getD (0 : Int32).toNatClampNeg 0) - (xs2.getD (0 : Int32).toNatClampNeg 0)) + (1 : Int32))) + (((xs3.getD (1 : Int32).toNatClampNeg 0) - (xs2.getD (1 : Int32).toNatClampNeg 0)) + (1 : Int32))))]))
  refine own_step (fun t k => XS.istoreN X118.here hx rfl (hb hby own_dprog_129_method_2_code_30) rfl (l' := #[.val (.ref a1), .val (.int (((0 : Int32) + (((xs3.getD (0 : Int32).toNatClampNeg 0) - (xs2.getD (0 : Int32).toNatClampNeg 0)) + (1 : Int32))) + (((xs3.getD (1 : Int32).toNatClampNeg 0) - (xs2.getD (1 : Int32).toNatClampNeg 0)) + (1 : Int32)))), .val (.int (1 : Int32))]) rfl k) ?_
  show own_Goes p e below _ (T118.setTop (mkF m 31 #[.val (.ref a1), .val (.int (((0 : Int32) + (((xs3.getD (0 : Int32).toNatClampNeg 0) - (xs2.getD (0 : Int32).toNatClampNeg 0)) + (1 : Int32))) + (((xs3.getD (1 : Int32).toNatClampNeg 0) - (xs2.getD (1 : Int32).toNatClampNeg 0)) + (1 : Int32)))), .val (.int (1 : Int32))] []))
  refine own_step (fun t k => XS.iinc X118.here hx rfl (hb hby own_dprog_129_method_2_code_31) rfl (l' := #[.val (.ref a1), .val (.int (((0 : Int32) + (((xs3.getD (0 : Int32).toNatClampNeg 0) - (xs2.getD (0 : Int32).toNatClampNeg 0)) + (1 : Int32))) + (((xs3.getD (1 : Int32).toNatClampNeg 0) - (xs2.getD (1 : Int32).toNatClampNeg 0)) + (1 : Int32)))), .val (.int (2 : Int32))]) rfl k) ?_
  show own_Goes p e below _ (T118.setTop (mkF m 34 #[.val (.ref a1), .val (.int (((0 : Int32) + (((xs3.getD (0 : Int32).toNatClampNeg 0) - (xs2.getD (0 : Int32).toNatClampNeg 0)) + (1 : Int32))) + (((xs3.getD (1 : Int32).toNatClampNeg 0) - (xs2.getD (1 : Int32).toNatClampNeg 0)) + (1 : Int32)))), .val (.int (2 : Int32))] []))
  refine own_step (fun t k => XS.goto X118.here hx rfl (pc0 := 34) (pc' := 4) rfl (hb hby own_dprog_129_method_2_code_34) (by decide) (by decide) k) ?_
  show own_Goes p e below _ (T118.setTop (mkF m 4 #[.val (.ref a1), .val (.int (((0 : Int32) + (((xs3.getD (0 : Int32).toNatClampNeg 0) - (xs2.getD (0 : Int32).toNatClampNeg 0)) + (1 : Int32))) + (((xs3.getD (1 : Int32).toNatClampNeg 0) - (xs2.getD (1 : Int32).toNatClampNeg 0)) + (1 : Int32)))), .val (.int (2 : Int32))] []))
  refine own_step (fun t k => XS.iloadN X118.here hx rfl (hb hby own_dprog_129_method_2_code_4) rfl k) ?_
  show own_Goes p e below _ (T118.setTop (mkF m 5 #[.val (.ref a1), .val (.int (((0 : Int32) + (((xs3.getD (0 : Int32).toNatClampNeg 0) - (xs2.getD (0 : Int32).toNatClampNeg 0)) + (1 : Int32))) + (((xs3.getD (1 : Int32).toNatClampNeg 0) - (xs2.getD (1 : Int32).toNatClampNeg 0)) + (1 : Int32)))), .val (.int (2 : Int32))] [(.int (2 : Int32))]))
  refine own_step (fun t k => XS.aloadN X118.here hx rfl (hb hby own_dprog_129_method_2_code_5) rfl rfl k) ?_
  show own_Goes p e below _ (T118.setTop (mkF m 6 #[.val (.ref a1), .val (.int (((0 : Int32) + (((xs3.getD (0 : Int32).toNatClampNeg 0) - (xs2.getD (0 : Int32).toNatClampNeg 0)) + (1 : Int32))) + (((xs3.getD (1 : Int32).toNatClampNeg 0) - (xs2.getD (1 : Int32).toNatClampNeg 0)) + (1 : Int32)))), .val (.int (2 : Int32))] [(.ref a1), (.int (2 : Int32))]))
  obtain ⟨T119, X119, e119, st119⟩ := getF X118 hx hZ hown (host := "") (Or.inl w17) Via.refl e118 F_regions_a1 (g := (mkF m 6 #[.val (.ref a1), .val (.int (((0 : Int32) + (((xs3.getD (0 : Int32).toNatClampNeg 0) - (xs2.getD (0 : Int32).toNatClampNeg 0)) + (1 : Int32))) + (((xs3.getD (1 : Int32).toNatClampNeg 0) - (xs2.getD (1 : Int32).toNatClampNeg 0)) + (1 : Int32)))), .val (.int (2 : Int32))] [(.ref a1), (.int (2 : Int32))])) rfl rfl (hb hby own_dprog_129_method_2_code_6)
  refine own_step st119 ?_
  show own_Goes p e below _ (T119.setTop (mkF m 9 #[.val (.ref a1), .val (.int (((0 : Int32) + (((xs3.getD (0 : Int32).toNatClampNeg 0) - (xs2.getD (0 : Int32).toNatClampNeg 0)) + (1 : Int32))) + (((xs3.getD (1 : Int32).toNatClampNeg 0) - (xs2.getD (1 : Int32).toNatClampNeg 0)) + (1 : Int32)))), .val (.int (2 : Int32))] [(.ref rg), (.int (2 : Int32))]))
  refine own_step (fun t k => own_len X119 hx hZ e119 V_rg (g := (mkF m 9 #[.val (.ref a1), .val (.int (((0 : Int32) + (((xs3.getD (0 : Int32).toNatClampNeg 0) - (xs2.getD (0 : Int32).toNatClampNeg 0)) + (1 : Int32))) + (((xs3.getD (1 : Int32).toNatClampNeg 0) - (xs2.getD (1 : Int32).toNatClampNeg 0)) + (1 : Int32)))), .val (.int (2 : Int32))] [(.ref rg), (.int (2 : Int32))])) rfl rfl (hb hby own_dprog_129_method_2_code_9) _ k) ?_
  show own_Goes p e below _ (T119.setTop (mkF m 10 #[.val (.ref a1), .val (.int (((0 : Int32) + (((xs3.getD (0 : Int32).toNatClampNeg 0) - (xs2.getD (0 : Int32).toNatClampNeg 0)) + (1 : Int32))) + (((xs3.getD (1 : Int32).toNatClampNeg 0) - (xs2.getD (1 : Int32).toNatClampNeg 0)) + (1 : Int32)))), .val (.int (2 : Int32))] [(.int (4 : Int32)), (.int (2 : Int32))]))
  have hc120 : (2 : Int32) < (4 : Int32) := by decide
  refine own_step (fun t k => XS.icmpNo X119.here hx rfl (hb hby own_dprog_129_method_2_code_10) rfl (tlt hc120).2.1 k) ?_
  show own_Goes p e below _ (T119.setTop (mkF m 13 #[.val (.ref a1), .val (.int (((0 : Int32) + (((xs3.getD (0 : Int32).toNatClampNeg 0) - (xs2.getD (0 : Int32).toNatClampNeg 0)) + (1 : Int32))) + (((xs3.getD (1 : Int32).toNatClampNeg 0) - (xs2.getD (1 : Int32).toNatClampNeg 0)) + (1 : Int32)))), .val (.int (2 : Int32))] []))
  refine own_step (fun t k => XS.iloadN X119.here hx rfl (hb hby own_dprog_129_method_2_code_13) rfl k) ?_
  show own_Goes p e below _ (T119.setTop (mkF m 14 #[.val (.ref a1), .val (.int (((0 : Int32) + (((xs3.getD (0 : Int32).toNatClampNeg 0) - (xs2.getD (0 : Int32).toNatClampNeg 0)) + (1 : Int32))) + (((xs3.getD (1 : Int32).toNatClampNeg 0) - (xs2.getD (1 : Int32).toNatClampNeg 0)) + (1 : Int32)))), .val (.int (2 : Int32))] [(.int (((0 : Int32) + (((xs3.getD (0 : Int32).toNatClampNeg 0) - (xs2.getD (0 : Int32).toNatClampNeg 0)) + (1 : Int32))) + (((xs3.getD (1 : Int32).toNatClampNeg 0) - (xs2.getD (1 : Int32).toNatClampNeg 0)) + (1 : Int32))))]))
  refine own_step (fun t k => XS.aloadN X119.here hx rfl (hb hby own_dprog_129_method_2_code_14) rfl rfl k) ?_
  show own_Goes p e below _ (T119.setTop (mkF m 15 #[.val (.ref a1), .val (.int (((0 : Int32) + (((xs3.getD (0 : Int32).toNatClampNeg 0) - (xs2.getD (0 : Int32).toNatClampNeg 0)) + (1 : Int32))) + (((xs3.getD (1 : Int32).toNatClampNeg 0) - (xs2.getD (1 : Int32).toNatClampNeg 0)) + (1 : Int32)))), .val (.int (2 : Int32))] [(.ref a1), (.int (((0 : Int32) + (((xs3.getD (0 : Int32).toNatClampNeg 0) - (xs2.getD (0 : Int32).toNatClampNeg 0)) + (1 : Int32))) + (((xs3.getD (1 : Int32).toNatClampNeg 0) - (xs2.getD (1 : Int32).toNatClampNeg 0)) + (1 : Int32))))]))
  obtain ⟨T121, X121, e121, st121⟩ := getF X119 hx hZ hown (host := "") (Or.inl w21) Via.refl e119 F_lasts_a1 (g := (mkF m 15 #[.val (.ref a1), .val (.int (((0 : Int32) + (((xs3.getD (0 : Int32).toNatClampNeg 0) - (xs2.getD (0 : Int32).toNatClampNeg 0)) + (1 : Int32))) + (((xs3.getD (1 : Int32).toNatClampNeg 0) - (xs2.getD (1 : Int32).toNatClampNeg 0)) + (1 : Int32)))), .val (.int (2 : Int32))] [(.ref a1), (.int (((0 : Int32) + (((xs3.getD (0 : Int32).toNatClampNeg 0) - (xs2.getD (0 : Int32).toNatClampNeg 0)) + (1 : Int32))) + (((xs3.getD (1 : Int32).toNatClampNeg 0) - (xs2.getD (1 : Int32).toNatClampNeg 0)) + (1 : Int32))))])) rfl rfl (hb hby own_dprog_129_method_2_code_15)
  refine own_step st121 ?_
  show own_Goes p e below _ (T121.setTop (mkF m 18 #[.val (.ref a1), .val (.int (((0 : Int32) + (((xs3.getD (0 : Int32).toNatClampNeg 0) - (xs2.getD (0 : Int32).toNatClampNeg 0)) + (1 : Int32))) + (((xs3.getD (1 : Int32).toNatClampNeg 0) - (xs2.getD (1 : Int32).toNatClampNeg 0)) + (1 : Int32)))), .val (.int (2 : Int32))] [(.ref la), (.int (((0 : Int32) + (((xs3.getD (0 : Int32).toNatClampNeg 0) - (xs2.getD (0 : Int32).toNatClampNeg 0)) + (1 : Int32))) + (((xs3.getD (1 : Int32).toNatClampNeg 0) - (xs2.getD (1 : Int32).toNatClampNeg 0)) + (1 : Int32))))]))
  refine own_step (fun t k => XS.iloadN X121.here hx rfl (hb hby own_dprog_129_method_2_code_18) rfl k) ?_
  show own_Goes p e below _ (T121.setTop (mkF m 19 #[.val (.ref a1), .val (.int (((0 : Int32) + (((xs3.getD (0 : Int32).toNatClampNeg 0) - (xs2.getD (0 : Int32).toNatClampNeg 0)) + (1 : Int32))) + (((xs3.getD (1 : Int32).toNatClampNeg 0) - (xs2.getD (1 : Int32).toNatClampNeg 0)) + (1 : Int32)))), .val (.int (2 : Int32))] [(.int (2 : Int32)), (.ref la), (.int (((0 : Int32) + (((xs3.getD (0 : Int32).toNatClampNeg 0) - (xs2.getD (0 : Int32).toNatClampNeg 0)) + (1 : Int32))) + (((xs3.getD (1 : Int32).toNatClampNeg 0) - (xs2.getD (1 : Int32).toNatClampNeg 0)) + (1 : Int32))))]))
  refine own_step (fun t k => own_ial X121 hx hZ e121 V_la ⟨by decide, by decide⟩ (g := (mkF m 19 #[.val (.ref a1), .val (.int (((0 : Int32) + (((xs3.getD (0 : Int32).toNatClampNeg 0) - (xs2.getD (0 : Int32).toNatClampNeg 0)) + (1 : Int32))) + (((xs3.getD (1 : Int32).toNatClampNeg 0) - (xs2.getD (1 : Int32).toNatClampNeg 0)) + (1 : Int32)))), .val (.int (2 : Int32))] [(.int (2 : Int32)), (.ref la), (.int (((0 : Int32) + (((xs3.getD (0 : Int32).toNatClampNeg 0) - (xs2.getD (0 : Int32).toNatClampNeg 0)) + (1 : Int32))) + (((xs3.getD (1 : Int32).toNatClampNeg 0) - (xs2.getD (1 : Int32).toNatClampNeg 0)) + (1 : Int32))))])) rfl rfl (hb hby own_dprog_129_method_2_code_19) _ k) ?_
  show own_Goes p e below _ (T121.setTop (mkF m 20 #[.val (.ref a1), .val (.int (((0 : Int32) + (((xs3.getD (0 : Int32).toNatClampNeg 0) - (xs2.getD (0 : Int32).toNatClampNeg 0)) + (1 : Int32))) + (((xs3.getD (1 : Int32).toNatClampNeg 0) - (xs2.getD (1 : Int32).toNatClampNeg 0)) + (1 : Int32)))), .val (.int (2 : Int32))] [(.int (xs3.getD (2 : Int32).toNatClampNeg 0)), (.int (((0 : Int32) + (((xs3.getD (0 : Int32).toNatClampNeg 0) - (xs2.getD (0 : Int32).toNatClampNeg 0)) + (1 : Int32))) + (((xs3.getD (1 : Int32).toNatClampNeg 0) - (xs2.getD (1 : Int32).toNatClampNeg 0)) + (1 : Int32))))]))
  refine own_step (fun t k => XS.aloadN X121.here hx rfl (hb hby own_dprog_129_method_2_code_20) rfl rfl k) ?_
  show own_Goes p e below _ (T121.setTop (mkF m 21 #[.val (.ref a1), .val (.int (((0 : Int32) + (((xs3.getD (0 : Int32).toNatClampNeg 0) - (xs2.getD (0 : Int32).toNatClampNeg 0)) + (1 : Int32))) + (((xs3.getD (1 : Int32).toNatClampNeg 0) - (xs2.getD (1 : Int32).toNatClampNeg 0)) + (1 : Int32)))), .val (.int (2 : Int32))] [(.ref a1), (.int (xs3.getD (2 : Int32).toNatClampNeg 0)), (.int (((0 : Int32) + (((xs3.getD (0 : Int32).toNatClampNeg 0) - (xs2.getD (0 : Int32).toNatClampNeg 0)) + (1 : Int32))) + (((xs3.getD (1 : Int32).toNatClampNeg 0) - (xs2.getD (1 : Int32).toNatClampNeg 0)) + (1 : Int32))))]))
  obtain ⟨T122, X122, e122, st122⟩ := getF X121 hx hZ hown (host := "") (Or.inl w19) Via.refl e121 F_firsts_a1 (g := (mkF m 21 #[.val (.ref a1), .val (.int (((0 : Int32) + (((xs3.getD (0 : Int32).toNatClampNeg 0) - (xs2.getD (0 : Int32).toNatClampNeg 0)) + (1 : Int32))) + (((xs3.getD (1 : Int32).toNatClampNeg 0) - (xs2.getD (1 : Int32).toNatClampNeg 0)) + (1 : Int32)))), .val (.int (2 : Int32))] [(.ref a1), (.int (xs3.getD (2 : Int32).toNatClampNeg 0)), (.int (((0 : Int32) + (((xs3.getD (0 : Int32).toNatClampNeg 0) - (xs2.getD (0 : Int32).toNatClampNeg 0)) + (1 : Int32))) + (((xs3.getD (1 : Int32).toNatClampNeg 0) - (xs2.getD (1 : Int32).toNatClampNeg 0)) + (1 : Int32))))])) rfl rfl (hb hby own_dprog_129_method_2_code_21)
  refine own_step st122 ?_
  show own_Goes p e below _ (T122.setTop (mkF m 24 #[.val (.ref a1), .val (.int (((0 : Int32) + (((xs3.getD (0 : Int32).toNatClampNeg 0) - (xs2.getD (0 : Int32).toNatClampNeg 0)) + (1 : Int32))) + (((xs3.getD (1 : Int32).toNatClampNeg 0) - (xs2.getD (1 : Int32).toNatClampNeg 0)) + (1 : Int32)))), .val (.int (2 : Int32))] [(.ref fi), (.int (xs3.getD (2 : Int32).toNatClampNeg 0)), (.int (((0 : Int32) + (((xs3.getD (0 : Int32).toNatClampNeg 0) - (xs2.getD (0 : Int32).toNatClampNeg 0)) + (1 : Int32))) + (((xs3.getD (1 : Int32).toNatClampNeg 0) - (xs2.getD (1 : Int32).toNatClampNeg 0)) + (1 : Int32))))]))
  refine own_step (fun t k => XS.iloadN X122.here hx rfl (hb hby own_dprog_129_method_2_code_24) rfl k) ?_
  show own_Goes p e below _ (T122.setTop (mkF m 25 #[.val (.ref a1), .val (.int (((0 : Int32) + (((xs3.getD (0 : Int32).toNatClampNeg 0) - (xs2.getD (0 : Int32).toNatClampNeg 0)) + (1 : Int32))) + (((xs3.getD (1 : Int32).toNatClampNeg 0) - (xs2.getD (1 : Int32).toNatClampNeg 0)) + (1 : Int32)))), .val (.int (2 : Int32))] [(.int (2 : Int32)), (.ref fi), (.int (xs3.getD (2 : Int32).toNatClampNeg 0)), (.int (((0 : Int32) + (((xs3.getD (0 : Int32).toNatClampNeg 0) - (xs2.getD (0 : Int32).toNatClampNeg 0)) + (1 : Int32))) + (((xs3.getD (1 : Int32).toNatClampNeg 0) - (xs2.getD (1 : Int32).toNatClampNeg 0)) + (1 : Int32))))]))
  refine own_step (fun t k => own_ial X122 hx hZ e122 V_fi ⟨by decide, by decide⟩ (g := (mkF m 25 #[.val (.ref a1), .val (.int (((0 : Int32) + (((xs3.getD (0 : Int32).toNatClampNeg 0) - (xs2.getD (0 : Int32).toNatClampNeg 0)) + (1 : Int32))) + (((xs3.getD (1 : Int32).toNatClampNeg 0) - (xs2.getD (1 : Int32).toNatClampNeg 0)) + (1 : Int32)))), .val (.int (2 : Int32))] [(.int (2 : Int32)), (.ref fi), (.int (xs3.getD (2 : Int32).toNatClampNeg 0)), (.int (((0 : Int32) + (((xs3.getD (0 : Int32).toNatClampNeg 0) - (xs2.getD (0 : Int32).toNatClampNeg 0)) + (1 : Int32))) + (((xs3.getD (1 : Int32).toNatClampNeg 0) - (xs2.getD (1 : Int32).toNatClampNeg 0)) + (1 : Int32))))])) rfl rfl (hb hby own_dprog_129_method_2_code_25) _ k) ?_
  show own_Goes p e below _ (T122.setTop (mkF m 26 #[.val (.ref a1), .val (.int (((0 : Int32) + (((xs3.getD (0 : Int32).toNatClampNeg 0) - (xs2.getD (0 : Int32).toNatClampNeg 0)) + (1 : Int32))) + (((xs3.getD (1 : Int32).toNatClampNeg 0) - (xs2.getD (1 : Int32).toNatClampNeg 0)) + (1 : Int32)))), .val (.int (2 : Int32))] [(.int (xs2.getD (2 : Int32).toNatClampNeg 0)), (.int (xs3.getD (2 : Int32).toNatClampNeg 0)), (.int (((0 : Int32) + (((xs3.getD (0 : Int32).toNatClampNeg 0) - (xs2.getD (0 : Int32).toNatClampNeg 0)) + (1 : Int32))) + (((xs3.getD (1 : Int32).toNatClampNeg 0) - (xs2.getD (1 : Int32).toNatClampNeg 0)) + (1 : Int32))))]))
  refine own_step (fun t k => XS.isub X122.here hx rfl (hb hby own_dprog_129_method_2_code_26) rfl k) ?_
  show own_Goes p e below _ (T122.setTop (mkF m 27 #[.val (.ref a1), .val (.int (((0 : Int32) + (((xs3.getD (0 : Int32).toNatClampNeg 0) - (xs2.getD (0 : Int32).toNatClampNeg 0)) + (1 : Int32))) + (((xs3.getD (1 : Int32).toNatClampNeg 0) - (xs2.getD (1 : Int32).toNatClampNeg 0)) + (1 : Int32)))), .val (.int (2 : Int32))] [(.int ((xs3.getD (2 : Int32).toNatClampNeg 0) - (xs2.getD (2 : Int32).toNatClampNeg 0))), (.int (((0 : Int32) + (((xs3.getD (0 : Int32).toNatClampNeg 0) - (xs2.getD (0 : Int32).toNatClampNeg 0)) + (1 : Int32))) + (((xs3.getD (1 : Int32).toNatClampNeg 0) - (xs2.getD (1 : Int32).toNatClampNeg 0)) + (1 : Int32))))]))
  refine own_step (fun t k => XS.iconst X122.here hx rfl (hb hby own_dprog_129_method_2_code_27) k) ?_
  show own_Goes p e below _ (T122.setTop (mkF m 28 #[.val (.ref a1), .val (.int (((0 : Int32) + (((xs3.getD (0 : Int32).toNatClampNeg 0) - (xs2.getD (0 : Int32).toNatClampNeg 0)) + (1 : Int32))) + (((xs3.getD (1 : Int32).toNatClampNeg 0) - (xs2.getD (1 : Int32).toNatClampNeg 0)) + (1 : Int32)))), .val (.int (2 : Int32))] [(.int (1 : Int32)), (.int ((xs3.getD (2 : Int32).toNatClampNeg 0) - (xs2.getD (2 : Int32).toNatClampNeg 0))), (.int (((0 : Int32) + (((xs3.getD (0 : Int32).toNatClampNeg 0) - (xs2.getD (0 : Int32).toNatClampNeg 0)) + (1 : Int32))) + (((xs3.getD (1 : Int32).toNatClampNeg 0) - (xs2.getD (1 : Int32).toNatClampNeg 0)) + (1 : Int32))))]))
  refine own_step (fun t k => XS.iadd X122.here hx rfl (hb hby own_dprog_129_method_2_code_28) rfl k) ?_
  show own_Goes p e below _ (T122.setTop (mkF m 29 #[.val (.ref a1), .val (.int (((0 : Int32) + (((xs3.getD (0 : Int32).toNatClampNeg 0) - (xs2.getD (0 : Int32).toNatClampNeg 0)) + (1 : Int32))) + (((xs3.getD (1 : Int32).toNatClampNeg 0) - (xs2.getD (1 : Int32).toNatClampNeg 0)) + (1 : Int32)))), .val (.int (2 : Int32))] [(.int (((xs3.getD (2 : Int32).toNatClampNeg 0) - (xs2.getD (2 : Int32).toNatClampNeg 0)) + (1 : Int32))), (.int (((0 : Int32) + (((xs3.getD (0 : Int32).toNatClampNeg 0) - (xs2.getD (0 : Int32).toNatClampNeg 0)) + (1 : Int32))) + (((xs3.getD (1 : Int32).toNatClampNeg 0) - (xs2.getD (1 : Int32).toNatClampNeg 0)) + (1 : Int32))))]))
  refine own_step (fun t k => XS.iadd X122.here hx rfl (hb hby own_dprog_129_method_2_code_29) rfl k) ?_
  show own_Goes p e below _ (T122.setTop (mkF m 30 #[.val (.ref a1), .val (.int (((0 : Int32) + (((xs3.getD (0 : Int32).toNatClampNeg 0) - (xs2.getD (0 : Int32).toNatClampNeg 0)) + (1 : Int32))) + (((xs3.getD (1 : Int32).toNatClampNeg 0) - (xs2.getD (1 : Int32).toNatClampNeg 0)) + (1 : Int32)))), .val (.int (2 : Int32))] [(.int ((((0 : Int32) + (((xs3.getD (0 : Int32).toNatClampNeg 0) - (xs2.getD (0 : Int32).toNatClampNeg 0)) + (1 : Int32))) + (((xs3.getD (1 : Int32).toNatClampNeg 0) - (xs2.getD (1 : Int32).toNatClampNeg 0)) + (1 : Int32))) + (((xs3.getD (2 : Int32).toNatClampNeg 0) - (xs2.getD (2 : Int32).toNatClampNeg 0)) + (1 : Int32))))]))
  refine own_step (fun t k => XS.istoreN X122.here hx rfl (hb hby own_dprog_129_method_2_code_30) rfl (l' := #[.val (.ref a1), .val (.int ((((0 : Int32) + (((xs3.getD (0 : Int32).toNatClampNeg 0) - (xs2.getD (0 : Int32).toNatClampNeg 0)) + (1 : Int32))) + (((xs3.getD (1 : Int32).toNatClampNeg 0) - (xs2.getD (1 : Int32).toNatClampNeg 0)) + (1 : Int32))) + (((xs3.getD (2 : Int32).toNatClampNeg 0) - (xs2.getD (2 : Int32).toNatClampNeg 0)) + (1 : Int32)))), .val (.int (2 : Int32))]) rfl k) ?_
  show own_Goes p e below _ (T122.setTop (mkF m 31 #[.val (.ref a1), .val (.int ((((0 : Int32) + (((xs3.getD (0 : Int32).toNatClampNeg 0) - (xs2.getD (0 : Int32).toNatClampNeg 0)) + (1 : Int32))) + (((xs3.getD (1 : Int32).toNatClampNeg 0) - (xs2.getD (1 : Int32).toNatClampNeg 0)) + (1 : Int32))) + (((xs3.getD (2 : Int32).toNatClampNeg 0) - (xs2.getD (2 : Int32).toNatClampNeg 0)) + (1 : Int32)))), .val (.int (2 : Int32))] []))
  refine own_step (fun t k => XS.iinc X122.here hx rfl (hb hby own_dprog_129_method_2_code_31) rfl (l' := #[.val (.ref a1), .val (.int ((((0 : Int32) + (((xs3.getD (0 : Int32).toNatClampNeg 0) - (xs2.getD (0 : Int32).toNatClampNeg 0)) + (1 : Int32))) + (((xs3.getD (1 : Int32).toNatClampNeg 0) - (xs2.getD (1 : Int32).toNatClampNeg 0)) + (1 : Int32))) + (((xs3.getD (2 : Int32).toNatClampNeg 0) - (xs2.getD (2 : Int32).toNatClampNeg 0)) + (1 : Int32)))), .val (.int (3 : Int32))]) rfl k) ?_
  show own_Goes p e below _ (T122.setTop (mkF m 34 #[.val (.ref a1), .val (.int ((((0 : Int32) + (((xs3.getD (0 : Int32).toNatClampNeg 0) - (xs2.getD (0 : Int32).toNatClampNeg 0)) + (1 : Int32))) + (((xs3.getD (1 : Int32).toNatClampNeg 0) - (xs2.getD (1 : Int32).toNatClampNeg 0)) + (1 : Int32))) + (((xs3.getD (2 : Int32).toNatClampNeg 0) - (xs2.getD (2 : Int32).toNatClampNeg 0)) + (1 : Int32)))), .val (.int (3 : Int32))] []))
  refine own_step (fun t k => XS.goto X122.here hx rfl (pc0 := 34) (pc' := 4) rfl (hb hby own_dprog_129_method_2_code_34) (by decide) (by decide) k) ?_
  show own_Goes p e below _ (T122.setTop (mkF m 4 #[.val (.ref a1), .val (.int ((((0 : Int32) + (((xs3.getD (0 : Int32).toNatClampNeg 0) - (xs2.getD (0 : Int32).toNatClampNeg 0)) + (1 : Int32))) + (((xs3.getD (1 : Int32).toNatClampNeg 0) - (xs2.getD (1 : Int32).toNatClampNeg 0)) + (1 : Int32))) + (((xs3.getD (2 : Int32).toNatClampNeg 0) - (xs2.getD (2 : Int32).toNatClampNeg 0)) + (1 : Int32)))), .val (.int (3 : Int32))] []))
  refine own_step (fun t k => XS.iloadN X122.here hx rfl (hb hby own_dprog_129_method_2_code_4) rfl k) ?_
  show own_Goes p e below _ (T122.setTop (mkF m 5 #[.val (.ref a1), .val (.int ((((0 : Int32) + (((xs3.getD (0 : Int32).toNatClampNeg 0) - (xs2.getD (0 : Int32).toNatClampNeg 0)) + (1 : Int32))) + (((xs3.getD (1 : Int32).toNatClampNeg 0) - (xs2.getD (1 : Int32).toNatClampNeg 0)) + (1 : Int32))) + (((xs3.getD (2 : Int32).toNatClampNeg 0) - (xs2.getD (2 : Int32).toNatClampNeg 0)) + (1 : Int32)))), .val (.int (3 : Int32))] [(.int (3 : Int32))]))
  refine own_step (fun t k => XS.aloadN X122.here hx rfl (hb hby own_dprog_129_method_2_code_5) rfl rfl k) ?_
  show own_Goes p e below _ (T122.setTop (mkF m 6 #[.val (.ref a1), .val (.int ((((0 : Int32) + (((xs3.getD (0 : Int32).toNatClampNeg 0) - (xs2.getD (0 : Int32).toNatClampNeg 0)) + (1 : Int32))) + (((xs3.getD (1 : Int32).toNatClampNeg 0) - (xs2.getD (1 : Int32).toNatClampNeg 0)) + (1 : Int32))) + (((xs3.getD (2 : Int32).toNatClampNeg 0) - (xs2.getD (2 : Int32).toNatClampNeg 0)) + (1 : Int32)))), .val (.int (3 : Int32))] [(.ref a1), (.int (3 : Int32))]))
  obtain ⟨T123, X123, e123, st123⟩ := getF X122 hx hZ hown (host := "") (Or.inl w17) Via.refl e122 F_regions_a1 (g := (mkF m 6 #[.val (.ref a1), .val (.int ((((0 : Int32) + (((xs3.getD (0 : Int32).toNatClampNeg 0) - (xs2.getD (0 : Int32).toNatClampNeg 0)) + (1 : Int32))) + (((xs3.getD (1 : Int32).toNatClampNeg 0) - (xs2.getD (1 : Int32).toNatClampNeg 0)) + (1 : Int32))) + (((xs3.getD (2 : Int32).toNatClampNeg 0) - (xs2.getD (2 : Int32).toNatClampNeg 0)) + (1 : Int32)))), .val (.int (3 : Int32))] [(.ref a1), (.int (3 : Int32))])) rfl rfl (hb hby own_dprog_129_method_2_code_6)
  refine own_step st123 ?_
  show own_Goes p e below _ (T123.setTop (mkF m 9 #[.val (.ref a1), .val (.int ((((0 : Int32) + (((xs3.getD (0 : Int32).toNatClampNeg 0) - (xs2.getD (0 : Int32).toNatClampNeg 0)) + (1 : Int32))) + (((xs3.getD (1 : Int32).toNatClampNeg 0) - (xs2.getD (1 : Int32).toNatClampNeg 0)) + (1 : Int32))) + (((xs3.getD (2 : Int32).toNatClampNeg 0) - (xs2.getD (2 : Int32).toNatClampNeg 0)) + (1 : Int32)))), .val (.int (3 : Int32))] [(.ref rg), (.int (3 : Int32))]))
  refine own_step (fun t k => own_len X123 hx hZ e123 V_rg (g := (mkF m 9 #[.val (.ref a1), .val (.int ((((0 : Int32) + (((xs3.getD (0 : Int32).toNatClampNeg 0) - (xs2.getD (0 : Int32).toNatClampNeg 0)) + (1 : Int32))) + (((xs3.getD (1 : Int32).toNatClampNeg 0) - (xs2.getD (1 : Int32).toNatClampNeg 0)) + (1 : Int32))) + (((xs3.getD (2 : Int32).toNatClampNeg 0) - (xs2.getD (2 : Int32).toNatClampNeg 0)) + (1 : Int32)))), .val (.int (3 : Int32))] [(.ref rg), (.int (3 : Int32))])) rfl rfl (hb hby own_dprog_129_method_2_code_9) _ k) ?_
  show own_Goes p e below _ (T123.setTop (mkF m 10 #[.val (.ref a1), .val (.int ((((0 : Int32) + (((xs3.getD (0 : Int32).toNatClampNeg 0) - (xs2.getD (0 : Int32).toNatClampNeg 0)) + (1 : Int32))) + (((xs3.getD (1 : Int32).toNatClampNeg 0) - (xs2.getD (1 : Int32).toNatClampNeg 0)) + (1 : Int32))) + (((xs3.getD (2 : Int32).toNatClampNeg 0) - (xs2.getD (2 : Int32).toNatClampNeg 0)) + (1 : Int32)))), .val (.int (3 : Int32))] [(.int (4 : Int32)), (.int (3 : Int32))]))
  have hc124 : (3 : Int32) < (4 : Int32) := by decide
  refine own_step (fun t k => XS.icmpNo X123.here hx rfl (hb hby own_dprog_129_method_2_code_10) rfl (tlt hc124).2.1 k) ?_
  show own_Goes p e below _ (T123.setTop (mkF m 13 #[.val (.ref a1), .val (.int ((((0 : Int32) + (((xs3.getD (0 : Int32).toNatClampNeg 0) - (xs2.getD (0 : Int32).toNatClampNeg 0)) + (1 : Int32))) + (((xs3.getD (1 : Int32).toNatClampNeg 0) - (xs2.getD (1 : Int32).toNatClampNeg 0)) + (1 : Int32))) + (((xs3.getD (2 : Int32).toNatClampNeg 0) - (xs2.getD (2 : Int32).toNatClampNeg 0)) + (1 : Int32)))), .val (.int (3 : Int32))] []))
  refine own_step (fun t k => XS.iloadN X123.here hx rfl (hb hby own_dprog_129_method_2_code_13) rfl k) ?_
  show own_Goes p e below _ (T123.setTop (mkF m 14 #[.val (.ref a1), .val (.int ((((0 : Int32) + (((xs3.getD (0 : Int32).toNatClampNeg 0) - (xs2.getD (0 : Int32).toNatClampNeg 0)) + (1 : Int32))) + (((xs3.getD (1 : Int32).toNatClampNeg 0) - (xs2.getD (1 : Int32).toNatClampNeg 0)) + (1 : Int32))) + (((xs3.getD (2 : Int32).toNatClampNeg 0) - (xs2.getD (2 : Int32).toNatClampNeg 0)) + (1 : Int32)))), .val (.int (3 : Int32))] [(.int ((((0 : Int32) + (((xs3.getD (0 : Int32).toNatClampNeg 0) - (xs2.getD (0 : Int32).toNatClampNeg 0)) + (1 : Int32))) + (((xs3.getD (1 : Int32).toNatClampNeg 0) - (xs2.getD (1 : Int32).toNatClampNeg 0)) + (1 : Int32))) + (((xs3.getD (2 : Int32).toNatClampNeg 0) - (xs2.getD (2 : Int32).toNatClampNeg 0)) + (1 : Int32))))]))
  refine own_step (fun t k => XS.aloadN X123.here hx rfl (hb hby own_dprog_129_method_2_code_14) rfl rfl k) ?_
  show own_Goes p e below _ (T123.setTop (mkF m 15 #[.val (.ref a1), .val (.int ((((0 : Int32) + (((xs3.getD (0 : Int32).toNatClampNeg 0) - (xs2.getD (0 : Int32).toNatClampNeg 0)) + (1 : Int32))) + (((xs3.getD (1 : Int32).toNatClampNeg 0) - (xs2.getD (1 : Int32).toNatClampNeg 0)) + (1 : Int32))) + (((xs3.getD (2 : Int32).toNatClampNeg 0) - (xs2.getD (2 : Int32).toNatClampNeg 0)) + (1 : Int32)))), .val (.int (3 : Int32))] [(.ref a1), (.int ((((0 : Int32) + (((xs3.getD (0 : Int32).toNatClampNeg 0) - (xs2.getD (0 : Int32).toNatClampNeg 0)) + (1 : Int32))) + (((xs3.getD (1 : Int32).toNatClampNeg 0) - (xs2.getD (1 : Int32).toNatClampNeg 0)) + (1 : Int32))) + (((xs3.getD (2 : Int32).toNatClampNeg 0) - (xs2.getD (2 : Int32).toNatClampNeg 0)) + (1 : Int32))))]))
  obtain ⟨T125, X125, e125, st125⟩ := getF X123 hx hZ hown (host := "") (Or.inl w21) Via.refl e123 F_lasts_a1 (g := (mkF m 15 #[.val (.ref a1), .val (.int ((((0 : Int32) + (((xs3.getD (0 : Int32).toNatClampNeg 0) - (xs2.getD (0 : Int32).toNatClampNeg 0)) + (1 : Int32))) + (((xs3.getD (1 : Int32).toNatClampNeg 0) - (xs2.getD (1 : Int32).toNatClampNeg 0)) + (1 : Int32))) + (((xs3.getD (2 : Int32).toNatClampNeg 0) - (xs2.getD (2 : Int32).toNatClampNeg 0)) + (1 : Int32)))), .val (.int (3 : Int32))] [(.ref a1), (.int ((((0 : Int32) + (((xs3.getD (0 : Int32).toNatClampNeg 0) - (xs2.getD (0 : Int32).toNatClampNeg 0)) + (1 : Int32))) + (((xs3.getD (1 : Int32).toNatClampNeg 0) - (xs2.getD (1 : Int32).toNatClampNeg 0)) + (1 : Int32))) + (((xs3.getD (2 : Int32).toNatClampNeg 0) - (xs2.getD (2 : Int32).toNatClampNeg 0)) + (1 : Int32))))])) rfl rfl (hb hby own_dprog_129_method_2_code_15)
  refine own_step st125 ?_
  show own_Goes p e below _ (T125.setTop (mkF m 18 #[.val (.ref a1), .val (.int ((((0 : Int32) + (((xs3.getD (0 : Int32).toNatClampNeg 0) - (xs2.getD (0 : Int32).toNatClampNeg 0)) + (1 : Int32))) + (((xs3.getD (1 : Int32).toNatClampNeg 0) - (xs2.getD (1 : Int32).toNatClampNeg 0)) + (1 : Int32))) + (((xs3.getD (2 : Int32).toNatClampNeg 0) - (xs2.getD (2 : Int32).toNatClampNeg 0)) + (1 : Int32)))), .val (.int (3 : Int32))] [(.ref la), (.int ((((0 : Int32) + (((xs3.getD (0 : Int32).toNatClampNeg 0) - (xs2.getD (0 : Int32).toNatClampNeg 0)) + (1 : Int32))) + (((xs3.getD (1 : Int32).toNatClampNeg 0) - (xs2.getD (1 : Int32).toNatClampNeg 0)) + (1 : Int32))) + (((xs3.getD (2 : Int32).toNatClampNeg 0) - (xs2.getD (2 : Int32).toNatClampNeg 0)) + (1 : Int32))))]))
  refine own_step (fun t k => XS.iloadN X125.here hx rfl (hb hby own_dprog_129_method_2_code_18) rfl k) ?_
  show own_Goes p e below _ (T125.setTop (mkF m 19 #[.val (.ref a1), .val (.int ((((0 : Int32) + (((xs3.getD (0 : Int32).toNatClampNeg 0) - (xs2.getD (0 : Int32).toNatClampNeg 0)) + (1 : Int32))) + (((xs3.getD (1 : Int32).toNatClampNeg 0) - (xs2.getD (1 : Int32).toNatClampNeg 0)) + (1 : Int32))) + (((xs3.getD (2 : Int32).toNatClampNeg 0) - (xs2.getD (2 : Int32).toNatClampNeg 0)) + (1 : Int32)))), .val (.int (3 : Int32))] [(.int (3 : Int32)), (.ref la), (.int ((((0 : Int32) + (((xs3.getD (0 : Int32).toNatClampNeg 0) - (xs2.getD (0 : Int32).toNatClampNeg 0)) + (1 : Int32))) + (((xs3.getD (1 : Int32).toNatClampNeg 0) - (xs2.getD (1 : Int32).toNatClampNeg 0)) + (1 : Int32))) + (((xs3.getD (2 : Int32).toNatClampNeg 0) - (xs2.getD (2 : Int32).toNatClampNeg 0)) + (1 : Int32))))]))
  refine own_step (fun t k => own_ial X125 hx hZ e125 V_la ⟨by decide, by decide⟩ (g := (mkF m 19 #[.val (.ref a1), .val (.int ((((0 : Int32) + (((xs3.getD (0 : Int32).toNatClampNeg 0) - (xs2.getD (0 : Int32).toNatClampNeg 0)) + (1 : Int32))) + (((xs3.getD (1 : Int32).toNatClampNeg 0) - (xs2.getD (1 : Int32).toNatClampNeg 0)) + (1 : Int32))) + (((xs3.getD (2 : Int32).toNatClampNeg 0) - (xs2.getD (2 : Int32).toNatClampNeg 0)) + (1 : Int32)))), .val (.int (3 : Int32))] [(.int (3 : Int32)), (.ref la), (.int ((((0 : Int32) + (((xs3.getD (0 : Int32).toNatClampNeg 0) - (xs2.getD (0 : Int32).toNatClampNeg 0)) + (1 : Int32))) + (((xs3.getD (1 : Int32).toNatClampNeg 0) - (xs2.getD (1 : Int32).toNatClampNeg 0)) + (1 : Int32))) + (((xs3.getD (2 : Int32).toNatClampNeg 0) - (xs2.getD (2 : Int32).toNatClampNeg 0)) + (1 : Int32))))])) rfl rfl (hb hby own_dprog_129_method_2_code_19) _ k) ?_
  show own_Goes p e below _ (T125.setTop (mkF m 20 #[.val (.ref a1), .val (.int ((((0 : Int32) + (((xs3.getD (0 : Int32).toNatClampNeg 0) - (xs2.getD (0 : Int32).toNatClampNeg 0)) + (1 : Int32))) + (((xs3.getD (1 : Int32).toNatClampNeg 0) - (xs2.getD (1 : Int32).toNatClampNeg 0)) + (1 : Int32))) + (((xs3.getD (2 : Int32).toNatClampNeg 0) - (xs2.getD (2 : Int32).toNatClampNeg 0)) + (1 : Int32)))), .val (.int (3 : Int32))] [(.int (xs3.getD (3 : Int32).toNatClampNeg 0)), (.int ((((0 : Int32) + (((xs3.getD (0 : Int32).toNatClampNeg 0) - (xs2.getD (0 : Int32).toNatClampNeg 0)) + (1 : Int32))) + (((xs3.getD (1 : Int32).toNatClampNeg 0) - (xs2.getD (1 : Int32).toNatClampNeg 0)) + (1 : Int32))) + (((xs3.getD (2 : Int32).toNatClampNeg 0) - (xs2.getD (2 : Int32).toNatClampNeg 0)) + (1 : Int32))))]))
  refine own_step (fun t k => XS.aloadN X125.here hx rfl (hb hby own_dprog_129_method_2_code_20) rfl rfl k) ?_
  show own_Goes p e below _ (T125.setTop (mkF m 21 #[.val (.ref a1), .val (.int ((((0 : Int32) + (((xs3.getD (0 : Int32).toNatClampNeg 0) - (xs2.getD (0 : Int32).toNatClampNeg 0)) + (1 : Int32))) + (((xs3.getD (1 : Int32).toNatClampNeg 0) - (xs2.getD (1 : Int32).toNatClampNeg 0)) + (1 : Int32))) + (((xs3.getD (2 : Int32).toNatClampNeg 0) - (xs2.getD (2 : Int32).toNatClampNeg 0)) + (1 : Int32)))), .val (.int (3 : Int32))] [(.ref a1), (.int (xs3.getD (3 : Int32).toNatClampNeg 0)), (.int ((((0 : Int32) + (((xs3.getD (0 : Int32).toNatClampNeg 0) - (xs2.getD (0 : Int32).toNatClampNeg 0)) + (1 : Int32))) + (((xs3.getD (1 : Int32).toNatClampNeg 0) - (xs2.getD (1 : Int32).toNatClampNeg 0)) + (1 : Int32))) + (((xs3.getD (2 : Int32).toNatClampNeg 0) - (xs2.getD (2 : Int32).toNatClampNeg 0)) + (1 : Int32))))]))
  obtain ⟨T126, X126, e126, st126⟩ := getF X125 hx hZ hown (host := "") (Or.inl w19) Via.refl e125 F_firsts_a1 (g := (mkF m 21 #[.val (.ref a1), .val (.int ((((0 : Int32) + (((xs3.getD (0 : Int32).toNatClampNeg 0) - (xs2.getD (0 : Int32).toNatClampNeg 0)) + (1 : Int32))) + (((xs3.getD (1 : Int32).toNatClampNeg 0) - (xs2.getD (1 : Int32).toNatClampNeg 0)) + (1 : Int32))) + (((xs3.getD (2 : Int32).toNatClampNeg 0) - (xs2.getD (2 : Int32).toNatClampNeg 0)) + (1 : Int32)))), .val (.int (3 : Int32))] [(.ref a1), (.int (xs3.getD (3 : Int32).toNatClampNeg 0)), (.int ((((0 : Int32) + (((xs3.getD (0 : Int32).toNatClampNeg 0) - (xs2.getD (0 : Int32).toNatClampNeg 0)) + (1 : Int32))) + (((xs3.getD (1 : Int32).toNatClampNeg 0) - (xs2.getD (1 : Int32).toNatClampNeg 0)) + (1 : Int32))) + (((xs3.getD (2 : Int32).toNatClampNeg 0) - (xs2.getD (2 : Int32).toNatClampNeg 0)) + (1 : Int32))))])) rfl rfl (hb hby own_dprog_129_method_2_code_21)
  refine own_step st126 ?_
  show own_Goes p e below _ (T126.setTop (mkF m 24 #[.val (.ref a1), .val (.int ((((0 : Int32) + (((xs3.getD (0 : Int32).toNatClampNeg 0) - (xs2.getD (0 : Int32).toNatClampNeg 0)) + (1 : Int32))) + (((xs3.getD (1 : Int32).toNatClampNeg 0) - (xs2.getD (1 : Int32).toNatClampNeg 0)) + (1 : Int32))) + (((xs3.getD (2 : Int32).toNatClampNeg 0) - (xs2.getD (2 : Int32).toNatClampNeg 0)) + (1 : Int32)))), .val (.int (3 : Int32))] [(.ref fi), (.int (xs3.getD (3 : Int32).toNatClampNeg 0)), (.int ((((0 : Int32) + (((xs3.getD (0 : Int32).toNatClampNeg 0) - (xs2.getD (0 : Int32).toNatClampNeg 0)) + (1 : Int32))) + (((xs3.getD (1 : Int32).toNatClampNeg 0) - (xs2.getD (1 : Int32).toNatClampNeg 0)) + (1 : Int32))) + (((xs3.getD (2 : Int32).toNatClampNeg 0) - (xs2.getD (2 : Int32).toNatClampNeg 0)) + (1 : Int32))))]))
  refine own_step (fun t k => XS.iloadN X126.here hx rfl (hb hby own_dprog_129_method_2_code_24) rfl k) ?_
  show own_Goes p e below _ (T126.setTop (mkF m 25 #[.val (.ref a1), .val (.int ((((0 : Int32) + (((xs3.getD (0 : Int32).toNatClampNeg 0) - (xs2.getD (0 : Int32).toNatClampNeg 0)) + (1 : Int32))) + (((xs3.getD (1 : Int32).toNatClampNeg 0) - (xs2.getD (1 : Int32).toNatClampNeg 0)) + (1 : Int32))) + (((xs3.getD (2 : Int32).toNatClampNeg 0) - (xs2.getD (2 : Int32).toNatClampNeg 0)) + (1 : Int32)))), .val (.int (3 : Int32))] [(.int (3 : Int32)), (.ref fi), (.int (xs3.getD (3 : Int32).toNatClampNeg 0)), (.int ((((0 : Int32) + (((xs3.getD (0 : Int32).toNatClampNeg 0) - (xs2.getD (0 : Int32).toNatClampNeg 0)) + (1 : Int32))) + (((xs3.getD (1 : Int32).toNatClampNeg 0) - (xs2.getD (1 : Int32).toNatClampNeg 0)) + (1 : Int32))) + (((xs3.getD (2 : Int32).toNatClampNeg 0) - (xs2.getD (2 : Int32).toNatClampNeg 0)) + (1 : Int32))))]))
  refine own_step (fun t k => own_ial X126 hx hZ e126 V_fi ⟨by decide, by decide⟩ (g := (mkF m 25 #[.val (.ref a1), .val (.int ((((0 : Int32) + (((xs3.getD (0 : Int32).toNatClampNeg 0) - (xs2.getD (0 : Int32).toNatClampNeg 0)) + (1 : Int32))) + (((xs3.getD (1 : Int32).toNatClampNeg 0) - (xs2.getD (1 : Int32).toNatClampNeg 0)) + (1 : Int32))) + (((xs3.getD (2 : Int32).toNatClampNeg 0) - (xs2.getD (2 : Int32).toNatClampNeg 0)) + (1 : Int32)))), .val (.int (3 : Int32))] [(.int (3 : Int32)), (.ref fi), (.int (xs3.getD (3 : Int32).toNatClampNeg 0)), (.int ((((0 : Int32) + (((xs3.getD (0 : Int32).toNatClampNeg 0) - (xs2.getD (0 : Int32).toNatClampNeg 0)) + (1 : Int32))) + (((xs3.getD (1 : Int32).toNatClampNeg 0) - (xs2.getD (1 : Int32).toNatClampNeg 0)) + (1 : Int32))) + (((xs3.getD (2 : Int32).toNatClampNeg 0) - (xs2.getD (2 : Int32).toNatClampNeg 0)) + (1 : Int32))))])) rfl rfl (hb hby own_dprog_129_method_2_code_25) _ k) ?_
  show own_Goes p e below _ (T126.setTop (mkF m 26 #[.val (.ref a1), .val (.int ((((0 : Int32) + (((xs3.getD (0 : Int32).toNatClampNeg 0) - (xs2.getD (0 : Int32).toNatClampNeg 0)) + (1 : Int32))) + (((xs3.getD (1 : Int32).toNatClampNeg 0) - (xs2.getD (1 : Int32).toNatClampNeg 0)) + (1 : Int32))) + (((xs3.getD (2 : Int32).toNatClampNeg 0) - (xs2.getD (2 : Int32).toNatClampNeg 0)) + (1 : Int32)))), .val (.int (3 : Int32))] [(.int (xs2.getD (3 : Int32).toNatClampNeg 0)), (.int (xs3.getD (3 : Int32).toNatClampNeg 0)), (.int ((((0 : Int32) + (((xs3.getD (0 : Int32).toNatClampNeg 0) - (xs2.getD (0 : Int32).toNatClampNeg 0)) + (1 : Int32))) + (((xs3.getD (1 : Int32).toNatClampNeg 0) - (xs2.getD (1 : Int32).toNatClampNeg 0)) + (1 : Int32))) + (((xs3.getD (2 : Int32).toNatClampNeg 0) - (xs2.getD (2 : Int32).toNatClampNeg 0)) + (1 : Int32))))]))
  refine own_step (fun t k => XS.isub X126.here hx rfl (hb hby own_dprog_129_method_2_code_26) rfl k) ?_
  show own_Goes p e below _ (T126.setTop (mkF m 27 #[.val (.ref a1), .val (.int ((((0 : Int32) + (((xs3.getD (0 : Int32).toNatClampNeg 0) - (xs2.getD (0 : Int32).toNatClampNeg 0)) + (1 : Int32))) + (((xs3.getD (1 : Int32).toNatClampNeg 0) - (xs2.getD (1 : Int32).toNatClampNeg 0)) + (1 : Int32))) + (((xs3.getD (2 : Int32).toNatClampNeg 0) - (xs2.getD (2 : Int32).toNatClampNeg 0)) + (1 : Int32)))), .val (.int (3 : Int32))] [(.int ((xs3.getD (3 : Int32).toNatClampNeg 0) - (xs2.getD (3 : Int32).toNatClampNeg 0))), (.int ((((0 : Int32) + (((xs3.getD (0 : Int32).toNatClampNeg 0) - (xs2.getD (0 : Int32).toNatClampNeg 0)) + (1 : Int32))) + (((xs3.getD (1 : Int32).toNatClampNeg 0) - (xs2.getD (1 : Int32).toNatClampNeg 0)) + (1 : Int32))) + (((xs3.getD (2 : Int32).toNatClampNeg 0) - (xs2.getD (2 : Int32).toNatClampNeg 0)) + (1 : Int32))))]))
  refine own_step (fun t k => XS.iconst X126.here hx rfl (hb hby own_dprog_129_method_2_code_27) k) ?_
  show own_Goes p e below _ (T126.setTop (mkF m 28 #[.val (.ref a1), .val (.int ((((0 : Int32) + (((xs3.getD (0 : Int32).toNatClampNeg 0) - (xs2.getD (0 : Int32).toNatClampNeg 0)) + (1 : Int32))) + (((xs3.getD (1 : Int32).toNatClampNeg 0) - (xs2.getD (1 : Int32).toNatClampNeg 0)) + (1 : Int32))) + (((xs3.getD (2 : Int32).toNatClampNeg 0) - (xs2.getD (2 : Int32).toNatClampNeg 0)) + (1 : Int32)))), .val (.int (3 : Int32))] [(.int (1 : Int32)), (.int ((xs3.getD (3 : Int32).toNatClampNeg 0) - (xs2.getD (3 : Int32).toNatClampNeg 0))), (.int ((((0 : Int32) + (((xs3.getD (0 : Int32).toNatClampNeg 0) - (xs2.getD (0 : Int32).toNatClampNeg 0)) + (1 : Int32))) + (((xs3.getD (1 : Int32).toNatClampNeg 0) - (xs2.getD (1 : Int32).toNatClampNeg 0)) + (1 : Int32))) + (((xs3.getD (2 : Int32).toNatClampNeg 0) - (xs2.getD (2 : Int32).toNatClampNeg 0)) + (1 : Int32))))]))
  refine own_step (fun t k => XS.iadd X126.here hx rfl (hb hby own_dprog_129_method_2_code_28) rfl k) ?_
  show own_Goes p e below _ (T126.setTop (mkF m 29 #[.val (.ref a1), .val (.int ((((0 : Int32) + (((xs3.getD (0 : Int32).toNatClampNeg 0) - (xs2.getD (0 : Int32).toNatClampNeg 0)) + (1 : Int32))) + (((xs3.getD (1 : Int32).toNatClampNeg 0) - (xs2.getD (1 : Int32).toNatClampNeg 0)) + (1 : Int32))) + (((xs3.getD (2 : Int32).toNatClampNeg 0) - (xs2.getD (2 : Int32).toNatClampNeg 0)) + (1 : Int32)))), .val (.int (3 : Int32))] [(.int (((xs3.getD (3 : Int32).toNatClampNeg 0) - (xs2.getD (3 : Int32).toNatClampNeg 0)) + (1 : Int32))), (.int ((((0 : Int32) + (((xs3.getD (0 : Int32).toNatClampNeg 0) - (xs2.getD (0 : Int32).toNatClampNeg 0)) + (1 : Int32))) + (((xs3.getD (1 : Int32).toNatClampNeg 0) - (xs2.getD (1 : Int32).toNatClampNeg 0)) + (1 : Int32))) + (((xs3.getD (2 : Int32).toNatClampNeg 0) - (xs2.getD (2 : Int32).toNatClampNeg 0)) + (1 : Int32))))]))
  refine own_step (fun t k => XS.iadd X126.here hx rfl (hb hby own_dprog_129_method_2_code_29) rfl k) ?_
  show own_Goes p e below _ (T126.setTop (mkF m 30 #[.val (.ref a1), .val (.int ((((0 : Int32) + (((xs3.getD (0 : Int32).toNatClampNeg 0) - (xs2.getD (0 : Int32).toNatClampNeg 0)) + (1 : Int32))) + (((xs3.getD (1 : Int32).toNatClampNeg 0) - (xs2.getD (1 : Int32).toNatClampNeg 0)) + (1 : Int32))) + (((xs3.getD (2 : Int32).toNatClampNeg 0) - (xs2.getD (2 : Int32).toNatClampNeg 0)) + (1 : Int32)))), .val (.int (3 : Int32))] [(.int (((((0 : Int32) + (((xs3.getD (0 : Int32).toNatClampNeg 0) - (xs2.getD (0 : Int32).toNatClampNeg 0)) + (1 : Int32))) + (((xs3.getD (1 : Int32).toNatClampNeg 0) - (xs2.getD (1 : Int32).toNatClampNeg 0)) + (1 : Int32))) + (((xs3.getD (2 : Int32).toNatClampNeg 0) - (xs2.getD (2 : Int32).toNatClampNeg 0)) + (1 : Int32))) + (((xs3.getD (3 : Int32).toNatClampNeg 0) - (xs2.getD (3 : Int32).toNatClampNeg 0)) + (1 : Int32))))]))
  refine own_step (fun t k => XS.istoreN X126.here hx rfl (hb hby own_dprog_129_method_2_code_30) rfl (l' := #[.val (.ref a1), .val (.int (((((0 : Int32) + (((xs3.getD (0 : Int32).toNatClampNeg 0) - (xs2.getD (0 : Int32).toNatClampNeg 0)) + (1 : Int32))) + (((xs3.getD (1 : Int32).toNatClampNeg 0) - (xs2.getD (1 : Int32).toNatClampNeg 0)) + (1 : Int32))) + (((xs3.getD (2 : Int32).toNatClampNeg 0) - (xs2.getD (2 : Int32).toNatClampNeg 0)) + (1 : Int32))) + (((xs3.getD (3 : Int32).toNatClampNeg 0) - (xs2.getD (3 : Int32).toNatClampNeg 0)) + (1 : Int32)))), .val (.int (3 : Int32))]) rfl k) ?_
  show own_Goes p e below _ (T126.setTop (mkF m 31 #[.val (.ref a1), .val (.int (((((0 : Int32) + (((xs3.getD (0 : Int32).toNatClampNeg 0) - (xs2.getD (0 : Int32).toNatClampNeg 0)) + (1 : Int32))) + (((xs3.getD (1 : Int32).toNatClampNeg 0) - (xs2.getD (1 : Int32).toNatClampNeg 0)) + (1 : Int32))) + (((xs3.getD (2 : Int32).toNatClampNeg 0) - (xs2.getD (2 : Int32).toNatClampNeg 0)) + (1 : Int32))) + (((xs3.getD (3 : Int32).toNatClampNeg 0) - (xs2.getD (3 : Int32).toNatClampNeg 0)) + (1 : Int32)))), .val (.int (3 : Int32))] []))
  refine own_step (fun t k => XS.iinc X126.here hx rfl (hb hby own_dprog_129_method_2_code_31) rfl (l' := #[.val (.ref a1), .val (.int (((((0 : Int32) + (((xs3.getD (0 : Int32).toNatClampNeg 0) - (xs2.getD (0 : Int32).toNatClampNeg 0)) + (1 : Int32))) + (((xs3.getD (1 : Int32).toNatClampNeg 0) - (xs2.getD (1 : Int32).toNatClampNeg 0)) + (1 : Int32))) + (((xs3.getD (2 : Int32).toNatClampNeg 0) - (xs2.getD (2 : Int32).toNatClampNeg 0)) + (1 : Int32))) + (((xs3.getD (3 : Int32).toNatClampNeg 0) - (xs2.getD (3 : Int32).toNatClampNeg 0)) + (1 : Int32)))), .val (.int (4 : Int32))]) rfl k) ?_
  show own_Goes p e below _ (T126.setTop (mkF m 34 #[.val (.ref a1), .val (.int (((((0 : Int32) + (((xs3.getD (0 : Int32).toNatClampNeg 0) - (xs2.getD (0 : Int32).toNatClampNeg 0)) + (1 : Int32))) + (((xs3.getD (1 : Int32).toNatClampNeg 0) - (xs2.getD (1 : Int32).toNatClampNeg 0)) + (1 : Int32))) + (((xs3.getD (2 : Int32).toNatClampNeg 0) - (xs2.getD (2 : Int32).toNatClampNeg 0)) + (1 : Int32))) + (((xs3.getD (3 : Int32).toNatClampNeg 0) - (xs2.getD (3 : Int32).toNatClampNeg 0)) + (1 : Int32)))), .val (.int (4 : Int32))] []))
  refine own_step (fun t k => XS.goto X126.here hx rfl (pc0 := 34) (pc' := 4) rfl (hb hby own_dprog_129_method_2_code_34) (by decide) (by decide) k) ?_
  show own_Goes p e below _ (T126.setTop (mkF m 4 #[.val (.ref a1), .val (.int (((((0 : Int32) + (((xs3.getD (0 : Int32).toNatClampNeg 0) - (xs2.getD (0 : Int32).toNatClampNeg 0)) + (1 : Int32))) + (((xs3.getD (1 : Int32).toNatClampNeg 0) - (xs2.getD (1 : Int32).toNatClampNeg 0)) + (1 : Int32))) + (((xs3.getD (2 : Int32).toNatClampNeg 0) - (xs2.getD (2 : Int32).toNatClampNeg 0)) + (1 : Int32))) + (((xs3.getD (3 : Int32).toNatClampNeg 0) - (xs2.getD (3 : Int32).toNatClampNeg 0)) + (1 : Int32)))), .val (.int (4 : Int32))] []))
  refine own_step (fun t k => XS.iloadN X126.here hx rfl (hb hby own_dprog_129_method_2_code_4) rfl k) ?_
  show own_Goes p e below _ (T126.setTop (mkF m 5 #[.val (.ref a1), .val (.int (((((0 : Int32) + (((xs3.getD (0 : Int32).toNatClampNeg 0) - (xs2.getD (0 : Int32).toNatClampNeg 0)) + (1 : Int32))) + (((xs3.getD (1 : Int32).toNatClampNeg 0) - (xs2.getD (1 : Int32).toNatClampNeg 0)) + (1 : Int32))) + (((xs3.getD (2 : Int32).toNatClampNeg 0) - (xs2.getD (2 : Int32).toNatClampNeg 0)) + (1 : Int32))) + (((xs3.getD (3 : Int32).toNatClampNeg 0) - (xs2.getD (3 : Int32).toNatClampNeg 0)) + (1 : Int32)))), .val (.int (4 : Int32))] [(.int (4 : Int32))]))
  refine own_step (fun t k => XS.aloadN X126.here hx rfl (hb hby own_dprog_129_method_2_code_5) rfl rfl k) ?_
  show own_Goes p e below _ (T126.setTop (mkF m 6 #[.val (.ref a1), .val (.int (((((0 : Int32) + (((xs3.getD (0 : Int32).toNatClampNeg 0) - (xs2.getD (0 : Int32).toNatClampNeg 0)) + (1 : Int32))) + (((xs3.getD (1 : Int32).toNatClampNeg 0) - (xs2.getD (1 : Int32).toNatClampNeg 0)) + (1 : Int32))) + (((xs3.getD (2 : Int32).toNatClampNeg 0) - (xs2.getD (2 : Int32).toNatClampNeg 0)) + (1 : Int32))) + (((xs3.getD (3 : Int32).toNatClampNeg 0) - (xs2.getD (3 : Int32).toNatClampNeg 0)) + (1 : Int32)))), .val (.int (4 : Int32))] [(.ref a1), (.int (4 : Int32))]))
  obtain ⟨T127, X127, e127, st127⟩ := getF X126 hx hZ hown (host := "") (Or.inl w17) Via.refl e126 F_regions_a1 (g := (mkF m 6 #[.val (.ref a1), .val (.int (((((0 : Int32) + (((xs3.getD (0 : Int32).toNatClampNeg 0) - (xs2.getD (0 : Int32).toNatClampNeg 0)) + (1 : Int32))) + (((xs3.getD (1 : Int32).toNatClampNeg 0) - (xs2.getD (1 : Int32).toNatClampNeg 0)) + (1 : Int32))) + (((xs3.getD (2 : Int32).toNatClampNeg 0) - (xs2.getD (2 : Int32).toNatClampNeg 0)) + (1 : Int32))) + (((xs3.getD (3 : Int32).toNatClampNeg 0) - (xs2.getD (3 : Int32).toNatClampNeg 0)) + (1 : Int32)))), .val (.int (4 : Int32))] [(.ref a1), (.int (4 : Int32))])) rfl rfl (hb hby own_dprog_129_method_2_code_6)
  refine own_step st127 ?_
  show own_Goes p e below _ (T127.setTop (mkF m 9 #[.val (.ref a1), .val (.int (((((0 : Int32) + (((xs3.getD (0 : Int32).toNatClampNeg 0) - (xs2.getD (0 : Int32).toNatClampNeg 0)) + (1 : Int32))) + (((xs3.getD (1 : Int32).toNatClampNeg 0) - (xs2.getD (1 : Int32).toNatClampNeg 0)) + (1 : Int32))) + (((xs3.getD (2 : Int32).toNatClampNeg 0) - (xs2.getD (2 : Int32).toNatClampNeg 0)) + (1 : Int32))) + (((xs3.getD (3 : Int32).toNatClampNeg 0) - (xs2.getD (3 : Int32).toNatClampNeg 0)) + (1 : Int32)))), .val (.int (4 : Int32))] [(.ref rg), (.int (4 : Int32))]))
  refine own_step (fun t k => own_len X127 hx hZ e127 V_rg (g := (mkF m 9 #[.val (.ref a1), .val (.int (((((0 : Int32) + (((xs3.getD (0 : Int32).toNatClampNeg 0) - (xs2.getD (0 : Int32).toNatClampNeg 0)) + (1 : Int32))) + (((xs3.getD (1 : Int32).toNatClampNeg 0) - (xs2.getD (1 : Int32).toNatClampNeg 0)) + (1 : Int32))) + (((xs3.getD (2 : Int32).toNatClampNeg 0) - (xs2.getD (2 : Int32).toNatClampNeg 0)) + (1 : Int32))) + (((xs3.getD (3 : Int32).toNatClampNeg 0) - (xs2.getD (3 : Int32).toNatClampNeg 0)) + (1 : Int32)))), .val (.int (4 : Int32))] [(.ref rg), (.int (4 : Int32))])) rfl rfl (hb hby own_dprog_129_method_2_code_9) _ k) ?_
  show own_Goes p e below _ (T127.setTop (mkF m 10 #[.val (.ref a1), .val (.int (((((0 : Int32) + (((xs3.getD (0 : Int32).toNatClampNeg 0) - (xs2.getD (0 : Int32).toNatClampNeg 0)) + (1 : Int32))) + (((xs3.getD (1 : Int32).toNatClampNeg 0) - (xs2.getD (1 : Int32).toNatClampNeg 0)) + (1 : Int32))) + (((xs3.getD (2 : Int32).toNatClampNeg 0) - (xs2.getD (2 : Int32).toNatClampNeg 0)) + (1 : Int32))) + (((xs3.getD (3 : Int32).toNatClampNeg 0) - (xs2.getD (3 : Int32).toNatClampNeg 0)) + (1 : Int32)))), .val (.int (4 : Int32))] [(.int (4 : Int32)), (.int (4 : Int32))]))
  have hc128 : ¬ ((4 : Int32) < (4 : Int32)) := by decide
  refine own_step (fun t k => XS.icmpYes X127.here hx rfl (pc0 := 10) (pc' := 37) rfl (hb hby own_dprog_129_method_2_code_10) rfl (flt hc128).2.1 (by decide) (by decide) k) ?_
  show own_Goes p e below _ (T127.setTop (mkF m 37 #[.val (.ref a1), .val (.int (((((0 : Int32) + (((xs3.getD (0 : Int32).toNatClampNeg 0) - (xs2.getD (0 : Int32).toNatClampNeg 0)) + (1 : Int32))) + (((xs3.getD (1 : Int32).toNatClampNeg 0) - (xs2.getD (1 : Int32).toNatClampNeg 0)) + (1 : Int32))) + (((xs3.getD (2 : Int32).toNatClampNeg 0) - (xs2.getD (2 : Int32).toNatClampNeg 0)) + (1 : Int32))) + (((xs3.getD (3 : Int32).toNatClampNeg 0) - (xs2.getD (3 : Int32).toNatClampNeg 0)) + (1 : Int32)))), .val (.int (4 : Int32))] []))
  refine own_step (fun t k => XS.iloadN X127.here hx rfl (hb hby own_dprog_129_method_2_code_37) rfl k) ?_
  show own_Goes p e below _ (T127.setTop (mkF m 38 #[.val (.ref a1), .val (.int (((((0 : Int32) + (((xs3.getD (0 : Int32).toNatClampNeg 0) - (xs2.getD (0 : Int32).toNatClampNeg 0)) + (1 : Int32))) + (((xs3.getD (1 : Int32).toNatClampNeg 0) - (xs2.getD (1 : Int32).toNatClampNeg 0)) + (1 : Int32))) + (((xs3.getD (2 : Int32).toNatClampNeg 0) - (xs2.getD (2 : Int32).toNatClampNeg 0)) + (1 : Int32))) + (((xs3.getD (3 : Int32).toNatClampNeg 0) - (xs2.getD (3 : Int32).toNatClampNeg 0)) + (1 : Int32)))), .val (.int (4 : Int32))] [(.int (((((0 : Int32) + (((xs3.getD (0 : Int32).toNatClampNeg 0) - (xs2.getD (0 : Int32).toNatClampNeg 0)) + (1 : Int32))) + (((xs3.getD (1 : Int32).toNatClampNeg 0) - (xs2.getD (1 : Int32).toNatClampNeg 0)) + (1 : Int32))) + (((xs3.getD (2 : Int32).toNatClampNeg 0) - (xs2.getD (2 : Int32).toNatClampNeg 0)) + (1 : Int32))) + (((xs3.getD (3 : Int32).toNatClampNeg 0) - (xs2.getD (3 : Int32).toNatClampNeg 0)) + (1 : Int32))))]))
  refine own_retV X127 hx hlk Bd.returns (w := (.int (((((0 : Int32) + (((xs3.getD (0 : Int32).toNatClampNeg 0) - (xs2.getD (0 : Int32).toNatClampNeg 0)) + (1 : Int32))) + (((xs3.getD (1 : Int32).toNatClampNeg 0) - (xs2.getD (1 : Int32).toNatClampNeg 0)) + (1 : Int32))) + (((xs3.getD (2 : Int32).toNatClampNeg 0) - (xs2.getD (2 : Int32).toNatClampNeg 0)) + (1 : Int32))) + (((xs3.getD (3 : Int32).toNatClampNeg 0) - (xs2.getD (3 : Int32).toNatClampNeg 0)) + (1 : Int32))))) rfl (Or.inl ⟨rfl, Or.inl rfl, _, rfl⟩) (hb hby own_dprog_129_method_2_code_38) ?_ (by decide) (by decide)
  show own_c4_Q Z a1 rg fi la k1 k2 k3 xs1 xs2 xs3 h0 n0 _ T127.heap _
  rw [e127]
  exact ⟨rfl, N0, rfl⟩
theorem own_pd2 : parseMethodDescriptor "([J[I[I[J[J)V" = some ⟨[(.array .long), (.array .int), (.array .int), (.array .long), (.array .long)], none⟩ := by decide +kernel
theorem own_pd3 : parseMethodDescriptor "()I" = some ⟨[], some .int⟩ := by decide +kernel
theorem own_pd4 : parseMethodDescriptor "(J)J" = some ⟨[.long], some .long⟩ := by decide +kernel
theorem own_law_ef (m : MethodId) (p1 : Int32) (p2 : Int64) (p3 : Int64) (p4 : Int64) (p5 : Int64) : entryFrame m #[(.int p1), (.long p2), (.long p3), (.long p4), (.long p5)] maxLocals = mkF m 0 #[.val (.int p1), .val (.long p2), .second, .val (.long p3), .second, .val (.long p4), .second, .val (.long p5), .second, .unset, .unset, .unset, .unset, .unset, .unset, .unset] [] := by first | (simp [entryFrame, mkF, argsToLocals, Value.category, maxLocals]; done) | rfl
set_option maxRecDepth 65536 in
set_option maxHeartbeats 40000000 in
theorem own_law (l : Launch) (Z : State) (a0 : Array Value) (hw : ∀ d ∈ tables_1, d.before a0 Z = true) (ws : List Jvm.Cond) (p1 : Int32) (p2 : Int64) (p3 : Int64) (p4 : Int64) (p5 : Int64) (h0 : Heap) (n0 : Nat) (Z0 : n0 ≤ h0.size) :
    MetFree l x (head1 (Jvm.Cond.code x code maxLocals ret :: ws) room_1) (fun aa U => aa = #[(.int p1), (.long p2), (.long p3), (.long p4), (.long p5)] ∧ Z.Warmed39 U.vm ∧ U.heap = h0) (fun _ _ _ _ _ => True) (fun _ U o U' => ∃ v L, o = .returned v ∧ own_Q0 n0 v U'.heap L ∧ FrameEnd U o U' L 24 128) := by
  refine MetFree.of_bodySF (plainFor_of_name own_pn2) hisR ?_
  have w0 := hw _ (List.mem_of_getElem? (i := 0) rfl)
  have w1 := hw _ (List.mem_of_getElem? (i := 1) rfl)
  have w2 := hw _ (List.mem_of_getElem? (i := 2) rfl)
  have w3 := hw _ (List.mem_of_getElem? (i := 3) rfl)
  have w4 := hw _ (List.mem_of_getElem? (i := 4) rfl)
  have w5 := hw _ (List.mem_of_getElem? (i := 5) rfl)
  have w6 := hw _ (List.mem_of_getElem? (i := 6) rfl)
  have w7 := hw _ (List.mem_of_getElem? (i := 7) rfl)
  have w8 := hw _ (List.mem_of_getElem? (i := 8) rfl)
  have w18 := hw _ (List.mem_of_getElem? (i := 18) rfl)
  have w20 := hw _ (List.mem_of_getElem? (i := 20) rfl)
  have w22 := hw _ (List.mem_of_getElem? (i := 22) rfl)
  have w24 := hw _ (List.mem_of_getElem? (i := 24) rfl)
  have w26 := hw _ (List.mem_of_getElem? (i := 26) rfl)
  have w27 := hw _ (List.mem_of_getElem? (i := 27) rfl)
  have w28 := hw _ (List.mem_of_getElem? (i := 28) rfl)
  have w29 := hw _ (List.mem_of_getElem? (i := 29) rfl)
  have w30 := hw _ (List.mem_of_getElem? (i := 30) rfl)
  have w31 := hw _ (List.mem_of_getElem? (i := 31) rfl)
  have w32 := hw _ (List.mem_of_getElem? (i := 32) rfl)
  have w33 := hw _ (List.mem_of_getElem? (i := 33) rfl)
  have w34 := hw _ (List.mem_of_getElem? (i := 34) rfl)
  have w35 := hw _ (List.mem_of_getElem? (i := 35) rfl)
  have w36 := hw _ (List.mem_of_getElem? (i := 36) rfl)
  have w37 := hw _ (List.mem_of_getElem? (i := 37) rfl)
  have w38 := hw _ (List.mem_of_getElem? (i := 38) rfl)
  have w39 := hw _ (List.mem_of_getElem? (i := 39) rfl)
  have w40 := hw _ (List.mem_of_getElem? (i := 40) rfl)
  have w41 := hw _ (List.mem_of_getElem? (i := 41) rfl)
  intro p e s m args below meth c s₁ Bd hml0 hP hK
  obtain ⟨rfl, hZ, hh⟩ := hP
  have hx := Bd.exec
  have hby := Bd.bytes
  have hlk := Bd.notSynchronized
  have hml : c.maxLocals = 16 := hml0
  have hown : s.vm.findClass "com/example/concepta/concepta/store/RowsBlockCountPinLaw" = some m.cls := findClass_of_methodNamed Bd.named
  have hnm := (name_of_methodNamed Bd.named Bd.method).1
  have X0 : Stand p l e room_1 s m #[(.int p1), (.long p2), (.long p3), (.long p4), (.long p5)] below meth c s₁ [] 0 0 := Stand.of_body Bd
  have e0 : s₁.heap = h0 := by rw [← hh, Bd.state]; rfl
  have N0 := Fr.nil n0
  have K0 : Keep h0 h0 [] := Keep.refl h0 _
  show own_Goes p e below (own_Fin s (own_Q0 n0) 24 128) _
  refine own_step (fun t k => castTop (own_law_ef m p1 p2 p3 p4 p5) k) ?_
  show own_Goes p e below _ (s₁.setTop (mkF m 0 #[.val (.int p1), .val (.long p2), .second, .val (.long p3), .second, .val (.long p4), .second, .val (.long p5), .second, .unset, .unset, .unset, .unset, .unset, .unset, .unset] []))
  refine own_step (fun t k => XS.iloadN X0.here hx rfl (hb hby at_0) rfl k) ?_
  show own_Goes p e below _ (s₁.setTop (mkF m 1 #[.val (.int p1), .val (.long p2), .second, .val (.long p3), .second, .val (.long p4), .second, .val (.long p5), .second, .unset, .unset, .unset, .unset, .unset, .unset, .unset] [(.int p1)]))
  refine own_step (fun t k => X0.ldcInt hx hown (mvT hZ w0) (g := (mkF m 1 #[.val (.int p1), .val (.long p2), .second, .val (.long p3), .second, .val (.long p4), .second, .val (.long p5), .second, .unset, .unset, .unset, .unset, .unset, .unset, .unset] [(.int p1)])) rfl (hb hby at_1) _ k) ?_
  show own_Goes p e below _ (s₁.setTop (mkF m 3 #[.val (.int p1), .val (.long p2), .second, .val (.long p3), .second, .val (.long p4), .second, .val (.long p5), .second, .unset, .unset, .unset, .unset, .unset, .unset, .unset] [(.int (2147483647 : Int32)), (.int p1)]))
  refine own_step (fun t k => XS.iand X0.here hx rfl (hb hby at_3) rfl k) ?_
  show own_Goes p e below _ (s₁.setTop (mkF m 4 #[.val (.int p1), .val (.long p2), .second, .val (.long p3), .second, .val (.long p4), .second, .val (.long p5), .second, .unset, .unset, .unset, .unset, .unset, .unset, .unset] [(.int (p1 &&& (2147483647 : Int32)))]))
  refine own_step (fun t k => XS.iconst X0.here hx rfl (hb hby at_4) k) ?_
  show own_Goes p e below _ (s₁.setTop (mkF m 5 #[.val (.int p1), .val (.long p2), .second, .val (.long p3), .second, .val (.long p4), .second, .val (.long p5), .second, .unset, .unset, .unset, .unset, .unset, .unset, .unset] [(.int (5 : Int32)), (.int (p1 &&& (2147483647 : Int32)))]))
  refine own_step (fun t k => Jvm.RoadKit.iremM X0 hx rfl (hb hby at_5) rfl (by decide) k) ?_
  show own_Goes p e below _ (s₁.setTop (mkF m 6 #[.val (.int p1), .val (.long p2), .second, .val (.long p3), .second, .val (.long p4), .second, .val (.long p5), .second, .unset, .unset, .unset, .unset, .unset, .unset, .unset] [(.int ((p1 &&& (2147483647 : Int32)) % (5 : Int32)))]))
  refine own_step (fun t k => XS.istore X0.here hx rfl (hb hby at_6) rfl (l' := #[.val (.int p1), .val (.long p2), .second, .val (.long p3), .second, .val (.long p4), .second, .val (.long p5), .second, .val (.int ((p1 &&& (2147483647 : Int32)) % (5 : Int32))), .unset, .unset, .unset, .unset, .unset, .unset]) rfl k) ?_
  show own_Goes p e below _ (s₁.setTop (mkF m 8 #[.val (.int p1), .val (.long p2), .second, .val (.long p3), .second, .val (.long p4), .second, .val (.long p5), .second, .val (.int ((p1 &&& (2147483647 : Int32)) % (5 : Int32))), .unset, .unset, .unset, .unset, .unset, .unset] []))
  generalize hv_vi : ((p1 &&& (2147483647 : Int32)) % (5 : Int32)) = vi
  have hvi : vi = (0 : Int32) ∨ vi = (1 : Int32) ∨ vi = (2 : Int32) ∨ vi = (3 : Int32) ∨ vi = (4 : Int32) := own_cases hv_vi
  clear hv_vi
  rcases hvi with rfl | rfl | rfl | rfl | rfl
  · --
    show own_Goes p e below _ (s₁.setTop (mkF m 8 #[.val (.int p1), .val (.long p2), .second, .val (.long p3), .second, .val (.long p4), .second, .val (.long p5), .second, .val (.int (0 : Int32)), .unset, .unset, .unset, .unset, .unset, .unset] []))
    refine own_step (fun t k => XS.iload X0.here hx rfl (hb hby at_8) rfl k) ?_
    show own_Goes p e below _ (s₁.setTop (mkF m 10 #[.val (.int p1), .val (.long p2), .second, .val (.long p3), .second, .val (.long p4), .second, .val (.long p5), .second, .val (.int (0 : Int32)), .unset, .unset, .unset, .unset, .unset, .unset] [(.int (0 : Int32))]))
    obtain ⟨T129, h129, k129, X129, e129, E129, A129, st129⟩ := newP (aty := .long) X0 hx hZ w1 e0 (g := (mkF m 10 #[.val (.int p1), .val (.long p2), .second, .val (.long p3), .second, .val (.long p4), .second, .val (.long p5), .second, .val (.int (0 : Int32)), .unset, .unset, .unset, .unset, .unset, .unset] [(.int (0 : Int32))])) rfl (hb hby at_10) rfl (by decide) (cap := 0) (by decide) (by decide) (by decide) (by decide)
    obtain ⟨b129, g129⟩ : ∃ z, z = h0.size := ⟨_, rfl⟩
    rw [← g129] at A129 st129
    have g_b129 : n0 ≤ b129 := Nat.le_trans Z0 (Nat.le_of_eq g129.symm)
    have sz_b129 : h0.size ≤ b129 := Nat.le_trans K0.1 (Nat.le_of_eq g129.symm)
    have V129 : Arv Z h129 b129 k129 .long (0 : Int32) (([] : List Int64).map Value.long) (Value.long (0 : Int64)) := own_newJ A129 (by decide) 0
    have K130 : Keep h0 h129 [] := K0.ext E129
    refine own_step st129 ?_
    show own_Goes p e below _ (T129.setTop (mkF m 12 #[.val (.int p1), .val (.long p2), .second, .val (.long p3), .second, .val (.long p4), .second, .val (.long p5), .second, .val (.int (0 : Int32)), .unset, .unset, .unset, .unset, .unset, .unset] [(.ref b129)]))
    refine own_step (fun t k => XS.astore X129.here hx rfl (hb hby at_12) rfl rfl (l' := #[.val (.int p1), .val (.long p2), .second, .val (.long p3), .second, .val (.long p4), .second, .val (.long p5), .second, .val (.int (0 : Int32)), .val (.ref b129), .unset, .unset, .unset, .unset, .unset]) rfl k) ?_
    show own_Goes p e below _ (T129.setTop (mkF m 14 #[.val (.int p1), .val (.long p2), .second, .val (.long p3), .second, .val (.long p4), .second, .val (.long p5), .second, .val (.int (0 : Int32)), .val (.ref b129), .unset, .unset, .unset, .unset, .unset] []))
    refine own_step (fun t k => XS.iload X129.here hx rfl (hb hby at_14) rfl k) ?_
    show own_Goes p e below _ (T129.setTop (mkF m 16 #[.val (.int p1), .val (.long p2), .second, .val (.long p3), .second, .val (.long p4), .second, .val (.long p5), .second, .val (.int (0 : Int32)), .val (.ref b129), .unset, .unset, .unset, .unset, .unset] [(.int (0 : Int32))]))
    obtain ⟨T131, h131, k131, X131, e131, E131, A131, st131⟩ := newP (aty := .int) X129 hx hZ w2 e129 (g := (mkF m 16 #[.val (.int p1), .val (.long p2), .second, .val (.long p3), .second, .val (.long p4), .second, .val (.long p5), .second, .val (.int (0 : Int32)), .val (.ref b129), .unset, .unset, .unset, .unset, .unset] [(.int (0 : Int32))])) rfl (hb hby at_16) rfl (by decide) (cap := 0) (by decide) (by decide) (by decide) (by decide)
    obtain ⟨b131, g131⟩ : ∃ z, z = h129.size := ⟨_, rfl⟩
    rw [← g131] at A131 st131
    have ne_b129_b131 : b129 ≠ b131 := Nat.ne_of_lt (Nat.lt_of_lt_of_le V129.lt (Nat.le_of_eq g131.symm))
    have g_b131 : n0 ≤ b131 := Nat.le_trans (Nat.le_trans Z0 E129.1) (Nat.le_of_eq g131.symm)
    have sz_b131 : h0.size ≤ b131 := Nat.le_trans K130.1 (Nat.le_of_eq g131.symm)
    have V131 : Arv Z h131 b131 k131 .int (0 : Int32) (([] : List Int32).map Value.int) (Value.int (0 : Int32)) := own_newI A131 (by decide) 0
    have K132 : Keep h0 h131 [] := K130.ext E131
    refine own_step st131 ?_
    show own_Goes p e below _ (T131.setTop (mkF m 18 #[.val (.int p1), .val (.long p2), .second, .val (.long p3), .second, .val (.long p4), .second, .val (.long p5), .second, .val (.int (0 : Int32)), .val (.ref b129), .unset, .unset, .unset, .unset, .unset] [(.ref b131)]))
    refine own_step (fun t k => XS.astore X131.here hx rfl (hb hby at_18) rfl rfl (l' := #[.val (.int p1), .val (.long p2), .second, .val (.long p3), .second, .val (.long p4), .second, .val (.long p5), .second, .val (.int (0 : Int32)), .val (.ref b129), .val (.ref b131), .unset, .unset, .unset, .unset]) rfl k) ?_
    show own_Goes p e below _ (T131.setTop (mkF m 20 #[.val (.int p1), .val (.long p2), .second, .val (.long p3), .second, .val (.long p4), .second, .val (.long p5), .second, .val (.int (0 : Int32)), .val (.ref b129), .val (.ref b131), .unset, .unset, .unset, .unset] []))
    refine own_step (fun t k => XS.iload X131.here hx rfl (hb hby at_20) rfl k) ?_
    show own_Goes p e below _ (T131.setTop (mkF m 22 #[.val (.int p1), .val (.long p2), .second, .val (.long p3), .second, .val (.long p4), .second, .val (.long p5), .second, .val (.int (0 : Int32)), .val (.ref b129), .val (.ref b131), .unset, .unset, .unset, .unset] [(.int (0 : Int32))]))
    obtain ⟨T133, h133, k133, X133, e133, E133, A133, st133⟩ := newP (aty := .int) X131 hx hZ w2 e131 (g := (mkF m 22 #[.val (.int p1), .val (.long p2), .second, .val (.long p3), .second, .val (.long p4), .second, .val (.long p5), .second, .val (.int (0 : Int32)), .val (.ref b129), .val (.ref b131), .unset, .unset, .unset, .unset] [(.int (0 : Int32))])) rfl (hb hby at_22) rfl (by decide) (cap := 0) (by decide) (by decide) (by decide) (by decide)
    obtain ⟨b133, g133⟩ : ∃ z, z = h131.size := ⟨_, rfl⟩
    rw [← g133] at A133 st133
    have ne_b129_b133 : b129 ≠ b133 := Nat.ne_of_lt (Nat.lt_of_lt_of_le (V129.ext E131).lt (Nat.le_of_eq g133.symm))
    have ne_b131_b133 : b131 ≠ b133 := Nat.ne_of_lt (Nat.lt_of_lt_of_le V131.lt (Nat.le_of_eq g133.symm))
    have g_b133 : n0 ≤ b133 := Nat.le_trans (Nat.le_trans (Nat.le_trans Z0 E129.1) E131.1) (Nat.le_of_eq g133.symm)
    have sz_b133 : h0.size ≤ b133 := Nat.le_trans K132.1 (Nat.le_of_eq g133.symm)
    have V133 : Arv Z h133 b133 k133 .int (0 : Int32) (([] : List Int32).map Value.int) (Value.int (0 : Int32)) := own_newI A133 (by decide) 0
    have K134 : Keep h0 h133 [] := K132.ext E133
    refine own_step st133 ?_
    show own_Goes p e below _ (T133.setTop (mkF m 24 #[.val (.int p1), .val (.long p2), .second, .val (.long p3), .second, .val (.long p4), .second, .val (.long p5), .second, .val (.int (0 : Int32)), .val (.ref b129), .val (.ref b131), .unset, .unset, .unset, .unset] [(.ref b133)]))
    refine own_step (fun t k => XS.astore X133.here hx rfl (hb hby at_24) rfl rfl (l' := #[.val (.int p1), .val (.long p2), .second, .val (.long p3), .second, .val (.long p4), .second, .val (.long p5), .second, .val (.int (0 : Int32)), .val (.ref b129), .val (.ref b131), .val (.ref b133), .unset, .unset, .unset]) rfl k) ?_
    show own_Goes p e below _ (T133.setTop (mkF m 26 #[.val (.int p1), .val (.long p2), .second, .val (.long p3), .second, .val (.long p4), .second, .val (.long p5), .second, .val (.int (0 : Int32)), .val (.ref b129), .val (.ref b131), .val (.ref b133), .unset, .unset, .unset] []))
    refine own_step (fun t k => XS.lconst X133.here hx rfl (hb hby at_26) k) ?_
    show own_Goes p e below _ (T133.setTop (mkF m 27 #[.val (.int p1), .val (.long p2), .second, .val (.long p3), .second, .val (.long p4), .second, .val (.long p5), .second, .val (.int (0 : Int32)), .val (.ref b129), .val (.ref b131), .val (.ref b133), .unset, .unset, .unset] [(.long (0 : Int64))]))
    refine own_step (fun t k => XS.lstore X133.here hx rfl (hb hby at_27) rfl (l' := #[.val (.int p1), .val (.long p2), .second, .val (.long p3), .second, .val (.long p4), .second, .val (.long p5), .second, .val (.int (0 : Int32)), .val (.ref b129), .val (.ref b131), .val (.ref b133), .val (.long (0 : Int64)), .second, .unset]) rfl k) ?_
    show own_Goes p e below _ (T133.setTop (mkF m 29 #[.val (.int p1), .val (.long p2), .second, .val (.long p3), .second, .val (.long p4), .second, .val (.long p5), .second, .val (.int (0 : Int32)), .val (.ref b129), .val (.ref b131), .val (.ref b133), .val (.long (0 : Int64)), .second, .unset] []))
    refine own_step (fun t k => XS.iload X133.here hx rfl (hb hby at_29) rfl k) ?_
    show own_Goes p e below _ (T133.setTop (mkF m 31 #[.val (.int p1), .val (.long p2), .second, .val (.long p3), .second, .val (.long p4), .second, .val (.long p5), .second, .val (.int (0 : Int32)), .val (.ref b129), .val (.ref b131), .val (.ref b133), .val (.long (0 : Int64)), .second, .unset] [(.int (0 : Int32))]))
    have hc135 : ¬ ((0 : Int32) < (0 : Int32)) := by decide
    refine own_step (fun t k => XS.ifYes X133.here hx rfl (pc0 := 31) (pc' := 64) rfl (hb hby at_31) rfl ((if0 _ _).trans (flt hc135).2.2.2) (by decide) (by decide) k) ?_
    show own_Goes p e below _ (T133.setTop (mkF m 64 #[.val (.int p1), .val (.long p2), .second, .val (.long p3), .second, .val (.long p4), .second, .val (.long p5), .second, .val (.int (0 : Int32)), .val (.ref b129), .val (.ref b131), .val (.ref b133), .val (.long (0 : Int64)), .second, .unset] []))
    refine own_step (fun t k => XS.iload X133.here hx rfl (hb hby at_64) rfl k) ?_
    show own_Goes p e below _ (T133.setTop (mkF m 66 #[.val (.int p1), .val (.long p2), .second, .val (.long p3), .second, .val (.long p4), .second, .val (.long p5), .second, .val (.int (0 : Int32)), .val (.ref b129), .val (.ref b131), .val (.ref b133), .val (.long (0 : Int64)), .second, .unset] [(.int (0 : Int32))]))
    refine own_step (fun t k => XS.iconst X133.here hx rfl (hb hby at_66) k) ?_
    show own_Goes p e below _ (T133.setTop (mkF m 67 #[.val (.int p1), .val (.long p2), .second, .val (.long p3), .second, .val (.long p4), .second, .val (.long p5), .second, .val (.int (0 : Int32)), .val (.ref b129), .val (.ref b131), .val (.ref b133), .val (.long (0 : Int64)), .second, .unset] [(.int (1 : Int32)), (.int (0 : Int32))]))
    have hc136 : ¬ ((1 : Int32) < (0 : Int32)) := by decide
    refine own_step (fun t k => XS.icmpYes X133.here hx rfl (pc0 := 67) (pc' := 100) rfl (hb hby at_67) rfl (flt hc136).2.2.2 (by decide) (by decide) k) ?_
    show own_Goes p e below _ (T133.setTop (mkF m 100 #[.val (.int p1), .val (.long p2), .second, .val (.long p3), .second, .val (.long p4), .second, .val (.long p5), .second, .val (.int (0 : Int32)), .val (.ref b129), .val (.ref b131), .val (.ref b133), .val (.long (0 : Int64)), .second, .unset] []))
    refine own_step (fun t k => XS.iload X133.here hx rfl (hb hby at_100) rfl k) ?_
    show own_Goes p e below _ (T133.setTop (mkF m 102 #[.val (.int p1), .val (.long p2), .second, .val (.long p3), .second, .val (.long p4), .second, .val (.long p5), .second, .val (.int (0 : Int32)), .val (.ref b129), .val (.ref b131), .val (.ref b133), .val (.long (0 : Int64)), .second, .unset] [(.int (0 : Int32))]))
    refine own_step (fun t k => XS.iconst X133.here hx rfl (hb hby at_102) k) ?_
    show own_Goes p e below _ (T133.setTop (mkF m 103 #[.val (.int p1), .val (.long p2), .second, .val (.long p3), .second, .val (.long p4), .second, .val (.long p5), .second, .val (.int (0 : Int32)), .val (.ref b129), .val (.ref b131), .val (.ref b133), .val (.long (0 : Int64)), .second, .unset] [(.int (2 : Int32)), (.int (0 : Int32))]))
    have hc137 : ¬ ((2 : Int32) < (0 : Int32)) := by decide
    refine own_step (fun t k => XS.icmpYes X133.here hx rfl (pc0 := 103) (pc' := 140) rfl (hb hby at_103) rfl (flt hc137).2.2.2 (by decide) (by decide) k) ?_
    show own_Goes p e below _ (T133.setTop (mkF m 140 #[.val (.int p1), .val (.long p2), .second, .val (.long p3), .second, .val (.long p4), .second, .val (.long p5), .second, .val (.int (0 : Int32)), .val (.ref b129), .val (.ref b131), .val (.ref b133), .val (.long (0 : Int64)), .second, .unset] []))
    refine own_step (fun t k => XS.iload X133.here hx rfl (hb hby at_140) rfl k) ?_
    show own_Goes p e below _ (T133.setTop (mkF m 142 #[.val (.int p1), .val (.long p2), .second, .val (.long p3), .second, .val (.long p4), .second, .val (.long p5), .second, .val (.int (0 : Int32)), .val (.ref b129), .val (.ref b131), .val (.ref b133), .val (.long (0 : Int64)), .second, .unset] [(.int (0 : Int32))]))
    refine own_step (fun t k => XS.iconst X133.here hx rfl (hb hby at_142) k) ?_
    show own_Goes p e below _ (T133.setTop (mkF m 143 #[.val (.int p1), .val (.long p2), .second, .val (.long p3), .second, .val (.long p4), .second, .val (.long p5), .second, .val (.int (0 : Int32)), .val (.ref b129), .val (.ref b131), .val (.ref b133), .val (.long (0 : Int64)), .second, .unset] [(.int (3 : Int32)), (.int (0 : Int32))]))
    have hc138 : ¬ ((3 : Int32) < (0 : Int32)) := by decide
    refine own_step (fun t k => XS.icmpYes X133.here hx rfl (pc0 := 143) (pc' := 180) rfl (hb hby at_143) rfl (flt hc138).2.2.2 (by decide) (by decide) k) ?_
    show own_Goes p e below _ (T133.setTop (mkF m 180 #[.val (.int p1), .val (.long p2), .second, .val (.long p3), .second, .val (.long p4), .second, .val (.long p5), .second, .val (.int (0 : Int32)), .val (.ref b129), .val (.ref b131), .val (.ref b133), .val (.long (0 : Int64)), .second, .unset] []))
    obtain ⟨T139, h139, X139, e139, E139, A139, D139, -, st139⟩ := newO X133 hx hZ hown w3 w4 w5 e133 (g := (mkF m 180 #[.val (.int p1), .val (.long p2), .second, .val (.long p3), .second, .val (.long p4), .second, .val (.long p5), .second, .val (.int (0 : Int32)), .val (.ref b129), .val (.ref b131), .val (.ref b133), .val (.long (0 : Int64)), .second, .unset] [])) rfl (hb hby at_180) (by decide) (by decide)
    obtain ⟨b139, g139⟩ : ∃ z, z = h133.size := ⟨_, rfl⟩
    rw [← g139] at A139 D139 st139
    have ne_b129_b139 : b129 ≠ b139 := Nat.ne_of_lt (Nat.lt_of_lt_of_le ((V129.ext E131).ext E133).lt (Nat.le_of_eq g139.symm))
    have ne_b131_b139 : b131 ≠ b139 := Nat.ne_of_lt (Nat.lt_of_lt_of_le (V131.ext E133).lt (Nat.le_of_eq g139.symm))
    have ne_b133_b139 : b133 ≠ b139 := Nat.ne_of_lt (Nat.lt_of_lt_of_le V133.lt (Nat.le_of_eq g139.symm))
    have g_b139 : n0 ≤ b139 := Nat.le_trans (Nat.le_trans (Nat.le_trans (Nat.le_trans Z0 E129.1) E131.1) E133.1) (Nat.le_of_eq g139.symm)
    have sz_b139 : h0.size ≤ b139 := Nat.le_trans K134.1 (Nat.le_of_eq g139.symm)
    have K140 : Keep h0 h139 [] := K134.ext E139
    have F_regions_b139 : Fld Z h139 b139 "com/example/concepta/concepta/store/OidSet$Rows" "regions" "[J" .null := D139 (Or.inr w18) (ty := (.array .long)) (by decide)
    have F_firsts_b139 : Fld Z h139 b139 "com/example/concepta/concepta/store/OidSet$Rows" "firsts" "[I" .null := D139 (Or.inr w20) (ty := (.array .int)) (by decide)
    have F_lasts_b139 : Fld Z h139 b139 "com/example/concepta/concepta/store/OidSet$Rows" "lasts" "[I" .null := D139 (Or.inr w22) (ty := (.array .int)) (by decide)
    have F_blocks_b139 : Fld Z h139 b139 "com/example/concepta/concepta/store/OidSet$Rows" "blocks" "[J" .null := D139 (Or.inr w24) (ty := (.array .long)) (by decide)
    have F_bits_b139 : Fld Z h139 b139 "com/example/concepta/concepta/store/OidSet$Rows" "bits" "[J" .null := D139 (Or.inr w26) (ty := (.array .long)) (by decide)
    refine own_step st139 ?_
    show own_Goes p e below _ (T139.setTop (mkF m 183 #[.val (.int p1), .val (.long p2), .second, .val (.long p3), .second, .val (.long p4), .second, .val (.long p5), .second, .val (.int (0 : Int32)), .val (.ref b129), .val (.ref b131), .val (.ref b133), .val (.long (0 : Int64)), .second, .unset] [(.ref b139)]))
    refine own_step (fun t k => XS.dup X139.here hx rfl (hb hby at_183) rfl rfl k) ?_
    show own_Goes p e below _ (T139.setTop (mkF m 184 #[.val (.int p1), .val (.long p2), .second, .val (.long p3), .second, .val (.long p4), .second, .val (.long p5), .second, .val (.int (0 : Int32)), .val (.ref b129), .val (.ref b131), .val (.ref b133), .val (.long (0 : Int64)), .second, .unset] [(.ref b139), (.ref b139)]))
    refine own_step (fun t k => XS.aload X139.here hx rfl (hb hby at_184) rfl rfl k) ?_
    show own_Goes p e below _ (T139.setTop (mkF m 186 #[.val (.int p1), .val (.long p2), .second, .val (.long p3), .second, .val (.long p4), .second, .val (.long p5), .second, .val (.int (0 : Int32)), .val (.ref b129), .val (.ref b131), .val (.ref b133), .val (.long (0 : Int64)), .second, .unset] [(.ref b129), (.ref b139), (.ref b139)]))
    refine own_step (fun t k => XS.aload X139.here hx rfl (hb hby at_186) rfl rfl k) ?_
    show own_Goes p e below _ (T139.setTop (mkF m 188 #[.val (.int p1), .val (.long p2), .second, .val (.long p3), .second, .val (.long p4), .second, .val (.long p5), .second, .val (.int (0 : Int32)), .val (.ref b129), .val (.ref b131), .val (.ref b133), .val (.long (0 : Int64)), .second, .unset] [(.ref b131), (.ref b129), (.ref b139), (.ref b139)]))
    refine own_step (fun t k => XS.aload X139.here hx rfl (hb hby at_188) rfl rfl k) ?_
    show own_Goes p e below _ (T139.setTop (mkF m 190 #[.val (.int p1), .val (.long p2), .second, .val (.long p3), .second, .val (.long p4), .second, .val (.long p5), .second, .val (.int (0 : Int32)), .val (.ref b129), .val (.ref b131), .val (.ref b133), .val (.long (0 : Int64)), .second, .unset] [(.ref b133), (.ref b131), (.ref b129), (.ref b139), (.ref b139)]))
    refine own_step (fun t k => XS.iconst X139.here hx rfl (hb hby at_190) k) ?_
    show own_Goes p e below _ (T139.setTop (mkF m 191 #[.val (.int p1), .val (.long p2), .second, .val (.long p3), .second, .val (.long p4), .second, .val (.long p5), .second, .val (.int (0 : Int32)), .val (.ref b129), .val (.ref b131), .val (.ref b133), .val (.long (0 : Int64)), .second, .unset] [(.int (1 : Int32)), (.ref b133), (.ref b131), (.ref b129), (.ref b139), (.ref b139)]))
    obtain ⟨T141, h141, k141, X141, e141, E141, A141, st141⟩ := newP (aty := .long) X139 hx hZ w1 e139 (g := (mkF m 191 #[.val (.int p1), .val (.long p2), .second, .val (.long p3), .second, .val (.long p4), .second, .val (.long p5), .second, .val (.int (0 : Int32)), .val (.ref b129), .val (.ref b131), .val (.ref b133), .val (.long (0 : Int64)), .second, .unset] [(.int (1 : Int32)), (.ref b133), (.ref b131), (.ref b129), (.ref b139), (.ref b139)])) rfl (hb hby at_191) rfl (by decide) (cap := 1) (by decide) (by decide) (by decide) (by decide)
    obtain ⟨b141, g141⟩ : ∃ z, z = h139.size := ⟨_, rfl⟩
    rw [← g141] at A141 st141
    have ne_b129_b141 : b129 ≠ b141 := Nat.ne_of_lt (Nat.lt_of_lt_of_le (((V129.ext E131).ext E133).ext E139).lt (Nat.le_of_eq g141.symm))
    have ne_b131_b141 : b131 ≠ b141 := Nat.ne_of_lt (Nat.lt_of_lt_of_le ((V131.ext E133).ext E139).lt (Nat.le_of_eq g141.symm))
    have ne_b133_b141 : b133 ≠ b141 := Nat.ne_of_lt (Nat.lt_of_lt_of_le (V133.ext E139).lt (Nat.le_of_eq g141.symm))
    have ne_b139_b141 : b139 ≠ b141 := Nat.ne_of_lt (Nat.lt_of_lt_of_le A139.lt (Nat.le_of_eq g141.symm))
    have g_b141 : n0 ≤ b141 := Nat.le_trans (Nat.le_trans (Nat.le_trans (Nat.le_trans (Nat.le_trans Z0 E129.1) E131.1) E133.1) E139.1) (Nat.le_of_eq g141.symm)
    have sz_b141 : h0.size ≤ b141 := Nat.le_trans K140.1 (Nat.le_of_eq g141.symm)
    have V141 : Arv Z h141 b141 k141 .long (1 : Int32) (([(0 : Int64)] : List Int64).map Value.long) (Value.long (0 : Int64)) := own_newJ A141 (by decide) 1
    have K142 : Keep h0 h141 [] := K140.ext E141
    refine own_step st141 ?_
    show own_Goes p e below _ (T141.setTop (mkF m 193 #[.val (.int p1), .val (.long p2), .second, .val (.long p3), .second, .val (.long p4), .second, .val (.long p5), .second, .val (.int (0 : Int32)), .val (.ref b129), .val (.ref b131), .val (.ref b133), .val (.long (0 : Int64)), .second, .unset] [(.ref b141), (.ref b133), (.ref b131), (.ref b129), (.ref b139), (.ref b139)]))
    refine own_step (fun t k => XS.iconst X141.here hx rfl (hb hby at_193) k) ?_
    show own_Goes p e below _ (T141.setTop (mkF m 194 #[.val (.int p1), .val (.long p2), .second, .val (.long p3), .second, .val (.long p4), .second, .val (.long p5), .second, .val (.int (0 : Int32)), .val (.ref b129), .val (.ref b131), .val (.ref b133), .val (.long (0 : Int64)), .second, .unset] [(.int (1 : Int32)), (.ref b141), (.ref b133), (.ref b131), (.ref b129), (.ref b139), (.ref b139)]))
    obtain ⟨T143, h143, k143, X143, e143, E143, A143, st143⟩ := newP (aty := .long) X141 hx hZ w1 e141 (g := (mkF m 194 #[.val (.int p1), .val (.long p2), .second, .val (.long p3), .second, .val (.long p4), .second, .val (.long p5), .second, .val (.int (0 : Int32)), .val (.ref b129), .val (.ref b131), .val (.ref b133), .val (.long (0 : Int64)), .second, .unset] [(.int (1 : Int32)), (.ref b141), (.ref b133), (.ref b131), (.ref b129), (.ref b139), (.ref b139)])) rfl (hb hby at_194) rfl (by decide) (cap := 1) (by decide) (by decide) (by decide) (by decide)
    obtain ⟨b143, g143⟩ : ∃ z, z = h141.size := ⟨_, rfl⟩
    rw [← g143] at A143 st143
    have ne_b129_b143 : b129 ≠ b143 := Nat.ne_of_lt (Nat.lt_of_lt_of_le ((((V129.ext E131).ext E133).ext E139).ext E141).lt (Nat.le_of_eq g143.symm))
    have ne_b131_b143 : b131 ≠ b143 := Nat.ne_of_lt (Nat.lt_of_lt_of_le (((V131.ext E133).ext E139).ext E141).lt (Nat.le_of_eq g143.symm))
    have ne_b133_b143 : b133 ≠ b143 := Nat.ne_of_lt (Nat.lt_of_lt_of_le ((V133.ext E139).ext E141).lt (Nat.le_of_eq g143.symm))
    have ne_b139_b143 : b139 ≠ b143 := Nat.ne_of_lt (Nat.lt_of_lt_of_le (A139.ext E141).lt (Nat.le_of_eq g143.symm))
    have ne_b141_b143 : b141 ≠ b143 := Nat.ne_of_lt (Nat.lt_of_lt_of_le V141.lt (Nat.le_of_eq g143.symm))
    have g_b143 : n0 ≤ b143 := Nat.le_trans (Nat.le_trans (Nat.le_trans (Nat.le_trans (Nat.le_trans (Nat.le_trans Z0 E129.1) E131.1) E133.1) E139.1) E141.1) (Nat.le_of_eq g143.symm)
    have sz_b143 : h0.size ≤ b143 := Nat.le_trans K142.1 (Nat.le_of_eq g143.symm)
    have V143 : Arv Z h143 b143 k143 .long (1 : Int32) (([(0 : Int64)] : List Int64).map Value.long) (Value.long (0 : Int64)) := own_newJ A143 (by decide) 1
    have K144 : Keep h0 h143 [] := K142.ext E143
    refine own_step st143 ?_
    show own_Goes p e below _ (T143.setTop (mkF m 196 #[.val (.int p1), .val (.long p2), .second, .val (.long p3), .second, .val (.long p4), .second, .val (.long p5), .second, .val (.int (0 : Int32)), .val (.ref b129), .val (.ref b131), .val (.ref b133), .val (.long (0 : Int64)), .second, .unset] [(.ref b143), (.ref b141), (.ref b133), (.ref b131), (.ref b129), (.ref b139), (.ref b139)]))
    obtain ⟨_, _, ⟨T145, L145, k145, n145⟩, -, X145, ⟨Lc145, hQ145, l145, y145, z145⟩, st145⟩ := X143.specialBack hx (y := (⟨"com/example/concepta/concepta/store/OidSet$Rows", "<init>", "([J[I[I[J[J)V"⟩ : MethodName)) rfl hown (mvT hZ w6) (mvT hZ w7) (mvT hZ w8) (by decide) (backOf (W := 1) (own_b2 l Z a0 hw [] b139 b129 b131 b133 b141 b143 (.null) (.null) (.null) (.null) (.null) h143 n0 (Nat.le_trans (Nat.le_trans (Nat.le_trans (Nat.le_trans (Nat.le_trans (Nat.le_trans Z0 E129.1) E131.1) E133.1) E139.1) E141.1) E143.1) ((A139.ext E141).ext E143) g_b139 ((F_regions_b139.ext E141).ext E143) ((F_firsts_b139.ext E141).ext E143) ((F_lasts_b139.ext E141).ext E143) ((F_blocks_b139.ext E141).ext E143) ((F_bits_b139.ext E141).ext E143)) hZ w8 w5 (by decide) (by decide)) (g := (mkF m 196 #[.val (.int p1), .val (.long p2), .second, .val (.long p3), .second, .val (.long p4), .second, .val (.long p5), .second, .val (.int (0 : Int32)), .val (.ref b129), .val (.ref b131), .val (.ref b133), .val (.long (0 : Int64)), .second, .unset] [(.ref b143), (.ref b141), (.ref b133), (.ref b131), (.ref b129), (.ref b139), (.ref b139)])) rfl (by rw [hml]; rfl) (Steps.refl _) (a := b139) (argsL := [(.ref b129), (.ref b131), (.ref b133), (.ref b141), (.ref b143)]) (rest := [(.ref b139)]) (lenOf own_pd2 rfl) rfl (by show 2 * 0 + _ ≤ _; exact Nat.le_of_eq rfl) (hb hby at_196) (fun _ _ => ⟨rfl, e143, (by decide : 6 + 0 ≤ _), (by decide : 7 + 0 ≤ _)⟩)
    dsimp only [Pt.U, Pt.locs, Pt.cells, Pt.slots] at X145 l145 y145 z145 st145 hQ145
    subst y145 z145
    obtain ⟨rfl, N145q, K145c, f145_0, f145_1, f145_2, f145_3⟩ := hQ145
    have N145 : Fr n0 L145 := by rw [l145]; exact Fr.app N0 N145q
    refine own_jump st145 ?_
    have K146 : Keep h0 T145.heap [] := K144.trans K145c (allS (Or.inr sz_b139) all0)
    show own_Goes p e below _ (T145.setTop (mkF m 199 #[.val (.int p1), .val (.long p2), .second, .val (.long p3), .second, .val (.long p4), .second, .val (.long p5), .second, .val (.int (0 : Int32)), .val (.ref b129), .val (.ref b131), .val (.ref b133), .val (.long (0 : Int64)), .second, .unset] [(.ref b139)]))
    refine own_step (fun t k => XS.astore X145.here hx rfl (hb hby at_199) rfl rfl (l' := #[.val (.int p1), .val (.long p2), .second, .val (.long p3), .second, .val (.long p4), .second, .val (.long p5), .second, .val (.int (0 : Int32)), .val (.ref b129), .val (.ref b131), .val (.ref b133), .val (.long (0 : Int64)), .second, .val (.ref b139)]) rfl k) ?_
    show own_Goes p e below _ (T145.setTop (mkF m 201 #[.val (.int p1), .val (.long p2), .second, .val (.long p3), .second, .val (.long p4), .second, .val (.long p5), .second, .val (.int (0 : Int32)), .val (.ref b129), .val (.ref b131), .val (.ref b133), .val (.long (0 : Int64)), .second, .val (.ref b139)] []))
    refine own_step (fun t k => XS.aload X145.here hx rfl (hb hby at_201) rfl rfl k) ?_
    show own_Goes p e below _ (T145.setTop (mkF m 203 #[.val (.int p1), .val (.long p2), .second, .val (.long p3), .second, .val (.long p4), .second, .val (.long p5), .second, .val (.int (0 : Int32)), .val (.ref b129), .val (.ref b131), .val (.ref b133), .val (.long (0 : Int64)), .second, .val (.ref b139)] [(.ref b139)]))
    obtain ⟨cq147, kq147, q147a, q147b, q147c⟩ := isOf hZ rfl f145_0
    obtain ⟨_, _, ⟨T147, L147, k147, n147⟩, -, X147, ⟨Lc147, hQ147, l147, y147, z147⟩, st147⟩ := X145.virtualBack hx (y := (⟨"com/example/concepta/concepta/store/OidSet$Rows", "blockCount", "()I"⟩ : MethodName)) (z := (⟨"com/example/concepta/concepta/store/OidSet$Rows", "blockCount", "()I"⟩ : MethodName)) hown (mvT hZ w27) (mvT hZ w28) (notFace_of_selects (args := #[]) (mvT hZ w30)) (mvT hZ w30) (mvT hZ w29) (by decide) (backOf (W := 0) (own_c0 l Z a0 hw [] b139 (b129) (b131) (b133) (k129) (k131) (k133) (([] : List Int64)) (([] : List Int32)) (([] : List Int32)) T145.heap n0 (Nat.le_trans (Nat.le_trans (Nat.le_trans (Nat.le_trans (Nat.le_trans (Nat.le_trans (Nat.le_trans Z0 E129.1) E131.1) E133.1) E139.1) E141.1) E143.1) K145c.1) f145_1 f145_2 f145_3 ((((((V129.ext E131).ext E133).ext E139).ext E141).ext E143).keep K145c (ninS ne_b129_b139 nin0)) (((((V131.ext E133).ext E139).ext E141).ext E143).keep K145c (ninS ne_b131_b139 nin0)) ((((V133.ext E139).ext E141).ext E143).keep K145c (ninS ne_b133_b139 nin0))) hZ w31 w5 (by decide) (by decide)) q147a q147c (g := (mkF m 203 #[.val (.int p1), .val (.long p2), .second, .val (.long p3), .second, .val (.long p4), .second, .val (.long p5), .second, .val (.int (0 : Int32)), .val (.ref b129), .val (.ref b131), .val (.ref b133), .val (.long (0 : Int64)), .second, .val (.ref b139)] [(.ref b139)])) rfl (by rw [hml]; rfl) (Steps.refl _) (argsL := []) (rest := []) (lenOf own_pd3 rfl) rfl (by show 2 * 0 + _ ≤ _; exact Nat.le_of_eq rfl) (hb hby at_203) (fun _ _ => ⟨rfl, rfl, (by decide : 6 + 0 ≤ _), (by decide : 7 + 0 ≤ _)⟩)
    dsimp only [Pt.U, Pt.locs, Pt.cells, Pt.slots] at X147 l147 y147 z147 st147 hQ147
    subst y147 z147
    obtain ⟨rfl, N147q, eh147⟩ := hQ147
    have N147 : Fr n0 L147 := by rw [l147]; exact Fr.app N145 N147q
    refine own_jump st147 ?_
    show own_Goes p e below _ (T147.setTop (mkF m 206 #[.val (.int p1), .val (.long p2), .second, .val (.long p3), .second, .val (.long p4), .second, .val (.long p5), .second, .val (.int (0 : Int32)), .val (.ref b129), .val (.ref b131), .val (.ref b133), .val (.long (0 : Int64)), .second, .val (.ref b139)] [(.int (0 : Int32))]))
    refine own_step (fun t k => XS.lload X147.here hx rfl (hb hby at_206) rfl k) ?_
    show own_Goes p e below _ (T147.setTop (mkF m 208 #[.val (.int p1), .val (.long p2), .second, .val (.long p3), .second, .val (.long p4), .second, .val (.long p5), .second, .val (.int (0 : Int32)), .val (.ref b129), .val (.ref b131), .val (.ref b133), .val (.long (0 : Int64)), .second, .val (.ref b139)] [(.long (0 : Int64)), (.int (0 : Int32))]))
    refine own_step (fun t k => XS.l2i X147.here hx rfl (hb hby at_208) rfl k) ?_
    show own_Goes p e below _ (T147.setTop (mkF m 209 #[.val (.int p1), .val (.long p2), .second, .val (.long p3), .second, .val (.long p4), .second, .val (.long p5), .second, .val (.int (0 : Int32)), .val (.ref b129), .val (.ref b131), .val (.ref b133), .val (.long (0 : Int64)), .second, .val (.ref b139)] [(.int ((0 : Int64).toInt32)), (.int (0 : Int32))]))
    refine own_step (S' := T147.setTop (mkF m 217 #[.val (.int p1), .val (.long p2), .second, .val (.long p3), .second, .val (.long p4), .second, .val (.long p5), .second, .val (.int (0 : Int32)), .val (.ref b129), .val (.ref b131), .val (.ref b133), .val (.long (0 : Int64)), .second, .val (.ref b139)] [(.int (if (0 : Int32) = ((0 : Int64).toInt32) then (1 : Int32) else (0 : Int32)))])) (fun t k => ?_) ?_
    · show Steps p.tables e below (T147.setTop (mkF m 209 #[.val (.int p1), .val (.long p2), .second, .val (.long p3), .second, .val (.long p4), .second, .val (.long p5), .second, .val (.int (0 : Int32)), .val (.ref b129), .val (.ref b131), .val (.ref b133), .val (.long (0 : Int64)), .second, .val (.ref b139)] [(.int ((0 : Int64).toInt32)), (.int (0 : Int32))])) _
      by_cases hc148 : (0 : Int32) = ((0 : Int64).toInt32)
      · --
        refine XS.icmpNo X147.here hx rfl (hb hby at_209) rfl (teq hc148).2 ?_
        show Steps p.tables e below (T147.setTop (mkF m 212 #[.val (.int p1), .val (.long p2), .second, .val (.long p3), .second, .val (.long p4), .second, .val (.long p5), .second, .val (.int (0 : Int32)), .val (.ref b129), .val (.ref b131), .val (.ref b133), .val (.long (0 : Int64)), .second, .val (.ref b139)] [])) _
        refine XS.iconst X147.here hx rfl (hb hby at_212) ?_
        show Steps p.tables e below (T147.setTop (mkF m 213 #[.val (.int p1), .val (.long p2), .second, .val (.long p3), .second, .val (.long p4), .second, .val (.long p5), .second, .val (.int (0 : Int32)), .val (.ref b129), .val (.ref b131), .val (.ref b133), .val (.long (0 : Int64)), .second, .val (.ref b139)] [(.int (1 : Int32))])) _
        refine XS.goto X147.here hx rfl (pc0 := 213) (pc' := 217) rfl (hb hby at_213) (by decide) (by decide) ?_
        show Steps p.tables e below (T147.setTop (mkF m 217 #[.val (.int p1), .val (.long p2), .second, .val (.long p3), .second, .val (.long p4), .second, .val (.long p5), .second, .val (.int (0 : Int32)), .val (.ref b129), .val (.ref b131), .val (.ref b133), .val (.long (0 : Int64)), .second, .val (.ref b139)] [(.int (1 : Int32))])) _
        simp only [if_pos hc148] at k
        exact k
      · --
        refine XS.icmpYes X147.here hx rfl (pc0 := 209) (pc' := 216) rfl (hb hby at_209) rfl (feq hc148).2 (by decide) (by decide) ?_
        show Steps p.tables e below (T147.setTop (mkF m 216 #[.val (.int p1), .val (.long p2), .second, .val (.long p3), .second, .val (.long p4), .second, .val (.long p5), .second, .val (.int (0 : Int32)), .val (.ref b129), .val (.ref b131), .val (.ref b133), .val (.long (0 : Int64)), .second, .val (.ref b139)] [])) _
        refine XS.iconst X147.here hx rfl (hb hby at_216) ?_
        show Steps p.tables e below (T147.setTop (mkF m 217 #[.val (.int p1), .val (.long p2), .second, .val (.long p3), .second, .val (.long p4), .second, .val (.long p5), .second, .val (.int (0 : Int32)), .val (.ref b129), .val (.ref b131), .val (.ref b133), .val (.long (0 : Int64)), .second, .val (.ref b139)] [(.int (0 : Int32))])) _
        simp only [if_neg hc148] at k
        exact k
    show own_Goes p e below _ (T147.setTop (mkF m 217 #[.val (.int p1), .val (.long p2), .second, .val (.long p3), .second, .val (.long p4), .second, .val (.long p5), .second, .val (.int (0 : Int32)), .val (.ref b129), .val (.ref b131), .val (.ref b133), .val (.long (0 : Int64)), .second, .val (.ref b139)] [(.int (if (0 : Int32) = ((0 : Int64).toInt32) then (1 : Int32) else (0 : Int32)))]))
    refine own_retL X147 hx hlk Bd.returns (hb hby at_217) (?_ : (if (0 : Int32) = ((0 : Int64).toInt32) then (1 : Int32) else (0 : Int32)) = 1) N147 (by decide) (by decide)
    exact own_plain0 p2 p3 p4 p5
  · --
    show own_Goes p e below _ (s₁.setTop (mkF m 8 #[.val (.int p1), .val (.long p2), .second, .val (.long p3), .second, .val (.long p4), .second, .val (.long p5), .second, .val (.int (1 : Int32)), .unset, .unset, .unset, .unset, .unset, .unset] []))
    refine own_step (fun t k => XS.iload X0.here hx rfl (hb hby at_8) rfl k) ?_
    show own_Goes p e below _ (s₁.setTop (mkF m 10 #[.val (.int p1), .val (.long p2), .second, .val (.long p3), .second, .val (.long p4), .second, .val (.long p5), .second, .val (.int (1 : Int32)), .unset, .unset, .unset, .unset, .unset, .unset] [(.int (1 : Int32))]))
    obtain ⟨T149, h149, k149, X149, e149, E149, A149, st149⟩ := newP (aty := .long) X0 hx hZ w1 e0 (g := (mkF m 10 #[.val (.int p1), .val (.long p2), .second, .val (.long p3), .second, .val (.long p4), .second, .val (.long p5), .second, .val (.int (1 : Int32)), .unset, .unset, .unset, .unset, .unset, .unset] [(.int (1 : Int32))])) rfl (hb hby at_10) rfl (by decide) (cap := 1) (by decide) (by decide) (by decide) (by decide)
    obtain ⟨b149, g149⟩ : ∃ z, z = h0.size := ⟨_, rfl⟩
    rw [← g149] at A149 st149
    have g_b149 : n0 ≤ b149 := Nat.le_trans Z0 (Nat.le_of_eq g149.symm)
    have sz_b149 : h0.size ≤ b149 := Nat.le_trans K0.1 (Nat.le_of_eq g149.symm)
    have V149 : Arv Z h149 b149 k149 .long (1 : Int32) (([(0 : Int64)] : List Int64).map Value.long) (Value.long (0 : Int64)) := own_newJ A149 (by decide) 1
    have K150 : Keep h0 h149 [] := K0.ext E149
    refine own_step st149 ?_
    show own_Goes p e below _ (T149.setTop (mkF m 12 #[.val (.int p1), .val (.long p2), .second, .val (.long p3), .second, .val (.long p4), .second, .val (.long p5), .second, .val (.int (1 : Int32)), .unset, .unset, .unset, .unset, .unset, .unset] [(.ref b149)]))
    refine own_step (fun t k => XS.astore X149.here hx rfl (hb hby at_12) rfl rfl (l' := #[.val (.int p1), .val (.long p2), .second, .val (.long p3), .second, .val (.long p4), .second, .val (.long p5), .second, .val (.int (1 : Int32)), .val (.ref b149), .unset, .unset, .unset, .unset, .unset]) rfl k) ?_
    show own_Goes p e below _ (T149.setTop (mkF m 14 #[.val (.int p1), .val (.long p2), .second, .val (.long p3), .second, .val (.long p4), .second, .val (.long p5), .second, .val (.int (1 : Int32)), .val (.ref b149), .unset, .unset, .unset, .unset, .unset] []))
    refine own_step (fun t k => XS.iload X149.here hx rfl (hb hby at_14) rfl k) ?_
    show own_Goes p e below _ (T149.setTop (mkF m 16 #[.val (.int p1), .val (.long p2), .second, .val (.long p3), .second, .val (.long p4), .second, .val (.long p5), .second, .val (.int (1 : Int32)), .val (.ref b149), .unset, .unset, .unset, .unset, .unset] [(.int (1 : Int32))]))
    obtain ⟨T151, h151, k151, X151, e151, E151, A151, st151⟩ := newP (aty := .int) X149 hx hZ w2 e149 (g := (mkF m 16 #[.val (.int p1), .val (.long p2), .second, .val (.long p3), .second, .val (.long p4), .second, .val (.long p5), .second, .val (.int (1 : Int32)), .val (.ref b149), .unset, .unset, .unset, .unset, .unset] [(.int (1 : Int32))])) rfl (hb hby at_16) rfl (by decide) (cap := 1) (by decide) (by decide) (by decide) (by decide)
    obtain ⟨b151, g151⟩ : ∃ z, z = h149.size := ⟨_, rfl⟩
    rw [← g151] at A151 st151
    have ne_b149_b151 : b149 ≠ b151 := Nat.ne_of_lt (Nat.lt_of_lt_of_le V149.lt (Nat.le_of_eq g151.symm))
    have g_b151 : n0 ≤ b151 := Nat.le_trans (Nat.le_trans Z0 E149.1) (Nat.le_of_eq g151.symm)
    have sz_b151 : h0.size ≤ b151 := Nat.le_trans K150.1 (Nat.le_of_eq g151.symm)
    have V151 : Arv Z h151 b151 k151 .int (1 : Int32) (([(0 : Int32)] : List Int32).map Value.int) (Value.int (0 : Int32)) := own_newI A151 (by decide) 1
    have K152 : Keep h0 h151 [] := K150.ext E151
    refine own_step st151 ?_
    show own_Goes p e below _ (T151.setTop (mkF m 18 #[.val (.int p1), .val (.long p2), .second, .val (.long p3), .second, .val (.long p4), .second, .val (.long p5), .second, .val (.int (1 : Int32)), .val (.ref b149), .unset, .unset, .unset, .unset, .unset] [(.ref b151)]))
    refine own_step (fun t k => XS.astore X151.here hx rfl (hb hby at_18) rfl rfl (l' := #[.val (.int p1), .val (.long p2), .second, .val (.long p3), .second, .val (.long p4), .second, .val (.long p5), .second, .val (.int (1 : Int32)), .val (.ref b149), .val (.ref b151), .unset, .unset, .unset, .unset]) rfl k) ?_
    show own_Goes p e below _ (T151.setTop (mkF m 20 #[.val (.int p1), .val (.long p2), .second, .val (.long p3), .second, .val (.long p4), .second, .val (.long p5), .second, .val (.int (1 : Int32)), .val (.ref b149), .val (.ref b151), .unset, .unset, .unset, .unset] []))
    refine own_step (fun t k => XS.iload X151.here hx rfl (hb hby at_20) rfl k) ?_
    show own_Goes p e below _ (T151.setTop (mkF m 22 #[.val (.int p1), .val (.long p2), .second, .val (.long p3), .second, .val (.long p4), .second, .val (.long p5), .second, .val (.int (1 : Int32)), .val (.ref b149), .val (.ref b151), .unset, .unset, .unset, .unset] [(.int (1 : Int32))]))
    obtain ⟨T153, h153, k153, X153, e153, E153, A153, st153⟩ := newP (aty := .int) X151 hx hZ w2 e151 (g := (mkF m 22 #[.val (.int p1), .val (.long p2), .second, .val (.long p3), .second, .val (.long p4), .second, .val (.long p5), .second, .val (.int (1 : Int32)), .val (.ref b149), .val (.ref b151), .unset, .unset, .unset, .unset] [(.int (1 : Int32))])) rfl (hb hby at_22) rfl (by decide) (cap := 1) (by decide) (by decide) (by decide) (by decide)
    obtain ⟨b153, g153⟩ : ∃ z, z = h151.size := ⟨_, rfl⟩
    rw [← g153] at A153 st153
    have ne_b149_b153 : b149 ≠ b153 := Nat.ne_of_lt (Nat.lt_of_lt_of_le (V149.ext E151).lt (Nat.le_of_eq g153.symm))
    have ne_b151_b153 : b151 ≠ b153 := Nat.ne_of_lt (Nat.lt_of_lt_of_le V151.lt (Nat.le_of_eq g153.symm))
    have g_b153 : n0 ≤ b153 := Nat.le_trans (Nat.le_trans (Nat.le_trans Z0 E149.1) E151.1) (Nat.le_of_eq g153.symm)
    have sz_b153 : h0.size ≤ b153 := Nat.le_trans K152.1 (Nat.le_of_eq g153.symm)
    have V153 : Arv Z h153 b153 k153 .int (1 : Int32) (([(0 : Int32)] : List Int32).map Value.int) (Value.int (0 : Int32)) := own_newI A153 (by decide) 1
    have K154 : Keep h0 h153 [] := K152.ext E153
    refine own_step st153 ?_
    show own_Goes p e below _ (T153.setTop (mkF m 24 #[.val (.int p1), .val (.long p2), .second, .val (.long p3), .second, .val (.long p4), .second, .val (.long p5), .second, .val (.int (1 : Int32)), .val (.ref b149), .val (.ref b151), .unset, .unset, .unset, .unset] [(.ref b153)]))
    refine own_step (fun t k => XS.astore X153.here hx rfl (hb hby at_24) rfl rfl (l' := #[.val (.int p1), .val (.long p2), .second, .val (.long p3), .second, .val (.long p4), .second, .val (.long p5), .second, .val (.int (1 : Int32)), .val (.ref b149), .val (.ref b151), .val (.ref b153), .unset, .unset, .unset]) rfl k) ?_
    show own_Goes p e below _ (T153.setTop (mkF m 26 #[.val (.int p1), .val (.long p2), .second, .val (.long p3), .second, .val (.long p4), .second, .val (.long p5), .second, .val (.int (1 : Int32)), .val (.ref b149), .val (.ref b151), .val (.ref b153), .unset, .unset, .unset] []))
    refine own_step (fun t k => XS.lconst X153.here hx rfl (hb hby at_26) k) ?_
    show own_Goes p e below _ (T153.setTop (mkF m 27 #[.val (.int p1), .val (.long p2), .second, .val (.long p3), .second, .val (.long p4), .second, .val (.long p5), .second, .val (.int (1 : Int32)), .val (.ref b149), .val (.ref b151), .val (.ref b153), .unset, .unset, .unset] [(.long (0 : Int64))]))
    refine own_step (fun t k => XS.lstore X153.here hx rfl (hb hby at_27) rfl (l' := #[.val (.int p1), .val (.long p2), .second, .val (.long p3), .second, .val (.long p4), .second, .val (.long p5), .second, .val (.int (1 : Int32)), .val (.ref b149), .val (.ref b151), .val (.ref b153), .val (.long (0 : Int64)), .second, .unset]) rfl k) ?_
    show own_Goes p e below _ (T153.setTop (mkF m 29 #[.val (.int p1), .val (.long p2), .second, .val (.long p3), .second, .val (.long p4), .second, .val (.long p5), .second, .val (.int (1 : Int32)), .val (.ref b149), .val (.ref b151), .val (.ref b153), .val (.long (0 : Int64)), .second, .unset] []))
    refine own_step (fun t k => XS.iload X153.here hx rfl (hb hby at_29) rfl k) ?_
    show own_Goes p e below _ (T153.setTop (mkF m 31 #[.val (.int p1), .val (.long p2), .second, .val (.long p3), .second, .val (.long p4), .second, .val (.long p5), .second, .val (.int (1 : Int32)), .val (.ref b149), .val (.ref b151), .val (.ref b153), .val (.long (0 : Int64)), .second, .unset] [(.int (1 : Int32))]))
    have hc155 : (0 : Int32) < (1 : Int32) := by decide
    refine own_step (fun t k => XS.ifNo X153.here hx rfl (hb hby at_31) rfl ((if0 _ _).trans (tlt hc155).2.2.2) k) ?_
    show own_Goes p e below _ (T153.setTop (mkF m 34 #[.val (.int p1), .val (.long p2), .second, .val (.long p3), .second, .val (.long p4), .second, .val (.long p5), .second, .val (.int (1 : Int32)), .val (.ref b149), .val (.ref b151), .val (.ref b153), .val (.long (0 : Int64)), .second, .unset] []))
    refine own_step (fun t k => XS.aload X153.here hx rfl (hb hby at_34) rfl rfl k) ?_
    show own_Goes p e below _ (T153.setTop (mkF m 36 #[.val (.int p1), .val (.long p2), .second, .val (.long p3), .second, .val (.long p4), .second, .val (.long p5), .second, .val (.int (1 : Int32)), .val (.ref b149), .val (.ref b151), .val (.ref b153), .val (.long (0 : Int64)), .second, .unset] [(.ref b149)]))
    refine own_step (fun t k => XS.iconst X153.here hx rfl (hb hby at_36) k) ?_
    show own_Goes p e below _ (T153.setTop (mkF m 37 #[.val (.int p1), .val (.long p2), .second, .val (.long p3), .second, .val (.long p4), .second, .val (.long p5), .second, .val (.int (1 : Int32)), .val (.ref b149), .val (.ref b151), .val (.ref b153), .val (.long (0 : Int64)), .second, .unset] [(.int (0 : Int32)), (.ref b149)]))
    refine own_step (fun t k => XS.lloadN X153.here hx rfl (hb hby at_37) rfl k) ?_
    show own_Goes p e below _ (T153.setTop (mkF m 38 #[.val (.int p1), .val (.long p2), .second, .val (.long p3), .second, .val (.long p4), .second, .val (.long p5), .second, .val (.int (1 : Int32)), .val (.ref b149), .val (.ref b151), .val (.ref b153), .val (.long (0 : Int64)), .second, .unset] [(.long p2), (.int (0 : Int32)), (.ref b149)]))
    obtain ⟨T156, h156, X156, e156, W156, V156, st156⟩ := own_lst X153 hx hZ e153 ((V149.ext E151).ext E153) (j := (0 : Int32)) ⟨by decide, by decide⟩ (0) rfl (Nat.le_of_ble_eq_true rfl) (g := (mkF m 38 #[.val (.int p1), .val (.long p2), .second, .val (.long p3), .second, .val (.long p4), .second, .val (.long p5), .second, .val (.int (1 : Int32)), .val (.ref b149), .val (.ref b151), .val (.ref b153), .val (.long (0 : Int64)), .second, .unset] [(.long p2), (.int (0 : Int32)), (.ref b149)])) rfl rfl (hb hby at_38)
    have V156 : Arv Z h156 b149 k149 .long (1 : Int32) (([p2] : List Int64).map Value.long) (Value.long 0) := V156
    have N156 := Fr.snoc X156 N0 g_b149
    have K157 : Keep h0 h156 [] := K154.wr W156 (Or.inr sz_b149)
    refine own_step st156 ?_
    show own_Goes p e below _ (T156.setTop (mkF m 39 #[.val (.int p1), .val (.long p2), .second, .val (.long p3), .second, .val (.long p4), .second, .val (.long p5), .second, .val (.int (1 : Int32)), .val (.ref b149), .val (.ref b151), .val (.ref b153), .val (.long (0 : Int64)), .second, .unset] []))
    refine own_step (fun t k => XS.aload X156.here hx rfl (hb hby at_39) rfl rfl k) ?_
    show own_Goes p e below _ (T156.setTop (mkF m 41 #[.val (.int p1), .val (.long p2), .second, .val (.long p3), .second, .val (.long p4), .second, .val (.long p5), .second, .val (.int (1 : Int32)), .val (.ref b149), .val (.ref b151), .val (.ref b153), .val (.long (0 : Int64)), .second, .unset] [(.ref b151)]))
    refine own_step (fun t k => XS.iconst X156.here hx rfl (hb hby at_41) k) ?_
    show own_Goes p e below _ (T156.setTop (mkF m 42 #[.val (.int p1), .val (.long p2), .second, .val (.long p3), .second, .val (.long p4), .second, .val (.long p5), .second, .val (.int (1 : Int32)), .val (.ref b149), .val (.ref b151), .val (.ref b153), .val (.long (0 : Int64)), .second, .unset] [(.int (0 : Int32)), (.ref b151)]))
    refine own_step (fun t k => XS.lloadN X156.here hx rfl (hb hby at_42) rfl k) ?_
    show own_Goes p e below _ (T156.setTop (mkF m 43 #[.val (.int p1), .val (.long p2), .second, .val (.long p3), .second, .val (.long p4), .second, .val (.long p5), .second, .val (.int (1 : Int32)), .val (.ref b149), .val (.ref b151), .val (.ref b153), .val (.long (0 : Int64)), .second, .unset] [(.long p2), (.int (0 : Int32)), (.ref b151)]))
    obtain ⟨_, _, ⟨T158, L158, k158, n158⟩, -, X158, ⟨Lc158, hQ158, l158, y158, z158⟩, st158⟩ := Jvm.LawKit.callS X156 hx (y := (⟨"com/example/concepta/concepta/store/RowsBlockCountPinLaw", "first", "(J)I"⟩ : MethodName)) hown (mvT hZ w32) (mvT hZ w33) (mvT hZ w34) (mvT hZ w35) (by decide) (backOf (W := 2) (own_b3 l Z a0 hw [] p2  h156 n0 (Nat.le_trans (Nat.le_trans (Nat.le_trans (Nat.le_trans Z0 E149.1) E151.1) E153.1) (Keep.of_wr W156).1) ) hZ w35 w34 (by decide) (by decide)) (g := (mkF m 43 #[.val (.int p1), .val (.long p2), .second, .val (.long p3), .second, .val (.long p4), .second, .val (.long p5), .second, .val (.int (1 : Int32)), .val (.ref b149), .val (.ref b151), .val (.ref b153), .val (.long (0 : Int64)), .second, .unset] [(.long p2), (.int (0 : Int32)), (.ref b151)])) rfl (by rw [hml]; rfl) (argsL := [(.long p2)]) (rest := [(.int (0 : Int32)), (.ref b151)]) (lenOf own_pd1 rfl) rfl (by show 2 * 0 + _ ≤ _; exact Nat.le_of_eq rfl) (hb hby at_43) (fun _ _ => ⟨rfl, e156, (by decide : 3 + 0 ≤ _), (by decide : 3 + 0 ≤ _)⟩)
    dsimp only [Pt.U, Pt.locs, Pt.cells, Pt.slots] at X158 l158 y158 z158 st158 hQ158
    subst y158 z158
    obtain ⟨rfl, N158q, eh158⟩ := hQ158
    have N158 : Fr n0 L158 := by rw [l158]; exact Fr.app N156 N158q
    refine own_step st158 ?_
    show own_Goes p e below _ (T158.setTop (mkF m 46 #[.val (.int p1), .val (.long p2), .second, .val (.long p3), .second, .val (.long p4), .second, .val (.long p5), .second, .val (.int (1 : Int32)), .val (.ref b149), .val (.ref b151), .val (.ref b153), .val (.long (0 : Int64)), .second, .unset] [(.int (own_first p2)), (.int (0 : Int32)), (.ref b151)]))
    obtain ⟨T159, h159, X159, e159, W159, V159, st159⟩ := own_ist X158 hx hZ eh158 ((V151.ext E153).other W156 (Ne.symm ne_b149_b151)) (j := (0 : Int32)) ⟨by decide, by decide⟩ (0) rfl (Nat.le_of_ble_eq_true rfl) (g := (mkF m 46 #[.val (.int p1), .val (.long p2), .second, .val (.long p3), .second, .val (.long p4), .second, .val (.long p5), .second, .val (.int (1 : Int32)), .val (.ref b149), .val (.ref b151), .val (.ref b153), .val (.long (0 : Int64)), .second, .unset] [(.int (own_first p2)), (.int (0 : Int32)), (.ref b151)])) rfl rfl (hb hby at_46)
    have V159 : Arv Z h159 b151 k151 .int (1 : Int32) (([(own_first p2)] : List Int32).map Value.int) (Value.int 0) := V159
    have N159 := Fr.snoc X159 N158 g_b151
    have K160 : Keep h0 h159 [] := K157.wr W159 (Or.inr sz_b151)
    refine own_step st159 ?_
    show own_Goes p e below _ (T159.setTop (mkF m 47 #[.val (.int p1), .val (.long p2), .second, .val (.long p3), .second, .val (.long p4), .second, .val (.long p5), .second, .val (.int (1 : Int32)), .val (.ref b149), .val (.ref b151), .val (.ref b153), .val (.long (0 : Int64)), .second, .unset] []))
    refine own_step (fun t k => XS.aload X159.here hx rfl (hb hby at_47) rfl rfl k) ?_
    show own_Goes p e below _ (T159.setTop (mkF m 49 #[.val (.int p1), .val (.long p2), .second, .val (.long p3), .second, .val (.long p4), .second, .val (.long p5), .second, .val (.int (1 : Int32)), .val (.ref b149), .val (.ref b151), .val (.ref b153), .val (.long (0 : Int64)), .second, .unset] [(.ref b153)]))
    refine own_step (fun t k => XS.iconst X159.here hx rfl (hb hby at_49) k) ?_
    show own_Goes p e below _ (T159.setTop (mkF m 50 #[.val (.int p1), .val (.long p2), .second, .val (.long p3), .second, .val (.long p4), .second, .val (.long p5), .second, .val (.int (1 : Int32)), .val (.ref b149), .val (.ref b151), .val (.ref b153), .val (.long (0 : Int64)), .second, .unset] [(.int (0 : Int32)), (.ref b153)]))
    refine own_step (fun t k => XS.lloadN X159.here hx rfl (hb hby at_50) rfl k) ?_
    show own_Goes p e below _ (T159.setTop (mkF m 51 #[.val (.int p1), .val (.long p2), .second, .val (.long p3), .second, .val (.long p4), .second, .val (.long p5), .second, .val (.int (1 : Int32)), .val (.ref b149), .val (.ref b151), .val (.ref b153), .val (.long (0 : Int64)), .second, .unset] [(.long p2), (.int (0 : Int32)), (.ref b153)]))
    obtain ⟨_, _, ⟨T161, L161, k161, n161⟩, -, X161, ⟨Lc161, hQ161, l161, y161, z161⟩, st161⟩ := Jvm.LawKit.callS X159 hx (y := (⟨"com/example/concepta/concepta/store/RowsBlockCountPinLaw", "last", "(J)I"⟩ : MethodName)) hown (mvT hZ w36) (mvT hZ w37) (mvT hZ w34) (mvT hZ w38) (by decide) (backOf (W := 2) (own_b4 l Z a0 hw [] p2  h159 n0 (Nat.le_trans (Nat.le_trans (Nat.le_trans (Nat.le_trans (Nat.le_trans Z0 E149.1) E151.1) E153.1) (Keep.of_wr W156).1) (Keep.of_wr W159).1) ) hZ w38 w34 (by decide) (by decide)) (g := (mkF m 51 #[.val (.int p1), .val (.long p2), .second, .val (.long p3), .second, .val (.long p4), .second, .val (.long p5), .second, .val (.int (1 : Int32)), .val (.ref b149), .val (.ref b151), .val (.ref b153), .val (.long (0 : Int64)), .second, .unset] [(.long p2), (.int (0 : Int32)), (.ref b153)])) rfl (by rw [hml]; rfl) (argsL := [(.long p2)]) (rest := [(.int (0 : Int32)), (.ref b153)]) (lenOf own_pd1 rfl) rfl (by show 2 * 0 + _ ≤ _; exact Nat.le_of_eq rfl) (hb hby at_51) (fun _ _ => ⟨rfl, e159, (by decide : 3 + 0 ≤ _), (by decide : 3 + 0 ≤ _)⟩)
    dsimp only [Pt.U, Pt.locs, Pt.cells, Pt.slots] at X161 l161 y161 z161 st161 hQ161
    subst y161 z161
    obtain ⟨rfl, N161q, eh161⟩ := hQ161
    have N161 : Fr n0 L161 := by rw [l161]; exact Fr.app N159 N161q
    refine own_step st161 ?_
    show own_Goes p e below _ (T161.setTop (mkF m 54 #[.val (.int p1), .val (.long p2), .second, .val (.long p3), .second, .val (.long p4), .second, .val (.long p5), .second, .val (.int (1 : Int32)), .val (.ref b149), .val (.ref b151), .val (.ref b153), .val (.long (0 : Int64)), .second, .unset] [(.int (own_last p2)), (.int (0 : Int32)), (.ref b153)]))
    obtain ⟨T162, h162, X162, e162, W162, V162, st162⟩ := own_ist X161 hx hZ eh161 ((V153.other W156 (Ne.symm ne_b149_b153)).other W159 (Ne.symm ne_b151_b153)) (j := (0 : Int32)) ⟨by decide, by decide⟩ (0) rfl (Nat.le_of_ble_eq_true rfl) (g := (mkF m 54 #[.val (.int p1), .val (.long p2), .second, .val (.long p3), .second, .val (.long p4), .second, .val (.long p5), .second, .val (.int (1 : Int32)), .val (.ref b149), .val (.ref b151), .val (.ref b153), .val (.long (0 : Int64)), .second, .unset] [(.int (own_last p2)), (.int (0 : Int32)), (.ref b153)])) rfl rfl (hb hby at_54)
    have V162 : Arv Z h162 b153 k153 .int (1 : Int32) (([(own_last p2)] : List Int32).map Value.int) (Value.int 0) := V162
    have N162 := Fr.snoc X162 N161 g_b153
    have K163 : Keep h0 h162 [] := K160.wr W162 (Or.inr sz_b153)
    refine own_step st162 ?_
    show own_Goes p e below _ (T162.setTop (mkF m 55 #[.val (.int p1), .val (.long p2), .second, .val (.long p3), .second, .val (.long p4), .second, .val (.long p5), .second, .val (.int (1 : Int32)), .val (.ref b149), .val (.ref b151), .val (.ref b153), .val (.long (0 : Int64)), .second, .unset] []))
    refine own_step (fun t k => XS.lload X162.here hx rfl (hb hby at_55) rfl k) ?_
    show own_Goes p e below _ (T162.setTop (mkF m 57 #[.val (.int p1), .val (.long p2), .second, .val (.long p3), .second, .val (.long p4), .second, .val (.long p5), .second, .val (.int (1 : Int32)), .val (.ref b149), .val (.ref b151), .val (.ref b153), .val (.long (0 : Int64)), .second, .unset] [(.long (0 : Int64))]))
    refine own_step (fun t k => XS.lloadN X162.here hx rfl (hb hby at_57) rfl k) ?_
    show own_Goes p e below _ (T162.setTop (mkF m 58 #[.val (.int p1), .val (.long p2), .second, .val (.long p3), .second, .val (.long p4), .second, .val (.long p5), .second, .val (.int (1 : Int32)), .val (.ref b149), .val (.ref b151), .val (.ref b153), .val (.long (0 : Int64)), .second, .unset] [(.long p2), (.long (0 : Int64))]))
    obtain ⟨_, _, ⟨T164, L164, k164, n164⟩, -, X164, ⟨Lc164, hQ164, l164, y164, z164⟩, st164⟩ := Jvm.LawKit.callS X162 hx (y := (⟨"com/example/concepta/concepta/store/RowsBlockCountPinLaw", "span", "(J)J"⟩ : MethodName)) hown (mvT hZ w39) (mvT hZ w40) (mvT hZ w34) (mvT hZ w41) (by decide) (backOf (W := 2) (own_b5 l Z a0 hw [] p2  h162 n0 (Nat.le_trans (Nat.le_trans (Nat.le_trans (Nat.le_trans (Nat.le_trans (Nat.le_trans Z0 E149.1) E151.1) E153.1) (Keep.of_wr W156).1) (Keep.of_wr W159).1) (Keep.of_wr W162).1) ) hZ w41 w34 (by decide) (by decide)) (g := (mkF m 58 #[.val (.int p1), .val (.long p2), .second, .val (.long p3), .second, .val (.long p4), .second, .val (.long p5), .second, .val (.int (1 : Int32)), .val (.ref b149), .val (.ref b151), .val (.ref b153), .val (.long (0 : Int64)), .second, .unset] [(.long p2), (.long (0 : Int64))])) rfl (by rw [hml]; rfl) (argsL := [(.long p2)]) (rest := [(.long (0 : Int64))]) (lenOf own_pd4 rfl) rfl (by show 2 * 0 + _ ≤ _; exact Nat.le_of_eq rfl) (hb hby at_58) (fun _ _ => ⟨rfl, e162, (by decide : 3 + 0 ≤ _), (by decide : 3 + 0 ≤ _)⟩)
    dsimp only [Pt.U, Pt.locs, Pt.cells, Pt.slots] at X164 l164 y164 z164 st164 hQ164
    subst y164 z164
    obtain ⟨rfl, N164q, eh164⟩ := hQ164
    have N164 : Fr n0 L164 := by rw [l164]; exact Fr.app N162 N164q
    refine own_step st164 ?_
    show own_Goes p e below _ (T164.setTop (mkF m 61 #[.val (.int p1), .val (.long p2), .second, .val (.long p3), .second, .val (.long p4), .second, .val (.long p5), .second, .val (.int (1 : Int32)), .val (.ref b149), .val (.ref b151), .val (.ref b153), .val (.long (0 : Int64)), .second, .unset] [(.long (own_span p2)), (.long (0 : Int64))]))
    refine own_step (fun t k => XS.ladd X164.here hx rfl (hb hby at_61) rfl k) ?_
    show own_Goes p e below _ (T164.setTop (mkF m 62 #[.val (.int p1), .val (.long p2), .second, .val (.long p3), .second, .val (.long p4), .second, .val (.long p5), .second, .val (.int (1 : Int32)), .val (.ref b149), .val (.ref b151), .val (.ref b153), .val (.long (0 : Int64)), .second, .unset] [(.long ((0 : Int64) + (own_span p2)))]))
    refine own_step (fun t k => XS.lstore X164.here hx rfl (hb hby at_62) rfl (l' := #[.val (.int p1), .val (.long p2), .second, .val (.long p3), .second, .val (.long p4), .second, .val (.long p5), .second, .val (.int (1 : Int32)), .val (.ref b149), .val (.ref b151), .val (.ref b153), .val (.long ((0 : Int64) + (own_span p2))), .second, .unset]) rfl k) ?_
    show own_Goes p e below _ (T164.setTop (mkF m 64 #[.val (.int p1), .val (.long p2), .second, .val (.long p3), .second, .val (.long p4), .second, .val (.long p5), .second, .val (.int (1 : Int32)), .val (.ref b149), .val (.ref b151), .val (.ref b153), .val (.long ((0 : Int64) + (own_span p2))), .second, .unset] []))
    refine own_step (fun t k => XS.iload X164.here hx rfl (hb hby at_64) rfl k) ?_
    show own_Goes p e below _ (T164.setTop (mkF m 66 #[.val (.int p1), .val (.long p2), .second, .val (.long p3), .second, .val (.long p4), .second, .val (.long p5), .second, .val (.int (1 : Int32)), .val (.ref b149), .val (.ref b151), .val (.ref b153), .val (.long ((0 : Int64) + (own_span p2))), .second, .unset] [(.int (1 : Int32))]))
    refine own_step (fun t k => XS.iconst X164.here hx rfl (hb hby at_66) k) ?_
    show own_Goes p e below _ (T164.setTop (mkF m 67 #[.val (.int p1), .val (.long p2), .second, .val (.long p3), .second, .val (.long p4), .second, .val (.long p5), .second, .val (.int (1 : Int32)), .val (.ref b149), .val (.ref b151), .val (.ref b153), .val (.long ((0 : Int64) + (own_span p2))), .second, .unset] [(.int (1 : Int32)), (.int (1 : Int32))]))
    have hc165 : ¬ ((1 : Int32) < (1 : Int32)) := by decide
    refine own_step (fun t k => XS.icmpYes X164.here hx rfl (pc0 := 67) (pc' := 100) rfl (hb hby at_67) rfl (flt hc165).2.2.2 (by decide) (by decide) k) ?_
    show own_Goes p e below _ (T164.setTop (mkF m 100 #[.val (.int p1), .val (.long p2), .second, .val (.long p3), .second, .val (.long p4), .second, .val (.long p5), .second, .val (.int (1 : Int32)), .val (.ref b149), .val (.ref b151), .val (.ref b153), .val (.long ((0 : Int64) + (own_span p2))), .second, .unset] []))
    refine own_step (fun t k => XS.iload X164.here hx rfl (hb hby at_100) rfl k) ?_
    show own_Goes p e below _ (T164.setTop (mkF m 102 #[.val (.int p1), .val (.long p2), .second, .val (.long p3), .second, .val (.long p4), .second, .val (.long p5), .second, .val (.int (1 : Int32)), .val (.ref b149), .val (.ref b151), .val (.ref b153), .val (.long ((0 : Int64) + (own_span p2))), .second, .unset] [(.int (1 : Int32))]))
    refine own_step (fun t k => XS.iconst X164.here hx rfl (hb hby at_102) k) ?_
    show own_Goes p e below _ (T164.setTop (mkF m 103 #[.val (.int p1), .val (.long p2), .second, .val (.long p3), .second, .val (.long p4), .second, .val (.long p5), .second, .val (.int (1 : Int32)), .val (.ref b149), .val (.ref b151), .val (.ref b153), .val (.long ((0 : Int64) + (own_span p2))), .second, .unset] [(.int (2 : Int32)), (.int (1 : Int32))]))
    have hc166 : ¬ ((2 : Int32) < (1 : Int32)) := by decide
    refine own_step (fun t k => XS.icmpYes X164.here hx rfl (pc0 := 103) (pc' := 140) rfl (hb hby at_103) rfl (flt hc166).2.2.2 (by decide) (by decide) k) ?_
    show own_Goes p e below _ (T164.setTop (mkF m 140 #[.val (.int p1), .val (.long p2), .second, .val (.long p3), .second, .val (.long p4), .second, .val (.long p5), .second, .val (.int (1 : Int32)), .val (.ref b149), .val (.ref b151), .val (.ref b153), .val (.long ((0 : Int64) + (own_span p2))), .second, .unset] []))
    refine own_step (fun t k => XS.iload X164.here hx rfl (hb hby at_140) rfl k) ?_
    show own_Goes p e below _ (T164.setTop (mkF m 142 #[.val (.int p1), .val (.long p2), .second, .val (.long p3), .second, .val (.long p4), .second, .val (.long p5), .second, .val (.int (1 : Int32)), .val (.ref b149), .val (.ref b151), .val (.ref b153), .val (.long ((0 : Int64) + (own_span p2))), .second, .unset] [(.int (1 : Int32))]))
    refine own_step (fun t k => XS.iconst X164.here hx rfl (hb hby at_142) k) ?_
    show own_Goes p e below _ (T164.setTop (mkF m 143 #[.val (.int p1), .val (.long p2), .second, .val (.long p3), .second, .val (.long p4), .second, .val (.long p5), .second, .val (.int (1 : Int32)), .val (.ref b149), .val (.ref b151), .val (.ref b153), .val (.long ((0 : Int64) + (own_span p2))), .second, .unset] [(.int (3 : Int32)), (.int (1 : Int32))]))
    have hc167 : ¬ ((3 : Int32) < (1 : Int32)) := by decide
    refine own_step (fun t k => XS.icmpYes X164.here hx rfl (pc0 := 143) (pc' := 180) rfl (hb hby at_143) rfl (flt hc167).2.2.2 (by decide) (by decide) k) ?_
    show own_Goes p e below _ (T164.setTop (mkF m 180 #[.val (.int p1), .val (.long p2), .second, .val (.long p3), .second, .val (.long p4), .second, .val (.long p5), .second, .val (.int (1 : Int32)), .val (.ref b149), .val (.ref b151), .val (.ref b153), .val (.long ((0 : Int64) + (own_span p2))), .second, .unset] []))
    obtain ⟨T168, h168, X168, e168, E168, A168, D168, -, st168⟩ := newO X164 hx hZ hown w3 w4 w5 eh164 (g := (mkF m 180 #[.val (.int p1), .val (.long p2), .second, .val (.long p3), .second, .val (.long p4), .second, .val (.long p5), .second, .val (.int (1 : Int32)), .val (.ref b149), .val (.ref b151), .val (.ref b153), .val (.long ((0 : Int64) + (own_span p2))), .second, .unset] [])) rfl (hb hby at_180) (by decide) (by decide)
    obtain ⟨b168, g168⟩ : ∃ z, z = h162.size := ⟨_, rfl⟩
    rw [← g168] at A168 D168 st168
    have ne_b149_b168 : b149 ≠ b168 := Nat.ne_of_lt (Nat.lt_of_lt_of_le ((V156.other W159 ne_b149_b151).other W162 ne_b149_b153).lt (Nat.le_of_eq g168.symm))
    have ne_b151_b168 : b151 ≠ b168 := Nat.ne_of_lt (Nat.lt_of_lt_of_le (V159.other W162 ne_b151_b153).lt (Nat.le_of_eq g168.symm))
    have ne_b153_b168 : b153 ≠ b168 := Nat.ne_of_lt (Nat.lt_of_lt_of_le V162.lt (Nat.le_of_eq g168.symm))
    have g_b168 : n0 ≤ b168 := Nat.le_trans (Nat.le_trans (Nat.le_trans (Nat.le_trans (Nat.le_trans (Nat.le_trans (Nat.le_trans Z0 E149.1) E151.1) E153.1) (Keep.of_wr W156).1) (Keep.of_wr W159).1) (Keep.of_wr W162).1) (Nat.le_of_eq g168.symm)
    have sz_b168 : h0.size ≤ b168 := Nat.le_trans K163.1 (Nat.le_of_eq g168.symm)
    have K169 : Keep h0 h168 [] := K163.ext E168
    have F_regions_b168 : Fld Z h168 b168 "com/example/concepta/concepta/store/OidSet$Rows" "regions" "[J" .null := D168 (Or.inr w18) (ty := (.array .long)) (by decide)
    have F_firsts_b168 : Fld Z h168 b168 "com/example/concepta/concepta/store/OidSet$Rows" "firsts" "[I" .null := D168 (Or.inr w20) (ty := (.array .int)) (by decide)
    have F_lasts_b168 : Fld Z h168 b168 "com/example/concepta/concepta/store/OidSet$Rows" "lasts" "[I" .null := D168 (Or.inr w22) (ty := (.array .int)) (by decide)
    have F_blocks_b168 : Fld Z h168 b168 "com/example/concepta/concepta/store/OidSet$Rows" "blocks" "[J" .null := D168 (Or.inr w24) (ty := (.array .long)) (by decide)
    have F_bits_b168 : Fld Z h168 b168 "com/example/concepta/concepta/store/OidSet$Rows" "bits" "[J" .null := D168 (Or.inr w26) (ty := (.array .long)) (by decide)
    refine own_step st168 ?_
    show own_Goes p e below _ (T168.setTop (mkF m 183 #[.val (.int p1), .val (.long p2), .second, .val (.long p3), .second, .val (.long p4), .second, .val (.long p5), .second, .val (.int (1 : Int32)), .val (.ref b149), .val (.ref b151), .val (.ref b153), .val (.long ((0 : Int64) + (own_span p2))), .second, .unset] [(.ref b168)]))
    refine own_step (fun t k => XS.dup X168.here hx rfl (hb hby at_183) rfl rfl k) ?_
    show own_Goes p e below _ (T168.setTop (mkF m 184 #[.val (.int p1), .val (.long p2), .second, .val (.long p3), .second, .val (.long p4), .second, .val (.long p5), .second, .val (.int (1 : Int32)), .val (.ref b149), .val (.ref b151), .val (.ref b153), .val (.long ((0 : Int64) + (own_span p2))), .second, .unset] [(.ref b168), (.ref b168)]))
    refine own_step (fun t k => XS.aload X168.here hx rfl (hb hby at_184) rfl rfl k) ?_
    show own_Goes p e below _ (T168.setTop (mkF m 186 #[.val (.int p1), .val (.long p2), .second, .val (.long p3), .second, .val (.long p4), .second, .val (.long p5), .second, .val (.int (1 : Int32)), .val (.ref b149), .val (.ref b151), .val (.ref b153), .val (.long ((0 : Int64) + (own_span p2))), .second, .unset] [(.ref b149), (.ref b168), (.ref b168)]))
    refine own_step (fun t k => XS.aload X168.here hx rfl (hb hby at_186) rfl rfl k) ?_
    show own_Goes p e below _ (T168.setTop (mkF m 188 #[.val (.int p1), .val (.long p2), .second, .val (.long p3), .second, .val (.long p4), .second, .val (.long p5), .second, .val (.int (1 : Int32)), .val (.ref b149), .val (.ref b151), .val (.ref b153), .val (.long ((0 : Int64) + (own_span p2))), .second, .unset] [(.ref b151), (.ref b149), (.ref b168), (.ref b168)]))
    refine own_step (fun t k => XS.aload X168.here hx rfl (hb hby at_188) rfl rfl k) ?_
    show own_Goes p e below _ (T168.setTop (mkF m 190 #[.val (.int p1), .val (.long p2), .second, .val (.long p3), .second, .val (.long p4), .second, .val (.long p5), .second, .val (.int (1 : Int32)), .val (.ref b149), .val (.ref b151), .val (.ref b153), .val (.long ((0 : Int64) + (own_span p2))), .second, .unset] [(.ref b153), (.ref b151), (.ref b149), (.ref b168), (.ref b168)]))
    refine own_step (fun t k => XS.iconst X168.here hx rfl (hb hby at_190) k) ?_
    show own_Goes p e below _ (T168.setTop (mkF m 191 #[.val (.int p1), .val (.long p2), .second, .val (.long p3), .second, .val (.long p4), .second, .val (.long p5), .second, .val (.int (1 : Int32)), .val (.ref b149), .val (.ref b151), .val (.ref b153), .val (.long ((0 : Int64) + (own_span p2))), .second, .unset] [(.int (1 : Int32)), (.ref b153), (.ref b151), (.ref b149), (.ref b168), (.ref b168)]))
    obtain ⟨T170, h170, k170, X170, e170, E170, A170, st170⟩ := newP (aty := .long) X168 hx hZ w1 e168 (g := (mkF m 191 #[.val (.int p1), .val (.long p2), .second, .val (.long p3), .second, .val (.long p4), .second, .val (.long p5), .second, .val (.int (1 : Int32)), .val (.ref b149), .val (.ref b151), .val (.ref b153), .val (.long ((0 : Int64) + (own_span p2))), .second, .unset] [(.int (1 : Int32)), (.ref b153), (.ref b151), (.ref b149), (.ref b168), (.ref b168)])) rfl (hb hby at_191) rfl (by decide) (cap := 1) (by decide) (by decide) (by decide) (by decide)
    obtain ⟨b170, g170⟩ : ∃ z, z = h168.size := ⟨_, rfl⟩
    rw [← g170] at A170 st170
    have ne_b149_b170 : b149 ≠ b170 := Nat.ne_of_lt (Nat.lt_of_lt_of_le (((V156.other W159 ne_b149_b151).other W162 ne_b149_b153).ext E168).lt (Nat.le_of_eq g170.symm))
    have ne_b151_b170 : b151 ≠ b170 := Nat.ne_of_lt (Nat.lt_of_lt_of_le ((V159.other W162 ne_b151_b153).ext E168).lt (Nat.le_of_eq g170.symm))
    have ne_b153_b170 : b153 ≠ b170 := Nat.ne_of_lt (Nat.lt_of_lt_of_le (V162.ext E168).lt (Nat.le_of_eq g170.symm))
    have ne_b168_b170 : b168 ≠ b170 := Nat.ne_of_lt (Nat.lt_of_lt_of_le A168.lt (Nat.le_of_eq g170.symm))
    have g_b170 : n0 ≤ b170 := Nat.le_trans (Nat.le_trans (Nat.le_trans (Nat.le_trans (Nat.le_trans (Nat.le_trans (Nat.le_trans (Nat.le_trans Z0 E149.1) E151.1) E153.1) (Keep.of_wr W156).1) (Keep.of_wr W159).1) (Keep.of_wr W162).1) E168.1) (Nat.le_of_eq g170.symm)
    have sz_b170 : h0.size ≤ b170 := Nat.le_trans K169.1 (Nat.le_of_eq g170.symm)
    have V170 : Arv Z h170 b170 k170 .long (1 : Int32) (([(0 : Int64)] : List Int64).map Value.long) (Value.long (0 : Int64)) := own_newJ A170 (by decide) 1
    have K171 : Keep h0 h170 [] := K169.ext E170
    refine own_step st170 ?_
    show own_Goes p e below _ (T170.setTop (mkF m 193 #[.val (.int p1), .val (.long p2), .second, .val (.long p3), .second, .val (.long p4), .second, .val (.long p5), .second, .val (.int (1 : Int32)), .val (.ref b149), .val (.ref b151), .val (.ref b153), .val (.long ((0 : Int64) + (own_span p2))), .second, .unset] [(.ref b170), (.ref b153), (.ref b151), (.ref b149), (.ref b168), (.ref b168)]))
    refine own_step (fun t k => XS.iconst X170.here hx rfl (hb hby at_193) k) ?_
    show own_Goes p e below _ (T170.setTop (mkF m 194 #[.val (.int p1), .val (.long p2), .second, .val (.long p3), .second, .val (.long p4), .second, .val (.long p5), .second, .val (.int (1 : Int32)), .val (.ref b149), .val (.ref b151), .val (.ref b153), .val (.long ((0 : Int64) + (own_span p2))), .second, .unset] [(.int (1 : Int32)), (.ref b170), (.ref b153), (.ref b151), (.ref b149), (.ref b168), (.ref b168)]))
    obtain ⟨T172, h172, k172, X172, e172, E172, A172, st172⟩ := newP (aty := .long) X170 hx hZ w1 e170 (g := (mkF m 194 #[.val (.int p1), .val (.long p2), .second, .val (.long p3), .second, .val (.long p4), .second, .val (.long p5), .second, .val (.int (1 : Int32)), .val (.ref b149), .val (.ref b151), .val (.ref b153), .val (.long ((0 : Int64) + (own_span p2))), .second, .unset] [(.int (1 : Int32)), (.ref b170), (.ref b153), (.ref b151), (.ref b149), (.ref b168), (.ref b168)])) rfl (hb hby at_194) rfl (by decide) (cap := 1) (by decide) (by decide) (by decide) (by decide)
    obtain ⟨b172, g172⟩ : ∃ z, z = h170.size := ⟨_, rfl⟩
    rw [← g172] at A172 st172
    have ne_b149_b172 : b149 ≠ b172 := Nat.ne_of_lt (Nat.lt_of_lt_of_le ((((V156.other W159 ne_b149_b151).other W162 ne_b149_b153).ext E168).ext E170).lt (Nat.le_of_eq g172.symm))
    have ne_b151_b172 : b151 ≠ b172 := Nat.ne_of_lt (Nat.lt_of_lt_of_le (((V159.other W162 ne_b151_b153).ext E168).ext E170).lt (Nat.le_of_eq g172.symm))
    have ne_b153_b172 : b153 ≠ b172 := Nat.ne_of_lt (Nat.lt_of_lt_of_le ((V162.ext E168).ext E170).lt (Nat.le_of_eq g172.symm))
    have ne_b168_b172 : b168 ≠ b172 := Nat.ne_of_lt (Nat.lt_of_lt_of_le (A168.ext E170).lt (Nat.le_of_eq g172.symm))
    have ne_b170_b172 : b170 ≠ b172 := Nat.ne_of_lt (Nat.lt_of_lt_of_le V170.lt (Nat.le_of_eq g172.symm))
    have g_b172 : n0 ≤ b172 := Nat.le_trans (Nat.le_trans (Nat.le_trans (Nat.le_trans (Nat.le_trans (Nat.le_trans (Nat.le_trans (Nat.le_trans (Nat.le_trans Z0 E149.1) E151.1) E153.1) (Keep.of_wr W156).1) (Keep.of_wr W159).1) (Keep.of_wr W162).1) E168.1) E170.1) (Nat.le_of_eq g172.symm)
    have sz_b172 : h0.size ≤ b172 := Nat.le_trans K171.1 (Nat.le_of_eq g172.symm)
    have V172 : Arv Z h172 b172 k172 .long (1 : Int32) (([(0 : Int64)] : List Int64).map Value.long) (Value.long (0 : Int64)) := own_newJ A172 (by decide) 1
    have K173 : Keep h0 h172 [] := K171.ext E172
    refine own_step st172 ?_
    show own_Goes p e below _ (T172.setTop (mkF m 196 #[.val (.int p1), .val (.long p2), .second, .val (.long p3), .second, .val (.long p4), .second, .val (.long p5), .second, .val (.int (1 : Int32)), .val (.ref b149), .val (.ref b151), .val (.ref b153), .val (.long ((0 : Int64) + (own_span p2))), .second, .unset] [(.ref b172), (.ref b170), (.ref b153), (.ref b151), (.ref b149), (.ref b168), (.ref b168)]))
    obtain ⟨_, _, ⟨T174, L174, k174, n174⟩, -, X174, ⟨Lc174, hQ174, l174, y174, z174⟩, st174⟩ := X172.specialBack hx (y := (⟨"com/example/concepta/concepta/store/OidSet$Rows", "<init>", "([J[I[I[J[J)V"⟩ : MethodName)) rfl hown (mvT hZ w6) (mvT hZ w7) (mvT hZ w8) (by decide) (backOf (W := 1) (own_b2 l Z a0 hw [] b168 b149 b151 b153 b170 b172 (.null) (.null) (.null) (.null) (.null) h172 n0 (Nat.le_trans (Nat.le_trans (Nat.le_trans (Nat.le_trans (Nat.le_trans (Nat.le_trans (Nat.le_trans (Nat.le_trans (Nat.le_trans Z0 E149.1) E151.1) E153.1) (Keep.of_wr W156).1) (Keep.of_wr W159).1) (Keep.of_wr W162).1) E168.1) E170.1) E172.1) ((A168.ext E170).ext E172) g_b168 ((F_regions_b168.ext E170).ext E172) ((F_firsts_b168.ext E170).ext E172) ((F_lasts_b168.ext E170).ext E172) ((F_blocks_b168.ext E170).ext E172) ((F_bits_b168.ext E170).ext E172)) hZ w8 w5 (by decide) (by decide)) (g := (mkF m 196 #[.val (.int p1), .val (.long p2), .second, .val (.long p3), .second, .val (.long p4), .second, .val (.long p5), .second, .val (.int (1 : Int32)), .val (.ref b149), .val (.ref b151), .val (.ref b153), .val (.long ((0 : Int64) + (own_span p2))), .second, .unset] [(.ref b172), (.ref b170), (.ref b153), (.ref b151), (.ref b149), (.ref b168), (.ref b168)])) rfl (by rw [hml]; rfl) (Steps.refl _) (a := b168) (argsL := [(.ref b149), (.ref b151), (.ref b153), (.ref b170), (.ref b172)]) (rest := [(.ref b168)]) (lenOf own_pd2 rfl) rfl (by show 2 * 0 + _ ≤ _; exact Nat.le_of_eq rfl) (hb hby at_196) (fun _ _ => ⟨rfl, e172, (by decide : 6 + 0 ≤ _), (by decide : 10 + 0 ≤ _)⟩)
    dsimp only [Pt.U, Pt.locs, Pt.cells, Pt.slots] at X174 l174 y174 z174 st174 hQ174
    subst y174 z174
    obtain ⟨rfl, N174q, K174c, f174_0, f174_1, f174_2, f174_3⟩ := hQ174
    have N174 : Fr n0 L174 := by rw [l174]; exact Fr.app N164 N174q
    refine own_jump st174 ?_
    have K175 : Keep h0 T174.heap [] := K173.trans K174c (allS (Or.inr sz_b168) all0)
    show own_Goes p e below _ (T174.setTop (mkF m 199 #[.val (.int p1), .val (.long p2), .second, .val (.long p3), .second, .val (.long p4), .second, .val (.long p5), .second, .val (.int (1 : Int32)), .val (.ref b149), .val (.ref b151), .val (.ref b153), .val (.long ((0 : Int64) + (own_span p2))), .second, .unset] [(.ref b168)]))
    refine own_step (fun t k => XS.astore X174.here hx rfl (hb hby at_199) rfl rfl (l' := #[.val (.int p1), .val (.long p2), .second, .val (.long p3), .second, .val (.long p4), .second, .val (.long p5), .second, .val (.int (1 : Int32)), .val (.ref b149), .val (.ref b151), .val (.ref b153), .val (.long ((0 : Int64) + (own_span p2))), .second, .val (.ref b168)]) rfl k) ?_
    show own_Goes p e below _ (T174.setTop (mkF m 201 #[.val (.int p1), .val (.long p2), .second, .val (.long p3), .second, .val (.long p4), .second, .val (.long p5), .second, .val (.int (1 : Int32)), .val (.ref b149), .val (.ref b151), .val (.ref b153), .val (.long ((0 : Int64) + (own_span p2))), .second, .val (.ref b168)] []))
    refine own_step (fun t k => XS.aload X174.here hx rfl (hb hby at_201) rfl rfl k) ?_
    show own_Goes p e below _ (T174.setTop (mkF m 203 #[.val (.int p1), .val (.long p2), .second, .val (.long p3), .second, .val (.long p4), .second, .val (.long p5), .second, .val (.int (1 : Int32)), .val (.ref b149), .val (.ref b151), .val (.ref b153), .val (.long ((0 : Int64) + (own_span p2))), .second, .val (.ref b168)] [(.ref b168)]))
    obtain ⟨cq176, kq176, q176a, q176b, q176c⟩ := isOf hZ rfl f174_0
    obtain ⟨_, _, ⟨T176, L176, k176, n176⟩, -, X176, ⟨Lc176, hQ176, l176, y176, z176⟩, st176⟩ := X174.virtualBack hx (y := (⟨"com/example/concepta/concepta/store/OidSet$Rows", "blockCount", "()I"⟩ : MethodName)) (z := (⟨"com/example/concepta/concepta/store/OidSet$Rows", "blockCount", "()I"⟩ : MethodName)) hown (mvT hZ w27) (mvT hZ w28) (notFace_of_selects (args := #[]) (mvT hZ w30)) (mvT hZ w30) (mvT hZ w29) (by decide) (backOf (W := 0) (own_c1 l Z a0 hw [] b168 (b149) (b151) (b153) (k149) (k151) (k153) (([p2] : List Int64)) (([(own_first p2)] : List Int32)) (([(own_last p2)] : List Int32)) T174.heap n0 (Nat.le_trans (Nat.le_trans (Nat.le_trans (Nat.le_trans (Nat.le_trans (Nat.le_trans (Nat.le_trans (Nat.le_trans (Nat.le_trans (Nat.le_trans Z0 E149.1) E151.1) E153.1) (Keep.of_wr W156).1) (Keep.of_wr W159).1) (Keep.of_wr W162).1) E168.1) E170.1) E172.1) K174c.1) f174_1 f174_2 f174_3 ((((((V156.other W159 ne_b149_b151).other W162 ne_b149_b153).ext E168).ext E170).ext E172).keep K174c (ninS ne_b149_b168 nin0)) (((((V159.other W162 ne_b151_b153).ext E168).ext E170).ext E172).keep K174c (ninS ne_b151_b168 nin0)) ((((V162.ext E168).ext E170).ext E172).keep K174c (ninS ne_b153_b168 nin0))) hZ w31 w5 (by decide) (by decide)) q176a q176c (g := (mkF m 203 #[.val (.int p1), .val (.long p2), .second, .val (.long p3), .second, .val (.long p4), .second, .val (.long p5), .second, .val (.int (1 : Int32)), .val (.ref b149), .val (.ref b151), .val (.ref b153), .val (.long ((0 : Int64) + (own_span p2))), .second, .val (.ref b168)] [(.ref b168)])) rfl (by rw [hml]; rfl) (Steps.refl _) (argsL := []) (rest := []) (lenOf own_pd3 rfl) rfl (by show 2 * 0 + _ ≤ _; exact Nat.le_of_eq rfl) (hb hby at_203) (fun _ _ => ⟨rfl, rfl, (by decide : 6 + 0 ≤ _), (by decide : 10 + 0 ≤ _)⟩)
    dsimp only [Pt.U, Pt.locs, Pt.cells, Pt.slots] at X176 l176 y176 z176 st176 hQ176
    subst y176 z176
    obtain ⟨rfl, N176q, eh176⟩ := hQ176
    have N176 : Fr n0 L176 := by rw [l176]; exact Fr.app N174 N176q
    refine own_jump st176 ?_
    show own_Goes p e below _ (T176.setTop (mkF m 206 #[.val (.int p1), .val (.long p2), .second, .val (.long p3), .second, .val (.long p4), .second, .val (.long p5), .second, .val (.int (1 : Int32)), .val (.ref b149), .val (.ref b151), .val (.ref b153), .val (.long ((0 : Int64) + (own_span p2))), .second, .val (.ref b168)] [(.int ((0 : Int32) + (((([(own_last p2)] : List Int32).getD (0 : Int32).toNatClampNeg 0) - (([(own_first p2)] : List Int32).getD (0 : Int32).toNatClampNeg 0)) + (1 : Int32))))]))
    refine own_step (fun t k => XS.lload X176.here hx rfl (hb hby at_206) rfl k) ?_
    show own_Goes p e below _ (T176.setTop (mkF m 208 #[.val (.int p1), .val (.long p2), .second, .val (.long p3), .second, .val (.long p4), .second, .val (.long p5), .second, .val (.int (1 : Int32)), .val (.ref b149), .val (.ref b151), .val (.ref b153), .val (.long ((0 : Int64) + (own_span p2))), .second, .val (.ref b168)] [(.long ((0 : Int64) + (own_span p2))), (.int ((0 : Int32) + (((([(own_last p2)] : List Int32).getD (0 : Int32).toNatClampNeg 0) - (([(own_first p2)] : List Int32).getD (0 : Int32).toNatClampNeg 0)) + (1 : Int32))))]))
    refine own_step (fun t k => XS.l2i X176.here hx rfl (hb hby at_208) rfl k) ?_
    show own_Goes p e below _ (T176.setTop (mkF m 209 #[.val (.int p1), .val (.long p2), .second, .val (.long p3), .second, .val (.long p4), .second, .val (.long p5), .second, .val (.int (1 : Int32)), .val (.ref b149), .val (.ref b151), .val (.ref b153), .val (.long ((0 : Int64) + (own_span p2))), .second, .val (.ref b168)] [(.int (((0 : Int64) + (own_span p2)).toInt32)), (.int ((0 : Int32) + (((([(own_last p2)] : List Int32).getD (0 : Int32).toNatClampNeg 0) - (([(own_first p2)] : List Int32).getD (0 : Int32).toNatClampNeg 0)) + (1 : Int32))))]))
    refine own_step (S' := T176.setTop (mkF m 217 #[.val (.int p1), .val (.long p2), .second, .val (.long p3), .second, .val (.long p4), .second, .val (.long p5), .second, .val (.int (1 : Int32)), .val (.ref b149), .val (.ref b151), .val (.ref b153), .val (.long ((0 : Int64) + (own_span p2))), .second, .val (.ref b168)] [(.int (if ((0 : Int32) + (((([(own_last p2)] : List Int32).getD (0 : Int32).toNatClampNeg 0) - (([(own_first p2)] : List Int32).getD (0 : Int32).toNatClampNeg 0)) + (1 : Int32))) = (((0 : Int64) + (own_span p2)).toInt32) then (1 : Int32) else (0 : Int32)))])) (fun t k => ?_) ?_
    · show Steps p.tables e below (T176.setTop (mkF m 209 #[.val (.int p1), .val (.long p2), .second, .val (.long p3), .second, .val (.long p4), .second, .val (.long p5), .second, .val (.int (1 : Int32)), .val (.ref b149), .val (.ref b151), .val (.ref b153), .val (.long ((0 : Int64) + (own_span p2))), .second, .val (.ref b168)] [(.int (((0 : Int64) + (own_span p2)).toInt32)), (.int ((0 : Int32) + (((([(own_last p2)] : List Int32).getD (0 : Int32).toNatClampNeg 0) - (([(own_first p2)] : List Int32).getD (0 : Int32).toNatClampNeg 0)) + (1 : Int32))))])) _
      by_cases hc177 : ((0 : Int32) + (((([(own_last p2)] : List Int32).getD (0 : Int32).toNatClampNeg 0) - (([(own_first p2)] : List Int32).getD (0 : Int32).toNatClampNeg 0)) + (1 : Int32))) = (((0 : Int64) + (own_span p2)).toInt32)
      · --
        refine XS.icmpNo X176.here hx rfl (hb hby at_209) rfl (teq hc177).2 ?_
        show Steps p.tables e below (T176.setTop (mkF m 212 #[.val (.int p1), .val (.long p2), .second, .val (.long p3), .second, .val (.long p4), .second, .val (.long p5), .second, .val (.int (1 : Int32)), .val (.ref b149), .val (.ref b151), .val (.ref b153), .val (.long ((0 : Int64) + (own_span p2))), .second, .val (.ref b168)] [])) _
        refine XS.iconst X176.here hx rfl (hb hby at_212) ?_
        show Steps p.tables e below (T176.setTop (mkF m 213 #[.val (.int p1), .val (.long p2), .second, .val (.long p3), .second, .val (.long p4), .second, .val (.long p5), .second, .val (.int (1 : Int32)), .val (.ref b149), .val (.ref b151), .val (.ref b153), .val (.long ((0 : Int64) + (own_span p2))), .second, .val (.ref b168)] [(.int (1 : Int32))])) _
        refine XS.goto X176.here hx rfl (pc0 := 213) (pc' := 217) rfl (hb hby at_213) (by decide) (by decide) ?_
        show Steps p.tables e below (T176.setTop (mkF m 217 #[.val (.int p1), .val (.long p2), .second, .val (.long p3), .second, .val (.long p4), .second, .val (.long p5), .second, .val (.int (1 : Int32)), .val (.ref b149), .val (.ref b151), .val (.ref b153), .val (.long ((0 : Int64) + (own_span p2))), .second, .val (.ref b168)] [(.int (1 : Int32))])) _
        simp only [if_pos hc177] at k
        exact k
      · --
        refine XS.icmpYes X176.here hx rfl (pc0 := 209) (pc' := 216) rfl (hb hby at_209) rfl (feq hc177).2 (by decide) (by decide) ?_
        show Steps p.tables e below (T176.setTop (mkF m 216 #[.val (.int p1), .val (.long p2), .second, .val (.long p3), .second, .val (.long p4), .second, .val (.long p5), .second, .val (.int (1 : Int32)), .val (.ref b149), .val (.ref b151), .val (.ref b153), .val (.long ((0 : Int64) + (own_span p2))), .second, .val (.ref b168)] [])) _
        refine XS.iconst X176.here hx rfl (hb hby at_216) ?_
        show Steps p.tables e below (T176.setTop (mkF m 217 #[.val (.int p1), .val (.long p2), .second, .val (.long p3), .second, .val (.long p4), .second, .val (.long p5), .second, .val (.int (1 : Int32)), .val (.ref b149), .val (.ref b151), .val (.ref b153), .val (.long ((0 : Int64) + (own_span p2))), .second, .val (.ref b168)] [(.int (0 : Int32))])) _
        simp only [if_neg hc177] at k
        exact k
    show own_Goes p e below _ (T176.setTop (mkF m 217 #[.val (.int p1), .val (.long p2), .second, .val (.long p3), .second, .val (.long p4), .second, .val (.long p5), .second, .val (.int (1 : Int32)), .val (.ref b149), .val (.ref b151), .val (.ref b153), .val (.long ((0 : Int64) + (own_span p2))), .second, .val (.ref b168)] [(.int (if ((0 : Int32) + (((([(own_last p2)] : List Int32).getD (0 : Int32).toNatClampNeg 0) - (([(own_first p2)] : List Int32).getD (0 : Int32).toNatClampNeg 0)) + (1 : Int32))) = (((0 : Int64) + (own_span p2)).toInt32) then (1 : Int32) else (0 : Int32)))]))
    refine own_retL X176 hx hlk Bd.returns (hb hby at_217) (?_ : (if ((0 : Int32) + (((([(own_last p2)] : List Int32).getD (0 : Int32).toNatClampNeg 0) - (([(own_first p2)] : List Int32).getD (0 : Int32).toNatClampNeg 0)) + (1 : Int32))) = (((0 : Int64) + (own_span p2)).toInt32) then (1 : Int32) else (0 : Int32)) = 1) N176 (by decide) (by decide)
    exact own_plain1 p2 p3 p4 p5
  · --
    show own_Goes p e below _ (s₁.setTop (mkF m 8 #[.val (.int p1), .val (.long p2), .second, .val (.long p3), .second, .val (.long p4), .second, .val (.long p5), .second, .val (.int (2 : Int32)), .unset, .unset, .unset, .unset, .unset, .unset] []))
    refine own_step (fun t k => XS.iload X0.here hx rfl (hb hby at_8) rfl k) ?_
    show own_Goes p e below _ (s₁.setTop (mkF m 10 #[.val (.int p1), .val (.long p2), .second, .val (.long p3), .second, .val (.long p4), .second, .val (.long p5), .second, .val (.int (2 : Int32)), .unset, .unset, .unset, .unset, .unset, .unset] [(.int (2 : Int32))]))
    obtain ⟨T178, h178, k178, X178, e178, E178, A178, st178⟩ := newP (aty := .long) X0 hx hZ w1 e0 (g := (mkF m 10 #[.val (.int p1), .val (.long p2), .second, .val (.long p3), .second, .val (.long p4), .second, .val (.long p5), .second, .val (.int (2 : Int32)), .unset, .unset, .unset, .unset, .unset, .unset] [(.int (2 : Int32))])) rfl (hb hby at_10) rfl (by decide) (cap := 2) (by decide) (by decide) (by decide) (by decide)
    obtain ⟨b178, g178⟩ : ∃ z, z = h0.size := ⟨_, rfl⟩
    rw [← g178] at A178 st178
    have g_b178 : n0 ≤ b178 := Nat.le_trans Z0 (Nat.le_of_eq g178.symm)
    have sz_b178 : h0.size ≤ b178 := Nat.le_trans K0.1 (Nat.le_of_eq g178.symm)
    have V178 : Arv Z h178 b178 k178 .long (2 : Int32) (([(0 : Int64), (0 : Int64)] : List Int64).map Value.long) (Value.long (0 : Int64)) := own_newJ A178 (by decide) 2
    have K179 : Keep h0 h178 [] := K0.ext E178
    refine own_step st178 ?_
    show own_Goes p e below _ (T178.setTop (mkF m 12 #[.val (.int p1), .val (.long p2), .second, .val (.long p3), .second, .val (.long p4), .second, .val (.long p5), .second, .val (.int (2 : Int32)), .unset, .unset, .unset, .unset, .unset, .unset] [(.ref b178)]))
    refine own_step (fun t k => XS.astore X178.here hx rfl (hb hby at_12) rfl rfl (l' := #[.val (.int p1), .val (.long p2), .second, .val (.long p3), .second, .val (.long p4), .second, .val (.long p5), .second, .val (.int (2 : Int32)), .val (.ref b178), .unset, .unset, .unset, .unset, .unset]) rfl k) ?_
    show own_Goes p e below _ (T178.setTop (mkF m 14 #[.val (.int p1), .val (.long p2), .second, .val (.long p3), .second, .val (.long p4), .second, .val (.long p5), .second, .val (.int (2 : Int32)), .val (.ref b178), .unset, .unset, .unset, .unset, .unset] []))
    refine own_step (fun t k => XS.iload X178.here hx rfl (hb hby at_14) rfl k) ?_
    show own_Goes p e below _ (T178.setTop (mkF m 16 #[.val (.int p1), .val (.long p2), .second, .val (.long p3), .second, .val (.long p4), .second, .val (.long p5), .second, .val (.int (2 : Int32)), .val (.ref b178), .unset, .unset, .unset, .unset, .unset] [(.int (2 : Int32))]))
    obtain ⟨T180, h180, k180, X180, e180, E180, A180, st180⟩ := newP (aty := .int) X178 hx hZ w2 e178 (g := (mkF m 16 #[.val (.int p1), .val (.long p2), .second, .val (.long p3), .second, .val (.long p4), .second, .val (.long p5), .second, .val (.int (2 : Int32)), .val (.ref b178), .unset, .unset, .unset, .unset, .unset] [(.int (2 : Int32))])) rfl (hb hby at_16) rfl (by decide) (cap := 2) (by decide) (by decide) (by decide) (by decide)
    obtain ⟨b180, g180⟩ : ∃ z, z = h178.size := ⟨_, rfl⟩
    rw [← g180] at A180 st180
    have ne_b178_b180 : b178 ≠ b180 := Nat.ne_of_lt (Nat.lt_of_lt_of_le V178.lt (Nat.le_of_eq g180.symm))
    have g_b180 : n0 ≤ b180 := Nat.le_trans (Nat.le_trans Z0 E178.1) (Nat.le_of_eq g180.symm)
    have sz_b180 : h0.size ≤ b180 := Nat.le_trans K179.1 (Nat.le_of_eq g180.symm)
    have V180 : Arv Z h180 b180 k180 .int (2 : Int32) (([(0 : Int32), (0 : Int32)] : List Int32).map Value.int) (Value.int (0 : Int32)) := own_newI A180 (by decide) 2
    have K181 : Keep h0 h180 [] := K179.ext E180
    refine own_step st180 ?_
    show own_Goes p e below _ (T180.setTop (mkF m 18 #[.val (.int p1), .val (.long p2), .second, .val (.long p3), .second, .val (.long p4), .second, .val (.long p5), .second, .val (.int (2 : Int32)), .val (.ref b178), .unset, .unset, .unset, .unset, .unset] [(.ref b180)]))
    refine own_step (fun t k => XS.astore X180.here hx rfl (hb hby at_18) rfl rfl (l' := #[.val (.int p1), .val (.long p2), .second, .val (.long p3), .second, .val (.long p4), .second, .val (.long p5), .second, .val (.int (2 : Int32)), .val (.ref b178), .val (.ref b180), .unset, .unset, .unset, .unset]) rfl k) ?_
    show own_Goes p e below _ (T180.setTop (mkF m 20 #[.val (.int p1), .val (.long p2), .second, .val (.long p3), .second, .val (.long p4), .second, .val (.long p5), .second, .val (.int (2 : Int32)), .val (.ref b178), .val (.ref b180), .unset, .unset, .unset, .unset] []))
    refine own_step (fun t k => XS.iload X180.here hx rfl (hb hby at_20) rfl k) ?_
    show own_Goes p e below _ (T180.setTop (mkF m 22 #[.val (.int p1), .val (.long p2), .second, .val (.long p3), .second, .val (.long p4), .second, .val (.long p5), .second, .val (.int (2 : Int32)), .val (.ref b178), .val (.ref b180), .unset, .unset, .unset, .unset] [(.int (2 : Int32))]))
    obtain ⟨T182, h182, k182, X182, e182, E182, A182, st182⟩ := newP (aty := .int) X180 hx hZ w2 e180 (g := (mkF m 22 #[.val (.int p1), .val (.long p2), .second, .val (.long p3), .second, .val (.long p4), .second, .val (.long p5), .second, .val (.int (2 : Int32)), .val (.ref b178), .val (.ref b180), .unset, .unset, .unset, .unset] [(.int (2 : Int32))])) rfl (hb hby at_22) rfl (by decide) (cap := 2) (by decide) (by decide) (by decide) (by decide)
    obtain ⟨b182, g182⟩ : ∃ z, z = h180.size := ⟨_, rfl⟩
    rw [← g182] at A182 st182
    have ne_b178_b182 : b178 ≠ b182 := Nat.ne_of_lt (Nat.lt_of_lt_of_le (V178.ext E180).lt (Nat.le_of_eq g182.symm))
    have ne_b180_b182 : b180 ≠ b182 := Nat.ne_of_lt (Nat.lt_of_lt_of_le V180.lt (Nat.le_of_eq g182.symm))
    have g_b182 : n0 ≤ b182 := Nat.le_trans (Nat.le_trans (Nat.le_trans Z0 E178.1) E180.1) (Nat.le_of_eq g182.symm)
    have sz_b182 : h0.size ≤ b182 := Nat.le_trans K181.1 (Nat.le_of_eq g182.symm)
    have V182 : Arv Z h182 b182 k182 .int (2 : Int32) (([(0 : Int32), (0 : Int32)] : List Int32).map Value.int) (Value.int (0 : Int32)) := own_newI A182 (by decide) 2
    have K183 : Keep h0 h182 [] := K181.ext E182
    refine own_step st182 ?_
    show own_Goes p e below _ (T182.setTop (mkF m 24 #[.val (.int p1), .val (.long p2), .second, .val (.long p3), .second, .val (.long p4), .second, .val (.long p5), .second, .val (.int (2 : Int32)), .val (.ref b178), .val (.ref b180), .unset, .unset, .unset, .unset] [(.ref b182)]))
    refine own_step (fun t k => XS.astore X182.here hx rfl (hb hby at_24) rfl rfl (l' := #[.val (.int p1), .val (.long p2), .second, .val (.long p3), .second, .val (.long p4), .second, .val (.long p5), .second, .val (.int (2 : Int32)), .val (.ref b178), .val (.ref b180), .val (.ref b182), .unset, .unset, .unset]) rfl k) ?_
    show own_Goes p e below _ (T182.setTop (mkF m 26 #[.val (.int p1), .val (.long p2), .second, .val (.long p3), .second, .val (.long p4), .second, .val (.long p5), .second, .val (.int (2 : Int32)), .val (.ref b178), .val (.ref b180), .val (.ref b182), .unset, .unset, .unset] []))
    refine own_step (fun t k => XS.lconst X182.here hx rfl (hb hby at_26) k) ?_
    show own_Goes p e below _ (T182.setTop (mkF m 27 #[.val (.int p1), .val (.long p2), .second, .val (.long p3), .second, .val (.long p4), .second, .val (.long p5), .second, .val (.int (2 : Int32)), .val (.ref b178), .val (.ref b180), .val (.ref b182), .unset, .unset, .unset] [(.long (0 : Int64))]))
    refine own_step (fun t k => XS.lstore X182.here hx rfl (hb hby at_27) rfl (l' := #[.val (.int p1), .val (.long p2), .second, .val (.long p3), .second, .val (.long p4), .second, .val (.long p5), .second, .val (.int (2 : Int32)), .val (.ref b178), .val (.ref b180), .val (.ref b182), .val (.long (0 : Int64)), .second, .unset]) rfl k) ?_
    show own_Goes p e below _ (T182.setTop (mkF m 29 #[.val (.int p1), .val (.long p2), .second, .val (.long p3), .second, .val (.long p4), .second, .val (.long p5), .second, .val (.int (2 : Int32)), .val (.ref b178), .val (.ref b180), .val (.ref b182), .val (.long (0 : Int64)), .second, .unset] []))
    refine own_step (fun t k => XS.iload X182.here hx rfl (hb hby at_29) rfl k) ?_
    show own_Goes p e below _ (T182.setTop (mkF m 31 #[.val (.int p1), .val (.long p2), .second, .val (.long p3), .second, .val (.long p4), .second, .val (.long p5), .second, .val (.int (2 : Int32)), .val (.ref b178), .val (.ref b180), .val (.ref b182), .val (.long (0 : Int64)), .second, .unset] [(.int (2 : Int32))]))
    have hc184 : (0 : Int32) < (2 : Int32) := by decide
    refine own_step (fun t k => XS.ifNo X182.here hx rfl (hb hby at_31) rfl ((if0 _ _).trans (tlt hc184).2.2.2) k) ?_
    show own_Goes p e below _ (T182.setTop (mkF m 34 #[.val (.int p1), .val (.long p2), .second, .val (.long p3), .second, .val (.long p4), .second, .val (.long p5), .second, .val (.int (2 : Int32)), .val (.ref b178), .val (.ref b180), .val (.ref b182), .val (.long (0 : Int64)), .second, .unset] []))
    refine own_step (fun t k => XS.aload X182.here hx rfl (hb hby at_34) rfl rfl k) ?_
    show own_Goes p e below _ (T182.setTop (mkF m 36 #[.val (.int p1), .val (.long p2), .second, .val (.long p3), .second, .val (.long p4), .second, .val (.long p5), .second, .val (.int (2 : Int32)), .val (.ref b178), .val (.ref b180), .val (.ref b182), .val (.long (0 : Int64)), .second, .unset] [(.ref b178)]))
    refine own_step (fun t k => XS.iconst X182.here hx rfl (hb hby at_36) k) ?_
    show own_Goes p e below _ (T182.setTop (mkF m 37 #[.val (.int p1), .val (.long p2), .second, .val (.long p3), .second, .val (.long p4), .second, .val (.long p5), .second, .val (.int (2 : Int32)), .val (.ref b178), .val (.ref b180), .val (.ref b182), .val (.long (0 : Int64)), .second, .unset] [(.int (0 : Int32)), (.ref b178)]))
    refine own_step (fun t k => XS.lloadN X182.here hx rfl (hb hby at_37) rfl k) ?_
    show own_Goes p e below _ (T182.setTop (mkF m 38 #[.val (.int p1), .val (.long p2), .second, .val (.long p3), .second, .val (.long p4), .second, .val (.long p5), .second, .val (.int (2 : Int32)), .val (.ref b178), .val (.ref b180), .val (.ref b182), .val (.long (0 : Int64)), .second, .unset] [(.long p2), (.int (0 : Int32)), (.ref b178)]))
    obtain ⟨T185, h185, X185, e185, W185, V185, st185⟩ := own_lst X182 hx hZ e182 ((V178.ext E180).ext E182) (j := (0 : Int32)) ⟨by decide, by decide⟩ (0) rfl (Nat.le_of_ble_eq_true rfl) (g := (mkF m 38 #[.val (.int p1), .val (.long p2), .second, .val (.long p3), .second, .val (.long p4), .second, .val (.long p5), .second, .val (.int (2 : Int32)), .val (.ref b178), .val (.ref b180), .val (.ref b182), .val (.long (0 : Int64)), .second, .unset] [(.long p2), (.int (0 : Int32)), (.ref b178)])) rfl rfl (hb hby at_38)
    have V185 : Arv Z h185 b178 k178 .long (2 : Int32) (([p2, (0 : Int64)] : List Int64).map Value.long) (Value.long 0) := V185
    have N185 := Fr.snoc X185 N0 g_b178
    have K186 : Keep h0 h185 [] := K183.wr W185 (Or.inr sz_b178)
    refine own_step st185 ?_
    show own_Goes p e below _ (T185.setTop (mkF m 39 #[.val (.int p1), .val (.long p2), .second, .val (.long p3), .second, .val (.long p4), .second, .val (.long p5), .second, .val (.int (2 : Int32)), .val (.ref b178), .val (.ref b180), .val (.ref b182), .val (.long (0 : Int64)), .second, .unset] []))
    refine own_step (fun t k => XS.aload X185.here hx rfl (hb hby at_39) rfl rfl k) ?_
    show own_Goes p e below _ (T185.setTop (mkF m 41 #[.val (.int p1), .val (.long p2), .second, .val (.long p3), .second, .val (.long p4), .second, .val (.long p5), .second, .val (.int (2 : Int32)), .val (.ref b178), .val (.ref b180), .val (.ref b182), .val (.long (0 : Int64)), .second, .unset] [(.ref b180)]))
    refine own_step (fun t k => XS.iconst X185.here hx rfl (hb hby at_41) k) ?_
    show own_Goes p e below _ (T185.setTop (mkF m 42 #[.val (.int p1), .val (.long p2), .second, .val (.long p3), .second, .val (.long p4), .second, .val (.long p5), .second, .val (.int (2 : Int32)), .val (.ref b178), .val (.ref b180), .val (.ref b182), .val (.long (0 : Int64)), .second, .unset] [(.int (0 : Int32)), (.ref b180)]))
    refine own_step (fun t k => XS.lloadN X185.here hx rfl (hb hby at_42) rfl k) ?_
    show own_Goes p e below _ (T185.setTop (mkF m 43 #[.val (.int p1), .val (.long p2), .second, .val (.long p3), .second, .val (.long p4), .second, .val (.long p5), .second, .val (.int (2 : Int32)), .val (.ref b178), .val (.ref b180), .val (.ref b182), .val (.long (0 : Int64)), .second, .unset] [(.long p2), (.int (0 : Int32)), (.ref b180)]))
    obtain ⟨_, _, ⟨T187, L187, k187, n187⟩, -, X187, ⟨Lc187, hQ187, l187, y187, z187⟩, st187⟩ := Jvm.LawKit.callS X185 hx (y := (⟨"com/example/concepta/concepta/store/RowsBlockCountPinLaw", "first", "(J)I"⟩ : MethodName)) hown (mvT hZ w32) (mvT hZ w33) (mvT hZ w34) (mvT hZ w35) (by decide) (backOf (W := 2) (own_b3 l Z a0 hw [] p2  h185 n0 (Nat.le_trans (Nat.le_trans (Nat.le_trans (Nat.le_trans Z0 E178.1) E180.1) E182.1) (Keep.of_wr W185).1) ) hZ w35 w34 (by decide) (by decide)) (g := (mkF m 43 #[.val (.int p1), .val (.long p2), .second, .val (.long p3), .second, .val (.long p4), .second, .val (.long p5), .second, .val (.int (2 : Int32)), .val (.ref b178), .val (.ref b180), .val (.ref b182), .val (.long (0 : Int64)), .second, .unset] [(.long p2), (.int (0 : Int32)), (.ref b180)])) rfl (by rw [hml]; rfl) (argsL := [(.long p2)]) (rest := [(.int (0 : Int32)), (.ref b180)]) (lenOf own_pd1 rfl) rfl (by show 2 * 0 + _ ≤ _; exact Nat.le_of_eq rfl) (hb hby at_43) (fun _ _ => ⟨rfl, e185, (by decide : 3 + 0 ≤ _), (by decide : 6 + 0 ≤ _)⟩)
    dsimp only [Pt.U, Pt.locs, Pt.cells, Pt.slots] at X187 l187 y187 z187 st187 hQ187
    subst y187 z187
    obtain ⟨rfl, N187q, eh187⟩ := hQ187
    have N187 : Fr n0 L187 := by rw [l187]; exact Fr.app N185 N187q
    refine own_step st187 ?_
    show own_Goes p e below _ (T187.setTop (mkF m 46 #[.val (.int p1), .val (.long p2), .second, .val (.long p3), .second, .val (.long p4), .second, .val (.long p5), .second, .val (.int (2 : Int32)), .val (.ref b178), .val (.ref b180), .val (.ref b182), .val (.long (0 : Int64)), .second, .unset] [(.int (own_first p2)), (.int (0 : Int32)), (.ref b180)]))
    obtain ⟨T188, h188, X188, e188, W188, V188, st188⟩ := own_ist X187 hx hZ eh187 ((V180.ext E182).other W185 (Ne.symm ne_b178_b180)) (j := (0 : Int32)) ⟨by decide, by decide⟩ (0) rfl (Nat.le_of_ble_eq_true rfl) (g := (mkF m 46 #[.val (.int p1), .val (.long p2), .second, .val (.long p3), .second, .val (.long p4), .second, .val (.long p5), .second, .val (.int (2 : Int32)), .val (.ref b178), .val (.ref b180), .val (.ref b182), .val (.long (0 : Int64)), .second, .unset] [(.int (own_first p2)), (.int (0 : Int32)), (.ref b180)])) rfl rfl (hb hby at_46)
    have V188 : Arv Z h188 b180 k180 .int (2 : Int32) (([(own_first p2), (0 : Int32)] : List Int32).map Value.int) (Value.int 0) := V188
    have N188 := Fr.snoc X188 N187 g_b180
    have K189 : Keep h0 h188 [] := K186.wr W188 (Or.inr sz_b180)
    refine own_step st188 ?_
    show own_Goes p e below _ (T188.setTop (mkF m 47 #[.val (.int p1), .val (.long p2), .second, .val (.long p3), .second, .val (.long p4), .second, .val (.long p5), .second, .val (.int (2 : Int32)), .val (.ref b178), .val (.ref b180), .val (.ref b182), .val (.long (0 : Int64)), .second, .unset] []))
    refine own_step (fun t k => XS.aload X188.here hx rfl (hb hby at_47) rfl rfl k) ?_
    show own_Goes p e below _ (T188.setTop (mkF m 49 #[.val (.int p1), .val (.long p2), .second, .val (.long p3), .second, .val (.long p4), .second, .val (.long p5), .second, .val (.int (2 : Int32)), .val (.ref b178), .val (.ref b180), .val (.ref b182), .val (.long (0 : Int64)), .second, .unset] [(.ref b182)]))
    refine own_step (fun t k => XS.iconst X188.here hx rfl (hb hby at_49) k) ?_
    show own_Goes p e below _ (T188.setTop (mkF m 50 #[.val (.int p1), .val (.long p2), .second, .val (.long p3), .second, .val (.long p4), .second, .val (.long p5), .second, .val (.int (2 : Int32)), .val (.ref b178), .val (.ref b180), .val (.ref b182), .val (.long (0 : Int64)), .second, .unset] [(.int (0 : Int32)), (.ref b182)]))
    refine own_step (fun t k => XS.lloadN X188.here hx rfl (hb hby at_50) rfl k) ?_
    show own_Goes p e below _ (T188.setTop (mkF m 51 #[.val (.int p1), .val (.long p2), .second, .val (.long p3), .second, .val (.long p4), .second, .val (.long p5), .second, .val (.int (2 : Int32)), .val (.ref b178), .val (.ref b180), .val (.ref b182), .val (.long (0 : Int64)), .second, .unset] [(.long p2), (.int (0 : Int32)), (.ref b182)]))
    obtain ⟨_, _, ⟨T190, L190, k190, n190⟩, -, X190, ⟨Lc190, hQ190, l190, y190, z190⟩, st190⟩ := Jvm.LawKit.callS X188 hx (y := (⟨"com/example/concepta/concepta/store/RowsBlockCountPinLaw", "last", "(J)I"⟩ : MethodName)) hown (mvT hZ w36) (mvT hZ w37) (mvT hZ w34) (mvT hZ w38) (by decide) (backOf (W := 2) (own_b4 l Z a0 hw [] p2  h188 n0 (Nat.le_trans (Nat.le_trans (Nat.le_trans (Nat.le_trans (Nat.le_trans Z0 E178.1) E180.1) E182.1) (Keep.of_wr W185).1) (Keep.of_wr W188).1) ) hZ w38 w34 (by decide) (by decide)) (g := (mkF m 51 #[.val (.int p1), .val (.long p2), .second, .val (.long p3), .second, .val (.long p4), .second, .val (.long p5), .second, .val (.int (2 : Int32)), .val (.ref b178), .val (.ref b180), .val (.ref b182), .val (.long (0 : Int64)), .second, .unset] [(.long p2), (.int (0 : Int32)), (.ref b182)])) rfl (by rw [hml]; rfl) (argsL := [(.long p2)]) (rest := [(.int (0 : Int32)), (.ref b182)]) (lenOf own_pd1 rfl) rfl (by show 2 * 0 + _ ≤ _; exact Nat.le_of_eq rfl) (hb hby at_51) (fun _ _ => ⟨rfl, e188, (by decide : 3 + 0 ≤ _), (by decide : 6 + 0 ≤ _)⟩)
    dsimp only [Pt.U, Pt.locs, Pt.cells, Pt.slots] at X190 l190 y190 z190 st190 hQ190
    subst y190 z190
    obtain ⟨rfl, N190q, eh190⟩ := hQ190
    have N190 : Fr n0 L190 := by rw [l190]; exact Fr.app N188 N190q
    refine own_step st190 ?_
    show own_Goes p e below _ (T190.setTop (mkF m 54 #[.val (.int p1), .val (.long p2), .second, .val (.long p3), .second, .val (.long p4), .second, .val (.long p5), .second, .val (.int (2 : Int32)), .val (.ref b178), .val (.ref b180), .val (.ref b182), .val (.long (0 : Int64)), .second, .unset] [(.int (own_last p2)), (.int (0 : Int32)), (.ref b182)]))
    obtain ⟨T191, h191, X191, e191, W191, V191, st191⟩ := own_ist X190 hx hZ eh190 ((V182.other W185 (Ne.symm ne_b178_b182)).other W188 (Ne.symm ne_b180_b182)) (j := (0 : Int32)) ⟨by decide, by decide⟩ (0) rfl (Nat.le_of_ble_eq_true rfl) (g := (mkF m 54 #[.val (.int p1), .val (.long p2), .second, .val (.long p3), .second, .val (.long p4), .second, .val (.long p5), .second, .val (.int (2 : Int32)), .val (.ref b178), .val (.ref b180), .val (.ref b182), .val (.long (0 : Int64)), .second, .unset] [(.int (own_last p2)), (.int (0 : Int32)), (.ref b182)])) rfl rfl (hb hby at_54)
    have V191 : Arv Z h191 b182 k182 .int (2 : Int32) (([(own_last p2), (0 : Int32)] : List Int32).map Value.int) (Value.int 0) := V191
    have N191 := Fr.snoc X191 N190 g_b182
    have K192 : Keep h0 h191 [] := K189.wr W191 (Or.inr sz_b182)
    refine own_step st191 ?_
    show own_Goes p e below _ (T191.setTop (mkF m 55 #[.val (.int p1), .val (.long p2), .second, .val (.long p3), .second, .val (.long p4), .second, .val (.long p5), .second, .val (.int (2 : Int32)), .val (.ref b178), .val (.ref b180), .val (.ref b182), .val (.long (0 : Int64)), .second, .unset] []))
    refine own_step (fun t k => XS.lload X191.here hx rfl (hb hby at_55) rfl k) ?_
    show own_Goes p e below _ (T191.setTop (mkF m 57 #[.val (.int p1), .val (.long p2), .second, .val (.long p3), .second, .val (.long p4), .second, .val (.long p5), .second, .val (.int (2 : Int32)), .val (.ref b178), .val (.ref b180), .val (.ref b182), .val (.long (0 : Int64)), .second, .unset] [(.long (0 : Int64))]))
    refine own_step (fun t k => XS.lloadN X191.here hx rfl (hb hby at_57) rfl k) ?_
    show own_Goes p e below _ (T191.setTop (mkF m 58 #[.val (.int p1), .val (.long p2), .second, .val (.long p3), .second, .val (.long p4), .second, .val (.long p5), .second, .val (.int (2 : Int32)), .val (.ref b178), .val (.ref b180), .val (.ref b182), .val (.long (0 : Int64)), .second, .unset] [(.long p2), (.long (0 : Int64))]))
    obtain ⟨_, _, ⟨T193, L193, k193, n193⟩, -, X193, ⟨Lc193, hQ193, l193, y193, z193⟩, st193⟩ := Jvm.LawKit.callS X191 hx (y := (⟨"com/example/concepta/concepta/store/RowsBlockCountPinLaw", "span", "(J)J"⟩ : MethodName)) hown (mvT hZ w39) (mvT hZ w40) (mvT hZ w34) (mvT hZ w41) (by decide) (backOf (W := 2) (own_b5 l Z a0 hw [] p2  h191 n0 (Nat.le_trans (Nat.le_trans (Nat.le_trans (Nat.le_trans (Nat.le_trans (Nat.le_trans Z0 E178.1) E180.1) E182.1) (Keep.of_wr W185).1) (Keep.of_wr W188).1) (Keep.of_wr W191).1) ) hZ w41 w34 (by decide) (by decide)) (g := (mkF m 58 #[.val (.int p1), .val (.long p2), .second, .val (.long p3), .second, .val (.long p4), .second, .val (.long p5), .second, .val (.int (2 : Int32)), .val (.ref b178), .val (.ref b180), .val (.ref b182), .val (.long (0 : Int64)), .second, .unset] [(.long p2), (.long (0 : Int64))])) rfl (by rw [hml]; rfl) (argsL := [(.long p2)]) (rest := [(.long (0 : Int64))]) (lenOf own_pd4 rfl) rfl (by show 2 * 0 + _ ≤ _; exact Nat.le_of_eq rfl) (hb hby at_58) (fun _ _ => ⟨rfl, e191, (by decide : 3 + 0 ≤ _), (by decide : 6 + 0 ≤ _)⟩)
    dsimp only [Pt.U, Pt.locs, Pt.cells, Pt.slots] at X193 l193 y193 z193 st193 hQ193
    subst y193 z193
    obtain ⟨rfl, N193q, eh193⟩ := hQ193
    have N193 : Fr n0 L193 := by rw [l193]; exact Fr.app N191 N193q
    refine own_step st193 ?_
    show own_Goes p e below _ (T193.setTop (mkF m 61 #[.val (.int p1), .val (.long p2), .second, .val (.long p3), .second, .val (.long p4), .second, .val (.long p5), .second, .val (.int (2 : Int32)), .val (.ref b178), .val (.ref b180), .val (.ref b182), .val (.long (0 : Int64)), .second, .unset] [(.long (own_span p2)), (.long (0 : Int64))]))
    refine own_step (fun t k => XS.ladd X193.here hx rfl (hb hby at_61) rfl k) ?_
    show own_Goes p e below _ (T193.setTop (mkF m 62 #[.val (.int p1), .val (.long p2), .second, .val (.long p3), .second, .val (.long p4), .second, .val (.long p5), .second, .val (.int (2 : Int32)), .val (.ref b178), .val (.ref b180), .val (.ref b182), .val (.long (0 : Int64)), .second, .unset] [(.long ((0 : Int64) + (own_span p2)))]))
    refine own_step (fun t k => XS.lstore X193.here hx rfl (hb hby at_62) rfl (l' := #[.val (.int p1), .val (.long p2), .second, .val (.long p3), .second, .val (.long p4), .second, .val (.long p5), .second, .val (.int (2 : Int32)), .val (.ref b178), .val (.ref b180), .val (.ref b182), .val (.long ((0 : Int64) + (own_span p2))), .second, .unset]) rfl k) ?_
    show own_Goes p e below _ (T193.setTop (mkF m 64 #[.val (.int p1), .val (.long p2), .second, .val (.long p3), .second, .val (.long p4), .second, .val (.long p5), .second, .val (.int (2 : Int32)), .val (.ref b178), .val (.ref b180), .val (.ref b182), .val (.long ((0 : Int64) + (own_span p2))), .second, .unset] []))
    refine own_step (fun t k => XS.iload X193.here hx rfl (hb hby at_64) rfl k) ?_
    show own_Goes p e below _ (T193.setTop (mkF m 66 #[.val (.int p1), .val (.long p2), .second, .val (.long p3), .second, .val (.long p4), .second, .val (.long p5), .second, .val (.int (2 : Int32)), .val (.ref b178), .val (.ref b180), .val (.ref b182), .val (.long ((0 : Int64) + (own_span p2))), .second, .unset] [(.int (2 : Int32))]))
    refine own_step (fun t k => XS.iconst X193.here hx rfl (hb hby at_66) k) ?_
    show own_Goes p e below _ (T193.setTop (mkF m 67 #[.val (.int p1), .val (.long p2), .second, .val (.long p3), .second, .val (.long p4), .second, .val (.long p5), .second, .val (.int (2 : Int32)), .val (.ref b178), .val (.ref b180), .val (.ref b182), .val (.long ((0 : Int64) + (own_span p2))), .second, .unset] [(.int (1 : Int32)), (.int (2 : Int32))]))
    have hc194 : (1 : Int32) < (2 : Int32) := by decide
    refine own_step (fun t k => XS.icmpNo X193.here hx rfl (hb hby at_67) rfl (tlt hc194).2.2.2 k) ?_
    show own_Goes p e below _ (T193.setTop (mkF m 70 #[.val (.int p1), .val (.long p2), .second, .val (.long p3), .second, .val (.long p4), .second, .val (.long p5), .second, .val (.int (2 : Int32)), .val (.ref b178), .val (.ref b180), .val (.ref b182), .val (.long ((0 : Int64) + (own_span p2))), .second, .unset] []))
    refine own_step (fun t k => XS.aload X193.here hx rfl (hb hby at_70) rfl rfl k) ?_
    show own_Goes p e below _ (T193.setTop (mkF m 72 #[.val (.int p1), .val (.long p2), .second, .val (.long p3), .second, .val (.long p4), .second, .val (.long p5), .second, .val (.int (2 : Int32)), .val (.ref b178), .val (.ref b180), .val (.ref b182), .val (.long ((0 : Int64) + (own_span p2))), .second, .unset] [(.ref b178)]))
    refine own_step (fun t k => XS.iconst X193.here hx rfl (hb hby at_72) k) ?_
    show own_Goes p e below _ (T193.setTop (mkF m 73 #[.val (.int p1), .val (.long p2), .second, .val (.long p3), .second, .val (.long p4), .second, .val (.long p5), .second, .val (.int (2 : Int32)), .val (.ref b178), .val (.ref b180), .val (.ref b182), .val (.long ((0 : Int64) + (own_span p2))), .second, .unset] [(.int (1 : Int32)), (.ref b178)]))
    refine own_step (fun t k => XS.lloadN X193.here hx rfl (hb hby at_73) rfl k) ?_
    show own_Goes p e below _ (T193.setTop (mkF m 74 #[.val (.int p1), .val (.long p2), .second, .val (.long p3), .second, .val (.long p4), .second, .val (.long p5), .second, .val (.int (2 : Int32)), .val (.ref b178), .val (.ref b180), .val (.ref b182), .val (.long ((0 : Int64) + (own_span p2))), .second, .unset] [(.long p3), (.int (1 : Int32)), (.ref b178)]))
    obtain ⟨T195, h195, X195, e195, W195, V195, st195⟩ := own_lst X193 hx hZ eh193 ((V185.other W188 ne_b178_b180).other W191 ne_b178_b182) (j := (1 : Int32)) ⟨by decide, by decide⟩ (1) rfl (Nat.le_of_ble_eq_true rfl) (g := (mkF m 74 #[.val (.int p1), .val (.long p2), .second, .val (.long p3), .second, .val (.long p4), .second, .val (.long p5), .second, .val (.int (2 : Int32)), .val (.ref b178), .val (.ref b180), .val (.ref b182), .val (.long ((0 : Int64) + (own_span p2))), .second, .unset] [(.long p3), (.int (1 : Int32)), (.ref b178)])) rfl rfl (hb hby at_74)
    have V195 : Arv Z h195 b178 k178 .long (2 : Int32) (([p2, p3] : List Int64).map Value.long) (Value.long 0) := V195
    have N195 := Fr.snoc X195 N193 g_b178
    have K196 : Keep h0 h195 [] := K192.wr W195 (Or.inr sz_b178)
    refine own_step st195 ?_
    show own_Goes p e below _ (T195.setTop (mkF m 75 #[.val (.int p1), .val (.long p2), .second, .val (.long p3), .second, .val (.long p4), .second, .val (.long p5), .second, .val (.int (2 : Int32)), .val (.ref b178), .val (.ref b180), .val (.ref b182), .val (.long ((0 : Int64) + (own_span p2))), .second, .unset] []))
    refine own_step (fun t k => XS.aload X195.here hx rfl (hb hby at_75) rfl rfl k) ?_
    show own_Goes p e below _ (T195.setTop (mkF m 77 #[.val (.int p1), .val (.long p2), .second, .val (.long p3), .second, .val (.long p4), .second, .val (.long p5), .second, .val (.int (2 : Int32)), .val (.ref b178), .val (.ref b180), .val (.ref b182), .val (.long ((0 : Int64) + (own_span p2))), .second, .unset] [(.ref b180)]))
    refine own_step (fun t k => XS.iconst X195.here hx rfl (hb hby at_77) k) ?_
    show own_Goes p e below _ (T195.setTop (mkF m 78 #[.val (.int p1), .val (.long p2), .second, .val (.long p3), .second, .val (.long p4), .second, .val (.long p5), .second, .val (.int (2 : Int32)), .val (.ref b178), .val (.ref b180), .val (.ref b182), .val (.long ((0 : Int64) + (own_span p2))), .second, .unset] [(.int (1 : Int32)), (.ref b180)]))
    refine own_step (fun t k => XS.lloadN X195.here hx rfl (hb hby at_78) rfl k) ?_
    show own_Goes p e below _ (T195.setTop (mkF m 79 #[.val (.int p1), .val (.long p2), .second, .val (.long p3), .second, .val (.long p4), .second, .val (.long p5), .second, .val (.int (2 : Int32)), .val (.ref b178), .val (.ref b180), .val (.ref b182), .val (.long ((0 : Int64) + (own_span p2))), .second, .unset] [(.long p3), (.int (1 : Int32)), (.ref b180)]))
    obtain ⟨_, _, ⟨T197, L197, k197, n197⟩, -, X197, ⟨Lc197, hQ197, l197, y197, z197⟩, st197⟩ := Jvm.LawKit.callS X195 hx (y := (⟨"com/example/concepta/concepta/store/RowsBlockCountPinLaw", "first", "(J)I"⟩ : MethodName)) hown (mvT hZ w32) (mvT hZ w33) (mvT hZ w34) (mvT hZ w35) (by decide) (backOf (W := 2) (own_b3 l Z a0 hw [] p3  h195 n0 (Nat.le_trans (Nat.le_trans (Nat.le_trans (Nat.le_trans (Nat.le_trans (Nat.le_trans (Nat.le_trans Z0 E178.1) E180.1) E182.1) (Keep.of_wr W185).1) (Keep.of_wr W188).1) (Keep.of_wr W191).1) (Keep.of_wr W195).1) ) hZ w35 w34 (by decide) (by decide)) (g := (mkF m 79 #[.val (.int p1), .val (.long p2), .second, .val (.long p3), .second, .val (.long p4), .second, .val (.long p5), .second, .val (.int (2 : Int32)), .val (.ref b178), .val (.ref b180), .val (.ref b182), .val (.long ((0 : Int64) + (own_span p2))), .second, .unset] [(.long p3), (.int (1 : Int32)), (.ref b180)])) rfl (by rw [hml]; rfl) (argsL := [(.long p3)]) (rest := [(.int (1 : Int32)), (.ref b180)]) (lenOf own_pd1 rfl) rfl (by show 2 * 0 + _ ≤ _; exact Nat.le_of_eq rfl) (hb hby at_79) (fun _ _ => ⟨rfl, e195, (by decide : 3 + 0 ≤ _), (by decide : 6 + 0 ≤ _)⟩)
    dsimp only [Pt.U, Pt.locs, Pt.cells, Pt.slots] at X197 l197 y197 z197 st197 hQ197
    subst y197 z197
    obtain ⟨rfl, N197q, eh197⟩ := hQ197
    have N197 : Fr n0 L197 := by rw [l197]; exact Fr.app N195 N197q
    refine own_step st197 ?_
    show own_Goes p e below _ (T197.setTop (mkF m 82 #[.val (.int p1), .val (.long p2), .second, .val (.long p3), .second, .val (.long p4), .second, .val (.long p5), .second, .val (.int (2 : Int32)), .val (.ref b178), .val (.ref b180), .val (.ref b182), .val (.long ((0 : Int64) + (own_span p2))), .second, .unset] [(.int (own_first p3)), (.int (1 : Int32)), (.ref b180)]))
    obtain ⟨T198, h198, X198, e198, W198, V198, st198⟩ := own_ist X197 hx hZ eh197 ((V188.other W191 ne_b180_b182).other W195 (Ne.symm ne_b178_b180)) (j := (1 : Int32)) ⟨by decide, by decide⟩ (1) rfl (Nat.le_of_ble_eq_true rfl) (g := (mkF m 82 #[.val (.int p1), .val (.long p2), .second, .val (.long p3), .second, .val (.long p4), .second, .val (.long p5), .second, .val (.int (2 : Int32)), .val (.ref b178), .val (.ref b180), .val (.ref b182), .val (.long ((0 : Int64) + (own_span p2))), .second, .unset] [(.int (own_first p3)), (.int (1 : Int32)), (.ref b180)])) rfl rfl (hb hby at_82)
    have V198 : Arv Z h198 b180 k180 .int (2 : Int32) (([(own_first p2), (own_first p3)] : List Int32).map Value.int) (Value.int 0) := V198
    have N198 := Fr.snoc X198 N197 g_b180
    have K199 : Keep h0 h198 [] := K196.wr W198 (Or.inr sz_b180)
    refine own_step st198 ?_
    show own_Goes p e below _ (T198.setTop (mkF m 83 #[.val (.int p1), .val (.long p2), .second, .val (.long p3), .second, .val (.long p4), .second, .val (.long p5), .second, .val (.int (2 : Int32)), .val (.ref b178), .val (.ref b180), .val (.ref b182), .val (.long ((0 : Int64) + (own_span p2))), .second, .unset] []))
    refine own_step (fun t k => XS.aload X198.here hx rfl (hb hby at_83) rfl rfl k) ?_
    show own_Goes p e below _ (T198.setTop (mkF m 85 #[.val (.int p1), .val (.long p2), .second, .val (.long p3), .second, .val (.long p4), .second, .val (.long p5), .second, .val (.int (2 : Int32)), .val (.ref b178), .val (.ref b180), .val (.ref b182), .val (.long ((0 : Int64) + (own_span p2))), .second, .unset] [(.ref b182)]))
    refine own_step (fun t k => XS.iconst X198.here hx rfl (hb hby at_85) k) ?_
    show own_Goes p e below _ (T198.setTop (mkF m 86 #[.val (.int p1), .val (.long p2), .second, .val (.long p3), .second, .val (.long p4), .second, .val (.long p5), .second, .val (.int (2 : Int32)), .val (.ref b178), .val (.ref b180), .val (.ref b182), .val (.long ((0 : Int64) + (own_span p2))), .second, .unset] [(.int (1 : Int32)), (.ref b182)]))
    refine own_step (fun t k => XS.lloadN X198.here hx rfl (hb hby at_86) rfl k) ?_
    show own_Goes p e below _ (T198.setTop (mkF m 87 #[.val (.int p1), .val (.long p2), .second, .val (.long p3), .second, .val (.long p4), .second, .val (.long p5), .second, .val (.int (2 : Int32)), .val (.ref b178), .val (.ref b180), .val (.ref b182), .val (.long ((0 : Int64) + (own_span p2))), .second, .unset] [(.long p3), (.int (1 : Int32)), (.ref b182)]))
    obtain ⟨_, _, ⟨T200, L200, k200, n200⟩, -, X200, ⟨Lc200, hQ200, l200, y200, z200⟩, st200⟩ := Jvm.LawKit.callS X198 hx (y := (⟨"com/example/concepta/concepta/store/RowsBlockCountPinLaw", "last", "(J)I"⟩ : MethodName)) hown (mvT hZ w36) (mvT hZ w37) (mvT hZ w34) (mvT hZ w38) (by decide) (backOf (W := 2) (own_b4 l Z a0 hw [] p3  h198 n0 (Nat.le_trans (Nat.le_trans (Nat.le_trans (Nat.le_trans (Nat.le_trans (Nat.le_trans (Nat.le_trans (Nat.le_trans Z0 E178.1) E180.1) E182.1) (Keep.of_wr W185).1) (Keep.of_wr W188).1) (Keep.of_wr W191).1) (Keep.of_wr W195).1) (Keep.of_wr W198).1) ) hZ w38 w34 (by decide) (by decide)) (g := (mkF m 87 #[.val (.int p1), .val (.long p2), .second, .val (.long p3), .second, .val (.long p4), .second, .val (.long p5), .second, .val (.int (2 : Int32)), .val (.ref b178), .val (.ref b180), .val (.ref b182), .val (.long ((0 : Int64) + (own_span p2))), .second, .unset] [(.long p3), (.int (1 : Int32)), (.ref b182)])) rfl (by rw [hml]; rfl) (argsL := [(.long p3)]) (rest := [(.int (1 : Int32)), (.ref b182)]) (lenOf own_pd1 rfl) rfl (by show 2 * 0 + _ ≤ _; exact Nat.le_of_eq rfl) (hb hby at_87) (fun _ _ => ⟨rfl, e198, (by decide : 3 + 0 ≤ _), (by decide : 6 + 0 ≤ _)⟩)
    dsimp only [Pt.U, Pt.locs, Pt.cells, Pt.slots] at X200 l200 y200 z200 st200 hQ200
    subst y200 z200
    obtain ⟨rfl, N200q, eh200⟩ := hQ200
    have N200 : Fr n0 L200 := by rw [l200]; exact Fr.app N198 N200q
    refine own_step st200 ?_
    show own_Goes p e below _ (T200.setTop (mkF m 90 #[.val (.int p1), .val (.long p2), .second, .val (.long p3), .second, .val (.long p4), .second, .val (.long p5), .second, .val (.int (2 : Int32)), .val (.ref b178), .val (.ref b180), .val (.ref b182), .val (.long ((0 : Int64) + (own_span p2))), .second, .unset] [(.int (own_last p3)), (.int (1 : Int32)), (.ref b182)]))
    obtain ⟨T201, h201, X201, e201, W201, V201, st201⟩ := own_ist X200 hx hZ eh200 ((V191.other W195 (Ne.symm ne_b178_b182)).other W198 (Ne.symm ne_b180_b182)) (j := (1 : Int32)) ⟨by decide, by decide⟩ (1) rfl (Nat.le_of_ble_eq_true rfl) (g := (mkF m 90 #[.val (.int p1), .val (.long p2), .second, .val (.long p3), .second, .val (.long p4), .second, .val (.long p5), .second, .val (.int (2 : Int32)), .val (.ref b178), .val (.ref b180), .val (.ref b182), .val (.long ((0 : Int64) + (own_span p2))), .second, .unset] [(.int (own_last p3)), (.int (1 : Int32)), (.ref b182)])) rfl rfl (hb hby at_90)
    have V201 : Arv Z h201 b182 k182 .int (2 : Int32) (([(own_last p2), (own_last p3)] : List Int32).map Value.int) (Value.int 0) := V201
    have N201 := Fr.snoc X201 N200 g_b182
    have K202 : Keep h0 h201 [] := K199.wr W201 (Or.inr sz_b182)
    refine own_step st201 ?_
    show own_Goes p e below _ (T201.setTop (mkF m 91 #[.val (.int p1), .val (.long p2), .second, .val (.long p3), .second, .val (.long p4), .second, .val (.long p5), .second, .val (.int (2 : Int32)), .val (.ref b178), .val (.ref b180), .val (.ref b182), .val (.long ((0 : Int64) + (own_span p2))), .second, .unset] []))
    refine own_step (fun t k => XS.lload X201.here hx rfl (hb hby at_91) rfl k) ?_
    show own_Goes p e below _ (T201.setTop (mkF m 93 #[.val (.int p1), .val (.long p2), .second, .val (.long p3), .second, .val (.long p4), .second, .val (.long p5), .second, .val (.int (2 : Int32)), .val (.ref b178), .val (.ref b180), .val (.ref b182), .val (.long ((0 : Int64) + (own_span p2))), .second, .unset] [(.long ((0 : Int64) + (own_span p2)))]))
    refine own_step (fun t k => XS.lloadN X201.here hx rfl (hb hby at_93) rfl k) ?_
    show own_Goes p e below _ (T201.setTop (mkF m 94 #[.val (.int p1), .val (.long p2), .second, .val (.long p3), .second, .val (.long p4), .second, .val (.long p5), .second, .val (.int (2 : Int32)), .val (.ref b178), .val (.ref b180), .val (.ref b182), .val (.long ((0 : Int64) + (own_span p2))), .second, .unset] [(.long p3), (.long ((0 : Int64) + (own_span p2)))]))
    obtain ⟨_, _, ⟨T203, L203, k203, n203⟩, -, X203, ⟨Lc203, hQ203, l203, y203, z203⟩, st203⟩ := Jvm.LawKit.callS X201 hx (y := (⟨"com/example/concepta/concepta/store/RowsBlockCountPinLaw", "span", "(J)J"⟩ : MethodName)) hown (mvT hZ w39) (mvT hZ w40) (mvT hZ w34) (mvT hZ w41) (by decide) (backOf (W := 2) (own_b5 l Z a0 hw [] p3  h201 n0 (Nat.le_trans (Nat.le_trans (Nat.le_trans (Nat.le_trans (Nat.le_trans (Nat.le_trans (Nat.le_trans (Nat.le_trans (Nat.le_trans Z0 E178.1) E180.1) E182.1) (Keep.of_wr W185).1) (Keep.of_wr W188).1) (Keep.of_wr W191).1) (Keep.of_wr W195).1) (Keep.of_wr W198).1) (Keep.of_wr W201).1) ) hZ w41 w34 (by decide) (by decide)) (g := (mkF m 94 #[.val (.int p1), .val (.long p2), .second, .val (.long p3), .second, .val (.long p4), .second, .val (.long p5), .second, .val (.int (2 : Int32)), .val (.ref b178), .val (.ref b180), .val (.ref b182), .val (.long ((0 : Int64) + (own_span p2))), .second, .unset] [(.long p3), (.long ((0 : Int64) + (own_span p2)))])) rfl (by rw [hml]; rfl) (argsL := [(.long p3)]) (rest := [(.long ((0 : Int64) + (own_span p2)))]) (lenOf own_pd4 rfl) rfl (by show 2 * 0 + _ ≤ _; exact Nat.le_of_eq rfl) (hb hby at_94) (fun _ _ => ⟨rfl, e201, (by decide : 3 + 0 ≤ _), (by decide : 6 + 0 ≤ _)⟩)
    dsimp only [Pt.U, Pt.locs, Pt.cells, Pt.slots] at X203 l203 y203 z203 st203 hQ203
    subst y203 z203
    obtain ⟨rfl, N203q, eh203⟩ := hQ203
    have N203 : Fr n0 L203 := by rw [l203]; exact Fr.app N201 N203q
    refine own_step st203 ?_
    show own_Goes p e below _ (T203.setTop (mkF m 97 #[.val (.int p1), .val (.long p2), .second, .val (.long p3), .second, .val (.long p4), .second, .val (.long p5), .second, .val (.int (2 : Int32)), .val (.ref b178), .val (.ref b180), .val (.ref b182), .val (.long ((0 : Int64) + (own_span p2))), .second, .unset] [(.long (own_span p3)), (.long ((0 : Int64) + (own_span p2)))]))
    refine own_step (fun t k => XS.ladd X203.here hx rfl (hb hby at_97) rfl k) ?_
    show own_Goes p e below _ (T203.setTop (mkF m 98 #[.val (.int p1), .val (.long p2), .second, .val (.long p3), .second, .val (.long p4), .second, .val (.long p5), .second, .val (.int (2 : Int32)), .val (.ref b178), .val (.ref b180), .val (.ref b182), .val (.long ((0 : Int64) + (own_span p2))), .second, .unset] [(.long (((0 : Int64) + (own_span p2)) + (own_span p3)))]))
    refine own_step (fun t k => XS.lstore X203.here hx rfl (hb hby at_98) rfl (l' := #[.val (.int p1), .val (.long p2), .second, .val (.long p3), .second, .val (.long p4), .second, .val (.long p5), .second, .val (.int (2 : Int32)), .val (.ref b178), .val (.ref b180), .val (.ref b182), .val (.long (((0 : Int64) + (own_span p2)) + (own_span p3))), .second, .unset]) rfl k) ?_
    show own_Goes p e below _ (T203.setTop (mkF m 100 #[.val (.int p1), .val (.long p2), .second, .val (.long p3), .second, .val (.long p4), .second, .val (.long p5), .second, .val (.int (2 : Int32)), .val (.ref b178), .val (.ref b180), .val (.ref b182), .val (.long (((0 : Int64) + (own_span p2)) + (own_span p3))), .second, .unset] []))
    refine own_step (fun t k => XS.iload X203.here hx rfl (hb hby at_100) rfl k) ?_
    show own_Goes p e below _ (T203.setTop (mkF m 102 #[.val (.int p1), .val (.long p2), .second, .val (.long p3), .second, .val (.long p4), .second, .val (.long p5), .second, .val (.int (2 : Int32)), .val (.ref b178), .val (.ref b180), .val (.ref b182), .val (.long (((0 : Int64) + (own_span p2)) + (own_span p3))), .second, .unset] [(.int (2 : Int32))]))
    refine own_step (fun t k => XS.iconst X203.here hx rfl (hb hby at_102) k) ?_
    show own_Goes p e below _ (T203.setTop (mkF m 103 #[.val (.int p1), .val (.long p2), .second, .val (.long p3), .second, .val (.long p4), .second, .val (.long p5), .second, .val (.int (2 : Int32)), .val (.ref b178), .val (.ref b180), .val (.ref b182), .val (.long (((0 : Int64) + (own_span p2)) + (own_span p3))), .second, .unset] [(.int (2 : Int32)), (.int (2 : Int32))]))
    have hc204 : ¬ ((2 : Int32) < (2 : Int32)) := by decide
    refine own_step (fun t k => XS.icmpYes X203.here hx rfl (pc0 := 103) (pc' := 140) rfl (hb hby at_103) rfl (flt hc204).2.2.2 (by decide) (by decide) k) ?_
    show own_Goes p e below _ (T203.setTop (mkF m 140 #[.val (.int p1), .val (.long p2), .second, .val (.long p3), .second, .val (.long p4), .second, .val (.long p5), .second, .val (.int (2 : Int32)), .val (.ref b178), .val (.ref b180), .val (.ref b182), .val (.long (((0 : Int64) + (own_span p2)) + (own_span p3))), .second, .unset] []))
    refine own_step (fun t k => XS.iload X203.here hx rfl (hb hby at_140) rfl k) ?_
    show own_Goes p e below _ (T203.setTop (mkF m 142 #[.val (.int p1), .val (.long p2), .second, .val (.long p3), .second, .val (.long p4), .second, .val (.long p5), .second, .val (.int (2 : Int32)), .val (.ref b178), .val (.ref b180), .val (.ref b182), .val (.long (((0 : Int64) + (own_span p2)) + (own_span p3))), .second, .unset] [(.int (2 : Int32))]))
    refine own_step (fun t k => XS.iconst X203.here hx rfl (hb hby at_142) k) ?_
    show own_Goes p e below _ (T203.setTop (mkF m 143 #[.val (.int p1), .val (.long p2), .second, .val (.long p3), .second, .val (.long p4), .second, .val (.long p5), .second, .val (.int (2 : Int32)), .val (.ref b178), .val (.ref b180), .val (.ref b182), .val (.long (((0 : Int64) + (own_span p2)) + (own_span p3))), .second, .unset] [(.int (3 : Int32)), (.int (2 : Int32))]))
    have hc205 : ¬ ((3 : Int32) < (2 : Int32)) := by decide
    refine own_step (fun t k => XS.icmpYes X203.here hx rfl (pc0 := 143) (pc' := 180) rfl (hb hby at_143) rfl (flt hc205).2.2.2 (by decide) (by decide) k) ?_
    show own_Goes p e below _ (T203.setTop (mkF m 180 #[.val (.int p1), .val (.long p2), .second, .val (.long p3), .second, .val (.long p4), .second, .val (.long p5), .second, .val (.int (2 : Int32)), .val (.ref b178), .val (.ref b180), .val (.ref b182), .val (.long (((0 : Int64) + (own_span p2)) + (own_span p3))), .second, .unset] []))
    obtain ⟨T206, h206, X206, e206, E206, A206, D206, -, st206⟩ := newO X203 hx hZ hown w3 w4 w5 eh203 (g := (mkF m 180 #[.val (.int p1), .val (.long p2), .second, .val (.long p3), .second, .val (.long p4), .second, .val (.long p5), .second, .val (.int (2 : Int32)), .val (.ref b178), .val (.ref b180), .val (.ref b182), .val (.long (((0 : Int64) + (own_span p2)) + (own_span p3))), .second, .unset] [])) rfl (hb hby at_180) (by decide) (by decide)
    obtain ⟨b206, g206⟩ : ∃ z, z = h201.size := ⟨_, rfl⟩
    rw [← g206] at A206 D206 st206
    have ne_b178_b206 : b178 ≠ b206 := Nat.ne_of_lt (Nat.lt_of_lt_of_le ((V195.other W198 ne_b178_b180).other W201 ne_b178_b182).lt (Nat.le_of_eq g206.symm))
    have ne_b180_b206 : b180 ≠ b206 := Nat.ne_of_lt (Nat.lt_of_lt_of_le (V198.other W201 ne_b180_b182).lt (Nat.le_of_eq g206.symm))
    have ne_b182_b206 : b182 ≠ b206 := Nat.ne_of_lt (Nat.lt_of_lt_of_le V201.lt (Nat.le_of_eq g206.symm))
    have g_b206 : n0 ≤ b206 := Nat.le_trans (Nat.le_trans (Nat.le_trans (Nat.le_trans (Nat.le_trans (Nat.le_trans (Nat.le_trans (Nat.le_trans (Nat.le_trans (Nat.le_trans Z0 E178.1) E180.1) E182.1) (Keep.of_wr W185).1) (Keep.of_wr W188).1) (Keep.of_wr W191).1) (Keep.of_wr W195).1) (Keep.of_wr W198).1) (Keep.of_wr W201).1) (Nat.le_of_eq g206.symm)
    have sz_b206 : h0.size ≤ b206 := Nat.le_trans K202.1 (Nat.le_of_eq g206.symm)
    have K207 : Keep h0 h206 [] := K202.ext E206
    have F_regions_b206 : Fld Z h206 b206 "com/example/concepta/concepta/store/OidSet$Rows" "regions" "[J" .null := D206 (Or.inr w18) (ty := (.array .long)) (by decide)
    have F_firsts_b206 : Fld Z h206 b206 "com/example/concepta/concepta/store/OidSet$Rows" "firsts" "[I" .null := D206 (Or.inr w20) (ty := (.array .int)) (by decide)
    have F_lasts_b206 : Fld Z h206 b206 "com/example/concepta/concepta/store/OidSet$Rows" "lasts" "[I" .null := D206 (Or.inr w22) (ty := (.array .int)) (by decide)
    have F_blocks_b206 : Fld Z h206 b206 "com/example/concepta/concepta/store/OidSet$Rows" "blocks" "[J" .null := D206 (Or.inr w24) (ty := (.array .long)) (by decide)
    have F_bits_b206 : Fld Z h206 b206 "com/example/concepta/concepta/store/OidSet$Rows" "bits" "[J" .null := D206 (Or.inr w26) (ty := (.array .long)) (by decide)
    refine own_step st206 ?_
    show own_Goes p e below _ (T206.setTop (mkF m 183 #[.val (.int p1), .val (.long p2), .second, .val (.long p3), .second, .val (.long p4), .second, .val (.long p5), .second, .val (.int (2 : Int32)), .val (.ref b178), .val (.ref b180), .val (.ref b182), .val (.long (((0 : Int64) + (own_span p2)) + (own_span p3))), .second, .unset] [(.ref b206)]))
    refine own_step (fun t k => XS.dup X206.here hx rfl (hb hby at_183) rfl rfl k) ?_
    show own_Goes p e below _ (T206.setTop (mkF m 184 #[.val (.int p1), .val (.long p2), .second, .val (.long p3), .second, .val (.long p4), .second, .val (.long p5), .second, .val (.int (2 : Int32)), .val (.ref b178), .val (.ref b180), .val (.ref b182), .val (.long (((0 : Int64) + (own_span p2)) + (own_span p3))), .second, .unset] [(.ref b206), (.ref b206)]))
    refine own_step (fun t k => XS.aload X206.here hx rfl (hb hby at_184) rfl rfl k) ?_
    show own_Goes p e below _ (T206.setTop (mkF m 186 #[.val (.int p1), .val (.long p2), .second, .val (.long p3), .second, .val (.long p4), .second, .val (.long p5), .second, .val (.int (2 : Int32)), .val (.ref b178), .val (.ref b180), .val (.ref b182), .val (.long (((0 : Int64) + (own_span p2)) + (own_span p3))), .second, .unset] [(.ref b178), (.ref b206), (.ref b206)]))
    refine own_step (fun t k => XS.aload X206.here hx rfl (hb hby at_186) rfl rfl k) ?_
    show own_Goes p e below _ (T206.setTop (mkF m 188 #[.val (.int p1), .val (.long p2), .second, .val (.long p3), .second, .val (.long p4), .second, .val (.long p5), .second, .val (.int (2 : Int32)), .val (.ref b178), .val (.ref b180), .val (.ref b182), .val (.long (((0 : Int64) + (own_span p2)) + (own_span p3))), .second, .unset] [(.ref b180), (.ref b178), (.ref b206), (.ref b206)]))
    refine own_step (fun t k => XS.aload X206.here hx rfl (hb hby at_188) rfl rfl k) ?_
    show own_Goes p e below _ (T206.setTop (mkF m 190 #[.val (.int p1), .val (.long p2), .second, .val (.long p3), .second, .val (.long p4), .second, .val (.long p5), .second, .val (.int (2 : Int32)), .val (.ref b178), .val (.ref b180), .val (.ref b182), .val (.long (((0 : Int64) + (own_span p2)) + (own_span p3))), .second, .unset] [(.ref b182), (.ref b180), (.ref b178), (.ref b206), (.ref b206)]))
    refine own_step (fun t k => XS.iconst X206.here hx rfl (hb hby at_190) k) ?_
    show own_Goes p e below _ (T206.setTop (mkF m 191 #[.val (.int p1), .val (.long p2), .second, .val (.long p3), .second, .val (.long p4), .second, .val (.long p5), .second, .val (.int (2 : Int32)), .val (.ref b178), .val (.ref b180), .val (.ref b182), .val (.long (((0 : Int64) + (own_span p2)) + (own_span p3))), .second, .unset] [(.int (1 : Int32)), (.ref b182), (.ref b180), (.ref b178), (.ref b206), (.ref b206)]))
    obtain ⟨T208, h208, k208, X208, e208, E208, A208, st208⟩ := newP (aty := .long) X206 hx hZ w1 e206 (g := (mkF m 191 #[.val (.int p1), .val (.long p2), .second, .val (.long p3), .second, .val (.long p4), .second, .val (.long p5), .second, .val (.int (2 : Int32)), .val (.ref b178), .val (.ref b180), .val (.ref b182), .val (.long (((0 : Int64) + (own_span p2)) + (own_span p3))), .second, .unset] [(.int (1 : Int32)), (.ref b182), (.ref b180), (.ref b178), (.ref b206), (.ref b206)])) rfl (hb hby at_191) rfl (by decide) (cap := 1) (by decide) (by decide) (by decide) (by decide)
    obtain ⟨b208, g208⟩ : ∃ z, z = h206.size := ⟨_, rfl⟩
    rw [← g208] at A208 st208
    have ne_b178_b208 : b178 ≠ b208 := Nat.ne_of_lt (Nat.lt_of_lt_of_le (((V195.other W198 ne_b178_b180).other W201 ne_b178_b182).ext E206).lt (Nat.le_of_eq g208.symm))
    have ne_b180_b208 : b180 ≠ b208 := Nat.ne_of_lt (Nat.lt_of_lt_of_le ((V198.other W201 ne_b180_b182).ext E206).lt (Nat.le_of_eq g208.symm))
    have ne_b182_b208 : b182 ≠ b208 := Nat.ne_of_lt (Nat.lt_of_lt_of_le (V201.ext E206).lt (Nat.le_of_eq g208.symm))
    have ne_b206_b208 : b206 ≠ b208 := Nat.ne_of_lt (Nat.lt_of_lt_of_le A206.lt (Nat.le_of_eq g208.symm))
    have g_b208 : n0 ≤ b208 := Nat.le_trans (Nat.le_trans (Nat.le_trans (Nat.le_trans (Nat.le_trans (Nat.le_trans (Nat.le_trans (Nat.le_trans (Nat.le_trans (Nat.le_trans (Nat.le_trans Z0 E178.1) E180.1) E182.1) (Keep.of_wr W185).1) (Keep.of_wr W188).1) (Keep.of_wr W191).1) (Keep.of_wr W195).1) (Keep.of_wr W198).1) (Keep.of_wr W201).1) E206.1) (Nat.le_of_eq g208.symm)
    have sz_b208 : h0.size ≤ b208 := Nat.le_trans K207.1 (Nat.le_of_eq g208.symm)
    have V208 : Arv Z h208 b208 k208 .long (1 : Int32) (([(0 : Int64)] : List Int64).map Value.long) (Value.long (0 : Int64)) := own_newJ A208 (by decide) 1
    have K209 : Keep h0 h208 [] := K207.ext E208
    refine own_step st208 ?_
    show own_Goes p e below _ (T208.setTop (mkF m 193 #[.val (.int p1), .val (.long p2), .second, .val (.long p3), .second, .val (.long p4), .second, .val (.long p5), .second, .val (.int (2 : Int32)), .val (.ref b178), .val (.ref b180), .val (.ref b182), .val (.long (((0 : Int64) + (own_span p2)) + (own_span p3))), .second, .unset] [(.ref b208), (.ref b182), (.ref b180), (.ref b178), (.ref b206), (.ref b206)]))
    refine own_step (fun t k => XS.iconst X208.here hx rfl (hb hby at_193) k) ?_
    show own_Goes p e below _ (T208.setTop (mkF m 194 #[.val (.int p1), .val (.long p2), .second, .val (.long p3), .second, .val (.long p4), .second, .val (.long p5), .second, .val (.int (2 : Int32)), .val (.ref b178), .val (.ref b180), .val (.ref b182), .val (.long (((0 : Int64) + (own_span p2)) + (own_span p3))), .second, .unset] [(.int (1 : Int32)), (.ref b208), (.ref b182), (.ref b180), (.ref b178), (.ref b206), (.ref b206)]))
    obtain ⟨T210, h210, k210, X210, e210, E210, A210, st210⟩ := newP (aty := .long) X208 hx hZ w1 e208 (g := (mkF m 194 #[.val (.int p1), .val (.long p2), .second, .val (.long p3), .second, .val (.long p4), .second, .val (.long p5), .second, .val (.int (2 : Int32)), .val (.ref b178), .val (.ref b180), .val (.ref b182), .val (.long (((0 : Int64) + (own_span p2)) + (own_span p3))), .second, .unset] [(.int (1 : Int32)), (.ref b208), (.ref b182), (.ref b180), (.ref b178), (.ref b206), (.ref b206)])) rfl (hb hby at_194) rfl (by decide) (cap := 1) (by decide) (by decide) (by decide) (by decide)
    obtain ⟨b210, g210⟩ : ∃ z, z = h208.size := ⟨_, rfl⟩
    rw [← g210] at A210 st210
    have ne_b178_b210 : b178 ≠ b210 := Nat.ne_of_lt (Nat.lt_of_lt_of_le ((((V195.other W198 ne_b178_b180).other W201 ne_b178_b182).ext E206).ext E208).lt (Nat.le_of_eq g210.symm))
    have ne_b180_b210 : b180 ≠ b210 := Nat.ne_of_lt (Nat.lt_of_lt_of_le (((V198.other W201 ne_b180_b182).ext E206).ext E208).lt (Nat.le_of_eq g210.symm))
    have ne_b182_b210 : b182 ≠ b210 := Nat.ne_of_lt (Nat.lt_of_lt_of_le ((V201.ext E206).ext E208).lt (Nat.le_of_eq g210.symm))
    have ne_b206_b210 : b206 ≠ b210 := Nat.ne_of_lt (Nat.lt_of_lt_of_le (A206.ext E208).lt (Nat.le_of_eq g210.symm))
    have ne_b208_b210 : b208 ≠ b210 := Nat.ne_of_lt (Nat.lt_of_lt_of_le V208.lt (Nat.le_of_eq g210.symm))
    have g_b210 : n0 ≤ b210 := Nat.le_trans (Nat.le_trans (Nat.le_trans (Nat.le_trans (Nat.le_trans (Nat.le_trans (Nat.le_trans (Nat.le_trans (Nat.le_trans (Nat.le_trans (Nat.le_trans (Nat.le_trans Z0 E178.1) E180.1) E182.1) (Keep.of_wr W185).1) (Keep.of_wr W188).1) (Keep.of_wr W191).1) (Keep.of_wr W195).1) (Keep.of_wr W198).1) (Keep.of_wr W201).1) E206.1) E208.1) (Nat.le_of_eq g210.symm)
    have sz_b210 : h0.size ≤ b210 := Nat.le_trans K209.1 (Nat.le_of_eq g210.symm)
    have V210 : Arv Z h210 b210 k210 .long (1 : Int32) (([(0 : Int64)] : List Int64).map Value.long) (Value.long (0 : Int64)) := own_newJ A210 (by decide) 1
    have K211 : Keep h0 h210 [] := K209.ext E210
    refine own_step st210 ?_
    show own_Goes p e below _ (T210.setTop (mkF m 196 #[.val (.int p1), .val (.long p2), .second, .val (.long p3), .second, .val (.long p4), .second, .val (.long p5), .second, .val (.int (2 : Int32)), .val (.ref b178), .val (.ref b180), .val (.ref b182), .val (.long (((0 : Int64) + (own_span p2)) + (own_span p3))), .second, .unset] [(.ref b210), (.ref b208), (.ref b182), (.ref b180), (.ref b178), (.ref b206), (.ref b206)]))
    obtain ⟨_, _, ⟨T212, L212, k212, n212⟩, -, X212, ⟨Lc212, hQ212, l212, y212, z212⟩, st212⟩ := X210.specialBack hx (y := (⟨"com/example/concepta/concepta/store/OidSet$Rows", "<init>", "([J[I[I[J[J)V"⟩ : MethodName)) rfl hown (mvT hZ w6) (mvT hZ w7) (mvT hZ w8) (by decide) (backOf (W := 1) (own_b2 l Z a0 hw [] b206 b178 b180 b182 b208 b210 (.null) (.null) (.null) (.null) (.null) h210 n0 (Nat.le_trans (Nat.le_trans (Nat.le_trans (Nat.le_trans (Nat.le_trans (Nat.le_trans (Nat.le_trans (Nat.le_trans (Nat.le_trans (Nat.le_trans (Nat.le_trans (Nat.le_trans Z0 E178.1) E180.1) E182.1) (Keep.of_wr W185).1) (Keep.of_wr W188).1) (Keep.of_wr W191).1) (Keep.of_wr W195).1) (Keep.of_wr W198).1) (Keep.of_wr W201).1) E206.1) E208.1) E210.1) ((A206.ext E208).ext E210) g_b206 ((F_regions_b206.ext E208).ext E210) ((F_firsts_b206.ext E208).ext E210) ((F_lasts_b206.ext E208).ext E210) ((F_blocks_b206.ext E208).ext E210) ((F_bits_b206.ext E208).ext E210)) hZ w8 w5 (by decide) (by decide)) (g := (mkF m 196 #[.val (.int p1), .val (.long p2), .second, .val (.long p3), .second, .val (.long p4), .second, .val (.long p5), .second, .val (.int (2 : Int32)), .val (.ref b178), .val (.ref b180), .val (.ref b182), .val (.long (((0 : Int64) + (own_span p2)) + (own_span p3))), .second, .unset] [(.ref b210), (.ref b208), (.ref b182), (.ref b180), (.ref b178), (.ref b206), (.ref b206)])) rfl (by rw [hml]; rfl) (Steps.refl _) (a := b206) (argsL := [(.ref b178), (.ref b180), (.ref b182), (.ref b208), (.ref b210)]) (rest := [(.ref b206)]) (lenOf own_pd2 rfl) rfl (by show 2 * 0 + _ ≤ _; exact Nat.le_of_eq rfl) (hb hby at_196) (fun _ _ => ⟨rfl, e210, (by decide : 6 + 0 ≤ _), (by decide : 13 + 0 ≤ _)⟩)
    dsimp only [Pt.U, Pt.locs, Pt.cells, Pt.slots] at X212 l212 y212 z212 st212 hQ212
    subst y212 z212
    obtain ⟨rfl, N212q, K212c, f212_0, f212_1, f212_2, f212_3⟩ := hQ212
    have N212 : Fr n0 L212 := by rw [l212]; exact Fr.app N203 N212q
    refine own_jump st212 ?_
    have K213 : Keep h0 T212.heap [] := K211.trans K212c (allS (Or.inr sz_b206) all0)
    show own_Goes p e below _ (T212.setTop (mkF m 199 #[.val (.int p1), .val (.long p2), .second, .val (.long p3), .second, .val (.long p4), .second, .val (.long p5), .second, .val (.int (2 : Int32)), .val (.ref b178), .val (.ref b180), .val (.ref b182), .val (.long (((0 : Int64) + (own_span p2)) + (own_span p3))), .second, .unset] [(.ref b206)]))
    refine own_step (fun t k => XS.astore X212.here hx rfl (hb hby at_199) rfl rfl (l' := #[.val (.int p1), .val (.long p2), .second, .val (.long p3), .second, .val (.long p4), .second, .val (.long p5), .second, .val (.int (2 : Int32)), .val (.ref b178), .val (.ref b180), .val (.ref b182), .val (.long (((0 : Int64) + (own_span p2)) + (own_span p3))), .second, .val (.ref b206)]) rfl k) ?_
    show own_Goes p e below _ (T212.setTop (mkF m 201 #[.val (.int p1), .val (.long p2), .second, .val (.long p3), .second, .val (.long p4), .second, .val (.long p5), .second, .val (.int (2 : Int32)), .val (.ref b178), .val (.ref b180), .val (.ref b182), .val (.long (((0 : Int64) + (own_span p2)) + (own_span p3))), .second, .val (.ref b206)] []))
    refine own_step (fun t k => XS.aload X212.here hx rfl (hb hby at_201) rfl rfl k) ?_
    show own_Goes p e below _ (T212.setTop (mkF m 203 #[.val (.int p1), .val (.long p2), .second, .val (.long p3), .second, .val (.long p4), .second, .val (.long p5), .second, .val (.int (2 : Int32)), .val (.ref b178), .val (.ref b180), .val (.ref b182), .val (.long (((0 : Int64) + (own_span p2)) + (own_span p3))), .second, .val (.ref b206)] [(.ref b206)]))
    obtain ⟨cq214, kq214, q214a, q214b, q214c⟩ := isOf hZ rfl f212_0
    obtain ⟨_, _, ⟨T214, L214, k214, n214⟩, -, X214, ⟨Lc214, hQ214, l214, y214, z214⟩, st214⟩ := X212.virtualBack hx (y := (⟨"com/example/concepta/concepta/store/OidSet$Rows", "blockCount", "()I"⟩ : MethodName)) (z := (⟨"com/example/concepta/concepta/store/OidSet$Rows", "blockCount", "()I"⟩ : MethodName)) hown (mvT hZ w27) (mvT hZ w28) (notFace_of_selects (args := #[]) (mvT hZ w30)) (mvT hZ w30) (mvT hZ w29) (by decide) (backOf (W := 0) (own_c2 l Z a0 hw [] b206 (b178) (b180) (b182) (k178) (k180) (k182) (([p2, p3] : List Int64)) (([(own_first p2), (own_first p3)] : List Int32)) (([(own_last p2), (own_last p3)] : List Int32)) T212.heap n0 (Nat.le_trans (Nat.le_trans (Nat.le_trans (Nat.le_trans (Nat.le_trans (Nat.le_trans (Nat.le_trans (Nat.le_trans (Nat.le_trans (Nat.le_trans (Nat.le_trans (Nat.le_trans (Nat.le_trans Z0 E178.1) E180.1) E182.1) (Keep.of_wr W185).1) (Keep.of_wr W188).1) (Keep.of_wr W191).1) (Keep.of_wr W195).1) (Keep.of_wr W198).1) (Keep.of_wr W201).1) E206.1) E208.1) E210.1) K212c.1) f212_1 f212_2 f212_3 ((((((V195.other W198 ne_b178_b180).other W201 ne_b178_b182).ext E206).ext E208).ext E210).keep K212c (ninS ne_b178_b206 nin0)) (((((V198.other W201 ne_b180_b182).ext E206).ext E208).ext E210).keep K212c (ninS ne_b180_b206 nin0)) ((((V201.ext E206).ext E208).ext E210).keep K212c (ninS ne_b182_b206 nin0))) hZ w31 w5 (by decide) (by decide)) q214a q214c (g := (mkF m 203 #[.val (.int p1), .val (.long p2), .second, .val (.long p3), .second, .val (.long p4), .second, .val (.long p5), .second, .val (.int (2 : Int32)), .val (.ref b178), .val (.ref b180), .val (.ref b182), .val (.long (((0 : Int64) + (own_span p2)) + (own_span p3))), .second, .val (.ref b206)] [(.ref b206)])) rfl (by rw [hml]; rfl) (Steps.refl _) (argsL := []) (rest := []) (lenOf own_pd3 rfl) rfl (by show 2 * 0 + _ ≤ _; exact Nat.le_of_eq rfl) (hb hby at_203) (fun _ _ => ⟨rfl, rfl, (by decide : 6 + 0 ≤ _), (by decide : 13 + 0 ≤ _)⟩)
    dsimp only [Pt.U, Pt.locs, Pt.cells, Pt.slots] at X214 l214 y214 z214 st214 hQ214
    subst y214 z214
    obtain ⟨rfl, N214q, eh214⟩ := hQ214
    have N214 : Fr n0 L214 := by rw [l214]; exact Fr.app N212 N214q
    refine own_jump st214 ?_
    show own_Goes p e below _ (T214.setTop (mkF m 206 #[.val (.int p1), .val (.long p2), .second, .val (.long p3), .second, .val (.long p4), .second, .val (.long p5), .second, .val (.int (2 : Int32)), .val (.ref b178), .val (.ref b180), .val (.ref b182), .val (.long (((0 : Int64) + (own_span p2)) + (own_span p3))), .second, .val (.ref b206)] [(.int (((0 : Int32) + (((([(own_last p2), (own_last p3)] : List Int32).getD (0 : Int32).toNatClampNeg 0) - (([(own_first p2), (own_first p3)] : List Int32).getD (0 : Int32).toNatClampNeg 0)) + (1 : Int32))) + (((([(own_last p2), (own_last p3)] : List Int32).getD (1 : Int32).toNatClampNeg 0) - (([(own_first p2), (own_first p3)] : List Int32).getD (1 : Int32).toNatClampNeg 0)) + (1 : Int32))))]))
    refine own_step (fun t k => XS.lload X214.here hx rfl (hb hby at_206) rfl k) ?_
    show own_Goes p e below _ (T214.setTop (mkF m 208 #[.val (.int p1), .val (.long p2), .second, .val (.long p3), .second, .val (.long p4), .second, .val (.long p5), .second, .val (.int (2 : Int32)), .val (.ref b178), .val (.ref b180), .val (.ref b182), .val (.long (((0 : Int64) + (own_span p2)) + (own_span p3))), .second, .val (.ref b206)] [(.long (((0 : Int64) + (own_span p2)) + (own_span p3))), (.int (((0 : Int32) + (((([(own_last p2), (own_last p3)] : List Int32).getD (0 : Int32).toNatClampNeg 0) - (([(own_first p2), (own_first p3)] : List Int32).getD (0 : Int32).toNatClampNeg 0)) + (1 : Int32))) + (((([(own_last p2), (own_last p3)] : List Int32).getD (1 : Int32).toNatClampNeg 0) - (([(own_first p2), (own_first p3)] : List Int32).getD (1 : Int32).toNatClampNeg 0)) + (1 : Int32))))]))
    refine own_step (fun t k => XS.l2i X214.here hx rfl (hb hby at_208) rfl k) ?_
    show own_Goes p e below _ (T214.setTop (mkF m 209 #[.val (.int p1), .val (.long p2), .second, .val (.long p3), .second, .val (.long p4), .second, .val (.long p5), .second, .val (.int (2 : Int32)), .val (.ref b178), .val (.ref b180), .val (.ref b182), .val (.long (((0 : Int64) + (own_span p2)) + (own_span p3))), .second, .val (.ref b206)] [(.int ((((0 : Int64) + (own_span p2)) + (own_span p3)).toInt32)), (.int (((0 : Int32) + (((([(own_last p2), (own_last p3)] : List Int32).getD (0 : Int32).toNatClampNeg 0) - (([(own_first p2), (own_first p3)] : List Int32).getD (0 : Int32).toNatClampNeg 0)) + (1 : Int32))) + (((([(own_last p2), (own_last p3)] : List Int32).getD (1 : Int32).toNatClampNeg 0) - (([(own_first p2), (own_first p3)] : List Int32).getD (1 : Int32).toNatClampNeg 0)) + (1 : Int32))))]))
    refine own_step (S' := T214.setTop (mkF m 217 #[.val (.int p1), .val (.long p2), .second, .val (.long p3), .second, .val (.long p4), .second, .val (.long p5), .second, .val (.int (2 : Int32)), .val (.ref b178), .val (.ref b180), .val (.ref b182), .val (.long (((0 : Int64) + (own_span p2)) + (own_span p3))), .second, .val (.ref b206)] [(.int (if (((0 : Int32) + (((([(own_last p2), (own_last p3)] : List Int32).getD (0 : Int32).toNatClampNeg 0) - (([(own_first p2), (own_first p3)] : List Int32).getD (0 : Int32).toNatClampNeg 0)) + (1 : Int32))) + (((([(own_last p2), (own_last p3)] : List Int32).getD (1 : Int32).toNatClampNeg 0) - (([(own_first p2), (own_first p3)] : List Int32).getD (1 : Int32).toNatClampNeg 0)) + (1 : Int32))) = ((((0 : Int64) + (own_span p2)) + (own_span p3)).toInt32) then (1 : Int32) else (0 : Int32)))])) (fun t k => ?_) ?_
    · show Steps p.tables e below (T214.setTop (mkF m 209 #[.val (.int p1), .val (.long p2), .second, .val (.long p3), .second, .val (.long p4), .second, .val (.long p5), .second, .val (.int (2 : Int32)), .val (.ref b178), .val (.ref b180), .val (.ref b182), .val (.long (((0 : Int64) + (own_span p2)) + (own_span p3))), .second, .val (.ref b206)] [(.int ((((0 : Int64) + (own_span p2)) + (own_span p3)).toInt32)), (.int (((0 : Int32) + (((([(own_last p2), (own_last p3)] : List Int32).getD (0 : Int32).toNatClampNeg 0) - (([(own_first p2), (own_first p3)] : List Int32).getD (0 : Int32).toNatClampNeg 0)) + (1 : Int32))) + (((([(own_last p2), (own_last p3)] : List Int32).getD (1 : Int32).toNatClampNeg 0) - (([(own_first p2), (own_first p3)] : List Int32).getD (1 : Int32).toNatClampNeg 0)) + (1 : Int32))))])) _
      by_cases hc215 : (((0 : Int32) + (((([(own_last p2), (own_last p3)] : List Int32).getD (0 : Int32).toNatClampNeg 0) - (([(own_first p2), (own_first p3)] : List Int32).getD (0 : Int32).toNatClampNeg 0)) + (1 : Int32))) + (((([(own_last p2), (own_last p3)] : List Int32).getD (1 : Int32).toNatClampNeg 0) - (([(own_first p2), (own_first p3)] : List Int32).getD (1 : Int32).toNatClampNeg 0)) + (1 : Int32))) = ((((0 : Int64) + (own_span p2)) + (own_span p3)).toInt32)
      · --
        refine XS.icmpNo X214.here hx rfl (hb hby at_209) rfl (teq hc215).2 ?_
        show Steps p.tables e below (T214.setTop (mkF m 212 #[.val (.int p1), .val (.long p2), .second, .val (.long p3), .second, .val (.long p4), .second, .val (.long p5), .second, .val (.int (2 : Int32)), .val (.ref b178), .val (.ref b180), .val (.ref b182), .val (.long (((0 : Int64) + (own_span p2)) + (own_span p3))), .second, .val (.ref b206)] [])) _
        refine XS.iconst X214.here hx rfl (hb hby at_212) ?_
        show Steps p.tables e below (T214.setTop (mkF m 213 #[.val (.int p1), .val (.long p2), .second, .val (.long p3), .second, .val (.long p4), .second, .val (.long p5), .second, .val (.int (2 : Int32)), .val (.ref b178), .val (.ref b180), .val (.ref b182), .val (.long (((0 : Int64) + (own_span p2)) + (own_span p3))), .second, .val (.ref b206)] [(.int (1 : Int32))])) _
        refine XS.goto X214.here hx rfl (pc0 := 213) (pc' := 217) rfl (hb hby at_213) (by decide) (by decide) ?_
        show Steps p.tables e below (T214.setTop (mkF m 217 #[.val (.int p1), .val (.long p2), .second, .val (.long p3), .second, .val (.long p4), .second, .val (.long p5), .second, .val (.int (2 : Int32)), .val (.ref b178), .val (.ref b180), .val (.ref b182), .val (.long (((0 : Int64) + (own_span p2)) + (own_span p3))), .second, .val (.ref b206)] [(.int (1 : Int32))])) _
        simp only [if_pos hc215] at k
        exact k
      · --
        refine XS.icmpYes X214.here hx rfl (pc0 := 209) (pc' := 216) rfl (hb hby at_209) rfl (feq hc215).2 (by decide) (by decide) ?_
        show Steps p.tables e below (T214.setTop (mkF m 216 #[.val (.int p1), .val (.long p2), .second, .val (.long p3), .second, .val (.long p4), .second, .val (.long p5), .second, .val (.int (2 : Int32)), .val (.ref b178), .val (.ref b180), .val (.ref b182), .val (.long (((0 : Int64) + (own_span p2)) + (own_span p3))), .second, .val (.ref b206)] [])) _
        refine XS.iconst X214.here hx rfl (hb hby at_216) ?_
        show Steps p.tables e below (T214.setTop (mkF m 217 #[.val (.int p1), .val (.long p2), .second, .val (.long p3), .second, .val (.long p4), .second, .val (.long p5), .second, .val (.int (2 : Int32)), .val (.ref b178), .val (.ref b180), .val (.ref b182), .val (.long (((0 : Int64) + (own_span p2)) + (own_span p3))), .second, .val (.ref b206)] [(.int (0 : Int32))])) _
        simp only [if_neg hc215] at k
        exact k
    show own_Goes p e below _ (T214.setTop (mkF m 217 #[.val (.int p1), .val (.long p2), .second, .val (.long p3), .second, .val (.long p4), .second, .val (.long p5), .second, .val (.int (2 : Int32)), .val (.ref b178), .val (.ref b180), .val (.ref b182), .val (.long (((0 : Int64) + (own_span p2)) + (own_span p3))), .second, .val (.ref b206)] [(.int (if (((0 : Int32) + (((([(own_last p2), (own_last p3)] : List Int32).getD (0 : Int32).toNatClampNeg 0) - (([(own_first p2), (own_first p3)] : List Int32).getD (0 : Int32).toNatClampNeg 0)) + (1 : Int32))) + (((([(own_last p2), (own_last p3)] : List Int32).getD (1 : Int32).toNatClampNeg 0) - (([(own_first p2), (own_first p3)] : List Int32).getD (1 : Int32).toNatClampNeg 0)) + (1 : Int32))) = ((((0 : Int64) + (own_span p2)) + (own_span p3)).toInt32) then (1 : Int32) else (0 : Int32)))]))
    refine own_retL X214 hx hlk Bd.returns (hb hby at_217) (?_ : (if (((0 : Int32) + (((([(own_last p2), (own_last p3)] : List Int32).getD (0 : Int32).toNatClampNeg 0) - (([(own_first p2), (own_first p3)] : List Int32).getD (0 : Int32).toNatClampNeg 0)) + (1 : Int32))) + (((([(own_last p2), (own_last p3)] : List Int32).getD (1 : Int32).toNatClampNeg 0) - (([(own_first p2), (own_first p3)] : List Int32).getD (1 : Int32).toNatClampNeg 0)) + (1 : Int32))) = ((((0 : Int64) + (own_span p2)) + (own_span p3)).toInt32) then (1 : Int32) else (0 : Int32)) = 1) N214 (by decide) (by decide)
    exact own_plain2 p2 p3 p4 p5
  · --
    show own_Goes p e below _ (s₁.setTop (mkF m 8 #[.val (.int p1), .val (.long p2), .second, .val (.long p3), .second, .val (.long p4), .second, .val (.long p5), .second, .val (.int (3 : Int32)), .unset, .unset, .unset, .unset, .unset, .unset] []))
    refine own_step (fun t k => XS.iload X0.here hx rfl (hb hby at_8) rfl k) ?_
    show own_Goes p e below _ (s₁.setTop (mkF m 10 #[.val (.int p1), .val (.long p2), .second, .val (.long p3), .second, .val (.long p4), .second, .val (.long p5), .second, .val (.int (3 : Int32)), .unset, .unset, .unset, .unset, .unset, .unset] [(.int (3 : Int32))]))
    obtain ⟨T216, h216, k216, X216, e216, E216, A216, st216⟩ := newP (aty := .long) X0 hx hZ w1 e0 (g := (mkF m 10 #[.val (.int p1), .val (.long p2), .second, .val (.long p3), .second, .val (.long p4), .second, .val (.long p5), .second, .val (.int (3 : Int32)), .unset, .unset, .unset, .unset, .unset, .unset] [(.int (3 : Int32))])) rfl (hb hby at_10) rfl (by decide) (cap := 3) (by decide) (by decide) (by decide) (by decide)
    obtain ⟨b216, g216⟩ : ∃ z, z = h0.size := ⟨_, rfl⟩
    rw [← g216] at A216 st216
    have g_b216 : n0 ≤ b216 := Nat.le_trans Z0 (Nat.le_of_eq g216.symm)
    have sz_b216 : h0.size ≤ b216 := Nat.le_trans K0.1 (Nat.le_of_eq g216.symm)
    have V216 : Arv Z h216 b216 k216 .long (3 : Int32) (([(0 : Int64), (0 : Int64), (0 : Int64)] : List Int64).map Value.long) (Value.long (0 : Int64)) := own_newJ A216 (by decide) 3
    have K217 : Keep h0 h216 [] := K0.ext E216
    refine own_step st216 ?_
    show own_Goes p e below _ (T216.setTop (mkF m 12 #[.val (.int p1), .val (.long p2), .second, .val (.long p3), .second, .val (.long p4), .second, .val (.long p5), .second, .val (.int (3 : Int32)), .unset, .unset, .unset, .unset, .unset, .unset] [(.ref b216)]))
    refine own_step (fun t k => XS.astore X216.here hx rfl (hb hby at_12) rfl rfl (l' := #[.val (.int p1), .val (.long p2), .second, .val (.long p3), .second, .val (.long p4), .second, .val (.long p5), .second, .val (.int (3 : Int32)), .val (.ref b216), .unset, .unset, .unset, .unset, .unset]) rfl k) ?_
    show own_Goes p e below _ (T216.setTop (mkF m 14 #[.val (.int p1), .val (.long p2), .second, .val (.long p3), .second, .val (.long p4), .second, .val (.long p5), .second, .val (.int (3 : Int32)), .val (.ref b216), .unset, .unset, .unset, .unset, .unset] []))
    refine own_step (fun t k => XS.iload X216.here hx rfl (hb hby at_14) rfl k) ?_
    show own_Goes p e below _ (T216.setTop (mkF m 16 #[.val (.int p1), .val (.long p2), .second, .val (.long p3), .second, .val (.long p4), .second, .val (.long p5), .second, .val (.int (3 : Int32)), .val (.ref b216), .unset, .unset, .unset, .unset, .unset] [(.int (3 : Int32))]))
    obtain ⟨T218, h218, k218, X218, e218, E218, A218, st218⟩ := newP (aty := .int) X216 hx hZ w2 e216 (g := (mkF m 16 #[.val (.int p1), .val (.long p2), .second, .val (.long p3), .second, .val (.long p4), .second, .val (.long p5), .second, .val (.int (3 : Int32)), .val (.ref b216), .unset, .unset, .unset, .unset, .unset] [(.int (3 : Int32))])) rfl (hb hby at_16) rfl (by decide) (cap := 3) (by decide) (by decide) (by decide) (by decide)
    obtain ⟨b218, g218⟩ : ∃ z, z = h216.size := ⟨_, rfl⟩
    rw [← g218] at A218 st218
    have ne_b216_b218 : b216 ≠ b218 := Nat.ne_of_lt (Nat.lt_of_lt_of_le V216.lt (Nat.le_of_eq g218.symm))
    have g_b218 : n0 ≤ b218 := Nat.le_trans (Nat.le_trans Z0 E216.1) (Nat.le_of_eq g218.symm)
    have sz_b218 : h0.size ≤ b218 := Nat.le_trans K217.1 (Nat.le_of_eq g218.symm)
    have V218 : Arv Z h218 b218 k218 .int (3 : Int32) (([(0 : Int32), (0 : Int32), (0 : Int32)] : List Int32).map Value.int) (Value.int (0 : Int32)) := own_newI A218 (by decide) 3
    have K219 : Keep h0 h218 [] := K217.ext E218
    refine own_step st218 ?_
    show own_Goes p e below _ (T218.setTop (mkF m 18 #[.val (.int p1), .val (.long p2), .second, .val (.long p3), .second, .val (.long p4), .second, .val (.long p5), .second, .val (.int (3 : Int32)), .val (.ref b216), .unset, .unset, .unset, .unset, .unset] [(.ref b218)]))
    refine own_step (fun t k => XS.astore X218.here hx rfl (hb hby at_18) rfl rfl (l' := #[.val (.int p1), .val (.long p2), .second, .val (.long p3), .second, .val (.long p4), .second, .val (.long p5), .second, .val (.int (3 : Int32)), .val (.ref b216), .val (.ref b218), .unset, .unset, .unset, .unset]) rfl k) ?_
    show own_Goes p e below _ (T218.setTop (mkF m 20 #[.val (.int p1), .val (.long p2), .second, .val (.long p3), .second, .val (.long p4), .second, .val (.long p5), .second, .val (.int (3 : Int32)), .val (.ref b216), .val (.ref b218), .unset, .unset, .unset, .unset] []))
    refine own_step (fun t k => XS.iload X218.here hx rfl (hb hby at_20) rfl k) ?_
    show own_Goes p e below _ (T218.setTop (mkF m 22 #[.val (.int p1), .val (.long p2), .second, .val (.long p3), .second, .val (.long p4), .second, .val (.long p5), .second, .val (.int (3 : Int32)), .val (.ref b216), .val (.ref b218), .unset, .unset, .unset, .unset] [(.int (3 : Int32))]))
    obtain ⟨T220, h220, k220, X220, e220, E220, A220, st220⟩ := newP (aty := .int) X218 hx hZ w2 e218 (g := (mkF m 22 #[.val (.int p1), .val (.long p2), .second, .val (.long p3), .second, .val (.long p4), .second, .val (.long p5), .second, .val (.int (3 : Int32)), .val (.ref b216), .val (.ref b218), .unset, .unset, .unset, .unset] [(.int (3 : Int32))])) rfl (hb hby at_22) rfl (by decide) (cap := 3) (by decide) (by decide) (by decide) (by decide)
    obtain ⟨b220, g220⟩ : ∃ z, z = h218.size := ⟨_, rfl⟩
    rw [← g220] at A220 st220
    have ne_b216_b220 : b216 ≠ b220 := Nat.ne_of_lt (Nat.lt_of_lt_of_le (V216.ext E218).lt (Nat.le_of_eq g220.symm))
    have ne_b218_b220 : b218 ≠ b220 := Nat.ne_of_lt (Nat.lt_of_lt_of_le V218.lt (Nat.le_of_eq g220.symm))
    have g_b220 : n0 ≤ b220 := Nat.le_trans (Nat.le_trans (Nat.le_trans Z0 E216.1) E218.1) (Nat.le_of_eq g220.symm)
    have sz_b220 : h0.size ≤ b220 := Nat.le_trans K219.1 (Nat.le_of_eq g220.symm)
    have V220 : Arv Z h220 b220 k220 .int (3 : Int32) (([(0 : Int32), (0 : Int32), (0 : Int32)] : List Int32).map Value.int) (Value.int (0 : Int32)) := own_newI A220 (by decide) 3
    have K221 : Keep h0 h220 [] := K219.ext E220
    refine own_step st220 ?_
    show own_Goes p e below _ (T220.setTop (mkF m 24 #[.val (.int p1), .val (.long p2), .second, .val (.long p3), .second, .val (.long p4), .second, .val (.long p5), .second, .val (.int (3 : Int32)), .val (.ref b216), .val (.ref b218), .unset, .unset, .unset, .unset] [(.ref b220)]))
    refine own_step (fun t k => XS.astore X220.here hx rfl (hb hby at_24) rfl rfl (l' := #[.val (.int p1), .val (.long p2), .second, .val (.long p3), .second, .val (.long p4), .second, .val (.long p5), .second, .val (.int (3 : Int32)), .val (.ref b216), .val (.ref b218), .val (.ref b220), .unset, .unset, .unset]) rfl k) ?_
    show own_Goes p e below _ (T220.setTop (mkF m 26 #[.val (.int p1), .val (.long p2), .second, .val (.long p3), .second, .val (.long p4), .second, .val (.long p5), .second, .val (.int (3 : Int32)), .val (.ref b216), .val (.ref b218), .val (.ref b220), .unset, .unset, .unset] []))
    refine own_step (fun t k => XS.lconst X220.here hx rfl (hb hby at_26) k) ?_
    show own_Goes p e below _ (T220.setTop (mkF m 27 #[.val (.int p1), .val (.long p2), .second, .val (.long p3), .second, .val (.long p4), .second, .val (.long p5), .second, .val (.int (3 : Int32)), .val (.ref b216), .val (.ref b218), .val (.ref b220), .unset, .unset, .unset] [(.long (0 : Int64))]))
    refine own_step (fun t k => XS.lstore X220.here hx rfl (hb hby at_27) rfl (l' := #[.val (.int p1), .val (.long p2), .second, .val (.long p3), .second, .val (.long p4), .second, .val (.long p5), .second, .val (.int (3 : Int32)), .val (.ref b216), .val (.ref b218), .val (.ref b220), .val (.long (0 : Int64)), .second, .unset]) rfl k) ?_
    show own_Goes p e below _ (T220.setTop (mkF m 29 #[.val (.int p1), .val (.long p2), .second, .val (.long p3), .second, .val (.long p4), .second, .val (.long p5), .second, .val (.int (3 : Int32)), .val (.ref b216), .val (.ref b218), .val (.ref b220), .val (.long (0 : Int64)), .second, .unset] []))
    refine own_step (fun t k => XS.iload X220.here hx rfl (hb hby at_29) rfl k) ?_
    show own_Goes p e below _ (T220.setTop (mkF m 31 #[.val (.int p1), .val (.long p2), .second, .val (.long p3), .second, .val (.long p4), .second, .val (.long p5), .second, .val (.int (3 : Int32)), .val (.ref b216), .val (.ref b218), .val (.ref b220), .val (.long (0 : Int64)), .second, .unset] [(.int (3 : Int32))]))
    have hc222 : (0 : Int32) < (3 : Int32) := by decide
    refine own_step (fun t k => XS.ifNo X220.here hx rfl (hb hby at_31) rfl ((if0 _ _).trans (tlt hc222).2.2.2) k) ?_
    show own_Goes p e below _ (T220.setTop (mkF m 34 #[.val (.int p1), .val (.long p2), .second, .val (.long p3), .second, .val (.long p4), .second, .val (.long p5), .second, .val (.int (3 : Int32)), .val (.ref b216), .val (.ref b218), .val (.ref b220), .val (.long (0 : Int64)), .second, .unset] []))
    refine own_step (fun t k => XS.aload X220.here hx rfl (hb hby at_34) rfl rfl k) ?_
    show own_Goes p e below _ (T220.setTop (mkF m 36 #[.val (.int p1), .val (.long p2), .second, .val (.long p3), .second, .val (.long p4), .second, .val (.long p5), .second, .val (.int (3 : Int32)), .val (.ref b216), .val (.ref b218), .val (.ref b220), .val (.long (0 : Int64)), .second, .unset] [(.ref b216)]))
    refine own_step (fun t k => XS.iconst X220.here hx rfl (hb hby at_36) k) ?_
    show own_Goes p e below _ (T220.setTop (mkF m 37 #[.val (.int p1), .val (.long p2), .second, .val (.long p3), .second, .val (.long p4), .second, .val (.long p5), .second, .val (.int (3 : Int32)), .val (.ref b216), .val (.ref b218), .val (.ref b220), .val (.long (0 : Int64)), .second, .unset] [(.int (0 : Int32)), (.ref b216)]))
    refine own_step (fun t k => XS.lloadN X220.here hx rfl (hb hby at_37) rfl k) ?_
    show own_Goes p e below _ (T220.setTop (mkF m 38 #[.val (.int p1), .val (.long p2), .second, .val (.long p3), .second, .val (.long p4), .second, .val (.long p5), .second, .val (.int (3 : Int32)), .val (.ref b216), .val (.ref b218), .val (.ref b220), .val (.long (0 : Int64)), .second, .unset] [(.long p2), (.int (0 : Int32)), (.ref b216)]))
    obtain ⟨T223, h223, X223, e223, W223, V223, st223⟩ := own_lst X220 hx hZ e220 ((V216.ext E218).ext E220) (j := (0 : Int32)) ⟨by decide, by decide⟩ (0) rfl (Nat.le_of_ble_eq_true rfl) (g := (mkF m 38 #[.val (.int p1), .val (.long p2), .second, .val (.long p3), .second, .val (.long p4), .second, .val (.long p5), .second, .val (.int (3 : Int32)), .val (.ref b216), .val (.ref b218), .val (.ref b220), .val (.long (0 : Int64)), .second, .unset] [(.long p2), (.int (0 : Int32)), (.ref b216)])) rfl rfl (hb hby at_38)
    have V223 : Arv Z h223 b216 k216 .long (3 : Int32) (([p2, (0 : Int64), (0 : Int64)] : List Int64).map Value.long) (Value.long 0) := V223
    have N223 := Fr.snoc X223 N0 g_b216
    have K224 : Keep h0 h223 [] := K221.wr W223 (Or.inr sz_b216)
    refine own_step st223 ?_
    show own_Goes p e below _ (T223.setTop (mkF m 39 #[.val (.int p1), .val (.long p2), .second, .val (.long p3), .second, .val (.long p4), .second, .val (.long p5), .second, .val (.int (3 : Int32)), .val (.ref b216), .val (.ref b218), .val (.ref b220), .val (.long (0 : Int64)), .second, .unset] []))
    refine own_step (fun t k => XS.aload X223.here hx rfl (hb hby at_39) rfl rfl k) ?_
    show own_Goes p e below _ (T223.setTop (mkF m 41 #[.val (.int p1), .val (.long p2), .second, .val (.long p3), .second, .val (.long p4), .second, .val (.long p5), .second, .val (.int (3 : Int32)), .val (.ref b216), .val (.ref b218), .val (.ref b220), .val (.long (0 : Int64)), .second, .unset] [(.ref b218)]))
    refine own_step (fun t k => XS.iconst X223.here hx rfl (hb hby at_41) k) ?_
    show own_Goes p e below _ (T223.setTop (mkF m 42 #[.val (.int p1), .val (.long p2), .second, .val (.long p3), .second, .val (.long p4), .second, .val (.long p5), .second, .val (.int (3 : Int32)), .val (.ref b216), .val (.ref b218), .val (.ref b220), .val (.long (0 : Int64)), .second, .unset] [(.int (0 : Int32)), (.ref b218)]))
    refine own_step (fun t k => XS.lloadN X223.here hx rfl (hb hby at_42) rfl k) ?_
    show own_Goes p e below _ (T223.setTop (mkF m 43 #[.val (.int p1), .val (.long p2), .second, .val (.long p3), .second, .val (.long p4), .second, .val (.long p5), .second, .val (.int (3 : Int32)), .val (.ref b216), .val (.ref b218), .val (.ref b220), .val (.long (0 : Int64)), .second, .unset] [(.long p2), (.int (0 : Int32)), (.ref b218)]))
    obtain ⟨_, _, ⟨T225, L225, k225, n225⟩, -, X225, ⟨Lc225, hQ225, l225, y225, z225⟩, st225⟩ := Jvm.LawKit.callS X223 hx (y := (⟨"com/example/concepta/concepta/store/RowsBlockCountPinLaw", "first", "(J)I"⟩ : MethodName)) hown (mvT hZ w32) (mvT hZ w33) (mvT hZ w34) (mvT hZ w35) (by decide) (backOf (W := 2) (own_b3 l Z a0 hw [] p2  h223 n0 (Nat.le_trans (Nat.le_trans (Nat.le_trans (Nat.le_trans Z0 E216.1) E218.1) E220.1) (Keep.of_wr W223).1) ) hZ w35 w34 (by decide) (by decide)) (g := (mkF m 43 #[.val (.int p1), .val (.long p2), .second, .val (.long p3), .second, .val (.long p4), .second, .val (.long p5), .second, .val (.int (3 : Int32)), .val (.ref b216), .val (.ref b218), .val (.ref b220), .val (.long (0 : Int64)), .second, .unset] [(.long p2), (.int (0 : Int32)), (.ref b218)])) rfl (by rw [hml]; rfl) (argsL := [(.long p2)]) (rest := [(.int (0 : Int32)), (.ref b218)]) (lenOf own_pd1 rfl) rfl (by show 2 * 0 + _ ≤ _; exact Nat.le_of_eq rfl) (hb hby at_43) (fun _ _ => ⟨rfl, e223, (by decide : 3 + 0 ≤ _), (by decide : 9 + 0 ≤ _)⟩)
    dsimp only [Pt.U, Pt.locs, Pt.cells, Pt.slots] at X225 l225 y225 z225 st225 hQ225
    subst y225 z225
    obtain ⟨rfl, N225q, eh225⟩ := hQ225
    have N225 : Fr n0 L225 := by rw [l225]; exact Fr.app N223 N225q
    refine own_step st225 ?_
    show own_Goes p e below _ (T225.setTop (mkF m 46 #[.val (.int p1), .val (.long p2), .second, .val (.long p3), .second, .val (.long p4), .second, .val (.long p5), .second, .val (.int (3 : Int32)), .val (.ref b216), .val (.ref b218), .val (.ref b220), .val (.long (0 : Int64)), .second, .unset] [(.int (own_first p2)), (.int (0 : Int32)), (.ref b218)]))
    obtain ⟨T226, h226, X226, e226, W226, V226, st226⟩ := own_ist X225 hx hZ eh225 ((V218.ext E220).other W223 (Ne.symm ne_b216_b218)) (j := (0 : Int32)) ⟨by decide, by decide⟩ (0) rfl (Nat.le_of_ble_eq_true rfl) (g := (mkF m 46 #[.val (.int p1), .val (.long p2), .second, .val (.long p3), .second, .val (.long p4), .second, .val (.long p5), .second, .val (.int (3 : Int32)), .val (.ref b216), .val (.ref b218), .val (.ref b220), .val (.long (0 : Int64)), .second, .unset] [(.int (own_first p2)), (.int (0 : Int32)), (.ref b218)])) rfl rfl (hb hby at_46)
    have V226 : Arv Z h226 b218 k218 .int (3 : Int32) (([(own_first p2), (0 : Int32), (0 : Int32)] : List Int32).map Value.int) (Value.int 0) := V226
    have N226 := Fr.snoc X226 N225 g_b218
    have K227 : Keep h0 h226 [] := K224.wr W226 (Or.inr sz_b218)
    refine own_step st226 ?_
    show own_Goes p e below _ (T226.setTop (mkF m 47 #[.val (.int p1), .val (.long p2), .second, .val (.long p3), .second, .val (.long p4), .second, .val (.long p5), .second, .val (.int (3 : Int32)), .val (.ref b216), .val (.ref b218), .val (.ref b220), .val (.long (0 : Int64)), .second, .unset] []))
    refine own_step (fun t k => XS.aload X226.here hx rfl (hb hby at_47) rfl rfl k) ?_
    show own_Goes p e below _ (T226.setTop (mkF m 49 #[.val (.int p1), .val (.long p2), .second, .val (.long p3), .second, .val (.long p4), .second, .val (.long p5), .second, .val (.int (3 : Int32)), .val (.ref b216), .val (.ref b218), .val (.ref b220), .val (.long (0 : Int64)), .second, .unset] [(.ref b220)]))
    refine own_step (fun t k => XS.iconst X226.here hx rfl (hb hby at_49) k) ?_
    show own_Goes p e below _ (T226.setTop (mkF m 50 #[.val (.int p1), .val (.long p2), .second, .val (.long p3), .second, .val (.long p4), .second, .val (.long p5), .second, .val (.int (3 : Int32)), .val (.ref b216), .val (.ref b218), .val (.ref b220), .val (.long (0 : Int64)), .second, .unset] [(.int (0 : Int32)), (.ref b220)]))
    refine own_step (fun t k => XS.lloadN X226.here hx rfl (hb hby at_50) rfl k) ?_
    show own_Goes p e below _ (T226.setTop (mkF m 51 #[.val (.int p1), .val (.long p2), .second, .val (.long p3), .second, .val (.long p4), .second, .val (.long p5), .second, .val (.int (3 : Int32)), .val (.ref b216), .val (.ref b218), .val (.ref b220), .val (.long (0 : Int64)), .second, .unset] [(.long p2), (.int (0 : Int32)), (.ref b220)]))
    obtain ⟨_, _, ⟨T228, L228, k228, n228⟩, -, X228, ⟨Lc228, hQ228, l228, y228, z228⟩, st228⟩ := Jvm.LawKit.callS X226 hx (y := (⟨"com/example/concepta/concepta/store/RowsBlockCountPinLaw", "last", "(J)I"⟩ : MethodName)) hown (mvT hZ w36) (mvT hZ w37) (mvT hZ w34) (mvT hZ w38) (by decide) (backOf (W := 2) (own_b4 l Z a0 hw [] p2  h226 n0 (Nat.le_trans (Nat.le_trans (Nat.le_trans (Nat.le_trans (Nat.le_trans Z0 E216.1) E218.1) E220.1) (Keep.of_wr W223).1) (Keep.of_wr W226).1) ) hZ w38 w34 (by decide) (by decide)) (g := (mkF m 51 #[.val (.int p1), .val (.long p2), .second, .val (.long p3), .second, .val (.long p4), .second, .val (.long p5), .second, .val (.int (3 : Int32)), .val (.ref b216), .val (.ref b218), .val (.ref b220), .val (.long (0 : Int64)), .second, .unset] [(.long p2), (.int (0 : Int32)), (.ref b220)])) rfl (by rw [hml]; rfl) (argsL := [(.long p2)]) (rest := [(.int (0 : Int32)), (.ref b220)]) (lenOf own_pd1 rfl) rfl (by show 2 * 0 + _ ≤ _; exact Nat.le_of_eq rfl) (hb hby at_51) (fun _ _ => ⟨rfl, e226, (by decide : 3 + 0 ≤ _), (by decide : 9 + 0 ≤ _)⟩)
    dsimp only [Pt.U, Pt.locs, Pt.cells, Pt.slots] at X228 l228 y228 z228 st228 hQ228
    subst y228 z228
    obtain ⟨rfl, N228q, eh228⟩ := hQ228
    have N228 : Fr n0 L228 := by rw [l228]; exact Fr.app N226 N228q
    refine own_step st228 ?_
    show own_Goes p e below _ (T228.setTop (mkF m 54 #[.val (.int p1), .val (.long p2), .second, .val (.long p3), .second, .val (.long p4), .second, .val (.long p5), .second, .val (.int (3 : Int32)), .val (.ref b216), .val (.ref b218), .val (.ref b220), .val (.long (0 : Int64)), .second, .unset] [(.int (own_last p2)), (.int (0 : Int32)), (.ref b220)]))
    obtain ⟨T229, h229, X229, e229, W229, V229, st229⟩ := own_ist X228 hx hZ eh228 ((V220.other W223 (Ne.symm ne_b216_b220)).other W226 (Ne.symm ne_b218_b220)) (j := (0 : Int32)) ⟨by decide, by decide⟩ (0) rfl (Nat.le_of_ble_eq_true rfl) (g := (mkF m 54 #[.val (.int p1), .val (.long p2), .second, .val (.long p3), .second, .val (.long p4), .second, .val (.long p5), .second, .val (.int (3 : Int32)), .val (.ref b216), .val (.ref b218), .val (.ref b220), .val (.long (0 : Int64)), .second, .unset] [(.int (own_last p2)), (.int (0 : Int32)), (.ref b220)])) rfl rfl (hb hby at_54)
    have V229 : Arv Z h229 b220 k220 .int (3 : Int32) (([(own_last p2), (0 : Int32), (0 : Int32)] : List Int32).map Value.int) (Value.int 0) := V229
    have N229 := Fr.snoc X229 N228 g_b220
    have K230 : Keep h0 h229 [] := K227.wr W229 (Or.inr sz_b220)
    refine own_step st229 ?_
    show own_Goes p e below _ (T229.setTop (mkF m 55 #[.val (.int p1), .val (.long p2), .second, .val (.long p3), .second, .val (.long p4), .second, .val (.long p5), .second, .val (.int (3 : Int32)), .val (.ref b216), .val (.ref b218), .val (.ref b220), .val (.long (0 : Int64)), .second, .unset] []))
    refine own_step (fun t k => XS.lload X229.here hx rfl (hb hby at_55) rfl k) ?_
    show own_Goes p e below _ (T229.setTop (mkF m 57 #[.val (.int p1), .val (.long p2), .second, .val (.long p3), .second, .val (.long p4), .second, .val (.long p5), .second, .val (.int (3 : Int32)), .val (.ref b216), .val (.ref b218), .val (.ref b220), .val (.long (0 : Int64)), .second, .unset] [(.long (0 : Int64))]))
    refine own_step (fun t k => XS.lloadN X229.here hx rfl (hb hby at_57) rfl k) ?_
    show own_Goes p e below _ (T229.setTop (mkF m 58 #[.val (.int p1), .val (.long p2), .second, .val (.long p3), .second, .val (.long p4), .second, .val (.long p5), .second, .val (.int (3 : Int32)), .val (.ref b216), .val (.ref b218), .val (.ref b220), .val (.long (0 : Int64)), .second, .unset] [(.long p2), (.long (0 : Int64))]))
    obtain ⟨_, _, ⟨T231, L231, k231, n231⟩, -, X231, ⟨Lc231, hQ231, l231, y231, z231⟩, st231⟩ := Jvm.LawKit.callS X229 hx (y := (⟨"com/example/concepta/concepta/store/RowsBlockCountPinLaw", "span", "(J)J"⟩ : MethodName)) hown (mvT hZ w39) (mvT hZ w40) (mvT hZ w34) (mvT hZ w41) (by decide) (backOf (W := 2) (own_b5 l Z a0 hw [] p2  h229 n0 (Nat.le_trans (Nat.le_trans (Nat.le_trans (Nat.le_trans (Nat.le_trans (Nat.le_trans Z0 E216.1) E218.1) E220.1) (Keep.of_wr W223).1) (Keep.of_wr W226).1) (Keep.of_wr W229).1) ) hZ w41 w34 (by decide) (by decide)) (g := (mkF m 58 #[.val (.int p1), .val (.long p2), .second, .val (.long p3), .second, .val (.long p4), .second, .val (.long p5), .second, .val (.int (3 : Int32)), .val (.ref b216), .val (.ref b218), .val (.ref b220), .val (.long (0 : Int64)), .second, .unset] [(.long p2), (.long (0 : Int64))])) rfl (by rw [hml]; rfl) (argsL := [(.long p2)]) (rest := [(.long (0 : Int64))]) (lenOf own_pd4 rfl) rfl (by show 2 * 0 + _ ≤ _; exact Nat.le_of_eq rfl) (hb hby at_58) (fun _ _ => ⟨rfl, e229, (by decide : 3 + 0 ≤ _), (by decide : 9 + 0 ≤ _)⟩)
    dsimp only [Pt.U, Pt.locs, Pt.cells, Pt.slots] at X231 l231 y231 z231 st231 hQ231
    subst y231 z231
    obtain ⟨rfl, N231q, eh231⟩ := hQ231
    have N231 : Fr n0 L231 := by rw [l231]; exact Fr.app N229 N231q
    refine own_step st231 ?_
    show own_Goes p e below _ (T231.setTop (mkF m 61 #[.val (.int p1), .val (.long p2), .second, .val (.long p3), .second, .val (.long p4), .second, .val (.long p5), .second, .val (.int (3 : Int32)), .val (.ref b216), .val (.ref b218), .val (.ref b220), .val (.long (0 : Int64)), .second, .unset] [(.long (own_span p2)), (.long (0 : Int64))]))
    refine own_step (fun t k => XS.ladd X231.here hx rfl (hb hby at_61) rfl k) ?_
    show own_Goes p e below _ (T231.setTop (mkF m 62 #[.val (.int p1), .val (.long p2), .second, .val (.long p3), .second, .val (.long p4), .second, .val (.long p5), .second, .val (.int (3 : Int32)), .val (.ref b216), .val (.ref b218), .val (.ref b220), .val (.long (0 : Int64)), .second, .unset] [(.long ((0 : Int64) + (own_span p2)))]))
    refine own_step (fun t k => XS.lstore X231.here hx rfl (hb hby at_62) rfl (l' := #[.val (.int p1), .val (.long p2), .second, .val (.long p3), .second, .val (.long p4), .second, .val (.long p5), .second, .val (.int (3 : Int32)), .val (.ref b216), .val (.ref b218), .val (.ref b220), .val (.long ((0 : Int64) + (own_span p2))), .second, .unset]) rfl k) ?_
    show own_Goes p e below _ (T231.setTop (mkF m 64 #[.val (.int p1), .val (.long p2), .second, .val (.long p3), .second, .val (.long p4), .second, .val (.long p5), .second, .val (.int (3 : Int32)), .val (.ref b216), .val (.ref b218), .val (.ref b220), .val (.long ((0 : Int64) + (own_span p2))), .second, .unset] []))
    refine own_step (fun t k => XS.iload X231.here hx rfl (hb hby at_64) rfl k) ?_
    show own_Goes p e below _ (T231.setTop (mkF m 66 #[.val (.int p1), .val (.long p2), .second, .val (.long p3), .second, .val (.long p4), .second, .val (.long p5), .second, .val (.int (3 : Int32)), .val (.ref b216), .val (.ref b218), .val (.ref b220), .val (.long ((0 : Int64) + (own_span p2))), .second, .unset] [(.int (3 : Int32))]))
    refine own_step (fun t k => XS.iconst X231.here hx rfl (hb hby at_66) k) ?_
    show own_Goes p e below _ (T231.setTop (mkF m 67 #[.val (.int p1), .val (.long p2), .second, .val (.long p3), .second, .val (.long p4), .second, .val (.long p5), .second, .val (.int (3 : Int32)), .val (.ref b216), .val (.ref b218), .val (.ref b220), .val (.long ((0 : Int64) + (own_span p2))), .second, .unset] [(.int (1 : Int32)), (.int (3 : Int32))]))
    have hc232 : (1 : Int32) < (3 : Int32) := by decide
    refine own_step (fun t k => XS.icmpNo X231.here hx rfl (hb hby at_67) rfl (tlt hc232).2.2.2 k) ?_
    show own_Goes p e below _ (T231.setTop (mkF m 70 #[.val (.int p1), .val (.long p2), .second, .val (.long p3), .second, .val (.long p4), .second, .val (.long p5), .second, .val (.int (3 : Int32)), .val (.ref b216), .val (.ref b218), .val (.ref b220), .val (.long ((0 : Int64) + (own_span p2))), .second, .unset] []))
    refine own_step (fun t k => XS.aload X231.here hx rfl (hb hby at_70) rfl rfl k) ?_
    show own_Goes p e below _ (T231.setTop (mkF m 72 #[.val (.int p1), .val (.long p2), .second, .val (.long p3), .second, .val (.long p4), .second, .val (.long p5), .second, .val (.int (3 : Int32)), .val (.ref b216), .val (.ref b218), .val (.ref b220), .val (.long ((0 : Int64) + (own_span p2))), .second, .unset] [(.ref b216)]))
    refine own_step (fun t k => XS.iconst X231.here hx rfl (hb hby at_72) k) ?_
    show own_Goes p e below _ (T231.setTop (mkF m 73 #[.val (.int p1), .val (.long p2), .second, .val (.long p3), .second, .val (.long p4), .second, .val (.long p5), .second, .val (.int (3 : Int32)), .val (.ref b216), .val (.ref b218), .val (.ref b220), .val (.long ((0 : Int64) + (own_span p2))), .second, .unset] [(.int (1 : Int32)), (.ref b216)]))
    refine own_step (fun t k => XS.lloadN X231.here hx rfl (hb hby at_73) rfl k) ?_
    show own_Goes p e below _ (T231.setTop (mkF m 74 #[.val (.int p1), .val (.long p2), .second, .val (.long p3), .second, .val (.long p4), .second, .val (.long p5), .second, .val (.int (3 : Int32)), .val (.ref b216), .val (.ref b218), .val (.ref b220), .val (.long ((0 : Int64) + (own_span p2))), .second, .unset] [(.long p3), (.int (1 : Int32)), (.ref b216)]))
    obtain ⟨T233, h233, X233, e233, W233, V233, st233⟩ := own_lst X231 hx hZ eh231 ((V223.other W226 ne_b216_b218).other W229 ne_b216_b220) (j := (1 : Int32)) ⟨by decide, by decide⟩ (1) rfl (Nat.le_of_ble_eq_true rfl) (g := (mkF m 74 #[.val (.int p1), .val (.long p2), .second, .val (.long p3), .second, .val (.long p4), .second, .val (.long p5), .second, .val (.int (3 : Int32)), .val (.ref b216), .val (.ref b218), .val (.ref b220), .val (.long ((0 : Int64) + (own_span p2))), .second, .unset] [(.long p3), (.int (1 : Int32)), (.ref b216)])) rfl rfl (hb hby at_74)
    have V233 : Arv Z h233 b216 k216 .long (3 : Int32) (([p2, p3, (0 : Int64)] : List Int64).map Value.long) (Value.long 0) := V233
    have N233 := Fr.snoc X233 N231 g_b216
    have K234 : Keep h0 h233 [] := K230.wr W233 (Or.inr sz_b216)
    refine own_step st233 ?_
    show own_Goes p e below _ (T233.setTop (mkF m 75 #[.val (.int p1), .val (.long p2), .second, .val (.long p3), .second, .val (.long p4), .second, .val (.long p5), .second, .val (.int (3 : Int32)), .val (.ref b216), .val (.ref b218), .val (.ref b220), .val (.long ((0 : Int64) + (own_span p2))), .second, .unset] []))
    refine own_step (fun t k => XS.aload X233.here hx rfl (hb hby at_75) rfl rfl k) ?_
    show own_Goes p e below _ (T233.setTop (mkF m 77 #[.val (.int p1), .val (.long p2), .second, .val (.long p3), .second, .val (.long p4), .second, .val (.long p5), .second, .val (.int (3 : Int32)), .val (.ref b216), .val (.ref b218), .val (.ref b220), .val (.long ((0 : Int64) + (own_span p2))), .second, .unset] [(.ref b218)]))
    refine own_step (fun t k => XS.iconst X233.here hx rfl (hb hby at_77) k) ?_
    show own_Goes p e below _ (T233.setTop (mkF m 78 #[.val (.int p1), .val (.long p2), .second, .val (.long p3), .second, .val (.long p4), .second, .val (.long p5), .second, .val (.int (3 : Int32)), .val (.ref b216), .val (.ref b218), .val (.ref b220), .val (.long ((0 : Int64) + (own_span p2))), .second, .unset] [(.int (1 : Int32)), (.ref b218)]))
    refine own_step (fun t k => XS.lloadN X233.here hx rfl (hb hby at_78) rfl k) ?_
    show own_Goes p e below _ (T233.setTop (mkF m 79 #[.val (.int p1), .val (.long p2), .second, .val (.long p3), .second, .val (.long p4), .second, .val (.long p5), .second, .val (.int (3 : Int32)), .val (.ref b216), .val (.ref b218), .val (.ref b220), .val (.long ((0 : Int64) + (own_span p2))), .second, .unset] [(.long p3), (.int (1 : Int32)), (.ref b218)]))
    obtain ⟨_, _, ⟨T235, L235, k235, n235⟩, -, X235, ⟨Lc235, hQ235, l235, y235, z235⟩, st235⟩ := Jvm.LawKit.callS X233 hx (y := (⟨"com/example/concepta/concepta/store/RowsBlockCountPinLaw", "first", "(J)I"⟩ : MethodName)) hown (mvT hZ w32) (mvT hZ w33) (mvT hZ w34) (mvT hZ w35) (by decide) (backOf (W := 2) (own_b3 l Z a0 hw [] p3  h233 n0 (Nat.le_trans (Nat.le_trans (Nat.le_trans (Nat.le_trans (Nat.le_trans (Nat.le_trans (Nat.le_trans Z0 E216.1) E218.1) E220.1) (Keep.of_wr W223).1) (Keep.of_wr W226).1) (Keep.of_wr W229).1) (Keep.of_wr W233).1) ) hZ w35 w34 (by decide) (by decide)) (g := (mkF m 79 #[.val (.int p1), .val (.long p2), .second, .val (.long p3), .second, .val (.long p4), .second, .val (.long p5), .second, .val (.int (3 : Int32)), .val (.ref b216), .val (.ref b218), .val (.ref b220), .val (.long ((0 : Int64) + (own_span p2))), .second, .unset] [(.long p3), (.int (1 : Int32)), (.ref b218)])) rfl (by rw [hml]; rfl) (argsL := [(.long p3)]) (rest := [(.int (1 : Int32)), (.ref b218)]) (lenOf own_pd1 rfl) rfl (by show 2 * 0 + _ ≤ _; exact Nat.le_of_eq rfl) (hb hby at_79) (fun _ _ => ⟨rfl, e233, (by decide : 3 + 0 ≤ _), (by decide : 9 + 0 ≤ _)⟩)
    dsimp only [Pt.U, Pt.locs, Pt.cells, Pt.slots] at X235 l235 y235 z235 st235 hQ235
    subst y235 z235
    obtain ⟨rfl, N235q, eh235⟩ := hQ235
    have N235 : Fr n0 L235 := by rw [l235]; exact Fr.app N233 N235q
    refine own_step st235 ?_
    show own_Goes p e below _ (T235.setTop (mkF m 82 #[.val (.int p1), .val (.long p2), .second, .val (.long p3), .second, .val (.long p4), .second, .val (.long p5), .second, .val (.int (3 : Int32)), .val (.ref b216), .val (.ref b218), .val (.ref b220), .val (.long ((0 : Int64) + (own_span p2))), .second, .unset] [(.int (own_first p3)), (.int (1 : Int32)), (.ref b218)]))
    obtain ⟨T236, h236, X236, e236, W236, V236, st236⟩ := own_ist X235 hx hZ eh235 ((V226.other W229 ne_b218_b220).other W233 (Ne.symm ne_b216_b218)) (j := (1 : Int32)) ⟨by decide, by decide⟩ (1) rfl (Nat.le_of_ble_eq_true rfl) (g := (mkF m 82 #[.val (.int p1), .val (.long p2), .second, .val (.long p3), .second, .val (.long p4), .second, .val (.long p5), .second, .val (.int (3 : Int32)), .val (.ref b216), .val (.ref b218), .val (.ref b220), .val (.long ((0 : Int64) + (own_span p2))), .second, .unset] [(.int (own_first p3)), (.int (1 : Int32)), (.ref b218)])) rfl rfl (hb hby at_82)
    have V236 : Arv Z h236 b218 k218 .int (3 : Int32) (([(own_first p2), (own_first p3), (0 : Int32)] : List Int32).map Value.int) (Value.int 0) := V236
    have N236 := Fr.snoc X236 N235 g_b218
    have K237 : Keep h0 h236 [] := K234.wr W236 (Or.inr sz_b218)
    refine own_step st236 ?_
    show own_Goes p e below _ (T236.setTop (mkF m 83 #[.val (.int p1), .val (.long p2), .second, .val (.long p3), .second, .val (.long p4), .second, .val (.long p5), .second, .val (.int (3 : Int32)), .val (.ref b216), .val (.ref b218), .val (.ref b220), .val (.long ((0 : Int64) + (own_span p2))), .second, .unset] []))
    refine own_step (fun t k => XS.aload X236.here hx rfl (hb hby at_83) rfl rfl k) ?_
    show own_Goes p e below _ (T236.setTop (mkF m 85 #[.val (.int p1), .val (.long p2), .second, .val (.long p3), .second, .val (.long p4), .second, .val (.long p5), .second, .val (.int (3 : Int32)), .val (.ref b216), .val (.ref b218), .val (.ref b220), .val (.long ((0 : Int64) + (own_span p2))), .second, .unset] [(.ref b220)]))
    refine own_step (fun t k => XS.iconst X236.here hx rfl (hb hby at_85) k) ?_
    show own_Goes p e below _ (T236.setTop (mkF m 86 #[.val (.int p1), .val (.long p2), .second, .val (.long p3), .second, .val (.long p4), .second, .val (.long p5), .second, .val (.int (3 : Int32)), .val (.ref b216), .val (.ref b218), .val (.ref b220), .val (.long ((0 : Int64) + (own_span p2))), .second, .unset] [(.int (1 : Int32)), (.ref b220)]))
    refine own_step (fun t k => XS.lloadN X236.here hx rfl (hb hby at_86) rfl k) ?_
    show own_Goes p e below _ (T236.setTop (mkF m 87 #[.val (.int p1), .val (.long p2), .second, .val (.long p3), .second, .val (.long p4), .second, .val (.long p5), .second, .val (.int (3 : Int32)), .val (.ref b216), .val (.ref b218), .val (.ref b220), .val (.long ((0 : Int64) + (own_span p2))), .second, .unset] [(.long p3), (.int (1 : Int32)), (.ref b220)]))
    obtain ⟨_, _, ⟨T238, L238, k238, n238⟩, -, X238, ⟨Lc238, hQ238, l238, y238, z238⟩, st238⟩ := Jvm.LawKit.callS X236 hx (y := (⟨"com/example/concepta/concepta/store/RowsBlockCountPinLaw", "last", "(J)I"⟩ : MethodName)) hown (mvT hZ w36) (mvT hZ w37) (mvT hZ w34) (mvT hZ w38) (by decide) (backOf (W := 2) (own_b4 l Z a0 hw [] p3  h236 n0 (Nat.le_trans (Nat.le_trans (Nat.le_trans (Nat.le_trans (Nat.le_trans (Nat.le_trans (Nat.le_trans (Nat.le_trans Z0 E216.1) E218.1) E220.1) (Keep.of_wr W223).1) (Keep.of_wr W226).1) (Keep.of_wr W229).1) (Keep.of_wr W233).1) (Keep.of_wr W236).1) ) hZ w38 w34 (by decide) (by decide)) (g := (mkF m 87 #[.val (.int p1), .val (.long p2), .second, .val (.long p3), .second, .val (.long p4), .second, .val (.long p5), .second, .val (.int (3 : Int32)), .val (.ref b216), .val (.ref b218), .val (.ref b220), .val (.long ((0 : Int64) + (own_span p2))), .second, .unset] [(.long p3), (.int (1 : Int32)), (.ref b220)])) rfl (by rw [hml]; rfl) (argsL := [(.long p3)]) (rest := [(.int (1 : Int32)), (.ref b220)]) (lenOf own_pd1 rfl) rfl (by show 2 * 0 + _ ≤ _; exact Nat.le_of_eq rfl) (hb hby at_87) (fun _ _ => ⟨rfl, e236, (by decide : 3 + 0 ≤ _), (by decide : 9 + 0 ≤ _)⟩)
    dsimp only [Pt.U, Pt.locs, Pt.cells, Pt.slots] at X238 l238 y238 z238 st238 hQ238
    subst y238 z238
    obtain ⟨rfl, N238q, eh238⟩ := hQ238
    have N238 : Fr n0 L238 := by rw [l238]; exact Fr.app N236 N238q
    refine own_step st238 ?_
    show own_Goes p e below _ (T238.setTop (mkF m 90 #[.val (.int p1), .val (.long p2), .second, .val (.long p3), .second, .val (.long p4), .second, .val (.long p5), .second, .val (.int (3 : Int32)), .val (.ref b216), .val (.ref b218), .val (.ref b220), .val (.long ((0 : Int64) + (own_span p2))), .second, .unset] [(.int (own_last p3)), (.int (1 : Int32)), (.ref b220)]))
    obtain ⟨T239, h239, X239, e239, W239, V239, st239⟩ := own_ist X238 hx hZ eh238 ((V229.other W233 (Ne.symm ne_b216_b220)).other W236 (Ne.symm ne_b218_b220)) (j := (1 : Int32)) ⟨by decide, by decide⟩ (1) rfl (Nat.le_of_ble_eq_true rfl) (g := (mkF m 90 #[.val (.int p1), .val (.long p2), .second, .val (.long p3), .second, .val (.long p4), .second, .val (.long p5), .second, .val (.int (3 : Int32)), .val (.ref b216), .val (.ref b218), .val (.ref b220), .val (.long ((0 : Int64) + (own_span p2))), .second, .unset] [(.int (own_last p3)), (.int (1 : Int32)), (.ref b220)])) rfl rfl (hb hby at_90)
    have V239 : Arv Z h239 b220 k220 .int (3 : Int32) (([(own_last p2), (own_last p3), (0 : Int32)] : List Int32).map Value.int) (Value.int 0) := V239
    have N239 := Fr.snoc X239 N238 g_b220
    have K240 : Keep h0 h239 [] := K237.wr W239 (Or.inr sz_b220)
    refine own_step st239 ?_
    show own_Goes p e below _ (T239.setTop (mkF m 91 #[.val (.int p1), .val (.long p2), .second, .val (.long p3), .second, .val (.long p4), .second, .val (.long p5), .second, .val (.int (3 : Int32)), .val (.ref b216), .val (.ref b218), .val (.ref b220), .val (.long ((0 : Int64) + (own_span p2))), .second, .unset] []))
    refine own_step (fun t k => XS.lload X239.here hx rfl (hb hby at_91) rfl k) ?_
    show own_Goes p e below _ (T239.setTop (mkF m 93 #[.val (.int p1), .val (.long p2), .second, .val (.long p3), .second, .val (.long p4), .second, .val (.long p5), .second, .val (.int (3 : Int32)), .val (.ref b216), .val (.ref b218), .val (.ref b220), .val (.long ((0 : Int64) + (own_span p2))), .second, .unset] [(.long ((0 : Int64) + (own_span p2)))]))
    refine own_step (fun t k => XS.lloadN X239.here hx rfl (hb hby at_93) rfl k) ?_
    show own_Goes p e below _ (T239.setTop (mkF m 94 #[.val (.int p1), .val (.long p2), .second, .val (.long p3), .second, .val (.long p4), .second, .val (.long p5), .second, .val (.int (3 : Int32)), .val (.ref b216), .val (.ref b218), .val (.ref b220), .val (.long ((0 : Int64) + (own_span p2))), .second, .unset] [(.long p3), (.long ((0 : Int64) + (own_span p2)))]))
    obtain ⟨_, _, ⟨T241, L241, k241, n241⟩, -, X241, ⟨Lc241, hQ241, l241, y241, z241⟩, st241⟩ := Jvm.LawKit.callS X239 hx (y := (⟨"com/example/concepta/concepta/store/RowsBlockCountPinLaw", "span", "(J)J"⟩ : MethodName)) hown (mvT hZ w39) (mvT hZ w40) (mvT hZ w34) (mvT hZ w41) (by decide) (backOf (W := 2) (own_b5 l Z a0 hw [] p3  h239 n0 (Nat.le_trans (Nat.le_trans (Nat.le_trans (Nat.le_trans (Nat.le_trans (Nat.le_trans (Nat.le_trans (Nat.le_trans (Nat.le_trans Z0 E216.1) E218.1) E220.1) (Keep.of_wr W223).1) (Keep.of_wr W226).1) (Keep.of_wr W229).1) (Keep.of_wr W233).1) (Keep.of_wr W236).1) (Keep.of_wr W239).1) ) hZ w41 w34 (by decide) (by decide)) (g := (mkF m 94 #[.val (.int p1), .val (.long p2), .second, .val (.long p3), .second, .val (.long p4), .second, .val (.long p5), .second, .val (.int (3 : Int32)), .val (.ref b216), .val (.ref b218), .val (.ref b220), .val (.long ((0 : Int64) + (own_span p2))), .second, .unset] [(.long p3), (.long ((0 : Int64) + (own_span p2)))])) rfl (by rw [hml]; rfl) (argsL := [(.long p3)]) (rest := [(.long ((0 : Int64) + (own_span p2)))]) (lenOf own_pd4 rfl) rfl (by show 2 * 0 + _ ≤ _; exact Nat.le_of_eq rfl) (hb hby at_94) (fun _ _ => ⟨rfl, e239, (by decide : 3 + 0 ≤ _), (by decide : 9 + 0 ≤ _)⟩)
    dsimp only [Pt.U, Pt.locs, Pt.cells, Pt.slots] at X241 l241 y241 z241 st241 hQ241
    subst y241 z241
    obtain ⟨rfl, N241q, eh241⟩ := hQ241
    have N241 : Fr n0 L241 := by rw [l241]; exact Fr.app N239 N241q
    refine own_step st241 ?_
    show own_Goes p e below _ (T241.setTop (mkF m 97 #[.val (.int p1), .val (.long p2), .second, .val (.long p3), .second, .val (.long p4), .second, .val (.long p5), .second, .val (.int (3 : Int32)), .val (.ref b216), .val (.ref b218), .val (.ref b220), .val (.long ((0 : Int64) + (own_span p2))), .second, .unset] [(.long (own_span p3)), (.long ((0 : Int64) + (own_span p2)))]))
    refine own_step (fun t k => XS.ladd X241.here hx rfl (hb hby at_97) rfl k) ?_
    show own_Goes p e below _ (T241.setTop (mkF m 98 #[.val (.int p1), .val (.long p2), .second, .val (.long p3), .second, .val (.long p4), .second, .val (.long p5), .second, .val (.int (3 : Int32)), .val (.ref b216), .val (.ref b218), .val (.ref b220), .val (.long ((0 : Int64) + (own_span p2))), .second, .unset] [(.long (((0 : Int64) + (own_span p2)) + (own_span p3)))]))
    refine own_step (fun t k => XS.lstore X241.here hx rfl (hb hby at_98) rfl (l' := #[.val (.int p1), .val (.long p2), .second, .val (.long p3), .second, .val (.long p4), .second, .val (.long p5), .second, .val (.int (3 : Int32)), .val (.ref b216), .val (.ref b218), .val (.ref b220), .val (.long (((0 : Int64) + (own_span p2)) + (own_span p3))), .second, .unset]) rfl k) ?_
    show own_Goes p e below _ (T241.setTop (mkF m 100 #[.val (.int p1), .val (.long p2), .second, .val (.long p3), .second, .val (.long p4), .second, .val (.long p5), .second, .val (.int (3 : Int32)), .val (.ref b216), .val (.ref b218), .val (.ref b220), .val (.long (((0 : Int64) + (own_span p2)) + (own_span p3))), .second, .unset] []))
    refine own_step (fun t k => XS.iload X241.here hx rfl (hb hby at_100) rfl k) ?_
    show own_Goes p e below _ (T241.setTop (mkF m 102 #[.val (.int p1), .val (.long p2), .second, .val (.long p3), .second, .val (.long p4), .second, .val (.long p5), .second, .val (.int (3 : Int32)), .val (.ref b216), .val (.ref b218), .val (.ref b220), .val (.long (((0 : Int64) + (own_span p2)) + (own_span p3))), .second, .unset] [(.int (3 : Int32))]))
    refine own_step (fun t k => XS.iconst X241.here hx rfl (hb hby at_102) k) ?_
    show own_Goes p e below _ (T241.setTop (mkF m 103 #[.val (.int p1), .val (.long p2), .second, .val (.long p3), .second, .val (.long p4), .second, .val (.long p5), .second, .val (.int (3 : Int32)), .val (.ref b216), .val (.ref b218), .val (.ref b220), .val (.long (((0 : Int64) + (own_span p2)) + (own_span p3))), .second, .unset] [(.int (2 : Int32)), (.int (3 : Int32))]))
    have hc242 : (2 : Int32) < (3 : Int32) := by decide
    refine own_step (fun t k => XS.icmpNo X241.here hx rfl (hb hby at_103) rfl (tlt hc242).2.2.2 k) ?_
    show own_Goes p e below _ (T241.setTop (mkF m 106 #[.val (.int p1), .val (.long p2), .second, .val (.long p3), .second, .val (.long p4), .second, .val (.long p5), .second, .val (.int (3 : Int32)), .val (.ref b216), .val (.ref b218), .val (.ref b220), .val (.long (((0 : Int64) + (own_span p2)) + (own_span p3))), .second, .unset] []))
    refine own_step (fun t k => XS.aload X241.here hx rfl (hb hby at_106) rfl rfl k) ?_
    show own_Goes p e below _ (T241.setTop (mkF m 108 #[.val (.int p1), .val (.long p2), .second, .val (.long p3), .second, .val (.long p4), .second, .val (.long p5), .second, .val (.int (3 : Int32)), .val (.ref b216), .val (.ref b218), .val (.ref b220), .val (.long (((0 : Int64) + (own_span p2)) + (own_span p3))), .second, .unset] [(.ref b216)]))
    refine own_step (fun t k => XS.iconst X241.here hx rfl (hb hby at_108) k) ?_
    show own_Goes p e below _ (T241.setTop (mkF m 109 #[.val (.int p1), .val (.long p2), .second, .val (.long p3), .second, .val (.long p4), .second, .val (.long p5), .second, .val (.int (3 : Int32)), .val (.ref b216), .val (.ref b218), .val (.ref b220), .val (.long (((0 : Int64) + (own_span p2)) + (own_span p3))), .second, .unset] [(.int (2 : Int32)), (.ref b216)]))
    refine own_step (fun t k => XS.lload X241.here hx rfl (hb hby at_109) rfl k) ?_
    show own_Goes p e below _ (T241.setTop (mkF m 111 #[.val (.int p1), .val (.long p2), .second, .val (.long p3), .second, .val (.long p4), .second, .val (.long p5), .second, .val (.int (3 : Int32)), .val (.ref b216), .val (.ref b218), .val (.ref b220), .val (.long (((0 : Int64) + (own_span p2)) + (own_span p3))), .second, .unset] [(.long p4), (.int (2 : Int32)), (.ref b216)]))
    obtain ⟨T243, h243, X243, e243, W243, V243, st243⟩ := own_lst X241 hx hZ eh241 ((V233.other W236 ne_b216_b218).other W239 ne_b216_b220) (j := (2 : Int32)) ⟨by decide, by decide⟩ (2) rfl (Nat.le_of_ble_eq_true rfl) (g := (mkF m 111 #[.val (.int p1), .val (.long p2), .second, .val (.long p3), .second, .val (.long p4), .second, .val (.long p5), .second, .val (.int (3 : Int32)), .val (.ref b216), .val (.ref b218), .val (.ref b220), .val (.long (((0 : Int64) + (own_span p2)) + (own_span p3))), .second, .unset] [(.long p4), (.int (2 : Int32)), (.ref b216)])) rfl rfl (hb hby at_111)
    have V243 : Arv Z h243 b216 k216 .long (3 : Int32) (([p2, p3, p4] : List Int64).map Value.long) (Value.long 0) := V243
    have N243 := Fr.snoc X243 N241 g_b216
    have K244 : Keep h0 h243 [] := K240.wr W243 (Or.inr sz_b216)
    refine own_step st243 ?_
    show own_Goes p e below _ (T243.setTop (mkF m 112 #[.val (.int p1), .val (.long p2), .second, .val (.long p3), .second, .val (.long p4), .second, .val (.long p5), .second, .val (.int (3 : Int32)), .val (.ref b216), .val (.ref b218), .val (.ref b220), .val (.long (((0 : Int64) + (own_span p2)) + (own_span p3))), .second, .unset] []))
    refine own_step (fun t k => XS.aload X243.here hx rfl (hb hby at_112) rfl rfl k) ?_
    show own_Goes p e below _ (T243.setTop (mkF m 114 #[.val (.int p1), .val (.long p2), .second, .val (.long p3), .second, .val (.long p4), .second, .val (.long p5), .second, .val (.int (3 : Int32)), .val (.ref b216), .val (.ref b218), .val (.ref b220), .val (.long (((0 : Int64) + (own_span p2)) + (own_span p3))), .second, .unset] [(.ref b218)]))
    refine own_step (fun t k => XS.iconst X243.here hx rfl (hb hby at_114) k) ?_
    show own_Goes p e below _ (T243.setTop (mkF m 115 #[.val (.int p1), .val (.long p2), .second, .val (.long p3), .second, .val (.long p4), .second, .val (.long p5), .second, .val (.int (3 : Int32)), .val (.ref b216), .val (.ref b218), .val (.ref b220), .val (.long (((0 : Int64) + (own_span p2)) + (own_span p3))), .second, .unset] [(.int (2 : Int32)), (.ref b218)]))
    refine own_step (fun t k => XS.lload X243.here hx rfl (hb hby at_115) rfl k) ?_
    show own_Goes p e below _ (T243.setTop (mkF m 117 #[.val (.int p1), .val (.long p2), .second, .val (.long p3), .second, .val (.long p4), .second, .val (.long p5), .second, .val (.int (3 : Int32)), .val (.ref b216), .val (.ref b218), .val (.ref b220), .val (.long (((0 : Int64) + (own_span p2)) + (own_span p3))), .second, .unset] [(.long p4), (.int (2 : Int32)), (.ref b218)]))
    obtain ⟨_, _, ⟨T245, L245, k245, n245⟩, -, X245, ⟨Lc245, hQ245, l245, y245, z245⟩, st245⟩ := Jvm.LawKit.callS X243 hx (y := (⟨"com/example/concepta/concepta/store/RowsBlockCountPinLaw", "first", "(J)I"⟩ : MethodName)) hown (mvT hZ w32) (mvT hZ w33) (mvT hZ w34) (mvT hZ w35) (by decide) (backOf (W := 2) (own_b3 l Z a0 hw [] p4  h243 n0 (Nat.le_trans (Nat.le_trans (Nat.le_trans (Nat.le_trans (Nat.le_trans (Nat.le_trans (Nat.le_trans (Nat.le_trans (Nat.le_trans (Nat.le_trans Z0 E216.1) E218.1) E220.1) (Keep.of_wr W223).1) (Keep.of_wr W226).1) (Keep.of_wr W229).1) (Keep.of_wr W233).1) (Keep.of_wr W236).1) (Keep.of_wr W239).1) (Keep.of_wr W243).1) ) hZ w35 w34 (by decide) (by decide)) (g := (mkF m 117 #[.val (.int p1), .val (.long p2), .second, .val (.long p3), .second, .val (.long p4), .second, .val (.long p5), .second, .val (.int (3 : Int32)), .val (.ref b216), .val (.ref b218), .val (.ref b220), .val (.long (((0 : Int64) + (own_span p2)) + (own_span p3))), .second, .unset] [(.long p4), (.int (2 : Int32)), (.ref b218)])) rfl (by rw [hml]; rfl) (argsL := [(.long p4)]) (rest := [(.int (2 : Int32)), (.ref b218)]) (lenOf own_pd1 rfl) rfl (by show 2 * 0 + _ ≤ _; exact Nat.le_of_eq rfl) (hb hby at_117) (fun _ _ => ⟨rfl, e243, (by decide : 3 + 0 ≤ _), (by decide : 9 + 0 ≤ _)⟩)
    dsimp only [Pt.U, Pt.locs, Pt.cells, Pt.slots] at X245 l245 y245 z245 st245 hQ245
    subst y245 z245
    obtain ⟨rfl, N245q, eh245⟩ := hQ245
    have N245 : Fr n0 L245 := by rw [l245]; exact Fr.app N243 N245q
    refine own_step st245 ?_
    show own_Goes p e below _ (T245.setTop (mkF m 120 #[.val (.int p1), .val (.long p2), .second, .val (.long p3), .second, .val (.long p4), .second, .val (.long p5), .second, .val (.int (3 : Int32)), .val (.ref b216), .val (.ref b218), .val (.ref b220), .val (.long (((0 : Int64) + (own_span p2)) + (own_span p3))), .second, .unset] [(.int (own_first p4)), (.int (2 : Int32)), (.ref b218)]))
    obtain ⟨T246, h246, X246, e246, W246, V246, st246⟩ := own_ist X245 hx hZ eh245 ((V236.other W239 ne_b218_b220).other W243 (Ne.symm ne_b216_b218)) (j := (2 : Int32)) ⟨by decide, by decide⟩ (2) rfl (Nat.le_of_ble_eq_true rfl) (g := (mkF m 120 #[.val (.int p1), .val (.long p2), .second, .val (.long p3), .second, .val (.long p4), .second, .val (.long p5), .second, .val (.int (3 : Int32)), .val (.ref b216), .val (.ref b218), .val (.ref b220), .val (.long (((0 : Int64) + (own_span p2)) + (own_span p3))), .second, .unset] [(.int (own_first p4)), (.int (2 : Int32)), (.ref b218)])) rfl rfl (hb hby at_120)
    have V246 : Arv Z h246 b218 k218 .int (3 : Int32) (([(own_first p2), (own_first p3), (own_first p4)] : List Int32).map Value.int) (Value.int 0) := V246
    have N246 := Fr.snoc X246 N245 g_b218
    have K247 : Keep h0 h246 [] := K244.wr W246 (Or.inr sz_b218)
    refine own_step st246 ?_
    show own_Goes p e below _ (T246.setTop (mkF m 121 #[.val (.int p1), .val (.long p2), .second, .val (.long p3), .second, .val (.long p4), .second, .val (.long p5), .second, .val (.int (3 : Int32)), .val (.ref b216), .val (.ref b218), .val (.ref b220), .val (.long (((0 : Int64) + (own_span p2)) + (own_span p3))), .second, .unset] []))
    refine own_step (fun t k => XS.aload X246.here hx rfl (hb hby at_121) rfl rfl k) ?_
    show own_Goes p e below _ (T246.setTop (mkF m 123 #[.val (.int p1), .val (.long p2), .second, .val (.long p3), .second, .val (.long p4), .second, .val (.long p5), .second, .val (.int (3 : Int32)), .val (.ref b216), .val (.ref b218), .val (.ref b220), .val (.long (((0 : Int64) + (own_span p2)) + (own_span p3))), .second, .unset] [(.ref b220)]))
    refine own_step (fun t k => XS.iconst X246.here hx rfl (hb hby at_123) k) ?_
    show own_Goes p e below _ (T246.setTop (mkF m 124 #[.val (.int p1), .val (.long p2), .second, .val (.long p3), .second, .val (.long p4), .second, .val (.long p5), .second, .val (.int (3 : Int32)), .val (.ref b216), .val (.ref b218), .val (.ref b220), .val (.long (((0 : Int64) + (own_span p2)) + (own_span p3))), .second, .unset] [(.int (2 : Int32)), (.ref b220)]))
    refine own_step (fun t k => XS.lload X246.here hx rfl (hb hby at_124) rfl k) ?_
    show own_Goes p e below _ (T246.setTop (mkF m 126 #[.val (.int p1), .val (.long p2), .second, .val (.long p3), .second, .val (.long p4), .second, .val (.long p5), .second, .val (.int (3 : Int32)), .val (.ref b216), .val (.ref b218), .val (.ref b220), .val (.long (((0 : Int64) + (own_span p2)) + (own_span p3))), .second, .unset] [(.long p4), (.int (2 : Int32)), (.ref b220)]))
    obtain ⟨_, _, ⟨T248, L248, k248, n248⟩, -, X248, ⟨Lc248, hQ248, l248, y248, z248⟩, st248⟩ := Jvm.LawKit.callS X246 hx (y := (⟨"com/example/concepta/concepta/store/RowsBlockCountPinLaw", "last", "(J)I"⟩ : MethodName)) hown (mvT hZ w36) (mvT hZ w37) (mvT hZ w34) (mvT hZ w38) (by decide) (backOf (W := 2) (own_b4 l Z a0 hw [] p4  h246 n0 (Nat.le_trans (Nat.le_trans (Nat.le_trans (Nat.le_trans (Nat.le_trans (Nat.le_trans (Nat.le_trans (Nat.le_trans (Nat.le_trans (Nat.le_trans (Nat.le_trans Z0 E216.1) E218.1) E220.1) (Keep.of_wr W223).1) (Keep.of_wr W226).1) (Keep.of_wr W229).1) (Keep.of_wr W233).1) (Keep.of_wr W236).1) (Keep.of_wr W239).1) (Keep.of_wr W243).1) (Keep.of_wr W246).1) ) hZ w38 w34 (by decide) (by decide)) (g := (mkF m 126 #[.val (.int p1), .val (.long p2), .second, .val (.long p3), .second, .val (.long p4), .second, .val (.long p5), .second, .val (.int (3 : Int32)), .val (.ref b216), .val (.ref b218), .val (.ref b220), .val (.long (((0 : Int64) + (own_span p2)) + (own_span p3))), .second, .unset] [(.long p4), (.int (2 : Int32)), (.ref b220)])) rfl (by rw [hml]; rfl) (argsL := [(.long p4)]) (rest := [(.int (2 : Int32)), (.ref b220)]) (lenOf own_pd1 rfl) rfl (by show 2 * 0 + _ ≤ _; exact Nat.le_of_eq rfl) (hb hby at_126) (fun _ _ => ⟨rfl, e246, (by decide : 3 + 0 ≤ _), (by decide : 9 + 0 ≤ _)⟩)
    dsimp only [Pt.U, Pt.locs, Pt.cells, Pt.slots] at X248 l248 y248 z248 st248 hQ248
    subst y248 z248
    obtain ⟨rfl, N248q, eh248⟩ := hQ248
    have N248 : Fr n0 L248 := by rw [l248]; exact Fr.app N246 N248q
    refine own_step st248 ?_
    show own_Goes p e below _ (T248.setTop (mkF m 129 #[.val (.int p1), .val (.long p2), .second, .val (.long p3), .second, .val (.long p4), .second, .val (.long p5), .second, .val (.int (3 : Int32)), .val (.ref b216), .val (.ref b218), .val (.ref b220), .val (.long (((0 : Int64) + (own_span p2)) + (own_span p3))), .second, .unset] [(.int (own_last p4)), (.int (2 : Int32)), (.ref b220)]))
    obtain ⟨T249, h249, X249, e249, W249, V249, st249⟩ := own_ist X248 hx hZ eh248 ((V239.other W243 (Ne.symm ne_b216_b220)).other W246 (Ne.symm ne_b218_b220)) (j := (2 : Int32)) ⟨by decide, by decide⟩ (2) rfl (Nat.le_of_ble_eq_true rfl) (g := (mkF m 129 #[.val (.int p1), .val (.long p2), .second, .val (.long p3), .second, .val (.long p4), .second, .val (.long p5), .second, .val (.int (3 : Int32)), .val (.ref b216), .val (.ref b218), .val (.ref b220), .val (.long (((0 : Int64) + (own_span p2)) + (own_span p3))), .second, .unset] [(.int (own_last p4)), (.int (2 : Int32)), (.ref b220)])) rfl rfl (hb hby at_129)
    have V249 : Arv Z h249 b220 k220 .int (3 : Int32) (([(own_last p2), (own_last p3), (own_last p4)] : List Int32).map Value.int) (Value.int 0) := V249
    have N249 := Fr.snoc X249 N248 g_b220
    have K250 : Keep h0 h249 [] := K247.wr W249 (Or.inr sz_b220)
    refine own_step st249 ?_
    show own_Goes p e below _ (T249.setTop (mkF m 130 #[.val (.int p1), .val (.long p2), .second, .val (.long p3), .second, .val (.long p4), .second, .val (.long p5), .second, .val (.int (3 : Int32)), .val (.ref b216), .val (.ref b218), .val (.ref b220), .val (.long (((0 : Int64) + (own_span p2)) + (own_span p3))), .second, .unset] []))
    refine own_step (fun t k => XS.lload X249.here hx rfl (hb hby at_130) rfl k) ?_
    show own_Goes p e below _ (T249.setTop (mkF m 132 #[.val (.int p1), .val (.long p2), .second, .val (.long p3), .second, .val (.long p4), .second, .val (.long p5), .second, .val (.int (3 : Int32)), .val (.ref b216), .val (.ref b218), .val (.ref b220), .val (.long (((0 : Int64) + (own_span p2)) + (own_span p3))), .second, .unset] [(.long (((0 : Int64) + (own_span p2)) + (own_span p3)))]))
    refine own_step (fun t k => XS.lload X249.here hx rfl (hb hby at_132) rfl k) ?_
    show own_Goes p e below _ (T249.setTop (mkF m 134 #[.val (.int p1), .val (.long p2), .second, .val (.long p3), .second, .val (.long p4), .second, .val (.long p5), .second, .val (.int (3 : Int32)), .val (.ref b216), .val (.ref b218), .val (.ref b220), .val (.long (((0 : Int64) + (own_span p2)) + (own_span p3))), .second, .unset] [(.long p4), (.long (((0 : Int64) + (own_span p2)) + (own_span p3)))]))
    obtain ⟨_, _, ⟨T251, L251, k251, n251⟩, -, X251, ⟨Lc251, hQ251, l251, y251, z251⟩, st251⟩ := Jvm.LawKit.callS X249 hx (y := (⟨"com/example/concepta/concepta/store/RowsBlockCountPinLaw", "span", "(J)J"⟩ : MethodName)) hown (mvT hZ w39) (mvT hZ w40) (mvT hZ w34) (mvT hZ w41) (by decide) (backOf (W := 2) (own_b5 l Z a0 hw [] p4  h249 n0 (Nat.le_trans (Nat.le_trans (Nat.le_trans (Nat.le_trans (Nat.le_trans (Nat.le_trans (Nat.le_trans (Nat.le_trans (Nat.le_trans (Nat.le_trans (Nat.le_trans (Nat.le_trans Z0 E216.1) E218.1) E220.1) (Keep.of_wr W223).1) (Keep.of_wr W226).1) (Keep.of_wr W229).1) (Keep.of_wr W233).1) (Keep.of_wr W236).1) (Keep.of_wr W239).1) (Keep.of_wr W243).1) (Keep.of_wr W246).1) (Keep.of_wr W249).1) ) hZ w41 w34 (by decide) (by decide)) (g := (mkF m 134 #[.val (.int p1), .val (.long p2), .second, .val (.long p3), .second, .val (.long p4), .second, .val (.long p5), .second, .val (.int (3 : Int32)), .val (.ref b216), .val (.ref b218), .val (.ref b220), .val (.long (((0 : Int64) + (own_span p2)) + (own_span p3))), .second, .unset] [(.long p4), (.long (((0 : Int64) + (own_span p2)) + (own_span p3)))])) rfl (by rw [hml]; rfl) (argsL := [(.long p4)]) (rest := [(.long (((0 : Int64) + (own_span p2)) + (own_span p3)))]) (lenOf own_pd4 rfl) rfl (by show 2 * 0 + _ ≤ _; exact Nat.le_of_eq rfl) (hb hby at_134) (fun _ _ => ⟨rfl, e249, (by decide : 3 + 0 ≤ _), (by decide : 9 + 0 ≤ _)⟩)
    dsimp only [Pt.U, Pt.locs, Pt.cells, Pt.slots] at X251 l251 y251 z251 st251 hQ251
    subst y251 z251
    obtain ⟨rfl, N251q, eh251⟩ := hQ251
    have N251 : Fr n0 L251 := by rw [l251]; exact Fr.app N249 N251q
    refine own_step st251 ?_
    show own_Goes p e below _ (T251.setTop (mkF m 137 #[.val (.int p1), .val (.long p2), .second, .val (.long p3), .second, .val (.long p4), .second, .val (.long p5), .second, .val (.int (3 : Int32)), .val (.ref b216), .val (.ref b218), .val (.ref b220), .val (.long (((0 : Int64) + (own_span p2)) + (own_span p3))), .second, .unset] [(.long (own_span p4)), (.long (((0 : Int64) + (own_span p2)) + (own_span p3)))]))
    refine own_step (fun t k => XS.ladd X251.here hx rfl (hb hby at_137) rfl k) ?_
    show own_Goes p e below _ (T251.setTop (mkF m 138 #[.val (.int p1), .val (.long p2), .second, .val (.long p3), .second, .val (.long p4), .second, .val (.long p5), .second, .val (.int (3 : Int32)), .val (.ref b216), .val (.ref b218), .val (.ref b220), .val (.long (((0 : Int64) + (own_span p2)) + (own_span p3))), .second, .unset] [(.long ((((0 : Int64) + (own_span p2)) + (own_span p3)) + (own_span p4)))]))
    refine own_step (fun t k => XS.lstore X251.here hx rfl (hb hby at_138) rfl (l' := #[.val (.int p1), .val (.long p2), .second, .val (.long p3), .second, .val (.long p4), .second, .val (.long p5), .second, .val (.int (3 : Int32)), .val (.ref b216), .val (.ref b218), .val (.ref b220), .val (.long ((((0 : Int64) + (own_span p2)) + (own_span p3)) + (own_span p4))), .second, .unset]) rfl k) ?_
    show own_Goes p e below _ (T251.setTop (mkF m 140 #[.val (.int p1), .val (.long p2), .second, .val (.long p3), .second, .val (.long p4), .second, .val (.long p5), .second, .val (.int (3 : Int32)), .val (.ref b216), .val (.ref b218), .val (.ref b220), .val (.long ((((0 : Int64) + (own_span p2)) + (own_span p3)) + (own_span p4))), .second, .unset] []))
    refine own_step (fun t k => XS.iload X251.here hx rfl (hb hby at_140) rfl k) ?_
    show own_Goes p e below _ (T251.setTop (mkF m 142 #[.val (.int p1), .val (.long p2), .second, .val (.long p3), .second, .val (.long p4), .second, .val (.long p5), .second, .val (.int (3 : Int32)), .val (.ref b216), .val (.ref b218), .val (.ref b220), .val (.long ((((0 : Int64) + (own_span p2)) + (own_span p3)) + (own_span p4))), .second, .unset] [(.int (3 : Int32))]))
    refine own_step (fun t k => XS.iconst X251.here hx rfl (hb hby at_142) k) ?_
    show own_Goes p e below _ (T251.setTop (mkF m 143 #[.val (.int p1), .val (.long p2), .second, .val (.long p3), .second, .val (.long p4), .second, .val (.long p5), .second, .val (.int (3 : Int32)), .val (.ref b216), .val (.ref b218), .val (.ref b220), .val (.long ((((0 : Int64) + (own_span p2)) + (own_span p3)) + (own_span p4))), .second, .unset] [(.int (3 : Int32)), (.int (3 : Int32))]))
    have hc252 : ¬ ((3 : Int32) < (3 : Int32)) := by decide
    refine own_step (fun t k => XS.icmpYes X251.here hx rfl (pc0 := 143) (pc' := 180) rfl (hb hby at_143) rfl (flt hc252).2.2.2 (by decide) (by decide) k) ?_
    show own_Goes p e below _ (T251.setTop (mkF m 180 #[.val (.int p1), .val (.long p2), .second, .val (.long p3), .second, .val (.long p4), .second, .val (.long p5), .second, .val (.int (3 : Int32)), .val (.ref b216), .val (.ref b218), .val (.ref b220), .val (.long ((((0 : Int64) + (own_span p2)) + (own_span p3)) + (own_span p4))), .second, .unset] []))
    obtain ⟨T253, h253, X253, e253, E253, A253, D253, -, st253⟩ := newO X251 hx hZ hown w3 w4 w5 eh251 (g := (mkF m 180 #[.val (.int p1), .val (.long p2), .second, .val (.long p3), .second, .val (.long p4), .second, .val (.long p5), .second, .val (.int (3 : Int32)), .val (.ref b216), .val (.ref b218), .val (.ref b220), .val (.long ((((0 : Int64) + (own_span p2)) + (own_span p3)) + (own_span p4))), .second, .unset] [])) rfl (hb hby at_180) (by decide) (by decide)
    obtain ⟨b253, g253⟩ : ∃ z, z = h249.size := ⟨_, rfl⟩
    rw [← g253] at A253 D253 st253
    have ne_b216_b253 : b216 ≠ b253 := Nat.ne_of_lt (Nat.lt_of_lt_of_le ((V243.other W246 ne_b216_b218).other W249 ne_b216_b220).lt (Nat.le_of_eq g253.symm))
    have ne_b218_b253 : b218 ≠ b253 := Nat.ne_of_lt (Nat.lt_of_lt_of_le (V246.other W249 ne_b218_b220).lt (Nat.le_of_eq g253.symm))
    have ne_b220_b253 : b220 ≠ b253 := Nat.ne_of_lt (Nat.lt_of_lt_of_le V249.lt (Nat.le_of_eq g253.symm))
    have g_b253 : n0 ≤ b253 := Nat.le_trans (Nat.le_trans (Nat.le_trans (Nat.le_trans (Nat.le_trans (Nat.le_trans (Nat.le_trans (Nat.le_trans (Nat.le_trans (Nat.le_trans (Nat.le_trans (Nat.le_trans (Nat.le_trans Z0 E216.1) E218.1) E220.1) (Keep.of_wr W223).1) (Keep.of_wr W226).1) (Keep.of_wr W229).1) (Keep.of_wr W233).1) (Keep.of_wr W236).1) (Keep.of_wr W239).1) (Keep.of_wr W243).1) (Keep.of_wr W246).1) (Keep.of_wr W249).1) (Nat.le_of_eq g253.symm)
    have sz_b253 : h0.size ≤ b253 := Nat.le_trans K250.1 (Nat.le_of_eq g253.symm)
    have K254 : Keep h0 h253 [] := K250.ext E253
    have F_regions_b253 : Fld Z h253 b253 "com/example/concepta/concepta/store/OidSet$Rows" "regions" "[J" .null := D253 (Or.inr w18) (ty := (.array .long)) (by decide)
    have F_firsts_b253 : Fld Z h253 b253 "com/example/concepta/concepta/store/OidSet$Rows" "firsts" "[I" .null := D253 (Or.inr w20) (ty := (.array .int)) (by decide)
    have F_lasts_b253 : Fld Z h253 b253 "com/example/concepta/concepta/store/OidSet$Rows" "lasts" "[I" .null := D253 (Or.inr w22) (ty := (.array .int)) (by decide)
    have F_blocks_b253 : Fld Z h253 b253 "com/example/concepta/concepta/store/OidSet$Rows" "blocks" "[J" .null := D253 (Or.inr w24) (ty := (.array .long)) (by decide)
    have F_bits_b253 : Fld Z h253 b253 "com/example/concepta/concepta/store/OidSet$Rows" "bits" "[J" .null := D253 (Or.inr w26) (ty := (.array .long)) (by decide)
    refine own_step st253 ?_
    show own_Goes p e below _ (T253.setTop (mkF m 183 #[.val (.int p1), .val (.long p2), .second, .val (.long p3), .second, .val (.long p4), .second, .val (.long p5), .second, .val (.int (3 : Int32)), .val (.ref b216), .val (.ref b218), .val (.ref b220), .val (.long ((((0 : Int64) + (own_span p2)) + (own_span p3)) + (own_span p4))), .second, .unset] [(.ref b253)]))
    refine own_step (fun t k => XS.dup X253.here hx rfl (hb hby at_183) rfl rfl k) ?_
    show own_Goes p e below _ (T253.setTop (mkF m 184 #[.val (.int p1), .val (.long p2), .second, .val (.long p3), .second, .val (.long p4), .second, .val (.long p5), .second, .val (.int (3 : Int32)), .val (.ref b216), .val (.ref b218), .val (.ref b220), .val (.long ((((0 : Int64) + (own_span p2)) + (own_span p3)) + (own_span p4))), .second, .unset] [(.ref b253), (.ref b253)]))
    refine own_step (fun t k => XS.aload X253.here hx rfl (hb hby at_184) rfl rfl k) ?_
    show own_Goes p e below _ (T253.setTop (mkF m 186 #[.val (.int p1), .val (.long p2), .second, .val (.long p3), .second, .val (.long p4), .second, .val (.long p5), .second, .val (.int (3 : Int32)), .val (.ref b216), .val (.ref b218), .val (.ref b220), .val (.long ((((0 : Int64) + (own_span p2)) + (own_span p3)) + (own_span p4))), .second, .unset] [(.ref b216), (.ref b253), (.ref b253)]))
    refine own_step (fun t k => XS.aload X253.here hx rfl (hb hby at_186) rfl rfl k) ?_
    show own_Goes p e below _ (T253.setTop (mkF m 188 #[.val (.int p1), .val (.long p2), .second, .val (.long p3), .second, .val (.long p4), .second, .val (.long p5), .second, .val (.int (3 : Int32)), .val (.ref b216), .val (.ref b218), .val (.ref b220), .val (.long ((((0 : Int64) + (own_span p2)) + (own_span p3)) + (own_span p4))), .second, .unset] [(.ref b218), (.ref b216), (.ref b253), (.ref b253)]))
    refine own_step (fun t k => XS.aload X253.here hx rfl (hb hby at_188) rfl rfl k) ?_
    show own_Goes p e below _ (T253.setTop (mkF m 190 #[.val (.int p1), .val (.long p2), .second, .val (.long p3), .second, .val (.long p4), .second, .val (.long p5), .second, .val (.int (3 : Int32)), .val (.ref b216), .val (.ref b218), .val (.ref b220), .val (.long ((((0 : Int64) + (own_span p2)) + (own_span p3)) + (own_span p4))), .second, .unset] [(.ref b220), (.ref b218), (.ref b216), (.ref b253), (.ref b253)]))
    refine own_step (fun t k => XS.iconst X253.here hx rfl (hb hby at_190) k) ?_
    show own_Goes p e below _ (T253.setTop (mkF m 191 #[.val (.int p1), .val (.long p2), .second, .val (.long p3), .second, .val (.long p4), .second, .val (.long p5), .second, .val (.int (3 : Int32)), .val (.ref b216), .val (.ref b218), .val (.ref b220), .val (.long ((((0 : Int64) + (own_span p2)) + (own_span p3)) + (own_span p4))), .second, .unset] [(.int (1 : Int32)), (.ref b220), (.ref b218), (.ref b216), (.ref b253), (.ref b253)]))
    obtain ⟨T255, h255, k255, X255, e255, E255, A255, st255⟩ := newP (aty := .long) X253 hx hZ w1 e253 (g := (mkF m 191 #[.val (.int p1), .val (.long p2), .second, .val (.long p3), .second, .val (.long p4), .second, .val (.long p5), .second, .val (.int (3 : Int32)), .val (.ref b216), .val (.ref b218), .val (.ref b220), .val (.long ((((0 : Int64) + (own_span p2)) + (own_span p3)) + (own_span p4))), .second, .unset] [(.int (1 : Int32)), (.ref b220), (.ref b218), (.ref b216), (.ref b253), (.ref b253)])) rfl (hb hby at_191) rfl (by decide) (cap := 1) (by decide) (by decide) (by decide) (by decide)
    obtain ⟨b255, g255⟩ : ∃ z, z = h253.size := ⟨_, rfl⟩
    rw [← g255] at A255 st255
    have ne_b216_b255 : b216 ≠ b255 := Nat.ne_of_lt (Nat.lt_of_lt_of_le (((V243.other W246 ne_b216_b218).other W249 ne_b216_b220).ext E253).lt (Nat.le_of_eq g255.symm))
    have ne_b218_b255 : b218 ≠ b255 := Nat.ne_of_lt (Nat.lt_of_lt_of_le ((V246.other W249 ne_b218_b220).ext E253).lt (Nat.le_of_eq g255.symm))
    have ne_b220_b255 : b220 ≠ b255 := Nat.ne_of_lt (Nat.lt_of_lt_of_le (V249.ext E253).lt (Nat.le_of_eq g255.symm))
    have ne_b253_b255 : b253 ≠ b255 := Nat.ne_of_lt (Nat.lt_of_lt_of_le A253.lt (Nat.le_of_eq g255.symm))
    have g_b255 : n0 ≤ b255 := Nat.le_trans (Nat.le_trans (Nat.le_trans (Nat.le_trans (Nat.le_trans (Nat.le_trans (Nat.le_trans (Nat.le_trans (Nat.le_trans (Nat.le_trans (Nat.le_trans (Nat.le_trans (Nat.le_trans (Nat.le_trans Z0 E216.1) E218.1) E220.1) (Keep.of_wr W223).1) (Keep.of_wr W226).1) (Keep.of_wr W229).1) (Keep.of_wr W233).1) (Keep.of_wr W236).1) (Keep.of_wr W239).1) (Keep.of_wr W243).1) (Keep.of_wr W246).1) (Keep.of_wr W249).1) E253.1) (Nat.le_of_eq g255.symm)
    have sz_b255 : h0.size ≤ b255 := Nat.le_trans K254.1 (Nat.le_of_eq g255.symm)
    have V255 : Arv Z h255 b255 k255 .long (1 : Int32) (([(0 : Int64)] : List Int64).map Value.long) (Value.long (0 : Int64)) := own_newJ A255 (by decide) 1
    have K256 : Keep h0 h255 [] := K254.ext E255
    refine own_step st255 ?_
    show own_Goes p e below _ (T255.setTop (mkF m 193 #[.val (.int p1), .val (.long p2), .second, .val (.long p3), .second, .val (.long p4), .second, .val (.long p5), .second, .val (.int (3 : Int32)), .val (.ref b216), .val (.ref b218), .val (.ref b220), .val (.long ((((0 : Int64) + (own_span p2)) + (own_span p3)) + (own_span p4))), .second, .unset] [(.ref b255), (.ref b220), (.ref b218), (.ref b216), (.ref b253), (.ref b253)]))
    refine own_step (fun t k => XS.iconst X255.here hx rfl (hb hby at_193) k) ?_
    show own_Goes p e below _ (T255.setTop (mkF m 194 #[.val (.int p1), .val (.long p2), .second, .val (.long p3), .second, .val (.long p4), .second, .val (.long p5), .second, .val (.int (3 : Int32)), .val (.ref b216), .val (.ref b218), .val (.ref b220), .val (.long ((((0 : Int64) + (own_span p2)) + (own_span p3)) + (own_span p4))), .second, .unset] [(.int (1 : Int32)), (.ref b255), (.ref b220), (.ref b218), (.ref b216), (.ref b253), (.ref b253)]))
    obtain ⟨T257, h257, k257, X257, e257, E257, A257, st257⟩ := newP (aty := .long) X255 hx hZ w1 e255 (g := (mkF m 194 #[.val (.int p1), .val (.long p2), .second, .val (.long p3), .second, .val (.long p4), .second, .val (.long p5), .second, .val (.int (3 : Int32)), .val (.ref b216), .val (.ref b218), .val (.ref b220), .val (.long ((((0 : Int64) + (own_span p2)) + (own_span p3)) + (own_span p4))), .second, .unset] [(.int (1 : Int32)), (.ref b255), (.ref b220), (.ref b218), (.ref b216), (.ref b253), (.ref b253)])) rfl (hb hby at_194) rfl (by decide) (cap := 1) (by decide) (by decide) (by decide) (by decide)
    obtain ⟨b257, g257⟩ : ∃ z, z = h255.size := ⟨_, rfl⟩
    rw [← g257] at A257 st257
    have ne_b216_b257 : b216 ≠ b257 := Nat.ne_of_lt (Nat.lt_of_lt_of_le ((((V243.other W246 ne_b216_b218).other W249 ne_b216_b220).ext E253).ext E255).lt (Nat.le_of_eq g257.symm))
    have ne_b218_b257 : b218 ≠ b257 := Nat.ne_of_lt (Nat.lt_of_lt_of_le (((V246.other W249 ne_b218_b220).ext E253).ext E255).lt (Nat.le_of_eq g257.symm))
    have ne_b220_b257 : b220 ≠ b257 := Nat.ne_of_lt (Nat.lt_of_lt_of_le ((V249.ext E253).ext E255).lt (Nat.le_of_eq g257.symm))
    have ne_b253_b257 : b253 ≠ b257 := Nat.ne_of_lt (Nat.lt_of_lt_of_le (A253.ext E255).lt (Nat.le_of_eq g257.symm))
    have ne_b255_b257 : b255 ≠ b257 := Nat.ne_of_lt (Nat.lt_of_lt_of_le V255.lt (Nat.le_of_eq g257.symm))
    have g_b257 : n0 ≤ b257 := Nat.le_trans (Nat.le_trans (Nat.le_trans (Nat.le_trans (Nat.le_trans (Nat.le_trans (Nat.le_trans (Nat.le_trans (Nat.le_trans (Nat.le_trans (Nat.le_trans (Nat.le_trans (Nat.le_trans (Nat.le_trans (Nat.le_trans Z0 E216.1) E218.1) E220.1) (Keep.of_wr W223).1) (Keep.of_wr W226).1) (Keep.of_wr W229).1) (Keep.of_wr W233).1) (Keep.of_wr W236).1) (Keep.of_wr W239).1) (Keep.of_wr W243).1) (Keep.of_wr W246).1) (Keep.of_wr W249).1) E253.1) E255.1) (Nat.le_of_eq g257.symm)
    have sz_b257 : h0.size ≤ b257 := Nat.le_trans K256.1 (Nat.le_of_eq g257.symm)
    have V257 : Arv Z h257 b257 k257 .long (1 : Int32) (([(0 : Int64)] : List Int64).map Value.long) (Value.long (0 : Int64)) := own_newJ A257 (by decide) 1
    have K258 : Keep h0 h257 [] := K256.ext E257
    refine own_step st257 ?_
    show own_Goes p e below _ (T257.setTop (mkF m 196 #[.val (.int p1), .val (.long p2), .second, .val (.long p3), .second, .val (.long p4), .second, .val (.long p5), .second, .val (.int (3 : Int32)), .val (.ref b216), .val (.ref b218), .val (.ref b220), .val (.long ((((0 : Int64) + (own_span p2)) + (own_span p3)) + (own_span p4))), .second, .unset] [(.ref b257), (.ref b255), (.ref b220), (.ref b218), (.ref b216), (.ref b253), (.ref b253)]))
    obtain ⟨_, _, ⟨T259, L259, k259, n259⟩, -, X259, ⟨Lc259, hQ259, l259, y259, z259⟩, st259⟩ := X257.specialBack hx (y := (⟨"com/example/concepta/concepta/store/OidSet$Rows", "<init>", "([J[I[I[J[J)V"⟩ : MethodName)) rfl hown (mvT hZ w6) (mvT hZ w7) (mvT hZ w8) (by decide) (backOf (W := 1) (own_b2 l Z a0 hw [] b253 b216 b218 b220 b255 b257 (.null) (.null) (.null) (.null) (.null) h257 n0 (Nat.le_trans (Nat.le_trans (Nat.le_trans (Nat.le_trans (Nat.le_trans (Nat.le_trans (Nat.le_trans (Nat.le_trans (Nat.le_trans (Nat.le_trans (Nat.le_trans (Nat.le_trans (Nat.le_trans (Nat.le_trans (Nat.le_trans Z0 E216.1) E218.1) E220.1) (Keep.of_wr W223).1) (Keep.of_wr W226).1) (Keep.of_wr W229).1) (Keep.of_wr W233).1) (Keep.of_wr W236).1) (Keep.of_wr W239).1) (Keep.of_wr W243).1) (Keep.of_wr W246).1) (Keep.of_wr W249).1) E253.1) E255.1) E257.1) ((A253.ext E255).ext E257) g_b253 ((F_regions_b253.ext E255).ext E257) ((F_firsts_b253.ext E255).ext E257) ((F_lasts_b253.ext E255).ext E257) ((F_blocks_b253.ext E255).ext E257) ((F_bits_b253.ext E255).ext E257)) hZ w8 w5 (by decide) (by decide)) (g := (mkF m 196 #[.val (.int p1), .val (.long p2), .second, .val (.long p3), .second, .val (.long p4), .second, .val (.long p5), .second, .val (.int (3 : Int32)), .val (.ref b216), .val (.ref b218), .val (.ref b220), .val (.long ((((0 : Int64) + (own_span p2)) + (own_span p3)) + (own_span p4))), .second, .unset] [(.ref b257), (.ref b255), (.ref b220), (.ref b218), (.ref b216), (.ref b253), (.ref b253)])) rfl (by rw [hml]; rfl) (Steps.refl _) (a := b253) (argsL := [(.ref b216), (.ref b218), (.ref b220), (.ref b255), (.ref b257)]) (rest := [(.ref b253)]) (lenOf own_pd2 rfl) rfl (by show 2 * 0 + _ ≤ _; exact Nat.le_of_eq rfl) (hb hby at_196) (fun _ _ => ⟨rfl, e257, (by decide : 6 + 0 ≤ _), (by decide : 16 + 0 ≤ _)⟩)
    dsimp only [Pt.U, Pt.locs, Pt.cells, Pt.slots] at X259 l259 y259 z259 st259 hQ259
    subst y259 z259
    obtain ⟨rfl, N259q, K259c, f259_0, f259_1, f259_2, f259_3⟩ := hQ259
    have N259 : Fr n0 L259 := by rw [l259]; exact Fr.app N251 N259q
    refine own_jump st259 ?_
    have K260 : Keep h0 T259.heap [] := K258.trans K259c (allS (Or.inr sz_b253) all0)
    show own_Goes p e below _ (T259.setTop (mkF m 199 #[.val (.int p1), .val (.long p2), .second, .val (.long p3), .second, .val (.long p4), .second, .val (.long p5), .second, .val (.int (3 : Int32)), .val (.ref b216), .val (.ref b218), .val (.ref b220), .val (.long ((((0 : Int64) + (own_span p2)) + (own_span p3)) + (own_span p4))), .second, .unset] [(.ref b253)]))
    refine own_step (fun t k => XS.astore X259.here hx rfl (hb hby at_199) rfl rfl (l' := #[.val (.int p1), .val (.long p2), .second, .val (.long p3), .second, .val (.long p4), .second, .val (.long p5), .second, .val (.int (3 : Int32)), .val (.ref b216), .val (.ref b218), .val (.ref b220), .val (.long ((((0 : Int64) + (own_span p2)) + (own_span p3)) + (own_span p4))), .second, .val (.ref b253)]) rfl k) ?_
    show own_Goes p e below _ (T259.setTop (mkF m 201 #[.val (.int p1), .val (.long p2), .second, .val (.long p3), .second, .val (.long p4), .second, .val (.long p5), .second, .val (.int (3 : Int32)), .val (.ref b216), .val (.ref b218), .val (.ref b220), .val (.long ((((0 : Int64) + (own_span p2)) + (own_span p3)) + (own_span p4))), .second, .val (.ref b253)] []))
    refine own_step (fun t k => XS.aload X259.here hx rfl (hb hby at_201) rfl rfl k) ?_
    show own_Goes p e below _ (T259.setTop (mkF m 203 #[.val (.int p1), .val (.long p2), .second, .val (.long p3), .second, .val (.long p4), .second, .val (.long p5), .second, .val (.int (3 : Int32)), .val (.ref b216), .val (.ref b218), .val (.ref b220), .val (.long ((((0 : Int64) + (own_span p2)) + (own_span p3)) + (own_span p4))), .second, .val (.ref b253)] [(.ref b253)]))
    obtain ⟨cq261, kq261, q261a, q261b, q261c⟩ := isOf hZ rfl f259_0
    obtain ⟨_, _, ⟨T261, L261, k261, n261⟩, -, X261, ⟨Lc261, hQ261, l261, y261, z261⟩, st261⟩ := X259.virtualBack hx (y := (⟨"com/example/concepta/concepta/store/OidSet$Rows", "blockCount", "()I"⟩ : MethodName)) (z := (⟨"com/example/concepta/concepta/store/OidSet$Rows", "blockCount", "()I"⟩ : MethodName)) hown (mvT hZ w27) (mvT hZ w28) (notFace_of_selects (args := #[]) (mvT hZ w30)) (mvT hZ w30) (mvT hZ w29) (by decide) (backOf (W := 0) (own_c3 l Z a0 hw [] b253 (b216) (b218) (b220) (k216) (k218) (k220) (([p2, p3, p4] : List Int64)) (([(own_first p2), (own_first p3), (own_first p4)] : List Int32)) (([(own_last p2), (own_last p3), (own_last p4)] : List Int32)) T259.heap n0 (Nat.le_trans (Nat.le_trans (Nat.le_trans (Nat.le_trans (Nat.le_trans (Nat.le_trans (Nat.le_trans (Nat.le_trans (Nat.le_trans (Nat.le_trans (Nat.le_trans (Nat.le_trans (Nat.le_trans (Nat.le_trans (Nat.le_trans (Nat.le_trans Z0 E216.1) E218.1) E220.1) (Keep.of_wr W223).1) (Keep.of_wr W226).1) (Keep.of_wr W229).1) (Keep.of_wr W233).1) (Keep.of_wr W236).1) (Keep.of_wr W239).1) (Keep.of_wr W243).1) (Keep.of_wr W246).1) (Keep.of_wr W249).1) E253.1) E255.1) E257.1) K259c.1) f259_1 f259_2 f259_3 ((((((V243.other W246 ne_b216_b218).other W249 ne_b216_b220).ext E253).ext E255).ext E257).keep K259c (ninS ne_b216_b253 nin0)) (((((V246.other W249 ne_b218_b220).ext E253).ext E255).ext E257).keep K259c (ninS ne_b218_b253 nin0)) ((((V249.ext E253).ext E255).ext E257).keep K259c (ninS ne_b220_b253 nin0))) hZ w31 w5 (by decide) (by decide)) q261a q261c (g := (mkF m 203 #[.val (.int p1), .val (.long p2), .second, .val (.long p3), .second, .val (.long p4), .second, .val (.long p5), .second, .val (.int (3 : Int32)), .val (.ref b216), .val (.ref b218), .val (.ref b220), .val (.long ((((0 : Int64) + (own_span p2)) + (own_span p3)) + (own_span p4))), .second, .val (.ref b253)] [(.ref b253)])) rfl (by rw [hml]; rfl) (Steps.refl _) (argsL := []) (rest := []) (lenOf own_pd3 rfl) rfl (by show 2 * 0 + _ ≤ _; exact Nat.le_of_eq rfl) (hb hby at_203) (fun _ _ => ⟨rfl, rfl, (by decide : 6 + 0 ≤ _), (by decide : 16 + 0 ≤ _)⟩)
    dsimp only [Pt.U, Pt.locs, Pt.cells, Pt.slots] at X261 l261 y261 z261 st261 hQ261
    subst y261 z261
    obtain ⟨rfl, N261q, eh261⟩ := hQ261
    have N261 : Fr n0 L261 := by rw [l261]; exact Fr.app N259 N261q
    refine own_jump st261 ?_
    show own_Goes p e below _ (T261.setTop (mkF m 206 #[.val (.int p1), .val (.long p2), .second, .val (.long p3), .second, .val (.long p4), .second, .val (.long p5), .second, .val (.int (3 : Int32)), .val (.ref b216), .val (.ref b218), .val (.ref b220), .val (.long ((((0 : Int64) + (own_span p2)) + (own_span p3)) + (own_span p4))), .second, .val (.ref b253)] [(.int ((((0 : Int32) + (((([(own_last p2), (own_last p3), (own_last p4)] : List Int32).getD (0 : Int32).toNatClampNeg 0) - (([(own_first p2), (own_first p3), (own_first p4)] : List Int32).getD (0 : Int32).toNatClampNeg 0)) + (1 : Int32))) + (((([(own_last p2), (own_last p3), (own_last p4)] : List Int32).getD (1 : Int32).toNatClampNeg 0) - (([(own_first p2), (own_first p3), (own_first p4)] : List Int32).getD (1 : Int32).toNatClampNeg 0)) + (1 : Int32))) + (((([(own_last p2), (own_last p3), (own_last p4)] : List Int32).getD (2 : Int32).toNatClampNeg 0) - (([(own_first p2), (own_first p3), (own_first p4)] : List Int32).getD (2 : Int32).toNatClampNeg 0)) + (1 : Int32))))]))
    refine own_step (fun t k => XS.lload X261.here hx rfl (hb hby at_206) rfl k) ?_
    show own_Goes p e below _ (T261.setTop (mkF m 208 #[.val (.int p1), .val (.long p2), .second, .val (.long p3), .second, .val (.long p4), .second, .val (.long p5), .second, .val (.int (3 : Int32)), .val (.ref b216), .val (.ref b218), .val (.ref b220), .val (.long ((((0 : Int64) + (own_span p2)) + (own_span p3)) + (own_span p4))), .second, .val (.ref b253)] [(.long ((((0 : Int64) + (own_span p2)) + (own_span p3)) + (own_span p4))), (.int ((((0 : Int32) + (((([(own_last p2), (own_last p3), (own_last p4)] : List Int32).getD (0 : Int32).toNatClampNeg 0) - (([(own_first p2), (own_first p3), (own_first p4)] : List Int32).getD (0 : Int32).toNatClampNeg 0)) + (1 : Int32))) + (((([(own_last p2), (own_last p3), (own_last p4)] : List Int32).getD (1 : Int32).toNatClampNeg 0) - (([(own_first p2), (own_first p3), (own_first p4)] : List Int32).getD (1 : Int32).toNatClampNeg 0)) + (1 : Int32))) + (((([(own_last p2), (own_last p3), (own_last p4)] : List Int32).getD (2 : Int32).toNatClampNeg 0) - (([(own_first p2), (own_first p3), (own_first p4)] : List Int32).getD (2 : Int32).toNatClampNeg 0)) + (1 : Int32))))]))
    refine own_step (fun t k => XS.l2i X261.here hx rfl (hb hby at_208) rfl k) ?_
    show own_Goes p e below _ (T261.setTop (mkF m 209 #[.val (.int p1), .val (.long p2), .second, .val (.long p3), .second, .val (.long p4), .second, .val (.long p5), .second, .val (.int (3 : Int32)), .val (.ref b216), .val (.ref b218), .val (.ref b220), .val (.long ((((0 : Int64) + (own_span p2)) + (own_span p3)) + (own_span p4))), .second, .val (.ref b253)] [(.int (((((0 : Int64) + (own_span p2)) + (own_span p3)) + (own_span p4)).toInt32)), (.int ((((0 : Int32) + (((([(own_last p2), (own_last p3), (own_last p4)] : List Int32).getD (0 : Int32).toNatClampNeg 0) - (([(own_first p2), (own_first p3), (own_first p4)] : List Int32).getD (0 : Int32).toNatClampNeg 0)) + (1 : Int32))) + (((([(own_last p2), (own_last p3), (own_last p4)] : List Int32).getD (1 : Int32).toNatClampNeg 0) - (([(own_first p2), (own_first p3), (own_first p4)] : List Int32).getD (1 : Int32).toNatClampNeg 0)) + (1 : Int32))) + (((([(own_last p2), (own_last p3), (own_last p4)] : List Int32).getD (2 : Int32).toNatClampNeg 0) - (([(own_first p2), (own_first p3), (own_first p4)] : List Int32).getD (2 : Int32).toNatClampNeg 0)) + (1 : Int32))))]))
    refine own_step (S' := T261.setTop (mkF m 217 #[.val (.int p1), .val (.long p2), .second, .val (.long p3), .second, .val (.long p4), .second, .val (.long p5), .second, .val (.int (3 : Int32)), .val (.ref b216), .val (.ref b218), .val (.ref b220), .val (.long ((((0 : Int64) + (own_span p2)) + (own_span p3)) + (own_span p4))), .second, .val (.ref b253)] [(.int (if ((((0 : Int32) + (((([(own_last p2), (own_last p3), (own_last p4)] : List Int32).getD (0 : Int32).toNatClampNeg 0) - (([(own_first p2), (own_first p3), (own_first p4)] : List Int32).getD (0 : Int32).toNatClampNeg 0)) + (1 : Int32))) + (((([(own_last p2), (own_last p3), (own_last p4)] : List Int32).getD (1 : Int32).toNatClampNeg 0) - (([(own_first p2), (own_first p3), (own_first p4)] : List Int32).getD (1 : Int32).toNatClampNeg 0)) + (1 : Int32))) + (((([(own_last p2), (own_last p3), (own_last p4)] : List Int32).getD (2 : Int32).toNatClampNeg 0) - (([(own_first p2), (own_first p3), (own_first p4)] : List Int32).getD (2 : Int32).toNatClampNeg 0)) + (1 : Int32))) = (((((0 : Int64) + (own_span p2)) + (own_span p3)) + (own_span p4)).toInt32) then (1 : Int32) else (0 : Int32)))])) (fun t k => ?_) ?_
    · show Steps p.tables e below (T261.setTop (mkF m 209 #[.val (.int p1), .val (.long p2), .second, .val (.long p3), .second, .val (.long p4), .second, .val (.long p5), .second, .val (.int (3 : Int32)), .val (.ref b216), .val (.ref b218), .val (.ref b220), .val (.long ((((0 : Int64) + (own_span p2)) + (own_span p3)) + (own_span p4))), .second, .val (.ref b253)] [(.int (((((0 : Int64) + (own_span p2)) + (own_span p3)) + (own_span p4)).toInt32)), (.int ((((0 : Int32) + (((([(own_last p2), (own_last p3), (own_last p4)] : List Int32).getD (0 : Int32).toNatClampNeg 0) - (([(own_first p2), (own_first p3), (own_first p4)] : List Int32).getD (0 : Int32).toNatClampNeg 0)) + (1 : Int32))) + (((([(own_last p2), (own_last p3), (own_last p4)] : List Int32).getD (1 : Int32).toNatClampNeg 0) - (([(own_first p2), (own_first p3), (own_first p4)] : List Int32).getD (1 : Int32).toNatClampNeg 0)) + (1 : Int32))) + (((([(own_last p2), (own_last p3), (own_last p4)] : List Int32).getD (2 : Int32).toNatClampNeg 0) - (([(own_first p2), (own_first p3), (own_first p4)] : List Int32).getD (2 : Int32).toNatClampNeg 0)) + (1 : Int32))))])) _
      by_cases hc262 : ((((0 : Int32) + (((([(own_last p2), (own_last p3), (own_last p4)] : List Int32).getD (0 : Int32).toNatClampNeg 0) - (([(own_first p2), (own_first p3), (own_first p4)] : List Int32).getD (0 : Int32).toNatClampNeg 0)) + (1 : Int32))) + (((([(own_last p2), (own_last p3), (own_last p4)] : List Int32).getD (1 : Int32).toNatClampNeg 0) - (([(own_first p2), (own_first p3), (own_first p4)] : List Int32).getD (1 : Int32).toNatClampNeg 0)) + (1 : Int32))) + (((([(own_last p2), (own_last p3), (own_last p4)] : List Int32).getD (2 : Int32).toNatClampNeg 0) - (([(own_first p2), (own_first p3), (own_first p4)] : List Int32).getD (2 : Int32).toNatClampNeg 0)) + (1 : Int32))) = (((((0 : Int64) + (own_span p2)) + (own_span p3)) + (own_span p4)).toInt32)
      · --
        refine XS.icmpNo X261.here hx rfl (hb hby at_209) rfl (teq hc262).2 ?_
        show Steps p.tables e below (T261.setTop (mkF m 212 #[.val (.int p1), .val (.long p2), .second, .val (.long p3), .second, .val (.long p4), .second, .val (.long p5), .second, .val (.int (3 : Int32)), .val (.ref b216), .val (.ref b218), .val (.ref b220), .val (.long ((((0 : Int64) + (own_span p2)) + (own_span p3)) + (own_span p4))), .second, .val (.ref b253)] [])) _
        refine XS.iconst X261.here hx rfl (hb hby at_212) ?_
        show Steps p.tables e below (T261.setTop (mkF m 213 #[.val (.int p1), .val (.long p2), .second, .val (.long p3), .second, .val (.long p4), .second, .val (.long p5), .second, .val (.int (3 : Int32)), .val (.ref b216), .val (.ref b218), .val (.ref b220), .val (.long ((((0 : Int64) + (own_span p2)) + (own_span p3)) + (own_span p4))), .second, .val (.ref b253)] [(.int (1 : Int32))])) _
        refine XS.goto X261.here hx rfl (pc0 := 213) (pc' := 217) rfl (hb hby at_213) (by decide) (by decide) ?_
        show Steps p.tables e below (T261.setTop (mkF m 217 #[.val (.int p1), .val (.long p2), .second, .val (.long p3), .second, .val (.long p4), .second, .val (.long p5), .second, .val (.int (3 : Int32)), .val (.ref b216), .val (.ref b218), .val (.ref b220), .val (.long ((((0 : Int64) + (own_span p2)) + (own_span p3)) + (own_span p4))), .second, .val (.ref b253)] [(.int (1 : Int32))])) _
        simp only [if_pos hc262] at k
        exact k
      · --
        refine XS.icmpYes X261.here hx rfl (pc0 := 209) (pc' := 216) rfl (hb hby at_209) rfl (feq hc262).2 (by decide) (by decide) ?_
        show Steps p.tables e below (T261.setTop (mkF m 216 #[.val (.int p1), .val (.long p2), .second, .val (.long p3), .second, .val (.long p4), .second, .val (.long p5), .second, .val (.int (3 : Int32)), .val (.ref b216), .val (.ref b218), .val (.ref b220), .val (.long ((((0 : Int64) + (own_span p2)) + (own_span p3)) + (own_span p4))), .second, .val (.ref b253)] [])) _
        refine XS.iconst X261.here hx rfl (hb hby at_216) ?_
        show Steps p.tables e below (T261.setTop (mkF m 217 #[.val (.int p1), .val (.long p2), .second, .val (.long p3), .second, .val (.long p4), .second, .val (.long p5), .second, .val (.int (3 : Int32)), .val (.ref b216), .val (.ref b218), .val (.ref b220), .val (.long ((((0 : Int64) + (own_span p2)) + (own_span p3)) + (own_span p4))), .second, .val (.ref b253)] [(.int (0 : Int32))])) _
        simp only [if_neg hc262] at k
        exact k
    show own_Goes p e below _ (T261.setTop (mkF m 217 #[.val (.int p1), .val (.long p2), .second, .val (.long p3), .second, .val (.long p4), .second, .val (.long p5), .second, .val (.int (3 : Int32)), .val (.ref b216), .val (.ref b218), .val (.ref b220), .val (.long ((((0 : Int64) + (own_span p2)) + (own_span p3)) + (own_span p4))), .second, .val (.ref b253)] [(.int (if ((((0 : Int32) + (((([(own_last p2), (own_last p3), (own_last p4)] : List Int32).getD (0 : Int32).toNatClampNeg 0) - (([(own_first p2), (own_first p3), (own_first p4)] : List Int32).getD (0 : Int32).toNatClampNeg 0)) + (1 : Int32))) + (((([(own_last p2), (own_last p3), (own_last p4)] : List Int32).getD (1 : Int32).toNatClampNeg 0) - (([(own_first p2), (own_first p3), (own_first p4)] : List Int32).getD (1 : Int32).toNatClampNeg 0)) + (1 : Int32))) + (((([(own_last p2), (own_last p3), (own_last p4)] : List Int32).getD (2 : Int32).toNatClampNeg 0) - (([(own_first p2), (own_first p3), (own_first p4)] : List Int32).getD (2 : Int32).toNatClampNeg 0)) + (1 : Int32))) = (((((0 : Int64) + (own_span p2)) + (own_span p3)) + (own_span p4)).toInt32) then (1 : Int32) else (0 : Int32)))]))
    refine own_retL X261 hx hlk Bd.returns (hb hby at_217) (?_ : (if ((((0 : Int32) + (((([(own_last p2), (own_last p3), (own_last p4)] : List Int32).getD (0 : Int32).toNatClampNeg 0) - (([(own_first p2), (own_first p3), (own_first p4)] : List Int32).getD (0 : Int32).toNatClampNeg 0)) + (1 : Int32))) + (((([(own_last p2), (own_last p3), (own_last p4)] : List Int32).getD (1 : Int32).toNatClampNeg 0) - (([(own_first p2), (own_first p3), (own_first p4)] : List Int32).getD (1 : Int32).toNatClampNeg 0)) + (1 : Int32))) + (((([(own_last p2), (own_last p3), (own_last p4)] : List Int32).getD (2 : Int32).toNatClampNeg 0) - (([(own_first p2), (own_first p3), (own_first p4)] : List Int32).getD (2 : Int32).toNatClampNeg 0)) + (1 : Int32))) = (((((0 : Int64) + (own_span p2)) + (own_span p3)) + (own_span p4)).toInt32) then (1 : Int32) else (0 : Int32)) = 1) N261 (by decide) (by decide)
    exact own_plain3 p2 p3 p4 p5
  · --
    show own_Goes p e below _ (s₁.setTop (mkF m 8 #[.val (.int p1), .val (.long p2), .second, .val (.long p3), .second, .val (.long p4), .second, .val (.long p5), .second, .val (.int (4 : Int32)), .unset, .unset, .unset, .unset, .unset, .unset] []))
    refine own_step (fun t k => XS.iload X0.here hx rfl (hb hby at_8) rfl k) ?_
    show own_Goes p e below _ (s₁.setTop (mkF m 10 #[.val (.int p1), .val (.long p2), .second, .val (.long p3), .second, .val (.long p4), .second, .val (.long p5), .second, .val (.int (4 : Int32)), .unset, .unset, .unset, .unset, .unset, .unset] [(.int (4 : Int32))]))
    obtain ⟨T263, h263, k263, X263, e263, E263, A263, st263⟩ := newP (aty := .long) X0 hx hZ w1 e0 (g := (mkF m 10 #[.val (.int p1), .val (.long p2), .second, .val (.long p3), .second, .val (.long p4), .second, .val (.long p5), .second, .val (.int (4 : Int32)), .unset, .unset, .unset, .unset, .unset, .unset] [(.int (4 : Int32))])) rfl (hb hby at_10) rfl (by decide) (cap := 4) (by decide) (by decide) (by decide) (by decide)
    obtain ⟨b263, g263⟩ : ∃ z, z = h0.size := ⟨_, rfl⟩
    rw [← g263] at A263 st263
    have g_b263 : n0 ≤ b263 := Nat.le_trans Z0 (Nat.le_of_eq g263.symm)
    have sz_b263 : h0.size ≤ b263 := Nat.le_trans K0.1 (Nat.le_of_eq g263.symm)
    have V263 : Arv Z h263 b263 k263 .long (4 : Int32) (([(0 : Int64), (0 : Int64), (0 : Int64), (0 : Int64)] : List Int64).map Value.long) (Value.long (0 : Int64)) := own_newJ A263 (by decide) 4
    have K264 : Keep h0 h263 [] := K0.ext E263
    refine own_step st263 ?_
    show own_Goes p e below _ (T263.setTop (mkF m 12 #[.val (.int p1), .val (.long p2), .second, .val (.long p3), .second, .val (.long p4), .second, .val (.long p5), .second, .val (.int (4 : Int32)), .unset, .unset, .unset, .unset, .unset, .unset] [(.ref b263)]))
    refine own_step (fun t k => XS.astore X263.here hx rfl (hb hby at_12) rfl rfl (l' := #[.val (.int p1), .val (.long p2), .second, .val (.long p3), .second, .val (.long p4), .second, .val (.long p5), .second, .val (.int (4 : Int32)), .val (.ref b263), .unset, .unset, .unset, .unset, .unset]) rfl k) ?_
    show own_Goes p e below _ (T263.setTop (mkF m 14 #[.val (.int p1), .val (.long p2), .second, .val (.long p3), .second, .val (.long p4), .second, .val (.long p5), .second, .val (.int (4 : Int32)), .val (.ref b263), .unset, .unset, .unset, .unset, .unset] []))
    refine own_step (fun t k => XS.iload X263.here hx rfl (hb hby at_14) rfl k) ?_
    show own_Goes p e below _ (T263.setTop (mkF m 16 #[.val (.int p1), .val (.long p2), .second, .val (.long p3), .second, .val (.long p4), .second, .val (.long p5), .second, .val (.int (4 : Int32)), .val (.ref b263), .unset, .unset, .unset, .unset, .unset] [(.int (4 : Int32))]))
    obtain ⟨T265, h265, k265, X265, e265, E265, A265, st265⟩ := newP (aty := .int) X263 hx hZ w2 e263 (g := (mkF m 16 #[.val (.int p1), .val (.long p2), .second, .val (.long p3), .second, .val (.long p4), .second, .val (.long p5), .second, .val (.int (4 : Int32)), .val (.ref b263), .unset, .unset, .unset, .unset, .unset] [(.int (4 : Int32))])) rfl (hb hby at_16) rfl (by decide) (cap := 4) (by decide) (by decide) (by decide) (by decide)
    obtain ⟨b265, g265⟩ : ∃ z, z = h263.size := ⟨_, rfl⟩
    rw [← g265] at A265 st265
    have ne_b263_b265 : b263 ≠ b265 := Nat.ne_of_lt (Nat.lt_of_lt_of_le V263.lt (Nat.le_of_eq g265.symm))
    have g_b265 : n0 ≤ b265 := Nat.le_trans (Nat.le_trans Z0 E263.1) (Nat.le_of_eq g265.symm)
    have sz_b265 : h0.size ≤ b265 := Nat.le_trans K264.1 (Nat.le_of_eq g265.symm)
    have V265 : Arv Z h265 b265 k265 .int (4 : Int32) (([(0 : Int32), (0 : Int32), (0 : Int32), (0 : Int32)] : List Int32).map Value.int) (Value.int (0 : Int32)) := own_newI A265 (by decide) 4
    have K266 : Keep h0 h265 [] := K264.ext E265
    refine own_step st265 ?_
    show own_Goes p e below _ (T265.setTop (mkF m 18 #[.val (.int p1), .val (.long p2), .second, .val (.long p3), .second, .val (.long p4), .second, .val (.long p5), .second, .val (.int (4 : Int32)), .val (.ref b263), .unset, .unset, .unset, .unset, .unset] [(.ref b265)]))
    refine own_step (fun t k => XS.astore X265.here hx rfl (hb hby at_18) rfl rfl (l' := #[.val (.int p1), .val (.long p2), .second, .val (.long p3), .second, .val (.long p4), .second, .val (.long p5), .second, .val (.int (4 : Int32)), .val (.ref b263), .val (.ref b265), .unset, .unset, .unset, .unset]) rfl k) ?_
    show own_Goes p e below _ (T265.setTop (mkF m 20 #[.val (.int p1), .val (.long p2), .second, .val (.long p3), .second, .val (.long p4), .second, .val (.long p5), .second, .val (.int (4 : Int32)), .val (.ref b263), .val (.ref b265), .unset, .unset, .unset, .unset] []))
    refine own_step (fun t k => XS.iload X265.here hx rfl (hb hby at_20) rfl k) ?_
    show own_Goes p e below _ (T265.setTop (mkF m 22 #[.val (.int p1), .val (.long p2), .second, .val (.long p3), .second, .val (.long p4), .second, .val (.long p5), .second, .val (.int (4 : Int32)), .val (.ref b263), .val (.ref b265), .unset, .unset, .unset, .unset] [(.int (4 : Int32))]))
    obtain ⟨T267, h267, k267, X267, e267, E267, A267, st267⟩ := newP (aty := .int) X265 hx hZ w2 e265 (g := (mkF m 22 #[.val (.int p1), .val (.long p2), .second, .val (.long p3), .second, .val (.long p4), .second, .val (.long p5), .second, .val (.int (4 : Int32)), .val (.ref b263), .val (.ref b265), .unset, .unset, .unset, .unset] [(.int (4 : Int32))])) rfl (hb hby at_22) rfl (by decide) (cap := 4) (by decide) (by decide) (by decide) (by decide)
    obtain ⟨b267, g267⟩ : ∃ z, z = h265.size := ⟨_, rfl⟩
    rw [← g267] at A267 st267
    have ne_b263_b267 : b263 ≠ b267 := Nat.ne_of_lt (Nat.lt_of_lt_of_le (V263.ext E265).lt (Nat.le_of_eq g267.symm))
    have ne_b265_b267 : b265 ≠ b267 := Nat.ne_of_lt (Nat.lt_of_lt_of_le V265.lt (Nat.le_of_eq g267.symm))
    have g_b267 : n0 ≤ b267 := Nat.le_trans (Nat.le_trans (Nat.le_trans Z0 E263.1) E265.1) (Nat.le_of_eq g267.symm)
    have sz_b267 : h0.size ≤ b267 := Nat.le_trans K266.1 (Nat.le_of_eq g267.symm)
    have V267 : Arv Z h267 b267 k267 .int (4 : Int32) (([(0 : Int32), (0 : Int32), (0 : Int32), (0 : Int32)] : List Int32).map Value.int) (Value.int (0 : Int32)) := own_newI A267 (by decide) 4
    have K268 : Keep h0 h267 [] := K266.ext E267
    refine own_step st267 ?_
    show own_Goes p e below _ (T267.setTop (mkF m 24 #[.val (.int p1), .val (.long p2), .second, .val (.long p3), .second, .val (.long p4), .second, .val (.long p5), .second, .val (.int (4 : Int32)), .val (.ref b263), .val (.ref b265), .unset, .unset, .unset, .unset] [(.ref b267)]))
    refine own_step (fun t k => XS.astore X267.here hx rfl (hb hby at_24) rfl rfl (l' := #[.val (.int p1), .val (.long p2), .second, .val (.long p3), .second, .val (.long p4), .second, .val (.long p5), .second, .val (.int (4 : Int32)), .val (.ref b263), .val (.ref b265), .val (.ref b267), .unset, .unset, .unset]) rfl k) ?_
    show own_Goes p e below _ (T267.setTop (mkF m 26 #[.val (.int p1), .val (.long p2), .second, .val (.long p3), .second, .val (.long p4), .second, .val (.long p5), .second, .val (.int (4 : Int32)), .val (.ref b263), .val (.ref b265), .val (.ref b267), .unset, .unset, .unset] []))
    refine own_step (fun t k => XS.lconst X267.here hx rfl (hb hby at_26) k) ?_
    show own_Goes p e below _ (T267.setTop (mkF m 27 #[.val (.int p1), .val (.long p2), .second, .val (.long p3), .second, .val (.long p4), .second, .val (.long p5), .second, .val (.int (4 : Int32)), .val (.ref b263), .val (.ref b265), .val (.ref b267), .unset, .unset, .unset] [(.long (0 : Int64))]))
    refine own_step (fun t k => XS.lstore X267.here hx rfl (hb hby at_27) rfl (l' := #[.val (.int p1), .val (.long p2), .second, .val (.long p3), .second, .val (.long p4), .second, .val (.long p5), .second, .val (.int (4 : Int32)), .val (.ref b263), .val (.ref b265), .val (.ref b267), .val (.long (0 : Int64)), .second, .unset]) rfl k) ?_
    show own_Goes p e below _ (T267.setTop (mkF m 29 #[.val (.int p1), .val (.long p2), .second, .val (.long p3), .second, .val (.long p4), .second, .val (.long p5), .second, .val (.int (4 : Int32)), .val (.ref b263), .val (.ref b265), .val (.ref b267), .val (.long (0 : Int64)), .second, .unset] []))
    refine own_step (fun t k => XS.iload X267.here hx rfl (hb hby at_29) rfl k) ?_
    show own_Goes p e below _ (T267.setTop (mkF m 31 #[.val (.int p1), .val (.long p2), .second, .val (.long p3), .second, .val (.long p4), .second, .val (.long p5), .second, .val (.int (4 : Int32)), .val (.ref b263), .val (.ref b265), .val (.ref b267), .val (.long (0 : Int64)), .second, .unset] [(.int (4 : Int32))]))
    have hc269 : (0 : Int32) < (4 : Int32) := by decide
    refine own_step (fun t k => XS.ifNo X267.here hx rfl (hb hby at_31) rfl ((if0 _ _).trans (tlt hc269).2.2.2) k) ?_
    show own_Goes p e below _ (T267.setTop (mkF m 34 #[.val (.int p1), .val (.long p2), .second, .val (.long p3), .second, .val (.long p4), .second, .val (.long p5), .second, .val (.int (4 : Int32)), .val (.ref b263), .val (.ref b265), .val (.ref b267), .val (.long (0 : Int64)), .second, .unset] []))
    refine own_step (fun t k => XS.aload X267.here hx rfl (hb hby at_34) rfl rfl k) ?_
    show own_Goes p e below _ (T267.setTop (mkF m 36 #[.val (.int p1), .val (.long p2), .second, .val (.long p3), .second, .val (.long p4), .second, .val (.long p5), .second, .val (.int (4 : Int32)), .val (.ref b263), .val (.ref b265), .val (.ref b267), .val (.long (0 : Int64)), .second, .unset] [(.ref b263)]))
    refine own_step (fun t k => XS.iconst X267.here hx rfl (hb hby at_36) k) ?_
    show own_Goes p e below _ (T267.setTop (mkF m 37 #[.val (.int p1), .val (.long p2), .second, .val (.long p3), .second, .val (.long p4), .second, .val (.long p5), .second, .val (.int (4 : Int32)), .val (.ref b263), .val (.ref b265), .val (.ref b267), .val (.long (0 : Int64)), .second, .unset] [(.int (0 : Int32)), (.ref b263)]))
    refine own_step (fun t k => XS.lloadN X267.here hx rfl (hb hby at_37) rfl k) ?_
    show own_Goes p e below _ (T267.setTop (mkF m 38 #[.val (.int p1), .val (.long p2), .second, .val (.long p3), .second, .val (.long p4), .second, .val (.long p5), .second, .val (.int (4 : Int32)), .val (.ref b263), .val (.ref b265), .val (.ref b267), .val (.long (0 : Int64)), .second, .unset] [(.long p2), (.int (0 : Int32)), (.ref b263)]))
    obtain ⟨T270, h270, X270, e270, W270, V270, st270⟩ := own_lst X267 hx hZ e267 ((V263.ext E265).ext E267) (j := (0 : Int32)) ⟨by decide, by decide⟩ (0) rfl (Nat.le_of_ble_eq_true rfl) (g := (mkF m 38 #[.val (.int p1), .val (.long p2), .second, .val (.long p3), .second, .val (.long p4), .second, .val (.long p5), .second, .val (.int (4 : Int32)), .val (.ref b263), .val (.ref b265), .val (.ref b267), .val (.long (0 : Int64)), .second, .unset] [(.long p2), (.int (0 : Int32)), (.ref b263)])) rfl rfl (hb hby at_38)
    have V270 : Arv Z h270 b263 k263 .long (4 : Int32) (([p2, (0 : Int64), (0 : Int64), (0 : Int64)] : List Int64).map Value.long) (Value.long 0) := V270
    have N270 := Fr.snoc X270 N0 g_b263
    have K271 : Keep h0 h270 [] := K268.wr W270 (Or.inr sz_b263)
    refine own_step st270 ?_
    show own_Goes p e below _ (T270.setTop (mkF m 39 #[.val (.int p1), .val (.long p2), .second, .val (.long p3), .second, .val (.long p4), .second, .val (.long p5), .second, .val (.int (4 : Int32)), .val (.ref b263), .val (.ref b265), .val (.ref b267), .val (.long (0 : Int64)), .second, .unset] []))
    refine own_step (fun t k => XS.aload X270.here hx rfl (hb hby at_39) rfl rfl k) ?_
    show own_Goes p e below _ (T270.setTop (mkF m 41 #[.val (.int p1), .val (.long p2), .second, .val (.long p3), .second, .val (.long p4), .second, .val (.long p5), .second, .val (.int (4 : Int32)), .val (.ref b263), .val (.ref b265), .val (.ref b267), .val (.long (0 : Int64)), .second, .unset] [(.ref b265)]))
    refine own_step (fun t k => XS.iconst X270.here hx rfl (hb hby at_41) k) ?_
    show own_Goes p e below _ (T270.setTop (mkF m 42 #[.val (.int p1), .val (.long p2), .second, .val (.long p3), .second, .val (.long p4), .second, .val (.long p5), .second, .val (.int (4 : Int32)), .val (.ref b263), .val (.ref b265), .val (.ref b267), .val (.long (0 : Int64)), .second, .unset] [(.int (0 : Int32)), (.ref b265)]))
    refine own_step (fun t k => XS.lloadN X270.here hx rfl (hb hby at_42) rfl k) ?_
    show own_Goes p e below _ (T270.setTop (mkF m 43 #[.val (.int p1), .val (.long p2), .second, .val (.long p3), .second, .val (.long p4), .second, .val (.long p5), .second, .val (.int (4 : Int32)), .val (.ref b263), .val (.ref b265), .val (.ref b267), .val (.long (0 : Int64)), .second, .unset] [(.long p2), (.int (0 : Int32)), (.ref b265)]))
    obtain ⟨_, _, ⟨T272, L272, k272, n272⟩, -, X272, ⟨Lc272, hQ272, l272, y272, z272⟩, st272⟩ := Jvm.LawKit.callS X270 hx (y := (⟨"com/example/concepta/concepta/store/RowsBlockCountPinLaw", "first", "(J)I"⟩ : MethodName)) hown (mvT hZ w32) (mvT hZ w33) (mvT hZ w34) (mvT hZ w35) (by decide) (backOf (W := 2) (own_b3 l Z a0 hw [] p2  h270 n0 (Nat.le_trans (Nat.le_trans (Nat.le_trans (Nat.le_trans Z0 E263.1) E265.1) E267.1) (Keep.of_wr W270).1) ) hZ w35 w34 (by decide) (by decide)) (g := (mkF m 43 #[.val (.int p1), .val (.long p2), .second, .val (.long p3), .second, .val (.long p4), .second, .val (.long p5), .second, .val (.int (4 : Int32)), .val (.ref b263), .val (.ref b265), .val (.ref b267), .val (.long (0 : Int64)), .second, .unset] [(.long p2), (.int (0 : Int32)), (.ref b265)])) rfl (by rw [hml]; rfl) (argsL := [(.long p2)]) (rest := [(.int (0 : Int32)), (.ref b265)]) (lenOf own_pd1 rfl) rfl (by show 2 * 0 + _ ≤ _; exact Nat.le_of_eq rfl) (hb hby at_43) (fun _ _ => ⟨rfl, e270, (by decide : 3 + 0 ≤ _), (by decide : 12 + 0 ≤ _)⟩)
    dsimp only [Pt.U, Pt.locs, Pt.cells, Pt.slots] at X272 l272 y272 z272 st272 hQ272
    subst y272 z272
    obtain ⟨rfl, N272q, eh272⟩ := hQ272
    have N272 : Fr n0 L272 := by rw [l272]; exact Fr.app N270 N272q
    refine own_step st272 ?_
    show own_Goes p e below _ (T272.setTop (mkF m 46 #[.val (.int p1), .val (.long p2), .second, .val (.long p3), .second, .val (.long p4), .second, .val (.long p5), .second, .val (.int (4 : Int32)), .val (.ref b263), .val (.ref b265), .val (.ref b267), .val (.long (0 : Int64)), .second, .unset] [(.int (own_first p2)), (.int (0 : Int32)), (.ref b265)]))
    obtain ⟨T273, h273, X273, e273, W273, V273, st273⟩ := own_ist X272 hx hZ eh272 ((V265.ext E267).other W270 (Ne.symm ne_b263_b265)) (j := (0 : Int32)) ⟨by decide, by decide⟩ (0) rfl (Nat.le_of_ble_eq_true rfl) (g := (mkF m 46 #[.val (.int p1), .val (.long p2), .second, .val (.long p3), .second, .val (.long p4), .second, .val (.long p5), .second, .val (.int (4 : Int32)), .val (.ref b263), .val (.ref b265), .val (.ref b267), .val (.long (0 : Int64)), .second, .unset] [(.int (own_first p2)), (.int (0 : Int32)), (.ref b265)])) rfl rfl (hb hby at_46)
    have V273 : Arv Z h273 b265 k265 .int (4 : Int32) (([(own_first p2), (0 : Int32), (0 : Int32), (0 : Int32)] : List Int32).map Value.int) (Value.int 0) := V273
    have N273 := Fr.snoc X273 N272 g_b265
    have K274 : Keep h0 h273 [] := K271.wr W273 (Or.inr sz_b265)
    refine own_step st273 ?_
    show own_Goes p e below _ (T273.setTop (mkF m 47 #[.val (.int p1), .val (.long p2), .second, .val (.long p3), .second, .val (.long p4), .second, .val (.long p5), .second, .val (.int (4 : Int32)), .val (.ref b263), .val (.ref b265), .val (.ref b267), .val (.long (0 : Int64)), .second, .unset] []))
    refine own_step (fun t k => XS.aload X273.here hx rfl (hb hby at_47) rfl rfl k) ?_
    show own_Goes p e below _ (T273.setTop (mkF m 49 #[.val (.int p1), .val (.long p2), .second, .val (.long p3), .second, .val (.long p4), .second, .val (.long p5), .second, .val (.int (4 : Int32)), .val (.ref b263), .val (.ref b265), .val (.ref b267), .val (.long (0 : Int64)), .second, .unset] [(.ref b267)]))
    refine own_step (fun t k => XS.iconst X273.here hx rfl (hb hby at_49) k) ?_
    show own_Goes p e below _ (T273.setTop (mkF m 50 #[.val (.int p1), .val (.long p2), .second, .val (.long p3), .second, .val (.long p4), .second, .val (.long p5), .second, .val (.int (4 : Int32)), .val (.ref b263), .val (.ref b265), .val (.ref b267), .val (.long (0 : Int64)), .second, .unset] [(.int (0 : Int32)), (.ref b267)]))
    refine own_step (fun t k => XS.lloadN X273.here hx rfl (hb hby at_50) rfl k) ?_
    show own_Goes p e below _ (T273.setTop (mkF m 51 #[.val (.int p1), .val (.long p2), .second, .val (.long p3), .second, .val (.long p4), .second, .val (.long p5), .second, .val (.int (4 : Int32)), .val (.ref b263), .val (.ref b265), .val (.ref b267), .val (.long (0 : Int64)), .second, .unset] [(.long p2), (.int (0 : Int32)), (.ref b267)]))
    obtain ⟨_, _, ⟨T275, L275, k275, n275⟩, -, X275, ⟨Lc275, hQ275, l275, y275, z275⟩, st275⟩ := Jvm.LawKit.callS X273 hx (y := (⟨"com/example/concepta/concepta/store/RowsBlockCountPinLaw", "last", "(J)I"⟩ : MethodName)) hown (mvT hZ w36) (mvT hZ w37) (mvT hZ w34) (mvT hZ w38) (by decide) (backOf (W := 2) (own_b4 l Z a0 hw [] p2  h273 n0 (Nat.le_trans (Nat.le_trans (Nat.le_trans (Nat.le_trans (Nat.le_trans Z0 E263.1) E265.1) E267.1) (Keep.of_wr W270).1) (Keep.of_wr W273).1) ) hZ w38 w34 (by decide) (by decide)) (g := (mkF m 51 #[.val (.int p1), .val (.long p2), .second, .val (.long p3), .second, .val (.long p4), .second, .val (.long p5), .second, .val (.int (4 : Int32)), .val (.ref b263), .val (.ref b265), .val (.ref b267), .val (.long (0 : Int64)), .second, .unset] [(.long p2), (.int (0 : Int32)), (.ref b267)])) rfl (by rw [hml]; rfl) (argsL := [(.long p2)]) (rest := [(.int (0 : Int32)), (.ref b267)]) (lenOf own_pd1 rfl) rfl (by show 2 * 0 + _ ≤ _; exact Nat.le_of_eq rfl) (hb hby at_51) (fun _ _ => ⟨rfl, e273, (by decide : 3 + 0 ≤ _), (by decide : 12 + 0 ≤ _)⟩)
    dsimp only [Pt.U, Pt.locs, Pt.cells, Pt.slots] at X275 l275 y275 z275 st275 hQ275
    subst y275 z275
    obtain ⟨rfl, N275q, eh275⟩ := hQ275
    have N275 : Fr n0 L275 := by rw [l275]; exact Fr.app N273 N275q
    refine own_step st275 ?_
    show own_Goes p e below _ (T275.setTop (mkF m 54 #[.val (.int p1), .val (.long p2), .second, .val (.long p3), .second, .val (.long p4), .second, .val (.long p5), .second, .val (.int (4 : Int32)), .val (.ref b263), .val (.ref b265), .val (.ref b267), .val (.long (0 : Int64)), .second, .unset] [(.int (own_last p2)), (.int (0 : Int32)), (.ref b267)]))
    obtain ⟨T276, h276, X276, e276, W276, V276, st276⟩ := own_ist X275 hx hZ eh275 ((V267.other W270 (Ne.symm ne_b263_b267)).other W273 (Ne.symm ne_b265_b267)) (j := (0 : Int32)) ⟨by decide, by decide⟩ (0) rfl (Nat.le_of_ble_eq_true rfl) (g := (mkF m 54 #[.val (.int p1), .val (.long p2), .second, .val (.long p3), .second, .val (.long p4), .second, .val (.long p5), .second, .val (.int (4 : Int32)), .val (.ref b263), .val (.ref b265), .val (.ref b267), .val (.long (0 : Int64)), .second, .unset] [(.int (own_last p2)), (.int (0 : Int32)), (.ref b267)])) rfl rfl (hb hby at_54)
    have V276 : Arv Z h276 b267 k267 .int (4 : Int32) (([(own_last p2), (0 : Int32), (0 : Int32), (0 : Int32)] : List Int32).map Value.int) (Value.int 0) := V276
    have N276 := Fr.snoc X276 N275 g_b267
    have K277 : Keep h0 h276 [] := K274.wr W276 (Or.inr sz_b267)
    refine own_step st276 ?_
    show own_Goes p e below _ (T276.setTop (mkF m 55 #[.val (.int p1), .val (.long p2), .second, .val (.long p3), .second, .val (.long p4), .second, .val (.long p5), .second, .val (.int (4 : Int32)), .val (.ref b263), .val (.ref b265), .val (.ref b267), .val (.long (0 : Int64)), .second, .unset] []))
    refine own_step (fun t k => XS.lload X276.here hx rfl (hb hby at_55) rfl k) ?_
    show own_Goes p e below _ (T276.setTop (mkF m 57 #[.val (.int p1), .val (.long p2), .second, .val (.long p3), .second, .val (.long p4), .second, .val (.long p5), .second, .val (.int (4 : Int32)), .val (.ref b263), .val (.ref b265), .val (.ref b267), .val (.long (0 : Int64)), .second, .unset] [(.long (0 : Int64))]))
    refine own_step (fun t k => XS.lloadN X276.here hx rfl (hb hby at_57) rfl k) ?_
    show own_Goes p e below _ (T276.setTop (mkF m 58 #[.val (.int p1), .val (.long p2), .second, .val (.long p3), .second, .val (.long p4), .second, .val (.long p5), .second, .val (.int (4 : Int32)), .val (.ref b263), .val (.ref b265), .val (.ref b267), .val (.long (0 : Int64)), .second, .unset] [(.long p2), (.long (0 : Int64))]))
    obtain ⟨_, _, ⟨T278, L278, k278, n278⟩, -, X278, ⟨Lc278, hQ278, l278, y278, z278⟩, st278⟩ := Jvm.LawKit.callS X276 hx (y := (⟨"com/example/concepta/concepta/store/RowsBlockCountPinLaw", "span", "(J)J"⟩ : MethodName)) hown (mvT hZ w39) (mvT hZ w40) (mvT hZ w34) (mvT hZ w41) (by decide) (backOf (W := 2) (own_b5 l Z a0 hw [] p2  h276 n0 (Nat.le_trans (Nat.le_trans (Nat.le_trans (Nat.le_trans (Nat.le_trans (Nat.le_trans Z0 E263.1) E265.1) E267.1) (Keep.of_wr W270).1) (Keep.of_wr W273).1) (Keep.of_wr W276).1) ) hZ w41 w34 (by decide) (by decide)) (g := (mkF m 58 #[.val (.int p1), .val (.long p2), .second, .val (.long p3), .second, .val (.long p4), .second, .val (.long p5), .second, .val (.int (4 : Int32)), .val (.ref b263), .val (.ref b265), .val (.ref b267), .val (.long (0 : Int64)), .second, .unset] [(.long p2), (.long (0 : Int64))])) rfl (by rw [hml]; rfl) (argsL := [(.long p2)]) (rest := [(.long (0 : Int64))]) (lenOf own_pd4 rfl) rfl (by show 2 * 0 + _ ≤ _; exact Nat.le_of_eq rfl) (hb hby at_58) (fun _ _ => ⟨rfl, e276, (by decide : 3 + 0 ≤ _), (by decide : 12 + 0 ≤ _)⟩)
    dsimp only [Pt.U, Pt.locs, Pt.cells, Pt.slots] at X278 l278 y278 z278 st278 hQ278
    subst y278 z278
    obtain ⟨rfl, N278q, eh278⟩ := hQ278
    have N278 : Fr n0 L278 := by rw [l278]; exact Fr.app N276 N278q
    refine own_step st278 ?_
    show own_Goes p e below _ (T278.setTop (mkF m 61 #[.val (.int p1), .val (.long p2), .second, .val (.long p3), .second, .val (.long p4), .second, .val (.long p5), .second, .val (.int (4 : Int32)), .val (.ref b263), .val (.ref b265), .val (.ref b267), .val (.long (0 : Int64)), .second, .unset] [(.long (own_span p2)), (.long (0 : Int64))]))
    refine own_step (fun t k => XS.ladd X278.here hx rfl (hb hby at_61) rfl k) ?_
    show own_Goes p e below _ (T278.setTop (mkF m 62 #[.val (.int p1), .val (.long p2), .second, .val (.long p3), .second, .val (.long p4), .second, .val (.long p5), .second, .val (.int (4 : Int32)), .val (.ref b263), .val (.ref b265), .val (.ref b267), .val (.long (0 : Int64)), .second, .unset] [(.long ((0 : Int64) + (own_span p2)))]))
    refine own_step (fun t k => XS.lstore X278.here hx rfl (hb hby at_62) rfl (l' := #[.val (.int p1), .val (.long p2), .second, .val (.long p3), .second, .val (.long p4), .second, .val (.long p5), .second, .val (.int (4 : Int32)), .val (.ref b263), .val (.ref b265), .val (.ref b267), .val (.long ((0 : Int64) + (own_span p2))), .second, .unset]) rfl k) ?_
    show own_Goes p e below _ (T278.setTop (mkF m 64 #[.val (.int p1), .val (.long p2), .second, .val (.long p3), .second, .val (.long p4), .second, .val (.long p5), .second, .val (.int (4 : Int32)), .val (.ref b263), .val (.ref b265), .val (.ref b267), .val (.long ((0 : Int64) + (own_span p2))), .second, .unset] []))
    refine own_step (fun t k => XS.iload X278.here hx rfl (hb hby at_64) rfl k) ?_
    show own_Goes p e below _ (T278.setTop (mkF m 66 #[.val (.int p1), .val (.long p2), .second, .val (.long p3), .second, .val (.long p4), .second, .val (.long p5), .second, .val (.int (4 : Int32)), .val (.ref b263), .val (.ref b265), .val (.ref b267), .val (.long ((0 : Int64) + (own_span p2))), .second, .unset] [(.int (4 : Int32))]))
    refine own_step (fun t k => XS.iconst X278.here hx rfl (hb hby at_66) k) ?_
    show own_Goes p e below _ (T278.setTop (mkF m 67 #[.val (.int p1), .val (.long p2), .second, .val (.long p3), .second, .val (.long p4), .second, .val (.long p5), .second, .val (.int (4 : Int32)), .val (.ref b263), .val (.ref b265), .val (.ref b267), .val (.long ((0 : Int64) + (own_span p2))), .second, .unset] [(.int (1 : Int32)), (.int (4 : Int32))]))
    have hc279 : (1 : Int32) < (4 : Int32) := by decide
    refine own_step (fun t k => XS.icmpNo X278.here hx rfl (hb hby at_67) rfl (tlt hc279).2.2.2 k) ?_
    show own_Goes p e below _ (T278.setTop (mkF m 70 #[.val (.int p1), .val (.long p2), .second, .val (.long p3), .second, .val (.long p4), .second, .val (.long p5), .second, .val (.int (4 : Int32)), .val (.ref b263), .val (.ref b265), .val (.ref b267), .val (.long ((0 : Int64) + (own_span p2))), .second, .unset] []))
    refine own_step (fun t k => XS.aload X278.here hx rfl (hb hby at_70) rfl rfl k) ?_
    show own_Goes p e below _ (T278.setTop (mkF m 72 #[.val (.int p1), .val (.long p2), .second, .val (.long p3), .second, .val (.long p4), .second, .val (.long p5), .second, .val (.int (4 : Int32)), .val (.ref b263), .val (.ref b265), .val (.ref b267), .val (.long ((0 : Int64) + (own_span p2))), .second, .unset] [(.ref b263)]))
    refine own_step (fun t k => XS.iconst X278.here hx rfl (hb hby at_72) k) ?_
    show own_Goes p e below _ (T278.setTop (mkF m 73 #[.val (.int p1), .val (.long p2), .second, .val (.long p3), .second, .val (.long p4), .second, .val (.long p5), .second, .val (.int (4 : Int32)), .val (.ref b263), .val (.ref b265), .val (.ref b267), .val (.long ((0 : Int64) + (own_span p2))), .second, .unset] [(.int (1 : Int32)), (.ref b263)]))
    refine own_step (fun t k => XS.lloadN X278.here hx rfl (hb hby at_73) rfl k) ?_
    show own_Goes p e below _ (T278.setTop (mkF m 74 #[.val (.int p1), .val (.long p2), .second, .val (.long p3), .second, .val (.long p4), .second, .val (.long p5), .second, .val (.int (4 : Int32)), .val (.ref b263), .val (.ref b265), .val (.ref b267), .val (.long ((0 : Int64) + (own_span p2))), .second, .unset] [(.long p3), (.int (1 : Int32)), (.ref b263)]))
    obtain ⟨T280, h280, X280, e280, W280, V280, st280⟩ := own_lst X278 hx hZ eh278 ((V270.other W273 ne_b263_b265).other W276 ne_b263_b267) (j := (1 : Int32)) ⟨by decide, by decide⟩ (1) rfl (Nat.le_of_ble_eq_true rfl) (g := (mkF m 74 #[.val (.int p1), .val (.long p2), .second, .val (.long p3), .second, .val (.long p4), .second, .val (.long p5), .second, .val (.int (4 : Int32)), .val (.ref b263), .val (.ref b265), .val (.ref b267), .val (.long ((0 : Int64) + (own_span p2))), .second, .unset] [(.long p3), (.int (1 : Int32)), (.ref b263)])) rfl rfl (hb hby at_74)
    have V280 : Arv Z h280 b263 k263 .long (4 : Int32) (([p2, p3, (0 : Int64), (0 : Int64)] : List Int64).map Value.long) (Value.long 0) := V280
    have N280 := Fr.snoc X280 N278 g_b263
    have K281 : Keep h0 h280 [] := K277.wr W280 (Or.inr sz_b263)
    refine own_step st280 ?_
    show own_Goes p e below _ (T280.setTop (mkF m 75 #[.val (.int p1), .val (.long p2), .second, .val (.long p3), .second, .val (.long p4), .second, .val (.long p5), .second, .val (.int (4 : Int32)), .val (.ref b263), .val (.ref b265), .val (.ref b267), .val (.long ((0 : Int64) + (own_span p2))), .second, .unset] []))
    refine own_step (fun t k => XS.aload X280.here hx rfl (hb hby at_75) rfl rfl k) ?_
    show own_Goes p e below _ (T280.setTop (mkF m 77 #[.val (.int p1), .val (.long p2), .second, .val (.long p3), .second, .val (.long p4), .second, .val (.long p5), .second, .val (.int (4 : Int32)), .val (.ref b263), .val (.ref b265), .val (.ref b267), .val (.long ((0 : Int64) + (own_span p2))), .second, .unset] [(.ref b265)]))
    refine own_step (fun t k => XS.iconst X280.here hx rfl (hb hby at_77) k) ?_
    show own_Goes p e below _ (T280.setTop (mkF m 78 #[.val (.int p1), .val (.long p2), .second, .val (.long p3), .second, .val (.long p4), .second, .val (.long p5), .second, .val (.int (4 : Int32)), .val (.ref b263), .val (.ref b265), .val (.ref b267), .val (.long ((0 : Int64) + (own_span p2))), .second, .unset] [(.int (1 : Int32)), (.ref b265)]))
    refine own_step (fun t k => XS.lloadN X280.here hx rfl (hb hby at_78) rfl k) ?_
    show own_Goes p e below _ (T280.setTop (mkF m 79 #[.val (.int p1), .val (.long p2), .second, .val (.long p3), .second, .val (.long p4), .second, .val (.long p5), .second, .val (.int (4 : Int32)), .val (.ref b263), .val (.ref b265), .val (.ref b267), .val (.long ((0 : Int64) + (own_span p2))), .second, .unset] [(.long p3), (.int (1 : Int32)), (.ref b265)]))
    obtain ⟨_, _, ⟨T282, L282, k282, n282⟩, -, X282, ⟨Lc282, hQ282, l282, y282, z282⟩, st282⟩ := Jvm.LawKit.callS X280 hx (y := (⟨"com/example/concepta/concepta/store/RowsBlockCountPinLaw", "first", "(J)I"⟩ : MethodName)) hown (mvT hZ w32) (mvT hZ w33) (mvT hZ w34) (mvT hZ w35) (by decide) (backOf (W := 2) (own_b3 l Z a0 hw [] p3  h280 n0 (Nat.le_trans (Nat.le_trans (Nat.le_trans (Nat.le_trans (Nat.le_trans (Nat.le_trans (Nat.le_trans Z0 E263.1) E265.1) E267.1) (Keep.of_wr W270).1) (Keep.of_wr W273).1) (Keep.of_wr W276).1) (Keep.of_wr W280).1) ) hZ w35 w34 (by decide) (by decide)) (g := (mkF m 79 #[.val (.int p1), .val (.long p2), .second, .val (.long p3), .second, .val (.long p4), .second, .val (.long p5), .second, .val (.int (4 : Int32)), .val (.ref b263), .val (.ref b265), .val (.ref b267), .val (.long ((0 : Int64) + (own_span p2))), .second, .unset] [(.long p3), (.int (1 : Int32)), (.ref b265)])) rfl (by rw [hml]; rfl) (argsL := [(.long p3)]) (rest := [(.int (1 : Int32)), (.ref b265)]) (lenOf own_pd1 rfl) rfl (by show 2 * 0 + _ ≤ _; exact Nat.le_of_eq rfl) (hb hby at_79) (fun _ _ => ⟨rfl, e280, (by decide : 3 + 0 ≤ _), (by decide : 12 + 0 ≤ _)⟩)
    dsimp only [Pt.U, Pt.locs, Pt.cells, Pt.slots] at X282 l282 y282 z282 st282 hQ282
    subst y282 z282
    obtain ⟨rfl, N282q, eh282⟩ := hQ282
    have N282 : Fr n0 L282 := by rw [l282]; exact Fr.app N280 N282q
    refine own_step st282 ?_
    show own_Goes p e below _ (T282.setTop (mkF m 82 #[.val (.int p1), .val (.long p2), .second, .val (.long p3), .second, .val (.long p4), .second, .val (.long p5), .second, .val (.int (4 : Int32)), .val (.ref b263), .val (.ref b265), .val (.ref b267), .val (.long ((0 : Int64) + (own_span p2))), .second, .unset] [(.int (own_first p3)), (.int (1 : Int32)), (.ref b265)]))
    obtain ⟨T283, h283, X283, e283, W283, V283, st283⟩ := own_ist X282 hx hZ eh282 ((V273.other W276 ne_b265_b267).other W280 (Ne.symm ne_b263_b265)) (j := (1 : Int32)) ⟨by decide, by decide⟩ (1) rfl (Nat.le_of_ble_eq_true rfl) (g := (mkF m 82 #[.val (.int p1), .val (.long p2), .second, .val (.long p3), .second, .val (.long p4), .second, .val (.long p5), .second, .val (.int (4 : Int32)), .val (.ref b263), .val (.ref b265), .val (.ref b267), .val (.long ((0 : Int64) + (own_span p2))), .second, .unset] [(.int (own_first p3)), (.int (1 : Int32)), (.ref b265)])) rfl rfl (hb hby at_82)
    have V283 : Arv Z h283 b265 k265 .int (4 : Int32) (([(own_first p2), (own_first p3), (0 : Int32), (0 : Int32)] : List Int32).map Value.int) (Value.int 0) := V283
    have N283 := Fr.snoc X283 N282 g_b265
    have K284 : Keep h0 h283 [] := K281.wr W283 (Or.inr sz_b265)
    refine own_step st283 ?_
    show own_Goes p e below _ (T283.setTop (mkF m 83 #[.val (.int p1), .val (.long p2), .second, .val (.long p3), .second, .val (.long p4), .second, .val (.long p5), .second, .val (.int (4 : Int32)), .val (.ref b263), .val (.ref b265), .val (.ref b267), .val (.long ((0 : Int64) + (own_span p2))), .second, .unset] []))
    refine own_step (fun t k => XS.aload X283.here hx rfl (hb hby at_83) rfl rfl k) ?_
    show own_Goes p e below _ (T283.setTop (mkF m 85 #[.val (.int p1), .val (.long p2), .second, .val (.long p3), .second, .val (.long p4), .second, .val (.long p5), .second, .val (.int (4 : Int32)), .val (.ref b263), .val (.ref b265), .val (.ref b267), .val (.long ((0 : Int64) + (own_span p2))), .second, .unset] [(.ref b267)]))
    refine own_step (fun t k => XS.iconst X283.here hx rfl (hb hby at_85) k) ?_
    show own_Goes p e below _ (T283.setTop (mkF m 86 #[.val (.int p1), .val (.long p2), .second, .val (.long p3), .second, .val (.long p4), .second, .val (.long p5), .second, .val (.int (4 : Int32)), .val (.ref b263), .val (.ref b265), .val (.ref b267), .val (.long ((0 : Int64) + (own_span p2))), .second, .unset] [(.int (1 : Int32)), (.ref b267)]))
    refine own_step (fun t k => XS.lloadN X283.here hx rfl (hb hby at_86) rfl k) ?_
    show own_Goes p e below _ (T283.setTop (mkF m 87 #[.val (.int p1), .val (.long p2), .second, .val (.long p3), .second, .val (.long p4), .second, .val (.long p5), .second, .val (.int (4 : Int32)), .val (.ref b263), .val (.ref b265), .val (.ref b267), .val (.long ((0 : Int64) + (own_span p2))), .second, .unset] [(.long p3), (.int (1 : Int32)), (.ref b267)]))
    obtain ⟨_, _, ⟨T285, L285, k285, n285⟩, -, X285, ⟨Lc285, hQ285, l285, y285, z285⟩, st285⟩ := Jvm.LawKit.callS X283 hx (y := (⟨"com/example/concepta/concepta/store/RowsBlockCountPinLaw", "last", "(J)I"⟩ : MethodName)) hown (mvT hZ w36) (mvT hZ w37) (mvT hZ w34) (mvT hZ w38) (by decide) (backOf (W := 2) (own_b4 l Z a0 hw [] p3  h283 n0 (Nat.le_trans (Nat.le_trans (Nat.le_trans (Nat.le_trans (Nat.le_trans (Nat.le_trans (Nat.le_trans (Nat.le_trans Z0 E263.1) E265.1) E267.1) (Keep.of_wr W270).1) (Keep.of_wr W273).1) (Keep.of_wr W276).1) (Keep.of_wr W280).1) (Keep.of_wr W283).1) ) hZ w38 w34 (by decide) (by decide)) (g := (mkF m 87 #[.val (.int p1), .val (.long p2), .second, .val (.long p3), .second, .val (.long p4), .second, .val (.long p5), .second, .val (.int (4 : Int32)), .val (.ref b263), .val (.ref b265), .val (.ref b267), .val (.long ((0 : Int64) + (own_span p2))), .second, .unset] [(.long p3), (.int (1 : Int32)), (.ref b267)])) rfl (by rw [hml]; rfl) (argsL := [(.long p3)]) (rest := [(.int (1 : Int32)), (.ref b267)]) (lenOf own_pd1 rfl) rfl (by show 2 * 0 + _ ≤ _; exact Nat.le_of_eq rfl) (hb hby at_87) (fun _ _ => ⟨rfl, e283, (by decide : 3 + 0 ≤ _), (by decide : 12 + 0 ≤ _)⟩)
    dsimp only [Pt.U, Pt.locs, Pt.cells, Pt.slots] at X285 l285 y285 z285 st285 hQ285
    subst y285 z285
    obtain ⟨rfl, N285q, eh285⟩ := hQ285
    have N285 : Fr n0 L285 := by rw [l285]; exact Fr.app N283 N285q
    refine own_step st285 ?_
    show own_Goes p e below _ (T285.setTop (mkF m 90 #[.val (.int p1), .val (.long p2), .second, .val (.long p3), .second, .val (.long p4), .second, .val (.long p5), .second, .val (.int (4 : Int32)), .val (.ref b263), .val (.ref b265), .val (.ref b267), .val (.long ((0 : Int64) + (own_span p2))), .second, .unset] [(.int (own_last p3)), (.int (1 : Int32)), (.ref b267)]))
    obtain ⟨T286, h286, X286, e286, W286, V286, st286⟩ := own_ist X285 hx hZ eh285 ((V276.other W280 (Ne.symm ne_b263_b267)).other W283 (Ne.symm ne_b265_b267)) (j := (1 : Int32)) ⟨by decide, by decide⟩ (1) rfl (Nat.le_of_ble_eq_true rfl) (g := (mkF m 90 #[.val (.int p1), .val (.long p2), .second, .val (.long p3), .second, .val (.long p4), .second, .val (.long p5), .second, .val (.int (4 : Int32)), .val (.ref b263), .val (.ref b265), .val (.ref b267), .val (.long ((0 : Int64) + (own_span p2))), .second, .unset] [(.int (own_last p3)), (.int (1 : Int32)), (.ref b267)])) rfl rfl (hb hby at_90)
    have V286 : Arv Z h286 b267 k267 .int (4 : Int32) (([(own_last p2), (own_last p3), (0 : Int32), (0 : Int32)] : List Int32).map Value.int) (Value.int 0) := V286
    have N286 := Fr.snoc X286 N285 g_b267
    have K287 : Keep h0 h286 [] := K284.wr W286 (Or.inr sz_b267)
    refine own_step st286 ?_
    show own_Goes p e below _ (T286.setTop (mkF m 91 #[.val (.int p1), .val (.long p2), .second, .val (.long p3), .second, .val (.long p4), .second, .val (.long p5), .second, .val (.int (4 : Int32)), .val (.ref b263), .val (.ref b265), .val (.ref b267), .val (.long ((0 : Int64) + (own_span p2))), .second, .unset] []))
    refine own_step (fun t k => XS.lload X286.here hx rfl (hb hby at_91) rfl k) ?_
    show own_Goes p e below _ (T286.setTop (mkF m 93 #[.val (.int p1), .val (.long p2), .second, .val (.long p3), .second, .val (.long p4), .second, .val (.long p5), .second, .val (.int (4 : Int32)), .val (.ref b263), .val (.ref b265), .val (.ref b267), .val (.long ((0 : Int64) + (own_span p2))), .second, .unset] [(.long ((0 : Int64) + (own_span p2)))]))
    refine own_step (fun t k => XS.lloadN X286.here hx rfl (hb hby at_93) rfl k) ?_
    show own_Goes p e below _ (T286.setTop (mkF m 94 #[.val (.int p1), .val (.long p2), .second, .val (.long p3), .second, .val (.long p4), .second, .val (.long p5), .second, .val (.int (4 : Int32)), .val (.ref b263), .val (.ref b265), .val (.ref b267), .val (.long ((0 : Int64) + (own_span p2))), .second, .unset] [(.long p3), (.long ((0 : Int64) + (own_span p2)))]))
    obtain ⟨_, _, ⟨T288, L288, k288, n288⟩, -, X288, ⟨Lc288, hQ288, l288, y288, z288⟩, st288⟩ := Jvm.LawKit.callS X286 hx (y := (⟨"com/example/concepta/concepta/store/RowsBlockCountPinLaw", "span", "(J)J"⟩ : MethodName)) hown (mvT hZ w39) (mvT hZ w40) (mvT hZ w34) (mvT hZ w41) (by decide) (backOf (W := 2) (own_b5 l Z a0 hw [] p3  h286 n0 (Nat.le_trans (Nat.le_trans (Nat.le_trans (Nat.le_trans (Nat.le_trans (Nat.le_trans (Nat.le_trans (Nat.le_trans (Nat.le_trans Z0 E263.1) E265.1) E267.1) (Keep.of_wr W270).1) (Keep.of_wr W273).1) (Keep.of_wr W276).1) (Keep.of_wr W280).1) (Keep.of_wr W283).1) (Keep.of_wr W286).1) ) hZ w41 w34 (by decide) (by decide)) (g := (mkF m 94 #[.val (.int p1), .val (.long p2), .second, .val (.long p3), .second, .val (.long p4), .second, .val (.long p5), .second, .val (.int (4 : Int32)), .val (.ref b263), .val (.ref b265), .val (.ref b267), .val (.long ((0 : Int64) + (own_span p2))), .second, .unset] [(.long p3), (.long ((0 : Int64) + (own_span p2)))])) rfl (by rw [hml]; rfl) (argsL := [(.long p3)]) (rest := [(.long ((0 : Int64) + (own_span p2)))]) (lenOf own_pd4 rfl) rfl (by show 2 * 0 + _ ≤ _; exact Nat.le_of_eq rfl) (hb hby at_94) (fun _ _ => ⟨rfl, e286, (by decide : 3 + 0 ≤ _), (by decide : 12 + 0 ≤ _)⟩)
    dsimp only [Pt.U, Pt.locs, Pt.cells, Pt.slots] at X288 l288 y288 z288 st288 hQ288
    subst y288 z288
    obtain ⟨rfl, N288q, eh288⟩ := hQ288
    have N288 : Fr n0 L288 := by rw [l288]; exact Fr.app N286 N288q
    refine own_step st288 ?_
    show own_Goes p e below _ (T288.setTop (mkF m 97 #[.val (.int p1), .val (.long p2), .second, .val (.long p3), .second, .val (.long p4), .second, .val (.long p5), .second, .val (.int (4 : Int32)), .val (.ref b263), .val (.ref b265), .val (.ref b267), .val (.long ((0 : Int64) + (own_span p2))), .second, .unset] [(.long (own_span p3)), (.long ((0 : Int64) + (own_span p2)))]))
    refine own_step (fun t k => XS.ladd X288.here hx rfl (hb hby at_97) rfl k) ?_
    show own_Goes p e below _ (T288.setTop (mkF m 98 #[.val (.int p1), .val (.long p2), .second, .val (.long p3), .second, .val (.long p4), .second, .val (.long p5), .second, .val (.int (4 : Int32)), .val (.ref b263), .val (.ref b265), .val (.ref b267), .val (.long ((0 : Int64) + (own_span p2))), .second, .unset] [(.long (((0 : Int64) + (own_span p2)) + (own_span p3)))]))
    refine own_step (fun t k => XS.lstore X288.here hx rfl (hb hby at_98) rfl (l' := #[.val (.int p1), .val (.long p2), .second, .val (.long p3), .second, .val (.long p4), .second, .val (.long p5), .second, .val (.int (4 : Int32)), .val (.ref b263), .val (.ref b265), .val (.ref b267), .val (.long (((0 : Int64) + (own_span p2)) + (own_span p3))), .second, .unset]) rfl k) ?_
    show own_Goes p e below _ (T288.setTop (mkF m 100 #[.val (.int p1), .val (.long p2), .second, .val (.long p3), .second, .val (.long p4), .second, .val (.long p5), .second, .val (.int (4 : Int32)), .val (.ref b263), .val (.ref b265), .val (.ref b267), .val (.long (((0 : Int64) + (own_span p2)) + (own_span p3))), .second, .unset] []))
    refine own_step (fun t k => XS.iload X288.here hx rfl (hb hby at_100) rfl k) ?_
    show own_Goes p e below _ (T288.setTop (mkF m 102 #[.val (.int p1), .val (.long p2), .second, .val (.long p3), .second, .val (.long p4), .second, .val (.long p5), .second, .val (.int (4 : Int32)), .val (.ref b263), .val (.ref b265), .val (.ref b267), .val (.long (((0 : Int64) + (own_span p2)) + (own_span p3))), .second, .unset] [(.int (4 : Int32))]))
    refine own_step (fun t k => XS.iconst X288.here hx rfl (hb hby at_102) k) ?_
    show own_Goes p e below _ (T288.setTop (mkF m 103 #[.val (.int p1), .val (.long p2), .second, .val (.long p3), .second, .val (.long p4), .second, .val (.long p5), .second, .val (.int (4 : Int32)), .val (.ref b263), .val (.ref b265), .val (.ref b267), .val (.long (((0 : Int64) + (own_span p2)) + (own_span p3))), .second, .unset] [(.int (2 : Int32)), (.int (4 : Int32))]))
    have hc289 : (2 : Int32) < (4 : Int32) := by decide
    refine own_step (fun t k => XS.icmpNo X288.here hx rfl (hb hby at_103) rfl (tlt hc289).2.2.2 k) ?_
    show own_Goes p e below _ (T288.setTop (mkF m 106 #[.val (.int p1), .val (.long p2), .second, .val (.long p3), .second, .val (.long p4), .second, .val (.long p5), .second, .val (.int (4 : Int32)), .val (.ref b263), .val (.ref b265), .val (.ref b267), .val (.long (((0 : Int64) + (own_span p2)) + (own_span p3))), .second, .unset] []))
    refine own_step (fun t k => XS.aload X288.here hx rfl (hb hby at_106) rfl rfl k) ?_
    show own_Goes p e below _ (T288.setTop (mkF m 108 #[.val (.int p1), .val (.long p2), .second, .val (.long p3), .second, .val (.long p4), .second, .val (.long p5), .second, .val (.int (4 : Int32)), .val (.ref b263), .val (.ref b265), .val (.ref b267), .val (.long (((0 : Int64) + (own_span p2)) + (own_span p3))), .second, .unset] [(.ref b263)]))
    refine own_step (fun t k => XS.iconst X288.here hx rfl (hb hby at_108) k) ?_
    show own_Goes p e below _ (T288.setTop (mkF m 109 #[.val (.int p1), .val (.long p2), .second, .val (.long p3), .second, .val (.long p4), .second, .val (.long p5), .second, .val (.int (4 : Int32)), .val (.ref b263), .val (.ref b265), .val (.ref b267), .val (.long (((0 : Int64) + (own_span p2)) + (own_span p3))), .second, .unset] [(.int (2 : Int32)), (.ref b263)]))
    refine own_step (fun t k => XS.lload X288.here hx rfl (hb hby at_109) rfl k) ?_
    show own_Goes p e below _ (T288.setTop (mkF m 111 #[.val (.int p1), .val (.long p2), .second, .val (.long p3), .second, .val (.long p4), .second, .val (.long p5), .second, .val (.int (4 : Int32)), .val (.ref b263), .val (.ref b265), .val (.ref b267), .val (.long (((0 : Int64) + (own_span p2)) + (own_span p3))), .second, .unset] [(.long p4), (.int (2 : Int32)), (.ref b263)]))
    obtain ⟨T290, h290, X290, e290, W290, V290, st290⟩ := own_lst X288 hx hZ eh288 ((V280.other W283 ne_b263_b265).other W286 ne_b263_b267) (j := (2 : Int32)) ⟨by decide, by decide⟩ (2) rfl (Nat.le_of_ble_eq_true rfl) (g := (mkF m 111 #[.val (.int p1), .val (.long p2), .second, .val (.long p3), .second, .val (.long p4), .second, .val (.long p5), .second, .val (.int (4 : Int32)), .val (.ref b263), .val (.ref b265), .val (.ref b267), .val (.long (((0 : Int64) + (own_span p2)) + (own_span p3))), .second, .unset] [(.long p4), (.int (2 : Int32)), (.ref b263)])) rfl rfl (hb hby at_111)
    have V290 : Arv Z h290 b263 k263 .long (4 : Int32) (([p2, p3, p4, (0 : Int64)] : List Int64).map Value.long) (Value.long 0) := V290
    have N290 := Fr.snoc X290 N288 g_b263
    have K291 : Keep h0 h290 [] := K287.wr W290 (Or.inr sz_b263)
    refine own_step st290 ?_
    show own_Goes p e below _ (T290.setTop (mkF m 112 #[.val (.int p1), .val (.long p2), .second, .val (.long p3), .second, .val (.long p4), .second, .val (.long p5), .second, .val (.int (4 : Int32)), .val (.ref b263), .val (.ref b265), .val (.ref b267), .val (.long (((0 : Int64) + (own_span p2)) + (own_span p3))), .second, .unset] []))
    refine own_step (fun t k => XS.aload X290.here hx rfl (hb hby at_112) rfl rfl k) ?_
    show own_Goes p e below _ (T290.setTop (mkF m 114 #[.val (.int p1), .val (.long p2), .second, .val (.long p3), .second, .val (.long p4), .second, .val (.long p5), .second, .val (.int (4 : Int32)), .val (.ref b263), .val (.ref b265), .val (.ref b267), .val (.long (((0 : Int64) + (own_span p2)) + (own_span p3))), .second, .unset] [(.ref b265)]))
    refine own_step (fun t k => XS.iconst X290.here hx rfl (hb hby at_114) k) ?_
    show own_Goes p e below _ (T290.setTop (mkF m 115 #[.val (.int p1), .val (.long p2), .second, .val (.long p3), .second, .val (.long p4), .second, .val (.long p5), .second, .val (.int (4 : Int32)), .val (.ref b263), .val (.ref b265), .val (.ref b267), .val (.long (((0 : Int64) + (own_span p2)) + (own_span p3))), .second, .unset] [(.int (2 : Int32)), (.ref b265)]))
    refine own_step (fun t k => XS.lload X290.here hx rfl (hb hby at_115) rfl k) ?_
    show own_Goes p e below _ (T290.setTop (mkF m 117 #[.val (.int p1), .val (.long p2), .second, .val (.long p3), .second, .val (.long p4), .second, .val (.long p5), .second, .val (.int (4 : Int32)), .val (.ref b263), .val (.ref b265), .val (.ref b267), .val (.long (((0 : Int64) + (own_span p2)) + (own_span p3))), .second, .unset] [(.long p4), (.int (2 : Int32)), (.ref b265)]))
    obtain ⟨_, _, ⟨T292, L292, k292, n292⟩, -, X292, ⟨Lc292, hQ292, l292, y292, z292⟩, st292⟩ := Jvm.LawKit.callS X290 hx (y := (⟨"com/example/concepta/concepta/store/RowsBlockCountPinLaw", "first", "(J)I"⟩ : MethodName)) hown (mvT hZ w32) (mvT hZ w33) (mvT hZ w34) (mvT hZ w35) (by decide) (backOf (W := 2) (own_b3 l Z a0 hw [] p4  h290 n0 (Nat.le_trans (Nat.le_trans (Nat.le_trans (Nat.le_trans (Nat.le_trans (Nat.le_trans (Nat.le_trans (Nat.le_trans (Nat.le_trans (Nat.le_trans Z0 E263.1) E265.1) E267.1) (Keep.of_wr W270).1) (Keep.of_wr W273).1) (Keep.of_wr W276).1) (Keep.of_wr W280).1) (Keep.of_wr W283).1) (Keep.of_wr W286).1) (Keep.of_wr W290).1) ) hZ w35 w34 (by decide) (by decide)) (g := (mkF m 117 #[.val (.int p1), .val (.long p2), .second, .val (.long p3), .second, .val (.long p4), .second, .val (.long p5), .second, .val (.int (4 : Int32)), .val (.ref b263), .val (.ref b265), .val (.ref b267), .val (.long (((0 : Int64) + (own_span p2)) + (own_span p3))), .second, .unset] [(.long p4), (.int (2 : Int32)), (.ref b265)])) rfl (by rw [hml]; rfl) (argsL := [(.long p4)]) (rest := [(.int (2 : Int32)), (.ref b265)]) (lenOf own_pd1 rfl) rfl (by show 2 * 0 + _ ≤ _; exact Nat.le_of_eq rfl) (hb hby at_117) (fun _ _ => ⟨rfl, e290, (by decide : 3 + 0 ≤ _), (by decide : 12 + 0 ≤ _)⟩)
    dsimp only [Pt.U, Pt.locs, Pt.cells, Pt.slots] at X292 l292 y292 z292 st292 hQ292
    subst y292 z292
    obtain ⟨rfl, N292q, eh292⟩ := hQ292
    have N292 : Fr n0 L292 := by rw [l292]; exact Fr.app N290 N292q
    refine own_step st292 ?_
    show own_Goes p e below _ (T292.setTop (mkF m 120 #[.val (.int p1), .val (.long p2), .second, .val (.long p3), .second, .val (.long p4), .second, .val (.long p5), .second, .val (.int (4 : Int32)), .val (.ref b263), .val (.ref b265), .val (.ref b267), .val (.long (((0 : Int64) + (own_span p2)) + (own_span p3))), .second, .unset] [(.int (own_first p4)), (.int (2 : Int32)), (.ref b265)]))
    obtain ⟨T293, h293, X293, e293, W293, V293, st293⟩ := own_ist X292 hx hZ eh292 ((V283.other W286 ne_b265_b267).other W290 (Ne.symm ne_b263_b265)) (j := (2 : Int32)) ⟨by decide, by decide⟩ (2) rfl (Nat.le_of_ble_eq_true rfl) (g := (mkF m 120 #[.val (.int p1), .val (.long p2), .second, .val (.long p3), .second, .val (.long p4), .second, .val (.long p5), .second, .val (.int (4 : Int32)), .val (.ref b263), .val (.ref b265), .val (.ref b267), .val (.long (((0 : Int64) + (own_span p2)) + (own_span p3))), .second, .unset] [(.int (own_first p4)), (.int (2 : Int32)), (.ref b265)])) rfl rfl (hb hby at_120)
    have V293 : Arv Z h293 b265 k265 .int (4 : Int32) (([(own_first p2), (own_first p3), (own_first p4), (0 : Int32)] : List Int32).map Value.int) (Value.int 0) := V293
    have N293 := Fr.snoc X293 N292 g_b265
    have K294 : Keep h0 h293 [] := K291.wr W293 (Or.inr sz_b265)
    refine own_step st293 ?_
    show own_Goes p e below _ (T293.setTop (mkF m 121 #[.val (.int p1), .val (.long p2), .second, .val (.long p3), .second, .val (.long p4), .second, .val (.long p5), .second, .val (.int (4 : Int32)), .val (.ref b263), .val (.ref b265), .val (.ref b267), .val (.long (((0 : Int64) + (own_span p2)) + (own_span p3))), .second, .unset] []))
    refine own_step (fun t k => XS.aload X293.here hx rfl (hb hby at_121) rfl rfl k) ?_
    show own_Goes p e below _ (T293.setTop (mkF m 123 #[.val (.int p1), .val (.long p2), .second, .val (.long p3), .second, .val (.long p4), .second, .val (.long p5), .second, .val (.int (4 : Int32)), .val (.ref b263), .val (.ref b265), .val (.ref b267), .val (.long (((0 : Int64) + (own_span p2)) + (own_span p3))), .second, .unset] [(.ref b267)]))
    refine own_step (fun t k => XS.iconst X293.here hx rfl (hb hby at_123) k) ?_
    show own_Goes p e below _ (T293.setTop (mkF m 124 #[.val (.int p1), .val (.long p2), .second, .val (.long p3), .second, .val (.long p4), .second, .val (.long p5), .second, .val (.int (4 : Int32)), .val (.ref b263), .val (.ref b265), .val (.ref b267), .val (.long (((0 : Int64) + (own_span p2)) + (own_span p3))), .second, .unset] [(.int (2 : Int32)), (.ref b267)]))
    refine own_step (fun t k => XS.lload X293.here hx rfl (hb hby at_124) rfl k) ?_
    show own_Goes p e below _ (T293.setTop (mkF m 126 #[.val (.int p1), .val (.long p2), .second, .val (.long p3), .second, .val (.long p4), .second, .val (.long p5), .second, .val (.int (4 : Int32)), .val (.ref b263), .val (.ref b265), .val (.ref b267), .val (.long (((0 : Int64) + (own_span p2)) + (own_span p3))), .second, .unset] [(.long p4), (.int (2 : Int32)), (.ref b267)]))
    obtain ⟨_, _, ⟨T295, L295, k295, n295⟩, -, X295, ⟨Lc295, hQ295, l295, y295, z295⟩, st295⟩ := Jvm.LawKit.callS X293 hx (y := (⟨"com/example/concepta/concepta/store/RowsBlockCountPinLaw", "last", "(J)I"⟩ : MethodName)) hown (mvT hZ w36) (mvT hZ w37) (mvT hZ w34) (mvT hZ w38) (by decide) (backOf (W := 2) (own_b4 l Z a0 hw [] p4  h293 n0 (Nat.le_trans (Nat.le_trans (Nat.le_trans (Nat.le_trans (Nat.le_trans (Nat.le_trans (Nat.le_trans (Nat.le_trans (Nat.le_trans (Nat.le_trans (Nat.le_trans Z0 E263.1) E265.1) E267.1) (Keep.of_wr W270).1) (Keep.of_wr W273).1) (Keep.of_wr W276).1) (Keep.of_wr W280).1) (Keep.of_wr W283).1) (Keep.of_wr W286).1) (Keep.of_wr W290).1) (Keep.of_wr W293).1) ) hZ w38 w34 (by decide) (by decide)) (g := (mkF m 126 #[.val (.int p1), .val (.long p2), .second, .val (.long p3), .second, .val (.long p4), .second, .val (.long p5), .second, .val (.int (4 : Int32)), .val (.ref b263), .val (.ref b265), .val (.ref b267), .val (.long (((0 : Int64) + (own_span p2)) + (own_span p3))), .second, .unset] [(.long p4), (.int (2 : Int32)), (.ref b267)])) rfl (by rw [hml]; rfl) (argsL := [(.long p4)]) (rest := [(.int (2 : Int32)), (.ref b267)]) (lenOf own_pd1 rfl) rfl (by show 2 * 0 + _ ≤ _; exact Nat.le_of_eq rfl) (hb hby at_126) (fun _ _ => ⟨rfl, e293, (by decide : 3 + 0 ≤ _), (by decide : 12 + 0 ≤ _)⟩)
    dsimp only [Pt.U, Pt.locs, Pt.cells, Pt.slots] at X295 l295 y295 z295 st295 hQ295
    subst y295 z295
    obtain ⟨rfl, N295q, eh295⟩ := hQ295
    have N295 : Fr n0 L295 := by rw [l295]; exact Fr.app N293 N295q
    refine own_step st295 ?_
    show own_Goes p e below _ (T295.setTop (mkF m 129 #[.val (.int p1), .val (.long p2), .second, .val (.long p3), .second, .val (.long p4), .second, .val (.long p5), .second, .val (.int (4 : Int32)), .val (.ref b263), .val (.ref b265), .val (.ref b267), .val (.long (((0 : Int64) + (own_span p2)) + (own_span p3))), .second, .unset] [(.int (own_last p4)), (.int (2 : Int32)), (.ref b267)]))
    obtain ⟨T296, h296, X296, e296, W296, V296, st296⟩ := own_ist X295 hx hZ eh295 ((V286.other W290 (Ne.symm ne_b263_b267)).other W293 (Ne.symm ne_b265_b267)) (j := (2 : Int32)) ⟨by decide, by decide⟩ (2) rfl (Nat.le_of_ble_eq_true rfl) (g := (mkF m 129 #[.val (.int p1), .val (.long p2), .second, .val (.long p3), .second, .val (.long p4), .second, .val (.long p5), .second, .val (.int (4 : Int32)), .val (.ref b263), .val (.ref b265), .val (.ref b267), .val (.long (((0 : Int64) + (own_span p2)) + (own_span p3))), .second, .unset] [(.int (own_last p4)), (.int (2 : Int32)), (.ref b267)])) rfl rfl (hb hby at_129)
    have V296 : Arv Z h296 b267 k267 .int (4 : Int32) (([(own_last p2), (own_last p3), (own_last p4), (0 : Int32)] : List Int32).map Value.int) (Value.int 0) := V296
    have N296 := Fr.snoc X296 N295 g_b267
    have K297 : Keep h0 h296 [] := K294.wr W296 (Or.inr sz_b267)
    refine own_step st296 ?_
    show own_Goes p e below _ (T296.setTop (mkF m 130 #[.val (.int p1), .val (.long p2), .second, .val (.long p3), .second, .val (.long p4), .second, .val (.long p5), .second, .val (.int (4 : Int32)), .val (.ref b263), .val (.ref b265), .val (.ref b267), .val (.long (((0 : Int64) + (own_span p2)) + (own_span p3))), .second, .unset] []))
    refine own_step (fun t k => XS.lload X296.here hx rfl (hb hby at_130) rfl k) ?_
    show own_Goes p e below _ (T296.setTop (mkF m 132 #[.val (.int p1), .val (.long p2), .second, .val (.long p3), .second, .val (.long p4), .second, .val (.long p5), .second, .val (.int (4 : Int32)), .val (.ref b263), .val (.ref b265), .val (.ref b267), .val (.long (((0 : Int64) + (own_span p2)) + (own_span p3))), .second, .unset] [(.long (((0 : Int64) + (own_span p2)) + (own_span p3)))]))
    refine own_step (fun t k => XS.lload X296.here hx rfl (hb hby at_132) rfl k) ?_
    show own_Goes p e below _ (T296.setTop (mkF m 134 #[.val (.int p1), .val (.long p2), .second, .val (.long p3), .second, .val (.long p4), .second, .val (.long p5), .second, .val (.int (4 : Int32)), .val (.ref b263), .val (.ref b265), .val (.ref b267), .val (.long (((0 : Int64) + (own_span p2)) + (own_span p3))), .second, .unset] [(.long p4), (.long (((0 : Int64) + (own_span p2)) + (own_span p3)))]))
    obtain ⟨_, _, ⟨T298, L298, k298, n298⟩, -, X298, ⟨Lc298, hQ298, l298, y298, z298⟩, st298⟩ := Jvm.LawKit.callS X296 hx (y := (⟨"com/example/concepta/concepta/store/RowsBlockCountPinLaw", "span", "(J)J"⟩ : MethodName)) hown (mvT hZ w39) (mvT hZ w40) (mvT hZ w34) (mvT hZ w41) (by decide) (backOf (W := 2) (own_b5 l Z a0 hw [] p4  h296 n0 (Nat.le_trans (Nat.le_trans (Nat.le_trans (Nat.le_trans (Nat.le_trans (Nat.le_trans (Nat.le_trans (Nat.le_trans (Nat.le_trans (Nat.le_trans (Nat.le_trans (Nat.le_trans Z0 E263.1) E265.1) E267.1) (Keep.of_wr W270).1) (Keep.of_wr W273).1) (Keep.of_wr W276).1) (Keep.of_wr W280).1) (Keep.of_wr W283).1) (Keep.of_wr W286).1) (Keep.of_wr W290).1) (Keep.of_wr W293).1) (Keep.of_wr W296).1) ) hZ w41 w34 (by decide) (by decide)) (g := (mkF m 134 #[.val (.int p1), .val (.long p2), .second, .val (.long p3), .second, .val (.long p4), .second, .val (.long p5), .second, .val (.int (4 : Int32)), .val (.ref b263), .val (.ref b265), .val (.ref b267), .val (.long (((0 : Int64) + (own_span p2)) + (own_span p3))), .second, .unset] [(.long p4), (.long (((0 : Int64) + (own_span p2)) + (own_span p3)))])) rfl (by rw [hml]; rfl) (argsL := [(.long p4)]) (rest := [(.long (((0 : Int64) + (own_span p2)) + (own_span p3)))]) (lenOf own_pd4 rfl) rfl (by show 2 * 0 + _ ≤ _; exact Nat.le_of_eq rfl) (hb hby at_134) (fun _ _ => ⟨rfl, e296, (by decide : 3 + 0 ≤ _), (by decide : 12 + 0 ≤ _)⟩)
    dsimp only [Pt.U, Pt.locs, Pt.cells, Pt.slots] at X298 l298 y298 z298 st298 hQ298
    subst y298 z298
    obtain ⟨rfl, N298q, eh298⟩ := hQ298
    have N298 : Fr n0 L298 := by rw [l298]; exact Fr.app N296 N298q
    refine own_step st298 ?_
    show own_Goes p e below _ (T298.setTop (mkF m 137 #[.val (.int p1), .val (.long p2), .second, .val (.long p3), .second, .val (.long p4), .second, .val (.long p5), .second, .val (.int (4 : Int32)), .val (.ref b263), .val (.ref b265), .val (.ref b267), .val (.long (((0 : Int64) + (own_span p2)) + (own_span p3))), .second, .unset] [(.long (own_span p4)), (.long (((0 : Int64) + (own_span p2)) + (own_span p3)))]))
    refine own_step (fun t k => XS.ladd X298.here hx rfl (hb hby at_137) rfl k) ?_
    show own_Goes p e below _ (T298.setTop (mkF m 138 #[.val (.int p1), .val (.long p2), .second, .val (.long p3), .second, .val (.long p4), .second, .val (.long p5), .second, .val (.int (4 : Int32)), .val (.ref b263), .val (.ref b265), .val (.ref b267), .val (.long (((0 : Int64) + (own_span p2)) + (own_span p3))), .second, .unset] [(.long ((((0 : Int64) + (own_span p2)) + (own_span p3)) + (own_span p4)))]))
    refine own_step (fun t k => XS.lstore X298.here hx rfl (hb hby at_138) rfl (l' := #[.val (.int p1), .val (.long p2), .second, .val (.long p3), .second, .val (.long p4), .second, .val (.long p5), .second, .val (.int (4 : Int32)), .val (.ref b263), .val (.ref b265), .val (.ref b267), .val (.long ((((0 : Int64) + (own_span p2)) + (own_span p3)) + (own_span p4))), .second, .unset]) rfl k) ?_
    show own_Goes p e below _ (T298.setTop (mkF m 140 #[.val (.int p1), .val (.long p2), .second, .val (.long p3), .second, .val (.long p4), .second, .val (.long p5), .second, .val (.int (4 : Int32)), .val (.ref b263), .val (.ref b265), .val (.ref b267), .val (.long ((((0 : Int64) + (own_span p2)) + (own_span p3)) + (own_span p4))), .second, .unset] []))
    refine own_step (fun t k => XS.iload X298.here hx rfl (hb hby at_140) rfl k) ?_
    show own_Goes p e below _ (T298.setTop (mkF m 142 #[.val (.int p1), .val (.long p2), .second, .val (.long p3), .second, .val (.long p4), .second, .val (.long p5), .second, .val (.int (4 : Int32)), .val (.ref b263), .val (.ref b265), .val (.ref b267), .val (.long ((((0 : Int64) + (own_span p2)) + (own_span p3)) + (own_span p4))), .second, .unset] [(.int (4 : Int32))]))
    refine own_step (fun t k => XS.iconst X298.here hx rfl (hb hby at_142) k) ?_
    show own_Goes p e below _ (T298.setTop (mkF m 143 #[.val (.int p1), .val (.long p2), .second, .val (.long p3), .second, .val (.long p4), .second, .val (.long p5), .second, .val (.int (4 : Int32)), .val (.ref b263), .val (.ref b265), .val (.ref b267), .val (.long ((((0 : Int64) + (own_span p2)) + (own_span p3)) + (own_span p4))), .second, .unset] [(.int (3 : Int32)), (.int (4 : Int32))]))
    have hc299 : (3 : Int32) < (4 : Int32) := by decide
    refine own_step (fun t k => XS.icmpNo X298.here hx rfl (hb hby at_143) rfl (tlt hc299).2.2.2 k) ?_
    show own_Goes p e below _ (T298.setTop (mkF m 146 #[.val (.int p1), .val (.long p2), .second, .val (.long p3), .second, .val (.long p4), .second, .val (.long p5), .second, .val (.int (4 : Int32)), .val (.ref b263), .val (.ref b265), .val (.ref b267), .val (.long ((((0 : Int64) + (own_span p2)) + (own_span p3)) + (own_span p4))), .second, .unset] []))
    refine own_step (fun t k => XS.aload X298.here hx rfl (hb hby at_146) rfl rfl k) ?_
    show own_Goes p e below _ (T298.setTop (mkF m 148 #[.val (.int p1), .val (.long p2), .second, .val (.long p3), .second, .val (.long p4), .second, .val (.long p5), .second, .val (.int (4 : Int32)), .val (.ref b263), .val (.ref b265), .val (.ref b267), .val (.long ((((0 : Int64) + (own_span p2)) + (own_span p3)) + (own_span p4))), .second, .unset] [(.ref b263)]))
    refine own_step (fun t k => XS.iconst X298.here hx rfl (hb hby at_148) k) ?_
    show own_Goes p e below _ (T298.setTop (mkF m 149 #[.val (.int p1), .val (.long p2), .second, .val (.long p3), .second, .val (.long p4), .second, .val (.long p5), .second, .val (.int (4 : Int32)), .val (.ref b263), .val (.ref b265), .val (.ref b267), .val (.long ((((0 : Int64) + (own_span p2)) + (own_span p3)) + (own_span p4))), .second, .unset] [(.int (3 : Int32)), (.ref b263)]))
    refine own_step (fun t k => XS.lload X298.here hx rfl (hb hby at_149) rfl k) ?_
    show own_Goes p e below _ (T298.setTop (mkF m 151 #[.val (.int p1), .val (.long p2), .second, .val (.long p3), .second, .val (.long p4), .second, .val (.long p5), .second, .val (.int (4 : Int32)), .val (.ref b263), .val (.ref b265), .val (.ref b267), .val (.long ((((0 : Int64) + (own_span p2)) + (own_span p3)) + (own_span p4))), .second, .unset] [(.long p5), (.int (3 : Int32)), (.ref b263)]))
    obtain ⟨T300, h300, X300, e300, W300, V300, st300⟩ := own_lst X298 hx hZ eh298 ((V290.other W293 ne_b263_b265).other W296 ne_b263_b267) (j := (3 : Int32)) ⟨by decide, by decide⟩ (3) rfl (Nat.le_of_ble_eq_true rfl) (g := (mkF m 151 #[.val (.int p1), .val (.long p2), .second, .val (.long p3), .second, .val (.long p4), .second, .val (.long p5), .second, .val (.int (4 : Int32)), .val (.ref b263), .val (.ref b265), .val (.ref b267), .val (.long ((((0 : Int64) + (own_span p2)) + (own_span p3)) + (own_span p4))), .second, .unset] [(.long p5), (.int (3 : Int32)), (.ref b263)])) rfl rfl (hb hby at_151)
    have V300 : Arv Z h300 b263 k263 .long (4 : Int32) (([p2, p3, p4, p5] : List Int64).map Value.long) (Value.long 0) := V300
    have N300 := Fr.snoc X300 N298 g_b263
    have K301 : Keep h0 h300 [] := K297.wr W300 (Or.inr sz_b263)
    refine own_step st300 ?_
    show own_Goes p e below _ (T300.setTop (mkF m 152 #[.val (.int p1), .val (.long p2), .second, .val (.long p3), .second, .val (.long p4), .second, .val (.long p5), .second, .val (.int (4 : Int32)), .val (.ref b263), .val (.ref b265), .val (.ref b267), .val (.long ((((0 : Int64) + (own_span p2)) + (own_span p3)) + (own_span p4))), .second, .unset] []))
    refine own_step (fun t k => XS.aload X300.here hx rfl (hb hby at_152) rfl rfl k) ?_
    show own_Goes p e below _ (T300.setTop (mkF m 154 #[.val (.int p1), .val (.long p2), .second, .val (.long p3), .second, .val (.long p4), .second, .val (.long p5), .second, .val (.int (4 : Int32)), .val (.ref b263), .val (.ref b265), .val (.ref b267), .val (.long ((((0 : Int64) + (own_span p2)) + (own_span p3)) + (own_span p4))), .second, .unset] [(.ref b265)]))
    refine own_step (fun t k => XS.iconst X300.here hx rfl (hb hby at_154) k) ?_
    show own_Goes p e below _ (T300.setTop (mkF m 155 #[.val (.int p1), .val (.long p2), .second, .val (.long p3), .second, .val (.long p4), .second, .val (.long p5), .second, .val (.int (4 : Int32)), .val (.ref b263), .val (.ref b265), .val (.ref b267), .val (.long ((((0 : Int64) + (own_span p2)) + (own_span p3)) + (own_span p4))), .second, .unset] [(.int (3 : Int32)), (.ref b265)]))
    refine own_step (fun t k => XS.lload X300.here hx rfl (hb hby at_155) rfl k) ?_
    show own_Goes p e below _ (T300.setTop (mkF m 157 #[.val (.int p1), .val (.long p2), .second, .val (.long p3), .second, .val (.long p4), .second, .val (.long p5), .second, .val (.int (4 : Int32)), .val (.ref b263), .val (.ref b265), .val (.ref b267), .val (.long ((((0 : Int64) + (own_span p2)) + (own_span p3)) + (own_span p4))), .second, .unset] [(.long p5), (.int (3 : Int32)), (.ref b265)]))
    obtain ⟨_, _, ⟨T302, L302, k302, n302⟩, -, X302, ⟨Lc302, hQ302, l302, y302, z302⟩, st302⟩ := Jvm.LawKit.callS X300 hx (y := (⟨"com/example/concepta/concepta/store/RowsBlockCountPinLaw", "first", "(J)I"⟩ : MethodName)) hown (mvT hZ w32) (mvT hZ w33) (mvT hZ w34) (mvT hZ w35) (by decide) (backOf (W := 2) (own_b3 l Z a0 hw [] p5  h300 n0 (Nat.le_trans (Nat.le_trans (Nat.le_trans (Nat.le_trans (Nat.le_trans (Nat.le_trans (Nat.le_trans (Nat.le_trans (Nat.le_trans (Nat.le_trans (Nat.le_trans (Nat.le_trans (Nat.le_trans Z0 E263.1) E265.1) E267.1) (Keep.of_wr W270).1) (Keep.of_wr W273).1) (Keep.of_wr W276).1) (Keep.of_wr W280).1) (Keep.of_wr W283).1) (Keep.of_wr W286).1) (Keep.of_wr W290).1) (Keep.of_wr W293).1) (Keep.of_wr W296).1) (Keep.of_wr W300).1) ) hZ w35 w34 (by decide) (by decide)) (g := (mkF m 157 #[.val (.int p1), .val (.long p2), .second, .val (.long p3), .second, .val (.long p4), .second, .val (.long p5), .second, .val (.int (4 : Int32)), .val (.ref b263), .val (.ref b265), .val (.ref b267), .val (.long ((((0 : Int64) + (own_span p2)) + (own_span p3)) + (own_span p4))), .second, .unset] [(.long p5), (.int (3 : Int32)), (.ref b265)])) rfl (by rw [hml]; rfl) (argsL := [(.long p5)]) (rest := [(.int (3 : Int32)), (.ref b265)]) (lenOf own_pd1 rfl) rfl (by show 2 * 0 + _ ≤ _; exact Nat.le_of_eq rfl) (hb hby at_157) (fun _ _ => ⟨rfl, e300, (by decide : 3 + 0 ≤ _), (by decide : 12 + 0 ≤ _)⟩)
    dsimp only [Pt.U, Pt.locs, Pt.cells, Pt.slots] at X302 l302 y302 z302 st302 hQ302
    subst y302 z302
    obtain ⟨rfl, N302q, eh302⟩ := hQ302
    have N302 : Fr n0 L302 := by rw [l302]; exact Fr.app N300 N302q
    refine own_step st302 ?_
    show own_Goes p e below _ (T302.setTop (mkF m 160 #[.val (.int p1), .val (.long p2), .second, .val (.long p3), .second, .val (.long p4), .second, .val (.long p5), .second, .val (.int (4 : Int32)), .val (.ref b263), .val (.ref b265), .val (.ref b267), .val (.long ((((0 : Int64) + (own_span p2)) + (own_span p3)) + (own_span p4))), .second, .unset] [(.int (own_first p5)), (.int (3 : Int32)), (.ref b265)]))
    obtain ⟨T303, h303, X303, e303, W303, V303, st303⟩ := own_ist X302 hx hZ eh302 ((V293.other W296 ne_b265_b267).other W300 (Ne.symm ne_b263_b265)) (j := (3 : Int32)) ⟨by decide, by decide⟩ (3) rfl (Nat.le_of_ble_eq_true rfl) (g := (mkF m 160 #[.val (.int p1), .val (.long p2), .second, .val (.long p3), .second, .val (.long p4), .second, .val (.long p5), .second, .val (.int (4 : Int32)), .val (.ref b263), .val (.ref b265), .val (.ref b267), .val (.long ((((0 : Int64) + (own_span p2)) + (own_span p3)) + (own_span p4))), .second, .unset] [(.int (own_first p5)), (.int (3 : Int32)), (.ref b265)])) rfl rfl (hb hby at_160)
    have V303 : Arv Z h303 b265 k265 .int (4 : Int32) (([(own_first p2), (own_first p3), (own_first p4), (own_first p5)] : List Int32).map Value.int) (Value.int 0) := V303
    have N303 := Fr.snoc X303 N302 g_b265
    have K304 : Keep h0 h303 [] := K301.wr W303 (Or.inr sz_b265)
    refine own_step st303 ?_
    show own_Goes p e below _ (T303.setTop (mkF m 161 #[.val (.int p1), .val (.long p2), .second, .val (.long p3), .second, .val (.long p4), .second, .val (.long p5), .second, .val (.int (4 : Int32)), .val (.ref b263), .val (.ref b265), .val (.ref b267), .val (.long ((((0 : Int64) + (own_span p2)) + (own_span p3)) + (own_span p4))), .second, .unset] []))
    refine own_step (fun t k => XS.aload X303.here hx rfl (hb hby at_161) rfl rfl k) ?_
    show own_Goes p e below _ (T303.setTop (mkF m 163 #[.val (.int p1), .val (.long p2), .second, .val (.long p3), .second, .val (.long p4), .second, .val (.long p5), .second, .val (.int (4 : Int32)), .val (.ref b263), .val (.ref b265), .val (.ref b267), .val (.long ((((0 : Int64) + (own_span p2)) + (own_span p3)) + (own_span p4))), .second, .unset] [(.ref b267)]))
    refine own_step (fun t k => XS.iconst X303.here hx rfl (hb hby at_163) k) ?_
    show own_Goes p e below _ (T303.setTop (mkF m 164 #[.val (.int p1), .val (.long p2), .second, .val (.long p3), .second, .val (.long p4), .second, .val (.long p5), .second, .val (.int (4 : Int32)), .val (.ref b263), .val (.ref b265), .val (.ref b267), .val (.long ((((0 : Int64) + (own_span p2)) + (own_span p3)) + (own_span p4))), .second, .unset] [(.int (3 : Int32)), (.ref b267)]))
    refine own_step (fun t k => XS.lload X303.here hx rfl (hb hby at_164) rfl k) ?_
    show own_Goes p e below _ (T303.setTop (mkF m 166 #[.val (.int p1), .val (.long p2), .second, .val (.long p3), .second, .val (.long p4), .second, .val (.long p5), .second, .val (.int (4 : Int32)), .val (.ref b263), .val (.ref b265), .val (.ref b267), .val (.long ((((0 : Int64) + (own_span p2)) + (own_span p3)) + (own_span p4))), .second, .unset] [(.long p5), (.int (3 : Int32)), (.ref b267)]))
    obtain ⟨_, _, ⟨T305, L305, k305, n305⟩, -, X305, ⟨Lc305, hQ305, l305, y305, z305⟩, st305⟩ := Jvm.LawKit.callS X303 hx (y := (⟨"com/example/concepta/concepta/store/RowsBlockCountPinLaw", "last", "(J)I"⟩ : MethodName)) hown (mvT hZ w36) (mvT hZ w37) (mvT hZ w34) (mvT hZ w38) (by decide) (backOf (W := 2) (own_b4 l Z a0 hw [] p5  h303 n0 (Nat.le_trans (Nat.le_trans (Nat.le_trans (Nat.le_trans (Nat.le_trans (Nat.le_trans (Nat.le_trans (Nat.le_trans (Nat.le_trans (Nat.le_trans (Nat.le_trans (Nat.le_trans (Nat.le_trans (Nat.le_trans Z0 E263.1) E265.1) E267.1) (Keep.of_wr W270).1) (Keep.of_wr W273).1) (Keep.of_wr W276).1) (Keep.of_wr W280).1) (Keep.of_wr W283).1) (Keep.of_wr W286).1) (Keep.of_wr W290).1) (Keep.of_wr W293).1) (Keep.of_wr W296).1) (Keep.of_wr W300).1) (Keep.of_wr W303).1) ) hZ w38 w34 (by decide) (by decide)) (g := (mkF m 166 #[.val (.int p1), .val (.long p2), .second, .val (.long p3), .second, .val (.long p4), .second, .val (.long p5), .second, .val (.int (4 : Int32)), .val (.ref b263), .val (.ref b265), .val (.ref b267), .val (.long ((((0 : Int64) + (own_span p2)) + (own_span p3)) + (own_span p4))), .second, .unset] [(.long p5), (.int (3 : Int32)), (.ref b267)])) rfl (by rw [hml]; rfl) (argsL := [(.long p5)]) (rest := [(.int (3 : Int32)), (.ref b267)]) (lenOf own_pd1 rfl) rfl (by show 2 * 0 + _ ≤ _; exact Nat.le_of_eq rfl) (hb hby at_166) (fun _ _ => ⟨rfl, e303, (by decide : 3 + 0 ≤ _), (by decide : 12 + 0 ≤ _)⟩)
    dsimp only [Pt.U, Pt.locs, Pt.cells, Pt.slots] at X305 l305 y305 z305 st305 hQ305
    subst y305 z305
    obtain ⟨rfl, N305q, eh305⟩ := hQ305
    have N305 : Fr n0 L305 := by rw [l305]; exact Fr.app N303 N305q
    refine own_step st305 ?_
    show own_Goes p e below _ (T305.setTop (mkF m 169 #[.val (.int p1), .val (.long p2), .second, .val (.long p3), .second, .val (.long p4), .second, .val (.long p5), .second, .val (.int (4 : Int32)), .val (.ref b263), .val (.ref b265), .val (.ref b267), .val (.long ((((0 : Int64) + (own_span p2)) + (own_span p3)) + (own_span p4))), .second, .unset] [(.int (own_last p5)), (.int (3 : Int32)), (.ref b267)]))
    obtain ⟨T306, h306, X306, e306, W306, V306, st306⟩ := own_ist X305 hx hZ eh305 ((V296.other W300 (Ne.symm ne_b263_b267)).other W303 (Ne.symm ne_b265_b267)) (j := (3 : Int32)) ⟨by decide, by decide⟩ (3) rfl (Nat.le_of_ble_eq_true rfl) (g := (mkF m 169 #[.val (.int p1), .val (.long p2), .second, .val (.long p3), .second, .val (.long p4), .second, .val (.long p5), .second, .val (.int (4 : Int32)), .val (.ref b263), .val (.ref b265), .val (.ref b267), .val (.long ((((0 : Int64) + (own_span p2)) + (own_span p3)) + (own_span p4))), .second, .unset] [(.int (own_last p5)), (.int (3 : Int32)), (.ref b267)])) rfl rfl (hb hby at_169)
    have V306 : Arv Z h306 b267 k267 .int (4 : Int32) (([(own_last p2), (own_last p3), (own_last p4), (own_last p5)] : List Int32).map Value.int) (Value.int 0) := V306
    have N306 := Fr.snoc X306 N305 g_b267
    have K307 : Keep h0 h306 [] := K304.wr W306 (Or.inr sz_b267)
    refine own_step st306 ?_
    show own_Goes p e below _ (T306.setTop (mkF m 170 #[.val (.int p1), .val (.long p2), .second, .val (.long p3), .second, .val (.long p4), .second, .val (.long p5), .second, .val (.int (4 : Int32)), .val (.ref b263), .val (.ref b265), .val (.ref b267), .val (.long ((((0 : Int64) + (own_span p2)) + (own_span p3)) + (own_span p4))), .second, .unset] []))
    refine own_step (fun t k => XS.lload X306.here hx rfl (hb hby at_170) rfl k) ?_
    show own_Goes p e below _ (T306.setTop (mkF m 172 #[.val (.int p1), .val (.long p2), .second, .val (.long p3), .second, .val (.long p4), .second, .val (.long p5), .second, .val (.int (4 : Int32)), .val (.ref b263), .val (.ref b265), .val (.ref b267), .val (.long ((((0 : Int64) + (own_span p2)) + (own_span p3)) + (own_span p4))), .second, .unset] [(.long ((((0 : Int64) + (own_span p2)) + (own_span p3)) + (own_span p4)))]))
    refine own_step (fun t k => XS.lload X306.here hx rfl (hb hby at_172) rfl k) ?_
    show own_Goes p e below _ (T306.setTop (mkF m 174 #[.val (.int p1), .val (.long p2), .second, .val (.long p3), .second, .val (.long p4), .second, .val (.long p5), .second, .val (.int (4 : Int32)), .val (.ref b263), .val (.ref b265), .val (.ref b267), .val (.long ((((0 : Int64) + (own_span p2)) + (own_span p3)) + (own_span p4))), .second, .unset] [(.long p5), (.long ((((0 : Int64) + (own_span p2)) + (own_span p3)) + (own_span p4)))]))
    obtain ⟨_, _, ⟨T308, L308, k308, n308⟩, -, X308, ⟨Lc308, hQ308, l308, y308, z308⟩, st308⟩ := Jvm.LawKit.callS X306 hx (y := (⟨"com/example/concepta/concepta/store/RowsBlockCountPinLaw", "span", "(J)J"⟩ : MethodName)) hown (mvT hZ w39) (mvT hZ w40) (mvT hZ w34) (mvT hZ w41) (by decide) (backOf (W := 2) (own_b5 l Z a0 hw [] p5  h306 n0 (Nat.le_trans (Nat.le_trans (Nat.le_trans (Nat.le_trans (Nat.le_trans (Nat.le_trans (Nat.le_trans (Nat.le_trans (Nat.le_trans (Nat.le_trans (Nat.le_trans (Nat.le_trans (Nat.le_trans (Nat.le_trans (Nat.le_trans Z0 E263.1) E265.1) E267.1) (Keep.of_wr W270).1) (Keep.of_wr W273).1) (Keep.of_wr W276).1) (Keep.of_wr W280).1) (Keep.of_wr W283).1) (Keep.of_wr W286).1) (Keep.of_wr W290).1) (Keep.of_wr W293).1) (Keep.of_wr W296).1) (Keep.of_wr W300).1) (Keep.of_wr W303).1) (Keep.of_wr W306).1) ) hZ w41 w34 (by decide) (by decide)) (g := (mkF m 174 #[.val (.int p1), .val (.long p2), .second, .val (.long p3), .second, .val (.long p4), .second, .val (.long p5), .second, .val (.int (4 : Int32)), .val (.ref b263), .val (.ref b265), .val (.ref b267), .val (.long ((((0 : Int64) + (own_span p2)) + (own_span p3)) + (own_span p4))), .second, .unset] [(.long p5), (.long ((((0 : Int64) + (own_span p2)) + (own_span p3)) + (own_span p4)))])) rfl (by rw [hml]; rfl) (argsL := [(.long p5)]) (rest := [(.long ((((0 : Int64) + (own_span p2)) + (own_span p3)) + (own_span p4)))]) (lenOf own_pd4 rfl) rfl (by show 2 * 0 + _ ≤ _; exact Nat.le_of_eq rfl) (hb hby at_174) (fun _ _ => ⟨rfl, e306, (by decide : 3 + 0 ≤ _), (by decide : 12 + 0 ≤ _)⟩)
    dsimp only [Pt.U, Pt.locs, Pt.cells, Pt.slots] at X308 l308 y308 z308 st308 hQ308
    subst y308 z308
    obtain ⟨rfl, N308q, eh308⟩ := hQ308
    have N308 : Fr n0 L308 := by rw [l308]; exact Fr.app N306 N308q
    refine own_step st308 ?_
    show own_Goes p e below _ (T308.setTop (mkF m 177 #[.val (.int p1), .val (.long p2), .second, .val (.long p3), .second, .val (.long p4), .second, .val (.long p5), .second, .val (.int (4 : Int32)), .val (.ref b263), .val (.ref b265), .val (.ref b267), .val (.long ((((0 : Int64) + (own_span p2)) + (own_span p3)) + (own_span p4))), .second, .unset] [(.long (own_span p5)), (.long ((((0 : Int64) + (own_span p2)) + (own_span p3)) + (own_span p4)))]))
    refine own_step (fun t k => XS.ladd X308.here hx rfl (hb hby at_177) rfl k) ?_
    show own_Goes p e below _ (T308.setTop (mkF m 178 #[.val (.int p1), .val (.long p2), .second, .val (.long p3), .second, .val (.long p4), .second, .val (.long p5), .second, .val (.int (4 : Int32)), .val (.ref b263), .val (.ref b265), .val (.ref b267), .val (.long ((((0 : Int64) + (own_span p2)) + (own_span p3)) + (own_span p4))), .second, .unset] [(.long (((((0 : Int64) + (own_span p2)) + (own_span p3)) + (own_span p4)) + (own_span p5)))]))
    refine own_step (fun t k => XS.lstore X308.here hx rfl (hb hby at_178) rfl (l' := #[.val (.int p1), .val (.long p2), .second, .val (.long p3), .second, .val (.long p4), .second, .val (.long p5), .second, .val (.int (4 : Int32)), .val (.ref b263), .val (.ref b265), .val (.ref b267), .val (.long (((((0 : Int64) + (own_span p2)) + (own_span p3)) + (own_span p4)) + (own_span p5))), .second, .unset]) rfl k) ?_
    show own_Goes p e below _ (T308.setTop (mkF m 180 #[.val (.int p1), .val (.long p2), .second, .val (.long p3), .second, .val (.long p4), .second, .val (.long p5), .second, .val (.int (4 : Int32)), .val (.ref b263), .val (.ref b265), .val (.ref b267), .val (.long (((((0 : Int64) + (own_span p2)) + (own_span p3)) + (own_span p4)) + (own_span p5))), .second, .unset] []))
    obtain ⟨T309, h309, X309, e309, E309, A309, D309, -, st309⟩ := newO X308 hx hZ hown w3 w4 w5 eh308 (g := (mkF m 180 #[.val (.int p1), .val (.long p2), .second, .val (.long p3), .second, .val (.long p4), .second, .val (.long p5), .second, .val (.int (4 : Int32)), .val (.ref b263), .val (.ref b265), .val (.ref b267), .val (.long (((((0 : Int64) + (own_span p2)) + (own_span p3)) + (own_span p4)) + (own_span p5))), .second, .unset] [])) rfl (hb hby at_180) (by decide) (by decide)
    obtain ⟨b309, g309⟩ : ∃ z, z = h306.size := ⟨_, rfl⟩
    rw [← g309] at A309 D309 st309
    have ne_b263_b309 : b263 ≠ b309 := Nat.ne_of_lt (Nat.lt_of_lt_of_le ((V300.other W303 ne_b263_b265).other W306 ne_b263_b267).lt (Nat.le_of_eq g309.symm))
    have ne_b265_b309 : b265 ≠ b309 := Nat.ne_of_lt (Nat.lt_of_lt_of_le (V303.other W306 ne_b265_b267).lt (Nat.le_of_eq g309.symm))
    have ne_b267_b309 : b267 ≠ b309 := Nat.ne_of_lt (Nat.lt_of_lt_of_le V306.lt (Nat.le_of_eq g309.symm))
    have g_b309 : n0 ≤ b309 := Nat.le_trans (Nat.le_trans (Nat.le_trans (Nat.le_trans (Nat.le_trans (Nat.le_trans (Nat.le_trans (Nat.le_trans (Nat.le_trans (Nat.le_trans (Nat.le_trans (Nat.le_trans (Nat.le_trans (Nat.le_trans (Nat.le_trans (Nat.le_trans Z0 E263.1) E265.1) E267.1) (Keep.of_wr W270).1) (Keep.of_wr W273).1) (Keep.of_wr W276).1) (Keep.of_wr W280).1) (Keep.of_wr W283).1) (Keep.of_wr W286).1) (Keep.of_wr W290).1) (Keep.of_wr W293).1) (Keep.of_wr W296).1) (Keep.of_wr W300).1) (Keep.of_wr W303).1) (Keep.of_wr W306).1) (Nat.le_of_eq g309.symm)
    have sz_b309 : h0.size ≤ b309 := Nat.le_trans K307.1 (Nat.le_of_eq g309.symm)
    have K310 : Keep h0 h309 [] := K307.ext E309
    have F_regions_b309 : Fld Z h309 b309 "com/example/concepta/concepta/store/OidSet$Rows" "regions" "[J" .null := D309 (Or.inr w18) (ty := (.array .long)) (by decide)
    have F_firsts_b309 : Fld Z h309 b309 "com/example/concepta/concepta/store/OidSet$Rows" "firsts" "[I" .null := D309 (Or.inr w20) (ty := (.array .int)) (by decide)
    have F_lasts_b309 : Fld Z h309 b309 "com/example/concepta/concepta/store/OidSet$Rows" "lasts" "[I" .null := D309 (Or.inr w22) (ty := (.array .int)) (by decide)
    have F_blocks_b309 : Fld Z h309 b309 "com/example/concepta/concepta/store/OidSet$Rows" "blocks" "[J" .null := D309 (Or.inr w24) (ty := (.array .long)) (by decide)
    have F_bits_b309 : Fld Z h309 b309 "com/example/concepta/concepta/store/OidSet$Rows" "bits" "[J" .null := D309 (Or.inr w26) (ty := (.array .long)) (by decide)
    refine own_step st309 ?_
    show own_Goes p e below _ (T309.setTop (mkF m 183 #[.val (.int p1), .val (.long p2), .second, .val (.long p3), .second, .val (.long p4), .second, .val (.long p5), .second, .val (.int (4 : Int32)), .val (.ref b263), .val (.ref b265), .val (.ref b267), .val (.long (((((0 : Int64) + (own_span p2)) + (own_span p3)) + (own_span p4)) + (own_span p5))), .second, .unset] [(.ref b309)]))
    refine own_step (fun t k => XS.dup X309.here hx rfl (hb hby at_183) rfl rfl k) ?_
    show own_Goes p e below _ (T309.setTop (mkF m 184 #[.val (.int p1), .val (.long p2), .second, .val (.long p3), .second, .val (.long p4), .second, .val (.long p5), .second, .val (.int (4 : Int32)), .val (.ref b263), .val (.ref b265), .val (.ref b267), .val (.long (((((0 : Int64) + (own_span p2)) + (own_span p3)) + (own_span p4)) + (own_span p5))), .second, .unset] [(.ref b309), (.ref b309)]))
    refine own_step (fun t k => XS.aload X309.here hx rfl (hb hby at_184) rfl rfl k) ?_
    show own_Goes p e below _ (T309.setTop (mkF m 186 #[.val (.int p1), .val (.long p2), .second, .val (.long p3), .second, .val (.long p4), .second, .val (.long p5), .second, .val (.int (4 : Int32)), .val (.ref b263), .val (.ref b265), .val (.ref b267), .val (.long (((((0 : Int64) + (own_span p2)) + (own_span p3)) + (own_span p4)) + (own_span p5))), .second, .unset] [(.ref b263), (.ref b309), (.ref b309)]))
    refine own_step (fun t k => XS.aload X309.here hx rfl (hb hby at_186) rfl rfl k) ?_
    show own_Goes p e below _ (T309.setTop (mkF m 188 #[.val (.int p1), .val (.long p2), .second, .val (.long p3), .second, .val (.long p4), .second, .val (.long p5), .second, .val (.int (4 : Int32)), .val (.ref b263), .val (.ref b265), .val (.ref b267), .val (.long (((((0 : Int64) + (own_span p2)) + (own_span p3)) + (own_span p4)) + (own_span p5))), .second, .unset] [(.ref b265), (.ref b263), (.ref b309), (.ref b309)]))
    refine own_step (fun t k => XS.aload X309.here hx rfl (hb hby at_188) rfl rfl k) ?_
    show own_Goes p e below _ (T309.setTop (mkF m 190 #[.val (.int p1), .val (.long p2), .second, .val (.long p3), .second, .val (.long p4), .second, .val (.long p5), .second, .val (.int (4 : Int32)), .val (.ref b263), .val (.ref b265), .val (.ref b267), .val (.long (((((0 : Int64) + (own_span p2)) + (own_span p3)) + (own_span p4)) + (own_span p5))), .second, .unset] [(.ref b267), (.ref b265), (.ref b263), (.ref b309), (.ref b309)]))
    refine own_step (fun t k => XS.iconst X309.here hx rfl (hb hby at_190) k) ?_
    show own_Goes p e below _ (T309.setTop (mkF m 191 #[.val (.int p1), .val (.long p2), .second, .val (.long p3), .second, .val (.long p4), .second, .val (.long p5), .second, .val (.int (4 : Int32)), .val (.ref b263), .val (.ref b265), .val (.ref b267), .val (.long (((((0 : Int64) + (own_span p2)) + (own_span p3)) + (own_span p4)) + (own_span p5))), .second, .unset] [(.int (1 : Int32)), (.ref b267), (.ref b265), (.ref b263), (.ref b309), (.ref b309)]))
    obtain ⟨T311, h311, k311, X311, e311, E311, A311, st311⟩ := newP (aty := .long) X309 hx hZ w1 e309 (g := (mkF m 191 #[.val (.int p1), .val (.long p2), .second, .val (.long p3), .second, .val (.long p4), .second, .val (.long p5), .second, .val (.int (4 : Int32)), .val (.ref b263), .val (.ref b265), .val (.ref b267), .val (.long (((((0 : Int64) + (own_span p2)) + (own_span p3)) + (own_span p4)) + (own_span p5))), .second, .unset] [(.int (1 : Int32)), (.ref b267), (.ref b265), (.ref b263), (.ref b309), (.ref b309)])) rfl (hb hby at_191) rfl (by decide) (cap := 1) (by decide) (by decide) (by decide) (by decide)
    obtain ⟨b311, g311⟩ : ∃ z, z = h309.size := ⟨_, rfl⟩
    rw [← g311] at A311 st311
    have ne_b263_b311 : b263 ≠ b311 := Nat.ne_of_lt (Nat.lt_of_lt_of_le (((V300.other W303 ne_b263_b265).other W306 ne_b263_b267).ext E309).lt (Nat.le_of_eq g311.symm))
    have ne_b265_b311 : b265 ≠ b311 := Nat.ne_of_lt (Nat.lt_of_lt_of_le ((V303.other W306 ne_b265_b267).ext E309).lt (Nat.le_of_eq g311.symm))
    have ne_b267_b311 : b267 ≠ b311 := Nat.ne_of_lt (Nat.lt_of_lt_of_le (V306.ext E309).lt (Nat.le_of_eq g311.symm))
    have ne_b309_b311 : b309 ≠ b311 := Nat.ne_of_lt (Nat.lt_of_lt_of_le A309.lt (Nat.le_of_eq g311.symm))
    have g_b311 : n0 ≤ b311 := Nat.le_trans (Nat.le_trans (Nat.le_trans (Nat.le_trans (Nat.le_trans (Nat.le_trans (Nat.le_trans (Nat.le_trans (Nat.le_trans (Nat.le_trans (Nat.le_trans (Nat.le_trans (Nat.le_trans (Nat.le_trans (Nat.le_trans (Nat.le_trans (Nat.le_trans Z0 E263.1) E265.1) E267.1) (Keep.of_wr W270).1) (Keep.of_wr W273).1) (Keep.of_wr W276).1) (Keep.of_wr W280).1) (Keep.of_wr W283).1) (Keep.of_wr W286).1) (Keep.of_wr W290).1) (Keep.of_wr W293).1) (Keep.of_wr W296).1) (Keep.of_wr W300).1) (Keep.of_wr W303).1) (Keep.of_wr W306).1) E309.1) (Nat.le_of_eq g311.symm)
    have sz_b311 : h0.size ≤ b311 := Nat.le_trans K310.1 (Nat.le_of_eq g311.symm)
    have V311 : Arv Z h311 b311 k311 .long (1 : Int32) (([(0 : Int64)] : List Int64).map Value.long) (Value.long (0 : Int64)) := own_newJ A311 (by decide) 1
    have K312 : Keep h0 h311 [] := K310.ext E311
    refine own_step st311 ?_
    show own_Goes p e below _ (T311.setTop (mkF m 193 #[.val (.int p1), .val (.long p2), .second, .val (.long p3), .second, .val (.long p4), .second, .val (.long p5), .second, .val (.int (4 : Int32)), .val (.ref b263), .val (.ref b265), .val (.ref b267), .val (.long (((((0 : Int64) + (own_span p2)) + (own_span p3)) + (own_span p4)) + (own_span p5))), .second, .unset] [(.ref b311), (.ref b267), (.ref b265), (.ref b263), (.ref b309), (.ref b309)]))
    refine own_step (fun t k => XS.iconst X311.here hx rfl (hb hby at_193) k) ?_
    show own_Goes p e below _ (T311.setTop (mkF m 194 #[.val (.int p1), .val (.long p2), .second, .val (.long p3), .second, .val (.long p4), .second, .val (.long p5), .second, .val (.int (4 : Int32)), .val (.ref b263), .val (.ref b265), .val (.ref b267), .val (.long (((((0 : Int64) + (own_span p2)) + (own_span p3)) + (own_span p4)) + (own_span p5))), .second, .unset] [(.int (1 : Int32)), (.ref b311), (.ref b267), (.ref b265), (.ref b263), (.ref b309), (.ref b309)]))
    obtain ⟨T313, h313, k313, X313, e313, E313, A313, st313⟩ := newP (aty := .long) X311 hx hZ w1 e311 (g := (mkF m 194 #[.val (.int p1), .val (.long p2), .second, .val (.long p3), .second, .val (.long p4), .second, .val (.long p5), .second, .val (.int (4 : Int32)), .val (.ref b263), .val (.ref b265), .val (.ref b267), .val (.long (((((0 : Int64) + (own_span p2)) + (own_span p3)) + (own_span p4)) + (own_span p5))), .second, .unset] [(.int (1 : Int32)), (.ref b311), (.ref b267), (.ref b265), (.ref b263), (.ref b309), (.ref b309)])) rfl (hb hby at_194) rfl (by decide) (cap := 1) (by decide) (by decide) (by decide) (by decide)
    obtain ⟨b313, g313⟩ : ∃ z, z = h311.size := ⟨_, rfl⟩
    rw [← g313] at A313 st313
    have ne_b263_b313 : b263 ≠ b313 := Nat.ne_of_lt (Nat.lt_of_lt_of_le ((((V300.other W303 ne_b263_b265).other W306 ne_b263_b267).ext E309).ext E311).lt (Nat.le_of_eq g313.symm))
    have ne_b265_b313 : b265 ≠ b313 := Nat.ne_of_lt (Nat.lt_of_lt_of_le (((V303.other W306 ne_b265_b267).ext E309).ext E311).lt (Nat.le_of_eq g313.symm))
    have ne_b267_b313 : b267 ≠ b313 := Nat.ne_of_lt (Nat.lt_of_lt_of_le ((V306.ext E309).ext E311).lt (Nat.le_of_eq g313.symm))
    have ne_b309_b313 : b309 ≠ b313 := Nat.ne_of_lt (Nat.lt_of_lt_of_le (A309.ext E311).lt (Nat.le_of_eq g313.symm))
    have ne_b311_b313 : b311 ≠ b313 := Nat.ne_of_lt (Nat.lt_of_lt_of_le V311.lt (Nat.le_of_eq g313.symm))
    have g_b313 : n0 ≤ b313 := Nat.le_trans (Nat.le_trans (Nat.le_trans (Nat.le_trans (Nat.le_trans (Nat.le_trans (Nat.le_trans (Nat.le_trans (Nat.le_trans (Nat.le_trans (Nat.le_trans (Nat.le_trans (Nat.le_trans (Nat.le_trans (Nat.le_trans (Nat.le_trans (Nat.le_trans (Nat.le_trans Z0 E263.1) E265.1) E267.1) (Keep.of_wr W270).1) (Keep.of_wr W273).1) (Keep.of_wr W276).1) (Keep.of_wr W280).1) (Keep.of_wr W283).1) (Keep.of_wr W286).1) (Keep.of_wr W290).1) (Keep.of_wr W293).1) (Keep.of_wr W296).1) (Keep.of_wr W300).1) (Keep.of_wr W303).1) (Keep.of_wr W306).1) E309.1) E311.1) (Nat.le_of_eq g313.symm)
    have sz_b313 : h0.size ≤ b313 := Nat.le_trans K312.1 (Nat.le_of_eq g313.symm)
    have V313 : Arv Z h313 b313 k313 .long (1 : Int32) (([(0 : Int64)] : List Int64).map Value.long) (Value.long (0 : Int64)) := own_newJ A313 (by decide) 1
    have K314 : Keep h0 h313 [] := K312.ext E313
    refine own_step st313 ?_
    show own_Goes p e below _ (T313.setTop (mkF m 196 #[.val (.int p1), .val (.long p2), .second, .val (.long p3), .second, .val (.long p4), .second, .val (.long p5), .second, .val (.int (4 : Int32)), .val (.ref b263), .val (.ref b265), .val (.ref b267), .val (.long (((((0 : Int64) + (own_span p2)) + (own_span p3)) + (own_span p4)) + (own_span p5))), .second, .unset] [(.ref b313), (.ref b311), (.ref b267), (.ref b265), (.ref b263), (.ref b309), (.ref b309)]))
    obtain ⟨_, _, ⟨T315, L315, k315, n315⟩, -, X315, ⟨Lc315, hQ315, l315, y315, z315⟩, st315⟩ := X313.specialBack hx (y := (⟨"com/example/concepta/concepta/store/OidSet$Rows", "<init>", "([J[I[I[J[J)V"⟩ : MethodName)) rfl hown (mvT hZ w6) (mvT hZ w7) (mvT hZ w8) (by decide) (backOf (W := 1) (own_b2 l Z a0 hw [] b309 b263 b265 b267 b311 b313 (.null) (.null) (.null) (.null) (.null) h313 n0 (Nat.le_trans (Nat.le_trans (Nat.le_trans (Nat.le_trans (Nat.le_trans (Nat.le_trans (Nat.le_trans (Nat.le_trans (Nat.le_trans (Nat.le_trans (Nat.le_trans (Nat.le_trans (Nat.le_trans (Nat.le_trans (Nat.le_trans (Nat.le_trans (Nat.le_trans (Nat.le_trans Z0 E263.1) E265.1) E267.1) (Keep.of_wr W270).1) (Keep.of_wr W273).1) (Keep.of_wr W276).1) (Keep.of_wr W280).1) (Keep.of_wr W283).1) (Keep.of_wr W286).1) (Keep.of_wr W290).1) (Keep.of_wr W293).1) (Keep.of_wr W296).1) (Keep.of_wr W300).1) (Keep.of_wr W303).1) (Keep.of_wr W306).1) E309.1) E311.1) E313.1) ((A309.ext E311).ext E313) g_b309 ((F_regions_b309.ext E311).ext E313) ((F_firsts_b309.ext E311).ext E313) ((F_lasts_b309.ext E311).ext E313) ((F_blocks_b309.ext E311).ext E313) ((F_bits_b309.ext E311).ext E313)) hZ w8 w5 (by decide) (by decide)) (g := (mkF m 196 #[.val (.int p1), .val (.long p2), .second, .val (.long p3), .second, .val (.long p4), .second, .val (.long p5), .second, .val (.int (4 : Int32)), .val (.ref b263), .val (.ref b265), .val (.ref b267), .val (.long (((((0 : Int64) + (own_span p2)) + (own_span p3)) + (own_span p4)) + (own_span p5))), .second, .unset] [(.ref b313), (.ref b311), (.ref b267), (.ref b265), (.ref b263), (.ref b309), (.ref b309)])) rfl (by rw [hml]; rfl) (Steps.refl _) (a := b309) (argsL := [(.ref b263), (.ref b265), (.ref b267), (.ref b311), (.ref b313)]) (rest := [(.ref b309)]) (lenOf own_pd2 rfl) rfl (by show 2 * 0 + _ ≤ _; exact Nat.le_of_eq rfl) (hb hby at_196) (fun _ _ => ⟨rfl, e313, (by decide : 6 + 0 ≤ _), (by decide : 19 + 0 ≤ _)⟩)
    dsimp only [Pt.U, Pt.locs, Pt.cells, Pt.slots] at X315 l315 y315 z315 st315 hQ315
    subst y315 z315
    obtain ⟨rfl, N315q, K315c, f315_0, f315_1, f315_2, f315_3⟩ := hQ315
    have N315 : Fr n0 L315 := by rw [l315]; exact Fr.app N308 N315q
    refine own_jump st315 ?_
    have K316 : Keep h0 T315.heap [] := K314.trans K315c (allS (Or.inr sz_b309) all0)
    show own_Goes p e below _ (T315.setTop (mkF m 199 #[.val (.int p1), .val (.long p2), .second, .val (.long p3), .second, .val (.long p4), .second, .val (.long p5), .second, .val (.int (4 : Int32)), .val (.ref b263), .val (.ref b265), .val (.ref b267), .val (.long (((((0 : Int64) + (own_span p2)) + (own_span p3)) + (own_span p4)) + (own_span p5))), .second, .unset] [(.ref b309)]))
    refine own_step (fun t k => XS.astore X315.here hx rfl (hb hby at_199) rfl rfl (l' := #[.val (.int p1), .val (.long p2), .second, .val (.long p3), .second, .val (.long p4), .second, .val (.long p5), .second, .val (.int (4 : Int32)), .val (.ref b263), .val (.ref b265), .val (.ref b267), .val (.long (((((0 : Int64) + (own_span p2)) + (own_span p3)) + (own_span p4)) + (own_span p5))), .second, .val (.ref b309)]) rfl k) ?_
    show own_Goes p e below _ (T315.setTop (mkF m 201 #[.val (.int p1), .val (.long p2), .second, .val (.long p3), .second, .val (.long p4), .second, .val (.long p5), .second, .val (.int (4 : Int32)), .val (.ref b263), .val (.ref b265), .val (.ref b267), .val (.long (((((0 : Int64) + (own_span p2)) + (own_span p3)) + (own_span p4)) + (own_span p5))), .second, .val (.ref b309)] []))
    refine own_step (fun t k => XS.aload X315.here hx rfl (hb hby at_201) rfl rfl k) ?_
    show own_Goes p e below _ (T315.setTop (mkF m 203 #[.val (.int p1), .val (.long p2), .second, .val (.long p3), .second, .val (.long p4), .second, .val (.long p5), .second, .val (.int (4 : Int32)), .val (.ref b263), .val (.ref b265), .val (.ref b267), .val (.long (((((0 : Int64) + (own_span p2)) + (own_span p3)) + (own_span p4)) + (own_span p5))), .second, .val (.ref b309)] [(.ref b309)]))
    obtain ⟨cq317, kq317, q317a, q317b, q317c⟩ := isOf hZ rfl f315_0
    obtain ⟨_, _, ⟨T317, L317, k317, n317⟩, -, X317, ⟨Lc317, hQ317, l317, y317, z317⟩, st317⟩ := X315.virtualBack hx (y := (⟨"com/example/concepta/concepta/store/OidSet$Rows", "blockCount", "()I"⟩ : MethodName)) (z := (⟨"com/example/concepta/concepta/store/OidSet$Rows", "blockCount", "()I"⟩ : MethodName)) hown (mvT hZ w27) (mvT hZ w28) (notFace_of_selects (args := #[]) (mvT hZ w30)) (mvT hZ w30) (mvT hZ w29) (by decide) (backOf (W := 0) (own_c4 l Z a0 hw [] b309 (b263) (b265) (b267) (k263) (k265) (k267) (([p2, p3, p4, p5] : List Int64)) (([(own_first p2), (own_first p3), (own_first p4), (own_first p5)] : List Int32)) (([(own_last p2), (own_last p3), (own_last p4), (own_last p5)] : List Int32)) T315.heap n0 (Nat.le_trans (Nat.le_trans (Nat.le_trans (Nat.le_trans (Nat.le_trans (Nat.le_trans (Nat.le_trans (Nat.le_trans (Nat.le_trans (Nat.le_trans (Nat.le_trans (Nat.le_trans (Nat.le_trans (Nat.le_trans (Nat.le_trans (Nat.le_trans (Nat.le_trans (Nat.le_trans (Nat.le_trans Z0 E263.1) E265.1) E267.1) (Keep.of_wr W270).1) (Keep.of_wr W273).1) (Keep.of_wr W276).1) (Keep.of_wr W280).1) (Keep.of_wr W283).1) (Keep.of_wr W286).1) (Keep.of_wr W290).1) (Keep.of_wr W293).1) (Keep.of_wr W296).1) (Keep.of_wr W300).1) (Keep.of_wr W303).1) (Keep.of_wr W306).1) E309.1) E311.1) E313.1) K315c.1) f315_1 f315_2 f315_3 ((((((V300.other W303 ne_b263_b265).other W306 ne_b263_b267).ext E309).ext E311).ext E313).keep K315c (ninS ne_b263_b309 nin0)) (((((V303.other W306 ne_b265_b267).ext E309).ext E311).ext E313).keep K315c (ninS ne_b265_b309 nin0)) ((((V306.ext E309).ext E311).ext E313).keep K315c (ninS ne_b267_b309 nin0))) hZ w31 w5 (by decide) (by decide)) q317a q317c (g := (mkF m 203 #[.val (.int p1), .val (.long p2), .second, .val (.long p3), .second, .val (.long p4), .second, .val (.long p5), .second, .val (.int (4 : Int32)), .val (.ref b263), .val (.ref b265), .val (.ref b267), .val (.long (((((0 : Int64) + (own_span p2)) + (own_span p3)) + (own_span p4)) + (own_span p5))), .second, .val (.ref b309)] [(.ref b309)])) rfl (by rw [hml]; rfl) (Steps.refl _) (argsL := []) (rest := []) (lenOf own_pd3 rfl) rfl (by show 2 * 0 + _ ≤ _; exact Nat.le_of_eq rfl) (hb hby at_203) (fun _ _ => ⟨rfl, rfl, (by decide : 6 + 0 ≤ _), (by decide : 19 + 0 ≤ _)⟩)
    dsimp only [Pt.U, Pt.locs, Pt.cells, Pt.slots] at X317 l317 y317 z317 st317 hQ317
    subst y317 z317
    obtain ⟨rfl, N317q, eh317⟩ := hQ317
    have N317 : Fr n0 L317 := by rw [l317]; exact Fr.app N315 N317q
    refine own_jump st317 ?_
    show own_Goes p e below _ (T317.setTop (mkF m 206 #[.val (.int p1), .val (.long p2), .second, .val (.long p3), .second, .val (.long p4), .second, .val (.long p5), .second, .val (.int (4 : Int32)), .val (.ref b263), .val (.ref b265), .val (.ref b267), .val (.long (((((0 : Int64) + (own_span p2)) + (own_span p3)) + (own_span p4)) + (own_span p5))), .second, .val (.ref b309)] [(.int (((((0 : Int32) + (((([(own_last p2), (own_last p3), (own_last p4), (own_last p5)] : List Int32).getD (0 : Int32).toNatClampNeg 0) - (([(own_first p2), (own_first p3), (own_first p4), (own_first p5)] : List Int32).getD (0 : Int32).toNatClampNeg 0)) + (1 : Int32))) + (((([(own_last p2), (own_last p3), (own_last p4), (own_last p5)] : List Int32).getD (1 : Int32).toNatClampNeg 0) - (([(own_first p2), (own_first p3), (own_first p4), (own_first p5)] : List Int32).getD (1 : Int32).toNatClampNeg 0)) + (1 : Int32))) + (((([(own_last p2), (own_last p3), (own_last p4), (own_last p5)] : List Int32).getD (2 : Int32).toNatClampNeg 0) - (([(own_first p2), (own_first p3), (own_first p4), (own_first p5)] : List Int32).getD (2 : Int32).toNatClampNeg 0)) + (1 : Int32))) + (((([(own_last p2), (own_last p3), (own_last p4), (own_last p5)] : List Int32).getD (3 : Int32).toNatClampNeg 0) - (([(own_first p2), (own_first p3), (own_first p4), (own_first p5)] : List Int32).getD (3 : Int32).toNatClampNeg 0)) + (1 : Int32))))]))
    refine own_step (fun t k => XS.lload X317.here hx rfl (hb hby at_206) rfl k) ?_
    show own_Goes p e below _ (T317.setTop (mkF m 208 #[.val (.int p1), .val (.long p2), .second, .val (.long p3), .second, .val (.long p4), .second, .val (.long p5), .second, .val (.int (4 : Int32)), .val (.ref b263), .val (.ref b265), .val (.ref b267), .val (.long (((((0 : Int64) + (own_span p2)) + (own_span p3)) + (own_span p4)) + (own_span p5))), .second, .val (.ref b309)] [(.long (((((0 : Int64) + (own_span p2)) + (own_span p3)) + (own_span p4)) + (own_span p5))), (.int (((((0 : Int32) + (((([(own_last p2), (own_last p3), (own_last p4), (own_last p5)] : List Int32).getD (0 : Int32).toNatClampNeg 0) - (([(own_first p2), (own_first p3), (own_first p4), (own_first p5)] : List Int32).getD (0 : Int32).toNatClampNeg 0)) + (1 : Int32))) + (((([(own_last p2), (own_last p3), (own_last p4), (own_last p5)] : List Int32).getD (1 : Int32).toNatClampNeg 0) - (([(own_first p2), (own_first p3), (own_first p4), (own_first p5)] : List Int32).getD (1 : Int32).toNatClampNeg 0)) + (1 : Int32))) + (((([(own_last p2), (own_last p3), (own_last p4), (own_last p5)] : List Int32).getD (2 : Int32).toNatClampNeg 0) - (([(own_first p2), (own_first p3), (own_first p4), (own_first p5)] : List Int32).getD (2 : Int32).toNatClampNeg 0)) + (1 : Int32))) + (((([(own_last p2), (own_last p3), (own_last p4), (own_last p5)] : List Int32).getD (3 : Int32).toNatClampNeg 0) - (([(own_first p2), (own_first p3), (own_first p4), (own_first p5)] : List Int32).getD (3 : Int32).toNatClampNeg 0)) + (1 : Int32))))]))
    refine own_step (fun t k => XS.l2i X317.here hx rfl (hb hby at_208) rfl k) ?_
    show own_Goes p e below _ (T317.setTop (mkF m 209 #[.val (.int p1), .val (.long p2), .second, .val (.long p3), .second, .val (.long p4), .second, .val (.long p5), .second, .val (.int (4 : Int32)), .val (.ref b263), .val (.ref b265), .val (.ref b267), .val (.long (((((0 : Int64) + (own_span p2)) + (own_span p3)) + (own_span p4)) + (own_span p5))), .second, .val (.ref b309)] [(.int ((((((0 : Int64) + (own_span p2)) + (own_span p3)) + (own_span p4)) + (own_span p5)).toInt32)), (.int (((((0 : Int32) + (((([(own_last p2), (own_last p3), (own_last p4), (own_last p5)] : List Int32).getD (0 : Int32).toNatClampNeg 0) - (([(own_first p2), (own_first p3), (own_first p4), (own_first p5)] : List Int32).getD (0 : Int32).toNatClampNeg 0)) + (1 : Int32))) + (((([(own_last p2), (own_last p3), (own_last p4), (own_last p5)] : List Int32).getD (1 : Int32).toNatClampNeg 0) - (([(own_first p2), (own_first p3), (own_first p4), (own_first p5)] : List Int32).getD (1 : Int32).toNatClampNeg 0)) + (1 : Int32))) + (((([(own_last p2), (own_last p3), (own_last p4), (own_last p5)] : List Int32).getD (2 : Int32).toNatClampNeg 0) - (([(own_first p2), (own_first p3), (own_first p4), (own_first p5)] : List Int32).getD (2 : Int32).toNatClampNeg 0)) + (1 : Int32))) + (((([(own_last p2), (own_last p3), (own_last p4), (own_last p5)] : List Int32).getD (3 : Int32).toNatClampNeg 0) - (([(own_first p2), (own_first p3), (own_first p4), (own_first p5)] : List Int32).getD (3 : Int32).toNatClampNeg 0)) + (1 : Int32))))]))
    refine own_step (S' := T317.setTop (mkF m 217 #[.val (.int p1), .val (.long p2), .second, .val (.long p3), .second, .val (.long p4), .second, .val (.long p5), .second, .val (.int (4 : Int32)), .val (.ref b263), .val (.ref b265), .val (.ref b267), .val (.long (((((0 : Int64) + (own_span p2)) + (own_span p3)) + (own_span p4)) + (own_span p5))), .second, .val (.ref b309)] [(.int (if (((((0 : Int32) + (((([(own_last p2), (own_last p3), (own_last p4), (own_last p5)] : List Int32).getD (0 : Int32).toNatClampNeg 0) - (([(own_first p2), (own_first p3), (own_first p4), (own_first p5)] : List Int32).getD (0 : Int32).toNatClampNeg 0)) + (1 : Int32))) + (((([(own_last p2), (own_last p3), (own_last p4), (own_last p5)] : List Int32).getD (1 : Int32).toNatClampNeg 0) - (([(own_first p2), (own_first p3), (own_first p4), (own_first p5)] : List Int32).getD (1 : Int32).toNatClampNeg 0)) + (1 : Int32))) + (((([(own_last p2), (own_last p3), (own_last p4), (own_last p5)] : List Int32).getD (2 : Int32).toNatClampNeg 0) - (([(own_first p2), (own_first p3), (own_first p4), (own_first p5)] : List Int32).getD (2 : Int32).toNatClampNeg 0)) + (1 : Int32))) + (((([(own_last p2), (own_last p3), (own_last p4), (own_last p5)] : List Int32).getD (3 : Int32).toNatClampNeg 0) - (([(own_first p2), (own_first p3), (own_first p4), (own_first p5)] : List Int32).getD (3 : Int32).toNatClampNeg 0)) + (1 : Int32))) = ((((((0 : Int64) + (own_span p2)) + (own_span p3)) + (own_span p4)) + (own_span p5)).toInt32) then (1 : Int32) else (0 : Int32)))])) (fun t k => ?_) ?_
    · show Steps p.tables e below (T317.setTop (mkF m 209 #[.val (.int p1), .val (.long p2), .second, .val (.long p3), .second, .val (.long p4), .second, .val (.long p5), .second, .val (.int (4 : Int32)), .val (.ref b263), .val (.ref b265), .val (.ref b267), .val (.long (((((0 : Int64) + (own_span p2)) + (own_span p3)) + (own_span p4)) + (own_span p5))), .second, .val (.ref b309)] [(.int ((((((0 : Int64) + (own_span p2)) + (own_span p3)) + (own_span p4)) + (own_span p5)).toInt32)), (.int (((((0 : Int32) + (((([(own_last p2), (own_last p3), (own_last p4), (own_last p5)] : List Int32).getD (0 : Int32).toNatClampNeg 0) - (([(own_first p2), (own_first p3), (own_first p4), (own_first p5)] : List Int32).getD (0 : Int32).toNatClampNeg 0)) + (1 : Int32))) + (((([(own_last p2), (own_last p3), (own_last p4), (own_last p5)] : List Int32).getD (1 : Int32).toNatClampNeg 0) - (([(own_first p2), (own_first p3), (own_first p4), (own_first p5)] : List Int32).getD (1 : Int32).toNatClampNeg 0)) + (1 : Int32))) + (((([(own_last p2), (own_last p3), (own_last p4), (own_last p5)] : List Int32).getD (2 : Int32).toNatClampNeg 0) - (([(own_first p2), (own_first p3), (own_first p4), (own_first p5)] : List Int32).getD (2 : Int32).toNatClampNeg 0)) + (1 : Int32))) + (((([(own_last p2), (own_last p3), (own_last p4), (own_last p5)] : List Int32).getD (3 : Int32).toNatClampNeg 0) - (([(own_first p2), (own_first p3), (own_first p4), (own_first p5)] : List Int32).getD (3 : Int32).toNatClampNeg 0)) + (1 : Int32))))])) _
      by_cases hc318 : (((((0 : Int32) + (((([(own_last p2), (own_last p3), (own_last p4), (own_last p5)] : List Int32).getD (0 : Int32).toNatClampNeg 0) - (([(own_first p2), (own_first p3), (own_first p4), (own_first p5)] : List Int32).getD (0 : Int32).toNatClampNeg 0)) + (1 : Int32))) + (((([(own_last p2), (own_last p3), (own_last p4), (own_last p5)] : List Int32).getD (1 : Int32).toNatClampNeg 0) - (([(own_first p2), (own_first p3), (own_first p4), (own_first p5)] : List Int32).getD (1 : Int32).toNatClampNeg 0)) + (1 : Int32))) + (((([(own_last p2), (own_last p3), (own_last p4), (own_last p5)] : List Int32).getD (2 : Int32).toNatClampNeg 0) - (([(own_first p2), (own_first p3), (own_first p4), (own_first p5)] : List Int32).getD (2 : Int32).toNatClampNeg 0)) + (1 : Int32))) + (((([(own_last p2), (own_last p3), (own_last p4), (own_last p5)] : List Int32).getD (3 : Int32).toNatClampNeg 0) - (([(own_first p2), (own_first p3), (own_first p4), (own_first p5)] : List Int32).getD (3 : Int32).toNatClampNeg 0)) + (1 : Int32))) = ((((((0 : Int64) + (own_span p2)) + (own_span p3)) + (own_span p4)) + (own_span p5)).toInt32)
      · --
        refine XS.icmpNo X317.here hx rfl (hb hby at_209) rfl (teq hc318).2 ?_
        show Steps p.tables e below (T317.setTop (mkF m 212 #[.val (.int p1), .val (.long p2), .second, .val (.long p3), .second, .val (.long p4), .second, .val (.long p5), .second, .val (.int (4 : Int32)), .val (.ref b263), .val (.ref b265), .val (.ref b267), .val (.long (((((0 : Int64) + (own_span p2)) + (own_span p3)) + (own_span p4)) + (own_span p5))), .second, .val (.ref b309)] [])) _
        refine XS.iconst X317.here hx rfl (hb hby at_212) ?_
        show Steps p.tables e below (T317.setTop (mkF m 213 #[.val (.int p1), .val (.long p2), .second, .val (.long p3), .second, .val (.long p4), .second, .val (.long p5), .second, .val (.int (4 : Int32)), .val (.ref b263), .val (.ref b265), .val (.ref b267), .val (.long (((((0 : Int64) + (own_span p2)) + (own_span p3)) + (own_span p4)) + (own_span p5))), .second, .val (.ref b309)] [(.int (1 : Int32))])) _
        refine XS.goto X317.here hx rfl (pc0 := 213) (pc' := 217) rfl (hb hby at_213) (by decide) (by decide) ?_
        show Steps p.tables e below (T317.setTop (mkF m 217 #[.val (.int p1), .val (.long p2), .second, .val (.long p3), .second, .val (.long p4), .second, .val (.long p5), .second, .val (.int (4 : Int32)), .val (.ref b263), .val (.ref b265), .val (.ref b267), .val (.long (((((0 : Int64) + (own_span p2)) + (own_span p3)) + (own_span p4)) + (own_span p5))), .second, .val (.ref b309)] [(.int (1 : Int32))])) _
        simp only [if_pos hc318] at k
        exact k
      · --
        refine XS.icmpYes X317.here hx rfl (pc0 := 209) (pc' := 216) rfl (hb hby at_209) rfl (feq hc318).2 (by decide) (by decide) ?_
        show Steps p.tables e below (T317.setTop (mkF m 216 #[.val (.int p1), .val (.long p2), .second, .val (.long p3), .second, .val (.long p4), .second, .val (.long p5), .second, .val (.int (4 : Int32)), .val (.ref b263), .val (.ref b265), .val (.ref b267), .val (.long (((((0 : Int64) + (own_span p2)) + (own_span p3)) + (own_span p4)) + (own_span p5))), .second, .val (.ref b309)] [])) _
        refine XS.iconst X317.here hx rfl (hb hby at_216) ?_
        show Steps p.tables e below (T317.setTop (mkF m 217 #[.val (.int p1), .val (.long p2), .second, .val (.long p3), .second, .val (.long p4), .second, .val (.long p5), .second, .val (.int (4 : Int32)), .val (.ref b263), .val (.ref b265), .val (.ref b267), .val (.long (((((0 : Int64) + (own_span p2)) + (own_span p3)) + (own_span p4)) + (own_span p5))), .second, .val (.ref b309)] [(.int (0 : Int32))])) _
        simp only [if_neg hc318] at k
        exact k
    show own_Goes p e below _ (T317.setTop (mkF m 217 #[.val (.int p1), .val (.long p2), .second, .val (.long p3), .second, .val (.long p4), .second, .val (.long p5), .second, .val (.int (4 : Int32)), .val (.ref b263), .val (.ref b265), .val (.ref b267), .val (.long (((((0 : Int64) + (own_span p2)) + (own_span p3)) + (own_span p4)) + (own_span p5))), .second, .val (.ref b309)] [(.int (if (((((0 : Int32) + (((([(own_last p2), (own_last p3), (own_last p4), (own_last p5)] : List Int32).getD (0 : Int32).toNatClampNeg 0) - (([(own_first p2), (own_first p3), (own_first p4), (own_first p5)] : List Int32).getD (0 : Int32).toNatClampNeg 0)) + (1 : Int32))) + (((([(own_last p2), (own_last p3), (own_last p4), (own_last p5)] : List Int32).getD (1 : Int32).toNatClampNeg 0) - (([(own_first p2), (own_first p3), (own_first p4), (own_first p5)] : List Int32).getD (1 : Int32).toNatClampNeg 0)) + (1 : Int32))) + (((([(own_last p2), (own_last p3), (own_last p4), (own_last p5)] : List Int32).getD (2 : Int32).toNatClampNeg 0) - (([(own_first p2), (own_first p3), (own_first p4), (own_first p5)] : List Int32).getD (2 : Int32).toNatClampNeg 0)) + (1 : Int32))) + (((([(own_last p2), (own_last p3), (own_last p4), (own_last p5)] : List Int32).getD (3 : Int32).toNatClampNeg 0) - (([(own_first p2), (own_first p3), (own_first p4), (own_first p5)] : List Int32).getD (3 : Int32).toNatClampNeg 0)) + (1 : Int32))) = ((((((0 : Int64) + (own_span p2)) + (own_span p3)) + (own_span p4)) + (own_span p5)).toInt32) then (1 : Int32) else (0 : Int32)))]))
    refine own_retL X317 hx hlk Bd.returns (hb hby at_217) (?_ : (if (((((0 : Int32) + (((([(own_last p2), (own_last p3), (own_last p4), (own_last p5)] : List Int32).getD (0 : Int32).toNatClampNeg 0) - (([(own_first p2), (own_first p3), (own_first p4), (own_first p5)] : List Int32).getD (0 : Int32).toNatClampNeg 0)) + (1 : Int32))) + (((([(own_last p2), (own_last p3), (own_last p4), (own_last p5)] : List Int32).getD (1 : Int32).toNatClampNeg 0) - (([(own_first p2), (own_first p3), (own_first p4), (own_first p5)] : List Int32).getD (1 : Int32).toNatClampNeg 0)) + (1 : Int32))) + (((([(own_last p2), (own_last p3), (own_last p4), (own_last p5)] : List Int32).getD (2 : Int32).toNatClampNeg 0) - (([(own_first p2), (own_first p3), (own_first p4), (own_first p5)] : List Int32).getD (2 : Int32).toNatClampNeg 0)) + (1 : Int32))) + (((([(own_last p2), (own_last p3), (own_last p4), (own_last p5)] : List Int32).getD (3 : Int32).toNatClampNeg 0) - (([(own_first p2), (own_first p3), (own_first p4), (own_first p5)] : List Int32).getD (3 : Int32).toNatClampNeg 0)) + (1 : Int32))) = ((((((0 : Int64) + (own_span p2)) + (own_span p3)) + (own_span p4)) + (own_span p5)).toInt32) then (1 : Int32) else (0 : Int32)) = 1) N317 (by decide) (by decide)
    exact own_plain4 p2 p3 p4 p5
set_option maxRecDepth 65536 in
set_option maxHeartbeats 40000000 in
theorem comes_1 {Post : Tables → Env → Array Value → State → Outcome → State → Prop} (hpost : ∀ tb e args s v u, (limb_1_1.after args s (.returned v) u = true ∧ limb_1_2.after args s (.returned v) u = true ∧ True) → FrameEnd s (.returned v) u (Jvm.fieldLocs frame_1_writes args s ++ Jvm.arrayLocs frame_1_arrays args s ++ Jvm.staticLocs frame_1_statics s) 24 128 → Post tb e args s (.returned v) u) :
    ArmFor flags0 classFile x code maxLocals ret World_1 tables_1 room_1 Calls_1 rest_1 Pre_1 Post := by
  intro l hfl _ _ p e ha hc hk s m args below hf hA hF happ hP
  obtain ⟨hcalls, hrest, hpre⟩ := hP
  obtain ⟨-, -, -, hnamed, -, -, -, hat⟩ := (Spec.applies_iff hf).mp happ
  obtain ⟨hg, hn⟩ := and_e (Cond.before_iff.mp (show (Jvm.Cond.and given_1 narrow_1).before args s = true from hpre))
  obtain ⟨gg1, gg2⟩ := and_e hg
  obtain ⟨gg3, gg4⟩ := and_e gg2
  obtain ⟨gg5, gg6⟩ := and_e gg4
  obtain ⟨gg7, gg8⟩ := and_e gg6
  obtain ⟨gg9, gg10⟩ := and_e gg8
  obtain ⟨w0, w1, w2, w3, w4, rfl⟩ : ∃ w0 w1 w2 w3 w4 : Value, args = #[w0, w1, w2, w3, w4] := by
    have hs : args.size = 5 := by simpa [Cond.value, given_1] using gg1
    obtain ⟨L⟩ := args
    match L, hs with
    | [w0, w1, w2, w3, w4], _ => exact ⟨w0, w1, w2, w3, w4, rfl⟩
  have hw := fun d (hd : d ∈ tables_1) => atoms_spec (ws := Jvm.Cond.code x code maxLocals ret :: tables_1) hat d (List.mem_cons_of_mem _ hd)
  have hfit : Fit s := fun {y c} hc i hi => by
    obtain ⟨ha, rfl⟩ := Array.getElem?_eq_some_iff.mp hc
    have q := List.all_eq_true.mp ((Array.all_eq_true_iff_forall_mem.mp hF) _ (Array.getElem_mem ha)) i (List.mem_range.mpr hi)
    simpa [Array.getElem?_eq_getElem hi] using q
  obtain ⟨i0, ei0⟩ := is_v gg3
  obtain rfl : w0 = (.int i0) := Option.some.inj ei0
  obtain ⟨i1, ei1⟩ := isL_v gg5
  obtain rfl : w1 = (.long i1) := Option.some.inj ei1
  obtain ⟨i2, ei2⟩ := isL_v gg7
  obtain rfl : w2 = (.long i2) := Option.some.inj ei2
  obtain ⟨i3, ei3⟩ := isL_v gg9
  obtain rfl : w3 = (.long i3) := Option.some.inj ei3
  obtain ⟨i4, ei4⟩ := isL_v gg10
  obtain rfl : w4 = (.long i4) := Option.some.inj ei4
  obtain ⟨n, o, h1, h2, h3, _, L, rfl, ⟨rfl, N⟩, hq⟩ := own_law l s _ hw tables_1 i0 i1 i2 i3 i4  s.heap s.heap.size (Nat.le_refl _)  p e ha hc hk s m _ below hf ((Spec.applies_iff_loose hf).mp happ).1 ⟨rfl, State.Warmed39.refl s, rfl⟩ trivial
  refine ⟨n, _, h1, h2, h3, hpost _ _ _ _ _ _ ⟨Cond.after_iff.mpr rfl, Cond.after_iff.mpr (eq_i res_at (Term.int_eval (1)) rfl), trivial⟩ ⟨hq.1, hq.2.1, (hq.2.2.sift fun y hy => Or.inr (N y hy)).mono (by decide) (by decide)⟩⟩
theorem main_1_1 : Claimed_1_1 := comes_1 fun _ _ _ _ _ _ h hF => ⟨h.1, hF⟩
theorem main_1_2 : Claimed_1_2 := comes_1 fun _ _ _ _ _ _ h hF => ⟨h.2.1, hF⟩
end Jvm.Pilot.@@N@@
namespace Jvm.Pilot.@@N@@
open Jvm Jvm.ClassFile Sem Op Lib Jvm.Free Jvm.Stand Jvm.Pilot.@@N@@.Jvm.D
/-! MADE BY PROGRAM (witnessworld.py) out of the Statement's table words and the real class files: 12 classes; the members and pool entries that the words name. The judged class is class 1, her method 1. -/
namespace start1
open Jvm.ClassFile
def u (s : String) : CpInfo := .utf8 (stringToUtf16 s)
/-- a pool by its gaps: so many unusable entries, then the entry; so many at the end -/
def gap : Nat → List CpInfo → List CpInfo
  | 0, r => r
  | n + 1, r => .unusable :: gap n r
def poolList (es : List (Nat × CpInfo)) (last : Nat) : List CpInfo := es.foldr (fun e r => gap e.1 (e.2 :: r)) (gap last [])
def pool (es : List (Nat × CpInfo)) (last : Nat) : Array CpInfo := ⟨poolList es last⟩
def fileOf (pool : Array CpInfo) (this : Nat) (attrs : Array Attribute := #[]) (ms : Array MethodInfo := #[]) (fl : Nat := 33) (sup : Nat := 0) (ifs : Array Nat := #[]) (fds : Array FieldInfo := #[]) : ClassFile where
  minorVersion := 0
  majorVersion := 65
  constantPool := pool
  accessFlags := fl
  thisClass := this
  superClass := sup
  interfaces := ifs
  fields := fds
  methods := ms
  attributes := attrs
def plain (name : String) (sup : Option ClassId) : Class where
  name := name
  kind := .ordinary
  loader := none
  accessFlags := 33
  super := sup
  interfaces := #[]
  cf := none
  fields := #[]
  methods := #[]
  instanceTypes := #[]
  staticTypes := #[]
  resolved := #[]
  callSites := []
  init := .initialized
  statics := none
  mirror := none

def pool0 : Array CpInfo := pool [(5, u "<init>"), (0, u "()V"), (1, .class_ 10), (1, u "java/lang/Object")] 113

def k0c0 : Code := { maxStack := 0, maxLocals := 1, code := object_method_1_code, exceptionTable := #[], attributes := #[] }
def k0m0 : Method := { name := "<init>", desc := "()V", sig := { parameters := [], returnType := none }, accessFlags := 1, code := some k0c0 }
/-- java/lang/Object -/
def k0 : Class := { plain "java/lang/Object" none with
  accessFlags := 33
  interfaces := #[]
  cf := some (fileOf pool0 8 #[] #[{ accessFlags := 1, nameIndex := 5, descriptorIndex := 6, attributes := #[] }] 33 0 #[] #[])
  fields := #[]
  methods := #[k0m0]
  instanceTypes := #[]
  staticTypes := #[]
  resolved := Array.replicate 124 none
  statics := none }

def pool1 : Array CpInfo := pool [(2, .class_ 4), (1, u "java/lang/Object"), (0, u "<init>"), (0, u "()V"), (0, .integer 2147483647), (0, .methodref 9 10), (0, .class_ 11), (0, .nameAndType 12 13), (0, u "com/example/concepta/concepta/store/RowsBlockCountPinLaw"), (0, u "first"), (0, u "(J)I"), (0, .methodref 9 15), (0, .nameAndType 16 13), (0, u "last"), (0, .methodref 9 18), (0, .nameAndType 19 20), (0, u "span"), (0, u "(J)J"), (0, .class_ 22), (0, u "com/example/concepta/concepta/store/OidSet$Rows"), (0, .methodref 21 24), (0, .nameAndType 5 25), (0, u "([J[I[I[J[J)V"), (0, .methodref 21 27), (0, .nameAndType 28 29), (0, u "blockCount"), (0, u "()I"), (2, u "law"), (0, u "(IJJJJ)Z")] 11

def k1m0 : Method := { name := "<init>", desc := "()V", sig := { parameters := [], returnType := none }, accessFlags := 2, code := none }
def k1c1 : Code := { maxStack := 7, maxLocals := 16, code := code, exceptionTable := #[], attributes := #[] }
def k1m1 : Method := { name := "law", desc := "(IJJJJ)Z", sig := { parameters := [.int, .long, .long, .long, .long], returnType := some .boolean }, accessFlags := 9, code := some k1c1 }
def k1c2 : Code := { maxStack := 3, maxLocals := 2, code := method_3_code, exceptionTable := #[], attributes := #[] }
def k1m2 : Method := { name := "first", desc := "(J)I", sig := { parameters := [.long], returnType := some .int }, accessFlags := 10, code := some k1c2 }
def k1c3 : Code := { maxStack := 2, maxLocals := 2, code := method_4_code, exceptionTable := #[], attributes := #[] }
def k1m3 : Method := { name := "last", desc := "(J)I", sig := { parameters := [.long], returnType := some .int }, accessFlags := 10, code := some k1c3 }
def k1c4 : Code := { maxStack := 4, maxLocals := 2, code := method_5_code, exceptionTable := #[], attributes := #[] }
def k1m4 : Method := { name := "span", desc := "(J)J", sig := { parameters := [.long], returnType := some .long }, accessFlags := 10, code := some k1c4 }
/-- com/example/concepta/concepta/store/RowsBlockCountPinLaw -/
def k1 : Class := { plain "com/example/concepta/concepta/store/RowsBlockCountPinLaw" (some 0) with
  accessFlags := 49
  interfaces := #[]
  cf := some (fileOf pool1 9 #[] #[{ accessFlags := 2, nameIndex := 5, descriptorIndex := 6, attributes := #[] }, { accessFlags := 9, nameIndex := 32, descriptorIndex := 33, attributes := #[] }, { accessFlags := 10, nameIndex := 12, descriptorIndex := 13, attributes := #[] }, { accessFlags := 10, nameIndex := 16, descriptorIndex := 13, attributes := #[] }, { accessFlags := 10, nameIndex := 19, descriptorIndex := 20, attributes := #[] }] 49 2 #[] #[])
  fields := #[]
  methods := #[k1m0, k1m1, k1m2, k1m3, k1m4]
  instanceTypes := #[]
  staticTypes := #[]
  resolved := Array.replicate 45 none
  statics := none }

def pool2 : Array CpInfo := pool [(1, .methodref 2 3), (0, .class_ 4), (0, .nameAndType 5 6), (0, u "java/lang/Object"), (0, u "<init>"), (0, u "()V"), (0, .class_ 8), (0, u "java/lang/Record")] 13

def k2c0 : Code := { maxStack := 1, maxLocals := 1, code := jdk_30_method_1_code, exceptionTable := #[], attributes := #[] }
def k2m0 : Method := { name := "<init>", desc := "()V", sig := { parameters := [], returnType := none }, accessFlags := 4, code := some k2c0 }
/-- java/lang/Record -/
def k2 : Class := { plain "java/lang/Record" (some 0) with
  accessFlags := 1057
  interfaces := #[]
  cf := some (fileOf pool2 7 #[] #[{ accessFlags := 4, nameIndex := 5, descriptorIndex := 6, attributes := #[] }] 1057 2 #[] #[])
  fields := #[]
  methods := #[k2m0]
  instanceTypes := #[]
  staticTypes := #[]
  resolved := Array.replicate 22 none
  statics := none }

def pool3 : Array CpInfo := pool [(1, .methodref 2 3), (0, .class_ 4), (0, .nameAndType 5 6), (0, u "java/lang/Record"), (0, u "<init>"), (0, u "()V"), (0, .fieldref 8 9), (0, .class_ 10), (0, .nameAndType 11 12), (0, u "com/example/concepta/concepta/store/OidSet$Rows"), (0, u "regions"), (0, u "[J"), (0, .fieldref 8 14), (0, .nameAndType 15 16), (0, u "firsts"), (0, u "[I"), (0, .fieldref 8 18), (0, .nameAndType 19 16), (0, u "lasts"), (0, .fieldref 8 21), (0, .nameAndType 22 12), (0, u "blocks"), (0, .fieldref 8 24), (0, .nameAndType 25 12), (0, u "bits"), (11, u "([J[I[I[J[J)V"), (21, u "blockCount"), (0, u "()I"), (18, .class_ 80), (0, u "com/example/concepta/concepta/store/OidSet")] 23

def k3c0 : Code := { maxStack := 2, maxLocals := 6, code := prog_129_method_1_code, exceptionTable := #[], attributes := #[] }
def k3m0 : Method := { name := "<init>", desc := "([J[I[I[J[J)V", sig := { parameters := [(.array .long), (.array .int), (.array .int), (.array .long), (.array .long)], returnType := none }, accessFlags := 0, code := some k3c0 }
def k3c1 : Code := { maxStack := 4, maxLocals := 3, code := prog_129_method_2_code, exceptionTable := #[], attributes := #[] }
def k3m1 : Method := { name := "blockCount", desc := "()I", sig := { parameters := [], returnType := some .int }, accessFlags := 0, code := some k3c1 }
/-- com/example/concepta/concepta/store/OidSet$Rows -/
def k3 : Class := { plain "com/example/concepta/concepta/store/OidSet$Rows" (some 2) with
  accessFlags := 48
  interfaces := #[]
  cf := some (fileOf pool3 8 #[.nestHost 79] #[{ accessFlags := 0, nameIndex := 5, descriptorIndex := 37, attributes := #[] }, { accessFlags := 0, nameIndex := 59, descriptorIndex := 60, attributes := #[] }] 48 2 #[] #[{ accessFlags := 18, nameIndex := 11, descriptorIndex := 12, attributes := #[] }, { accessFlags := 18, nameIndex := 15, descriptorIndex := 16, attributes := #[] }, { accessFlags := 18, nameIndex := 19, descriptorIndex := 16, attributes := #[] }, { accessFlags := 18, nameIndex := 22, descriptorIndex := 12, attributes := #[] }, { accessFlags := 18, nameIndex := 25, descriptorIndex := 12, attributes := #[] }])
  fields := #[{ name := "regions", type := (.array .long), accessFlags := 18, slot := 0, constantValue := 0 }, { name := "firsts", type := (.array .int), accessFlags := 18, slot := 1, constantValue := 0 }, { name := "lasts", type := (.array .int), accessFlags := 18, slot := 2, constantValue := 0 }, { name := "blocks", type := (.array .long), accessFlags := 18, slot := 3, constantValue := 0 }, { name := "bits", type := (.array .long), accessFlags := 18, slot := 4, constantValue := 0 }]
  methods := #[k3m0, k3m1]
  instanceTypes := #[(.array .long), (.array .int), (.array .int), (.array .long), (.array .long)]
  staticTypes := #[]
  resolved := Array.replicate 104 none
  statics := none }

def pool4 : Array CpInfo := pool [(1, u "java/lang/Cloneable"), (0, .class_ 1), (0, u "java/lang/Object"), (0, .class_ 3)] 3

/-- java/lang/Cloneable -/
def k4 : Class := { plain "java/lang/Cloneable" (some 0) with
  accessFlags := 1537
  interfaces := #[]
  cf := some (fileOf pool4 2 #[] #[] 1537 4 #[] #[])
  fields := #[]
  methods := #[]
  instanceTypes := #[]
  staticTypes := #[]
  resolved := Array.replicate 8 none
  statics := none }

def pool5 : Array CpInfo := pool [(1, u "java/io/Serializable"), (0, .class_ 1), (0, u "java/lang/Object"), (0, .class_ 3)] 3

/-- java/io/Serializable -/
def k5 : Class := { plain "java/io/Serializable" (some 0) with
  accessFlags := 1537
  interfaces := #[]
  cf := some (fileOf pool5 2 #[] #[] 1537 4 #[] #[])
  fields := #[]
  methods := #[]
  instanceTypes := #[]
  staticTypes := #[]
  resolved := Array.replicate 8 none
  statics := none }

/-- the primitive byte -/
def k6 : Class := { plain "byte" none with kind := .primitive 'B', accessFlags := 0x411 }
/-- [B -/
def k7 : Class := { plain "[B" (some 0) with kind := .array 6 .byte, interfaces := #[4, 5], accessFlags := 1041 }

/-- the primitive int -/
def k8 : Class := { plain "int" none with kind := .primitive 'I', accessFlags := 0x411 }
/-- [I -/
def k9 : Class := { plain "[I" (some 0) with kind := .array 8 .int, interfaces := #[4, 5], accessFlags := 1041 }

/-- the primitive long -/
def k10 : Class := { plain "long" none with kind := .primitive 'J', accessFlags := 0x411 }
/-- [J -/
def k11 : Class := { plain "[J" (some 0) with kind := .array 10 .long, interfaces := #[4, 5], accessFlags := 1041 }

def heap : Heap := #[]
def classes : Array Class := #[k0, k1, k2, k3, k4, k5, k6, k7, k8, k9, k10, k11]
def interned : List (Array UInt16 × Addr) := []
def slotsUsed : Nat := 0
def theMethod : MethodId := ⟨1, 1⟩
def args0 : Array Value := #[.int 2, .long 1, .long 2, .long 3, .long 4]
def aboutOver (below : List Frame) : State where
  vm := { classes := classes, interned := interned.toArray }
  heap := heap
  slotsUsed := slotsUsed
  threads := #[{ frames := .invoking theMethod args0 :: below }]
def below0 : List Frame := [.native { method := ⟨0, 0⟩, args := #[] }]
def about1 : State := aboutOver below0
def p0 : Program := .bare "" "" ""
def e0 : Env := launch0.env 0 0 0
theorem w_frames : about1.frames = Frame.invoking theMethod args0 :: below0 := rfl
set_option maxRecDepth 65536 in
theorem w_args : argsFit about1.vm theMethod args0 = true := by decide +kernel
set_option maxRecDepth 65536 in
theorem w_heap : heapFits about1 = true := by decide +kernel
set_option maxRecDepth 65536 in
theorem w_runnable : about1.curStatus? = some .runnable := by decide +kernel
set_option maxRecDepth 65536 in
theorem w_alone : about1.alone = true := by decide +kernel
set_option maxRecDepth 65536 in
theorem w_named : about1.methodNamed? x = some theMethod := by decide +kernel
set_option maxRecDepth 65536 in
theorem w_hears : about1.hears theMethod below0 = true := by decide +kernel
set_option maxRecDepth 65536 in
theorem w_ripe : about1.ripe theMethod args0 below0 = true := by decide +kernel
theorem w_running : about1.status = .running := rfl
set_option maxRecDepth 65536 in
theorem w_room : about1.hasRoom e0.platform room_1 = true :=
  launch0.hasRoom_least _ room_1 (by decide +kernel) (by decide +kernel) (by decide +kernel) (by decide +kernel) (by decide +kernel) (by decide +kernel)
theorem allAtoms_all (ts : List Jvm.Cond) (a : Array Jvm.Value) (st : Jvm.State) : (allAtoms ts).before a st = ts.all (fun c => c.before a st) := by
  induction ts with
  | nil => rfl
  | cons c t ih =>
    show (Jvm.Cond.and c (allAtoms t)).before a st = _
    rw [Jvm.Cond.before_and, ih, List.all_cons]
def words1 : List Jvm.Cond := Jvm.Cond.code x code maxLocals ret :: tables_1
/-- a 'code' word, met by the world's own term for the bytes: nothing is compared byte by byte -/
theorem code_word {y : MethodName} {bytes : ByteArray} {mx : Nat} {rt : Option FieldType} {a : Array Value} {s : State} {m : MethodId} {meth : Method} {c : Code} (h1 : s.methodNamed? y = some m) (h2 : s.vm.method? m = some meth) (h3 : meth.code = some c) (h4 : c.code = bytes)
    (h5 : (c.maxLocals == mx && c.exceptionTable.isEmpty && decide (c.maxStack ≤ mostOperands) && decide (meth.sig.returnType = rt) && !meth.locks && decide (parseMethodDescriptor y.desc = some meth.sig)) = true) : (Jvm.Cond.code y bytes mx rt).before a s = true := by
  simp only [Bool.and_eq_true, beq_iff_eq, Bool.not_eq_true', decide_eq_true_eq] at h5
  obtain ⟨⟨⟨⟨⟨g1, g2⟩, g3⟩, g4⟩, g5⟩, g6⟩ := h5
  simp [Cond.before, Cond.holds, Cond.value, h1, h2, h3, h4, g1, g2, g3, g4, g5, g6]
def isCode : Jvm.Cond → Bool
  | .code _ _ _ _ => true
  | _ => false
theorem all_split {L : List Jvm.Cond} {P : Jvm.Cond → Bool} (h1 : L.all (fun c => isCode c || P c) = true) (h2 : ∀ c ∈ L.filter isCode, P c = true) : L.all P = true := by
  refine List.all_eq_true.mpr fun c hc => ?_
  have h := List.all_eq_true.mp h1 c hc
  rcases Bool.eq_false_or_eq_true (isCode c) with hi | hi
  · exact h2 c (List.mem_filter.mpr ⟨hc, hi⟩)
  · simpa [hi] using h
set_option maxRecDepth 65536 in
theorem w_c0 : (Jvm.Cond.code x code maxLocals ret).before args0 about1 = true := code_word (m := ⟨1, 1⟩) (meth := k1m1) (c := k1c1) (by decide +kernel) rfl rfl rfl (by decide +kernel)
set_option maxRecDepth 65536 in
theorem w_c1 : (Jvm.Cond.code ({ cls := "com/example/concepta/concepta/store/OidSet$Rows", name := "<init>", desc := "([J[I[I[J[J)V" } : Jvm.MethodName) prog_129_method_1_code (6 : Nat) (Option.none : Option Jvm.ClassFile.FieldType)).before args0 about1 = true := code_word (m := ⟨3, 0⟩) (meth := k3m0) (c := k3c0) (by decide +kernel) rfl rfl rfl (by decide +kernel)
set_option maxRecDepth 65536 in
theorem w_c2 : (Jvm.Cond.code ({ cls := "java/lang/Record", name := "<init>", desc := "()V" } : Jvm.MethodName) jdk_30_method_1_code (1 : Nat) (Option.none : Option Jvm.ClassFile.FieldType)).before args0 about1 = true := code_word (m := ⟨2, 0⟩) (meth := k2m0) (c := k2c0) (by decide +kernel) rfl rfl rfl (by decide +kernel)
set_option maxRecDepth 65536 in
theorem w_c3 : (Jvm.Cond.code ({ cls := "java/lang/Object", name := "<init>", desc := "()V" } : Jvm.MethodName) object_method_1_code (1 : Nat) (Option.none : Option Jvm.ClassFile.FieldType)).before args0 about1 = true := code_word (m := ⟨0, 0⟩) (meth := k0m0) (c := k0c0) (by decide +kernel) rfl rfl rfl (by decide +kernel)
set_option maxRecDepth 65536 in
theorem w_c4 : (Jvm.Cond.code ({ cls := "com/example/concepta/concepta/store/OidSet$Rows", name := "blockCount", desc := "()I" } : Jvm.MethodName) prog_129_method_2_code (3 : Nat) (Option.some Jvm.ClassFile.FieldType.int)).before args0 about1 = true := code_word (m := ⟨3, 1⟩) (meth := k3m1) (c := k3c1) (by decide +kernel) rfl rfl rfl (by decide +kernel)
set_option maxRecDepth 65536 in
theorem w_c5 : (Jvm.Cond.code ({ cls := "com/example/concepta/concepta/store/RowsBlockCountPinLaw", name := "first", desc := "(J)I" } : Jvm.MethodName) method_3_code (2 : Nat) (Option.some Jvm.ClassFile.FieldType.int)).before args0 about1 = true := code_word (m := ⟨1, 2⟩) (meth := k1m2) (c := k1c2) (by decide +kernel) rfl rfl rfl (by decide +kernel)
set_option maxRecDepth 65536 in
theorem w_c6 : (Jvm.Cond.code ({ cls := "com/example/concepta/concepta/store/RowsBlockCountPinLaw", name := "last", desc := "(J)I" } : Jvm.MethodName) method_4_code (2 : Nat) (Option.some Jvm.ClassFile.FieldType.int)).before args0 about1 = true := code_word (m := ⟨1, 3⟩) (meth := k1m3) (c := k1c3) (by decide +kernel) rfl rfl rfl (by decide +kernel)
set_option maxRecDepth 65536 in
theorem w_c7 : (Jvm.Cond.code ({ cls := "com/example/concepta/concepta/store/RowsBlockCountPinLaw", name := "span", desc := "(J)J" } : Jvm.MethodName) method_5_code (2 : Nat) (Option.some Jvm.ClassFile.FieldType.long)).before args0 about1 = true := code_word (m := ⟨1, 4⟩) (meth := k1m4) (c := k1c4) (by decide +kernel) rfl rfl rfl (by decide +kernel)
def codes1 : List Jvm.Cond := [Jvm.Cond.code x code maxLocals ret, Jvm.Cond.code ({ cls := "com/example/concepta/concepta/store/OidSet$Rows", name := "<init>", desc := "([J[I[I[J[J)V" } : Jvm.MethodName) prog_129_method_1_code (6 : Nat) (Option.none : Option Jvm.ClassFile.FieldType), Jvm.Cond.code ({ cls := "java/lang/Record", name := "<init>", desc := "()V" } : Jvm.MethodName) jdk_30_method_1_code (1 : Nat) (Option.none : Option Jvm.ClassFile.FieldType), Jvm.Cond.code ({ cls := "java/lang/Object", name := "<init>", desc := "()V" } : Jvm.MethodName) object_method_1_code (1 : Nat) (Option.none : Option Jvm.ClassFile.FieldType), Jvm.Cond.code ({ cls := "com/example/concepta/concepta/store/OidSet$Rows", name := "blockCount", desc := "()I" } : Jvm.MethodName) prog_129_method_2_code (3 : Nat) (Option.some Jvm.ClassFile.FieldType.int), Jvm.Cond.code ({ cls := "com/example/concepta/concepta/store/RowsBlockCountPinLaw", name := "first", desc := "(J)I" } : Jvm.MethodName) method_3_code (2 : Nat) (Option.some Jvm.ClassFile.FieldType.int), Jvm.Cond.code ({ cls := "com/example/concepta/concepta/store/RowsBlockCountPinLaw", name := "last", desc := "(J)I" } : Jvm.MethodName) method_4_code (2 : Nat) (Option.some Jvm.ClassFile.FieldType.int), Jvm.Cond.code ({ cls := "com/example/concepta/concepta/store/RowsBlockCountPinLaw", name := "span", desc := "(J)J" } : Jvm.MethodName) method_5_code (2 : Nat) (Option.some Jvm.ClassFile.FieldType.long)]
set_option maxRecDepth 65536 in
theorem codes_eq : words1.filter isCode = codes1 := rfl
theorem w_codes : ∀ c ∈ words1.filter isCode, c.before args0 about1 = true := by
  rw [codes_eq]
  intro c hc
  simp only [codes1, List.mem_cons, List.not_mem_nil, or_false] at hc
  rcases hc with rfl | rfl | rfl | rfl | rfl | rfl | rfl | rfl
  · exact w_c0
  · exact w_c1
  · exact w_c2
  · exact w_c3
  · exact w_c4
  · exact w_c5
  · exact w_c6
  · exact w_c7
set_option maxRecDepth 65536 in
theorem w_t1 : (words1.take 24).all (fun c => isCode c || c.before args0 about1) = true := by decide +kernel
set_option maxRecDepth 65536 in
theorem w_t2 : (words1.drop 24).all (fun c => isCode c || c.before args0 about1) = true := by decide +kernel
theorem w_tables : (allAtoms (Jvm.Cond.code x code maxLocals ret :: tables_1)).before args0 about1 = true := by
  rw [allAtoms_all]
  show words1.all (fun c => c.before args0 about1) = true
  refine all_split ?_ w_codes
  rw [← List.take_append_drop 24 words1, List.all_append, w_t1, w_t2]
  rfl
set_option maxRecDepth 65536 in
theorem w_case : (Jvm.Cond.and given_1 narrow_1).before args0 about1 = true := by decide +kernel
theorem w_applies : (headSpec (Jvm.Cond.code x code maxLocals ret :: tables_1) room_1).applies x e0.platform about1 = true :=
  (Spec.applies_iff w_frames).mpr ⟨w_running, w_runnable, w_alone, w_named, w_hears, w_ripe, w_room, w_tables⟩
theorem atStart : AtStart classFile x code maxLocals ret World_1 tables_1 room_1 Calls_1 rest_1 Pre_1 launch0 p0 e0 about1 theMethod args0 below0 :=
  ⟨lists_1, trivial, launch0.admits_env _ _ _, launch0.least_env, fairChoices_fair.cas, fairChoices_fair.clock, w_frames, w_args, w_heap, w_applies, trivial, trivial, w_case⟩
end start1
theorem witness_1 : WitnessClaimed_1 := ⟨start1.p0, start1.e0, start1.about1, start1.theMethod, start1.args0, start1.below0, start1.atStart⟩
end Jvm.Pilot.@@N@@
