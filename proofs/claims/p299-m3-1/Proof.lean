import JvmDerived
import JvmDerived.Pilot.@@N@@Statement
import JvmDerived.Pilot.@@N@@Code
set_option linter.unusedVariables false
set_option linter.unusedSimpArgs false
namespace Jvm.Pilot.@@N@@
open Jvm Jvm.ClassFile Sem Op Lib Jvm.Free Jvm.Stand Jvm.LawKit Jvm.RoadKit Bundle Jvm.Pilot.@@N@@.Jvm.D
section Own
variable {p : Program} {l : Launch} {e : Env} {R : Room} {s : State} {m : MethodId} {args : Array Value} {below : List Frame} {meth : Method} {c : Code} {T : State} {locs : List Loc} {cells slots : Nat} {Z : State} {h h' : Heap} {a b : Addr} {G : State → Outcome → Prop} {Q : Option Value → Heap → List Loc → Prop} {C K : Nat}
/-- the run comes to an end of which G holds -/
def own_Goes (p : Program) (e : Env) (below : List Frame) (G : State → Outcome → Prop) (S : State) : Prop := ∃ s₂ o, Steps p.tables e below S s₂ ∧ s₂.status = .running ∧ Ended s₂ below o ∧ G s₂ o
theorem own_step {S S' : State} (k : ∀ t, Steps p.tables e below S' t → Steps p.tables e below S t) (h : own_Goes p e below G S') : own_Goes p e below G S := by
  obtain ⟨s₂, o, h1, h2⟩ := h
  exact ⟨s₂, o, k _ h1, h2⟩
theorem own_jump {S S' : State} (k : Steps p.tables e below S S') (h : own_Goes p e below G S') : own_Goes p e below G S := own_step (fun _ q => k.trans q) h
def own_Fin (s : State) (Q : Option Value → Heap → List Loc → Prop) (C K : Nat) : State → Outcome → Prop := fun U o => ∃ v L, o = .returned v ∧ Q v U.heap L ∧ FrameEnd s o U L C K
theorem own_ret0 (X : Stand p l e R s m args below meth c T locs cells slots) (hx : p.tables.exec = Jvm.exec) (hlk : meth.locks = false) (hret : meth.sig.returnType = none) {pc : Nat} {Ls : Array Slot} (hd : decode c.code pc = .ok (.return_, 1)) (hq : Q none T.heap locs) (hc : cells ≤ C) (hk : slots ≤ K) :
    own_Goes p e below (own_Fin s Q C K) (T.setTop (mkF m pc Ls [])) := by
  obtain ⟨fs, hr, hrun, hended, hW, hsame⟩ := X.leave (v := none) (fun _ => rfl)
  exact ⟨_, _, X.returnOut hx hret hd hr, hrun, hended, _, _, rfl, hq, ⟨_, rfl⟩, hW, hsame.mono hc hk⟩
theorem own_retV (X : Stand p l e R s m args below meth c T locs cells slots) (hx : p.tables.exec = Jvm.exec) (hlk : meth.locks = false) {t : FieldType} (hret : meth.sig.returnType = some t) {w : Value} (hn : narrow t w = w) {i : Instr}
    (hi : (i = .ireturn ∧ (t = .int ∨ t = .boolean ∨ t = .byte ∨ t = .char ∨ t = .short) ∧ ∃ z, w = .int z) ∨ (i = .lreturn ∧ t = .long ∧ ∃ z, w = .long z) ∨ (i = .dreturn ∧ t = .double ∧ ∃ z, w = .double z) ∨ (i = .freturn ∧ t = .float ∧ ∃ z, w = .float z) ∨ (i = .areturn ∧ t.isReference = true ∧ w.isRef = true))
    {pc : Nat} {Ls : Array Slot} {rest : List Value} (hd : decode c.code pc = .ok (i, 1)) (hq : Q (some w) T.heap locs) (hc : cells ≤ C) (hk : slots ≤ K) :
    own_Goes p e below (own_Fin s Q C K) (T.setTop (mkF m pc Ls (w :: rest))) := by
  obtain ⟨fs, hr, hrun, hended, hW, hsame⟩ := X.leave (v := some w) (fun h => by rw [hret] at h; cases h)
  exact ⟨_, _, retOut X hx hret hn hi hd hr, hrun, hended, _, _, rfl, hq, ⟨_, rfl⟩, hW, hsame.mono hc hk⟩
theorem own_nb {z : Int32} (h : z = 0 ∨ z = 1) : narrow .boolean (.int z) = .int z := by
  rcases h with rfl | rfl <;> rfl
theorem own_01 {q : Prop} [Decidable q] {x y : Int32} (hx : x = 0 ∨ x = 1) (hy : y = 0 ∨ y = 1) : (if q then x else y) = 0 ∨ (if q then x else y) = 1 := by
  split
  · exact hx
  · exact hy
/-- the law's own promise -/
def own_Q0 (n0 : Nat) (v : Option Value) (h : Heap) (L : List Loc) : Prop := v = some (.int 1) ∧ Fr n0 L
theorem own_retL {n0 : Nat} (X : Stand p l e R s m args below meth c T locs cells slots) (hx : p.tables.exec = Jvm.exec) (hlk : meth.locks = false) (hret : meth.sig.returnType = some .boolean) {pc : Nat} {Ls : Array Slot} {z : Int32} {rest : List Value} (hd : decode c.code pc = .ok (.ireturn, 1)) (hz : z = 1) (N : Fr n0 locs) (hc : cells ≤ C) (hk : slots ≤ K) :
    own_Goes p e below (own_Fin s (own_Q0 n0) C K) (T.setTop (mkF m pc Ls (.int z :: rest))) := by
  subst hz
  exact own_retV X hx hlk hret (own_nb (Or.inr rfl)) (Or.inl ⟨rfl, Or.inr (Or.inl rfl), _, rfl⟩) hd ⟨rfl, N⟩ hc hk
/-! arrays of ints and of longs, by their lists -/
theorem own_getI (xs : List Int32) (n : Nat) : (xs.map Value.int).getD n (Value.int 0) = Value.int (xs.getD n 0) := by
  simp only [List.getD_eq_getElem?_getD, List.getElem?_map]
  cases xs[n]? <;> rfl
theorem own_getJ (xs : List Int64) (n : Nat) : (xs.map Value.long).getD n (Value.long 0) = Value.long (xs.getD n 0) := by
  simp only [List.getD_eq_getElem?_getD, List.getElem?_map]
  cases xs[n]? <;> rfl
theorem own_newI {k : ClassId} {z : Int32} (A : Arr Z h a (newA k .int z) .int) (q : ¬ z < 0) (n : Nat) : Arv Z h a k .int z ((List.replicate n (0 : Int32)).map Value.int) (Value.int 0) :=
  (Arv.new A q).pad fun i => by rw [List.map_replicate]; exact pad_rep [] (Value.int 0) n i
theorem own_newJ {k : ClassId} {z : Int32} (A : Arr Z h a (newA k .long z) .long) (q : ¬ z < 0) (n : Nat) : Arv Z h a k .long z ((List.replicate n (0 : Int64)).map Value.long) (Value.long 0) :=
  (Arv.new A q).pad fun i => by rw [List.map_replicate]; exact pad_rep [] (Value.long 0) n i
theorem own_ial (X : Stand p l e R s m args below meth c T locs cells slots) (hx : p.tables.exec = Jvm.exec) (hZ : Z.Warmed39 s.vm) (eT : T.heap = h) {k : ClassId} {z j : Int32} {xs : List Int32} (F : Arv Z h a k .int z (xs.map Value.int) (Value.int 0)) (hj : ¬ j < 0 ∧ j < z)
    {g : JFrame} (hg : g.method = m) {rest : List Value} (hs : g.stack = .int j :: .ref a :: rest) (hd : decode c.code g.pc = .ok (.iaload, 1)) (t : State) (kk : Steps p.tables e below (T.setTop { g with pc := g.pc + 1, stack := .int (xs.getD j.toNatClampNeg 0) :: rest }) t) : Steps p.tables e below (T.setTop g) t := by
  obtain ⟨cl, Ar, -, S, -, H, -⟩ := F
  have hin := inb_of S hj
  exact X.iaload hx (j := j) (by rw [eT]; exact Ar.1) (State.isArrayOf_alike hZ.alike Ar.2.1) Ar.2.2 hin (H.at hin (own_getI _ _)) hg hs hd t kk
theorem own_lal (X : Stand p l e R s m args below meth c T locs cells slots) (hx : p.tables.exec = Jvm.exec) (hZ : Z.Warmed39 s.vm) (eT : T.heap = h) {k : ClassId} {z j : Int32} {xs : List Int64} (F : Arv Z h a k .long z (xs.map Value.long) (Value.long 0)) (hj : ¬ j < 0 ∧ j < z)
    {g : JFrame} (hg : g.method = m) {rest : List Value} (hs : g.stack = .int j :: .ref a :: rest) (hd : decode c.code g.pc = .ok (.laload, 1)) (t : State) (kk : Steps p.tables e below (T.setTop { g with pc := g.pc + 1, stack := .long (xs.getD j.toNatClampNeg 0) :: rest }) t) : Steps p.tables e below (T.setTop g) t := by
  obtain ⟨cl, Ar, -, S, -, H, -⟩ := F
  have hin := inb_of S hj
  exact X.laload hx (j := j) (by rw [eT]; exact Ar.1) (State.isArrayOf_alike hZ.alike Ar.2.1) Ar.2.2 hin (H.at hin (own_getJ _ _)) hg hs hd t kk
theorem own_len (X : Stand p l e R s m args below meth c T locs cells slots) (hx : p.tables.exec = Jvm.exec) (hZ : Z.Warmed39 s.vm) (eT : T.heap = h) {k : ClassId} {ty : FieldType} {z : Int32} {vs : List Value} {dv : Value} (F : Arv Z h a k ty z vs dv)
    {g : JFrame} (hg : g.method = m) {rest : List Value} (hs : g.stack = .ref a :: rest) (hd : decode c.code g.pc = .ok (.arraylength, 1)) (t : State) (kk : Steps p.tables e below (T.setTop { g with pc := g.pc + 1, stack := .int z :: rest }) t) : Steps p.tables e below (T.setTop g) t := by
  obtain ⟨cl, Ar, -, S, N, -, -⟩ := F
  refine X.arraylength hx (by rw [eT]; exact Ar.1) (State.isArrayOf_alike hZ.alike Ar.2.1) hg hs hd t ?_
  rw [len_of S N]
  exact kk
theorem own_ist (X : Stand p l e R s m args below meth c T locs cells slots) (hx : p.tables.exec = Jvm.exec) (hZ : Z.Warmed39 s.vm) (eT : T.heap = h) {k : ClassId} {z j y : Int32} {xs : List Int32} (F : Arv Z h a k .int z (xs.map Value.int) (Value.int 0)) (hj : ¬ j < 0 ∧ j < z) (n : Nat) (hn : j.toNatClampNeg = n) (hl : n < xs.length)
    {g : JFrame} (hg : g.method = m) {rest : List Value} (hs : g.stack = .int y :: .int j :: .ref a :: rest) (hd : decode c.code g.pc = .ok (.iastore, 1)) :
    ∃ T' h', Stand p l e R s m args below meth c T' (locs ++ [⟨a, j.toNatClampNeg⟩]) cells slots ∧ T'.heap = h' ∧ Wr h h' a j.toNatClampNeg (.int y) ∧ Arv Z h' a k .int z ((xs.set n y).map Value.int) (Value.int 0) ∧ ∀ t, Steps p.tables e below (T'.setTop { g with pc := g.pc + 1, stack := rest }) t → Steps p.tables e below (T.setTop g) t := by
  obtain ⟨cl, Ar, q, S, N, H, I⟩ := F
  obtain ⟨T', h', X', e', W, st⟩ := stI X hx hZ eT Ar (inb_of S hj) hg hs hd
  refine ⟨T', h', X', e', W, ?_, st⟩
  rw [List.map_set]
  exact Arv.set Ar q S N H I rfl W n hn (by rw [List.length_map]; exact hl)
theorem own_lst (X : Stand p l e R s m args below meth c T locs cells slots) (hx : p.tables.exec = Jvm.exec) (hZ : Z.Warmed39 s.vm) (eT : T.heap = h) {k : ClassId} {z j : Int32} {y : Int64} {xs : List Int64} (F : Arv Z h a k .long z (xs.map Value.long) (Value.long 0)) (hj : ¬ j < 0 ∧ j < z) (n : Nat) (hn : j.toNatClampNeg = n) (hl : n < xs.length)
    {g : JFrame} (hg : g.method = m) {rest : List Value} (hs : g.stack = .long y :: .int j :: .ref a :: rest) (hd : decode c.code g.pc = .ok (.lastore, 1)) :
    ∃ T' h', Stand p l e R s m args below meth c T' (locs ++ [⟨a, j.toNatClampNeg⟩]) cells slots ∧ T'.heap = h' ∧ Wr h h' a j.toNatClampNeg (.long y) ∧ Arv Z h' a k .long z ((xs.set n y).map Value.long) (Value.long 0) ∧ ∀ t, Steps p.tables e below (T'.setTop { g with pc := g.pc + 1, stack := rest }) t → Steps p.tables e below (T.setTop g) t := by
  obtain ⟨cl, Ar, q, S, N, H, I⟩ := F
  obtain ⟨T', h', X', e', W, st⟩ := stJ X hx hZ eT Ar (inb_of S hj) hg hs hd
  refine ⟨T', h', X', e', W, ?_, st⟩
  rw [List.map_set]
  exact Arv.set Ar q S N H I rfl W n hn (by rw [List.length_map]; exact hl)
end Own
theorem own_ord {args : Array Value} {s : State} {C n d : String} {x : Addr} {k : Int32} (hx : (Term.static C n d).eval args s none [] s = some (.ref x)) (h : (Jvm.Cond.eq (Term.field (Term.static C n d) "java/lang/Enum" "ordinal" "I") (Term.int k)).value args s none s [] = some true) : Fld s s.heap x "java/lang/Enum" "ordinal" "I" (.int k) := by
  obtain ⟨u, w, e1, e2, k1, -⟩ := cmp_v (Or.inl h)
  have e3 : (Term.int k).eval args s none [] s = some (.int k) := Term.int_eval _
  cases e2.symm.trans e3
  have e4 := e1
  rw [fld_at hx] at e4
  refine Fld.start ?_
  rw [e4]
  cases u with
  | int z =>
    have : z = k := by simpa [Cond.value, e1, e3] using h
    rw [this]
  | _ => simp [Kin, Value.isRef] at k1
def own_gm (w : Int32) : Int32 := if w.toInt ≤ 4 then 1 else 0
theorem own_cases {x v : Int32} (h : ((x &&& (2147483647 : Int32)) % (8 : Int32)) = v) : v = (0 : Int32) ∨ v = (1 : Int32) ∨ v = (2 : Int32) ∨ v = (3 : Int32) ∨ v = (4 : Int32) ∨ v = (5 : Int32) ∨ v = (6 : Int32) ∨ v = (7 : Int32) := by
  have q := c_and x 2147483647 (by decide)
  have r := (c_irem (x &&& (2147483647 : Int32)) 8 8 rfl).1 q.1
  rw [h] at r
  have hb : v.toInt = (0 : Int32).toInt ∨ v.toInt = (1 : Int32).toInt ∨ v.toInt = (2 : Int32).toInt ∨ v.toInt = (3 : Int32).toInt ∨ v.toInt = (4 : Int32).toInt ∨ v.toInt = (5 : Int32).toInt ∨ v.toInt = (6 : Int32).toInt ∨ v.toInt = (7 : Int32).toInt := by
    show v.toInt = 0 ∨ v.toInt = 1 ∨ v.toInt = 2 ∨ v.toInt = 3 ∨ v.toInt = 4 ∨ v.toInt = 5 ∨ v.toInt = 6 ∨ v.toInt = 7
    omega
  exact hb.imp Int32.toInt_inj.mp (Or.imp Int32.toInt_inj.mp (Or.imp Int32.toInt_inj.mp (Or.imp Int32.toInt_inj.mp (Or.imp Int32.toInt_inj.mp (Or.imp Int32.toInt_inj.mp (Or.imp Int32.toInt_inj.mp (Int32.toInt_inj.mp)))))))
theorem own_pn0 : plainName "com/example/battlement/battlement/prefab/SpawnKindIsGameModePinLaw" = true := by first | (simp [plainName, overriddenIn]; done) | decide +kernel
theorem own_dmethod_3_code_0 : decode method_3_code 0 = .ok (.iload_n 0, 1) := by decide +kernel
theorem own_dmethod_3_code_1 : decode method_3_code 1 = .ok (.ifCond .ne 7, 3) := by decide +kernel
theorem own_dmethod_3_code_4 : decode method_3_code 4 = .ok (.getstatic 20, 3) := by decide +kernel
theorem own_dmethod_3_code_7 : decode method_3_code 7 = .ok (.areturn, 1) := by decide +kernel
theorem own_dmethod_3_code_8 : decode method_3_code 8 = .ok (.iload_n 0, 1) := by decide +kernel
theorem own_dmethod_3_code_9 : decode method_3_code 9 = .ok (.iconst 1, 1) := by decide +kernel
theorem own_dmethod_3_code_10 : decode method_3_code 10 = .ok (.if_icmp .ne 7, 3) := by decide +kernel
theorem own_dmethod_3_code_13 : decode method_3_code 13 = .ok (.getstatic 24, 3) := by decide +kernel
theorem own_dmethod_3_code_16 : decode method_3_code 16 = .ok (.areturn, 1) := by decide +kernel
theorem own_dmethod_3_code_17 : decode method_3_code 17 = .ok (.iload_n 0, 1) := by decide +kernel
theorem own_dmethod_3_code_18 : decode method_3_code 18 = .ok (.iconst 2, 1) := by decide +kernel
theorem own_dmethod_3_code_19 : decode method_3_code 19 = .ok (.if_icmp .ne 7, 3) := by decide +kernel
theorem own_dmethod_3_code_22 : decode method_3_code 22 = .ok (.getstatic 27, 3) := by decide +kernel
theorem own_dmethod_3_code_25 : decode method_3_code 25 = .ok (.areturn, 1) := by decide +kernel
theorem own_dmethod_3_code_26 : decode method_3_code 26 = .ok (.iload_n 0, 1) := by decide +kernel
theorem own_dmethod_3_code_27 : decode method_3_code 27 = .ok (.iconst 3, 1) := by decide +kernel
theorem own_dmethod_3_code_28 : decode method_3_code 28 = .ok (.if_icmp .ne 7, 3) := by decide +kernel
theorem own_dmethod_3_code_31 : decode method_3_code 31 = .ok (.getstatic 30, 3) := by decide +kernel
theorem own_dmethod_3_code_34 : decode method_3_code 34 = .ok (.areturn, 1) := by decide +kernel
theorem own_dmethod_3_code_35 : decode method_3_code 35 = .ok (.iload_n 0, 1) := by decide +kernel
theorem own_dmethod_3_code_36 : decode method_3_code 36 = .ok (.iconst 4, 1) := by decide +kernel
theorem own_dmethod_3_code_37 : decode method_3_code 37 = .ok (.if_icmp .ne 7, 3) := by decide +kernel
theorem own_dmethod_3_code_40 : decode method_3_code 40 = .ok (.getstatic 33, 3) := by decide +kernel
theorem own_dmethod_3_code_43 : decode method_3_code 43 = .ok (.areturn, 1) := by decide +kernel
theorem own_dmethod_3_code_44 : decode method_3_code 44 = .ok (.iload_n 0, 1) := by decide +kernel
theorem own_dmethod_3_code_45 : decode method_3_code 45 = .ok (.iconst 5, 1) := by decide +kernel
theorem own_dmethod_3_code_46 : decode method_3_code 46 = .ok (.if_icmp .ne 7, 3) := by decide +kernel
theorem own_dmethod_3_code_49 : decode method_3_code 49 = .ok (.getstatic 36, 3) := by decide +kernel
theorem own_dmethod_3_code_52 : decode method_3_code 52 = .ok (.areturn, 1) := by decide +kernel
theorem own_dmethod_3_code_53 : decode method_3_code 53 = .ok (.iload_n 0, 1) := by decide +kernel
theorem own_dmethod_3_code_54 : decode method_3_code 54 = .ok (.bipush 6, 2) := by decide +kernel
theorem own_dmethod_3_code_56 : decode method_3_code 56 = .ok (.if_icmp .ne 7, 3) := by decide +kernel
theorem own_dmethod_3_code_59 : decode method_3_code 59 = .ok (.getstatic 39, 3) := by decide +kernel
theorem own_dmethod_3_code_62 : decode method_3_code 62 = .ok (.areturn, 1) := by decide +kernel
theorem own_dmethod_3_code_63 : decode method_3_code 63 = .ok (.getstatic 42, 3) := by decide +kernel
theorem own_dmethod_3_code_66 : decode method_3_code 66 = .ok (.areturn, 1) := by decide +kernel
theorem own_b1_ef (m : MethodId) (q1 : Int32) : entryFrame m #[(.int q1)] 1 = mkF m 0 #[.val (.int q1)] [] := by first | (simp [entryFrame, mkF, argsToLocals, Value.category]; done) | rfl
def own_b1_Q (Z : State) (q1 : Int32) (w_FFA : Addr) (w_T : Addr) (w_FFADM : Addr) (w_TDM : Addr) (w_TCTO : Addr) (w_SPECTATOR : Addr) (w_HEAL : Addr) (w_ORB : Addr) (r1 : Addr) (h0 : Heap) (n0 : Nat) (v : Option Value) (h : Heap) (L : List Loc) : Prop := v = some (.ref r1) ∧ Fr n0 L ∧ h = h0
set_option maxRecDepth 65536 in
set_option maxHeartbeats 40000000 in
theorem own_b1 (l : Launch) (Z : State) (a0 : Array Value) (hw : ∀ d ∈ tables_1, d.before a0 Z = true) (ws : List Jvm.Cond) (q1 : Int32) (w_FFA : Addr) (w_T : Addr) (w_FFADM : Addr) (w_TDM : Addr) (w_TCTO : Addr) (w_SPECTATOR : Addr) (w_HEAL : Addr) (w_ORB : Addr) (r1 : Addr) (h0 : Heap) (n0 : Nat) (Z0 : n0 ≤ h0.size) (S_FFA : Sta Z Z.heap "com/example/battlement/battlement/prefab/SpawnKind" "FFA" "Lcom/example/battlement/battlement/prefab/SpawnKind;" (.ref w_FFA)) (S_T : Sta Z Z.heap "com/example/battlement/battlement/prefab/SpawnKind" "T" "Lcom/example/battlement/battlement/prefab/SpawnKind;" (.ref w_T)) (S_FFADM : Sta Z Z.heap "com/example/battlement/battlement/prefab/SpawnKind" "FFADM" "Lcom/example/battlement/battlement/prefab/SpawnKind;" (.ref w_FFADM)) (S_TDM : Sta Z Z.heap "com/example/battlement/battlement/prefab/SpawnKind" "TDM" "Lcom/example/battlement/battlement/prefab/SpawnKind;" (.ref w_TDM)) (S_TCTO : Sta Z Z.heap "com/example/battlement/battlement/prefab/SpawnKind" "TCTO" "Lcom/example/battlement/battlement/prefab/SpawnKind;" (.ref w_TCTO)) (S_SPECTATOR : Sta Z Z.heap "com/example/battlement/battlement/prefab/SpawnKind" "SPECTATOR" "Lcom/example/battlement/battlement/prefab/SpawnKind;" (.ref w_SPECTATOR)) (S_HEAL : Sta Z Z.heap "com/example/battlement/battlement/prefab/SpawnKind" "HEAL" "Lcom/example/battlement/battlement/prefab/SpawnKind;" (.ref w_HEAL)) (S_ORB : Sta Z Z.heap "com/example/battlement/battlement/prefab/SpawnKind" "ORB" "Lcom/example/battlement/battlement/prefab/SpawnKind;" (.ref w_ORB)) (O0 : Old Z n0 h0) (hr1 : (if q1 = (0 : Int32) then w_FFA else (if q1 = (1 : Int32) then w_T else (if q1 = (2 : Int32) then w_FFADM else (if q1 = (3 : Int32) then w_TDM else (if q1 = (4 : Int32) then w_TCTO else (if q1 = (5 : Int32) then w_SPECTATOR else (if q1 = (6 : Int32) then w_HEAL else w_ORB))))))) = r1) :
    MetFree l (⟨"com/example/battlement/battlement/prefab/SpawnKindIsGameModePinLaw", "pick", "(I)Lcom/example/battlement/battlement/prefab/SpawnKind;"⟩ : MethodName) (head1 (Jvm.Cond.code (⟨"com/example/battlement/battlement/prefab/SpawnKindIsGameModePinLaw", "pick", "(I)Lcom/example/battlement/battlement/prefab/SpawnKind;"⟩ : MethodName) method_3_code 1 (some (.object "com/example/battlement/battlement/prefab/SpawnKind")) :: ws) ({ frames := 0, cells := 0, slots := 0, locals := 0 } : Room)) (fun aa U => aa = #[(.int q1)] ∧ Z.Warmed39 U.vm ∧ U.heap = h0) (fun _ _ _ _ _ => True) (fun _ U o U' => ∃ v L, o = .returned v ∧ own_b1_Q Z q1 w_FFA w_T w_FFADM w_TDM w_TCTO w_SPECTATOR w_HEAL w_ORB r1 h0 n0 v U'.heap L ∧ FrameEnd U o U' L ({ frames := 0, cells := 0, slots := 0, locals := 0 } : Room).cells ({ frames := 0, cells := 0, slots := 0, locals := 0 } : Room).slots) := by
  refine MetFree.of_bodySF (plainFor_of_name own_pn0) hisR ?_
  have w5 := hw _ (List.mem_of_getElem? (i := 5) rfl)
  have w22 := hw _ (List.mem_of_getElem? (i := 22) rfl)
  have w24 := hw _ (List.mem_of_getElem? (i := 24) rfl)
  have w26 := hw _ (List.mem_of_getElem? (i := 26) rfl)
  have w28 := hw _ (List.mem_of_getElem? (i := 28) rfl)
  have w30 := hw _ (List.mem_of_getElem? (i := 30) rfl)
  have w32 := hw _ (List.mem_of_getElem? (i := 32) rfl)
  have w34 := hw _ (List.mem_of_getElem? (i := 34) rfl)
  intro p e s m args below meth c s₁ Bd hml0 hP hK
  obtain ⟨rfl, hZ, hh⟩ := hP
  have hx := Bd.exec
  have hby := Bd.bytes
  have hlk := Bd.notSynchronized
  have hml : c.maxLocals = 1 := hml0
  have hown : s.vm.findClass "com/example/battlement/battlement/prefab/SpawnKindIsGameModePinLaw" = some m.cls := findClass_of_methodNamed Bd.named
  have hnm := (name_of_methodNamed Bd.named Bd.method).1
  have X0 : Stand p l e ({ frames := 0, cells := 0, slots := 0, locals := 0 } : Room) s m #[(.int q1)] below meth c s₁ [] 0 0 := Stand.of_body Bd
  have e0 : s₁.heap = h0 := by rw [← hh, Bd.state]; rfl
  have N0 := Fr.nil n0
  have K0 : Keep h0 h0 [] := Keep.refl h0 _
  show own_Goes p e below (own_Fin s (own_b1_Q Z q1 w_FFA w_T w_FFADM w_TDM w_TCTO w_SPECTATOR w_HEAL w_ORB r1 h0 n0) ({ frames := 0, cells := 0, slots := 0, locals := 0 } : Room).cells ({ frames := 0, cells := 0, slots := 0, locals := 0 } : Room).slots) _
  refine own_step (fun t k => castTop (own_b1_ef m q1) k) ?_
  show own_Goes p e below _ (s₁.setTop (mkF m 0 #[.val (.int q1)] []))
  refine own_step (fun t k => XS.iloadN X0.here hx rfl (hb hby own_dmethod_3_code_0) rfl k) ?_
  show own_Goes p e below _ (s₁.setTop (mkF m 1 #[.val (.int q1)] [(.int q1)]))
  by_cases hc16 : q1 = (0 : Int32)
  · --
    refine own_step (fun t k => XS.ifNo X0.here hx rfl (hb hby own_dmethod_3_code_1) rfl ((if0 _ _).trans (teq hc16).2) k) ?_
    show own_Goes p e below _ (s₁.setTop (mkF m 4 #[.val (.int q1)] []))
    obtain ⟨T17, X17, e17, st17⟩ := getS2 X0 hx hZ hown (host := "") (Or.inl w5) Via.refl e0 (S_FFA.ext O0.2) (g := (mkF m 4 #[.val (.int q1)] [])) rfl (hb hby own_dmethod_3_code_4)
    refine own_step st17 ?_
    show own_Goes p e below _ (T17.setTop (mkF m 7 #[.val (.int q1)] [(.ref w_FFA)]))
    refine own_retV X17 hx hlk Bd.returns (w := (.ref w_FFA)) rfl (Or.inr (Or.inr (Or.inr (Or.inr ⟨rfl, rfl, rfl⟩)))) (hb hby own_dmethod_3_code_7) ?_ (by decide) (by decide)
    show own_b1_Q Z q1 w_FFA w_T w_FFADM w_TDM w_TCTO w_SPECTATOR w_HEAL w_ORB r1 h0 n0 _ T17.heap _
    rw [e17]
    exact ⟨(by rw [← hr1]; simp only [if_pos hc16]), N0, rfl⟩
  · --
    refine own_step (fun t k => XS.ifYes X0.here hx rfl (pc0 := 1) (pc' := 8) rfl (hb hby own_dmethod_3_code_1) rfl ((if0 _ _).trans (feq hc16).2) (by decide) (by decide) k) ?_
    show own_Goes p e below _ (s₁.setTop (mkF m 8 #[.val (.int q1)] []))
    refine own_step (fun t k => XS.iloadN X0.here hx rfl (hb hby own_dmethod_3_code_8) rfl k) ?_
    show own_Goes p e below _ (s₁.setTop (mkF m 9 #[.val (.int q1)] [(.int q1)]))
    refine own_step (fun t k => XS.iconst X0.here hx rfl (hb hby own_dmethod_3_code_9) k) ?_
    show own_Goes p e below _ (s₁.setTop (mkF m 10 #[.val (.int q1)] [(.int (1 : Int32)), (.int q1)]))
    by_cases hc18 : q1 = (1 : Int32)
    · --
      refine own_step (fun t k => XS.icmpNo X0.here hx rfl (hb hby own_dmethod_3_code_10) rfl (teq hc18).2 k) ?_
      show own_Goes p e below _ (s₁.setTop (mkF m 13 #[.val (.int q1)] []))
      obtain ⟨T19, X19, e19, st19⟩ := getS2 X0 hx hZ hown (host := "") (Or.inl w30) Via.refl e0 (S_T.ext O0.2) (g := (mkF m 13 #[.val (.int q1)] [])) rfl (hb hby own_dmethod_3_code_13)
      refine own_step st19 ?_
      show own_Goes p e below _ (T19.setTop (mkF m 16 #[.val (.int q1)] [(.ref w_T)]))
      refine own_retV X19 hx hlk Bd.returns (w := (.ref w_T)) rfl (Or.inr (Or.inr (Or.inr (Or.inr ⟨rfl, rfl, rfl⟩)))) (hb hby own_dmethod_3_code_16) ?_ (by decide) (by decide)
      show own_b1_Q Z q1 w_FFA w_T w_FFADM w_TDM w_TCTO w_SPECTATOR w_HEAL w_ORB r1 h0 n0 _ T19.heap _
      rw [e19]
      exact ⟨(by rw [← hr1]; simp only [if_neg hc16, if_pos hc18]), N0, rfl⟩
    · --
      refine own_step (fun t k => XS.icmpYes X0.here hx rfl (pc0 := 10) (pc' := 17) rfl (hb hby own_dmethod_3_code_10) rfl (feq hc18).2 (by decide) (by decide) k) ?_
      show own_Goes p e below _ (s₁.setTop (mkF m 17 #[.val (.int q1)] []))
      refine own_step (fun t k => XS.iloadN X0.here hx rfl (hb hby own_dmethod_3_code_17) rfl k) ?_
      show own_Goes p e below _ (s₁.setTop (mkF m 18 #[.val (.int q1)] [(.int q1)]))
      refine own_step (fun t k => XS.iconst X0.here hx rfl (hb hby own_dmethod_3_code_18) k) ?_
      show own_Goes p e below _ (s₁.setTop (mkF m 19 #[.val (.int q1)] [(.int (2 : Int32)), (.int q1)]))
      by_cases hc20 : q1 = (2 : Int32)
      · --
        refine own_step (fun t k => XS.icmpNo X0.here hx rfl (hb hby own_dmethod_3_code_19) rfl (teq hc20).2 k) ?_
        show own_Goes p e below _ (s₁.setTop (mkF m 22 #[.val (.int q1)] []))
        obtain ⟨T21, X21, e21, st21⟩ := getS2 X0 hx hZ hown (host := "") (Or.inl w28) Via.refl e0 (S_FFADM.ext O0.2) (g := (mkF m 22 #[.val (.int q1)] [])) rfl (hb hby own_dmethod_3_code_22)
        refine own_step st21 ?_
        show own_Goes p e below _ (T21.setTop (mkF m 25 #[.val (.int q1)] [(.ref w_FFADM)]))
        refine own_retV X21 hx hlk Bd.returns (w := (.ref w_FFADM)) rfl (Or.inr (Or.inr (Or.inr (Or.inr ⟨rfl, rfl, rfl⟩)))) (hb hby own_dmethod_3_code_25) ?_ (by decide) (by decide)
        show own_b1_Q Z q1 w_FFA w_T w_FFADM w_TDM w_TCTO w_SPECTATOR w_HEAL w_ORB r1 h0 n0 _ T21.heap _
        rw [e21]
        exact ⟨(by rw [← hr1]; simp only [if_neg hc16, if_neg hc18, if_pos hc20]), N0, rfl⟩
      · --
        refine own_step (fun t k => XS.icmpYes X0.here hx rfl (pc0 := 19) (pc' := 26) rfl (hb hby own_dmethod_3_code_19) rfl (feq hc20).2 (by decide) (by decide) k) ?_
        show own_Goes p e below _ (s₁.setTop (mkF m 26 #[.val (.int q1)] []))
        refine own_step (fun t k => XS.iloadN X0.here hx rfl (hb hby own_dmethod_3_code_26) rfl k) ?_
        show own_Goes p e below _ (s₁.setTop (mkF m 27 #[.val (.int q1)] [(.int q1)]))
        refine own_step (fun t k => XS.iconst X0.here hx rfl (hb hby own_dmethod_3_code_27) k) ?_
        show own_Goes p e below _ (s₁.setTop (mkF m 28 #[.val (.int q1)] [(.int (3 : Int32)), (.int q1)]))
        by_cases hc22 : q1 = (3 : Int32)
        · --
          refine own_step (fun t k => XS.icmpNo X0.here hx rfl (hb hby own_dmethod_3_code_28) rfl (teq hc22).2 k) ?_
          show own_Goes p e below _ (s₁.setTop (mkF m 31 #[.val (.int q1)] []))
          obtain ⟨T23, X23, e23, st23⟩ := getS2 X0 hx hZ hown (host := "") (Or.inl w22) Via.refl e0 (S_TDM.ext O0.2) (g := (mkF m 31 #[.val (.int q1)] [])) rfl (hb hby own_dmethod_3_code_31)
          refine own_step st23 ?_
          show own_Goes p e below _ (T23.setTop (mkF m 34 #[.val (.int q1)] [(.ref w_TDM)]))
          refine own_retV X23 hx hlk Bd.returns (w := (.ref w_TDM)) rfl (Or.inr (Or.inr (Or.inr (Or.inr ⟨rfl, rfl, rfl⟩)))) (hb hby own_dmethod_3_code_34) ?_ (by decide) (by decide)
          show own_b1_Q Z q1 w_FFA w_T w_FFADM w_TDM w_TCTO w_SPECTATOR w_HEAL w_ORB r1 h0 n0 _ T23.heap _
          rw [e23]
          exact ⟨(by rw [← hr1]; simp only [if_neg hc16, if_neg hc18, if_neg hc20, if_pos hc22]), N0, rfl⟩
        · --
          refine own_step (fun t k => XS.icmpYes X0.here hx rfl (pc0 := 28) (pc' := 35) rfl (hb hby own_dmethod_3_code_28) rfl (feq hc22).2 (by decide) (by decide) k) ?_
          show own_Goes p e below _ (s₁.setTop (mkF m 35 #[.val (.int q1)] []))
          refine own_step (fun t k => XS.iloadN X0.here hx rfl (hb hby own_dmethod_3_code_35) rfl k) ?_
          show own_Goes p e below _ (s₁.setTop (mkF m 36 #[.val (.int q1)] [(.int q1)]))
          refine own_step (fun t k => XS.iconst X0.here hx rfl (hb hby own_dmethod_3_code_36) k) ?_
          show own_Goes p e below _ (s₁.setTop (mkF m 37 #[.val (.int q1)] [(.int (4 : Int32)), (.int q1)]))
          by_cases hc24 : q1 = (4 : Int32)
          · --
            refine own_step (fun t k => XS.icmpNo X0.here hx rfl (hb hby own_dmethod_3_code_37) rfl (teq hc24).2 k) ?_
            show own_Goes p e below _ (s₁.setTop (mkF m 40 #[.val (.int q1)] []))
            obtain ⟨T25, X25, e25, st25⟩ := getS2 X0 hx hZ hown (host := "") (Or.inl w32) Via.refl e0 (S_TCTO.ext O0.2) (g := (mkF m 40 #[.val (.int q1)] [])) rfl (hb hby own_dmethod_3_code_40)
            refine own_step st25 ?_
            show own_Goes p e below _ (T25.setTop (mkF m 43 #[.val (.int q1)] [(.ref w_TCTO)]))
            refine own_retV X25 hx hlk Bd.returns (w := (.ref w_TCTO)) rfl (Or.inr (Or.inr (Or.inr (Or.inr ⟨rfl, rfl, rfl⟩)))) (hb hby own_dmethod_3_code_43) ?_ (by decide) (by decide)
            show own_b1_Q Z q1 w_FFA w_T w_FFADM w_TDM w_TCTO w_SPECTATOR w_HEAL w_ORB r1 h0 n0 _ T25.heap _
            rw [e25]
            exact ⟨(by rw [← hr1]; simp only [if_neg hc16, if_neg hc18, if_neg hc20, if_neg hc22, if_pos hc24]), N0, rfl⟩
          · --
            refine own_step (fun t k => XS.icmpYes X0.here hx rfl (pc0 := 37) (pc' := 44) rfl (hb hby own_dmethod_3_code_37) rfl (feq hc24).2 (by decide) (by decide) k) ?_
            show own_Goes p e below _ (s₁.setTop (mkF m 44 #[.val (.int q1)] []))
            refine own_step (fun t k => XS.iloadN X0.here hx rfl (hb hby own_dmethod_3_code_44) rfl k) ?_
            show own_Goes p e below _ (s₁.setTop (mkF m 45 #[.val (.int q1)] [(.int q1)]))
            refine own_step (fun t k => XS.iconst X0.here hx rfl (hb hby own_dmethod_3_code_45) k) ?_
            show own_Goes p e below _ (s₁.setTop (mkF m 46 #[.val (.int q1)] [(.int (5 : Int32)), (.int q1)]))
            by_cases hc26 : q1 = (5 : Int32)
            · --
              refine own_step (fun t k => XS.icmpNo X0.here hx rfl (hb hby own_dmethod_3_code_46) rfl (teq hc26).2 k) ?_
              show own_Goes p e below _ (s₁.setTop (mkF m 49 #[.val (.int q1)] []))
              obtain ⟨T27, X27, e27, st27⟩ := getS2 X0 hx hZ hown (host := "") (Or.inl w34) Via.refl e0 (S_SPECTATOR.ext O0.2) (g := (mkF m 49 #[.val (.int q1)] [])) rfl (hb hby own_dmethod_3_code_49)
              refine own_step st27 ?_
              show own_Goes p e below _ (T27.setTop (mkF m 52 #[.val (.int q1)] [(.ref w_SPECTATOR)]))
              refine own_retV X27 hx hlk Bd.returns (w := (.ref w_SPECTATOR)) rfl (Or.inr (Or.inr (Or.inr (Or.inr ⟨rfl, rfl, rfl⟩)))) (hb hby own_dmethod_3_code_52) ?_ (by decide) (by decide)
              show own_b1_Q Z q1 w_FFA w_T w_FFADM w_TDM w_TCTO w_SPECTATOR w_HEAL w_ORB r1 h0 n0 _ T27.heap _
              rw [e27]
              exact ⟨(by rw [← hr1]; simp only [if_neg hc16, if_neg hc18, if_neg hc20, if_neg hc22, if_neg hc24, if_pos hc26]), N0, rfl⟩
            · --
              refine own_step (fun t k => XS.icmpYes X0.here hx rfl (pc0 := 46) (pc' := 53) rfl (hb hby own_dmethod_3_code_46) rfl (feq hc26).2 (by decide) (by decide) k) ?_
              show own_Goes p e below _ (s₁.setTop (mkF m 53 #[.val (.int q1)] []))
              refine own_step (fun t k => XS.iloadN X0.here hx rfl (hb hby own_dmethod_3_code_53) rfl k) ?_
              show own_Goes p e below _ (s₁.setTop (mkF m 54 #[.val (.int q1)] [(.int q1)]))
              refine own_step (fun t k => XS.bipush X0.here hx rfl (hb hby own_dmethod_3_code_54) k) ?_
              show own_Goes p e below _ (s₁.setTop (mkF m 56 #[.val (.int q1)] [(.int (6 : Int32)), (.int q1)]))
              by_cases hc28 : q1 = (6 : Int32)
              · --
                refine own_step (fun t k => XS.icmpNo X0.here hx rfl (hb hby own_dmethod_3_code_56) rfl (teq hc28).2 k) ?_
                show own_Goes p e below _ (s₁.setTop (mkF m 59 #[.val (.int q1)] []))
                obtain ⟨T29, X29, e29, st29⟩ := getS2 X0 hx hZ hown (host := "") (Or.inl w24) Via.refl e0 (S_HEAL.ext O0.2) (g := (mkF m 59 #[.val (.int q1)] [])) rfl (hb hby own_dmethod_3_code_59)
                refine own_step st29 ?_
                show own_Goes p e below _ (T29.setTop (mkF m 62 #[.val (.int q1)] [(.ref w_HEAL)]))
                refine own_retV X29 hx hlk Bd.returns (w := (.ref w_HEAL)) rfl (Or.inr (Or.inr (Or.inr (Or.inr ⟨rfl, rfl, rfl⟩)))) (hb hby own_dmethod_3_code_62) ?_ (by decide) (by decide)
                show own_b1_Q Z q1 w_FFA w_T w_FFADM w_TDM w_TCTO w_SPECTATOR w_HEAL w_ORB r1 h0 n0 _ T29.heap _
                rw [e29]
                exact ⟨(by rw [← hr1]; simp only [if_neg hc16, if_neg hc18, if_neg hc20, if_neg hc22, if_neg hc24, if_neg hc26, if_pos hc28]), N0, rfl⟩
              · --
                refine own_step (fun t k => XS.icmpYes X0.here hx rfl (pc0 := 56) (pc' := 63) rfl (hb hby own_dmethod_3_code_56) rfl (feq hc28).2 (by decide) (by decide) k) ?_
                show own_Goes p e below _ (s₁.setTop (mkF m 63 #[.val (.int q1)] []))
                obtain ⟨T30, X30, e30, st30⟩ := getS2 X0 hx hZ hown (host := "") (Or.inl w26) Via.refl e0 (S_ORB.ext O0.2) (g := (mkF m 63 #[.val (.int q1)] [])) rfl (hb hby own_dmethod_3_code_63)
                refine own_step st30 ?_
                show own_Goes p e below _ (T30.setTop (mkF m 66 #[.val (.int q1)] [(.ref w_ORB)]))
                refine own_retV X30 hx hlk Bd.returns (w := (.ref w_ORB)) rfl (Or.inr (Or.inr (Or.inr (Or.inr ⟨rfl, rfl, rfl⟩)))) (hb hby own_dmethod_3_code_66) ?_ (by decide) (by decide)
                show own_b1_Q Z q1 w_FFA w_T w_FFADM w_TDM w_TCTO w_SPECTATOR w_HEAL w_ORB r1 h0 n0 _ T30.heap _
                rw [e30]
                exact ⟨(by rw [← hr1]; simp only [if_neg hc16, if_neg hc18, if_neg hc20, if_neg hc22, if_neg hc24, if_neg hc26, if_neg hc28]), N0, rfl⟩
theorem own_pn1 : plainName "java/lang/Enum" = true := by first | (simp [plainName, overriddenIn]; done) | decide +kernel
theorem own_djdk_37_method_2_code_0 : decode jdk_37_method_2_code 0 = .ok (.aload_n 0, 1) := by decide +kernel
theorem own_djdk_37_method_2_code_1 : decode jdk_37_method_2_code 1 = .ok (.getfield 7, 3) := by decide +kernel
theorem own_djdk_37_method_2_code_4 : decode jdk_37_method_2_code 4 = .ok (.ireturn, 1) := by decide +kernel
theorem own_b2_ef (m : MethodId) (a1 : Addr) : entryFrame m #[(.ref a1)] 1 = mkF m 0 #[.val (.ref a1)] [] := by first | (simp [entryFrame, mkF, argsToLocals, Value.category]; done) | rfl
def own_b2_Q (Z : State) (a1 : Addr) (w3 : Int32) (h0 : Heap) (n0 : Nat) (v : Option Value) (h : Heap) (L : List Loc) : Prop := v = some (.int w3) ∧ Fr n0 L ∧ h = h0
set_option maxRecDepth 65536 in
set_option maxHeartbeats 40000000 in
theorem own_b2 (l : Launch) (Z : State) (a0 : Array Value) (hw : ∀ d ∈ tables_1, d.before a0 Z = true) (ws : List Jvm.Cond) (a1 : Addr) (w3 : Int32) (h0 : Heap) (n0 : Nat) (Z0 : n0 ≤ h0.size) (F_ordinal_a1 : Fld Z h0 a1 "java/lang/Enum" "ordinal" "I" (.int w3)) :
    MetFree l (⟨"java/lang/Enum", "ordinal", "()I"⟩ : MethodName) (head1 (Jvm.Cond.code (⟨"java/lang/Enum", "ordinal", "()I"⟩ : MethodName) jdk_37_method_2_code 1 (some .int) :: ws) ({ frames := 0, cells := 0, slots := 0, locals := 0 } : Room)) (fun aa U => aa = #[(.ref a1)] ∧ Z.Warmed39 U.vm ∧ U.heap = h0) (fun _ _ _ _ _ => True) (fun _ U o U' => ∃ v L, o = .returned v ∧ own_b2_Q Z a1 w3 h0 n0 v U'.heap L ∧ FrameEnd U o U' L ({ frames := 0, cells := 0, slots := 0, locals := 0 } : Room).cells ({ frames := 0, cells := 0, slots := 0, locals := 0 } : Room).slots) := by
  refine MetFree.of_bodySF (plainFor_of_name own_pn1) hisR ?_
  have w20 := hw _ (List.mem_of_getElem? (i := 20) rfl)
  intro p e s m args below meth c s₁ Bd hml0 hP hK
  obtain ⟨rfl, hZ, hh⟩ := hP
  have hx := Bd.exec
  have hby := Bd.bytes
  have hlk := Bd.notSynchronized
  have hml : c.maxLocals = 1 := hml0
  have hown : s.vm.findClass "java/lang/Enum" = some m.cls := findClass_of_methodNamed Bd.named
  have hnm := (name_of_methodNamed Bd.named Bd.method).1
  have X0 : Stand p l e ({ frames := 0, cells := 0, slots := 0, locals := 0 } : Room) s m #[(.ref a1)] below meth c s₁ [] 0 0 := Stand.of_body Bd
  have e0 : s₁.heap = h0 := by rw [← hh, Bd.state]; rfl
  have N0 := Fr.nil n0
  have K0 : Keep h0 h0 [] := Keep.refl h0 _
  show own_Goes p e below (own_Fin s (own_b2_Q Z a1 w3 h0 n0) ({ frames := 0, cells := 0, slots := 0, locals := 0 } : Room).cells ({ frames := 0, cells := 0, slots := 0, locals := 0 } : Room).slots) _
  refine own_step (fun t k => castTop (own_b2_ef m a1) k) ?_
  show own_Goes p e below _ (s₁.setTop (mkF m 0 #[.val (.ref a1)] []))
  refine own_step (fun t k => XS.aloadN X0.here hx rfl (hb hby own_djdk_37_method_2_code_0) rfl rfl k) ?_
  show own_Goes p e below _ (s₁.setTop (mkF m 1 #[.val (.ref a1)] [(.ref a1)]))
  obtain ⟨T32, X32, e32, st32⟩ := getF X0 hx hZ hown (host := "") (Or.inl w20) Via.refl e0 F_ordinal_a1 (g := (mkF m 1 #[.val (.ref a1)] [(.ref a1)])) rfl rfl (hb hby own_djdk_37_method_2_code_1)
  refine own_step st32 ?_
  show own_Goes p e below _ (T32.setTop (mkF m 4 #[.val (.ref a1)] [(.int w3)]))
  refine own_retV X32 hx hlk Bd.returns (w := (.int w3)) rfl (Or.inl ⟨rfl, Or.inl rfl, _, rfl⟩) (hb hby own_djdk_37_method_2_code_4) ?_ (by decide) (by decide)
  show own_b2_Q Z a1 w3 h0 n0 _ T32.heap _
  rw [e32]
  exact ⟨rfl, N0, rfl⟩
theorem own_pn2 : plainName "com/example/battlement/battlement/prefab/SpawnKind" = true := by first | (simp [plainName, overriddenIn]; done) | decide +kernel
theorem own_dprog_114_method_4_code_0 : decode prog_114_method_4_code 0 = .ok (.aload_n 0, 1) := by decide +kernel
theorem own_pd0 : parseMethodDescriptor "()I" = some ⟨[], some .int⟩ := by decide +kernel
theorem own_dprog_114_method_4_code_1 : decode prog_114_method_4_code 1 = .ok (.invokevirtual 47, 3) := by decide +kernel
theorem own_dprog_114_method_4_code_4 : decode prog_114_method_4_code 4 = .ok (.tableswitch 48 0 7 #[58, 58, 58, 58, 58, 62, 62, 62], 48) := by decide +kernel
theorem own_dprog_114_method_4_code_62 : decode prog_114_method_4_code 62 = .ok (.iconst 1, 1) := by decide +kernel
theorem own_dprog_114_method_4_code_63 : decode prog_114_method_4_code 63 = .ok (.goto 4, 3) := by decide +kernel
theorem own_dprog_114_method_4_code_67 : decode prog_114_method_4_code 67 = .ok (.ireturn, 1) := by decide +kernel
theorem own_dprog_114_method_4_code_66 : decode prog_114_method_4_code 66 = .ok (.iconst 0, 1) := by decide +kernel
theorem own_b3_ef (m : MethodId) (a1 : Addr) : entryFrame m #[(.ref a1)] 1 = mkF m 0 #[.val (.ref a1)] [] := by first | (simp [entryFrame, mkF, argsToLocals, Value.category]; done) | rfl
def own_b3_Q (Z : State) (a1 : Addr) (w3 : Int32) (h0 : Heap) (n0 : Nat) (v : Option Value) (h : Heap) (L : List Loc) : Prop := v = some (.int (own_gm w3)) ∧ Fr n0 L ∧ h = h0
set_option maxRecDepth 65536 in
set_option maxHeartbeats 40000000 in
theorem own_b3 (l : Launch) (Z : State) (a0 : Array Value) (hw : ∀ d ∈ tables_1, d.before a0 Z = true) (ws : List Jvm.Cond) (a1 : Addr) (w3 : Int32) (h0 : Heap) (n0 : Nat) (Z0 : n0 ≤ h0.size) (E_a1 : Exa Z h0 a1 "com/example/battlement/battlement/prefab/SpawnKind") (F_ordinal_a1 : Fld Z h0 a1 "java/lang/Enum" "ordinal" "I" (.int w3)) (hw3 : 0 ≤ w3.toInt ∧ w3.toInt ≤ 7) :
    MetFree l (⟨"com/example/battlement/battlement/prefab/SpawnKind", "isGameMode", "()Z"⟩ : MethodName) (head1 (Jvm.Cond.code (⟨"com/example/battlement/battlement/prefab/SpawnKind", "isGameMode", "()Z"⟩ : MethodName) prog_114_method_4_code 1 (some .boolean) :: ws) ({ frames := 1, cells := 0, slots := 0, locals := 12 } : Room)) (fun aa U => aa = #[(.ref a1)] ∧ Z.Warmed39 U.vm ∧ U.heap = h0) (fun _ _ _ _ _ => True) (fun _ U o U' => ∃ v L, o = .returned v ∧ own_b3_Q Z a1 w3 h0 n0 v U'.heap L ∧ FrameEnd U o U' L ({ frames := 1, cells := 0, slots := 0, locals := 12 } : Room).cells ({ frames := 1, cells := 0, slots := 0, locals := 12 } : Room).slots) := by
  refine MetFree.of_bodySF (plainFor_of_name own_pn2) hisR ?_
  have w13 := hw _ (List.mem_of_getElem? (i := 13) rfl)
  have w14 := hw _ (List.mem_of_getElem? (i := 14) rfl)
  have w15 := hw _ (List.mem_of_getElem? (i := 15) rfl)
  have w16 := hw _ (List.mem_of_getElem? (i := 16) rfl)
  have w17 := hw _ (List.mem_of_getElem? (i := 17) rfl)
  have w18 := hw _ (List.mem_of_getElem? (i := 18) rfl)
  have w19 := hw _ (List.mem_of_getElem? (i := 19) rfl)
  intro p e s m args below meth c s₁ Bd hml0 hP hK
  obtain ⟨rfl, hZ, hh⟩ := hP
  have hx := Bd.exec
  have hby := Bd.bytes
  have hlk := Bd.notSynchronized
  have hml : c.maxLocals = 1 := hml0
  have hown : s.vm.findClass "com/example/battlement/battlement/prefab/SpawnKind" = some m.cls := findClass_of_methodNamed Bd.named
  have hnm := (name_of_methodNamed Bd.named Bd.method).1
  have X0 : Stand p l e ({ frames := 1, cells := 0, slots := 0, locals := 12 } : Room) s m #[(.ref a1)] below meth c s₁ [] 0 0 := Stand.of_body Bd
  have e0 : s₁.heap = h0 := by rw [← hh, Bd.state]; rfl
  have N0 := Fr.nil n0
  have K0 : Keep h0 h0 [] := Keep.refl h0 _
  show own_Goes p e below (own_Fin s (own_b3_Q Z a1 w3 h0 n0) ({ frames := 1, cells := 0, slots := 0, locals := 12 } : Room).cells ({ frames := 1, cells := 0, slots := 0, locals := 12 } : Room).slots) _
  refine own_step (fun t k => castTop (own_b3_ef m a1) k) ?_
  show own_Goes p e below _ (s₁.setTop (mkF m 0 #[.val (.ref a1)] []))
  refine own_step (fun t k => XS.aloadN X0.here hx rfl (hb hby own_dprog_114_method_4_code_0) rfl rfl k) ?_
  show own_Goes p e below _ (s₁.setTop (mkF m 1 #[.val (.ref a1)] [(.ref a1)]))
  obtain ⟨cq35, kq35, q35a, q35b, q35c⟩ := isOf hZ e0 E_a1
  obtain ⟨_, _, ⟨T35, L35, k35, n35⟩, -, X35, ⟨Lc35, hQ35, l35, y35, z35⟩, st35⟩ := X0.virtualBackUp hx (x := (⟨"com/example/battlement/battlement/prefab/SpawnKind", "ordinal", "()I"⟩ : MethodName)) (y := (⟨"java/lang/Enum", "ordinal", "()I"⟩ : MethodName)) (owner := "java/lang/Enum") hown (mvT hZ w13) (mvT hZ w14) (mvT hZ w15) (by decide) (mvT hZ w17) (mvT hZ w16) (backOf (W := 0) (own_b2 l Z a0 hw [] a1 (w3) h0 n0 Z0 F_ordinal_a1) hZ w19 w18 (by decide) (by decide)) q35a q35c (g := (mkF m 1 #[.val (.ref a1)] [(.ref a1)])) rfl (by rw [hml]; rfl) (Steps.refl _) (argsL := []) (rest := []) (lenOf own_pd0 rfl) rfl (by show 2 * 0 + _ ≤ _; exact Nat.le_of_eq rfl) (hb hby own_dprog_114_method_4_code_1) (fun _ _ => ⟨rfl, e0, (by decide : 0 + 0 ≤ _), (by decide : 0 + 0 ≤ _)⟩)
  dsimp only [Pt.U, Pt.locs, Pt.cells, Pt.slots] at X35 l35 y35 z35 st35 hQ35
  subst l35 y35 z35
  obtain ⟨rfl, N35q, eh35⟩ := hQ35
  have N35 := Fr.app N0 N35q
  refine own_jump st35 ?_
  show own_Goes p e below _ (T35.setTop (mkF m 4 #[.val (.ref a1)] [(.int w3)]))
  have hs36 : ¬ ((w3).toInt < 0 ∨ (w3).toInt > 7) := by omega
  have hbhs36 : (w3).toInt = 0 ∨ (w3).toInt = 1 ∨ (w3).toInt = 2 ∨ (w3).toInt = 3 ∨ (w3).toInt = 4 ∨ (w3).toInt = 5 ∨ (w3).toInt = 6 ∨ (w3).toInt = 7 := by omega
  rcases hbhs36 with hqhs36 | hqhs36 | hqhs36 | hqhs36 | hqhs36 | hqhs36 | hqhs36 | hqhs36
  · --
    refine own_step (fun t k => XS.tswIn X35.here hx rfl (pc0 := 4) (pc' := 62) (o := 58) rfl (hb hby own_dprog_114_method_4_code_4) rfl hs36 (by rw [hqhs36]; rfl) (by decide) (by decide) k) ?_
    show own_Goes p e below _ (T35.setTop (mkF m 62 #[.val (.ref a1)] []))
    refine own_step (fun t k => XS.iconst X35.here hx rfl (hb hby own_dprog_114_method_4_code_62) k) ?_
    show own_Goes p e below _ (T35.setTop (mkF m 63 #[.val (.ref a1)] [(.int (1 : Int32))]))
    refine own_step (fun t k => XS.goto X35.here hx rfl (pc0 := 63) (pc' := 67) rfl (hb hby own_dprog_114_method_4_code_63) (by decide) (by decide) k) ?_
    show own_Goes p e below _ (T35.setTop (mkF m 67 #[.val (.ref a1)] [(.int (1 : Int32))]))
    refine own_retV X35 hx hlk Bd.returns (w := (.int (1 : Int32))) (own_nb (Or.inr rfl)) (Or.inl ⟨rfl, Or.inr (Or.inl rfl), _, rfl⟩) (hb hby own_dprog_114_method_4_code_67) ?_ (by decide) (by decide)
    show own_b3_Q Z a1 w3 h0 n0 _ T35.heap _
    rw [eh35]
    exact ⟨(by unfold own_gm; split <;> first | rfl | (exfalso; omega)), N35, rfl⟩
  · --
    refine own_step (fun t k => XS.tswIn X35.here hx rfl (pc0 := 4) (pc' := 62) (o := 58) rfl (hb hby own_dprog_114_method_4_code_4) rfl hs36 (by rw [hqhs36]; rfl) (by decide) (by decide) k) ?_
    show own_Goes p e below _ (T35.setTop (mkF m 62 #[.val (.ref a1)] []))
    refine own_step (fun t k => XS.iconst X35.here hx rfl (hb hby own_dprog_114_method_4_code_62) k) ?_
    show own_Goes p e below _ (T35.setTop (mkF m 63 #[.val (.ref a1)] [(.int (1 : Int32))]))
    refine own_step (fun t k => XS.goto X35.here hx rfl (pc0 := 63) (pc' := 67) rfl (hb hby own_dprog_114_method_4_code_63) (by decide) (by decide) k) ?_
    show own_Goes p e below _ (T35.setTop (mkF m 67 #[.val (.ref a1)] [(.int (1 : Int32))]))
    refine own_retV X35 hx hlk Bd.returns (w := (.int (1 : Int32))) (own_nb (Or.inr rfl)) (Or.inl ⟨rfl, Or.inr (Or.inl rfl), _, rfl⟩) (hb hby own_dprog_114_method_4_code_67) ?_ (by decide) (by decide)
    show own_b3_Q Z a1 w3 h0 n0 _ T35.heap _
    rw [eh35]
    exact ⟨(by unfold own_gm; split <;> first | rfl | (exfalso; omega)), N35, rfl⟩
  · --
    refine own_step (fun t k => XS.tswIn X35.here hx rfl (pc0 := 4) (pc' := 62) (o := 58) rfl (hb hby own_dprog_114_method_4_code_4) rfl hs36 (by rw [hqhs36]; rfl) (by decide) (by decide) k) ?_
    show own_Goes p e below _ (T35.setTop (mkF m 62 #[.val (.ref a1)] []))
    refine own_step (fun t k => XS.iconst X35.here hx rfl (hb hby own_dprog_114_method_4_code_62) k) ?_
    show own_Goes p e below _ (T35.setTop (mkF m 63 #[.val (.ref a1)] [(.int (1 : Int32))]))
    refine own_step (fun t k => XS.goto X35.here hx rfl (pc0 := 63) (pc' := 67) rfl (hb hby own_dprog_114_method_4_code_63) (by decide) (by decide) k) ?_
    show own_Goes p e below _ (T35.setTop (mkF m 67 #[.val (.ref a1)] [(.int (1 : Int32))]))
    refine own_retV X35 hx hlk Bd.returns (w := (.int (1 : Int32))) (own_nb (Or.inr rfl)) (Or.inl ⟨rfl, Or.inr (Or.inl rfl), _, rfl⟩) (hb hby own_dprog_114_method_4_code_67) ?_ (by decide) (by decide)
    show own_b3_Q Z a1 w3 h0 n0 _ T35.heap _
    rw [eh35]
    exact ⟨(by unfold own_gm; split <;> first | rfl | (exfalso; omega)), N35, rfl⟩
  · --
    refine own_step (fun t k => XS.tswIn X35.here hx rfl (pc0 := 4) (pc' := 62) (o := 58) rfl (hb hby own_dprog_114_method_4_code_4) rfl hs36 (by rw [hqhs36]; rfl) (by decide) (by decide) k) ?_
    show own_Goes p e below _ (T35.setTop (mkF m 62 #[.val (.ref a1)] []))
    refine own_step (fun t k => XS.iconst X35.here hx rfl (hb hby own_dprog_114_method_4_code_62) k) ?_
    show own_Goes p e below _ (T35.setTop (mkF m 63 #[.val (.ref a1)] [(.int (1 : Int32))]))
    refine own_step (fun t k => XS.goto X35.here hx rfl (pc0 := 63) (pc' := 67) rfl (hb hby own_dprog_114_method_4_code_63) (by decide) (by decide) k) ?_
    show own_Goes p e below _ (T35.setTop (mkF m 67 #[.val (.ref a1)] [(.int (1 : Int32))]))
    refine own_retV X35 hx hlk Bd.returns (w := (.int (1 : Int32))) (own_nb (Or.inr rfl)) (Or.inl ⟨rfl, Or.inr (Or.inl rfl), _, rfl⟩) (hb hby own_dprog_114_method_4_code_67) ?_ (by decide) (by decide)
    show own_b3_Q Z a1 w3 h0 n0 _ T35.heap _
    rw [eh35]
    exact ⟨(by unfold own_gm; split <;> first | rfl | (exfalso; omega)), N35, rfl⟩
  · --
    refine own_step (fun t k => XS.tswIn X35.here hx rfl (pc0 := 4) (pc' := 62) (o := 58) rfl (hb hby own_dprog_114_method_4_code_4) rfl hs36 (by rw [hqhs36]; rfl) (by decide) (by decide) k) ?_
    show own_Goes p e below _ (T35.setTop (mkF m 62 #[.val (.ref a1)] []))
    refine own_step (fun t k => XS.iconst X35.here hx rfl (hb hby own_dprog_114_method_4_code_62) k) ?_
    show own_Goes p e below _ (T35.setTop (mkF m 63 #[.val (.ref a1)] [(.int (1 : Int32))]))
    refine own_step (fun t k => XS.goto X35.here hx rfl (pc0 := 63) (pc' := 67) rfl (hb hby own_dprog_114_method_4_code_63) (by decide) (by decide) k) ?_
    show own_Goes p e below _ (T35.setTop (mkF m 67 #[.val (.ref a1)] [(.int (1 : Int32))]))
    refine own_retV X35 hx hlk Bd.returns (w := (.int (1 : Int32))) (own_nb (Or.inr rfl)) (Or.inl ⟨rfl, Or.inr (Or.inl rfl), _, rfl⟩) (hb hby own_dprog_114_method_4_code_67) ?_ (by decide) (by decide)
    show own_b3_Q Z a1 w3 h0 n0 _ T35.heap _
    rw [eh35]
    exact ⟨(by unfold own_gm; split <;> first | rfl | (exfalso; omega)), N35, rfl⟩
  · --
    refine own_step (fun t k => XS.tswIn X35.here hx rfl (pc0 := 4) (pc' := 66) (o := 62) rfl (hb hby own_dprog_114_method_4_code_4) rfl hs36 (by rw [hqhs36]; rfl) (by decide) (by decide) k) ?_
    show own_Goes p e below _ (T35.setTop (mkF m 66 #[.val (.ref a1)] []))
    refine own_step (fun t k => XS.iconst X35.here hx rfl (hb hby own_dprog_114_method_4_code_66) k) ?_
    show own_Goes p e below _ (T35.setTop (mkF m 67 #[.val (.ref a1)] [(.int (0 : Int32))]))
    refine own_retV X35 hx hlk Bd.returns (w := (.int (0 : Int32))) (own_nb (Or.inl rfl)) (Or.inl ⟨rfl, Or.inr (Or.inl rfl), _, rfl⟩) (hb hby own_dprog_114_method_4_code_67) ?_ (by decide) (by decide)
    show own_b3_Q Z a1 w3 h0 n0 _ T35.heap _
    rw [eh35]
    exact ⟨(by unfold own_gm; split <;> first | rfl | (exfalso; omega)), N35, rfl⟩
  · --
    refine own_step (fun t k => XS.tswIn X35.here hx rfl (pc0 := 4) (pc' := 66) (o := 62) rfl (hb hby own_dprog_114_method_4_code_4) rfl hs36 (by rw [hqhs36]; rfl) (by decide) (by decide) k) ?_
    show own_Goes p e below _ (T35.setTop (mkF m 66 #[.val (.ref a1)] []))
    refine own_step (fun t k => XS.iconst X35.here hx rfl (hb hby own_dprog_114_method_4_code_66) k) ?_
    show own_Goes p e below _ (T35.setTop (mkF m 67 #[.val (.ref a1)] [(.int (0 : Int32))]))
    refine own_retV X35 hx hlk Bd.returns (w := (.int (0 : Int32))) (own_nb (Or.inl rfl)) (Or.inl ⟨rfl, Or.inr (Or.inl rfl), _, rfl⟩) (hb hby own_dprog_114_method_4_code_67) ?_ (by decide) (by decide)
    show own_b3_Q Z a1 w3 h0 n0 _ T35.heap _
    rw [eh35]
    exact ⟨(by unfold own_gm; split <;> first | rfl | (exfalso; omega)), N35, rfl⟩
  · --
    refine own_step (fun t k => XS.tswIn X35.here hx rfl (pc0 := 4) (pc' := 66) (o := 62) rfl (hb hby own_dprog_114_method_4_code_4) rfl hs36 (by rw [hqhs36]; rfl) (by decide) (by decide) k) ?_
    show own_Goes p e below _ (T35.setTop (mkF m 66 #[.val (.ref a1)] []))
    refine own_step (fun t k => XS.iconst X35.here hx rfl (hb hby own_dprog_114_method_4_code_66) k) ?_
    show own_Goes p e below _ (T35.setTop (mkF m 67 #[.val (.ref a1)] [(.int (0 : Int32))]))
    refine own_retV X35 hx hlk Bd.returns (w := (.int (0 : Int32))) (own_nb (Or.inl rfl)) (Or.inl ⟨rfl, Or.inr (Or.inl rfl), _, rfl⟩) (hb hby own_dprog_114_method_4_code_67) ?_ (by decide) (by decide)
    show own_b3_Q Z a1 w3 h0 n0 _ T35.heap _
    rw [eh35]
    exact ⟨(by unfold own_gm; split <;> first | rfl | (exfalso; omega)), N35, rfl⟩
theorem own_pd1 : parseMethodDescriptor "(I)Lcom/example/battlement/battlement/prefab/SpawnKind;" = some ⟨[.int], some (.object "com/example/battlement/battlement/prefab/SpawnKind")⟩ := by decide +kernel
theorem own_pd2 : parseMethodDescriptor "()Z" = some ⟨[], some .boolean⟩ := by decide +kernel
theorem own_law_ef (m : MethodId) (p1 : Int32) : entryFrame m #[(.int p1)] maxLocals = mkF m 0 #[.val (.int p1), .unset, .unset, .unset] [] := by first | (simp [entryFrame, mkF, argsToLocals, Value.category, maxLocals]; done) | rfl
set_option maxRecDepth 65536 in
set_option maxHeartbeats 40000000 in
theorem own_law (l : Launch) (Z : State) (a0 : Array Value) (hw : ∀ d ∈ tables_1, d.before a0 Z = true) (ws : List Jvm.Cond) (p1 : Int32) (w_FFA : Addr) (w_T : Addr) (w_FFADM : Addr) (w_TDM : Addr) (w_TCTO : Addr) (w_SPECTATOR : Addr) (w_HEAL : Addr) (w_ORB : Addr) (h0 : Heap) (n0 : Nat) (Z0 : n0 ≤ h0.size) (S_FFA : Sta Z Z.heap "com/example/battlement/battlement/prefab/SpawnKind" "FFA" "Lcom/example/battlement/battlement/prefab/SpawnKind;" (.ref w_FFA)) (S_T : Sta Z Z.heap "com/example/battlement/battlement/prefab/SpawnKind" "T" "Lcom/example/battlement/battlement/prefab/SpawnKind;" (.ref w_T)) (S_FFADM : Sta Z Z.heap "com/example/battlement/battlement/prefab/SpawnKind" "FFADM" "Lcom/example/battlement/battlement/prefab/SpawnKind;" (.ref w_FFADM)) (S_TDM : Sta Z Z.heap "com/example/battlement/battlement/prefab/SpawnKind" "TDM" "Lcom/example/battlement/battlement/prefab/SpawnKind;" (.ref w_TDM)) (S_TCTO : Sta Z Z.heap "com/example/battlement/battlement/prefab/SpawnKind" "TCTO" "Lcom/example/battlement/battlement/prefab/SpawnKind;" (.ref w_TCTO)) (S_SPECTATOR : Sta Z Z.heap "com/example/battlement/battlement/prefab/SpawnKind" "SPECTATOR" "Lcom/example/battlement/battlement/prefab/SpawnKind;" (.ref w_SPECTATOR)) (S_HEAL : Sta Z Z.heap "com/example/battlement/battlement/prefab/SpawnKind" "HEAL" "Lcom/example/battlement/battlement/prefab/SpawnKind;" (.ref w_HEAL)) (S_ORB : Sta Z Z.heap "com/example/battlement/battlement/prefab/SpawnKind" "ORB" "Lcom/example/battlement/battlement/prefab/SpawnKind;" (.ref w_ORB)) (O0 : Old Z n0 h0) (E_w_FFA : Exa Z h0 w_FFA "com/example/battlement/battlement/prefab/SpawnKind") (E_w_T : Exa Z h0 w_T "com/example/battlement/battlement/prefab/SpawnKind") (E_w_FFADM : Exa Z h0 w_FFADM "com/example/battlement/battlement/prefab/SpawnKind") (E_w_TDM : Exa Z h0 w_TDM "com/example/battlement/battlement/prefab/SpawnKind") (E_w_TCTO : Exa Z h0 w_TCTO "com/example/battlement/battlement/prefab/SpawnKind") (E_w_SPECTATOR : Exa Z h0 w_SPECTATOR "com/example/battlement/battlement/prefab/SpawnKind") (E_w_HEAL : Exa Z h0 w_HEAL "com/example/battlement/battlement/prefab/SpawnKind") (E_w_ORB : Exa Z h0 w_ORB "com/example/battlement/battlement/prefab/SpawnKind") (F_ordinal_w_FFA : Fld Z h0 w_FFA "java/lang/Enum" "ordinal" "I" (.int (0 : Int32))) (F_ordinal_w_T : Fld Z h0 w_T "java/lang/Enum" "ordinal" "I" (.int (1 : Int32))) (F_ordinal_w_FFADM : Fld Z h0 w_FFADM "java/lang/Enum" "ordinal" "I" (.int (2 : Int32))) (F_ordinal_w_TDM : Fld Z h0 w_TDM "java/lang/Enum" "ordinal" "I" (.int (3 : Int32))) (F_ordinal_w_TCTO : Fld Z h0 w_TCTO "java/lang/Enum" "ordinal" "I" (.int (4 : Int32))) (F_ordinal_w_SPECTATOR : Fld Z h0 w_SPECTATOR "java/lang/Enum" "ordinal" "I" (.int (5 : Int32))) (F_ordinal_w_HEAL : Fld Z h0 w_HEAL "java/lang/Enum" "ordinal" "I" (.int (6 : Int32))) (F_ordinal_w_ORB : Fld Z h0 w_ORB "java/lang/Enum" "ordinal" "I" (.int (7 : Int32))) :
    MetFree l x (head1 (Jvm.Cond.code x code maxLocals ret :: ws) room_1) (fun aa U => aa = #[(.int p1)] ∧ Z.Warmed39 U.vm ∧ U.heap = h0) (fun _ _ _ _ _ => True) (fun _ U o U' => ∃ v L, o = .returned v ∧ own_Q0 n0 v U'.heap L ∧ FrameEnd U o U' L 0 0) := by
  refine MetFree.of_bodySF (plainFor_of_name own_pn0) hisR ?_
  have w0 := hw _ (List.mem_of_getElem? (i := 0) rfl)
  have w1 := hw _ (List.mem_of_getElem? (i := 1) rfl)
  have w2 := hw _ (List.mem_of_getElem? (i := 2) rfl)
  have w3 := hw _ (List.mem_of_getElem? (i := 3) rfl)
  have w4 := hw _ (List.mem_of_getElem? (i := 4) rfl)
  have w6 := hw _ (List.mem_of_getElem? (i := 6) rfl)
  have w8 := hw _ (List.mem_of_getElem? (i := 8) rfl)
  have w9 := hw _ (List.mem_of_getElem? (i := 9) rfl)
  have w10 := hw _ (List.mem_of_getElem? (i := 10) rfl)
  have w11 := hw _ (List.mem_of_getElem? (i := 11) rfl)
  have w12 := hw _ (List.mem_of_getElem? (i := 12) rfl)
  intro p e s m args below meth c s₁ Bd hml0 hP hK
  obtain ⟨rfl, hZ, hh⟩ := hP
  have hx := Bd.exec
  have hby := Bd.bytes
  have hlk := Bd.notSynchronized
  have hml : c.maxLocals = 4 := hml0
  have hown : s.vm.findClass "com/example/battlement/battlement/prefab/SpawnKindIsGameModePinLaw" = some m.cls := findClass_of_methodNamed Bd.named
  have hnm := (name_of_methodNamed Bd.named Bd.method).1
  have X0 : Stand p l e room_1 s m #[(.int p1)] below meth c s₁ [] 0 0 := Stand.of_body Bd
  have e0 : s₁.heap = h0 := by rw [← hh, Bd.state]; rfl
  have N0 := Fr.nil n0
  have K0 : Keep h0 h0 [] := Keep.refl h0 _
  show own_Goes p e below (own_Fin s (own_Q0 n0) 0 0) _
  refine own_step (fun t k => castTop (own_law_ef m p1) k) ?_
  show own_Goes p e below _ (s₁.setTop (mkF m 0 #[.val (.int p1), .unset, .unset, .unset] []))
  refine own_step (fun t k => XS.iloadN X0.here hx rfl (hb hby at_0) rfl k) ?_
  show own_Goes p e below _ (s₁.setTop (mkF m 1 #[.val (.int p1), .unset, .unset, .unset] [(.int p1)]))
  refine own_step (fun t k => X0.ldcInt hx hown (mvT hZ w0) (g := (mkF m 1 #[.val (.int p1), .unset, .unset, .unset] [(.int p1)])) rfl (hb hby at_1) _ k) ?_
  show own_Goes p e below _ (s₁.setTop (mkF m 3 #[.val (.int p1), .unset, .unset, .unset] [(.int (2147483647 : Int32)), (.int p1)]))
  refine own_step (fun t k => XS.iand X0.here hx rfl (hb hby at_3) rfl k) ?_
  show own_Goes p e below _ (s₁.setTop (mkF m 4 #[.val (.int p1), .unset, .unset, .unset] [(.int (p1 &&& (2147483647 : Int32)))]))
  refine own_step (fun t k => XS.bipush X0.here hx rfl (hb hby at_4) k) ?_
  show own_Goes p e below _ (s₁.setTop (mkF m 6 #[.val (.int p1), .unset, .unset, .unset] [(.int (8 : Int32)), (.int (p1 &&& (2147483647 : Int32)))]))
  refine own_step (fun t k => Jvm.RoadKit.iremM X0 hx rfl (hb hby at_6) rfl (by decide) k) ?_
  show own_Goes p e below _ (s₁.setTop (mkF m 7 #[.val (.int p1), .unset, .unset, .unset] [(.int ((p1 &&& (2147483647 : Int32)) % (8 : Int32)))]))
  refine own_step (fun t k => XS.istoreN X0.here hx rfl (hb hby at_7) rfl (l' := #[.val (.int p1), .val (.int ((p1 &&& (2147483647 : Int32)) % (8 : Int32))), .unset, .unset]) rfl k) ?_
  show own_Goes p e below _ (s₁.setTop (mkF m 8 #[.val (.int p1), .val (.int ((p1 &&& (2147483647 : Int32)) % (8 : Int32))), .unset, .unset] []))
  generalize hv_vi : ((p1 &&& (2147483647 : Int32)) % (8 : Int32)) = vi
  have hvi : vi = (0 : Int32) ∨ vi = (1 : Int32) ∨ vi = (2 : Int32) ∨ vi = (3 : Int32) ∨ vi = (4 : Int32) ∨ vi = (5 : Int32) ∨ vi = (6 : Int32) ∨ vi = (7 : Int32) := own_cases hv_vi
  clear hv_vi
  rcases hvi with rfl | rfl | rfl | rfl | rfl | rfl | rfl | rfl
  · --
    show own_Goes p e below _ (s₁.setTop (mkF m 8 #[.val (.int p1), .val (.int (0 : Int32)), .unset, .unset] []))
    refine own_step (fun t k => XS.iloadN X0.here hx rfl (hb hby at_8) rfl k) ?_
    show own_Goes p e below _ (s₁.setTop (mkF m 9 #[.val (.int p1), .val (.int (0 : Int32)), .unset, .unset] [(.int (0 : Int32))]))
    obtain ⟨_, _, ⟨T37, L37, k37, n37⟩, -, X37, ⟨Lc37, hQ37, l37, y37, z37⟩, st37⟩ := Jvm.LawKit.callS X0 hx (y := (⟨"com/example/battlement/battlement/prefab/SpawnKindIsGameModePinLaw", "pick", "(I)Lcom/example/battlement/battlement/prefab/SpawnKind;"⟩ : MethodName)) hown (mvT hZ w1) (mvT hZ w2) (mvT hZ w3) (mvT hZ w4) (by decide) (backOf (W := 0) (own_b1 l Z a0 hw [] (0 : Int32) (w_FFA) (w_T) (w_FFADM) (w_TDM) (w_TCTO) (w_SPECTATOR) (w_HEAL) (w_ORB) (w_FFA) h0 n0 Z0 S_FFA S_T S_FFADM S_TDM S_TCTO S_SPECTATOR S_HEAL S_ORB O0 rfl) hZ w4 w3 (by decide) (by decide)) (g := (mkF m 9 #[.val (.int p1), .val (.int (0 : Int32)), .unset, .unset] [(.int (0 : Int32))])) rfl (by rw [hml]; rfl) (argsL := [(.int (0 : Int32))]) (rest := []) (lenOf own_pd1 rfl) rfl (by show 2 * 0 + _ ≤ _; exact Nat.le_of_eq rfl) (hb hby at_9) (fun _ _ => ⟨rfl, e0, (by decide : 0 + 0 ≤ _), (by decide : 0 + 0 ≤ _)⟩)
    dsimp only [Pt.U, Pt.locs, Pt.cells, Pt.slots] at X37 l37 y37 z37 st37 hQ37
    subst l37 y37 z37
    obtain ⟨rfl, N37q, eh37⟩ := hQ37
    have N37 := Fr.app N0 N37q
    refine own_step st37 ?_
    show own_Goes p e below _ (T37.setTop (mkF m 12 #[.val (.int p1), .val (.int (0 : Int32)), .unset, .unset] [(.ref w_FFA)]))
    refine own_step (fun t k => XS.astoreN X37.here hx rfl (hb hby at_12) rfl rfl (l' := #[.val (.int p1), .val (.int (0 : Int32)), .val (.ref w_FFA), .unset]) rfl k) ?_
    show own_Goes p e below _ (T37.setTop (mkF m 13 #[.val (.int p1), .val (.int (0 : Int32)), .val (.ref w_FFA), .unset] []))
    refine own_step (fun t k => XS.iloadN X37.here hx rfl (hb hby at_13) rfl k) ?_
    show own_Goes p e below _ (T37.setTop (mkF m 14 #[.val (.int p1), .val (.int (0 : Int32)), .val (.ref w_FFA), .unset] [(.int (0 : Int32))]))
    refine own_step (fun t k => XS.iconst X37.here hx rfl (hb hby at_14) k) ?_
    show own_Goes p e below _ (T37.setTop (mkF m 15 #[.val (.int p1), .val (.int (0 : Int32)), .val (.ref w_FFA), .unset] [(.int (4 : Int32)), (.int (0 : Int32))]))
    have hc38 : ¬ ((4 : Int32) < (0 : Int32)) := by decide
    refine own_step (fun t k => XS.icmpNo X37.here hx rfl (hb hby at_15) rfl (flt hc38).2.2.1 k) ?_
    show own_Goes p e below _ (T37.setTop (mkF m 18 #[.val (.int p1), .val (.int (0 : Int32)), .val (.ref w_FFA), .unset] []))
    refine own_step (fun t k => XS.iconst X37.here hx rfl (hb hby at_18) k) ?_
    show own_Goes p e below _ (T37.setTop (mkF m 19 #[.val (.int p1), .val (.int (0 : Int32)), .val (.ref w_FFA), .unset] [(.int (1 : Int32))]))
    refine own_step (fun t k => XS.goto X37.here hx rfl (pc0 := 19) (pc' := 23) rfl (hb hby at_19) (by decide) (by decide) k) ?_
    show own_Goes p e below _ (T37.setTop (mkF m 23 #[.val (.int p1), .val (.int (0 : Int32)), .val (.ref w_FFA), .unset] [(.int (1 : Int32))]))
    refine own_step (fun t k => XS.istoreN X37.here hx rfl (hb hby at_23) rfl (l' := #[.val (.int p1), .val (.int (0 : Int32)), .val (.ref w_FFA), .val (.int (1 : Int32))]) rfl k) ?_
    show own_Goes p e below _ (T37.setTop (mkF m 24 #[.val (.int p1), .val (.int (0 : Int32)), .val (.ref w_FFA), .val (.int (1 : Int32))] []))
    refine own_step (fun t k => XS.aloadN X37.here hx rfl (hb hby at_24) rfl rfl k) ?_
    show own_Goes p e below _ (T37.setTop (mkF m 25 #[.val (.int p1), .val (.int (0 : Int32)), .val (.ref w_FFA), .val (.int (1 : Int32))] [(.ref w_FFA)]))
    obtain ⟨cq39, kq39, q39a, q39b, q39c⟩ := isOf hZ eh37 E_w_FFA
    obtain ⟨_, _, ⟨T39, L39, k39, n39⟩, -, X39, ⟨Lc39, hQ39, l39, y39, z39⟩, st39⟩ := X37.virtualBack hx (y := (⟨"com/example/battlement/battlement/prefab/SpawnKind", "isGameMode", "()Z"⟩ : MethodName)) (z := (⟨"com/example/battlement/battlement/prefab/SpawnKind", "isGameMode", "()Z"⟩ : MethodName)) hown (mvT hZ w8) (mvT hZ w9) (notFace_of_selects (args := #[]) (mvT hZ w11)) (mvT hZ w11) (mvT hZ w10) (by decide) (backOf (W := 0) (own_b3 l Z a0 hw [] w_FFA ((0 : Int32)) h0 n0 Z0 E_w_FFA F_ordinal_w_FFA (by decide)) hZ w12 w6 (by decide) (by decide)) q39a q39c (g := (mkF m 25 #[.val (.int p1), .val (.int (0 : Int32)), .val (.ref w_FFA), .val (.int (1 : Int32))] [(.ref w_FFA)])) rfl (by rw [hml]; rfl) (Steps.refl _) (argsL := []) (rest := []) (lenOf own_pd2 rfl) rfl (by show 2 * 0 + _ ≤ _; exact Nat.le_of_eq rfl) (hb hby at_25) (fun _ _ => ⟨rfl, eh37, (by decide : 0 + 0 ≤ _), (by decide : 0 + 0 ≤ _)⟩)
    dsimp only [Pt.U, Pt.locs, Pt.cells, Pt.slots] at X39 l39 y39 z39 st39 hQ39
    subst l39 y39 z39
    obtain ⟨rfl, N39q, eh39⟩ := hQ39
    have N39 := Fr.app N37 N39q
    refine own_jump st39 ?_
    show own_Goes p e below _ (T39.setTop (mkF m 28 #[.val (.int p1), .val (.int (0 : Int32)), .val (.ref w_FFA), .val (.int (1 : Int32))] [(.int (own_gm (0 : Int32)))]))
    refine own_step (fun t k => XS.iloadN X39.here hx rfl (hb hby at_28) rfl k) ?_
    show own_Goes p e below _ (T39.setTop (mkF m 29 #[.val (.int p1), .val (.int (0 : Int32)), .val (.ref w_FFA), .val (.int (1 : Int32))] [(.int (1 : Int32)), (.int (own_gm (0 : Int32)))]))
    refine own_step (S' := T39.setTop (mkF m 37 #[.val (.int p1), .val (.int (0 : Int32)), .val (.ref w_FFA), .val (.int (1 : Int32))] [(.int (if (own_gm (0 : Int32)) = (1 : Int32) then (1 : Int32) else (0 : Int32)))])) (fun t k => ?_) ?_
    · show Steps p.tables e below (T39.setTop (mkF m 29 #[.val (.int p1), .val (.int (0 : Int32)), .val (.ref w_FFA), .val (.int (1 : Int32))] [(.int (1 : Int32)), (.int (own_gm (0 : Int32)))])) _
      by_cases hc40 : (own_gm (0 : Int32)) = (1 : Int32)
      · --
        refine XS.icmpNo X39.here hx rfl (hb hby at_29) rfl (teq hc40).2 ?_
        show Steps p.tables e below (T39.setTop (mkF m 32 #[.val (.int p1), .val (.int (0 : Int32)), .val (.ref w_FFA), .val (.int (1 : Int32))] [])) _
        refine XS.iconst X39.here hx rfl (hb hby at_32) ?_
        show Steps p.tables e below (T39.setTop (mkF m 33 #[.val (.int p1), .val (.int (0 : Int32)), .val (.ref w_FFA), .val (.int (1 : Int32))] [(.int (1 : Int32))])) _
        refine XS.goto X39.here hx rfl (pc0 := 33) (pc' := 37) rfl (hb hby at_33) (by decide) (by decide) ?_
        show Steps p.tables e below (T39.setTop (mkF m 37 #[.val (.int p1), .val (.int (0 : Int32)), .val (.ref w_FFA), .val (.int (1 : Int32))] [(.int (1 : Int32))])) _
        simp only [if_pos hc40] at k
        exact k
      · --
        refine XS.icmpYes X39.here hx rfl (pc0 := 29) (pc' := 36) rfl (hb hby at_29) rfl (feq hc40).2 (by decide) (by decide) ?_
        show Steps p.tables e below (T39.setTop (mkF m 36 #[.val (.int p1), .val (.int (0 : Int32)), .val (.ref w_FFA), .val (.int (1 : Int32))] [])) _
        refine XS.iconst X39.here hx rfl (hb hby at_36) ?_
        show Steps p.tables e below (T39.setTop (mkF m 37 #[.val (.int p1), .val (.int (0 : Int32)), .val (.ref w_FFA), .val (.int (1 : Int32))] [(.int (0 : Int32))])) _
        simp only [if_neg hc40] at k
        exact k
    show own_Goes p e below _ (T39.setTop (mkF m 37 #[.val (.int p1), .val (.int (0 : Int32)), .val (.ref w_FFA), .val (.int (1 : Int32))] [(.int (if (own_gm (0 : Int32)) = (1 : Int32) then (1 : Int32) else (0 : Int32)))]))
    refine own_retL X39 hx hlk Bd.returns (hb hby at_37) (?_ : (if (own_gm (0 : Int32)) = (1 : Int32) then (1 : Int32) else (0 : Int32)) = 1) N39 (by decide) (by decide)
    exact (by decide)
  · --
    show own_Goes p e below _ (s₁.setTop (mkF m 8 #[.val (.int p1), .val (.int (1 : Int32)), .unset, .unset] []))
    refine own_step (fun t k => XS.iloadN X0.here hx rfl (hb hby at_8) rfl k) ?_
    show own_Goes p e below _ (s₁.setTop (mkF m 9 #[.val (.int p1), .val (.int (1 : Int32)), .unset, .unset] [(.int (1 : Int32))]))
    obtain ⟨_, _, ⟨T41, L41, k41, n41⟩, -, X41, ⟨Lc41, hQ41, l41, y41, z41⟩, st41⟩ := Jvm.LawKit.callS X0 hx (y := (⟨"com/example/battlement/battlement/prefab/SpawnKindIsGameModePinLaw", "pick", "(I)Lcom/example/battlement/battlement/prefab/SpawnKind;"⟩ : MethodName)) hown (mvT hZ w1) (mvT hZ w2) (mvT hZ w3) (mvT hZ w4) (by decide) (backOf (W := 0) (own_b1 l Z a0 hw [] (1 : Int32) (w_FFA) (w_T) (w_FFADM) (w_TDM) (w_TCTO) (w_SPECTATOR) (w_HEAL) (w_ORB) (w_T) h0 n0 Z0 S_FFA S_T S_FFADM S_TDM S_TCTO S_SPECTATOR S_HEAL S_ORB O0 rfl) hZ w4 w3 (by decide) (by decide)) (g := (mkF m 9 #[.val (.int p1), .val (.int (1 : Int32)), .unset, .unset] [(.int (1 : Int32))])) rfl (by rw [hml]; rfl) (argsL := [(.int (1 : Int32))]) (rest := []) (lenOf own_pd1 rfl) rfl (by show 2 * 0 + _ ≤ _; exact Nat.le_of_eq rfl) (hb hby at_9) (fun _ _ => ⟨rfl, e0, (by decide : 0 + 0 ≤ _), (by decide : 0 + 0 ≤ _)⟩)
    dsimp only [Pt.U, Pt.locs, Pt.cells, Pt.slots] at X41 l41 y41 z41 st41 hQ41
    subst l41 y41 z41
    obtain ⟨rfl, N41q, eh41⟩ := hQ41
    have N41 := Fr.app N0 N41q
    refine own_step st41 ?_
    show own_Goes p e below _ (T41.setTop (mkF m 12 #[.val (.int p1), .val (.int (1 : Int32)), .unset, .unset] [(.ref w_T)]))
    refine own_step (fun t k => XS.astoreN X41.here hx rfl (hb hby at_12) rfl rfl (l' := #[.val (.int p1), .val (.int (1 : Int32)), .val (.ref w_T), .unset]) rfl k) ?_
    show own_Goes p e below _ (T41.setTop (mkF m 13 #[.val (.int p1), .val (.int (1 : Int32)), .val (.ref w_T), .unset] []))
    refine own_step (fun t k => XS.iloadN X41.here hx rfl (hb hby at_13) rfl k) ?_
    show own_Goes p e below _ (T41.setTop (mkF m 14 #[.val (.int p1), .val (.int (1 : Int32)), .val (.ref w_T), .unset] [(.int (1 : Int32))]))
    refine own_step (fun t k => XS.iconst X41.here hx rfl (hb hby at_14) k) ?_
    show own_Goes p e below _ (T41.setTop (mkF m 15 #[.val (.int p1), .val (.int (1 : Int32)), .val (.ref w_T), .unset] [(.int (4 : Int32)), (.int (1 : Int32))]))
    have hc42 : ¬ ((4 : Int32) < (1 : Int32)) := by decide
    refine own_step (fun t k => XS.icmpNo X41.here hx rfl (hb hby at_15) rfl (flt hc42).2.2.1 k) ?_
    show own_Goes p e below _ (T41.setTop (mkF m 18 #[.val (.int p1), .val (.int (1 : Int32)), .val (.ref w_T), .unset] []))
    refine own_step (fun t k => XS.iconst X41.here hx rfl (hb hby at_18) k) ?_
    show own_Goes p e below _ (T41.setTop (mkF m 19 #[.val (.int p1), .val (.int (1 : Int32)), .val (.ref w_T), .unset] [(.int (1 : Int32))]))
    refine own_step (fun t k => XS.goto X41.here hx rfl (pc0 := 19) (pc' := 23) rfl (hb hby at_19) (by decide) (by decide) k) ?_
    show own_Goes p e below _ (T41.setTop (mkF m 23 #[.val (.int p1), .val (.int (1 : Int32)), .val (.ref w_T), .unset] [(.int (1 : Int32))]))
    refine own_step (fun t k => XS.istoreN X41.here hx rfl (hb hby at_23) rfl (l' := #[.val (.int p1), .val (.int (1 : Int32)), .val (.ref w_T), .val (.int (1 : Int32))]) rfl k) ?_
    show own_Goes p e below _ (T41.setTop (mkF m 24 #[.val (.int p1), .val (.int (1 : Int32)), .val (.ref w_T), .val (.int (1 : Int32))] []))
    refine own_step (fun t k => XS.aloadN X41.here hx rfl (hb hby at_24) rfl rfl k) ?_
    show own_Goes p e below _ (T41.setTop (mkF m 25 #[.val (.int p1), .val (.int (1 : Int32)), .val (.ref w_T), .val (.int (1 : Int32))] [(.ref w_T)]))
    obtain ⟨cq43, kq43, q43a, q43b, q43c⟩ := isOf hZ eh41 E_w_T
    obtain ⟨_, _, ⟨T43, L43, k43, n43⟩, -, X43, ⟨Lc43, hQ43, l43, y43, z43⟩, st43⟩ := X41.virtualBack hx (y := (⟨"com/example/battlement/battlement/prefab/SpawnKind", "isGameMode", "()Z"⟩ : MethodName)) (z := (⟨"com/example/battlement/battlement/prefab/SpawnKind", "isGameMode", "()Z"⟩ : MethodName)) hown (mvT hZ w8) (mvT hZ w9) (notFace_of_selects (args := #[]) (mvT hZ w11)) (mvT hZ w11) (mvT hZ w10) (by decide) (backOf (W := 0) (own_b3 l Z a0 hw [] w_T ((1 : Int32)) h0 n0 Z0 E_w_T F_ordinal_w_T (by decide)) hZ w12 w6 (by decide) (by decide)) q43a q43c (g := (mkF m 25 #[.val (.int p1), .val (.int (1 : Int32)), .val (.ref w_T), .val (.int (1 : Int32))] [(.ref w_T)])) rfl (by rw [hml]; rfl) (Steps.refl _) (argsL := []) (rest := []) (lenOf own_pd2 rfl) rfl (by show 2 * 0 + _ ≤ _; exact Nat.le_of_eq rfl) (hb hby at_25) (fun _ _ => ⟨rfl, eh41, (by decide : 0 + 0 ≤ _), (by decide : 0 + 0 ≤ _)⟩)
    dsimp only [Pt.U, Pt.locs, Pt.cells, Pt.slots] at X43 l43 y43 z43 st43 hQ43
    subst l43 y43 z43
    obtain ⟨rfl, N43q, eh43⟩ := hQ43
    have N43 := Fr.app N41 N43q
    refine own_jump st43 ?_
    show own_Goes p e below _ (T43.setTop (mkF m 28 #[.val (.int p1), .val (.int (1 : Int32)), .val (.ref w_T), .val (.int (1 : Int32))] [(.int (own_gm (1 : Int32)))]))
    refine own_step (fun t k => XS.iloadN X43.here hx rfl (hb hby at_28) rfl k) ?_
    show own_Goes p e below _ (T43.setTop (mkF m 29 #[.val (.int p1), .val (.int (1 : Int32)), .val (.ref w_T), .val (.int (1 : Int32))] [(.int (1 : Int32)), (.int (own_gm (1 : Int32)))]))
    refine own_step (S' := T43.setTop (mkF m 37 #[.val (.int p1), .val (.int (1 : Int32)), .val (.ref w_T), .val (.int (1 : Int32))] [(.int (if (own_gm (1 : Int32)) = (1 : Int32) then (1 : Int32) else (0 : Int32)))])) (fun t k => ?_) ?_
    · show Steps p.tables e below (T43.setTop (mkF m 29 #[.val (.int p1), .val (.int (1 : Int32)), .val (.ref w_T), .val (.int (1 : Int32))] [(.int (1 : Int32)), (.int (own_gm (1 : Int32)))])) _
      by_cases hc44 : (own_gm (1 : Int32)) = (1 : Int32)
      · --
        refine XS.icmpNo X43.here hx rfl (hb hby at_29) rfl (teq hc44).2 ?_
        show Steps p.tables e below (T43.setTop (mkF m 32 #[.val (.int p1), .val (.int (1 : Int32)), .val (.ref w_T), .val (.int (1 : Int32))] [])) _
        refine XS.iconst X43.here hx rfl (hb hby at_32) ?_
        show Steps p.tables e below (T43.setTop (mkF m 33 #[.val (.int p1), .val (.int (1 : Int32)), .val (.ref w_T), .val (.int (1 : Int32))] [(.int (1 : Int32))])) _
        refine XS.goto X43.here hx rfl (pc0 := 33) (pc' := 37) rfl (hb hby at_33) (by decide) (by decide) ?_
        show Steps p.tables e below (T43.setTop (mkF m 37 #[.val (.int p1), .val (.int (1 : Int32)), .val (.ref w_T), .val (.int (1 : Int32))] [(.int (1 : Int32))])) _
        simp only [if_pos hc44] at k
        exact k
      · --
        refine XS.icmpYes X43.here hx rfl (pc0 := 29) (pc' := 36) rfl (hb hby at_29) rfl (feq hc44).2 (by decide) (by decide) ?_
        show Steps p.tables e below (T43.setTop (mkF m 36 #[.val (.int p1), .val (.int (1 : Int32)), .val (.ref w_T), .val (.int (1 : Int32))] [])) _
        refine XS.iconst X43.here hx rfl (hb hby at_36) ?_
        show Steps p.tables e below (T43.setTop (mkF m 37 #[.val (.int p1), .val (.int (1 : Int32)), .val (.ref w_T), .val (.int (1 : Int32))] [(.int (0 : Int32))])) _
        simp only [if_neg hc44] at k
        exact k
    show own_Goes p e below _ (T43.setTop (mkF m 37 #[.val (.int p1), .val (.int (1 : Int32)), .val (.ref w_T), .val (.int (1 : Int32))] [(.int (if (own_gm (1 : Int32)) = (1 : Int32) then (1 : Int32) else (0 : Int32)))]))
    refine own_retL X43 hx hlk Bd.returns (hb hby at_37) (?_ : (if (own_gm (1 : Int32)) = (1 : Int32) then (1 : Int32) else (0 : Int32)) = 1) N43 (by decide) (by decide)
    exact (by decide)
  · --
    show own_Goes p e below _ (s₁.setTop (mkF m 8 #[.val (.int p1), .val (.int (2 : Int32)), .unset, .unset] []))
    refine own_step (fun t k => XS.iloadN X0.here hx rfl (hb hby at_8) rfl k) ?_
    show own_Goes p e below _ (s₁.setTop (mkF m 9 #[.val (.int p1), .val (.int (2 : Int32)), .unset, .unset] [(.int (2 : Int32))]))
    obtain ⟨_, _, ⟨T45, L45, k45, n45⟩, -, X45, ⟨Lc45, hQ45, l45, y45, z45⟩, st45⟩ := Jvm.LawKit.callS X0 hx (y := (⟨"com/example/battlement/battlement/prefab/SpawnKindIsGameModePinLaw", "pick", "(I)Lcom/example/battlement/battlement/prefab/SpawnKind;"⟩ : MethodName)) hown (mvT hZ w1) (mvT hZ w2) (mvT hZ w3) (mvT hZ w4) (by decide) (backOf (W := 0) (own_b1 l Z a0 hw [] (2 : Int32) (w_FFA) (w_T) (w_FFADM) (w_TDM) (w_TCTO) (w_SPECTATOR) (w_HEAL) (w_ORB) (w_FFADM) h0 n0 Z0 S_FFA S_T S_FFADM S_TDM S_TCTO S_SPECTATOR S_HEAL S_ORB O0 rfl) hZ w4 w3 (by decide) (by decide)) (g := (mkF m 9 #[.val (.int p1), .val (.int (2 : Int32)), .unset, .unset] [(.int (2 : Int32))])) rfl (by rw [hml]; rfl) (argsL := [(.int (2 : Int32))]) (rest := []) (lenOf own_pd1 rfl) rfl (by show 2 * 0 + _ ≤ _; exact Nat.le_of_eq rfl) (hb hby at_9) (fun _ _ => ⟨rfl, e0, (by decide : 0 + 0 ≤ _), (by decide : 0 + 0 ≤ _)⟩)
    dsimp only [Pt.U, Pt.locs, Pt.cells, Pt.slots] at X45 l45 y45 z45 st45 hQ45
    subst l45 y45 z45
    obtain ⟨rfl, N45q, eh45⟩ := hQ45
    have N45 := Fr.app N0 N45q
    refine own_step st45 ?_
    show own_Goes p e below _ (T45.setTop (mkF m 12 #[.val (.int p1), .val (.int (2 : Int32)), .unset, .unset] [(.ref w_FFADM)]))
    refine own_step (fun t k => XS.astoreN X45.here hx rfl (hb hby at_12) rfl rfl (l' := #[.val (.int p1), .val (.int (2 : Int32)), .val (.ref w_FFADM), .unset]) rfl k) ?_
    show own_Goes p e below _ (T45.setTop (mkF m 13 #[.val (.int p1), .val (.int (2 : Int32)), .val (.ref w_FFADM), .unset] []))
    refine own_step (fun t k => XS.iloadN X45.here hx rfl (hb hby at_13) rfl k) ?_
    show own_Goes p e below _ (T45.setTop (mkF m 14 #[.val (.int p1), .val (.int (2 : Int32)), .val (.ref w_FFADM), .unset] [(.int (2 : Int32))]))
    refine own_step (fun t k => XS.iconst X45.here hx rfl (hb hby at_14) k) ?_
    show own_Goes p e below _ (T45.setTop (mkF m 15 #[.val (.int p1), .val (.int (2 : Int32)), .val (.ref w_FFADM), .unset] [(.int (4 : Int32)), (.int (2 : Int32))]))
    have hc46 : ¬ ((4 : Int32) < (2 : Int32)) := by decide
    refine own_step (fun t k => XS.icmpNo X45.here hx rfl (hb hby at_15) rfl (flt hc46).2.2.1 k) ?_
    show own_Goes p e below _ (T45.setTop (mkF m 18 #[.val (.int p1), .val (.int (2 : Int32)), .val (.ref w_FFADM), .unset] []))
    refine own_step (fun t k => XS.iconst X45.here hx rfl (hb hby at_18) k) ?_
    show own_Goes p e below _ (T45.setTop (mkF m 19 #[.val (.int p1), .val (.int (2 : Int32)), .val (.ref w_FFADM), .unset] [(.int (1 : Int32))]))
    refine own_step (fun t k => XS.goto X45.here hx rfl (pc0 := 19) (pc' := 23) rfl (hb hby at_19) (by decide) (by decide) k) ?_
    show own_Goes p e below _ (T45.setTop (mkF m 23 #[.val (.int p1), .val (.int (2 : Int32)), .val (.ref w_FFADM), .unset] [(.int (1 : Int32))]))
    refine own_step (fun t k => XS.istoreN X45.here hx rfl (hb hby at_23) rfl (l' := #[.val (.int p1), .val (.int (2 : Int32)), .val (.ref w_FFADM), .val (.int (1 : Int32))]) rfl k) ?_
    show own_Goes p e below _ (T45.setTop (mkF m 24 #[.val (.int p1), .val (.int (2 : Int32)), .val (.ref w_FFADM), .val (.int (1 : Int32))] []))
    refine own_step (fun t k => XS.aloadN X45.here hx rfl (hb hby at_24) rfl rfl k) ?_
    show own_Goes p e below _ (T45.setTop (mkF m 25 #[.val (.int p1), .val (.int (2 : Int32)), .val (.ref w_FFADM), .val (.int (1 : Int32))] [(.ref w_FFADM)]))
    obtain ⟨cq47, kq47, q47a, q47b, q47c⟩ := isOf hZ eh45 E_w_FFADM
    obtain ⟨_, _, ⟨T47, L47, k47, n47⟩, -, X47, ⟨Lc47, hQ47, l47, y47, z47⟩, st47⟩ := X45.virtualBack hx (y := (⟨"com/example/battlement/battlement/prefab/SpawnKind", "isGameMode", "()Z"⟩ : MethodName)) (z := (⟨"com/example/battlement/battlement/prefab/SpawnKind", "isGameMode", "()Z"⟩ : MethodName)) hown (mvT hZ w8) (mvT hZ w9) (notFace_of_selects (args := #[]) (mvT hZ w11)) (mvT hZ w11) (mvT hZ w10) (by decide) (backOf (W := 0) (own_b3 l Z a0 hw [] w_FFADM ((2 : Int32)) h0 n0 Z0 E_w_FFADM F_ordinal_w_FFADM (by decide)) hZ w12 w6 (by decide) (by decide)) q47a q47c (g := (mkF m 25 #[.val (.int p1), .val (.int (2 : Int32)), .val (.ref w_FFADM), .val (.int (1 : Int32))] [(.ref w_FFADM)])) rfl (by rw [hml]; rfl) (Steps.refl _) (argsL := []) (rest := []) (lenOf own_pd2 rfl) rfl (by show 2 * 0 + _ ≤ _; exact Nat.le_of_eq rfl) (hb hby at_25) (fun _ _ => ⟨rfl, eh45, (by decide : 0 + 0 ≤ _), (by decide : 0 + 0 ≤ _)⟩)
    dsimp only [Pt.U, Pt.locs, Pt.cells, Pt.slots] at X47 l47 y47 z47 st47 hQ47
    subst l47 y47 z47
    obtain ⟨rfl, N47q, eh47⟩ := hQ47
    have N47 := Fr.app N45 N47q
    refine own_jump st47 ?_
    show own_Goes p e below _ (T47.setTop (mkF m 28 #[.val (.int p1), .val (.int (2 : Int32)), .val (.ref w_FFADM), .val (.int (1 : Int32))] [(.int (own_gm (2 : Int32)))]))
    refine own_step (fun t k => XS.iloadN X47.here hx rfl (hb hby at_28) rfl k) ?_
    show own_Goes p e below _ (T47.setTop (mkF m 29 #[.val (.int p1), .val (.int (2 : Int32)), .val (.ref w_FFADM), .val (.int (1 : Int32))] [(.int (1 : Int32)), (.int (own_gm (2 : Int32)))]))
    refine own_step (S' := T47.setTop (mkF m 37 #[.val (.int p1), .val (.int (2 : Int32)), .val (.ref w_FFADM), .val (.int (1 : Int32))] [(.int (if (own_gm (2 : Int32)) = (1 : Int32) then (1 : Int32) else (0 : Int32)))])) (fun t k => ?_) ?_
    · show Steps p.tables e below (T47.setTop (mkF m 29 #[.val (.int p1), .val (.int (2 : Int32)), .val (.ref w_FFADM), .val (.int (1 : Int32))] [(.int (1 : Int32)), (.int (own_gm (2 : Int32)))])) _
      by_cases hc48 : (own_gm (2 : Int32)) = (1 : Int32)
      · --
        refine XS.icmpNo X47.here hx rfl (hb hby at_29) rfl (teq hc48).2 ?_
        show Steps p.tables e below (T47.setTop (mkF m 32 #[.val (.int p1), .val (.int (2 : Int32)), .val (.ref w_FFADM), .val (.int (1 : Int32))] [])) _
        refine XS.iconst X47.here hx rfl (hb hby at_32) ?_
        show Steps p.tables e below (T47.setTop (mkF m 33 #[.val (.int p1), .val (.int (2 : Int32)), .val (.ref w_FFADM), .val (.int (1 : Int32))] [(.int (1 : Int32))])) _
        refine XS.goto X47.here hx rfl (pc0 := 33) (pc' := 37) rfl (hb hby at_33) (by decide) (by decide) ?_
        show Steps p.tables e below (T47.setTop (mkF m 37 #[.val (.int p1), .val (.int (2 : Int32)), .val (.ref w_FFADM), .val (.int (1 : Int32))] [(.int (1 : Int32))])) _
        simp only [if_pos hc48] at k
        exact k
      · --
        refine XS.icmpYes X47.here hx rfl (pc0 := 29) (pc' := 36) rfl (hb hby at_29) rfl (feq hc48).2 (by decide) (by decide) ?_
        show Steps p.tables e below (T47.setTop (mkF m 36 #[.val (.int p1), .val (.int (2 : Int32)), .val (.ref w_FFADM), .val (.int (1 : Int32))] [])) _
        refine XS.iconst X47.here hx rfl (hb hby at_36) ?_
        show Steps p.tables e below (T47.setTop (mkF m 37 #[.val (.int p1), .val (.int (2 : Int32)), .val (.ref w_FFADM), .val (.int (1 : Int32))] [(.int (0 : Int32))])) _
        simp only [if_neg hc48] at k
        exact k
    show own_Goes p e below _ (T47.setTop (mkF m 37 #[.val (.int p1), .val (.int (2 : Int32)), .val (.ref w_FFADM), .val (.int (1 : Int32))] [(.int (if (own_gm (2 : Int32)) = (1 : Int32) then (1 : Int32) else (0 : Int32)))]))
    refine own_retL X47 hx hlk Bd.returns (hb hby at_37) (?_ : (if (own_gm (2 : Int32)) = (1 : Int32) then (1 : Int32) else (0 : Int32)) = 1) N47 (by decide) (by decide)
    exact (by decide)
  · --
    show own_Goes p e below _ (s₁.setTop (mkF m 8 #[.val (.int p1), .val (.int (3 : Int32)), .unset, .unset] []))
    refine own_step (fun t k => XS.iloadN X0.here hx rfl (hb hby at_8) rfl k) ?_
    show own_Goes p e below _ (s₁.setTop (mkF m 9 #[.val (.int p1), .val (.int (3 : Int32)), .unset, .unset] [(.int (3 : Int32))]))
    obtain ⟨_, _, ⟨T49, L49, k49, n49⟩, -, X49, ⟨Lc49, hQ49, l49, y49, z49⟩, st49⟩ := Jvm.LawKit.callS X0 hx (y := (⟨"com/example/battlement/battlement/prefab/SpawnKindIsGameModePinLaw", "pick", "(I)Lcom/example/battlement/battlement/prefab/SpawnKind;"⟩ : MethodName)) hown (mvT hZ w1) (mvT hZ w2) (mvT hZ w3) (mvT hZ w4) (by decide) (backOf (W := 0) (own_b1 l Z a0 hw [] (3 : Int32) (w_FFA) (w_T) (w_FFADM) (w_TDM) (w_TCTO) (w_SPECTATOR) (w_HEAL) (w_ORB) (w_TDM) h0 n0 Z0 S_FFA S_T S_FFADM S_TDM S_TCTO S_SPECTATOR S_HEAL S_ORB O0 rfl) hZ w4 w3 (by decide) (by decide)) (g := (mkF m 9 #[.val (.int p1), .val (.int (3 : Int32)), .unset, .unset] [(.int (3 : Int32))])) rfl (by rw [hml]; rfl) (argsL := [(.int (3 : Int32))]) (rest := []) (lenOf own_pd1 rfl) rfl (by show 2 * 0 + _ ≤ _; exact Nat.le_of_eq rfl) (hb hby at_9) (fun _ _ => ⟨rfl, e0, (by decide : 0 + 0 ≤ _), (by decide : 0 + 0 ≤ _)⟩)
    dsimp only [Pt.U, Pt.locs, Pt.cells, Pt.slots] at X49 l49 y49 z49 st49 hQ49
    subst l49 y49 z49
    obtain ⟨rfl, N49q, eh49⟩ := hQ49
    have N49 := Fr.app N0 N49q
    refine own_step st49 ?_
    show own_Goes p e below _ (T49.setTop (mkF m 12 #[.val (.int p1), .val (.int (3 : Int32)), .unset, .unset] [(.ref w_TDM)]))
    refine own_step (fun t k => XS.astoreN X49.here hx rfl (hb hby at_12) rfl rfl (l' := #[.val (.int p1), .val (.int (3 : Int32)), .val (.ref w_TDM), .unset]) rfl k) ?_
    show own_Goes p e below _ (T49.setTop (mkF m 13 #[.val (.int p1), .val (.int (3 : Int32)), .val (.ref w_TDM), .unset] []))
    refine own_step (fun t k => XS.iloadN X49.here hx rfl (hb hby at_13) rfl k) ?_
    show own_Goes p e below _ (T49.setTop (mkF m 14 #[.val (.int p1), .val (.int (3 : Int32)), .val (.ref w_TDM), .unset] [(.int (3 : Int32))]))
    refine own_step (fun t k => XS.iconst X49.here hx rfl (hb hby at_14) k) ?_
    show own_Goes p e below _ (T49.setTop (mkF m 15 #[.val (.int p1), .val (.int (3 : Int32)), .val (.ref w_TDM), .unset] [(.int (4 : Int32)), (.int (3 : Int32))]))
    have hc50 : ¬ ((4 : Int32) < (3 : Int32)) := by decide
    refine own_step (fun t k => XS.icmpNo X49.here hx rfl (hb hby at_15) rfl (flt hc50).2.2.1 k) ?_
    show own_Goes p e below _ (T49.setTop (mkF m 18 #[.val (.int p1), .val (.int (3 : Int32)), .val (.ref w_TDM), .unset] []))
    refine own_step (fun t k => XS.iconst X49.here hx rfl (hb hby at_18) k) ?_
    show own_Goes p e below _ (T49.setTop (mkF m 19 #[.val (.int p1), .val (.int (3 : Int32)), .val (.ref w_TDM), .unset] [(.int (1 : Int32))]))
    refine own_step (fun t k => XS.goto X49.here hx rfl (pc0 := 19) (pc' := 23) rfl (hb hby at_19) (by decide) (by decide) k) ?_
    show own_Goes p e below _ (T49.setTop (mkF m 23 #[.val (.int p1), .val (.int (3 : Int32)), .val (.ref w_TDM), .unset] [(.int (1 : Int32))]))
    refine own_step (fun t k => XS.istoreN X49.here hx rfl (hb hby at_23) rfl (l' := #[.val (.int p1), .val (.int (3 : Int32)), .val (.ref w_TDM), .val (.int (1 : Int32))]) rfl k) ?_
    show own_Goes p e below _ (T49.setTop (mkF m 24 #[.val (.int p1), .val (.int (3 : Int32)), .val (.ref w_TDM), .val (.int (1 : Int32))] []))
    refine own_step (fun t k => XS.aloadN X49.here hx rfl (hb hby at_24) rfl rfl k) ?_
    show own_Goes p e below _ (T49.setTop (mkF m 25 #[.val (.int p1), .val (.int (3 : Int32)), .val (.ref w_TDM), .val (.int (1 : Int32))] [(.ref w_TDM)]))
    obtain ⟨cq51, kq51, q51a, q51b, q51c⟩ := isOf hZ eh49 E_w_TDM
    obtain ⟨_, _, ⟨T51, L51, k51, n51⟩, -, X51, ⟨Lc51, hQ51, l51, y51, z51⟩, st51⟩ := X49.virtualBack hx (y := (⟨"com/example/battlement/battlement/prefab/SpawnKind", "isGameMode", "()Z"⟩ : MethodName)) (z := (⟨"com/example/battlement/battlement/prefab/SpawnKind", "isGameMode", "()Z"⟩ : MethodName)) hown (mvT hZ w8) (mvT hZ w9) (notFace_of_selects (args := #[]) (mvT hZ w11)) (mvT hZ w11) (mvT hZ w10) (by decide) (backOf (W := 0) (own_b3 l Z a0 hw [] w_TDM ((3 : Int32)) h0 n0 Z0 E_w_TDM F_ordinal_w_TDM (by decide)) hZ w12 w6 (by decide) (by decide)) q51a q51c (g := (mkF m 25 #[.val (.int p1), .val (.int (3 : Int32)), .val (.ref w_TDM), .val (.int (1 : Int32))] [(.ref w_TDM)])) rfl (by rw [hml]; rfl) (Steps.refl _) (argsL := []) (rest := []) (lenOf own_pd2 rfl) rfl (by show 2 * 0 + _ ≤ _; exact Nat.le_of_eq rfl) (hb hby at_25) (fun _ _ => ⟨rfl, eh49, (by decide : 0 + 0 ≤ _), (by decide : 0 + 0 ≤ _)⟩)
    dsimp only [Pt.U, Pt.locs, Pt.cells, Pt.slots] at X51 l51 y51 z51 st51 hQ51
    subst l51 y51 z51
    obtain ⟨rfl, N51q, eh51⟩ := hQ51
    have N51 := Fr.app N49 N51q
    refine own_jump st51 ?_
    show own_Goes p e below _ (T51.setTop (mkF m 28 #[.val (.int p1), .val (.int (3 : Int32)), .val (.ref w_TDM), .val (.int (1 : Int32))] [(.int (own_gm (3 : Int32)))]))
    refine own_step (fun t k => XS.iloadN X51.here hx rfl (hb hby at_28) rfl k) ?_
    show own_Goes p e below _ (T51.setTop (mkF m 29 #[.val (.int p1), .val (.int (3 : Int32)), .val (.ref w_TDM), .val (.int (1 : Int32))] [(.int (1 : Int32)), (.int (own_gm (3 : Int32)))]))
    refine own_step (S' := T51.setTop (mkF m 37 #[.val (.int p1), .val (.int (3 : Int32)), .val (.ref w_TDM), .val (.int (1 : Int32))] [(.int (if (own_gm (3 : Int32)) = (1 : Int32) then (1 : Int32) else (0 : Int32)))])) (fun t k => ?_) ?_
    · show Steps p.tables e below (T51.setTop (mkF m 29 #[.val (.int p1), .val (.int (3 : Int32)), .val (.ref w_TDM), .val (.int (1 : Int32))] [(.int (1 : Int32)), (.int (own_gm (3 : Int32)))])) _
      by_cases hc52 : (own_gm (3 : Int32)) = (1 : Int32)
      · --
        refine XS.icmpNo X51.here hx rfl (hb hby at_29) rfl (teq hc52).2 ?_
        show Steps p.tables e below (T51.setTop (mkF m 32 #[.val (.int p1), .val (.int (3 : Int32)), .val (.ref w_TDM), .val (.int (1 : Int32))] [])) _
        refine XS.iconst X51.here hx rfl (hb hby at_32) ?_
        show Steps p.tables e below (T51.setTop (mkF m 33 #[.val (.int p1), .val (.int (3 : Int32)), .val (.ref w_TDM), .val (.int (1 : Int32))] [(.int (1 : Int32))])) _
        refine XS.goto X51.here hx rfl (pc0 := 33) (pc' := 37) rfl (hb hby at_33) (by decide) (by decide) ?_
        show Steps p.tables e below (T51.setTop (mkF m 37 #[.val (.int p1), .val (.int (3 : Int32)), .val (.ref w_TDM), .val (.int (1 : Int32))] [(.int (1 : Int32))])) _
        simp only [if_pos hc52] at k
        exact k
      · --
        refine XS.icmpYes X51.here hx rfl (pc0 := 29) (pc' := 36) rfl (hb hby at_29) rfl (feq hc52).2 (by decide) (by decide) ?_
        show Steps p.tables e below (T51.setTop (mkF m 36 #[.val (.int p1), .val (.int (3 : Int32)), .val (.ref w_TDM), .val (.int (1 : Int32))] [])) _
        refine XS.iconst X51.here hx rfl (hb hby at_36) ?_
        show Steps p.tables e below (T51.setTop (mkF m 37 #[.val (.int p1), .val (.int (3 : Int32)), .val (.ref w_TDM), .val (.int (1 : Int32))] [(.int (0 : Int32))])) _
        simp only [if_neg hc52] at k
        exact k
    show own_Goes p e below _ (T51.setTop (mkF m 37 #[.val (.int p1), .val (.int (3 : Int32)), .val (.ref w_TDM), .val (.int (1 : Int32))] [(.int (if (own_gm (3 : Int32)) = (1 : Int32) then (1 : Int32) else (0 : Int32)))]))
    refine own_retL X51 hx hlk Bd.returns (hb hby at_37) (?_ : (if (own_gm (3 : Int32)) = (1 : Int32) then (1 : Int32) else (0 : Int32)) = 1) N51 (by decide) (by decide)
    exact (by decide)
  · --
    show own_Goes p e below _ (s₁.setTop (mkF m 8 #[.val (.int p1), .val (.int (4 : Int32)), .unset, .unset] []))
    refine own_step (fun t k => XS.iloadN X0.here hx rfl (hb hby at_8) rfl k) ?_
    show own_Goes p e below _ (s₁.setTop (mkF m 9 #[.val (.int p1), .val (.int (4 : Int32)), .unset, .unset] [(.int (4 : Int32))]))
    obtain ⟨_, _, ⟨T53, L53, k53, n53⟩, -, X53, ⟨Lc53, hQ53, l53, y53, z53⟩, st53⟩ := Jvm.LawKit.callS X0 hx (y := (⟨"com/example/battlement/battlement/prefab/SpawnKindIsGameModePinLaw", "pick", "(I)Lcom/example/battlement/battlement/prefab/SpawnKind;"⟩ : MethodName)) hown (mvT hZ w1) (mvT hZ w2) (mvT hZ w3) (mvT hZ w4) (by decide) (backOf (W := 0) (own_b1 l Z a0 hw [] (4 : Int32) (w_FFA) (w_T) (w_FFADM) (w_TDM) (w_TCTO) (w_SPECTATOR) (w_HEAL) (w_ORB) (w_TCTO) h0 n0 Z0 S_FFA S_T S_FFADM S_TDM S_TCTO S_SPECTATOR S_HEAL S_ORB O0 rfl) hZ w4 w3 (by decide) (by decide)) (g := (mkF m 9 #[.val (.int p1), .val (.int (4 : Int32)), .unset, .unset] [(.int (4 : Int32))])) rfl (by rw [hml]; rfl) (argsL := [(.int (4 : Int32))]) (rest := []) (lenOf own_pd1 rfl) rfl (by show 2 * 0 + _ ≤ _; exact Nat.le_of_eq rfl) (hb hby at_9) (fun _ _ => ⟨rfl, e0, (by decide : 0 + 0 ≤ _), (by decide : 0 + 0 ≤ _)⟩)
    dsimp only [Pt.U, Pt.locs, Pt.cells, Pt.slots] at X53 l53 y53 z53 st53 hQ53
    subst l53 y53 z53
    obtain ⟨rfl, N53q, eh53⟩ := hQ53
    have N53 := Fr.app N0 N53q
    refine own_step st53 ?_
    show own_Goes p e below _ (T53.setTop (mkF m 12 #[.val (.int p1), .val (.int (4 : Int32)), .unset, .unset] [(.ref w_TCTO)]))
    refine own_step (fun t k => XS.astoreN X53.here hx rfl (hb hby at_12) rfl rfl (l' := #[.val (.int p1), .val (.int (4 : Int32)), .val (.ref w_TCTO), .unset]) rfl k) ?_
    show own_Goes p e below _ (T53.setTop (mkF m 13 #[.val (.int p1), .val (.int (4 : Int32)), .val (.ref w_TCTO), .unset] []))
    refine own_step (fun t k => XS.iloadN X53.here hx rfl (hb hby at_13) rfl k) ?_
    show own_Goes p e below _ (T53.setTop (mkF m 14 #[.val (.int p1), .val (.int (4 : Int32)), .val (.ref w_TCTO), .unset] [(.int (4 : Int32))]))
    refine own_step (fun t k => XS.iconst X53.here hx rfl (hb hby at_14) k) ?_
    show own_Goes p e below _ (T53.setTop (mkF m 15 #[.val (.int p1), .val (.int (4 : Int32)), .val (.ref w_TCTO), .unset] [(.int (4 : Int32)), (.int (4 : Int32))]))
    have hc54 : ¬ ((4 : Int32) < (4 : Int32)) := by decide
    refine own_step (fun t k => XS.icmpNo X53.here hx rfl (hb hby at_15) rfl (flt hc54).2.2.1 k) ?_
    show own_Goes p e below _ (T53.setTop (mkF m 18 #[.val (.int p1), .val (.int (4 : Int32)), .val (.ref w_TCTO), .unset] []))
    refine own_step (fun t k => XS.iconst X53.here hx rfl (hb hby at_18) k) ?_
    show own_Goes p e below _ (T53.setTop (mkF m 19 #[.val (.int p1), .val (.int (4 : Int32)), .val (.ref w_TCTO), .unset] [(.int (1 : Int32))]))
    refine own_step (fun t k => XS.goto X53.here hx rfl (pc0 := 19) (pc' := 23) rfl (hb hby at_19) (by decide) (by decide) k) ?_
    show own_Goes p e below _ (T53.setTop (mkF m 23 #[.val (.int p1), .val (.int (4 : Int32)), .val (.ref w_TCTO), .unset] [(.int (1 : Int32))]))
    refine own_step (fun t k => XS.istoreN X53.here hx rfl (hb hby at_23) rfl (l' := #[.val (.int p1), .val (.int (4 : Int32)), .val (.ref w_TCTO), .val (.int (1 : Int32))]) rfl k) ?_
    show own_Goes p e below _ (T53.setTop (mkF m 24 #[.val (.int p1), .val (.int (4 : Int32)), .val (.ref w_TCTO), .val (.int (1 : Int32))] []))
    refine own_step (fun t k => XS.aloadN X53.here hx rfl (hb hby at_24) rfl rfl k) ?_
    show own_Goes p e below _ (T53.setTop (mkF m 25 #[.val (.int p1), .val (.int (4 : Int32)), .val (.ref w_TCTO), .val (.int (1 : Int32))] [(.ref w_TCTO)]))
    obtain ⟨cq55, kq55, q55a, q55b, q55c⟩ := isOf hZ eh53 E_w_TCTO
    obtain ⟨_, _, ⟨T55, L55, k55, n55⟩, -, X55, ⟨Lc55, hQ55, l55, y55, z55⟩, st55⟩ := X53.virtualBack hx (y := (⟨"com/example/battlement/battlement/prefab/SpawnKind", "isGameMode", "()Z"⟩ : MethodName)) (z := (⟨"com/example/battlement/battlement/prefab/SpawnKind", "isGameMode", "()Z"⟩ : MethodName)) hown (mvT hZ w8) (mvT hZ w9) (notFace_of_selects (args := #[]) (mvT hZ w11)) (mvT hZ w11) (mvT hZ w10) (by decide) (backOf (W := 0) (own_b3 l Z a0 hw [] w_TCTO ((4 : Int32)) h0 n0 Z0 E_w_TCTO F_ordinal_w_TCTO (by decide)) hZ w12 w6 (by decide) (by decide)) q55a q55c (g := (mkF m 25 #[.val (.int p1), .val (.int (4 : Int32)), .val (.ref w_TCTO), .val (.int (1 : Int32))] [(.ref w_TCTO)])) rfl (by rw [hml]; rfl) (Steps.refl _) (argsL := []) (rest := []) (lenOf own_pd2 rfl) rfl (by show 2 * 0 + _ ≤ _; exact Nat.le_of_eq rfl) (hb hby at_25) (fun _ _ => ⟨rfl, eh53, (by decide : 0 + 0 ≤ _), (by decide : 0 + 0 ≤ _)⟩)
    dsimp only [Pt.U, Pt.locs, Pt.cells, Pt.slots] at X55 l55 y55 z55 st55 hQ55
    subst l55 y55 z55
    obtain ⟨rfl, N55q, eh55⟩ := hQ55
    have N55 := Fr.app N53 N55q
    refine own_jump st55 ?_
    show own_Goes p e below _ (T55.setTop (mkF m 28 #[.val (.int p1), .val (.int (4 : Int32)), .val (.ref w_TCTO), .val (.int (1 : Int32))] [(.int (own_gm (4 : Int32)))]))
    refine own_step (fun t k => XS.iloadN X55.here hx rfl (hb hby at_28) rfl k) ?_
    show own_Goes p e below _ (T55.setTop (mkF m 29 #[.val (.int p1), .val (.int (4 : Int32)), .val (.ref w_TCTO), .val (.int (1 : Int32))] [(.int (1 : Int32)), (.int (own_gm (4 : Int32)))]))
    refine own_step (S' := T55.setTop (mkF m 37 #[.val (.int p1), .val (.int (4 : Int32)), .val (.ref w_TCTO), .val (.int (1 : Int32))] [(.int (if (own_gm (4 : Int32)) = (1 : Int32) then (1 : Int32) else (0 : Int32)))])) (fun t k => ?_) ?_
    · show Steps p.tables e below (T55.setTop (mkF m 29 #[.val (.int p1), .val (.int (4 : Int32)), .val (.ref w_TCTO), .val (.int (1 : Int32))] [(.int (1 : Int32)), (.int (own_gm (4 : Int32)))])) _
      by_cases hc56 : (own_gm (4 : Int32)) = (1 : Int32)
      · --
        refine XS.icmpNo X55.here hx rfl (hb hby at_29) rfl (teq hc56).2 ?_
        show Steps p.tables e below (T55.setTop (mkF m 32 #[.val (.int p1), .val (.int (4 : Int32)), .val (.ref w_TCTO), .val (.int (1 : Int32))] [])) _
        refine XS.iconst X55.here hx rfl (hb hby at_32) ?_
        show Steps p.tables e below (T55.setTop (mkF m 33 #[.val (.int p1), .val (.int (4 : Int32)), .val (.ref w_TCTO), .val (.int (1 : Int32))] [(.int (1 : Int32))])) _
        refine XS.goto X55.here hx rfl (pc0 := 33) (pc' := 37) rfl (hb hby at_33) (by decide) (by decide) ?_
        show Steps p.tables e below (T55.setTop (mkF m 37 #[.val (.int p1), .val (.int (4 : Int32)), .val (.ref w_TCTO), .val (.int (1 : Int32))] [(.int (1 : Int32))])) _
        simp only [if_pos hc56] at k
        exact k
      · --
        refine XS.icmpYes X55.here hx rfl (pc0 := 29) (pc' := 36) rfl (hb hby at_29) rfl (feq hc56).2 (by decide) (by decide) ?_
        show Steps p.tables e below (T55.setTop (mkF m 36 #[.val (.int p1), .val (.int (4 : Int32)), .val (.ref w_TCTO), .val (.int (1 : Int32))] [])) _
        refine XS.iconst X55.here hx rfl (hb hby at_36) ?_
        show Steps p.tables e below (T55.setTop (mkF m 37 #[.val (.int p1), .val (.int (4 : Int32)), .val (.ref w_TCTO), .val (.int (1 : Int32))] [(.int (0 : Int32))])) _
        simp only [if_neg hc56] at k
        exact k
    show own_Goes p e below _ (T55.setTop (mkF m 37 #[.val (.int p1), .val (.int (4 : Int32)), .val (.ref w_TCTO), .val (.int (1 : Int32))] [(.int (if (own_gm (4 : Int32)) = (1 : Int32) then (1 : Int32) else (0 : Int32)))]))
    refine own_retL X55 hx hlk Bd.returns (hb hby at_37) (?_ : (if (own_gm (4 : Int32)) = (1 : Int32) then (1 : Int32) else (0 : Int32)) = 1) N55 (by decide) (by decide)
    exact (by decide)
  · --
    show own_Goes p e below _ (s₁.setTop (mkF m 8 #[.val (.int p1), .val (.int (5 : Int32)), .unset, .unset] []))
    refine own_step (fun t k => XS.iloadN X0.here hx rfl (hb hby at_8) rfl k) ?_
    show own_Goes p e below _ (s₁.setTop (mkF m 9 #[.val (.int p1), .val (.int (5 : Int32)), .unset, .unset] [(.int (5 : Int32))]))
    obtain ⟨_, _, ⟨T57, L57, k57, n57⟩, -, X57, ⟨Lc57, hQ57, l57, y57, z57⟩, st57⟩ := Jvm.LawKit.callS X0 hx (y := (⟨"com/example/battlement/battlement/prefab/SpawnKindIsGameModePinLaw", "pick", "(I)Lcom/example/battlement/battlement/prefab/SpawnKind;"⟩ : MethodName)) hown (mvT hZ w1) (mvT hZ w2) (mvT hZ w3) (mvT hZ w4) (by decide) (backOf (W := 0) (own_b1 l Z a0 hw [] (5 : Int32) (w_FFA) (w_T) (w_FFADM) (w_TDM) (w_TCTO) (w_SPECTATOR) (w_HEAL) (w_ORB) (w_SPECTATOR) h0 n0 Z0 S_FFA S_T S_FFADM S_TDM S_TCTO S_SPECTATOR S_HEAL S_ORB O0 rfl) hZ w4 w3 (by decide) (by decide)) (g := (mkF m 9 #[.val (.int p1), .val (.int (5 : Int32)), .unset, .unset] [(.int (5 : Int32))])) rfl (by rw [hml]; rfl) (argsL := [(.int (5 : Int32))]) (rest := []) (lenOf own_pd1 rfl) rfl (by show 2 * 0 + _ ≤ _; exact Nat.le_of_eq rfl) (hb hby at_9) (fun _ _ => ⟨rfl, e0, (by decide : 0 + 0 ≤ _), (by decide : 0 + 0 ≤ _)⟩)
    dsimp only [Pt.U, Pt.locs, Pt.cells, Pt.slots] at X57 l57 y57 z57 st57 hQ57
    subst l57 y57 z57
    obtain ⟨rfl, N57q, eh57⟩ := hQ57
    have N57 := Fr.app N0 N57q
    refine own_step st57 ?_
    show own_Goes p e below _ (T57.setTop (mkF m 12 #[.val (.int p1), .val (.int (5 : Int32)), .unset, .unset] [(.ref w_SPECTATOR)]))
    refine own_step (fun t k => XS.astoreN X57.here hx rfl (hb hby at_12) rfl rfl (l' := #[.val (.int p1), .val (.int (5 : Int32)), .val (.ref w_SPECTATOR), .unset]) rfl k) ?_
    show own_Goes p e below _ (T57.setTop (mkF m 13 #[.val (.int p1), .val (.int (5 : Int32)), .val (.ref w_SPECTATOR), .unset] []))
    refine own_step (fun t k => XS.iloadN X57.here hx rfl (hb hby at_13) rfl k) ?_
    show own_Goes p e below _ (T57.setTop (mkF m 14 #[.val (.int p1), .val (.int (5 : Int32)), .val (.ref w_SPECTATOR), .unset] [(.int (5 : Int32))]))
    refine own_step (fun t k => XS.iconst X57.here hx rfl (hb hby at_14) k) ?_
    show own_Goes p e below _ (T57.setTop (mkF m 15 #[.val (.int p1), .val (.int (5 : Int32)), .val (.ref w_SPECTATOR), .unset] [(.int (4 : Int32)), (.int (5 : Int32))]))
    have hc58 : (4 : Int32) < (5 : Int32) := by decide
    refine own_step (fun t k => XS.icmpYes X57.here hx rfl (pc0 := 15) (pc' := 22) rfl (hb hby at_15) rfl (tlt hc58).2.2.1 (by decide) (by decide) k) ?_
    show own_Goes p e below _ (T57.setTop (mkF m 22 #[.val (.int p1), .val (.int (5 : Int32)), .val (.ref w_SPECTATOR), .unset] []))
    refine own_step (fun t k => XS.iconst X57.here hx rfl (hb hby at_22) k) ?_
    show own_Goes p e below _ (T57.setTop (mkF m 23 #[.val (.int p1), .val (.int (5 : Int32)), .val (.ref w_SPECTATOR), .unset] [(.int (0 : Int32))]))
    refine own_step (fun t k => XS.istoreN X57.here hx rfl (hb hby at_23) rfl (l' := #[.val (.int p1), .val (.int (5 : Int32)), .val (.ref w_SPECTATOR), .val (.int (0 : Int32))]) rfl k) ?_
    show own_Goes p e below _ (T57.setTop (mkF m 24 #[.val (.int p1), .val (.int (5 : Int32)), .val (.ref w_SPECTATOR), .val (.int (0 : Int32))] []))
    refine own_step (fun t k => XS.aloadN X57.here hx rfl (hb hby at_24) rfl rfl k) ?_
    show own_Goes p e below _ (T57.setTop (mkF m 25 #[.val (.int p1), .val (.int (5 : Int32)), .val (.ref w_SPECTATOR), .val (.int (0 : Int32))] [(.ref w_SPECTATOR)]))
    obtain ⟨cq59, kq59, q59a, q59b, q59c⟩ := isOf hZ eh57 E_w_SPECTATOR
    obtain ⟨_, _, ⟨T59, L59, k59, n59⟩, -, X59, ⟨Lc59, hQ59, l59, y59, z59⟩, st59⟩ := X57.virtualBack hx (y := (⟨"com/example/battlement/battlement/prefab/SpawnKind", "isGameMode", "()Z"⟩ : MethodName)) (z := (⟨"com/example/battlement/battlement/prefab/SpawnKind", "isGameMode", "()Z"⟩ : MethodName)) hown (mvT hZ w8) (mvT hZ w9) (notFace_of_selects (args := #[]) (mvT hZ w11)) (mvT hZ w11) (mvT hZ w10) (by decide) (backOf (W := 0) (own_b3 l Z a0 hw [] w_SPECTATOR ((5 : Int32)) h0 n0 Z0 E_w_SPECTATOR F_ordinal_w_SPECTATOR (by decide)) hZ w12 w6 (by decide) (by decide)) q59a q59c (g := (mkF m 25 #[.val (.int p1), .val (.int (5 : Int32)), .val (.ref w_SPECTATOR), .val (.int (0 : Int32))] [(.ref w_SPECTATOR)])) rfl (by rw [hml]; rfl) (Steps.refl _) (argsL := []) (rest := []) (lenOf own_pd2 rfl) rfl (by show 2 * 0 + _ ≤ _; exact Nat.le_of_eq rfl) (hb hby at_25) (fun _ _ => ⟨rfl, eh57, (by decide : 0 + 0 ≤ _), (by decide : 0 + 0 ≤ _)⟩)
    dsimp only [Pt.U, Pt.locs, Pt.cells, Pt.slots] at X59 l59 y59 z59 st59 hQ59
    subst l59 y59 z59
    obtain ⟨rfl, N59q, eh59⟩ := hQ59
    have N59 := Fr.app N57 N59q
    refine own_jump st59 ?_
    show own_Goes p e below _ (T59.setTop (mkF m 28 #[.val (.int p1), .val (.int (5 : Int32)), .val (.ref w_SPECTATOR), .val (.int (0 : Int32))] [(.int (own_gm (5 : Int32)))]))
    refine own_step (fun t k => XS.iloadN X59.here hx rfl (hb hby at_28) rfl k) ?_
    show own_Goes p e below _ (T59.setTop (mkF m 29 #[.val (.int p1), .val (.int (5 : Int32)), .val (.ref w_SPECTATOR), .val (.int (0 : Int32))] [(.int (0 : Int32)), (.int (own_gm (5 : Int32)))]))
    refine own_step (S' := T59.setTop (mkF m 37 #[.val (.int p1), .val (.int (5 : Int32)), .val (.ref w_SPECTATOR), .val (.int (0 : Int32))] [(.int (if (own_gm (5 : Int32)) = (0 : Int32) then (1 : Int32) else (0 : Int32)))])) (fun t k => ?_) ?_
    · show Steps p.tables e below (T59.setTop (mkF m 29 #[.val (.int p1), .val (.int (5 : Int32)), .val (.ref w_SPECTATOR), .val (.int (0 : Int32))] [(.int (0 : Int32)), (.int (own_gm (5 : Int32)))])) _
      by_cases hc60 : (own_gm (5 : Int32)) = (0 : Int32)
      · --
        refine XS.icmpNo X59.here hx rfl (hb hby at_29) rfl (teq hc60).2 ?_
        show Steps p.tables e below (T59.setTop (mkF m 32 #[.val (.int p1), .val (.int (5 : Int32)), .val (.ref w_SPECTATOR), .val (.int (0 : Int32))] [])) _
        refine XS.iconst X59.here hx rfl (hb hby at_32) ?_
        show Steps p.tables e below (T59.setTop (mkF m 33 #[.val (.int p1), .val (.int (5 : Int32)), .val (.ref w_SPECTATOR), .val (.int (0 : Int32))] [(.int (1 : Int32))])) _
        refine XS.goto X59.here hx rfl (pc0 := 33) (pc' := 37) rfl (hb hby at_33) (by decide) (by decide) ?_
        show Steps p.tables e below (T59.setTop (mkF m 37 #[.val (.int p1), .val (.int (5 : Int32)), .val (.ref w_SPECTATOR), .val (.int (0 : Int32))] [(.int (1 : Int32))])) _
        simp only [if_pos hc60] at k
        exact k
      · --
        refine XS.icmpYes X59.here hx rfl (pc0 := 29) (pc' := 36) rfl (hb hby at_29) rfl (feq hc60).2 (by decide) (by decide) ?_
        show Steps p.tables e below (T59.setTop (mkF m 36 #[.val (.int p1), .val (.int (5 : Int32)), .val (.ref w_SPECTATOR), .val (.int (0 : Int32))] [])) _
        refine XS.iconst X59.here hx rfl (hb hby at_36) ?_
        show Steps p.tables e below (T59.setTop (mkF m 37 #[.val (.int p1), .val (.int (5 : Int32)), .val (.ref w_SPECTATOR), .val (.int (0 : Int32))] [(.int (0 : Int32))])) _
        simp only [if_neg hc60] at k
        exact k
    show own_Goes p e below _ (T59.setTop (mkF m 37 #[.val (.int p1), .val (.int (5 : Int32)), .val (.ref w_SPECTATOR), .val (.int (0 : Int32))] [(.int (if (own_gm (5 : Int32)) = (0 : Int32) then (1 : Int32) else (0 : Int32)))]))
    refine own_retL X59 hx hlk Bd.returns (hb hby at_37) (?_ : (if (own_gm (5 : Int32)) = (0 : Int32) then (1 : Int32) else (0 : Int32)) = 1) N59 (by decide) (by decide)
    exact (by decide)
  · --
    show own_Goes p e below _ (s₁.setTop (mkF m 8 #[.val (.int p1), .val (.int (6 : Int32)), .unset, .unset] []))
    refine own_step (fun t k => XS.iloadN X0.here hx rfl (hb hby at_8) rfl k) ?_
    show own_Goes p e below _ (s₁.setTop (mkF m 9 #[.val (.int p1), .val (.int (6 : Int32)), .unset, .unset] [(.int (6 : Int32))]))
    obtain ⟨_, _, ⟨T61, L61, k61, n61⟩, -, X61, ⟨Lc61, hQ61, l61, y61, z61⟩, st61⟩ := Jvm.LawKit.callS X0 hx (y := (⟨"com/example/battlement/battlement/prefab/SpawnKindIsGameModePinLaw", "pick", "(I)Lcom/example/battlement/battlement/prefab/SpawnKind;"⟩ : MethodName)) hown (mvT hZ w1) (mvT hZ w2) (mvT hZ w3) (mvT hZ w4) (by decide) (backOf (W := 0) (own_b1 l Z a0 hw [] (6 : Int32) (w_FFA) (w_T) (w_FFADM) (w_TDM) (w_TCTO) (w_SPECTATOR) (w_HEAL) (w_ORB) (w_HEAL) h0 n0 Z0 S_FFA S_T S_FFADM S_TDM S_TCTO S_SPECTATOR S_HEAL S_ORB O0 rfl) hZ w4 w3 (by decide) (by decide)) (g := (mkF m 9 #[.val (.int p1), .val (.int (6 : Int32)), .unset, .unset] [(.int (6 : Int32))])) rfl (by rw [hml]; rfl) (argsL := [(.int (6 : Int32))]) (rest := []) (lenOf own_pd1 rfl) rfl (by show 2 * 0 + _ ≤ _; exact Nat.le_of_eq rfl) (hb hby at_9) (fun _ _ => ⟨rfl, e0, (by decide : 0 + 0 ≤ _), (by decide : 0 + 0 ≤ _)⟩)
    dsimp only [Pt.U, Pt.locs, Pt.cells, Pt.slots] at X61 l61 y61 z61 st61 hQ61
    subst l61 y61 z61
    obtain ⟨rfl, N61q, eh61⟩ := hQ61
    have N61 := Fr.app N0 N61q
    refine own_step st61 ?_
    show own_Goes p e below _ (T61.setTop (mkF m 12 #[.val (.int p1), .val (.int (6 : Int32)), .unset, .unset] [(.ref w_HEAL)]))
    refine own_step (fun t k => XS.astoreN X61.here hx rfl (hb hby at_12) rfl rfl (l' := #[.val (.int p1), .val (.int (6 : Int32)), .val (.ref w_HEAL), .unset]) rfl k) ?_
    show own_Goes p e below _ (T61.setTop (mkF m 13 #[.val (.int p1), .val (.int (6 : Int32)), .val (.ref w_HEAL), .unset] []))
    refine own_step (fun t k => XS.iloadN X61.here hx rfl (hb hby at_13) rfl k) ?_
    show own_Goes p e below _ (T61.setTop (mkF m 14 #[.val (.int p1), .val (.int (6 : Int32)), .val (.ref w_HEAL), .unset] [(.int (6 : Int32))]))
    refine own_step (fun t k => XS.iconst X61.here hx rfl (hb hby at_14) k) ?_
    show own_Goes p e below _ (T61.setTop (mkF m 15 #[.val (.int p1), .val (.int (6 : Int32)), .val (.ref w_HEAL), .unset] [(.int (4 : Int32)), (.int (6 : Int32))]))
    have hc62 : (4 : Int32) < (6 : Int32) := by decide
    refine own_step (fun t k => XS.icmpYes X61.here hx rfl (pc0 := 15) (pc' := 22) rfl (hb hby at_15) rfl (tlt hc62).2.2.1 (by decide) (by decide) k) ?_
    show own_Goes p e below _ (T61.setTop (mkF m 22 #[.val (.int p1), .val (.int (6 : Int32)), .val (.ref w_HEAL), .unset] []))
    refine own_step (fun t k => XS.iconst X61.here hx rfl (hb hby at_22) k) ?_
    show own_Goes p e below _ (T61.setTop (mkF m 23 #[.val (.int p1), .val (.int (6 : Int32)), .val (.ref w_HEAL), .unset] [(.int (0 : Int32))]))
    refine own_step (fun t k => XS.istoreN X61.here hx rfl (hb hby at_23) rfl (l' := #[.val (.int p1), .val (.int (6 : Int32)), .val (.ref w_HEAL), .val (.int (0 : Int32))]) rfl k) ?_
    show own_Goes p e below _ (T61.setTop (mkF m 24 #[.val (.int p1), .val (.int (6 : Int32)), .val (.ref w_HEAL), .val (.int (0 : Int32))] []))
    refine own_step (fun t k => XS.aloadN X61.here hx rfl (hb hby at_24) rfl rfl k) ?_
    show own_Goes p e below _ (T61.setTop (mkF m 25 #[.val (.int p1), .val (.int (6 : Int32)), .val (.ref w_HEAL), .val (.int (0 : Int32))] [(.ref w_HEAL)]))
    obtain ⟨cq63, kq63, q63a, q63b, q63c⟩ := isOf hZ eh61 E_w_HEAL
    obtain ⟨_, _, ⟨T63, L63, k63, n63⟩, -, X63, ⟨Lc63, hQ63, l63, y63, z63⟩, st63⟩ := X61.virtualBack hx (y := (⟨"com/example/battlement/battlement/prefab/SpawnKind", "isGameMode", "()Z"⟩ : MethodName)) (z := (⟨"com/example/battlement/battlement/prefab/SpawnKind", "isGameMode", "()Z"⟩ : MethodName)) hown (mvT hZ w8) (mvT hZ w9) (notFace_of_selects (args := #[]) (mvT hZ w11)) (mvT hZ w11) (mvT hZ w10) (by decide) (backOf (W := 0) (own_b3 l Z a0 hw [] w_HEAL ((6 : Int32)) h0 n0 Z0 E_w_HEAL F_ordinal_w_HEAL (by decide)) hZ w12 w6 (by decide) (by decide)) q63a q63c (g := (mkF m 25 #[.val (.int p1), .val (.int (6 : Int32)), .val (.ref w_HEAL), .val (.int (0 : Int32))] [(.ref w_HEAL)])) rfl (by rw [hml]; rfl) (Steps.refl _) (argsL := []) (rest := []) (lenOf own_pd2 rfl) rfl (by show 2 * 0 + _ ≤ _; exact Nat.le_of_eq rfl) (hb hby at_25) (fun _ _ => ⟨rfl, eh61, (by decide : 0 + 0 ≤ _), (by decide : 0 + 0 ≤ _)⟩)
    dsimp only [Pt.U, Pt.locs, Pt.cells, Pt.slots] at X63 l63 y63 z63 st63 hQ63
    subst l63 y63 z63
    obtain ⟨rfl, N63q, eh63⟩ := hQ63
    have N63 := Fr.app N61 N63q
    refine own_jump st63 ?_
    show own_Goes p e below _ (T63.setTop (mkF m 28 #[.val (.int p1), .val (.int (6 : Int32)), .val (.ref w_HEAL), .val (.int (0 : Int32))] [(.int (own_gm (6 : Int32)))]))
    refine own_step (fun t k => XS.iloadN X63.here hx rfl (hb hby at_28) rfl k) ?_
    show own_Goes p e below _ (T63.setTop (mkF m 29 #[.val (.int p1), .val (.int (6 : Int32)), .val (.ref w_HEAL), .val (.int (0 : Int32))] [(.int (0 : Int32)), (.int (own_gm (6 : Int32)))]))
    refine own_step (S' := T63.setTop (mkF m 37 #[.val (.int p1), .val (.int (6 : Int32)), .val (.ref w_HEAL), .val (.int (0 : Int32))] [(.int (if (own_gm (6 : Int32)) = (0 : Int32) then (1 : Int32) else (0 : Int32)))])) (fun t k => ?_) ?_
    · show Steps p.tables e below (T63.setTop (mkF m 29 #[.val (.int p1), .val (.int (6 : Int32)), .val (.ref w_HEAL), .val (.int (0 : Int32))] [(.int (0 : Int32)), (.int (own_gm (6 : Int32)))])) _
      by_cases hc64 : (own_gm (6 : Int32)) = (0 : Int32)
      · --
        refine XS.icmpNo X63.here hx rfl (hb hby at_29) rfl (teq hc64).2 ?_
        show Steps p.tables e below (T63.setTop (mkF m 32 #[.val (.int p1), .val (.int (6 : Int32)), .val (.ref w_HEAL), .val (.int (0 : Int32))] [])) _
        refine XS.iconst X63.here hx rfl (hb hby at_32) ?_
        show Steps p.tables e below (T63.setTop (mkF m 33 #[.val (.int p1), .val (.int (6 : Int32)), .val (.ref w_HEAL), .val (.int (0 : Int32))] [(.int (1 : Int32))])) _
        refine XS.goto X63.here hx rfl (pc0 := 33) (pc' := 37) rfl (hb hby at_33) (by decide) (by decide) ?_
        show Steps p.tables e below (T63.setTop (mkF m 37 #[.val (.int p1), .val (.int (6 : Int32)), .val (.ref w_HEAL), .val (.int (0 : Int32))] [(.int (1 : Int32))])) _
        simp only [if_pos hc64] at k
        exact k
      · --
        refine XS.icmpYes X63.here hx rfl (pc0 := 29) (pc' := 36) rfl (hb hby at_29) rfl (feq hc64).2 (by decide) (by decide) ?_
        show Steps p.tables e below (T63.setTop (mkF m 36 #[.val (.int p1), .val (.int (6 : Int32)), .val (.ref w_HEAL), .val (.int (0 : Int32))] [])) _
        refine XS.iconst X63.here hx rfl (hb hby at_36) ?_
        show Steps p.tables e below (T63.setTop (mkF m 37 #[.val (.int p1), .val (.int (6 : Int32)), .val (.ref w_HEAL), .val (.int (0 : Int32))] [(.int (0 : Int32))])) _
        simp only [if_neg hc64] at k
        exact k
    show own_Goes p e below _ (T63.setTop (mkF m 37 #[.val (.int p1), .val (.int (6 : Int32)), .val (.ref w_HEAL), .val (.int (0 : Int32))] [(.int (if (own_gm (6 : Int32)) = (0 : Int32) then (1 : Int32) else (0 : Int32)))]))
    refine own_retL X63 hx hlk Bd.returns (hb hby at_37) (?_ : (if (own_gm (6 : Int32)) = (0 : Int32) then (1 : Int32) else (0 : Int32)) = 1) N63 (by decide) (by decide)
    exact (by decide)
  · --
    show own_Goes p e below _ (s₁.setTop (mkF m 8 #[.val (.int p1), .val (.int (7 : Int32)), .unset, .unset] []))
    refine own_step (fun t k => XS.iloadN X0.here hx rfl (hb hby at_8) rfl k) ?_
    show own_Goes p e below _ (s₁.setTop (mkF m 9 #[.val (.int p1), .val (.int (7 : Int32)), .unset, .unset] [(.int (7 : Int32))]))
    obtain ⟨_, _, ⟨T65, L65, k65, n65⟩, -, X65, ⟨Lc65, hQ65, l65, y65, z65⟩, st65⟩ := Jvm.LawKit.callS X0 hx (y := (⟨"com/example/battlement/battlement/prefab/SpawnKindIsGameModePinLaw", "pick", "(I)Lcom/example/battlement/battlement/prefab/SpawnKind;"⟩ : MethodName)) hown (mvT hZ w1) (mvT hZ w2) (mvT hZ w3) (mvT hZ w4) (by decide) (backOf (W := 0) (own_b1 l Z a0 hw [] (7 : Int32) (w_FFA) (w_T) (w_FFADM) (w_TDM) (w_TCTO) (w_SPECTATOR) (w_HEAL) (w_ORB) (w_ORB) h0 n0 Z0 S_FFA S_T S_FFADM S_TDM S_TCTO S_SPECTATOR S_HEAL S_ORB O0 rfl) hZ w4 w3 (by decide) (by decide)) (g := (mkF m 9 #[.val (.int p1), .val (.int (7 : Int32)), .unset, .unset] [(.int (7 : Int32))])) rfl (by rw [hml]; rfl) (argsL := [(.int (7 : Int32))]) (rest := []) (lenOf own_pd1 rfl) rfl (by show 2 * 0 + _ ≤ _; exact Nat.le_of_eq rfl) (hb hby at_9) (fun _ _ => ⟨rfl, e0, (by decide : 0 + 0 ≤ _), (by decide : 0 + 0 ≤ _)⟩)
    dsimp only [Pt.U, Pt.locs, Pt.cells, Pt.slots] at X65 l65 y65 z65 st65 hQ65
    subst l65 y65 z65
    obtain ⟨rfl, N65q, eh65⟩ := hQ65
    have N65 := Fr.app N0 N65q
    refine own_step st65 ?_
    show own_Goes p e below _ (T65.setTop (mkF m 12 #[.val (.int p1), .val (.int (7 : Int32)), .unset, .unset] [(.ref w_ORB)]))
    refine own_step (fun t k => XS.astoreN X65.here hx rfl (hb hby at_12) rfl rfl (l' := #[.val (.int p1), .val (.int (7 : Int32)), .val (.ref w_ORB), .unset]) rfl k) ?_
    show own_Goes p e below _ (T65.setTop (mkF m 13 #[.val (.int p1), .val (.int (7 : Int32)), .val (.ref w_ORB), .unset] []))
    refine own_step (fun t k => XS.iloadN X65.here hx rfl (hb hby at_13) rfl k) ?_
    show own_Goes p e below _ (T65.setTop (mkF m 14 #[.val (.int p1), .val (.int (7 : Int32)), .val (.ref w_ORB), .unset] [(.int (7 : Int32))]))
    refine own_step (fun t k => XS.iconst X65.here hx rfl (hb hby at_14) k) ?_
    show own_Goes p e below _ (T65.setTop (mkF m 15 #[.val (.int p1), .val (.int (7 : Int32)), .val (.ref w_ORB), .unset] [(.int (4 : Int32)), (.int (7 : Int32))]))
    have hc66 : (4 : Int32) < (7 : Int32) := by decide
    refine own_step (fun t k => XS.icmpYes X65.here hx rfl (pc0 := 15) (pc' := 22) rfl (hb hby at_15) rfl (tlt hc66).2.2.1 (by decide) (by decide) k) ?_
    show own_Goes p e below _ (T65.setTop (mkF m 22 #[.val (.int p1), .val (.int (7 : Int32)), .val (.ref w_ORB), .unset] []))
    refine own_step (fun t k => XS.iconst X65.here hx rfl (hb hby at_22) k) ?_
    show own_Goes p e below _ (T65.setTop (mkF m 23 #[.val (.int p1), .val (.int (7 : Int32)), .val (.ref w_ORB), .unset] [(.int (0 : Int32))]))
    refine own_step (fun t k => XS.istoreN X65.here hx rfl (hb hby at_23) rfl (l' := #[.val (.int p1), .val (.int (7 : Int32)), .val (.ref w_ORB), .val (.int (0 : Int32))]) rfl k) ?_
    show own_Goes p e below _ (T65.setTop (mkF m 24 #[.val (.int p1), .val (.int (7 : Int32)), .val (.ref w_ORB), .val (.int (0 : Int32))] []))
    refine own_step (fun t k => XS.aloadN X65.here hx rfl (hb hby at_24) rfl rfl k) ?_
    show own_Goes p e below _ (T65.setTop (mkF m 25 #[.val (.int p1), .val (.int (7 : Int32)), .val (.ref w_ORB), .val (.int (0 : Int32))] [(.ref w_ORB)]))
    obtain ⟨cq67, kq67, q67a, q67b, q67c⟩ := isOf hZ eh65 E_w_ORB
    obtain ⟨_, _, ⟨T67, L67, k67, n67⟩, -, X67, ⟨Lc67, hQ67, l67, y67, z67⟩, st67⟩ := X65.virtualBack hx (y := (⟨"com/example/battlement/battlement/prefab/SpawnKind", "isGameMode", "()Z"⟩ : MethodName)) (z := (⟨"com/example/battlement/battlement/prefab/SpawnKind", "isGameMode", "()Z"⟩ : MethodName)) hown (mvT hZ w8) (mvT hZ w9) (notFace_of_selects (args := #[]) (mvT hZ w11)) (mvT hZ w11) (mvT hZ w10) (by decide) (backOf (W := 0) (own_b3 l Z a0 hw [] w_ORB ((7 : Int32)) h0 n0 Z0 E_w_ORB F_ordinal_w_ORB (by decide)) hZ w12 w6 (by decide) (by decide)) q67a q67c (g := (mkF m 25 #[.val (.int p1), .val (.int (7 : Int32)), .val (.ref w_ORB), .val (.int (0 : Int32))] [(.ref w_ORB)])) rfl (by rw [hml]; rfl) (Steps.refl _) (argsL := []) (rest := []) (lenOf own_pd2 rfl) rfl (by show 2 * 0 + _ ≤ _; exact Nat.le_of_eq rfl) (hb hby at_25) (fun _ _ => ⟨rfl, eh65, (by decide : 0 + 0 ≤ _), (by decide : 0 + 0 ≤ _)⟩)
    dsimp only [Pt.U, Pt.locs, Pt.cells, Pt.slots] at X67 l67 y67 z67 st67 hQ67
    subst l67 y67 z67
    obtain ⟨rfl, N67q, eh67⟩ := hQ67
    have N67 := Fr.app N65 N67q
    refine own_jump st67 ?_
    show own_Goes p e below _ (T67.setTop (mkF m 28 #[.val (.int p1), .val (.int (7 : Int32)), .val (.ref w_ORB), .val (.int (0 : Int32))] [(.int (own_gm (7 : Int32)))]))
    refine own_step (fun t k => XS.iloadN X67.here hx rfl (hb hby at_28) rfl k) ?_
    show own_Goes p e below _ (T67.setTop (mkF m 29 #[.val (.int p1), .val (.int (7 : Int32)), .val (.ref w_ORB), .val (.int (0 : Int32))] [(.int (0 : Int32)), (.int (own_gm (7 : Int32)))]))
    refine own_step (S' := T67.setTop (mkF m 37 #[.val (.int p1), .val (.int (7 : Int32)), .val (.ref w_ORB), .val (.int (0 : Int32))] [(.int (if (own_gm (7 : Int32)) = (0 : Int32) then (1 : Int32) else (0 : Int32)))])) (fun t k => ?_) ?_
    · show Steps p.tables e below (T67.setTop (mkF m 29 #[.val (.int p1), .val (.int (7 : Int32)), .val (.ref w_ORB), .val (.int (0 : Int32))] [(.int (0 : Int32)), (.int (own_gm (7 : Int32)))])) _
      by_cases hc68 : (own_gm (7 : Int32)) = (0 : Int32)
      · --
        refine XS.icmpNo X67.here hx rfl (hb hby at_29) rfl (teq hc68).2 ?_
        show Steps p.tables e below (T67.setTop (mkF m 32 #[.val (.int p1), .val (.int (7 : Int32)), .val (.ref w_ORB), .val (.int (0 : Int32))] [])) _
        refine XS.iconst X67.here hx rfl (hb hby at_32) ?_
        show Steps p.tables e below (T67.setTop (mkF m 33 #[.val (.int p1), .val (.int (7 : Int32)), .val (.ref w_ORB), .val (.int (0 : Int32))] [(.int (1 : Int32))])) _
        refine XS.goto X67.here hx rfl (pc0 := 33) (pc' := 37) rfl (hb hby at_33) (by decide) (by decide) ?_
        show Steps p.tables e below (T67.setTop (mkF m 37 #[.val (.int p1), .val (.int (7 : Int32)), .val (.ref w_ORB), .val (.int (0 : Int32))] [(.int (1 : Int32))])) _
        simp only [if_pos hc68] at k
        exact k
      · --
        refine XS.icmpYes X67.here hx rfl (pc0 := 29) (pc' := 36) rfl (hb hby at_29) rfl (feq hc68).2 (by decide) (by decide) ?_
        show Steps p.tables e below (T67.setTop (mkF m 36 #[.val (.int p1), .val (.int (7 : Int32)), .val (.ref w_ORB), .val (.int (0 : Int32))] [])) _
        refine XS.iconst X67.here hx rfl (hb hby at_36) ?_
        show Steps p.tables e below (T67.setTop (mkF m 37 #[.val (.int p1), .val (.int (7 : Int32)), .val (.ref w_ORB), .val (.int (0 : Int32))] [(.int (0 : Int32))])) _
        simp only [if_neg hc68] at k
        exact k
    show own_Goes p e below _ (T67.setTop (mkF m 37 #[.val (.int p1), .val (.int (7 : Int32)), .val (.ref w_ORB), .val (.int (0 : Int32))] [(.int (if (own_gm (7 : Int32)) = (0 : Int32) then (1 : Int32) else (0 : Int32)))]))
    refine own_retL X67 hx hlk Bd.returns (hb hby at_37) (?_ : (if (own_gm (7 : Int32)) = (0 : Int32) then (1 : Int32) else (0 : Int32)) = 1) N67 (by decide) (by decide)
    exact (by decide)
set_option maxRecDepth 65536 in
set_option maxHeartbeats 40000000 in
theorem comes_1 {Post : Tables → Env → Array Value → State → Outcome → State → Prop} (hpost : ∀ tb e args s v u, (limb_1_1.after args s (.returned v) u = true ∧ limb_1_2.after args s (.returned v) u = true ∧ True) → FrameEnd s (.returned v) u (Jvm.fieldLocs frame_1_writes args s ++ Jvm.arrayLocs frame_1_arrays args s ++ Jvm.staticLocs frame_1_statics s) 0 0 → Post tb e args s (.returned v) u) :
    ArmFor flags0 classFile x code maxLocals ret World_1 tables_1 room_1 Calls_1 rest_1 Pre_1 Post := by
  intro l hfl _ _ p e ha hc hk s m args below hf hA hF happ hP
  obtain ⟨hcalls, hrest, hpre⟩ := hP
  obtain ⟨-, -, -, hnamed, -, -, -, hat⟩ := (Spec.applies_iff hf).mp happ
  obtain ⟨hg, hn⟩ := and_e (Cond.before_iff.mp (show (Jvm.Cond.and given_1 narrow_1).before args s = true from hpre))
  obtain ⟨gg1, gg2⟩ := and_e hg
  obtain ⟨w0, rfl⟩ : ∃ w0 : Value, args = #[w0] := by
    have hs : args.size = 1 := by simpa [Cond.value, given_1] using gg1
    obtain ⟨L⟩ := args
    match L, hs with
    | [w0], _ => exact ⟨w0, rfl⟩
  have hw := fun d (hd : d ∈ tables_1) => atoms_spec (ws := Jvm.Cond.code x code maxLocals ret :: tables_1) hat d (List.mem_cons_of_mem _ hd)
  have hfit : Fit s := fun {y c} hc i hi => by
    obtain ⟨ha, rfl⟩ := Array.getElem?_eq_some_iff.mp hc
    have q := List.all_eq_true.mp ((Array.all_eq_true_iff_forall_mem.mp hF) _ (Array.getElem_mem ha)) i (List.mem_range.mpr hi)
    simpa [Array.getElem?_eq_getElem hi] using q
  obtain ⟨i0, ei0⟩ := is_v gg2
  obtain rfl : w0 = (.int i0) := Option.some.inj ei0
  obtain ⟨gn1, gn2⟩ := and_e hn
  obtain ⟨gn3, gn4⟩ := and_e gn2
  obtain ⟨gn5, gn6⟩ := and_e gn4
  obtain ⟨gn7, gn8⟩ := and_e gn6
  obtain ⟨gn9, gn10⟩ := and_e gn8
  obtain ⟨gn11, gn12⟩ := and_e gn10
  obtain ⟨gn13, gn14⟩ := and_e gn12
  obtain ⟨gn15, gn16⟩ := and_e gn14
  obtain ⟨gn17, gn18⟩ := and_e gn16
  obtain ⟨gn19, gn20⟩ := and_e gn18
  obtain ⟨gn21, gn22⟩ := and_e gn20
  obtain ⟨gn23, gn24⟩ := and_e gn22
  obtain ⟨gn25, gn26⟩ := and_e gn24
  obtain ⟨gn27, gn28⟩ := and_e gn26
  obtain ⟨gn29, gn30⟩ := and_e gn28
  obtain ⟨w_FFA, ev_FFA⟩ := exa_v gn1
  have S_FFA := Sta.start ev_FFA (Or.inr ⟨(hw _ (List.mem_of_getElem? (i := 6) rfl)), (hw _ (List.mem_of_getElem? (i := 7) rfl))⟩)
  have E_FFA := Exa.start ev_FFA gn1
  have O_FFA := own_ord ev_FFA gn3
  obtain ⟨w_T, ev_T⟩ := exa_v gn21
  have S_T := Sta.start ev_T (Or.inr ⟨(hw _ (List.mem_of_getElem? (i := 6) rfl)), (hw _ (List.mem_of_getElem? (i := 31) rfl))⟩)
  have E_T := Exa.start ev_T gn21
  have O_T := own_ord ev_T gn23
  obtain ⟨w_FFADM, ev_FFADM⟩ := exa_v gn17
  have S_FFADM := Sta.start ev_FFADM (Or.inr ⟨(hw _ (List.mem_of_getElem? (i := 6) rfl)), (hw _ (List.mem_of_getElem? (i := 29) rfl))⟩)
  have E_FFADM := Exa.start ev_FFADM gn17
  have O_FFADM := own_ord ev_FFADM gn19
  obtain ⟨w_TDM, ev_TDM⟩ := exa_v gn5
  have S_TDM := Sta.start ev_TDM (Or.inr ⟨(hw _ (List.mem_of_getElem? (i := 6) rfl)), (hw _ (List.mem_of_getElem? (i := 23) rfl))⟩)
  have E_TDM := Exa.start ev_TDM gn5
  have O_TDM := own_ord ev_TDM gn7
  obtain ⟨w_TCTO, ev_TCTO⟩ := exa_v gn25
  have S_TCTO := Sta.start ev_TCTO (Or.inr ⟨(hw _ (List.mem_of_getElem? (i := 6) rfl)), (hw _ (List.mem_of_getElem? (i := 33) rfl))⟩)
  have E_TCTO := Exa.start ev_TCTO gn25
  have O_TCTO := own_ord ev_TCTO gn27
  obtain ⟨w_SPECTATOR, ev_SPECTATOR⟩ := exa_v gn29
  have S_SPECTATOR := Sta.start ev_SPECTATOR (Or.inr ⟨(hw _ (List.mem_of_getElem? (i := 6) rfl)), (hw _ (List.mem_of_getElem? (i := 35) rfl))⟩)
  have E_SPECTATOR := Exa.start ev_SPECTATOR gn29
  have O_SPECTATOR := own_ord ev_SPECTATOR gn30
  obtain ⟨w_HEAL, ev_HEAL⟩ := exa_v gn9
  have S_HEAL := Sta.start ev_HEAL (Or.inr ⟨(hw _ (List.mem_of_getElem? (i := 6) rfl)), (hw _ (List.mem_of_getElem? (i := 25) rfl))⟩)
  have E_HEAL := Exa.start ev_HEAL gn9
  have O_HEAL := own_ord ev_HEAL gn11
  obtain ⟨w_ORB, ev_ORB⟩ := exa_v gn13
  have S_ORB := Sta.start ev_ORB (Or.inr ⟨(hw _ (List.mem_of_getElem? (i := 6) rfl)), (hw _ (List.mem_of_getElem? (i := 27) rfl))⟩)
  have E_ORB := Exa.start ev_ORB gn13
  have O_ORB := own_ord ev_ORB gn15
  obtain ⟨n, o, h1, h2, h3, _, L, rfl, ⟨rfl, N⟩, hq⟩ := own_law l s _ hw tables_1 i0 w_FFA w_T w_FFADM w_TDM w_TCTO w_SPECTATOR w_HEAL w_ORB s.heap s.heap.size (Nat.le_refl _) S_FFA S_T S_FFADM S_TDM S_TCTO S_SPECTATOR S_HEAL S_ORB (Old.start s) E_FFA E_T E_FFADM E_TDM E_TCTO E_SPECTATOR E_HEAL E_ORB O_FFA O_T O_FFADM O_TDM O_TCTO O_SPECTATOR O_HEAL O_ORB p e ha hc hk s m _ below hf ((Spec.applies_iff_loose hf).mp happ).1 ⟨rfl, State.Warmed39.refl s, rfl⟩ trivial
  refine ⟨n, _, h1, h2, h3, hpost _ _ _ _ _ _ ⟨Cond.after_iff.mpr rfl, Cond.after_iff.mpr (eq_i res_at (Term.int_eval (1)) rfl), trivial⟩ ⟨hq.1, hq.2.1, (hq.2.2.sift fun y hy => Or.inr (N y hy)).mono (by decide) (by decide)⟩⟩
theorem main_1_1 : Claimed_1_1 := comes_1 fun _ _ _ _ _ _ h hF => ⟨h.1, hF⟩
theorem main_1_2 : Claimed_1_2 := comes_1 fun _ _ _ _ _ _ h hF => ⟨h.2.1, hF⟩
end Jvm.Pilot.@@N@@
namespace Jvm.Pilot.@@N@@
open Jvm Jvm.ClassFile Sem Op Lib Jvm.Free Jvm.Stand Jvm.Pilot.@@N@@.Jvm.D
/-! MADE BY PROGRAM (witnessworld.py) out of the Statement's table words and the real class files: 10 classes; the members and pool entries that the words name. The judged class is class 1, her method 1. -/
namespace start1
open Jvm.ClassFile
def u (s : String) : CpInfo := .utf8 (stringToUtf16 s)
/-- a pool by its gaps: so many unusable entries, then the entry; so many at the end -/
def gap : Nat → List CpInfo → List CpInfo
  | 0, r => r
  | n + 1, r => .unusable :: gap n r
def poolList (es : List (Nat × CpInfo)) (last : Nat) : List CpInfo := es.foldr (fun e r => gap e.1 (e.2 :: r)) (gap last [])
def pool (es : List (Nat × CpInfo)) (last : Nat) : Array CpInfo := ⟨poolList es last⟩
def fileOf (pool : Array CpInfo) (this : Nat) (attrs : Array Attribute := #[]) (ms : Array MethodInfo := #[]) (fl : Nat := 33) (sup : Nat := 0) (ifs : Array Nat := #[]) (fds : Array FieldInfo := #[]) : ClassFile where
  minorVersion := 0
  majorVersion := 65
  constantPool := pool
  accessFlags := fl
  thisClass := this
  superClass := sup
  interfaces := ifs
  fields := fds
  methods := ms
  attributes := attrs
def plain (name : String) (sup : Option ClassId) : Class where
  name := name
  kind := .ordinary
  loader := none
  accessFlags := 33
  super := sup
  interfaces := #[]
  cf := none
  fields := #[]
  methods := #[]
  instanceTypes := #[]
  staticTypes := #[]
  resolved := #[]
  callSites := []
  init := .initialized
  statics := none
  mirror := none

def pool0 : Array CpInfo := pool [(5, u "<init>"), (0, u "()V"), (1, .class_ 10), (1, u "java/lang/Object")] 113

def k0m0 : Method := { name := "<init>", desc := "()V", sig := { parameters := [], returnType := none }, accessFlags := 1, code := none }
/-- java/lang/Object -/
def k0 : Class := { plain "java/lang/Object" none with
  accessFlags := 33
  interfaces := #[]
  cf := some (fileOf pool0 8 #[] #[{ accessFlags := 1, nameIndex := 5, descriptorIndex := 6, attributes := #[] }] 33 0 #[] #[])
  fields := #[]
  methods := #[k0m0]
  instanceTypes := #[]
  staticTypes := #[]
  resolved := Array.replicate 124 none
  statics := none }

def pool1 : Array CpInfo := pool [(2, .class_ 4), (1, u "java/lang/Object"), (0, u "<init>"), (0, u "()V"), (0, .integer 2147483647), (0, .methodref 9 10), (0, .class_ 11), (0, .nameAndType 12 13), (0, u "com/example/battlement/battlement/prefab/SpawnKindIsGameModePinLaw"), (0, u "pick"), (0, u "(I)Lcom/example/battlement/battlement/prefab/SpawnKind;"), (0, .methodref 15 16), (0, .class_ 17), (0, .nameAndType 18 19), (0, u "com/example/battlement/battlement/prefab/SpawnKind"), (0, u "isGameMode"), (0, u "()Z"), (0, .fieldref 15 21), (0, .nameAndType 22 23), (0, u "FFA"), (0, u "Lcom/example/battlement/battlement/prefab/SpawnKind;"), (0, .fieldref 15 25), (0, .nameAndType 26 23), (0, u "T"), (0, .fieldref 15 28), (0, .nameAndType 29 23), (0, u "FFADM"), (0, .fieldref 15 31), (0, .nameAndType 32 23), (0, u "TDM"), (0, .fieldref 15 34), (0, .nameAndType 35 23), (0, u "TCTO"), (0, .fieldref 15 37), (0, .nameAndType 38 23), (0, u "SPECTATOR"), (0, .fieldref 15 40), (0, .nameAndType 41 23), (0, u "HEAL"), (0, .fieldref 15 43), (0, .nameAndType 44 23), (0, u "ORB"), (2, u "law"), (0, u "(I)Z")] 3

def k1m0 : Method := { name := "<init>", desc := "()V", sig := { parameters := [], returnType := none }, accessFlags := 1, code := none }
def k1c1 : Code := { maxStack := 2, maxLocals := 4, code := code, exceptionTable := #[], attributes := #[] }
def k1m1 : Method := { name := "law", desc := "(I)Z", sig := { parameters := [.int], returnType := some .boolean }, accessFlags := 9, code := some k1c1 }
def k1c2 : Code := { maxStack := 2, maxLocals := 1, code := method_3_code, exceptionTable := #[], attributes := #[] }
def k1m2 : Method := { name := "pick", desc := "(I)Lcom/example/battlement/battlement/prefab/SpawnKind;", sig := { parameters := [.int], returnType := some (.object "com/example/battlement/battlement/prefab/SpawnKind") }, accessFlags := 10, code := some k1c2 }
/-- com/example/battlement/battlement/prefab/SpawnKindIsGameModePinLaw -/
def k1 : Class := { plain "com/example/battlement/battlement/prefab/SpawnKindIsGameModePinLaw" (some 0) with
  accessFlags := 49
  interfaces := #[]
  cf := some (fileOf pool1 9 #[] #[{ accessFlags := 1, nameIndex := 5, descriptorIndex := 6, attributes := #[] }, { accessFlags := 9, nameIndex := 47, descriptorIndex := 48, attributes := #[] }, { accessFlags := 10, nameIndex := 12, descriptorIndex := 13, attributes := #[] }] 49 2 #[] #[])
  fields := #[]
  methods := #[k1m0, k1m1, k1m2]
  instanceTypes := #[]
  staticTypes := #[]
  resolved := Array.replicate 52 none
  statics := none }

def pool2 : Array CpInfo := pool [(1, .class_ 2), (0, u "java/lang/constant/Constable"), (0, .class_ 4), (0, u "java/lang/Object")] 6

/-- java/lang/constant/Constable -/
def k2 : Class := { plain "java/lang/constant/Constable" (some 0) with
  accessFlags := 1537
  interfaces := #[]
  cf := some (fileOf pool2 1 #[] #[] 1537 3 #[] #[])
  fields := #[]
  methods := #[]
  instanceTypes := #[]
  staticTypes := #[]
  resolved := Array.replicate 11 none
  statics := none }

def pool3 : Array CpInfo := pool [(1, .class_ 2), (0, u "java/lang/Comparable"), (0, .class_ 4), (0, u "java/lang/Object")] 7

/-- java/lang/Comparable -/
def k3 : Class := { plain "java/lang/Comparable" (some 0) with
  accessFlags := 1537
  interfaces := #[]
  cf := some (fileOf pool3 1 #[] #[] 1537 3 #[] #[])
  fields := #[]
  methods := #[]
  instanceTypes := #[]
  staticTypes := #[]
  resolved := Array.replicate 12 none
  statics := none }

def pool4 : Array CpInfo := pool [(1, .class_ 2), (0, u "java/io/Serializable"), (0, .class_ 4), (0, u "java/lang/Object")] 2

/-- java/io/Serializable -/
def k4 : Class := { plain "java/io/Serializable" (some 0) with
  accessFlags := 1537
  interfaces := #[]
  cf := some (fileOf pool4 1 #[] #[] 1537 3 #[] #[])
  fields := #[]
  methods := #[]
  instanceTypes := #[]
  staticTypes := #[]
  resolved := Array.replicate 7 none
  statics := none }

def pool5 : Array CpInfo := pool [(2, .class_ 4), (1, u "java/lang/Enum"), (0, u "name"), (0, u "Ljava/lang/String;"), (0, .fieldref 2 8), (0, .nameAndType 9 10), (0, u "ordinal"), (0, u "I"), (1, .class_ 14), (1, u "java/lang/Object"), (4, u "hash"), (86, .class_ 108), (1, u "java/lang/Enum$EnumDesc"), (2, .class_ 112), (0, u "java/lang/constant/Constable"), (0, .class_ 114), (0, u "java/lang/Comparable"), (0, .class_ 116), (0, u "java/io/Serializable"), (9, u "()I")] 77

def k5c0 : Code := { maxStack := 1, maxLocals := 1, code := jdk_37_method_2_code, exceptionTable := #[], attributes := #[] }
def k5m0 : Method := { name := "ordinal", desc := "()I", sig := { parameters := [], returnType := some .int }, accessFlags := 17, code := some k5c0 }
/-- java/lang/Enum -/
def k5 : Class := { plain "java/lang/Enum" (some 0) with
  accessFlags := 1057
  interfaces := #[2, 3, 4]
  cf := some (fileOf pool5 2 #[.nestMembers #[106]] #[{ accessFlags := 17, nameIndex := 9, descriptorIndex := 126, attributes := #[] }] 1057 12 #[111, 113, 115] #[{ accessFlags := 18, nameIndex := 5, descriptorIndex := 6, attributes := #[] }, { accessFlags := 18, nameIndex := 9, descriptorIndex := 10, attributes := #[] }, { accessFlags := 2, nameIndex := 19, descriptorIndex := 10, attributes := #[] }])
  fields := #[{ name := "name", type := (.object "java/lang/String"), accessFlags := 18, slot := 0, constantValue := 0 }, { name := "ordinal", type := .int, accessFlags := 18, slot := 1, constantValue := 0 }, { name := "hash", type := .int, accessFlags := 2, slot := 2, constantValue := 0 }]
  methods := #[k5m0]
  instanceTypes := #[(.object "java/lang/String"), .int, .int]
  staticTypes := #[]
  resolved := Array.replicate 204 none
  statics := none }

def pool6 : Array CpInfo := pool [(1, .class_ 2), (0, u "com/example/battlement/battlement/prefab/SpawnKind"), (2, u "FFA"), (0, u "Lcom/example/battlement/battlement/prefab/SpawnKind;"), (2, u "T"), (2, u "FFADM"), (2, u "TDM"), (2, u "TCTO"), (2, u "SPECTATOR"), (2, u "HEAL"), (2, u "ORB"), (2, u "$VALUES"), (0, u "[Lcom/example/battlement/battlement/prefab/SpawnKind;"), (6, .class_ 40), (1, u "java/lang/Enum"), (6, .methodref 1 48), (0, .nameAndType 49 50), (0, u "ordinal"), (0, u "()I"), (10, u "isGameMode"), (0, u "()Z"), (2, u "ORB_TEAMS"), (0, u "Ljava/util/List;"), (63, u "MAX_PER_MODE"), (0, u "I")] 35

def k6c0 : Code := { maxStack := 4, maxLocals := 1, code := prog_114_method_4_code, exceptionTable := #[], attributes := #[] }
def k6m0 : Method := { name := "isGameMode", desc := "()Z", sig := { parameters := [], returnType := some .boolean }, accessFlags := 1, code := some k6c0 }
/-- com/example/battlement/battlement/prefab/SpawnKind -/
def k6 : Class := { plain "com/example/battlement/battlement/prefab/SpawnKind" (some 5) with
  accessFlags := 16433
  interfaces := #[]
  cf := some (fileOf pool6 1 #[] #[{ accessFlags := 1, nameIndex := 61, descriptorIndex := 62, attributes := #[] }] 16433 38 #[] #[{ accessFlags := 16409, nameIndex := 5, descriptorIndex := 6, attributes := #[] }, { accessFlags := 16409, nameIndex := 9, descriptorIndex := 6, attributes := #[] }, { accessFlags := 16409, nameIndex := 12, descriptorIndex := 6, attributes := #[] }, { accessFlags := 16409, nameIndex := 15, descriptorIndex := 6, attributes := #[] }, { accessFlags := 16409, nameIndex := 18, descriptorIndex := 6, attributes := #[] }, { accessFlags := 16409, nameIndex := 21, descriptorIndex := 6, attributes := #[] }, { accessFlags := 16409, nameIndex := 24, descriptorIndex := 6, attributes := #[] }, { accessFlags := 16409, nameIndex := 27, descriptorIndex := 6, attributes := #[] }, { accessFlags := 25, nameIndex := 130, descriptorIndex := 131, attributes := #[] }, { accessFlags := 26, nameIndex := 65, descriptorIndex := 66, attributes := #[] }, { accessFlags := 4122, nameIndex := 30, descriptorIndex := 31, attributes := #[] }])
  fields := #[{ name := "FFA", type := (.object "com/example/battlement/battlement/prefab/SpawnKind"), accessFlags := 16409, slot := 0, constantValue := 0 }, { name := "T", type := (.object "com/example/battlement/battlement/prefab/SpawnKind"), accessFlags := 16409, slot := 1, constantValue := 0 }, { name := "FFADM", type := (.object "com/example/battlement/battlement/prefab/SpawnKind"), accessFlags := 16409, slot := 2, constantValue := 0 }, { name := "TDM", type := (.object "com/example/battlement/battlement/prefab/SpawnKind"), accessFlags := 16409, slot := 3, constantValue := 0 }, { name := "TCTO", type := (.object "com/example/battlement/battlement/prefab/SpawnKind"), accessFlags := 16409, slot := 4, constantValue := 0 }, { name := "SPECTATOR", type := (.object "com/example/battlement/battlement/prefab/SpawnKind"), accessFlags := 16409, slot := 5, constantValue := 0 }, { name := "HEAL", type := (.object "com/example/battlement/battlement/prefab/SpawnKind"), accessFlags := 16409, slot := 6, constantValue := 0 }, { name := "ORB", type := (.object "com/example/battlement/battlement/prefab/SpawnKind"), accessFlags := 16409, slot := 7, constantValue := 0 }, { name := "MAX_PER_MODE", type := .int, accessFlags := 25, slot := 8, constantValue := 0 }, { name := "ORB_TEAMS", type := (.object "java/util/List"), accessFlags := 26, slot := 9, constantValue := 0 }, { name := "$VALUES", type := (.array (.object "com/example/battlement/battlement/prefab/SpawnKind")), accessFlags := 4122, slot := 10, constantValue := 0 }]
  methods := #[k6m0]
  instanceTypes := #[(.object "java/lang/String"), .int, .int]
  staticTypes := #[(.object "com/example/battlement/battlement/prefab/SpawnKind"), (.object "com/example/battlement/battlement/prefab/SpawnKind"), (.object "com/example/battlement/battlement/prefab/SpawnKind"), (.object "com/example/battlement/battlement/prefab/SpawnKind"), (.object "com/example/battlement/battlement/prefab/SpawnKind"), (.object "com/example/battlement/battlement/prefab/SpawnKind"), (.object "com/example/battlement/battlement/prefab/SpawnKind"), (.object "com/example/battlement/battlement/prefab/SpawnKind"), .int, (.object "java/util/List"), (.array (.object "com/example/battlement/battlement/prefab/SpawnKind"))]
  resolved := Array.replicate 167 none
  statics := some 0 }

def pool7 : Array CpInfo := pool [(1, u "java/lang/Cloneable"), (0, .class_ 1), (0, u "java/lang/Object"), (0, .class_ 3)] 3

/-- java/lang/Cloneable -/
def k7 : Class := { plain "java/lang/Cloneable" (some 0) with
  accessFlags := 1537
  interfaces := #[]
  cf := some (fileOf pool7 2 #[] #[] 1537 4 #[] #[])
  fields := #[]
  methods := #[]
  instanceTypes := #[]
  staticTypes := #[]
  resolved := Array.replicate 8 none
  statics := none }

/-- the primitive byte -/
def k8 : Class := { plain "byte" none with kind := .primitive 'B', accessFlags := 0x411 }
/-- [B -/
def k9 : Class := { plain "[B" (some 0) with kind := .array 8 .byte, interfaces := #[7, 4], accessFlags := 1041 }

def heap : Heap := #[{ cls := 6, slots := #[.ref 1, .ref 2, .ref 3, .ref 4, .ref 5, .ref 6, .ref 7, .ref 8, .int 0, .null, .null], vm := .statics 6 },
  { cls := 6, slots := #[.null, .int 0, .int 0], vm := .none },
  { cls := 6, slots := #[.null, .int 1, .int 0], vm := .none },
  { cls := 6, slots := #[.null, .int 2, .int 0], vm := .none },
  { cls := 6, slots := #[.null, .int 3, .int 0], vm := .none },
  { cls := 6, slots := #[.null, .int 4, .int 0], vm := .none },
  { cls := 6, slots := #[.null, .int 5, .int 0], vm := .none },
  { cls := 6, slots := #[.null, .int 6, .int 0], vm := .none },
  { cls := 6, slots := #[.null, .int 7, .int 0], vm := .none }]
def classes : Array Class := #[k0, k1, k2, k3, k4, k5, k6, k7, k8, k9]
def interned : List (Array UInt16 × Addr) := []
def slotsUsed : Nat := 35
def theMethod : MethodId := ⟨1, 1⟩
def args0 : Array Value := #[.int 1]
def aboutOver (below : List Frame) : State where
  vm := { classes := classes, interned := interned.toArray }
  heap := heap
  slotsUsed := slotsUsed
  threads := #[{ frames := .invoking theMethod args0 :: below }]
def below0 : List Frame := [.native { method := ⟨0, 0⟩, args := #[] }]
def about1 : State := aboutOver below0
def p0 : Program := .bare "" "" ""
def e0 : Env := launch0.env 0 0 0
theorem w_frames : about1.frames = Frame.invoking theMethod args0 :: below0 := rfl
set_option maxRecDepth 65536 in
theorem w_args : argsFit about1.vm theMethod args0 = true := by decide +kernel
set_option maxRecDepth 65536 in
theorem w_heap : heapFits about1 = true := by decide +kernel
set_option maxRecDepth 65536 in
theorem w_runnable : about1.curStatus? = some .runnable := by decide +kernel
set_option maxRecDepth 65536 in
theorem w_alone : about1.alone = true := by decide +kernel
set_option maxRecDepth 65536 in
theorem w_named : about1.methodNamed? x = some theMethod := by decide +kernel
set_option maxRecDepth 65536 in
theorem w_hears : about1.hears theMethod below0 = true := by decide +kernel
set_option maxRecDepth 65536 in
theorem w_ripe : about1.ripe theMethod args0 below0 = true := by decide +kernel
theorem w_running : about1.status = .running := rfl
set_option maxRecDepth 65536 in
theorem w_room : about1.hasRoom e0.platform room_1 = true :=
  launch0.hasRoom_least _ room_1 (by decide +kernel) (by decide +kernel) (by decide +kernel) (by decide +kernel) (by decide +kernel) (by decide +kernel)
theorem allAtoms_all (ts : List Jvm.Cond) (a : Array Jvm.Value) (st : Jvm.State) : (allAtoms ts).before a st = ts.all (fun c => c.before a st) := by
  induction ts with
  | nil => rfl
  | cons c t ih =>
    show (Jvm.Cond.and c (allAtoms t)).before a st = _
    rw [Jvm.Cond.before_and, ih, List.all_cons]
def words1 : List Jvm.Cond := Jvm.Cond.code x code maxLocals ret :: tables_1
/-- a 'code' word, met by the world's own term for the bytes: nothing is compared byte by byte -/
theorem code_word {y : MethodName} {bytes : ByteArray} {mx : Nat} {rt : Option FieldType} {a : Array Value} {s : State} {m : MethodId} {meth : Method} {c : Code} (h1 : s.methodNamed? y = some m) (h2 : s.vm.method? m = some meth) (h3 : meth.code = some c) (h4 : c.code = bytes)
    (h5 : (c.maxLocals == mx && c.exceptionTable.isEmpty && decide (c.maxStack ≤ mostOperands) && decide (meth.sig.returnType = rt) && !meth.locks && decide (parseMethodDescriptor y.desc = some meth.sig)) = true) : (Jvm.Cond.code y bytes mx rt).before a s = true := by
  simp only [Bool.and_eq_true, beq_iff_eq, Bool.not_eq_true', decide_eq_true_eq] at h5
  obtain ⟨⟨⟨⟨⟨g1, g2⟩, g3⟩, g4⟩, g5⟩, g6⟩ := h5
  simp [Cond.before, Cond.holds, Cond.value, h1, h2, h3, h4, g1, g2, g3, g4, g5, g6]
def isCode : Jvm.Cond → Bool
  | .code _ _ _ _ => true
  | _ => false
theorem all_split {L : List Jvm.Cond} {P : Jvm.Cond → Bool} (h1 : L.all (fun c => isCode c || P c) = true) (h2 : ∀ c ∈ L.filter isCode, P c = true) : L.all P = true := by
  refine List.all_eq_true.mpr fun c hc => ?_
  have h := List.all_eq_true.mp h1 c hc
  rcases Bool.eq_false_or_eq_true (isCode c) with hi | hi
  · exact h2 c (List.mem_filter.mpr ⟨hc, hi⟩)
  · simpa [hi] using h
set_option maxRecDepth 65536 in
theorem w_c0 : (Jvm.Cond.code x code maxLocals ret).before args0 about1 = true := code_word (m := ⟨1, 1⟩) (meth := k1m1) (c := k1c1) (by decide +kernel) rfl rfl rfl (by decide +kernel)
set_option maxRecDepth 65536 in
theorem w_c1 : (Jvm.Cond.code ({ cls := "com/example/battlement/battlement/prefab/SpawnKindIsGameModePinLaw", name := "pick", desc := "(I)Lcom/example/battlement/battlement/prefab/SpawnKind;" } : Jvm.MethodName) method_3_code (1 : Nat) (Option.some (Jvm.ClassFile.FieldType.object "com/example/battlement/battlement/prefab/SpawnKind"))).before args0 about1 = true := code_word (m := ⟨1, 2⟩) (meth := k1m2) (c := k1c2) (by decide +kernel) rfl rfl rfl (by decide +kernel)
set_option maxRecDepth 65536 in
theorem w_c2 : (Jvm.Cond.code ({ cls := "com/example/battlement/battlement/prefab/SpawnKind", name := "isGameMode", desc := "()Z" } : Jvm.MethodName) prog_114_method_4_code (1 : Nat) (Option.some Jvm.ClassFile.FieldType.boolean)).before args0 about1 = true := code_word (m := ⟨6, 0⟩) (meth := k6m0) (c := k6c0) (by decide +kernel) rfl rfl rfl (by decide +kernel)
set_option maxRecDepth 65536 in
theorem w_c3 : (Jvm.Cond.code ({ cls := "java/lang/Enum", name := "ordinal", desc := "()I" } : Jvm.MethodName) jdk_37_method_2_code (1 : Nat) (Option.some Jvm.ClassFile.FieldType.int)).before args0 about1 = true := code_word (m := ⟨5, 0⟩) (meth := k5m0) (c := k5c0) (by decide +kernel) rfl rfl rfl (by decide +kernel)
def codes1 : List Jvm.Cond := [Jvm.Cond.code x code maxLocals ret, Jvm.Cond.code ({ cls := "com/example/battlement/battlement/prefab/SpawnKindIsGameModePinLaw", name := "pick", desc := "(I)Lcom/example/battlement/battlement/prefab/SpawnKind;" } : Jvm.MethodName) method_3_code (1 : Nat) (Option.some (Jvm.ClassFile.FieldType.object "com/example/battlement/battlement/prefab/SpawnKind")), Jvm.Cond.code ({ cls := "com/example/battlement/battlement/prefab/SpawnKind", name := "isGameMode", desc := "()Z" } : Jvm.MethodName) prog_114_method_4_code (1 : Nat) (Option.some Jvm.ClassFile.FieldType.boolean), Jvm.Cond.code ({ cls := "java/lang/Enum", name := "ordinal", desc := "()I" } : Jvm.MethodName) jdk_37_method_2_code (1 : Nat) (Option.some Jvm.ClassFile.FieldType.int)]
set_option maxRecDepth 65536 in
theorem codes_eq : words1.filter isCode = codes1 := rfl
theorem w_codes : ∀ c ∈ words1.filter isCode, c.before args0 about1 = true := by
  rw [codes_eq]
  intro c hc
  simp only [codes1, List.mem_cons, List.not_mem_nil, or_false] at hc
  rcases hc with rfl | rfl | rfl | rfl
  · exact w_c0
  · exact w_c1
  · exact w_c2
  · exact w_c3
set_option maxRecDepth 65536 in
theorem w_t1 : (words1.take 24).all (fun c => isCode c || c.before args0 about1) = true := by decide +kernel
set_option maxRecDepth 65536 in
theorem w_t2 : (words1.drop 24).all (fun c => isCode c || c.before args0 about1) = true := by decide +kernel
theorem w_tables : (allAtoms (Jvm.Cond.code x code maxLocals ret :: tables_1)).before args0 about1 = true := by
  rw [allAtoms_all]
  show words1.all (fun c => c.before args0 about1) = true
  refine all_split ?_ w_codes
  rw [← List.take_append_drop 24 words1, List.all_append, w_t1, w_t2]
  rfl
set_option maxRecDepth 65536 in
theorem w_case : (Jvm.Cond.and given_1 narrow_1).before args0 about1 = true := by decide +kernel
theorem w_applies : (headSpec (Jvm.Cond.code x code maxLocals ret :: tables_1) room_1).applies x e0.platform about1 = true :=
  (Spec.applies_iff w_frames).mpr ⟨w_running, w_runnable, w_alone, w_named, w_hears, w_ripe, w_room, w_tables⟩
theorem atStart : AtStart classFile x code maxLocals ret World_1 tables_1 room_1 Calls_1 rest_1 Pre_1 launch0 p0 e0 about1 theMethod args0 below0 :=
  ⟨lists_1, trivial, launch0.admits_env _ _ _, launch0.least_env, fairChoices_fair.cas, fairChoices_fair.clock, w_frames, w_args, w_heap, w_applies, trivial, trivial, w_case⟩
end start1
theorem witness_1 : WitnessClaimed_1 := ⟨start1.p0, start1.e0, start1.about1, start1.theMethod, start1.args0, start1.below0, start1.atStart⟩
end Jvm.Pilot.@@N@@
