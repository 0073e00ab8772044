import JvmDerived
import JvmDerived.Pilot.@@N@@Statement
import JvmDerived.Pilot.@@N@@Code
set_option linter.unusedVariables false
set_option linter.unusedSimpArgs false
namespace Jvm.Pilot.@@N@@
open Jvm Jvm.ClassFile Sem Op Lib Jvm.Free Jvm.Stand Jvm.LawKit Jvm.RoadKit Bundle Jvm.Pilot.@@N@@.Jvm.D
section Own
variable {p : Program} {l : Launch} {e : Env} {R : Room} {s : State} {m : MethodId} {args : Array Value} {below : List Frame} {meth : Method} {c : Code} {T : State} {locs : List Loc} {cells slots : Nat} {Z : State} {h h' : Heap} {a b : Addr} {G : State → Outcome → Prop} {Q : Option Value → Heap → List Loc → Prop} {C K : Nat}
/-- the run comes to an end of which G holds -/
def own_Goes (p : Program) (e : Env) (below : List Frame) (G : State → Outcome → Prop) (S : State) : Prop := ∃ s₂ o, Steps p.tables e below S s₂ ∧ s₂.status = .running ∧ Ended s₂ below o ∧ G s₂ o
theorem own_step {S S' : State} (k : ∀ t, Steps p.tables e below S' t → Steps p.tables e below S t) (h : own_Goes p e below G S') : own_Goes p e below G S := by
  obtain ⟨s₂, o, h1, h2⟩ := h
  exact ⟨s₂, o, k _ h1, h2⟩
theorem own_jump {S S' : State} (k : Steps p.tables e below S S') (h : own_Goes p e below G S') : own_Goes p e below G S := own_step (fun _ q => k.trans q) h
def own_Fin (s : State) (Q : Option Value → Heap → List Loc → Prop) (C K : Nat) : State → Outcome → Prop := fun U o => ∃ v L, o = .returned v ∧ Q v U.heap L ∧ FrameEnd s o U L C K
theorem own_ret0 (X : Stand p l e R s m args below meth c T locs cells slots) (hx : p.tables.exec = Jvm.exec) (hlk : meth.locks = false) (hret : meth.sig.returnType = none) {pc : Nat} {Ls : Array Slot} (hd : decode c.code pc = .ok (.return_, 1)) (hq : Q none T.heap locs) (hc : cells ≤ C) (hk : slots ≤ K) :
    own_Goes p e below (own_Fin s Q C K) (T.setTop (mkF m pc Ls [])) := by
  obtain ⟨fs, hr, hrun, hended, hW, hsame⟩ := X.leave (v := none) (fun _ => rfl)
  exact ⟨_, _, X.returnOut hx hret hd hr, hrun, hended, _, _, rfl, hq, ⟨_, rfl⟩, hW, hsame.mono hc hk⟩
theorem own_retV (X : Stand p l e R s m args below meth c T locs cells slots) (hx : p.tables.exec = Jvm.exec) (hlk : meth.locks = false) {t : FieldType} (hret : meth.sig.returnType = some t) {w : Value} (hn : narrow t w = w) {i : Instr}
    (hi : (i = .ireturn ∧ (t = .int ∨ t = .boolean ∨ t = .byte ∨ t = .char ∨ t = .short) ∧ ∃ z, w = .int z) ∨ (i = .lreturn ∧ t = .long ∧ ∃ z, w = .long z) ∨ (i = .dreturn ∧ t = .double ∧ ∃ z, w = .double z) ∨ (i = .freturn ∧ t = .float ∧ ∃ z, w = .float z) ∨ (i = .areturn ∧ t.isReference = true ∧ w.isRef = true))
    {pc : Nat} {Ls : Array Slot} {rest : List Value} (hd : decode c.code pc = .ok (i, 1)) (hq : Q (some w) T.heap locs) (hc : cells ≤ C) (hk : slots ≤ K) :
    own_Goes p e below (own_Fin s Q C K) (T.setTop (mkF m pc Ls (w :: rest))) := by
  obtain ⟨fs, hr, hrun, hended, hW, hsame⟩ := X.leave (v := some w) (fun h => by rw [hret] at h; cases h)
  exact ⟨_, _, retOut X hx hret hn hi hd hr, hrun, hended, _, _, rfl, hq, ⟨_, rfl⟩, hW, hsame.mono hc hk⟩
theorem own_nb {z : Int32} (h : z = 0 ∨ z = 1) : narrow .boolean (.int z) = .int z := by
  rcases h with rfl | rfl <;> rfl
theorem own_01 {q : Prop} [Decidable q] {x y : Int32} (hx : x = 0 ∨ x = 1) (hy : y = 0 ∨ y = 1) : (if q then x else y) = 0 ∨ (if q then x else y) = 1 := by
  split
  · exact hx
  · exact hy
/-- the law's own promise -/
def own_Q0 (n0 : Nat) (v : Option Value) (h : Heap) (L : List Loc) : Prop := v = some (.int 1) ∧ Fr n0 L
theorem own_retL {n0 : Nat} (X : Stand p l e R s m args below meth c T locs cells slots) (hx : p.tables.exec = Jvm.exec) (hlk : meth.locks = false) (hret : meth.sig.returnType = some .boolean) {pc : Nat} {Ls : Array Slot} {z : Int32} {rest : List Value} (hd : decode c.code pc = .ok (.ireturn, 1)) (hz : z = 1) (N : Fr n0 locs) (hc : cells ≤ C) (hk : slots ≤ K) :
    own_Goes p e below (own_Fin s (own_Q0 n0) C K) (T.setTop (mkF m pc Ls (.int z :: rest))) := by
  subst hz
  exact own_retV X hx hlk hret (own_nb (Or.inr rfl)) (Or.inl ⟨rfl, Or.inr (Or.inl rfl), _, rfl⟩) hd ⟨rfl, N⟩ hc hk
/-! arrays of ints and of longs, by their lists -/
theorem own_getI (xs : List Int32) (n : Nat) : (xs.map Value.int).getD n (Value.int 0) = Value.int (xs.getD n 0) := by
  simp only [List.getD_eq_getElem?_getD, List.getElem?_map]
  cases xs[n]? <;> rfl
theorem own_getJ (xs : List Int64) (n : Nat) : (xs.map Value.long).getD n (Value.long 0) = Value.long (xs.getD n 0) := by
  simp only [List.getD_eq_getElem?_getD, List.getElem?_map]
  cases xs[n]? <;> rfl
theorem own_newI {k : ClassId} {z : Int32} (A : Arr Z h a (newA k .int z) .int) (q : ¬ z < 0) (n : Nat) : Arv Z h a k .int z ((List.replicate n (0 : Int32)).map Value.int) (Value.int 0) :=
  (Arv.new A q).pad fun i => by rw [List.map_replicate]; exact pad_rep [] (Value.int 0) n i
theorem own_newJ {k : ClassId} {z : Int32} (A : Arr Z h a (newA k .long z) .long) (q : ¬ z < 0) (n : Nat) : Arv Z h a k .long z ((List.replicate n (0 : Int64)).map Value.long) (Value.long 0) :=
  (Arv.new A q).pad fun i => by rw [List.map_replicate]; exact pad_rep [] (Value.long 0) n i
theorem own_ial (X : Stand p l e R s m args below meth c T locs cells slots) (hx : p.tables.exec = Jvm.exec) (hZ : Z.Warmed39 s.vm) (eT : T.heap = h) {k : ClassId} {z j : Int32} {xs : List Int32} (F : Arv Z h a k .int z (xs.map Value.int) (Value.int 0)) (hj : ¬ j < 0 ∧ j < z)
    {g : JFrame} (hg : g.method = m) {rest : List Value} (hs : g.stack = .int j :: .ref a :: rest) (hd : decode c.code g.pc = .ok (.iaload, 1)) (t : State) (kk : Steps p.tables e below (T.setTop { g with pc := g.pc + 1, stack := .int (xs.getD j.toNatClampNeg 0) :: rest }) t) : Steps p.tables e below (T.setTop g) t := by
  obtain ⟨cl, Ar, -, S, -, H, -⟩ := F
  have hin := inb_of S hj
  exact X.iaload hx (j := j) (by rw [eT]; exact Ar.1) (State.isArrayOf_alike hZ.alike Ar.2.1) Ar.2.2 hin (H.at hin (own_getI _ _)) hg hs hd t kk
theorem own_lal (X : Stand p l e R s m args below meth c T locs cells slots) (hx : p.tables.exec = Jvm.exec) (hZ : Z.Warmed39 s.vm) (eT : T.heap = h) {k : ClassId} {z j : Int32} {xs : List Int64} (F : Arv Z h a k .long z (xs.map Value.long) (Value.long 0)) (hj : ¬ j < 0 ∧ j < z)
    {g : JFrame} (hg : g.method = m) {rest : List Value} (hs : g.stack = .int j :: .ref a :: rest) (hd : decode c.code g.pc = .ok (.laload, 1)) (t : State) (kk : Steps p.tables e below (T.setTop { g with pc := g.pc + 1, stack := .long (xs.getD j.toNatClampNeg 0) :: rest }) t) : Steps p.tables e below (T.setTop g) t := by
  obtain ⟨cl, Ar, -, S, -, H, -⟩ := F
  have hin := inb_of S hj
  exact X.laload hx (j := j) (by rw [eT]; exact Ar.1) (State.isArrayOf_alike hZ.alike Ar.2.1) Ar.2.2 hin (H.at hin (own_getJ _ _)) hg hs hd t kk
theorem own_len (X : Stand p l e R s m args below meth c T locs cells slots) (hx : p.tables.exec = Jvm.exec) (hZ : Z.Warmed39 s.vm) (eT : T.heap = h) {k : ClassId} {ty : FieldType} {z : Int32} {vs : List Value} {dv : Value} (F : Arv Z h a k ty z vs dv)
    {g : JFrame} (hg : g.method = m) {rest : List Value} (hs : g.stack = .ref a :: rest) (hd : decode c.code g.pc = .ok (.arraylength, 1)) (t : State) (kk : Steps p.tables e below (T.setTop { g with pc := g.pc + 1, stack := .int z :: rest }) t) : Steps p.tables e below (T.setTop g) t := by
  obtain ⟨cl, Ar, -, S, N, -, -⟩ := F
  refine X.arraylength hx (by rw [eT]; exact Ar.1) (State.isArrayOf_alike hZ.alike Ar.2.1) hg hs hd t ?_
  rw [len_of S N]
  exact kk
theorem own_ist (X : Stand p l e R s m args below meth c T locs cells slots) (hx : p.tables.exec = Jvm.exec) (hZ : Z.Warmed39 s.vm) (eT : T.heap = h) {k : ClassId} {z j y : Int32} {xs : List Int32} (F : Arv Z h a k .int z (xs.map Value.int) (Value.int 0)) (hj : ¬ j < 0 ∧ j < z) (n : Nat) (hn : j.toNatClampNeg = n) (hl : n < xs.length)
    {g : JFrame} (hg : g.method = m) {rest : List Value} (hs : g.stack = .int y :: .int j :: .ref a :: rest) (hd : decode c.code g.pc = .ok (.iastore, 1)) :
    ∃ T' h', Stand p l e R s m args below meth c T' (locs ++ [⟨a, j.toNatClampNeg⟩]) cells slots ∧ T'.heap = h' ∧ Wr h h' a j.toNatClampNeg (.int y) ∧ Arv Z h' a k .int z ((xs.set n y).map Value.int) (Value.int 0) ∧ ∀ t, Steps p.tables e below (T'.setTop { g with pc := g.pc + 1, stack := rest }) t → Steps p.tables e below (T.setTop g) t := by
  obtain ⟨cl, Ar, q, S, N, H, I⟩ := F
  obtain ⟨T', h', X', e', W, st⟩ := stI X hx hZ eT Ar (inb_of S hj) hg hs hd
  refine ⟨T', h', X', e', W, ?_, st⟩
  rw [List.map_set]
  exact Arv.set Ar q S N H I rfl W n hn (by rw [List.length_map]; exact hl)
theorem own_lst (X : Stand p l e R s m args below meth c T locs cells slots) (hx : p.tables.exec = Jvm.exec) (hZ : Z.Warmed39 s.vm) (eT : T.heap = h) {k : ClassId} {z j : Int32} {y : Int64} {xs : List Int64} (F : Arv Z h a k .long z (xs.map Value.long) (Value.long 0)) (hj : ¬ j < 0 ∧ j < z) (n : Nat) (hn : j.toNatClampNeg = n) (hl : n < xs.length)
    {g : JFrame} (hg : g.method = m) {rest : List Value} (hs : g.stack = .long y :: .int j :: .ref a :: rest) (hd : decode c.code g.pc = .ok (.lastore, 1)) :
    ∃ T' h', Stand p l e R s m args below meth c T' (locs ++ [⟨a, j.toNatClampNeg⟩]) cells slots ∧ T'.heap = h' ∧ Wr h h' a j.toNatClampNeg (.long y) ∧ Arv Z h' a k .long z ((xs.set n y).map Value.long) (Value.long 0) ∧ ∀ t, Steps p.tables e below (T'.setTop { g with pc := g.pc + 1, stack := rest }) t → Steps p.tables e below (T.setTop g) t := by
  obtain ⟨cl, Ar, q, S, N, H, I⟩ := F
  obtain ⟨T', h', X', e', W, st⟩ := stJ X hx hZ eT Ar (inb_of S hj) hg hs hd
  refine ⟨T', h', X', e', W, ?_, st⟩
  rw [List.map_set]
  exact Arv.set Ar q S N H I rfl W n hn (by rw [List.length_map]; exact hl)
end Own
theorem own_ord {args : Array Value} {s : State} {C n d : String} {x : Addr} {k : Int32} (hx : (Term.static C n d).eval args s none [] s = some (.ref x)) (h : (Jvm.Cond.eq (Term.field (Term.static C n d) "java/lang/Enum" "ordinal" "I") (Term.int k)).value args s none s [] = some true) : Fld s s.heap x "java/lang/Enum" "ordinal" "I" (.int k) := by
  obtain ⟨u, w, e1, e2, k1, -⟩ := cmp_v (Or.inl h)
  have e3 : (Term.int k).eval args s none [] s = some (.int k) := Term.int_eval _
  cases e2.symm.trans e3
  have e4 := e1
  rw [fld_at hx] at e4
  refine Fld.start ?_
  rw [e4]
  cases u with
  | int z =>
    have : z = k := by simpa [Cond.value, e1, e3] using h
    rw [this]
  | _ => simp [Kin, Value.isRef] at k1
theorem own_cases {x v : Int32} (h : (x &&& (3 : Int32)) = v) : v = (0 : Int32) ∨ v = (1 : Int32) ∨ v = (2 : Int32) ∨ v = (3 : Int32) := by
  have q := c_and x 3 (by decide)
  rw [h] at q
  have z : (3 : Int32).toInt = 3 := rfl
  have hb : v.toInt = (0 : Int32).toInt ∨ v.toInt = (1 : Int32).toInt ∨ v.toInt = (2 : Int32).toInt ∨ v.toInt = (3 : Int32).toInt := by
    show v.toInt = 0 ∨ v.toInt = 1 ∨ v.toInt = 2 ∨ v.toInt = 3
    omega
  exact hb.imp Int32.toInt_inj.mp (Or.imp Int32.toInt_inj.mp (Or.imp Int32.toInt_inj.mp Int32.toInt_inj.mp))
theorem own_case0 {w_WAITROOM w_SPECTATOR w_TEAM_SPAWN w_SPAWN : Addr} (ne10 : w_SPECTATOR ≠ w_WAITROOM) (ne02 : w_TEAM_SPAWN ≠ w_WAITROOM) (ne12 : w_TEAM_SPAWN ≠ w_SPECTATOR) (ne03 : w_SPAWN ≠ w_WAITROOM) (ne13 : w_SPAWN ≠ w_SPECTATOR) : (if (if w_WAITROOM = w_WAITROOM then (1 : Int32) else (if w_WAITROOM = w_SPECTATOR then (1 : Int32) else (0 : Int32))) = (1 : Int32) then (1 : Int32) else (0 : Int32)) = 1 := by
  simp [ne10, ne02, ne12, ne03, ne13]
theorem own_case1 {w_WAITROOM w_SPECTATOR w_TEAM_SPAWN w_SPAWN : Addr} (ne10 : w_SPECTATOR ≠ w_WAITROOM) (ne02 : w_TEAM_SPAWN ≠ w_WAITROOM) (ne12 : w_TEAM_SPAWN ≠ w_SPECTATOR) (ne03 : w_SPAWN ≠ w_WAITROOM) (ne13 : w_SPAWN ≠ w_SPECTATOR) : (if (if w_SPECTATOR = w_WAITROOM then (1 : Int32) else (if w_SPECTATOR = w_SPECTATOR then (1 : Int32) else (0 : Int32))) = (1 : Int32) then (1 : Int32) else (0 : Int32)) = 1 := by
  simp [ne10, ne02, ne12, ne03, ne13]
theorem own_case2 {w_WAITROOM w_SPECTATOR w_TEAM_SPAWN w_SPAWN : Addr} (ne10 : w_SPECTATOR ≠ w_WAITROOM) (ne02 : w_TEAM_SPAWN ≠ w_WAITROOM) (ne12 : w_TEAM_SPAWN ≠ w_SPECTATOR) (ne03 : w_SPAWN ≠ w_WAITROOM) (ne13 : w_SPAWN ≠ w_SPECTATOR) : (if (if w_TEAM_SPAWN = w_WAITROOM then (1 : Int32) else (if w_TEAM_SPAWN = w_SPECTATOR then (1 : Int32) else (0 : Int32))) = (0 : Int32) then (1 : Int32) else (0 : Int32)) = 1 := by
  simp [ne10, ne02, ne12, ne03, ne13]
theorem own_case3 {w_WAITROOM w_SPECTATOR w_TEAM_SPAWN w_SPAWN : Addr} (ne10 : w_SPECTATOR ≠ w_WAITROOM) (ne02 : w_TEAM_SPAWN ≠ w_WAITROOM) (ne12 : w_TEAM_SPAWN ≠ w_SPECTATOR) (ne03 : w_SPAWN ≠ w_WAITROOM) (ne13 : w_SPAWN ≠ w_SPECTATOR) : (if (if w_SPAWN = w_WAITROOM then (1 : Int32) else (if w_SPAWN = w_SPECTATOR then (1 : Int32) else (0 : Int32))) = (0 : Int32) then (1 : Int32) else (0 : Int32)) = 1 := by
  simp [ne10, ne02, ne12, ne03, ne13]
theorem own_pn0 : plainName "com/example/battlement/battlement/definition/LocationIsSpectatorSpawnPinLaw" = true := by first | (simp [plainName, overriddenIn]; done) | decide +kernel
theorem own_dmethod_2_code_0 : decode method_2_code 0 = .ok (.iload_n 0, 1) := by decide +kernel
theorem own_dmethod_2_code_1 : decode method_2_code 1 = .ok (.ifCond .ne 7, 3) := by decide +kernel
theorem own_dmethod_2_code_4 : decode method_2_code 4 = .ok (.getstatic 7, 3) := by decide +kernel
theorem own_dmethod_2_code_7 : decode method_2_code 7 = .ok (.areturn, 1) := by decide +kernel
theorem own_dmethod_2_code_8 : decode method_2_code 8 = .ok (.iload_n 0, 1) := by decide +kernel
theorem own_dmethod_2_code_9 : decode method_2_code 9 = .ok (.iconst 1, 1) := by decide +kernel
theorem own_dmethod_2_code_10 : decode method_2_code 10 = .ok (.if_icmp .ne 7, 3) := by decide +kernel
theorem own_dmethod_2_code_13 : decode method_2_code 13 = .ok (.getstatic 13, 3) := by decide +kernel
theorem own_dmethod_2_code_16 : decode method_2_code 16 = .ok (.areturn, 1) := by decide +kernel
theorem own_dmethod_2_code_17 : decode method_2_code 17 = .ok (.iload_n 0, 1) := by decide +kernel
theorem own_dmethod_2_code_18 : decode method_2_code 18 = .ok (.iconst 2, 1) := by decide +kernel
theorem own_dmethod_2_code_19 : decode method_2_code 19 = .ok (.if_icmp .ne 7, 3) := by decide +kernel
theorem own_dmethod_2_code_22 : decode method_2_code 22 = .ok (.getstatic 16, 3) := by decide +kernel
theorem own_dmethod_2_code_25 : decode method_2_code 25 = .ok (.areturn, 1) := by decide +kernel
theorem own_dmethod_2_code_26 : decode method_2_code 26 = .ok (.getstatic 19, 3) := by decide +kernel
theorem own_dmethod_2_code_29 : decode method_2_code 29 = .ok (.areturn, 1) := by decide +kernel
theorem own_b1_ef (m : MethodId) (q1 : Int32) : entryFrame m #[(.int q1)] 1 = mkF m 0 #[.val (.int q1)] [] := by first | (simp [entryFrame, mkF, argsToLocals, Value.category]; done) | rfl
def own_b1_Q (Z : State) (q1 : Int32) (w_WAITROOM : Addr) (w_SPECTATOR : Addr) (w_TEAM_SPAWN : Addr) (w_SPAWN : Addr) (r1 : Addr) (h0 : Heap) (n0 : Nat) (v : Option Value) (h : Heap) (L : List Loc) : Prop := v = some (.ref r1) ∧ Fr n0 L ∧ h = h0
set_option maxRecDepth 65536 in
set_option maxHeartbeats 40000000 in
theorem own_b1 (l : Launch) (Z : State) (a0 : Array Value) (hw : ∀ d ∈ tables_1, d.before a0 Z = true) (ws : List Jvm.Cond) (q1 : Int32) (w_WAITROOM : Addr) (w_SPECTATOR : Addr) (w_TEAM_SPAWN : Addr) (w_SPAWN : Addr) (r1 : Addr) (h0 : Heap) (n0 : Nat) (Z0 : n0 ≤ h0.size) (S_WAITROOM : Sta Z Z.heap "com/example/battlement/battlement/definition/Action$Location" "WAITROOM" "Lcom/example/battlement/battlement/definition/Action$Location;" (.ref w_WAITROOM)) (S_SPECTATOR : Sta Z Z.heap "com/example/battlement/battlement/definition/Action$Location" "SPECTATOR" "Lcom/example/battlement/battlement/definition/Action$Location;" (.ref w_SPECTATOR)) (S_TEAM_SPAWN : Sta Z Z.heap "com/example/battlement/battlement/definition/Action$Location" "TEAM_SPAWN" "Lcom/example/battlement/battlement/definition/Action$Location;" (.ref w_TEAM_SPAWN)) (S_SPAWN : Sta Z Z.heap "com/example/battlement/battlement/definition/Action$Location" "SPAWN" "Lcom/example/battlement/battlement/definition/Action$Location;" (.ref w_SPAWN)) (O0 : Old Z n0 h0) (hr1 : (if q1 = (0 : Int32) then w_WAITROOM else (if q1 = (1 : Int32) then w_SPECTATOR else (if q1 = (2 : Int32) then w_TEAM_SPAWN else w_SPAWN))) = r1) :
    MetFree l (⟨"com/example/battlement/battlement/definition/LocationIsSpectatorSpawnPinLaw", "pick", "(I)Lcom/example/battlement/battlement/definition/Action$Location;"⟩ : MethodName) (head1 (Jvm.Cond.code (⟨"com/example/battlement/battlement/definition/LocationIsSpectatorSpawnPinLaw", "pick", "(I)Lcom/example/battlement/battlement/definition/Action$Location;"⟩ : MethodName) method_2_code 1 (some (.object "com/example/battlement/battlement/definition/Action$Location")) :: ws) ({ frames := 0, cells := 0, slots := 0, locals := 0 } : Room)) (fun aa U => aa = #[(.int q1)] ∧ Z.Warmed39 U.vm ∧ U.heap = h0) (fun _ _ _ _ _ => True) (fun _ U o U' => ∃ v L, o = .returned v ∧ own_b1_Q Z q1 w_WAITROOM w_SPECTATOR w_TEAM_SPAWN w_SPAWN r1 h0 n0 v U'.heap L ∧ FrameEnd U o U' L ({ frames := 0, cells := 0, slots := 0, locals := 0 } : Room).cells ({ frames := 0, cells := 0, slots := 0, locals := 0 } : Room).slots) := by
  refine MetFree.of_bodySF (plainFor_of_name own_pn0) hisR ?_
  have w4 := hw _ (List.mem_of_getElem? (i := 4) rfl)
  have w13 := hw _ (List.mem_of_getElem? (i := 13) rfl)
  have w17 := hw _ (List.mem_of_getElem? (i := 17) rfl)
  have w19 := hw _ (List.mem_of_getElem? (i := 19) rfl)
  intro p e s m args below meth c s₁ Bd hml0 hP hK
  obtain ⟨rfl, hZ, hh⟩ := hP
  have hx := Bd.exec
  have hby := Bd.bytes
  have hlk := Bd.notSynchronized
  have hml : c.maxLocals = 1 := hml0
  have hown : s.vm.findClass "com/example/battlement/battlement/definition/LocationIsSpectatorSpawnPinLaw" = some m.cls := findClass_of_methodNamed Bd.named
  have hnm := (name_of_methodNamed Bd.named Bd.method).1
  have X0 : Stand p l e ({ frames := 0, cells := 0, slots := 0, locals := 0 } : Room) s m #[(.int q1)] below meth c s₁ [] 0 0 := Stand.of_body Bd
  have e0 : s₁.heap = h0 := by rw [← hh, Bd.state]; rfl
  have N0 := Fr.nil n0
  have K0 : Keep h0 h0 [] := Keep.refl h0 _
  show own_Goes p e below (own_Fin s (own_b1_Q Z q1 w_WAITROOM w_SPECTATOR w_TEAM_SPAWN w_SPAWN r1 h0 n0) ({ frames := 0, cells := 0, slots := 0, locals := 0 } : Room).cells ({ frames := 0, cells := 0, slots := 0, locals := 0 } : Room).slots) _
  refine own_step (fun t k => castTop (own_b1_ef m q1) k) ?_
  show own_Goes p e below _ (s₁.setTop (mkF m 0 #[.val (.int q1)] []))
  refine own_step (fun t k => XS.iloadN X0.here hx rfl (hb hby own_dmethod_2_code_0) rfl k) ?_
  show own_Goes p e below _ (s₁.setTop (mkF m 1 #[.val (.int q1)] [(.int q1)]))
  by_cases hc8 : q1 = (0 : Int32)
  · --
    refine own_step (fun t k => XS.ifNo X0.here hx rfl (hb hby own_dmethod_2_code_1) rfl ((if0 _ _).trans (teq hc8).2) k) ?_
    show own_Goes p e below _ (s₁.setTop (mkF m 4 #[.val (.int q1)] []))
    obtain ⟨T9, X9, e9, st9⟩ := getS2 X0 hx hZ hown (host := "") (Or.inl w4) Via.refl e0 (S_WAITROOM.ext O0.2) (g := (mkF m 4 #[.val (.int q1)] [])) rfl (hb hby own_dmethod_2_code_4)
    refine own_step st9 ?_
    show own_Goes p e below _ (T9.setTop (mkF m 7 #[.val (.int q1)] [(.ref w_WAITROOM)]))
    refine own_retV X9 hx hlk Bd.returns (w := (.ref w_WAITROOM)) rfl (Or.inr (Or.inr (Or.inr (Or.inr ⟨rfl, rfl, rfl⟩)))) (hb hby own_dmethod_2_code_7) ?_ (by decide) (by decide)
    show own_b1_Q Z q1 w_WAITROOM w_SPECTATOR w_TEAM_SPAWN w_SPAWN r1 h0 n0 _ T9.heap _
    rw [e9]
    exact ⟨(by rw [← hr1]; simp only [if_pos hc8]), N0, rfl⟩
  · --
    refine own_step (fun t k => XS.ifYes X0.here hx rfl (pc0 := 1) (pc' := 8) rfl (hb hby own_dmethod_2_code_1) rfl ((if0 _ _).trans (feq hc8).2) (by decide) (by decide) k) ?_
    show own_Goes p e below _ (s₁.setTop (mkF m 8 #[.val (.int q1)] []))
    refine own_step (fun t k => XS.iloadN X0.here hx rfl (hb hby own_dmethod_2_code_8) rfl k) ?_
    show own_Goes p e below _ (s₁.setTop (mkF m 9 #[.val (.int q1)] [(.int q1)]))
    refine own_step (fun t k => XS.iconst X0.here hx rfl (hb hby own_dmethod_2_code_9) k) ?_
    show own_Goes p e below _ (s₁.setTop (mkF m 10 #[.val (.int q1)] [(.int (1 : Int32)), (.int q1)]))
    by_cases hc10 : q1 = (1 : Int32)
    · --
      refine own_step (fun t k => XS.icmpNo X0.here hx rfl (hb hby own_dmethod_2_code_10) rfl (teq hc10).2 k) ?_
      show own_Goes p e below _ (s₁.setTop (mkF m 13 #[.val (.int q1)] []))
      obtain ⟨T11, X11, e11, st11⟩ := getS2 X0 hx hZ hown (host := "") (Or.inl w19) Via.refl e0 (S_SPECTATOR.ext O0.2) (g := (mkF m 13 #[.val (.int q1)] [])) rfl (hb hby own_dmethod_2_code_13)
      refine own_step st11 ?_
      show own_Goes p e below _ (T11.setTop (mkF m 16 #[.val (.int q1)] [(.ref w_SPECTATOR)]))
      refine own_retV X11 hx hlk Bd.returns (w := (.ref w_SPECTATOR)) rfl (Or.inr (Or.inr (Or.inr (Or.inr ⟨rfl, rfl, rfl⟩)))) (hb hby own_dmethod_2_code_16) ?_ (by decide) (by decide)
      show own_b1_Q Z q1 w_WAITROOM w_SPECTATOR w_TEAM_SPAWN w_SPAWN r1 h0 n0 _ T11.heap _
      rw [e11]
      exact ⟨(by rw [← hr1]; simp only [if_neg hc8, if_pos hc10]), N0, rfl⟩
    · --
      refine own_step (fun t k => XS.icmpYes X0.here hx rfl (pc0 := 10) (pc' := 17) rfl (hb hby own_dmethod_2_code_10) rfl (feq hc10).2 (by decide) (by decide) k) ?_
      show own_Goes p e below _ (s₁.setTop (mkF m 17 #[.val (.int q1)] []))
      refine own_step (fun t k => XS.iloadN X0.here hx rfl (hb hby own_dmethod_2_code_17) rfl k) ?_
      show own_Goes p e below _ (s₁.setTop (mkF m 18 #[.val (.int q1)] [(.int q1)]))
      refine own_step (fun t k => XS.iconst X0.here hx rfl (hb hby own_dmethod_2_code_18) k) ?_
      show own_Goes p e below _ (s₁.setTop (mkF m 19 #[.val (.int q1)] [(.int (2 : Int32)), (.int q1)]))
      by_cases hc12 : q1 = (2 : Int32)
      · --
        refine own_step (fun t k => XS.icmpNo X0.here hx rfl (hb hby own_dmethod_2_code_19) rfl (teq hc12).2 k) ?_
        show own_Goes p e below _ (s₁.setTop (mkF m 22 #[.val (.int q1)] []))
        obtain ⟨T13, X13, e13, st13⟩ := getS2 X0 hx hZ hown (host := "") (Or.inl w17) Via.refl e0 (S_TEAM_SPAWN.ext O0.2) (g := (mkF m 22 #[.val (.int q1)] [])) rfl (hb hby own_dmethod_2_code_22)
        refine own_step st13 ?_
        show own_Goes p e below _ (T13.setTop (mkF m 25 #[.val (.int q1)] [(.ref w_TEAM_SPAWN)]))
        refine own_retV X13 hx hlk Bd.returns (w := (.ref w_TEAM_SPAWN)) rfl (Or.inr (Or.inr (Or.inr (Or.inr ⟨rfl, rfl, rfl⟩)))) (hb hby own_dmethod_2_code_25) ?_ (by decide) (by decide)
        show own_b1_Q Z q1 w_WAITROOM w_SPECTATOR w_TEAM_SPAWN w_SPAWN r1 h0 n0 _ T13.heap _
        rw [e13]
        exact ⟨(by rw [← hr1]; simp only [if_neg hc8, if_neg hc10, if_pos hc12]), N0, rfl⟩
      · --
        refine own_step (fun t k => XS.icmpYes X0.here hx rfl (pc0 := 19) (pc' := 26) rfl (hb hby own_dmethod_2_code_19) rfl (feq hc12).2 (by decide) (by decide) k) ?_
        show own_Goes p e below _ (s₁.setTop (mkF m 26 #[.val (.int q1)] []))
        obtain ⟨T14, X14, e14, st14⟩ := getS2 X0 hx hZ hown (host := "") (Or.inl w13) Via.refl e0 (S_SPAWN.ext O0.2) (g := (mkF m 26 #[.val (.int q1)] [])) rfl (hb hby own_dmethod_2_code_26)
        refine own_step st14 ?_
        show own_Goes p e below _ (T14.setTop (mkF m 29 #[.val (.int q1)] [(.ref w_SPAWN)]))
        refine own_retV X14 hx hlk Bd.returns (w := (.ref w_SPAWN)) rfl (Or.inr (Or.inr (Or.inr (Or.inr ⟨rfl, rfl, rfl⟩)))) (hb hby own_dmethod_2_code_29) ?_ (by decide) (by decide)
        show own_b1_Q Z q1 w_WAITROOM w_SPECTATOR w_TEAM_SPAWN w_SPAWN r1 h0 n0 _ T14.heap _
        rw [e14]
        exact ⟨(by rw [← hr1]; simp only [if_neg hc8, if_neg hc10, if_neg hc12]), N0, rfl⟩
theorem own_pn1 : plainName "com/example/battlement/battlement/definition/Action$Location" = true := by first | (simp [plainName, overriddenIn]; done) | decide +kernel
theorem own_dprog_75_method_5_code_0 : decode prog_75_method_5_code 0 = .ok (.aload_n 0, 1) := by decide +kernel
theorem own_dprog_75_method_5_code_1 : decode prog_75_method_5_code 1 = .ok (.getstatic 3, 3) := by decide +kernel
theorem own_dprog_75_method_5_code_4 : decode prog_75_method_5_code 4 = .ok (.if_acmp .eq 10, 3) := by decide +kernel
theorem own_dprog_75_method_5_code_14 : decode prog_75_method_5_code 14 = .ok (.iconst 1, 1) := by decide +kernel
theorem own_dprog_75_method_5_code_15 : decode prog_75_method_5_code 15 = .ok (.goto 4, 3) := by decide +kernel
theorem own_dprog_75_method_5_code_19 : decode prog_75_method_5_code 19 = .ok (.ireturn, 1) := by decide +kernel
theorem own_dprog_75_method_5_code_7 : decode prog_75_method_5_code 7 = .ok (.aload_n 0, 1) := by decide +kernel
theorem own_dprog_75_method_5_code_8 : decode prog_75_method_5_code 8 = .ok (.getstatic 7, 3) := by decide +kernel
theorem own_dprog_75_method_5_code_11 : decode prog_75_method_5_code 11 = .ok (.if_acmp .ne 7, 3) := by decide +kernel
theorem own_dprog_75_method_5_code_18 : decode prog_75_method_5_code 18 = .ok (.iconst 0, 1) := by decide +kernel
theorem own_b2_ef (m : MethodId) (a1 : Addr) : entryFrame m #[(.ref a1)] 1 = mkF m 0 #[.val (.ref a1)] [] := by first | (simp [entryFrame, mkF, argsToLocals, Value.category]; done) | rfl
def own_b2_Q (Z : State) (a1 : Addr) (w_WAITROOM : Addr) (w_SPECTATOR : Addr) (h0 : Heap) (n0 : Nat) (v : Option Value) (h : Heap) (L : List Loc) : Prop := v = some (.int (if a1 = w_WAITROOM then (1 : Int32) else (if a1 = w_SPECTATOR then (1 : Int32) else (0 : Int32)))) ∧ Fr n0 L ∧ h = h0
set_option maxRecDepth 65536 in
set_option maxHeartbeats 40000000 in
theorem own_b2 (l : Launch) (Z : State) (a0 : Array Value) (hw : ∀ d ∈ tables_1, d.before a0 Z = true) (ws : List Jvm.Cond) (a1 : Addr) (w_WAITROOM : Addr) (w_SPECTATOR : Addr) (h0 : Heap) (n0 : Nat) (Z0 : n0 ≤ h0.size) (S_WAITROOM : Sta Z Z.heap "com/example/battlement/battlement/definition/Action$Location" "WAITROOM" "Lcom/example/battlement/battlement/definition/Action$Location;" (.ref w_WAITROOM)) (S_SPECTATOR : Sta Z Z.heap "com/example/battlement/battlement/definition/Action$Location" "SPECTATOR" "Lcom/example/battlement/battlement/definition/Action$Location;" (.ref w_SPECTATOR)) (O0 : Old Z n0 h0) :
    MetFree l (⟨"com/example/battlement/battlement/definition/Action$Location", "isSpectatorSpawn", "()Z"⟩ : MethodName) (head1 (Jvm.Cond.code (⟨"com/example/battlement/battlement/definition/Action$Location", "isSpectatorSpawn", "()Z"⟩ : MethodName) prog_75_method_5_code 1 (some .boolean) :: ws) ({ frames := 0, cells := 0, slots := 0, locals := 0 } : Room)) (fun aa U => aa = #[(.ref a1)] ∧ Z.Warmed39 U.vm ∧ U.heap = h0) (fun _ _ _ _ _ => True) (fun _ U o U' => ∃ v L, o = .returned v ∧ own_b2_Q Z a1 w_WAITROOM w_SPECTATOR h0 n0 v U'.heap L ∧ FrameEnd U o U' L ({ frames := 0, cells := 0, slots := 0, locals := 0 } : Room).cells ({ frames := 0, cells := 0, slots := 0, locals := 0 } : Room).slots) := by
  refine MetFree.of_bodySF (plainFor_of_name own_pn1) hisR ?_
  have w12 := hw _ (List.mem_of_getElem? (i := 12) rfl)
  have w15 := hw _ (List.mem_of_getElem? (i := 15) rfl)
  intro p e s m args below meth c s₁ Bd hml0 hP hK
  obtain ⟨rfl, hZ, hh⟩ := hP
  have hx := Bd.exec
  have hby := Bd.bytes
  have hlk := Bd.notSynchronized
  have hml : c.maxLocals = 1 := hml0
  have hown : s.vm.findClass "com/example/battlement/battlement/definition/Action$Location" = some m.cls := findClass_of_methodNamed Bd.named
  have hnm := (name_of_methodNamed Bd.named Bd.method).1
  have X0 : Stand p l e ({ frames := 0, cells := 0, slots := 0, locals := 0 } : Room) s m #[(.ref a1)] below meth c s₁ [] 0 0 := Stand.of_body Bd
  have e0 : s₁.heap = h0 := by rw [← hh, Bd.state]; rfl
  have N0 := Fr.nil n0
  have K0 : Keep h0 h0 [] := Keep.refl h0 _
  show own_Goes p e below (own_Fin s (own_b2_Q Z a1 w_WAITROOM w_SPECTATOR h0 n0) ({ frames := 0, cells := 0, slots := 0, locals := 0 } : Room).cells ({ frames := 0, cells := 0, slots := 0, locals := 0 } : Room).slots) _
  refine own_step (fun t k => castTop (own_b2_ef m a1) k) ?_
  show own_Goes p e below _ (s₁.setTop (mkF m 0 #[.val (.ref a1)] []))
  refine own_step (fun t k => XS.aloadN X0.here hx rfl (hb hby own_dprog_75_method_5_code_0) rfl rfl k) ?_
  show own_Goes p e below _ (s₁.setTop (mkF m 1 #[.val (.ref a1)] [(.ref a1)]))
  obtain ⟨T19, X19, e19, st19⟩ := getS2 X0 hx hZ hown (host := "") (Or.inl w12) Via.refl e0 (S_WAITROOM.ext O0.2) (g := (mkF m 1 #[.val (.ref a1)] [(.ref a1)])) rfl (hb hby own_dprog_75_method_5_code_1)
  refine own_step st19 ?_
  show own_Goes p e below _ (T19.setTop (mkF m 4 #[.val (.ref a1)] [(.ref w_WAITROOM), (.ref a1)]))
  by_cases ha20 : a1 = w_WAITROOM
  · --
    refine own_step (fun t k => Jvm.RoadKit.acmp (g := (mkF m 4 #[.val (.ref a1)] [(.ref w_WAITROOM), (.ref a1)])) X19 hx rfl rfl rfl (pc0 := 4) (pc' := 14) (same := true) rfl (hb hby own_dprog_75_method_5_code_4) rfl (decide_eq_true (congrArg Value.ref ha20)) (by decide) (by decide) k) ?_
    show own_Goes p e below _ (T19.setTop (mkF m 14 #[.val (.ref a1)] []))
    refine own_step (fun t k => XS.iconst X19.here hx rfl (hb hby own_dprog_75_method_5_code_14) k) ?_
    show own_Goes p e below _ (T19.setTop (mkF m 15 #[.val (.ref a1)] [(.int (1 : Int32))]))
    refine own_step (fun t k => XS.goto X19.here hx rfl (pc0 := 15) (pc' := 19) rfl (hb hby own_dprog_75_method_5_code_15) (by decide) (by decide) k) ?_
    show own_Goes p e below _ (T19.setTop (mkF m 19 #[.val (.ref a1)] [(.int (1 : Int32))]))
    refine own_retV X19 hx hlk Bd.returns (w := (.int (1 : Int32))) (own_nb (Or.inr rfl)) (Or.inl ⟨rfl, Or.inr (Or.inl rfl), _, rfl⟩) (hb hby own_dprog_75_method_5_code_19) ?_ (by decide) (by decide)
    show own_b2_Q Z a1 w_WAITROOM w_SPECTATOR h0 n0 _ T19.heap _
    rw [e19]
    exact ⟨(by simp only [if_pos ha20]), N0, rfl⟩
  · --
    refine own_step (fun t k => Jvm.RoadKit.acmp (g := (mkF m 4 #[.val (.ref a1)] [(.ref w_WAITROOM), (.ref a1)])) X19 hx rfl rfl rfl (pc0 := 4) (pc' := 7) (same := false) rfl (hb hby own_dprog_75_method_5_code_4) rfl (decide_eq_false fun zq => ha20 (Value.ref.inj zq)) (by decide) (by decide) k) ?_
    show own_Goes p e below _ (T19.setTop (mkF m 7 #[.val (.ref a1)] []))
    refine own_step (fun t k => XS.aloadN X19.here hx rfl (hb hby own_dprog_75_method_5_code_7) rfl rfl k) ?_
    show own_Goes p e below _ (T19.setTop (mkF m 8 #[.val (.ref a1)] [(.ref a1)]))
    obtain ⟨T21, X21, e21, st21⟩ := getS2 X19 hx hZ hown (host := "") (Or.inl w15) Via.refl e19 (S_SPECTATOR.ext O0.2) (g := (mkF m 8 #[.val (.ref a1)] [(.ref a1)])) rfl (hb hby own_dprog_75_method_5_code_8)
    refine own_step st21 ?_
    show own_Goes p e below _ (T21.setTop (mkF m 11 #[.val (.ref a1)] [(.ref w_SPECTATOR), (.ref a1)]))
    by_cases ha22 : a1 = w_SPECTATOR
    · --
      refine own_step (fun t k => Jvm.RoadKit.acmp (g := (mkF m 11 #[.val (.ref a1)] [(.ref w_SPECTATOR), (.ref a1)])) X21 hx rfl rfl rfl (pc0 := 11) (pc' := 14) (same := true) rfl (hb hby own_dprog_75_method_5_code_11) rfl (decide_eq_true (congrArg Value.ref ha22)) (by decide) (by decide) k) ?_
      show own_Goes p e below _ (T21.setTop (mkF m 14 #[.val (.ref a1)] []))
      refine own_step (fun t k => XS.iconst X21.here hx rfl (hb hby own_dprog_75_method_5_code_14) k) ?_
      show own_Goes p e below _ (T21.setTop (mkF m 15 #[.val (.ref a1)] [(.int (1 : Int32))]))
      refine own_step (fun t k => XS.goto X21.here hx rfl (pc0 := 15) (pc' := 19) rfl (hb hby own_dprog_75_method_5_code_15) (by decide) (by decide) k) ?_
      show own_Goes p e below _ (T21.setTop (mkF m 19 #[.val (.ref a1)] [(.int (1 : Int32))]))
      refine own_retV X21 hx hlk Bd.returns (w := (.int (1 : Int32))) (own_nb (Or.inr rfl)) (Or.inl ⟨rfl, Or.inr (Or.inl rfl), _, rfl⟩) (hb hby own_dprog_75_method_5_code_19) ?_ (by decide) (by decide)
      show own_b2_Q Z a1 w_WAITROOM w_SPECTATOR h0 n0 _ T21.heap _
      rw [e21]
      exact ⟨(by simp only [if_neg ha20, if_pos ha22]), N0, rfl⟩
    · --
      refine own_step (fun t k => Jvm.RoadKit.acmp (g := (mkF m 11 #[.val (.ref a1)] [(.ref w_SPECTATOR), (.ref a1)])) X21 hx rfl rfl rfl (pc0 := 11) (pc' := 18) (same := false) rfl (hb hby own_dprog_75_method_5_code_11) rfl (decide_eq_false fun zq => ha22 (Value.ref.inj zq)) (by decide) (by decide) k) ?_
      show own_Goes p e below _ (T21.setTop (mkF m 18 #[.val (.ref a1)] []))
      refine own_step (fun t k => XS.iconst X21.here hx rfl (hb hby own_dprog_75_method_5_code_18) k) ?_
      show own_Goes p e below _ (T21.setTop (mkF m 19 #[.val (.ref a1)] [(.int (0 : Int32))]))
      refine own_retV X21 hx hlk Bd.returns (w := (.int (0 : Int32))) (own_nb (Or.inl rfl)) (Or.inl ⟨rfl, Or.inr (Or.inl rfl), _, rfl⟩) (hb hby own_dprog_75_method_5_code_19) ?_ (by decide) (by decide)
      show own_b2_Q Z a1 w_WAITROOM w_SPECTATOR h0 n0 _ T21.heap _
      rw [e21]
      exact ⟨(by simp only [if_neg ha20, if_neg ha22]), N0, rfl⟩
theorem own_pd0 : parseMethodDescriptor "(I)Lcom/example/battlement/battlement/definition/Action$Location;" = some ⟨[.int], some (.object "com/example/battlement/battlement/definition/Action$Location")⟩ := by decide +kernel
theorem own_pd1 : parseMethodDescriptor "()Z" = some ⟨[], some .boolean⟩ := by decide +kernel
theorem own_law_ef (m : MethodId) (p1 : Int32) : entryFrame m #[(.int p1)] maxLocals = mkF m 0 #[.val (.int p1), .unset, .unset, .unset] [] := by first | (simp [entryFrame, mkF, argsToLocals, Value.category, maxLocals]; done) | rfl
set_option maxRecDepth 65536 in
set_option maxHeartbeats 40000000 in
theorem own_law (l : Launch) (Z : State) (a0 : Array Value) (hw : ∀ d ∈ tables_1, d.before a0 Z = true) (ws : List Jvm.Cond) (p1 : Int32) (w_WAITROOM : Addr) (w_SPECTATOR : Addr) (w_TEAM_SPAWN : Addr) (w_SPAWN : Addr) (h0 : Heap) (n0 : Nat) (Z0 : n0 ≤ h0.size) (S_WAITROOM : Sta Z Z.heap "com/example/battlement/battlement/definition/Action$Location" "WAITROOM" "Lcom/example/battlement/battlement/definition/Action$Location;" (.ref w_WAITROOM)) (S_SPECTATOR : Sta Z Z.heap "com/example/battlement/battlement/definition/Action$Location" "SPECTATOR" "Lcom/example/battlement/battlement/definition/Action$Location;" (.ref w_SPECTATOR)) (S_TEAM_SPAWN : Sta Z Z.heap "com/example/battlement/battlement/definition/Action$Location" "TEAM_SPAWN" "Lcom/example/battlement/battlement/definition/Action$Location;" (.ref w_TEAM_SPAWN)) (S_SPAWN : Sta Z Z.heap "com/example/battlement/battlement/definition/Action$Location" "SPAWN" "Lcom/example/battlement/battlement/definition/Action$Location;" (.ref w_SPAWN)) (O0 : Old Z n0 h0) (E_w_WAITROOM : Exa Z h0 w_WAITROOM "com/example/battlement/battlement/definition/Action$Location") (E_w_SPECTATOR : Exa Z h0 w_SPECTATOR "com/example/battlement/battlement/definition/Action$Location") (E_w_TEAM_SPAWN : Exa Z h0 w_TEAM_SPAWN "com/example/battlement/battlement/definition/Action$Location") (E_w_SPAWN : Exa Z h0 w_SPAWN "com/example/battlement/battlement/definition/Action$Location") (ne01 : w_WAITROOM ≠ w_SPECTATOR) (ne02 : w_TEAM_SPAWN ≠ w_WAITROOM) (ne12 : w_TEAM_SPAWN ≠ w_SPECTATOR) (ne03 : w_SPAWN ≠ w_WAITROOM) (ne13 : w_SPAWN ≠ w_SPECTATOR) :
    MetFree l x (head1 (Jvm.Cond.code x code maxLocals ret :: ws) room_1) (fun aa U => aa = #[(.int p1)] ∧ Z.Warmed39 U.vm ∧ U.heap = h0) (fun _ _ _ _ _ => True) (fun _ U o U' => ∃ v L, o = .returned v ∧ own_Q0 n0 v U'.heap L ∧ FrameEnd U o U' L 0 0) := by
  refine MetFree.of_bodySF (plainFor_of_name own_pn0) hisR ?_
  have w0 := hw _ (List.mem_of_getElem? (i := 0) rfl)
  have w1 := hw _ (List.mem_of_getElem? (i := 1) rfl)
  have w2 := hw _ (List.mem_of_getElem? (i := 2) rfl)
  have w3 := hw _ (List.mem_of_getElem? (i := 3) rfl)
  have w5 := hw _ (List.mem_of_getElem? (i := 5) rfl)
  have w7 := hw _ (List.mem_of_getElem? (i := 7) rfl)
  have w8 := hw _ (List.mem_of_getElem? (i := 8) rfl)
  have w9 := hw _ (List.mem_of_getElem? (i := 9) rfl)
  have w10 := hw _ (List.mem_of_getElem? (i := 10) rfl)
  have w11 := hw _ (List.mem_of_getElem? (i := 11) rfl)
  intro p e s m args below meth c s₁ Bd hml0 hP hK
  obtain ⟨rfl, hZ, hh⟩ := hP
  have hx := Bd.exec
  have hby := Bd.bytes
  have hlk := Bd.notSynchronized
  have hml : c.maxLocals = 4 := hml0
  have hown : s.vm.findClass "com/example/battlement/battlement/definition/LocationIsSpectatorSpawnPinLaw" = some m.cls := findClass_of_methodNamed Bd.named
  have hnm := (name_of_methodNamed Bd.named Bd.method).1
  have X0 : Stand p l e room_1 s m #[(.int p1)] below meth c s₁ [] 0 0 := Stand.of_body Bd
  have e0 : s₁.heap = h0 := by rw [← hh, Bd.state]; rfl
  have N0 := Fr.nil n0
  have K0 : Keep h0 h0 [] := Keep.refl h0 _
  show own_Goes p e below (own_Fin s (own_Q0 n0) 0 0) _
  refine own_step (fun t k => castTop (own_law_ef m p1) k) ?_
  show own_Goes p e below _ (s₁.setTop (mkF m 0 #[.val (.int p1), .unset, .unset, .unset] []))
  refine own_step (fun t k => XS.iloadN X0.here hx rfl (hb hby at_0) rfl k) ?_
  show own_Goes p e below _ (s₁.setTop (mkF m 1 #[.val (.int p1), .unset, .unset, .unset] [(.int p1)]))
  refine own_step (fun t k => XS.iconst X0.here hx rfl (hb hby at_1) k) ?_
  show own_Goes p e below _ (s₁.setTop (mkF m 2 #[.val (.int p1), .unset, .unset, .unset] [(.int (3 : Int32)), (.int p1)]))
  refine own_step (fun t k => XS.iand X0.here hx rfl (hb hby at_2) rfl k) ?_
  show own_Goes p e below _ (s₁.setTop (mkF m 3 #[.val (.int p1), .unset, .unset, .unset] [(.int (p1 &&& (3 : Int32)))]))
  refine own_step (fun t k => XS.istoreN X0.here hx rfl (hb hby at_3) rfl (l' := #[.val (.int p1), .val (.int (p1 &&& (3 : Int32))), .unset, .unset]) rfl k) ?_
  show own_Goes p e below _ (s₁.setTop (mkF m 4 #[.val (.int p1), .val (.int (p1 &&& (3 : Int32))), .unset, .unset] []))
  generalize hv_vi : (p1 &&& (3 : Int32)) = vi
  have hvi : vi = (0 : Int32) ∨ vi = (1 : Int32) ∨ vi = (2 : Int32) ∨ vi = (3 : Int32) := own_cases hv_vi
  clear hv_vi
  rcases hvi with rfl | rfl | rfl | rfl
  · --
    show own_Goes p e below _ (s₁.setTop (mkF m 4 #[.val (.int p1), .val (.int (0 : Int32)), .unset, .unset] []))
    refine own_step (fun t k => XS.iloadN X0.here hx rfl (hb hby at_4) rfl k) ?_
    show own_Goes p e below _ (s₁.setTop (mkF m 5 #[.val (.int p1), .val (.int (0 : Int32)), .unset, .unset] [(.int (0 : Int32))]))
    obtain ⟨_, _, ⟨T23, L23, k23, n23⟩, -, X23, ⟨Lc23, hQ23, l23, y23, z23⟩, st23⟩ := Jvm.LawKit.callS X0 hx (y := (⟨"com/example/battlement/battlement/definition/LocationIsSpectatorSpawnPinLaw", "pick", "(I)Lcom/example/battlement/battlement/definition/Action$Location;"⟩ : MethodName)) hown (mvT hZ w0) (mvT hZ w1) (mvT hZ w2) (mvT hZ w3) (by decide) (backOf (W := 0) (own_b1 l Z a0 hw [] (0 : Int32) (w_WAITROOM) (w_SPECTATOR) (w_TEAM_SPAWN) (w_SPAWN) (w_WAITROOM) h0 n0 Z0 S_WAITROOM S_SPECTATOR S_TEAM_SPAWN S_SPAWN O0 rfl) hZ w3 w2 (by decide) (by decide)) (g := (mkF m 5 #[.val (.int p1), .val (.int (0 : Int32)), .unset, .unset] [(.int (0 : Int32))])) rfl (by rw [hml]; rfl) (argsL := [(.int (0 : Int32))]) (rest := []) (lenOf own_pd0 rfl) rfl (by show 2 * 0 + _ ≤ _; exact Nat.le_of_eq rfl) (hb hby at_5) (fun _ _ => ⟨rfl, e0, (by decide : 0 + 0 ≤ _), (by decide : 0 + 0 ≤ _)⟩)
    dsimp only [Pt.U, Pt.locs, Pt.cells, Pt.slots] at X23 l23 y23 z23 st23 hQ23
    subst l23 y23 z23
    obtain ⟨rfl, N23q, eh23⟩ := hQ23
    have N23 := Fr.app N0 N23q
    refine own_step st23 ?_
    show own_Goes p e below _ (T23.setTop (mkF m 8 #[.val (.int p1), .val (.int (0 : Int32)), .unset, .unset] [(.ref w_WAITROOM)]))
    refine own_step (fun t k => XS.astoreN X23.here hx rfl (hb hby at_8) rfl rfl (l' := #[.val (.int p1), .val (.int (0 : Int32)), .val (.ref w_WAITROOM), .unset]) rfl k) ?_
    show own_Goes p e below _ (T23.setTop (mkF m 9 #[.val (.int p1), .val (.int (0 : Int32)), .val (.ref w_WAITROOM), .unset] []))
    refine own_step (fun t k => XS.iloadN X23.here hx rfl (hb hby at_9) rfl k) ?_
    show own_Goes p e below _ (T23.setTop (mkF m 10 #[.val (.int p1), .val (.int (0 : Int32)), .val (.ref w_WAITROOM), .unset] [(.int (0 : Int32))]))
    have hc24 : (0 : Int32) = (0 : Int32) := rfl
    refine own_step (fun t k => XS.ifNo X23.here hx rfl (hb hby at_10) rfl ((if0 _ _).trans (teq hc24).2) k) ?_
    show own_Goes p e below _ (T23.setTop (mkF m 13 #[.val (.int p1), .val (.int (0 : Int32)), .val (.ref w_WAITROOM), .unset] []))
    refine own_step (fun t k => XS.iconst X23.here hx rfl (hb hby at_13) k) ?_
    show own_Goes p e below _ (T23.setTop (mkF m 14 #[.val (.int p1), .val (.int (0 : Int32)), .val (.ref w_WAITROOM), .unset] [(.int (1 : Int32))]))
    refine own_step (fun t k => XS.istoreN X23.here hx rfl (hb hby at_14) rfl (l' := #[.val (.int p1), .val (.int (0 : Int32)), .val (.ref w_WAITROOM), .val (.int (1 : Int32))]) rfl k) ?_
    show own_Goes p e below _ (T23.setTop (mkF m 15 #[.val (.int p1), .val (.int (0 : Int32)), .val (.ref w_WAITROOM), .val (.int (1 : Int32))] []))
    refine own_step (fun t k => XS.goto X23.here hx rfl (pc0 := 15) (pc' := 30) rfl (hb hby at_15) (by decide) (by decide) k) ?_
    show own_Goes p e below _ (T23.setTop (mkF m 30 #[.val (.int p1), .val (.int (0 : Int32)), .val (.ref w_WAITROOM), .val (.int (1 : Int32))] []))
    refine own_step (fun t k => XS.aloadN X23.here hx rfl (hb hby at_30) rfl rfl k) ?_
    show own_Goes p e below _ (T23.setTop (mkF m 31 #[.val (.int p1), .val (.int (0 : Int32)), .val (.ref w_WAITROOM), .val (.int (1 : Int32))] [(.ref w_WAITROOM)]))
    obtain ⟨cq25, kq25, q25a, q25b, q25c⟩ := isOf hZ eh23 E_w_WAITROOM
    obtain ⟨_, _, ⟨T25, L25, k25, n25⟩, -, X25, ⟨Lc25, hQ25, l25, y25, z25⟩, st25⟩ := X23.virtualBack hx (y := (⟨"com/example/battlement/battlement/definition/Action$Location", "isSpectatorSpawn", "()Z"⟩ : MethodName)) (z := (⟨"com/example/battlement/battlement/definition/Action$Location", "isSpectatorSpawn", "()Z"⟩ : MethodName)) hown (mvT hZ w7) (mvT hZ w8) (notFace_of_selects (args := #[]) (mvT hZ w10)) (mvT hZ w10) (mvT hZ w9) (by decide) (backOf (W := 0) (own_b2 l Z a0 hw [] w_WAITROOM (w_WAITROOM) (w_SPECTATOR) h0 n0 Z0 S_WAITROOM S_SPECTATOR O0) hZ w11 w5 (by decide) (by decide)) q25a q25c (g := (mkF m 31 #[.val (.int p1), .val (.int (0 : Int32)), .val (.ref w_WAITROOM), .val (.int (1 : Int32))] [(.ref w_WAITROOM)])) rfl (by rw [hml]; rfl) (Steps.refl _) (argsL := []) (rest := []) (lenOf own_pd1 rfl) rfl (by show 2 * 0 + _ ≤ _; exact Nat.le_of_eq rfl) (hb hby at_31) (fun _ _ => ⟨rfl, eh23, (by decide : 0 + 0 ≤ _), (by decide : 0 + 0 ≤ _)⟩)
    dsimp only [Pt.U, Pt.locs, Pt.cells, Pt.slots] at X25 l25 y25 z25 st25 hQ25
    subst l25 y25 z25
    obtain ⟨rfl, N25q, eh25⟩ := hQ25
    have N25 := Fr.app N23 N25q
    refine own_jump st25 ?_
    show own_Goes p e below _ (T25.setTop (mkF m 34 #[.val (.int p1), .val (.int (0 : Int32)), .val (.ref w_WAITROOM), .val (.int (1 : Int32))] [(.int (if w_WAITROOM = w_WAITROOM then (1 : Int32) else (if w_WAITROOM = w_SPECTATOR then (1 : Int32) else (0 : Int32))))]))
    refine own_step (fun t k => XS.iloadN X25.here hx rfl (hb hby at_34) rfl k) ?_
    show own_Goes p e below _ (T25.setTop (mkF m 35 #[.val (.int p1), .val (.int (0 : Int32)), .val (.ref w_WAITROOM), .val (.int (1 : Int32))] [(.int (1 : Int32)), (.int (if w_WAITROOM = w_WAITROOM then (1 : Int32) else (if w_WAITROOM = w_SPECTATOR then (1 : Int32) else (0 : Int32))))]))
    refine own_step (S' := T25.setTop (mkF m 43 #[.val (.int p1), .val (.int (0 : Int32)), .val (.ref w_WAITROOM), .val (.int (1 : Int32))] [(.int (if (if w_WAITROOM = w_WAITROOM then (1 : Int32) else (if w_WAITROOM = w_SPECTATOR then (1 : Int32) else (0 : Int32))) = (1 : Int32) then (1 : Int32) else (0 : Int32)))])) (fun t k => ?_) ?_
    · show Steps p.tables e below (T25.setTop (mkF m 35 #[.val (.int p1), .val (.int (0 : Int32)), .val (.ref w_WAITROOM), .val (.int (1 : Int32))] [(.int (1 : Int32)), (.int (if w_WAITROOM = w_WAITROOM then (1 : Int32) else (if w_WAITROOM = w_SPECTATOR then (1 : Int32) else (0 : Int32))))])) _
      by_cases hc26 : (if w_WAITROOM = w_WAITROOM then (1 : Int32) else (if w_WAITROOM = w_SPECTATOR then (1 : Int32) else (0 : Int32))) = (1 : Int32)
      · --
        refine XS.icmpNo X25.here hx rfl (hb hby at_35) rfl (teq hc26).2 ?_
        show Steps p.tables e below (T25.setTop (mkF m 38 #[.val (.int p1), .val (.int (0 : Int32)), .val (.ref w_WAITROOM), .val (.int (1 : Int32))] [])) _
        refine XS.iconst X25.here hx rfl (hb hby at_38) ?_
        show Steps p.tables e below (T25.setTop (mkF m 39 #[.val (.int p1), .val (.int (0 : Int32)), .val (.ref w_WAITROOM), .val (.int (1 : Int32))] [(.int (1 : Int32))])) _
        refine XS.goto X25.here hx rfl (pc0 := 39) (pc' := 43) rfl (hb hby at_39) (by decide) (by decide) ?_
        show Steps p.tables e below (T25.setTop (mkF m 43 #[.val (.int p1), .val (.int (0 : Int32)), .val (.ref w_WAITROOM), .val (.int (1 : Int32))] [(.int (1 : Int32))])) _
        first | (simp only [if_pos hc26] at k; exact k) | ((repeat (first | rw [if_pos hc26] at k)); exact k)
      · --
        refine XS.icmpYes X25.here hx rfl (pc0 := 35) (pc' := 42) rfl (hb hby at_35) rfl (feq hc26).2 (by decide) (by decide) ?_
        show Steps p.tables e below (T25.setTop (mkF m 42 #[.val (.int p1), .val (.int (0 : Int32)), .val (.ref w_WAITROOM), .val (.int (1 : Int32))] [])) _
        refine XS.iconst X25.here hx rfl (hb hby at_42) ?_
        show Steps p.tables e below (T25.setTop (mkF m 43 #[.val (.int p1), .val (.int (0 : Int32)), .val (.ref w_WAITROOM), .val (.int (1 : Int32))] [(.int (0 : Int32))])) _
        first | (simp only [if_neg hc26] at k; exact k) | ((repeat (first | rw [if_neg hc26] at k)); exact k)
    show own_Goes p e below _ (T25.setTop (mkF m 43 #[.val (.int p1), .val (.int (0 : Int32)), .val (.ref w_WAITROOM), .val (.int (1 : Int32))] [(.int (if (if w_WAITROOM = w_WAITROOM then (1 : Int32) else (if w_WAITROOM = w_SPECTATOR then (1 : Int32) else (0 : Int32))) = (1 : Int32) then (1 : Int32) else (0 : Int32)))]))
    refine own_retL X25 hx hlk Bd.returns (hb hby at_43) (?_ : (if (if w_WAITROOM = w_WAITROOM then (1 : Int32) else (if w_WAITROOM = w_SPECTATOR then (1 : Int32) else (0 : Int32))) = (1 : Int32) then (1 : Int32) else (0 : Int32)) = 1) N25 (by decide) (by decide)
    exact own_case0 (Ne.symm ne01) ne02 ne12 ne03 ne13
  · --
    show own_Goes p e below _ (s₁.setTop (mkF m 4 #[.val (.int p1), .val (.int (1 : Int32)), .unset, .unset] []))
    refine own_step (fun t k => XS.iloadN X0.here hx rfl (hb hby at_4) rfl k) ?_
    show own_Goes p e below _ (s₁.setTop (mkF m 5 #[.val (.int p1), .val (.int (1 : Int32)), .unset, .unset] [(.int (1 : Int32))]))
    obtain ⟨_, _, ⟨T27, L27, k27, n27⟩, -, X27, ⟨Lc27, hQ27, l27, y27, z27⟩, st27⟩ := Jvm.LawKit.callS X0 hx (y := (⟨"com/example/battlement/battlement/definition/LocationIsSpectatorSpawnPinLaw", "pick", "(I)Lcom/example/battlement/battlement/definition/Action$Location;"⟩ : MethodName)) hown (mvT hZ w0) (mvT hZ w1) (mvT hZ w2) (mvT hZ w3) (by decide) (backOf (W := 0) (own_b1 l Z a0 hw [] (1 : Int32) (w_WAITROOM) (w_SPECTATOR) (w_TEAM_SPAWN) (w_SPAWN) (w_SPECTATOR) h0 n0 Z0 S_WAITROOM S_SPECTATOR S_TEAM_SPAWN S_SPAWN O0 rfl) hZ w3 w2 (by decide) (by decide)) (g := (mkF m 5 #[.val (.int p1), .val (.int (1 : Int32)), .unset, .unset] [(.int (1 : Int32))])) rfl (by rw [hml]; rfl) (argsL := [(.int (1 : Int32))]) (rest := []) (lenOf own_pd0 rfl) rfl (by show 2 * 0 + _ ≤ _; exact Nat.le_of_eq rfl) (hb hby at_5) (fun _ _ => ⟨rfl, e0, (by decide : 0 + 0 ≤ _), (by decide : 0 + 0 ≤ _)⟩)
    dsimp only [Pt.U, Pt.locs, Pt.cells, Pt.slots] at X27 l27 y27 z27 st27 hQ27
    subst l27 y27 z27
    obtain ⟨rfl, N27q, eh27⟩ := hQ27
    have N27 := Fr.app N0 N27q
    refine own_step st27 ?_
    show own_Goes p e below _ (T27.setTop (mkF m 8 #[.val (.int p1), .val (.int (1 : Int32)), .unset, .unset] [(.ref w_SPECTATOR)]))
    refine own_step (fun t k => XS.astoreN X27.here hx rfl (hb hby at_8) rfl rfl (l' := #[.val (.int p1), .val (.int (1 : Int32)), .val (.ref w_SPECTATOR), .unset]) rfl k) ?_
    show own_Goes p e below _ (T27.setTop (mkF m 9 #[.val (.int p1), .val (.int (1 : Int32)), .val (.ref w_SPECTATOR), .unset] []))
    refine own_step (fun t k => XS.iloadN X27.here hx rfl (hb hby at_9) rfl k) ?_
    show own_Goes p e below _ (T27.setTop (mkF m 10 #[.val (.int p1), .val (.int (1 : Int32)), .val (.ref w_SPECTATOR), .unset] [(.int (1 : Int32))]))
    have hc28 : ¬ ((1 : Int32) = (0 : Int32)) := by decide
    refine own_step (fun t k => XS.ifYes X27.here hx rfl (pc0 := 10) (pc' := 18) rfl (hb hby at_10) rfl ((if0 _ _).trans (feq hc28).2) (by decide) (by decide) k) ?_
    show own_Goes p e below _ (T27.setTop (mkF m 18 #[.val (.int p1), .val (.int (1 : Int32)), .val (.ref w_SPECTATOR), .unset] []))
    refine own_step (fun t k => XS.iloadN X27.here hx rfl (hb hby at_18) rfl k) ?_
    show own_Goes p e below _ (T27.setTop (mkF m 19 #[.val (.int p1), .val (.int (1 : Int32)), .val (.ref w_SPECTATOR), .unset] [(.int (1 : Int32))]))
    refine own_step (fun t k => XS.iconst X27.here hx rfl (hb hby at_19) k) ?_
    show own_Goes p e below _ (T27.setTop (mkF m 20 #[.val (.int p1), .val (.int (1 : Int32)), .val (.ref w_SPECTATOR), .unset] [(.int (1 : Int32)), (.int (1 : Int32))]))
    have hc29 : (1 : Int32) = (1 : Int32) := rfl
    refine own_step (fun t k => XS.icmpNo X27.here hx rfl (hb hby at_20) rfl (teq hc29).2 k) ?_
    show own_Goes p e below _ (T27.setTop (mkF m 23 #[.val (.int p1), .val (.int (1 : Int32)), .val (.ref w_SPECTATOR), .unset] []))
    refine own_step (fun t k => XS.iconst X27.here hx rfl (hb hby at_23) k) ?_
    show own_Goes p e below _ (T27.setTop (mkF m 24 #[.val (.int p1), .val (.int (1 : Int32)), .val (.ref w_SPECTATOR), .unset] [(.int (1 : Int32))]))
    refine own_step (fun t k => XS.istoreN X27.here hx rfl (hb hby at_24) rfl (l' := #[.val (.int p1), .val (.int (1 : Int32)), .val (.ref w_SPECTATOR), .val (.int (1 : Int32))]) rfl k) ?_
    show own_Goes p e below _ (T27.setTop (mkF m 25 #[.val (.int p1), .val (.int (1 : Int32)), .val (.ref w_SPECTATOR), .val (.int (1 : Int32))] []))
    refine own_step (fun t k => XS.goto X27.here hx rfl (pc0 := 25) (pc' := 30) rfl (hb hby at_25) (by decide) (by decide) k) ?_
    show own_Goes p e below _ (T27.setTop (mkF m 30 #[.val (.int p1), .val (.int (1 : Int32)), .val (.ref w_SPECTATOR), .val (.int (1 : Int32))] []))
    refine own_step (fun t k => XS.aloadN X27.here hx rfl (hb hby at_30) rfl rfl k) ?_
    show own_Goes p e below _ (T27.setTop (mkF m 31 #[.val (.int p1), .val (.int (1 : Int32)), .val (.ref w_SPECTATOR), .val (.int (1 : Int32))] [(.ref w_SPECTATOR)]))
    obtain ⟨cq30, kq30, q30a, q30b, q30c⟩ := isOf hZ eh27 E_w_SPECTATOR
    obtain ⟨_, _, ⟨T30, L30, k30, n30⟩, -, X30, ⟨Lc30, hQ30, l30, y30, z30⟩, st30⟩ := X27.virtualBack hx (y := (⟨"com/example/battlement/battlement/definition/Action$Location", "isSpectatorSpawn", "()Z"⟩ : MethodName)) (z := (⟨"com/example/battlement/battlement/definition/Action$Location", "isSpectatorSpawn", "()Z"⟩ : MethodName)) hown (mvT hZ w7) (mvT hZ w8) (notFace_of_selects (args := #[]) (mvT hZ w10)) (mvT hZ w10) (mvT hZ w9) (by decide) (backOf (W := 0) (own_b2 l Z a0 hw [] w_SPECTATOR (w_WAITROOM) (w_SPECTATOR) h0 n0 Z0 S_WAITROOM S_SPECTATOR O0) hZ w11 w5 (by decide) (by decide)) q30a q30c (g := (mkF m 31 #[.val (.int p1), .val (.int (1 : Int32)), .val (.ref w_SPECTATOR), .val (.int (1 : Int32))] [(.ref w_SPECTATOR)])) rfl (by rw [hml]; rfl) (Steps.refl _) (argsL := []) (rest := []) (lenOf own_pd1 rfl) rfl (by show 2 * 0 + _ ≤ _; exact Nat.le_of_eq rfl) (hb hby at_31) (fun _ _ => ⟨rfl, eh27, (by decide : 0 + 0 ≤ _), (by decide : 0 + 0 ≤ _)⟩)
    dsimp only [Pt.U, Pt.locs, Pt.cells, Pt.slots] at X30 l30 y30 z30 st30 hQ30
    subst l30 y30 z30
    obtain ⟨rfl, N30q, eh30⟩ := hQ30
    have N30 := Fr.app N27 N30q
    refine own_jump st30 ?_
    show own_Goes p e below _ (T30.setTop (mkF m 34 #[.val (.int p1), .val (.int (1 : Int32)), .val (.ref w_SPECTATOR), .val (.int (1 : Int32))] [(.int (if w_SPECTATOR = w_WAITROOM then (1 : Int32) else (if w_SPECTATOR = w_SPECTATOR then (1 : Int32) else (0 : Int32))))]))
    refine own_step (fun t k => XS.iloadN X30.here hx rfl (hb hby at_34) rfl k) ?_
    show own_Goes p e below _ (T30.setTop (mkF m 35 #[.val (.int p1), .val (.int (1 : Int32)), .val (.ref w_SPECTATOR), .val (.int (1 : Int32))] [(.int (1 : Int32)), (.int (if w_SPECTATOR = w_WAITROOM then (1 : Int32) else (if w_SPECTATOR = w_SPECTATOR then (1 : Int32) else (0 : Int32))))]))
    refine own_step (S' := T30.setTop (mkF m 43 #[.val (.int p1), .val (.int (1 : Int32)), .val (.ref w_SPECTATOR), .val (.int (1 : Int32))] [(.int (if (if w_SPECTATOR = w_WAITROOM then (1 : Int32) else (if w_SPECTATOR = w_SPECTATOR then (1 : Int32) else (0 : Int32))) = (1 : Int32) then (1 : Int32) else (0 : Int32)))])) (fun t k => ?_) ?_
    · show Steps p.tables e below (T30.setTop (mkF m 35 #[.val (.int p1), .val (.int (1 : Int32)), .val (.ref w_SPECTATOR), .val (.int (1 : Int32))] [(.int (1 : Int32)), (.int (if w_SPECTATOR = w_WAITROOM then (1 : Int32) else (if w_SPECTATOR = w_SPECTATOR then (1 : Int32) else (0 : Int32))))])) _
      by_cases hc31 : (if w_SPECTATOR = w_WAITROOM then (1 : Int32) else (if w_SPECTATOR = w_SPECTATOR then (1 : Int32) else (0 : Int32))) = (1 : Int32)
      · --
        refine XS.icmpNo X30.here hx rfl (hb hby at_35) rfl (teq hc31).2 ?_
        show Steps p.tables e below (T30.setTop (mkF m 38 #[.val (.int p1), .val (.int (1 : Int32)), .val (.ref w_SPECTATOR), .val (.int (1 : Int32))] [])) _
        refine XS.iconst X30.here hx rfl (hb hby at_38) ?_
        show Steps p.tables e below (T30.setTop (mkF m 39 #[.val (.int p1), .val (.int (1 : Int32)), .val (.ref w_SPECTATOR), .val (.int (1 : Int32))] [(.int (1 : Int32))])) _
        refine XS.goto X30.here hx rfl (pc0 := 39) (pc' := 43) rfl (hb hby at_39) (by decide) (by decide) ?_
        show Steps p.tables e below (T30.setTop (mkF m 43 #[.val (.int p1), .val (.int (1 : Int32)), .val (.ref w_SPECTATOR), .val (.int (1 : Int32))] [(.int (1 : Int32))])) _
        first | (simp only [if_pos hc31] at k; exact k) | ((repeat (first | rw [if_pos hc31] at k)); exact k)
      · --
        refine XS.icmpYes X30.here hx rfl (pc0 := 35) (pc' := 42) rfl (hb hby at_35) rfl (feq hc31).2 (by decide) (by decide) ?_
        show Steps p.tables e below (T30.setTop (mkF m 42 #[.val (.int p1), .val (.int (1 : Int32)), .val (.ref w_SPECTATOR), .val (.int (1 : Int32))] [])) _
        refine XS.iconst X30.here hx rfl (hb hby at_42) ?_
        show Steps p.tables e below (T30.setTop (mkF m 43 #[.val (.int p1), .val (.int (1 : Int32)), .val (.ref w_SPECTATOR), .val (.int (1 : Int32))] [(.int (0 : Int32))])) _
        first | (simp only [if_neg hc31] at k; exact k) | ((repeat (first | rw [if_neg hc31] at k)); exact k)
    show own_Goes p e below _ (T30.setTop (mkF m 43 #[.val (.int p1), .val (.int (1 : Int32)), .val (.ref w_SPECTATOR), .val (.int (1 : Int32))] [(.int (if (if w_SPECTATOR = w_WAITROOM then (1 : Int32) else (if w_SPECTATOR = w_SPECTATOR then (1 : Int32) else (0 : Int32))) = (1 : Int32) then (1 : Int32) else (0 : Int32)))]))
    refine own_retL X30 hx hlk Bd.returns (hb hby at_43) (?_ : (if (if w_SPECTATOR = w_WAITROOM then (1 : Int32) else (if w_SPECTATOR = w_SPECTATOR then (1 : Int32) else (0 : Int32))) = (1 : Int32) then (1 : Int32) else (0 : Int32)) = 1) N30 (by decide) (by decide)
    exact own_case1 (Ne.symm ne01) ne02 ne12 ne03 ne13
  · --
    show own_Goes p e below _ (s₁.setTop (mkF m 4 #[.val (.int p1), .val (.int (2 : Int32)), .unset, .unset] []))
    refine own_step (fun t k => XS.iloadN X0.here hx rfl (hb hby at_4) rfl k) ?_
    show own_Goes p e below _ (s₁.setTop (mkF m 5 #[.val (.int p1), .val (.int (2 : Int32)), .unset, .unset] [(.int (2 : Int32))]))
    obtain ⟨_, _, ⟨T32, L32, k32, n32⟩, -, X32, ⟨Lc32, hQ32, l32, y32, z32⟩, st32⟩ := Jvm.LawKit.callS X0 hx (y := (⟨"com/example/battlement/battlement/definition/LocationIsSpectatorSpawnPinLaw", "pick", "(I)Lcom/example/battlement/battlement/definition/Action$Location;"⟩ : MethodName)) hown (mvT hZ w0) (mvT hZ w1) (mvT hZ w2) (mvT hZ w3) (by decide) (backOf (W := 0) (own_b1 l Z a0 hw [] (2 : Int32) (w_WAITROOM) (w_SPECTATOR) (w_TEAM_SPAWN) (w_SPAWN) (w_TEAM_SPAWN) h0 n0 Z0 S_WAITROOM S_SPECTATOR S_TEAM_SPAWN S_SPAWN O0 rfl) hZ w3 w2 (by decide) (by decide)) (g := (mkF m 5 #[.val (.int p1), .val (.int (2 : Int32)), .unset, .unset] [(.int (2 : Int32))])) rfl (by rw [hml]; rfl) (argsL := [(.int (2 : Int32))]) (rest := []) (lenOf own_pd0 rfl) rfl (by show 2 * 0 + _ ≤ _; exact Nat.le_of_eq rfl) (hb hby at_5) (fun _ _ => ⟨rfl, e0, (by decide : 0 + 0 ≤ _), (by decide : 0 + 0 ≤ _)⟩)
    dsimp only [Pt.U, Pt.locs, Pt.cells, Pt.slots] at X32 l32 y32 z32 st32 hQ32
    subst l32 y32 z32
    obtain ⟨rfl, N32q, eh32⟩ := hQ32
    have N32 := Fr.app N0 N32q
    refine own_step st32 ?_
    show own_Goes p e below _ (T32.setTop (mkF m 8 #[.val (.int p1), .val (.int (2 : Int32)), .unset, .unset] [(.ref w_TEAM_SPAWN)]))
    refine own_step (fun t k => XS.astoreN X32.here hx rfl (hb hby at_8) rfl rfl (l' := #[.val (.int p1), .val (.int (2 : Int32)), .val (.ref w_TEAM_SPAWN), .unset]) rfl k) ?_
    show own_Goes p e below _ (T32.setTop (mkF m 9 #[.val (.int p1), .val (.int (2 : Int32)), .val (.ref w_TEAM_SPAWN), .unset] []))
    refine own_step (fun t k => XS.iloadN X32.here hx rfl (hb hby at_9) rfl k) ?_
    show own_Goes p e below _ (T32.setTop (mkF m 10 #[.val (.int p1), .val (.int (2 : Int32)), .val (.ref w_TEAM_SPAWN), .unset] [(.int (2 : Int32))]))
    have hc33 : ¬ ((2 : Int32) = (0 : Int32)) := by decide
    refine own_step (fun t k => XS.ifYes X32.here hx rfl (pc0 := 10) (pc' := 18) rfl (hb hby at_10) rfl ((if0 _ _).trans (feq hc33).2) (by decide) (by decide) k) ?_
    show own_Goes p e below _ (T32.setTop (mkF m 18 #[.val (.int p1), .val (.int (2 : Int32)), .val (.ref w_TEAM_SPAWN), .unset] []))
    refine own_step (fun t k => XS.iloadN X32.here hx rfl (hb hby at_18) rfl k) ?_
    show own_Goes p e below _ (T32.setTop (mkF m 19 #[.val (.int p1), .val (.int (2 : Int32)), .val (.ref w_TEAM_SPAWN), .unset] [(.int (2 : Int32))]))
    refine own_step (fun t k => XS.iconst X32.here hx rfl (hb hby at_19) k) ?_
    show own_Goes p e below _ (T32.setTop (mkF m 20 #[.val (.int p1), .val (.int (2 : Int32)), .val (.ref w_TEAM_SPAWN), .unset] [(.int (1 : Int32)), (.int (2 : Int32))]))
    have hc34 : ¬ ((2 : Int32) = (1 : Int32)) := by decide
    refine own_step (fun t k => XS.icmpYes X32.here hx rfl (pc0 := 20) (pc' := 28) rfl (hb hby at_20) rfl (feq hc34).2 (by decide) (by decide) k) ?_
    show own_Goes p e below _ (T32.setTop (mkF m 28 #[.val (.int p1), .val (.int (2 : Int32)), .val (.ref w_TEAM_SPAWN), .unset] []))
    refine own_step (fun t k => XS.iconst X32.here hx rfl (hb hby at_28) k) ?_
    show own_Goes p e below _ (T32.setTop (mkF m 29 #[.val (.int p1), .val (.int (2 : Int32)), .val (.ref w_TEAM_SPAWN), .unset] [(.int (0 : Int32))]))
    refine own_step (fun t k => XS.istoreN X32.here hx rfl (hb hby at_29) rfl (l' := #[.val (.int p1), .val (.int (2 : Int32)), .val (.ref w_TEAM_SPAWN), .val (.int (0 : Int32))]) rfl k) ?_
    show own_Goes p e below _ (T32.setTop (mkF m 30 #[.val (.int p1), .val (.int (2 : Int32)), .val (.ref w_TEAM_SPAWN), .val (.int (0 : Int32))] []))
    refine own_step (fun t k => XS.aloadN X32.here hx rfl (hb hby at_30) rfl rfl k) ?_
    show own_Goes p e below _ (T32.setTop (mkF m 31 #[.val (.int p1), .val (.int (2 : Int32)), .val (.ref w_TEAM_SPAWN), .val (.int (0 : Int32))] [(.ref w_TEAM_SPAWN)]))
    obtain ⟨cq35, kq35, q35a, q35b, q35c⟩ := isOf hZ eh32 E_w_TEAM_SPAWN
    obtain ⟨_, _, ⟨T35, L35, k35, n35⟩, -, X35, ⟨Lc35, hQ35, l35, y35, z35⟩, st35⟩ := X32.virtualBack hx (y := (⟨"com/example/battlement/battlement/definition/Action$Location", "isSpectatorSpawn", "()Z"⟩ : MethodName)) (z := (⟨"com/example/battlement/battlement/definition/Action$Location", "isSpectatorSpawn", "()Z"⟩ : MethodName)) hown (mvT hZ w7) (mvT hZ w8) (notFace_of_selects (args := #[]) (mvT hZ w10)) (mvT hZ w10) (mvT hZ w9) (by decide) (backOf (W := 0) (own_b2 l Z a0 hw [] w_TEAM_SPAWN (w_WAITROOM) (w_SPECTATOR) h0 n0 Z0 S_WAITROOM S_SPECTATOR O0) hZ w11 w5 (by decide) (by decide)) q35a q35c (g := (mkF m 31 #[.val (.int p1), .val (.int (2 : Int32)), .val (.ref w_TEAM_SPAWN), .val (.int (0 : Int32))] [(.ref w_TEAM_SPAWN)])) rfl (by rw [hml]; rfl) (Steps.refl _) (argsL := []) (rest := []) (lenOf own_pd1 rfl) rfl (by show 2 * 0 + _ ≤ _; exact Nat.le_of_eq rfl) (hb hby at_31) (fun _ _ => ⟨rfl, eh32, (by decide : 0 + 0 ≤ _), (by decide : 0 + 0 ≤ _)⟩)
    dsimp only [Pt.U, Pt.locs, Pt.cells, Pt.slots] at X35 l35 y35 z35 st35 hQ35
    subst l35 y35 z35
    obtain ⟨rfl, N35q, eh35⟩ := hQ35
    have N35 := Fr.app N32 N35q
    refine own_jump st35 ?_
    show own_Goes p e below _ (T35.setTop (mkF m 34 #[.val (.int p1), .val (.int (2 : Int32)), .val (.ref w_TEAM_SPAWN), .val (.int (0 : Int32))] [(.int (if w_TEAM_SPAWN = w_WAITROOM then (1 : Int32) else (if w_TEAM_SPAWN = w_SPECTATOR then (1 : Int32) else (0 : Int32))))]))
    refine own_step (fun t k => XS.iloadN X35.here hx rfl (hb hby at_34) rfl k) ?_
    show own_Goes p e below _ (T35.setTop (mkF m 35 #[.val (.int p1), .val (.int (2 : Int32)), .val (.ref w_TEAM_SPAWN), .val (.int (0 : Int32))] [(.int (0 : Int32)), (.int (if w_TEAM_SPAWN = w_WAITROOM then (1 : Int32) else (if w_TEAM_SPAWN = w_SPECTATOR then (1 : Int32) else (0 : Int32))))]))
    refine own_step (S' := T35.setTop (mkF m 43 #[.val (.int p1), .val (.int (2 : Int32)), .val (.ref w_TEAM_SPAWN), .val (.int (0 : Int32))] [(.int (if (if w_TEAM_SPAWN = w_WAITROOM then (1 : Int32) else (if w_TEAM_SPAWN = w_SPECTATOR then (1 : Int32) else (0 : Int32))) = (0 : Int32) then (1 : Int32) else (0 : Int32)))])) (fun t k => ?_) ?_
    · show Steps p.tables e below (T35.setTop (mkF m 35 #[.val (.int p1), .val (.int (2 : Int32)), .val (.ref w_TEAM_SPAWN), .val (.int (0 : Int32))] [(.int (0 : Int32)), (.int (if w_TEAM_SPAWN = w_WAITROOM then (1 : Int32) else (if w_TEAM_SPAWN = w_SPECTATOR then (1 : Int32) else (0 : Int32))))])) _
      by_cases hc36 : (if w_TEAM_SPAWN = w_WAITROOM then (1 : Int32) else (if w_TEAM_SPAWN = w_SPECTATOR then (1 : Int32) else (0 : Int32))) = (0 : Int32)
      · --
        refine XS.icmpNo X35.here hx rfl (hb hby at_35) rfl (teq hc36).2 ?_
        show Steps p.tables e below (T35.setTop (mkF m 38 #[.val (.int p1), .val (.int (2 : Int32)), .val (.ref w_TEAM_SPAWN), .val (.int (0 : Int32))] [])) _
        refine XS.iconst X35.here hx rfl (hb hby at_38) ?_
        show Steps p.tables e below (T35.setTop (mkF m 39 #[.val (.int p1), .val (.int (2 : Int32)), .val (.ref w_TEAM_SPAWN), .val (.int (0 : Int32))] [(.int (1 : Int32))])) _
        refine XS.goto X35.here hx rfl (pc0 := 39) (pc' := 43) rfl (hb hby at_39) (by decide) (by decide) ?_
        show Steps p.tables e below (T35.setTop (mkF m 43 #[.val (.int p1), .val (.int (2 : Int32)), .val (.ref w_TEAM_SPAWN), .val (.int (0 : Int32))] [(.int (1 : Int32))])) _
        simp only [if_pos hc36] at k
        exact k
      · --
        refine XS.icmpYes X35.here hx rfl (pc0 := 35) (pc' := 42) rfl (hb hby at_35) rfl (feq hc36).2 (by decide) (by decide) ?_
        show Steps p.tables e below (T35.setTop (mkF m 42 #[.val (.int p1), .val (.int (2 : Int32)), .val (.ref w_TEAM_SPAWN), .val (.int (0 : Int32))] [])) _
        refine XS.iconst X35.here hx rfl (hb hby at_42) ?_
        show Steps p.tables e below (T35.setTop (mkF m 43 #[.val (.int p1), .val (.int (2 : Int32)), .val (.ref w_TEAM_SPAWN), .val (.int (0 : Int32))] [(.int (0 : Int32))])) _
        simp only [if_neg hc36] at k
        exact k
    show own_Goes p e below _ (T35.setTop (mkF m 43 #[.val (.int p1), .val (.int (2 : Int32)), .val (.ref w_TEAM_SPAWN), .val (.int (0 : Int32))] [(.int (if (if w_TEAM_SPAWN = w_WAITROOM then (1 : Int32) else (if w_TEAM_SPAWN = w_SPECTATOR then (1 : Int32) else (0 : Int32))) = (0 : Int32) then (1 : Int32) else (0 : Int32)))]))
    refine own_retL X35 hx hlk Bd.returns (hb hby at_43) (?_ : (if (if w_TEAM_SPAWN = w_WAITROOM then (1 : Int32) else (if w_TEAM_SPAWN = w_SPECTATOR then (1 : Int32) else (0 : Int32))) = (0 : Int32) then (1 : Int32) else (0 : Int32)) = 1) N35 (by decide) (by decide)
    exact own_case2 (Ne.symm ne01) ne02 ne12 ne03 ne13
  · --
    show own_Goes p e below _ (s₁.setTop (mkF m 4 #[.val (.int p1), .val (.int (3 : Int32)), .unset, .unset] []))
    refine own_step (fun t k => XS.iloadN X0.here hx rfl (hb hby at_4) rfl k) ?_
    show own_Goes p e below _ (s₁.setTop (mkF m 5 #[.val (.int p1), .val (.int (3 : Int32)), .unset, .unset] [(.int (3 : Int32))]))
    obtain ⟨_, _, ⟨T37, L37, k37, n37⟩, -, X37, ⟨Lc37, hQ37, l37, y37, z37⟩, st37⟩ := Jvm.LawKit.callS X0 hx (y := (⟨"com/example/battlement/battlement/definition/LocationIsSpectatorSpawnPinLaw", "pick", "(I)Lcom/example/battlement/battlement/definition/Action$Location;"⟩ : MethodName)) hown (mvT hZ w0) (mvT hZ w1) (mvT hZ w2) (mvT hZ w3) (by decide) (backOf (W := 0) (own_b1 l Z a0 hw [] (3 : Int32) (w_WAITROOM) (w_SPECTATOR) (w_TEAM_SPAWN) (w_SPAWN) (w_SPAWN) h0 n0 Z0 S_WAITROOM S_SPECTATOR S_TEAM_SPAWN S_SPAWN O0 rfl) hZ w3 w2 (by decide) (by decide)) (g := (mkF m 5 #[.val (.int p1), .val (.int (3 : Int32)), .unset, .unset] [(.int (3 : Int32))])) rfl (by rw [hml]; rfl) (argsL := [(.int (3 : Int32))]) (rest := []) (lenOf own_pd0 rfl) rfl (by show 2 * 0 + _ ≤ _; exact Nat.le_of_eq rfl) (hb hby at_5) (fun _ _ => ⟨rfl, e0, (by decide : 0 + 0 ≤ _), (by decide : 0 + 0 ≤ _)⟩)
    dsimp only [Pt.U, Pt.locs, Pt.cells, Pt.slots] at X37 l37 y37 z37 st37 hQ37
    subst l37 y37 z37
    obtain ⟨rfl, N37q, eh37⟩ := hQ37
    have N37 := Fr.app N0 N37q
    refine own_step st37 ?_
    show own_Goes p e below _ (T37.setTop (mkF m 8 #[.val (.int p1), .val (.int (3 : Int32)), .unset, .unset] [(.ref w_SPAWN)]))
    refine own_step (fun t k => XS.astoreN X37.here hx rfl (hb hby at_8) rfl rfl (l' := #[.val (.int p1), .val (.int (3 : Int32)), .val (.ref w_SPAWN), .unset]) rfl k) ?_
    show own_Goes p e below _ (T37.setTop (mkF m 9 #[.val (.int p1), .val (.int (3 : Int32)), .val (.ref w_SPAWN), .unset] []))
    refine own_step (fun t k => XS.iloadN X37.here hx rfl (hb hby at_9) rfl k) ?_
    show own_Goes p e below _ (T37.setTop (mkF m 10 #[.val (.int p1), .val (.int (3 : Int32)), .val (.ref w_SPAWN), .unset] [(.int (3 : Int32))]))
    have hc38 : ¬ ((3 : Int32) = (0 : Int32)) := by decide
    refine own_step (fun t k => XS.ifYes X37.here hx rfl (pc0 := 10) (pc' := 18) rfl (hb hby at_10) rfl ((if0 _ _).trans (feq hc38).2) (by decide) (by decide) k) ?_
    show own_Goes p e below _ (T37.setTop (mkF m 18 #[.val (.int p1), .val (.int (3 : Int32)), .val (.ref w_SPAWN), .unset] []))
    refine own_step (fun t k => XS.iloadN X37.here hx rfl (hb hby at_18) rfl k) ?_
    show own_Goes p e below _ (T37.setTop (mkF m 19 #[.val (.int p1), .val (.int (3 : Int32)), .val (.ref w_SPAWN), .unset] [(.int (3 : Int32))]))
    refine own_step (fun t k => XS.iconst X37.here hx rfl (hb hby at_19) k) ?_
    show own_Goes p e below _ (T37.setTop (mkF m 20 #[.val (.int p1), .val (.int (3 : Int32)), .val (.ref w_SPAWN), .unset] [(.int (1 : Int32)), (.int (3 : Int32))]))
    have hc39 : ¬ ((3 : Int32) = (1 : Int32)) := by decide
    refine own_step (fun t k => XS.icmpYes X37.here hx rfl (pc0 := 20) (pc' := 28) rfl (hb hby at_20) rfl (feq hc39).2 (by decide) (by decide) k) ?_
    show own_Goes p e below _ (T37.setTop (mkF m 28 #[.val (.int p1), .val (.int (3 : Int32)), .val (.ref w_SPAWN), .unset] []))
    refine own_step (fun t k => XS.iconst X37.here hx rfl (hb hby at_28) k) ?_
    show own_Goes p e below _ (T37.setTop (mkF m 29 #[.val (.int p1), .val (.int (3 : Int32)), .val (.ref w_SPAWN), .unset] [(.int (0 : Int32))]))
    refine own_step (fun t k => XS.istoreN X37.here hx rfl (hb hby at_29) rfl (l' := #[.val (.int p1), .val (.int (3 : Int32)), .val (.ref w_SPAWN), .val (.int (0 : Int32))]) rfl k) ?_
    show own_Goes p e below _ (T37.setTop (mkF m 30 #[.val (.int p1), .val (.int (3 : Int32)), .val (.ref w_SPAWN), .val (.int (0 : Int32))] []))
    refine own_step (fun t k => XS.aloadN X37.here hx rfl (hb hby at_30) rfl rfl k) ?_
    show own_Goes p e below _ (T37.setTop (mkF m 31 #[.val (.int p1), .val (.int (3 : Int32)), .val (.ref w_SPAWN), .val (.int (0 : Int32))] [(.ref w_SPAWN)]))
    obtain ⟨cq40, kq40, q40a, q40b, q40c⟩ := isOf hZ eh37 E_w_SPAWN
    obtain ⟨_, _, ⟨T40, L40, k40, n40⟩, -, X40, ⟨Lc40, hQ40, l40, y40, z40⟩, st40⟩ := X37.virtualBack hx (y := (⟨"com/example/battlement/battlement/definition/Action$Location", "isSpectatorSpawn", "()Z"⟩ : MethodName)) (z := (⟨"com/example/battlement/battlement/definition/Action$Location", "isSpectatorSpawn", "()Z"⟩ : MethodName)) hown (mvT hZ w7) (mvT hZ w8) (notFace_of_selects (args := #[]) (mvT hZ w10)) (mvT hZ w10) (mvT hZ w9) (by decide) (backOf (W := 0) (own_b2 l Z a0 hw [] w_SPAWN (w_WAITROOM) (w_SPECTATOR) h0 n0 Z0 S_WAITROOM S_SPECTATOR O0) hZ w11 w5 (by decide) (by decide)) q40a q40c (g := (mkF m 31 #[.val (.int p1), .val (.int (3 : Int32)), .val (.ref w_SPAWN), .val (.int (0 : Int32))] [(.ref w_SPAWN)])) rfl (by rw [hml]; rfl) (Steps.refl _) (argsL := []) (rest := []) (lenOf own_pd1 rfl) rfl (by show 2 * 0 + _ ≤ _; exact Nat.le_of_eq rfl) (hb hby at_31) (fun _ _ => ⟨rfl, eh37, (by decide : 0 + 0 ≤ _), (by decide : 0 + 0 ≤ _)⟩)
    dsimp only [Pt.U, Pt.locs, Pt.cells, Pt.slots] at X40 l40 y40 z40 st40 hQ40
    subst l40 y40 z40
    obtain ⟨rfl, N40q, eh40⟩ := hQ40
    have N40 := Fr.app N37 N40q
    refine own_jump st40 ?_
    show own_Goes p e below _ (T40.setTop (mkF m 34 #[.val (.int p1), .val (.int (3 : Int32)), .val (.ref w_SPAWN), .val (.int (0 : Int32))] [(.int (if w_SPAWN = w_WAITROOM then (1 : Int32) else (if w_SPAWN = w_SPECTATOR then (1 : Int32) else (0 : Int32))))]))
    refine own_step (fun t k => XS.iloadN X40.here hx rfl (hb hby at_34) rfl k) ?_
    show own_Goes p e below _ (T40.setTop (mkF m 35 #[.val (.int p1), .val (.int (3 : Int32)), .val (.ref w_SPAWN), .val (.int (0 : Int32))] [(.int (0 : Int32)), (.int (if w_SPAWN = w_WAITROOM then (1 : Int32) else (if w_SPAWN = w_SPECTATOR then (1 : Int32) else (0 : Int32))))]))
    refine own_step (S' := T40.setTop (mkF m 43 #[.val (.int p1), .val (.int (3 : Int32)), .val (.ref w_SPAWN), .val (.int (0 : Int32))] [(.int (if (if w_SPAWN = w_WAITROOM then (1 : Int32) else (if w_SPAWN = w_SPECTATOR then (1 : Int32) else (0 : Int32))) = (0 : Int32) then (1 : Int32) else (0 : Int32)))])) (fun t k => ?_) ?_
    · show Steps p.tables e below (T40.setTop (mkF m 35 #[.val (.int p1), .val (.int (3 : Int32)), .val (.ref w_SPAWN), .val (.int (0 : Int32))] [(.int (0 : Int32)), (.int (if w_SPAWN = w_WAITROOM then (1 : Int32) else (if w_SPAWN = w_SPECTATOR then (1 : Int32) else (0 : Int32))))])) _
      by_cases hc41 : (if w_SPAWN = w_WAITROOM then (1 : Int32) else (if w_SPAWN = w_SPECTATOR then (1 : Int32) else (0 : Int32))) = (0 : Int32)
      · --
        refine XS.icmpNo X40.here hx rfl (hb hby at_35) rfl (teq hc41).2 ?_
        show Steps p.tables e below (T40.setTop (mkF m 38 #[.val (.int p1), .val (.int (3 : Int32)), .val (.ref w_SPAWN), .val (.int (0 : Int32))] [])) _
        refine XS.iconst X40.here hx rfl (hb hby at_38) ?_
        show Steps p.tables e below (T40.setTop (mkF m 39 #[.val (.int p1), .val (.int (3 : Int32)), .val (.ref w_SPAWN), .val (.int (0 : Int32))] [(.int (1 : Int32))])) _
        refine XS.goto X40.here hx rfl (pc0 := 39) (pc' := 43) rfl (hb hby at_39) (by decide) (by decide) ?_
        show Steps p.tables e below (T40.setTop (mkF m 43 #[.val (.int p1), .val (.int (3 : Int32)), .val (.ref w_SPAWN), .val (.int (0 : Int32))] [(.int (1 : Int32))])) _
        simp only [if_pos hc41] at k
        exact k
      · --
        refine XS.icmpYes X40.here hx rfl (pc0 := 35) (pc' := 42) rfl (hb hby at_35) rfl (feq hc41).2 (by decide) (by decide) ?_
        show Steps p.tables e below (T40.setTop (mkF m 42 #[.val (.int p1), .val (.int (3 : Int32)), .val (.ref w_SPAWN), .val (.int (0 : Int32))] [])) _
        refine XS.iconst X40.here hx rfl (hb hby at_42) ?_
        show Steps p.tables e below (T40.setTop (mkF m 43 #[.val (.int p1), .val (.int (3 : Int32)), .val (.ref w_SPAWN), .val (.int (0 : Int32))] [(.int (0 : Int32))])) _
        simp only [if_neg hc41] at k
        exact k
    show own_Goes p e below _ (T40.setTop (mkF m 43 #[.val (.int p1), .val (.int (3 : Int32)), .val (.ref w_SPAWN), .val (.int (0 : Int32))] [(.int (if (if w_SPAWN = w_WAITROOM then (1 : Int32) else (if w_SPAWN = w_SPECTATOR then (1 : Int32) else (0 : Int32))) = (0 : Int32) then (1 : Int32) else (0 : Int32)))]))
    refine own_retL X40 hx hlk Bd.returns (hb hby at_43) (?_ : (if (if w_SPAWN = w_WAITROOM then (1 : Int32) else (if w_SPAWN = w_SPECTATOR then (1 : Int32) else (0 : Int32))) = (0 : Int32) then (1 : Int32) else (0 : Int32)) = 1) N40 (by decide) (by decide)
    exact own_case3 (Ne.symm ne01) ne02 ne12 ne03 ne13
set_option maxRecDepth 65536 in
set_option maxHeartbeats 40000000 in
theorem comes_1 {Post : Tables → Env → Array Value → State → Outcome → State → Prop} (hpost : ∀ tb e args s v u, (limb_1_1.after args s (.returned v) u = true ∧ limb_1_2.after args s (.returned v) u = true ∧ True) → FrameEnd s (.returned v) u (Jvm.fieldLocs frame_1_writes args s ++ Jvm.arrayLocs frame_1_arrays args s ++ Jvm.staticLocs frame_1_statics s) 0 0 → Post tb e args s (.returned v) u) :
    ArmFor flags0 classFile x code maxLocals ret World_1 tables_1 room_1 Calls_1 rest_1 Pre_1 Post := by
  intro l hfl _ _ p e ha hc hk s m args below hf hA hF happ hP
  obtain ⟨hcalls, hrest, hpre⟩ := hP
  obtain ⟨-, -, -, hnamed, -, -, -, hat⟩ := (Spec.applies_iff hf).mp happ
  obtain ⟨hg, hn⟩ := and_e (Cond.before_iff.mp (show (Jvm.Cond.and given_1 narrow_1).before args s = true from hpre))
  obtain ⟨gg1, gg2⟩ := and_e hg
  obtain ⟨w0, rfl⟩ : ∃ w0 : Value, args = #[w0] := by
    have hs : args.size = 1 := by simpa [Cond.value, given_1] using gg1
    obtain ⟨L⟩ := args
    match L, hs with
    | [w0], _ => exact ⟨w0, rfl⟩
  have hw := fun d (hd : d ∈ tables_1) => atoms_spec (ws := Jvm.Cond.code x code maxLocals ret :: tables_1) hat d (List.mem_cons_of_mem _ hd)
  have hfit : Fit s := fun {y c} hc i hi => by
    obtain ⟨ha, rfl⟩ := Array.getElem?_eq_some_iff.mp hc
    have q := List.all_eq_true.mp ((Array.all_eq_true_iff_forall_mem.mp hF) _ (Array.getElem_mem ha)) i (List.mem_range.mpr hi)
    simpa [Array.getElem?_eq_getElem hi] using q
  obtain ⟨i0, ei0⟩ := is_v gg2
  obtain rfl : w0 = (.int i0) := Option.some.inj ei0
  obtain ⟨gn1, gn2⟩ := and_e hn
  obtain ⟨gn3, gn4⟩ := and_e gn2
  obtain ⟨gn5, gn6⟩ := and_e gn4
  obtain ⟨gn7, gn8⟩ := and_e gn6
  obtain ⟨gn9, gn10⟩ := and_e gn8
  obtain ⟨gn11, gn12⟩ := and_e gn10
  obtain ⟨gn13, gn14⟩ := and_e gn12
  obtain ⟨w_WAITROOM, ev_WAITROOM⟩ := exa_v gn1
  have S_WAITROOM := Sta.start ev_WAITROOM (Or.inr ⟨(hw _ (List.mem_of_getElem? (i := 5) rfl)), (hw _ (List.mem_of_getElem? (i := 6) rfl))⟩)
  have E_WAITROOM := Exa.start ev_WAITROOM gn1
  have O_WAITROOM := own_ord ev_WAITROOM gn7
  obtain ⟨w_SPECTATOR, ev_SPECTATOR⟩ := exa_v gn9
  have S_SPECTATOR := Sta.start ev_SPECTATOR (Or.inr ⟨(hw _ (List.mem_of_getElem? (i := 5) rfl)), (hw _ (List.mem_of_getElem? (i := 16) rfl))⟩)
  have E_SPECTATOR := Exa.start ev_SPECTATOR gn9
  have O_SPECTATOR := own_ord ev_SPECTATOR gn11
  obtain ⟨w_TEAM_SPAWN, ev_TEAM_SPAWN⟩ := exa_v gn13
  have S_TEAM_SPAWN := Sta.start ev_TEAM_SPAWN (Or.inr ⟨(hw _ (List.mem_of_getElem? (i := 5) rfl)), (hw _ (List.mem_of_getElem? (i := 18) rfl))⟩)
  have E_TEAM_SPAWN := Exa.start ev_TEAM_SPAWN gn13
  have O_TEAM_SPAWN := own_ord ev_TEAM_SPAWN gn14
  obtain ⟨w_SPAWN, ev_SPAWN⟩ := exa_v gn3
  have S_SPAWN := Sta.start ev_SPAWN (Or.inr ⟨(hw _ (List.mem_of_getElem? (i := 5) rfl)), (hw _ (List.mem_of_getElem? (i := 14) rfl))⟩)
  have E_SPAWN := Exa.start ev_SPAWN gn3
  have O_SPAWN := own_ord ev_SPAWN gn5
  obtain ⟨n, o, h1, h2, h3, _, L, rfl, ⟨rfl, N⟩, hq⟩ := own_law l s _ hw tables_1 i0 w_WAITROOM w_SPECTATOR w_TEAM_SPAWN w_SPAWN s.heap s.heap.size (Nat.le_refl _) S_WAITROOM S_SPECTATOR S_TEAM_SPAWN S_SPAWN (Old.start s) E_WAITROOM E_SPECTATOR E_TEAM_SPAWN E_SPAWN (O_WAITROOM.ne O_SPECTATOR (by decide)) (O_TEAM_SPAWN.ne O_WAITROOM (by decide)) (O_TEAM_SPAWN.ne O_SPECTATOR (by decide)) (O_SPAWN.ne O_WAITROOM (by decide)) (O_SPAWN.ne O_SPECTATOR (by decide)) p e ha hc hk s m _ below hf ((Spec.applies_iff_loose hf).mp happ).1 ⟨rfl, State.Warmed39.refl s, rfl⟩ trivial
  refine ⟨n, _, h1, h2, h3, hpost _ _ _ _ _ _ ⟨Cond.after_iff.mpr rfl, Cond.after_iff.mpr (eq_i res_at (Term.int_eval (1)) rfl), trivial⟩ ⟨hq.1, hq.2.1, (hq.2.2.sift fun y hy => Or.inr (N y hy)).mono (by decide) (by decide)⟩⟩
theorem main_1_1 : Claimed_1_1 := comes_1 fun _ _ _ _ _ _ h hF => ⟨h.1, hF⟩
theorem main_1_2 : Claimed_1_2 := comes_1 fun _ _ _ _ _ _ h hF => ⟨h.2.1, hF⟩
end Jvm.Pilot.@@N@@
namespace Jvm.Pilot.@@N@@
open Jvm Jvm.ClassFile Sem Op Lib Jvm.Free Jvm.Stand Jvm.Pilot.@@N@@.Jvm.D
/-! MADE BY PROGRAM (witnessworld.py) out of the Statement's table words and the real class files: 13 classes; the members and pool entries that the words name. The judged class is class 1, her method 2. -/
namespace start1
open Jvm.ClassFile
def u (s : String) : CpInfo := .utf8 (stringToUtf16 s)
/-- a pool by its gaps: so many unusable entries, then the entry; so many at the end -/
def gap : Nat → List CpInfo → List CpInfo
  | 0, r => r
  | n + 1, r => .unusable :: gap n r
def poolList (es : List (Nat × CpInfo)) (last : Nat) : List CpInfo := es.foldr (fun e r => gap e.1 (e.2 :: r)) (gap last [])
def pool (es : List (Nat × CpInfo)) (last : Nat) : Array CpInfo := ⟨poolList es last⟩
def fileOf (pool : Array CpInfo) (this : Nat) (attrs : Array Attribute := #[]) (ms : Array MethodInfo := #[]) (fl : Nat := 33) (sup : Nat := 0) (ifs : Array Nat := #[]) (fds : Array FieldInfo := #[]) : ClassFile where
  minorVersion := 0
  majorVersion := 65
  constantPool := pool
  accessFlags := fl
  thisClass := this
  superClass := sup
  interfaces := ifs
  fields := fds
  methods := ms
  attributes := attrs
def plain (name : String) (sup : Option ClassId) : Class where
  name := name
  kind := .ordinary
  loader := none
  accessFlags := 33
  super := sup
  interfaces := #[]
  cf := none
  fields := #[]
  methods := #[]
  instanceTypes := #[]
  staticTypes := #[]
  resolved := #[]
  callSites := []
  init := .initialized
  statics := none
  mirror := none

def pool0 : Array CpInfo := pool [(5, u "<init>"), (0, u "()V"), (1, .class_ 10), (1, u "java/lang/Object")] 113

def k0m0 : Method := { name := "<init>", desc := "()V", sig := { parameters := [], returnType := none }, accessFlags := 1, code := none }
/-- java/lang/Object -/
def k0 : Class := { plain "java/lang/Object" none with
  accessFlags := 33
  interfaces := #[]
  cf := some (fileOf pool0 8 #[] #[{ accessFlags := 1, nameIndex := 5, descriptorIndex := 6, attributes := #[] }] 33 0 #[] #[])
  fields := #[]
  methods := #[k0m0]
  instanceTypes := #[]
  staticTypes := #[]
  resolved := Array.replicate 124 none
  statics := none }

def pool1 : Array CpInfo := pool [(2, .class_ 4), (1, u "java/lang/Object"), (0, u "<init>"), (0, u "()V"), (0, .fieldref 8 9), (0, .class_ 10), (0, .nameAndType 11 12), (0, u "com/example/battlement/battlement/definition/Action$Location"), (0, u "WAITROOM"), (0, u "Lcom/example/battlement/battlement/definition/Action$Location;"), (0, .fieldref 8 14), (0, .nameAndType 15 12), (0, u "SPECTATOR"), (0, .fieldref 8 17), (0, .nameAndType 18 12), (0, u "TEAM_SPAWN"), (0, .fieldref 8 20), (0, .nameAndType 21 12), (0, u "SPAWN"), (0, .methodref 23 24), (0, .class_ 25), (0, .nameAndType 26 27), (0, u "com/example/battlement/battlement/definition/LocationIsSpectatorSpawnPinLaw"), (0, u "pick"), (0, u "(I)Lcom/example/battlement/battlement/definition/Action$Location;"), (0, .methodref 8 29), (0, .nameAndType 30 31), (0, u "isSpectatorSpawn"), (0, u "()Z"), (3, u "law"), (0, u "(I)Z")] 6

def k1m0 : Method := { name := "<init>", desc := "()V", sig := { parameters := [], returnType := none }, accessFlags := 1, code := none }
def k1c1 : Code := { maxStack := 2, maxLocals := 1, code := method_2_code, exceptionTable := #[], attributes := #[] }
def k1m1 : Method := { name := "pick", desc := "(I)Lcom/example/battlement/battlement/definition/Action$Location;", sig := { parameters := [.int], returnType := some (.object "com/example/battlement/battlement/definition/Action$Location") }, accessFlags := 10, code := some k1c1 }
def k1c2 : Code := { maxStack := 2, maxLocals := 4, code := code, exceptionTable := #[], attributes := #[] }
def k1m2 : Method := { name := "law", desc := "(I)Z", sig := { parameters := [.int], returnType := some .boolean }, accessFlags := 9, code := some k1c2 }
/-- com/example/battlement/battlement/definition/LocationIsSpectatorSpawnPinLaw -/
def k1 : Class := { plain "com/example/battlement/battlement/definition/LocationIsSpectatorSpawnPinLaw" (some 0) with
  accessFlags := 49
  interfaces := #[]
  cf := some (fileOf pool1 23 #[] #[{ accessFlags := 1, nameIndex := 5, descriptorIndex := 6, attributes := #[] }, { accessFlags := 10, nameIndex := 26, descriptorIndex := 27, attributes := #[] }, { accessFlags := 9, nameIndex := 35, descriptorIndex := 36, attributes := #[] }] 49 2 #[] #[])
  fields := #[]
  methods := #[k1m0, k1m1, k1m2]
  instanceTypes := #[]
  staticTypes := #[]
  resolved := Array.replicate 43 none
  statics := none }

def pool2 : Array CpInfo := pool [(1, .class_ 2), (0, u "java/lang/constant/Constable"), (0, .class_ 4), (0, u "java/lang/Object")] 6

/-- java/lang/constant/Constable -/
def k2 : Class := { plain "java/lang/constant/Constable" (some 0) with
  accessFlags := 1537
  interfaces := #[]
  cf := some (fileOf pool2 1 #[] #[] 1537 3 #[] #[])
  fields := #[]
  methods := #[]
  instanceTypes := #[]
  staticTypes := #[]
  resolved := Array.replicate 11 none
  statics := none }

def pool3 : Array CpInfo := pool [(1, .class_ 2), (0, u "java/lang/Comparable"), (0, .class_ 4), (0, u "java/lang/Object")] 7

/-- java/lang/Comparable -/
def k3 : Class := { plain "java/lang/Comparable" (some 0) with
  accessFlags := 1537
  interfaces := #[]
  cf := some (fileOf pool3 1 #[] #[] 1537 3 #[] #[])
  fields := #[]
  methods := #[]
  instanceTypes := #[]
  staticTypes := #[]
  resolved := Array.replicate 12 none
  statics := none }

def pool4 : Array CpInfo := pool [(1, .class_ 2), (0, u "java/io/Serializable"), (0, .class_ 4), (0, u "java/lang/Object")] 2

/-- java/io/Serializable -/
def k4 : Class := { plain "java/io/Serializable" (some 0) with
  accessFlags := 1537
  interfaces := #[]
  cf := some (fileOf pool4 1 #[] #[] 1537 3 #[] #[])
  fields := #[]
  methods := #[]
  instanceTypes := #[]
  staticTypes := #[]
  resolved := Array.replicate 7 none
  statics := none }

def pool5 : Array CpInfo := pool [(2, .class_ 4), (1, u "java/lang/Enum"), (0, u "name"), (0, u "Ljava/lang/String;"), (2, u "ordinal"), (0, u "I"), (1, .class_ 14), (1, u "java/lang/Object"), (4, u "hash"), (86, .class_ 108), (1, u "java/lang/Enum$EnumDesc"), (2, .class_ 112), (0, u "java/lang/constant/Constable"), (0, .class_ 114), (0, u "java/lang/Comparable"), (0, .class_ 116), (0, u "java/io/Serializable")] 87

/-- java/lang/Enum -/
def k5 : Class := { plain "java/lang/Enum" (some 0) with
  accessFlags := 1057
  interfaces := #[2, 3, 4]
  cf := some (fileOf pool5 2 #[.nestMembers #[106]] #[] 1057 12 #[111, 113, 115] #[{ accessFlags := 18, nameIndex := 5, descriptorIndex := 6, attributes := #[] }, { accessFlags := 18, nameIndex := 9, descriptorIndex := 10, attributes := #[] }, { accessFlags := 2, nameIndex := 19, descriptorIndex := 10, attributes := #[] }])
  fields := #[{ name := "name", type := (.object "java/lang/String"), accessFlags := 18, slot := 0, constantValue := 0 }, { name := "ordinal", type := .int, accessFlags := 18, slot := 1, constantValue := 0 }, { name := "hash", type := .int, accessFlags := 2, slot := 2, constantValue := 0 }]
  methods := #[]
  instanceTypes := #[(.object "java/lang/String"), .int, .int]
  staticTypes := #[]
  resolved := Array.replicate 204 none
  statics := none }

def pool6 : Array CpInfo := pool [(47, .class_ 48), (0, u "com/example/battlement/battlement/config/Word"), (8, .class_ 58), (0, u "java/lang/Object")] 42

/-- com/example/battlement/battlement/config/Word -/
def k6 : Class := { plain "com/example/battlement/battlement/config/Word" (some 0) with
  accessFlags := 1537
  interfaces := #[]
  cf := some (fileOf pool6 47 #[] #[] 1537 57 #[] #[])
  fields := #[]
  methods := #[]
  instanceTypes := #[]
  staticTypes := #[]
  resolved := Array.replicate 101 none
  statics := none }

def pool7 : Array CpInfo := pool [(1, .class_ 2), (0, u "com/example/battlement/battlement/definition/Action$Location"), (0, .fieldref 1 4), (0, .nameAndType 5 6), (0, u "WAITROOM"), (0, u "Lcom/example/battlement/battlement/definition/Action$Location;"), (0, .fieldref 1 8), (0, .nameAndType 9 6), (0, u "SPECTATOR"), (2, u "TEAM_SPAWN"), (2, u "SPAWN"), (2, u "$VALUES"), (0, u "[Lcom/example/battlement/battlement/definition/Action$Location;"), (6, .class_ 28), (1, u "java/lang/Enum"), (8, u "written"), (0, u "Ljava/lang/String;"), (19, .class_ 59), (0, u "com/example/battlement/battlement/config/Word"), (8, u "isSpectatorSpawn"), (0, u "()Z"), (7, .class_ 78), (0, u "com/example/battlement/battlement/definition/Action")] 2

def k7c0 : Code := { maxStack := 2, maxLocals := 1, code := prog_75_method_5_code, exceptionTable := #[], attributes := #[] }
def k7m0 : Method := { name := "isSpectatorSpawn", desc := "()Z", sig := { parameters := [], returnType := some .boolean }, accessFlags := 1, code := some k7c0 }
/-- com/example/battlement/battlement/definition/Action$Location -/
def k7 : Class := { plain "com/example/battlement/battlement/definition/Action$Location" (some 5) with
  accessFlags := 16433
  interfaces := #[6]
  cf := some (fileOf pool7 1 #[.nestHost 77] #[{ accessFlags := 1, nameIndex := 68, descriptorIndex := 69, attributes := #[] }] 16433 26 #[58] #[{ accessFlags := 16409, nameIndex := 5, descriptorIndex := 6, attributes := #[] }, { accessFlags := 16409, nameIndex := 9, descriptorIndex := 6, attributes := #[] }, { accessFlags := 16409, nameIndex := 12, descriptorIndex := 6, attributes := #[] }, { accessFlags := 16409, nameIndex := 15, descriptorIndex := 6, attributes := #[] }, { accessFlags := 18, nameIndex := 37, descriptorIndex := 38, attributes := #[] }, { accessFlags := 4122, nameIndex := 18, descriptorIndex := 19, attributes := #[] }])
  fields := #[{ name := "WAITROOM", type := (.object "com/example/battlement/battlement/definition/Action$Location"), accessFlags := 16409, slot := 0, constantValue := 0 }, { name := "SPECTATOR", type := (.object "com/example/battlement/battlement/definition/Action$Location"), accessFlags := 16409, slot := 1, constantValue := 0 }, { name := "TEAM_SPAWN", type := (.object "com/example/battlement/battlement/definition/Action$Location"), accessFlags := 16409, slot := 2, constantValue := 0 }, { name := "SPAWN", type := (.object "com/example/battlement/battlement/definition/Action$Location"), accessFlags := 16409, slot := 3, constantValue := 0 }, { name := "written", type := (.object "java/lang/String"), accessFlags := 18, slot := 3, constantValue := 0 }, { name := "$VALUES", type := (.array (.object "com/example/battlement/battlement/definition/Action$Location")), accessFlags := 4122, slot := 4, constantValue := 0 }]
  methods := #[k7m0]
  instanceTypes := #[(.object "java/lang/String"), .int, .int, (.object "java/lang/String")]
  staticTypes := #[(.object "com/example/battlement/battlement/definition/Action$Location"), (.object "com/example/battlement/battlement/definition/Action$Location"), (.object "com/example/battlement/battlement/definition/Action$Location"), (.object "com/example/battlement/battlement/definition/Action$Location"), (.array (.object "com/example/battlement/battlement/definition/Action$Location"))]
  resolved := Array.replicate 81 none
  statics := some 0 }

def pool8 : Array CpInfo := pool [(1, u "java/lang/Cloneable"), (0, .class_ 1), (0, u "java/lang/Object"), (0, .class_ 3)] 3

/-- java/lang/Cloneable -/
def k8 : Class := { plain "java/lang/Cloneable" (some 0) with
  accessFlags := 1537
  interfaces := #[]
  cf := some (fileOf pool8 2 #[] #[] 1537 4 #[] #[])
  fields := #[]
  methods := #[]
  instanceTypes := #[]
  staticTypes := #[]
  resolved := Array.replicate 8 none
  statics := none }

/-- the primitive byte -/
def k9 : Class := { plain "byte" none with kind := .primitive 'B', accessFlags := 0x411 }
/-- [B -/
def k10 : Class := { plain "[B" (some 0) with kind := .array 9 .byte, interfaces := #[8, 4], accessFlags := 1041 }

/-- the primitive int -/
def k11 : Class := { plain "int" none with kind := .primitive 'I', accessFlags := 0x411 }
/-- [I -/
def k12 : Class := { plain "[I" (some 0) with kind := .array 11 .int, interfaces := #[8, 4], accessFlags := 1041 }

def heap : Heap := #[{ cls := 7, slots := #[.ref 1, .ref 2, .ref 3, .ref 4, .null], vm := .statics 7 },
  { cls := 7, slots := #[.null, .int 0, .int 0, .null], vm := .none },
  { cls := 7, slots := #[.null, .int 1, .int 0, .null], vm := .none },
  { cls := 7, slots := #[.null, .int 2, .int 0, .null], vm := .none },
  { cls := 7, slots := #[.null, .int 3, .int 0, .null], vm := .none }]
def classes : Array Class := #[k0, k1, k2, k3, k4, k5, k6, k7, k8, k9, k10, k11, k12]
def interned : List (Array UInt16 × Addr) := []
def slotsUsed : Nat := 21
def theMethod : MethodId := ⟨1, 2⟩
def args0 : Array Value := #[.int 1]
def aboutOver (below : List Frame) : State where
  vm := { classes := classes, interned := interned.toArray }
  heap := heap
  slotsUsed := slotsUsed
  threads := #[{ frames := .invoking theMethod args0 :: below }]
def below0 : List Frame := [.native { method := ⟨0, 0⟩, args := #[] }]
def about1 : State := aboutOver below0
def p0 : Program := .bare "" "" ""
def e0 : Env := launch0.env 0 0 0
theorem w_frames : about1.frames = Frame.invoking theMethod args0 :: below0 := rfl
set_option maxRecDepth 65536 in
theorem w_args : argsFit about1.vm theMethod args0 = true := by decide +kernel
set_option maxRecDepth 65536 in
theorem w_heap : heapFits about1 = true := by decide +kernel
set_option maxRecDepth 65536 in
theorem w_runnable : about1.curStatus? = some .runnable := by decide +kernel
set_option maxRecDepth 65536 in
theorem w_alone : about1.alone = true := by decide +kernel
set_option maxRecDepth 65536 in
theorem w_named : about1.methodNamed? x = some theMethod := by decide +kernel
set_option maxRecDepth 65536 in
theorem w_hears : about1.hears theMethod below0 = true := by decide +kernel
set_option maxRecDepth 65536 in
theorem w_ripe : about1.ripe theMethod args0 below0 = true := by decide +kernel
theorem w_running : about1.status = .running := rfl
set_option maxRecDepth 65536 in
theorem w_room : about1.hasRoom e0.platform room_1 = true :=
  launch0.hasRoom_least _ room_1 (by decide +kernel) (by decide +kernel) (by decide +kernel) (by decide +kernel) (by decide +kernel) (by decide +kernel)
theorem allAtoms_all (ts : List Jvm.Cond) (a : Array Jvm.Value) (st : Jvm.State) : (allAtoms ts).before a st = ts.all (fun c => c.before a st) := by
  induction ts with
  | nil => rfl
  | cons c t ih =>
    show (Jvm.Cond.and c (allAtoms t)).before a st = _
    rw [Jvm.Cond.before_and, ih, List.all_cons]
def words1 : List Jvm.Cond := Jvm.Cond.code x code maxLocals ret :: tables_1
/-- a 'code' word, met by the world's own term for the bytes: nothing is compared byte by byte -/
theorem code_word {y : MethodName} {bytes : ByteArray} {mx : Nat} {rt : Option FieldType} {a : Array Value} {s : State} {m : MethodId} {meth : Method} {c : Code} (h1 : s.methodNamed? y = some m) (h2 : s.vm.method? m = some meth) (h3 : meth.code = some c) (h4 : c.code = bytes)
    (h5 : (c.maxLocals == mx && c.exceptionTable.isEmpty && decide (c.maxStack ≤ mostOperands) && decide (meth.sig.returnType = rt) && !meth.locks && decide (parseMethodDescriptor y.desc = some meth.sig)) = true) : (Jvm.Cond.code y bytes mx rt).before a s = true := by
  simp only [Bool.and_eq_true, beq_iff_eq, Bool.not_eq_true', decide_eq_true_eq] at h5
  obtain ⟨⟨⟨⟨⟨g1, g2⟩, g3⟩, g4⟩, g5⟩, g6⟩ := h5
  simp [Cond.before, Cond.holds, Cond.value, h1, h2, h3, h4, g1, g2, g3, g4, g5, g6]
def isCode : Jvm.Cond → Bool
  | .code _ _ _ _ => true
  | _ => false
theorem all_split {L : List Jvm.Cond} {P : Jvm.Cond → Bool} (h1 : L.all (fun c => isCode c || P c) = true) (h2 : ∀ c ∈ L.filter isCode, P c = true) : L.all P = true := by
  refine List.all_eq_true.mpr fun c hc => ?_
  have h := List.all_eq_true.mp h1 c hc
  rcases Bool.eq_false_or_eq_true (isCode c) with hi | hi
  · exact h2 c (List.mem_filter.mpr ⟨hc, hi⟩)
  · simpa [hi] using h
set_option maxRecDepth 65536 in
theorem w_c0 : (Jvm.Cond.code x code maxLocals ret).before args0 about1 = true := code_word (m := ⟨1, 2⟩) (meth := k1m2) (c := k1c2) (by decide +kernel) rfl rfl rfl (by decide +kernel)
set_option maxRecDepth 65536 in
theorem w_c1 : (Jvm.Cond.code ({ cls := "com/example/battlement/battlement/definition/LocationIsSpectatorSpawnPinLaw", name := "pick", desc := "(I)Lcom/example/battlement/battlement/definition/Action$Location;" } : Jvm.MethodName) method_2_code (1 : Nat) (Option.some (Jvm.ClassFile.FieldType.object "com/example/battlement/battlement/definition/Action$Location"))).before args0 about1 = true := code_word (m := ⟨1, 1⟩) (meth := k1m1) (c := k1c1) (by decide +kernel) rfl rfl rfl (by decide +kernel)
set_option maxRecDepth 65536 in
theorem w_c2 : (Jvm.Cond.code ({ cls := "com/example/battlement/battlement/definition/Action$Location", name := "isSpectatorSpawn", desc := "()Z" } : Jvm.MethodName) prog_75_method_5_code (1 : Nat) (Option.some Jvm.ClassFile.FieldType.boolean)).before args0 about1 = true := code_word (m := ⟨7, 0⟩) (meth := k7m0) (c := k7c0) (by decide +kernel) rfl rfl rfl (by decide +kernel)
def codes1 : List Jvm.Cond := [Jvm.Cond.code x code maxLocals ret, Jvm.Cond.code ({ cls := "com/example/battlement/battlement/definition/LocationIsSpectatorSpawnPinLaw", name := "pick", desc := "(I)Lcom/example/battlement/battlement/definition/Action$Location;" } : Jvm.MethodName) method_2_code (1 : Nat) (Option.some (Jvm.ClassFile.FieldType.object "com/example/battlement/battlement/definition/Action$Location")), Jvm.Cond.code ({ cls := "com/example/battlement/battlement/definition/Action$Location", name := "isSpectatorSpawn", desc := "()Z" } : Jvm.MethodName) prog_75_method_5_code (1 : Nat) (Option.some Jvm.ClassFile.FieldType.boolean)]
set_option maxRecDepth 65536 in
theorem codes_eq : words1.filter isCode = codes1 := rfl
theorem w_codes : ∀ c ∈ words1.filter isCode, c.before args0 about1 = true := by
  rw [codes_eq]
  intro c hc
  simp only [codes1, List.mem_cons, List.not_mem_nil, or_false] at hc
  rcases hc with rfl | rfl | rfl
  · exact w_c0
  · exact w_c1
  · exact w_c2
set_option maxRecDepth 65536 in
theorem w_t1 : words1.all (fun c => isCode c || c.before args0 about1) = true := by decide +kernel
theorem w_tables : (allAtoms (Jvm.Cond.code x code maxLocals ret :: tables_1)).before args0 about1 = true := by
  rw [allAtoms_all]
  show words1.all (fun c => c.before args0 about1) = true
  refine all_split ?_ w_codes
  rw [w_t1]
set_option maxRecDepth 65536 in
theorem w_case : (Jvm.Cond.and given_1 narrow_1).before args0 about1 = true := by decide +kernel
theorem w_applies : (headSpec (Jvm.Cond.code x code maxLocals ret :: tables_1) room_1).applies x e0.platform about1 = true :=
  (Spec.applies_iff w_frames).mpr ⟨w_running, w_runnable, w_alone, w_named, w_hears, w_ripe, w_room, w_tables⟩
theorem atStart : AtStart classFile x code maxLocals ret World_1 tables_1 room_1 Calls_1 rest_1 Pre_1 launch0 p0 e0 about1 theMethod args0 below0 :=
  ⟨lists_1, trivial, launch0.admits_env _ _ _, launch0.least_env, fairChoices_fair.cas, fairChoices_fair.clock, w_frames, w_args, w_heap, w_applies, trivial, trivial, w_case⟩
end start1
theorem witness_1 : WitnessClaimed_1 := ⟨start1.p0, start1.e0, start1.about1, start1.theMethod, start1.args0, start1.below0, start1.atStart⟩
end Jvm.Pilot.@@N@@
