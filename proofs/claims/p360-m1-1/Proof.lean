import JvmDerived
import JvmDerived.Pilot.@@N@@Statement
import JvmDerived.Pilot.@@N@@Code
set_option linter.unusedVariables false
set_option linter.unusedSimpArgs false
namespace Jvm.Pilot.@@N@@
open Jvm Jvm.ClassFile Sem Op Lib Jvm.Free Jvm.Stand Jvm.LawKit Jvm.RoadKit Bundle Jvm.Pilot.@@N@@.Jvm.D
section Own
variable {p : Program} {l : Launch} {e : Env} {R : Room} {s : State} {m : MethodId} {args : Array Value} {below : List Frame} {meth : Method} {c : Code} {T : State} {locs : List Loc} {cells slots : Nat} {Z : State} {h h' : Heap} {a b : Addr} {G : State → Outcome → Prop} {Q : Option Value → Heap → List Loc → Prop} {C K : Nat}
/-- the run comes to an end of which G holds -/
def own_Goes (p : Program) (e : Env) (below : List Frame) (G : State → Outcome → Prop) (S : State) : Prop := ∃ s₂ o, Steps p.tables e below S s₂ ∧ s₂.status = .running ∧ Ended s₂ below o ∧ G s₂ o
theorem own_step {S S' : State} (k : ∀ t, Steps p.tables e below S' t → Steps p.tables e below S t) (h : own_Goes p e below G S') : own_Goes p e below G S := by
  obtain ⟨s₂, o, h1, h2⟩ := h
  exact ⟨s₂, o, k _ h1, h2⟩
theorem own_jump {S S' : State} (k : Steps p.tables e below S S') (h : own_Goes p e below G S') : own_Goes p e below G S := own_step (fun _ q => k.trans q) h
def own_Fin (s : State) (Q : Option Value → Heap → List Loc → Prop) (C K : Nat) : State → Outcome → Prop := fun U o => ∃ v L, o = .returned v ∧ Q v U.heap L ∧ FrameEnd s o U L C K
theorem own_ret0 (X : Stand p l e R s m args below meth c T locs cells slots) (hx : p.tables.exec = Jvm.exec) (hlk : meth.locks = false) (hret : meth.sig.returnType = none) {pc : Nat} {Ls : Array Slot} (hd : decode c.code pc = .ok (.return_, 1)) (hq : Q none T.heap locs) (hc : cells ≤ C) (hk : slots ≤ K) :
    own_Goes p e below (own_Fin s Q C K) (T.setTop (mkF m pc Ls [])) := by
  obtain ⟨fs, hr, hrun, hended, hW, hsame⟩ := X.leave (v := none) (fun _ => rfl)
  exact ⟨_, _, X.returnOut hx hret hd hr, hrun, hended, _, _, rfl, hq, ⟨_, rfl⟩, hW, hsame.mono hc hk⟩
theorem own_retV (X : Stand p l e R s m args below meth c T locs cells slots) (hx : p.tables.exec = Jvm.exec) (hlk : meth.locks = false) {t : FieldType} (hret : meth.sig.returnType = some t) {w : Value} (hn : narrow t w = w) {i : Instr}
    (hi : (i = .ireturn ∧ (t = .int ∨ t = .boolean ∨ t = .byte ∨ t = .char ∨ t = .short) ∧ ∃ z, w = .int z) ∨ (i = .lreturn ∧ t = .long ∧ ∃ z, w = .long z) ∨ (i = .dreturn ∧ t = .double ∧ ∃ z, w = .double z) ∨ (i = .freturn ∧ t = .float ∧ ∃ z, w = .float z) ∨ (i = .areturn ∧ t.isReference = true ∧ w.isRef = true))
    {pc : Nat} {Ls : Array Slot} {rest : List Value} (hd : decode c.code pc = .ok (i, 1)) (hq : Q (some w) T.heap locs) (hc : cells ≤ C) (hk : slots ≤ K) :
    own_Goes p e below (own_Fin s Q C K) (T.setTop (mkF m pc Ls (w :: rest))) := by
  obtain ⟨fs, hr, hrun, hended, hW, hsame⟩ := X.leave (v := some w) (fun h => by rw [hret] at h; cases h)
  exact ⟨_, _, retOut X hx hret hn hi hd hr, hrun, hended, _, _, rfl, hq, ⟨_, rfl⟩, hW, hsame.mono hc hk⟩
theorem own_nb {z : Int32} (h : z = 0 ∨ z = 1) : narrow .boolean (.int z) = .int z := by
  rcases h with rfl | rfl <;> rfl
theorem own_01 {q : Prop} [Decidable q] {x y : Int32} (hx : x = 0 ∨ x = 1) (hy : y = 0 ∨ y = 1) : (if q then x else y) = 0 ∨ (if q then x else y) = 1 := by
  split
  · exact hx
  · exact hy
/-- the law's own promise -/
def own_Q0 (n0 : Nat) (v : Option Value) (h : Heap) (L : List Loc) : Prop := v = some (.int 1) ∧ Fr n0 L
theorem own_retL {n0 : Nat} (X : Stand p l e R s m args below meth c T locs cells slots) (hx : p.tables.exec = Jvm.exec) (hlk : meth.locks = false) (hret : meth.sig.returnType = some .boolean) {pc : Nat} {Ls : Array Slot} {z : Int32} {rest : List Value} (hd : decode c.code pc = .ok (.ireturn, 1)) (hz : z = 1) (N : Fr n0 locs) (hc : cells ≤ C) (hk : slots ≤ K) :
    own_Goes p e below (own_Fin s (own_Q0 n0) C K) (T.setTop (mkF m pc Ls (.int z :: rest))) := by
  subst hz
  exact own_retV X hx hlk hret (own_nb (Or.inr rfl)) (Or.inl ⟨rfl, Or.inr (Or.inl rfl), _, rfl⟩) hd ⟨rfl, N⟩ hc hk
/-! arrays of ints and of longs, by their lists -/
theorem own_getI (xs : List Int32) (n : Nat) : (xs.map Value.int).getD n (Value.int 0) = Value.int (xs.getD n 0) := by
  simp only [List.getD_eq_getElem?_getD, List.getElem?_map]
  cases xs[n]? <;> rfl
theorem own_getJ (xs : List Int64) (n : Nat) : (xs.map Value.long).getD n (Value.long 0) = Value.long (xs.getD n 0) := by
  simp only [List.getD_eq_getElem?_getD, List.getElem?_map]
  cases xs[n]? <;> rfl
theorem own_newI {k : ClassId} {z : Int32} (A : Arr Z h a (newA k .int z) .int) (q : ¬ z < 0) (n : Nat) : Arv Z h a k .int z ((List.replicate n (0 : Int32)).map Value.int) (Value.int 0) :=
  (Arv.new A q).pad fun i => by rw [List.map_replicate]; exact pad_rep [] (Value.int 0) n i
theorem own_newJ {k : ClassId} {z : Int32} (A : Arr Z h a (newA k .long z) .long) (q : ¬ z < 0) (n : Nat) : Arv Z h a k .long z ((List.replicate n (0 : Int64)).map Value.long) (Value.long 0) :=
  (Arv.new A q).pad fun i => by rw [List.map_replicate]; exact pad_rep [] (Value.long 0) n i
theorem own_ial (X : Stand p l e R s m args below meth c T locs cells slots) (hx : p.tables.exec = Jvm.exec) (hZ : Z.Warmed39 s.vm) (eT : T.heap = h) {k : ClassId} {z j : Int32} {xs : List Int32} (F : Arv Z h a k .int z (xs.map Value.int) (Value.int 0)) (hj : ¬ j < 0 ∧ j < z)
    {g : JFrame} (hg : g.method = m) {rest : List Value} (hs : g.stack = .int j :: .ref a :: rest) (hd : decode c.code g.pc = .ok (.iaload, 1)) (t : State) (kk : Steps p.tables e below (T.setTop { g with pc := g.pc + 1, stack := .int (xs.getD j.toNatClampNeg 0) :: rest }) t) : Steps p.tables e below (T.setTop g) t := by
  obtain ⟨cl, Ar, -, S, -, H, -⟩ := F
  have hin := inb_of S hj
  exact X.iaload hx (j := j) (by rw [eT]; exact Ar.1) (State.isArrayOf_alike hZ.alike Ar.2.1) Ar.2.2 hin (H.at hin (own_getI _ _)) hg hs hd t kk
theorem own_lal (X : Stand p l e R s m args below meth c T locs cells slots) (hx : p.tables.exec = Jvm.exec) (hZ : Z.Warmed39 s.vm) (eT : T.heap = h) {k : ClassId} {z j : Int32} {xs : List Int64} (F : Arv Z h a k .long z (xs.map Value.long) (Value.long 0)) (hj : ¬ j < 0 ∧ j < z)
    {g : JFrame} (hg : g.method = m) {rest : List Value} (hs : g.stack = .int j :: .ref a :: rest) (hd : decode c.code g.pc = .ok (.laload, 1)) (t : State) (kk : Steps p.tables e below (T.setTop { g with pc := g.pc + 1, stack := .long (xs.getD j.toNatClampNeg 0) :: rest }) t) : Steps p.tables e below (T.setTop g) t := by
  obtain ⟨cl, Ar, -, S, -, H, -⟩ := F
  have hin := inb_of S hj
  exact X.laload hx (j := j) (by rw [eT]; exact Ar.1) (State.isArrayOf_alike hZ.alike Ar.2.1) Ar.2.2 hin (H.at hin (own_getJ _ _)) hg hs hd t kk
theorem own_len (X : Stand p l e R s m args below meth c T locs cells slots) (hx : p.tables.exec = Jvm.exec) (hZ : Z.Warmed39 s.vm) (eT : T.heap = h) {k : ClassId} {ty : FieldType} {z : Int32} {vs : List Value} {dv : Value} (F : Arv Z h a k ty z vs dv)
    {g : JFrame} (hg : g.method = m) {rest : List Value} (hs : g.stack = .ref a :: rest) (hd : decode c.code g.pc = .ok (.arraylength, 1)) (t : State) (kk : Steps p.tables e below (T.setTop { g with pc := g.pc + 1, stack := .int z :: rest }) t) : Steps p.tables e below (T.setTop g) t := by
  obtain ⟨cl, Ar, -, S, N, -, -⟩ := F
  refine X.arraylength hx (by rw [eT]; exact Ar.1) (State.isArrayOf_alike hZ.alike Ar.2.1) hg hs hd t ?_
  rw [len_of S N]
  exact kk
theorem own_ist (X : Stand p l e R s m args below meth c T locs cells slots) (hx : p.tables.exec = Jvm.exec) (hZ : Z.Warmed39 s.vm) (eT : T.heap = h) {k : ClassId} {z j y : Int32} {xs : List Int32} (F : Arv Z h a k .int z (xs.map Value.int) (Value.int 0)) (hj : ¬ j < 0 ∧ j < z) (n : Nat) (hn : j.toNatClampNeg = n) (hl : n < xs.length)
    {g : JFrame} (hg : g.method = m) {rest : List Value} (hs : g.stack = .int y :: .int j :: .ref a :: rest) (hd : decode c.code g.pc = .ok (.iastore, 1)) :
    ∃ T' h', Stand p l e R s m args below meth c T' (locs ++ [⟨a, j.toNatClampNeg⟩]) cells slots ∧ T'.heap = h' ∧ Wr h h' a j.toNatClampNeg (.int y) ∧ Arv Z h' a k .int z ((xs.set n y).map Value.int) (Value.int 0) ∧ ∀ t, Steps p.tables e below (T'.setTop { g with pc := g.pc + 1, stack := rest }) t → Steps p.tables e below (T.setTop g) t := by
  obtain ⟨cl, Ar, q, S, N, H, I⟩ := F
  obtain ⟨T', h', X', e', W, st⟩ := stI X hx hZ eT Ar (inb_of S hj) hg hs hd
  refine ⟨T', h', X', e', W, ?_, st⟩
  rw [List.map_set]
  exact Arv.set Ar q S N H I rfl W n hn (by rw [List.length_map]; exact hl)
theorem own_lst (X : Stand p l e R s m args below meth c T locs cells slots) (hx : p.tables.exec = Jvm.exec) (hZ : Z.Warmed39 s.vm) (eT : T.heap = h) {k : ClassId} {z j : Int32} {y : Int64} {xs : List Int64} (F : Arv Z h a k .long z (xs.map Value.long) (Value.long 0)) (hj : ¬ j < 0 ∧ j < z) (n : Nat) (hn : j.toNatClampNeg = n) (hl : n < xs.length)
    {g : JFrame} (hg : g.method = m) {rest : List Value} (hs : g.stack = .long y :: .int j :: .ref a :: rest) (hd : decode c.code g.pc = .ok (.lastore, 1)) :
    ∃ T' h', Stand p l e R s m args below meth c T' (locs ++ [⟨a, j.toNatClampNeg⟩]) cells slots ∧ T'.heap = h' ∧ Wr h h' a j.toNatClampNeg (.long y) ∧ Arv Z h' a k .long z ((xs.set n y).map Value.long) (Value.long 0) ∧ ∀ t, Steps p.tables e below (T'.setTop { g with pc := g.pc + 1, stack := rest }) t → Steps p.tables e below (T.setTop g) t := by
  obtain ⟨cl, Ar, q, S, N, H, I⟩ := F
  obtain ⟨T', h', X', e', W, st⟩ := stJ X hx hZ eT Ar (inb_of S hj) hg hs hd
  refine ⟨T', h', X', e', W, ?_, st⟩
  rw [List.map_set]
  exact Arv.set Ar q S N H I rfl W n hn (by rw [List.length_map]; exact hl)
end Own
def own_http (q : Int32) : Int32 := if q.toInt = 400 then 2 else if q.toInt = 401 then 5 else if q.toInt = 403 then 5 else if q.toInt = 404 then 4 else if q.toInt = 409 then 3 else 1
theorem own_idx {v : Int32} (h1 : ¬ v < (400 : Int32)) (h2 : ¬ (409 : Int32) < v) : ¬ (v - (400 : Int32)) < 0 ∧ (v - (400 : Int32)) < (10 : Int32) := by
  rw [Int32.lt_iff_toInt_lt] at *
  rw [Int32.lt_iff_toInt_lt]
  have e := c_isub v 400
  have r := rng32 (v - (400 : Int32))
  have z1 : (400 : Int32).toInt = 400 := rfl
  have z2 : (409 : Int32).toInt = 409 := rfl
  have z3 : (10 : Int32).toInt = 10 := rfl
  have z4 : (0 : Int32).toInt = 0 := rfl
  omega
theorem own_plain (v : Int32) : (if (own_http v) = (if v < (400 : Int32) then (1 : Int32) else (if (409 : Int32) < v then (1 : Int32) else (([(2 : Int32), (5 : Int32), (1 : Int32), (5 : Int32), (4 : Int32), (1 : Int32), (1 : Int32), (1 : Int32), (1 : Int32), (3 : Int32)] : List Int32).getD (v - (400 : Int32)).toNatClampNeg 0))) then (1 : Int32) else (0 : Int32)) = 1 := by
  have z1 : (400 : Int32).toInt = 400 := rfl
  have z2 : (409 : Int32).toInt = 409 := rfl
  refine if_pos ?_
  by_cases h1 : v < (400 : Int32)
  · rw [if_pos h1]
    rw [Int32.lt_iff_toInt_lt] at h1
    unfold own_http
    (repeat' split) <;> first | rfl | (exfalso; omega)
  · rw [if_neg h1]
    by_cases h2 : (409 : Int32) < v
    · rw [if_pos h2]
      rw [Int32.lt_iff_toInt_lt] at h2
      unfold own_http
      (repeat' split) <;> first | rfl | (exfalso; omega)
    · rw [if_neg h2]
      rw [Int32.lt_iff_toInt_lt] at h1 h2
      have hb : v.toInt = (400 : Int32).toInt ∨ v.toInt = (401 : Int32).toInt ∨ v.toInt = (402 : Int32).toInt ∨ v.toInt = (403 : Int32).toInt ∨ v.toInt = (404 : Int32).toInt ∨ v.toInt = (405 : Int32).toInt ∨ v.toInt = (406 : Int32).toInt ∨ v.toInt = (407 : Int32).toInt ∨ v.toInt = (408 : Int32).toInt ∨ v.toInt = (409 : Int32).toInt := by
        show v.toInt = 400 ∨ v.toInt = 401 ∨ v.toInt = 402 ∨ v.toInt = 403 ∨ v.toInt = 404 ∨ v.toInt = 405 ∨ v.toInt = 406 ∨ v.toInt = 407 ∨ v.toInt = 408 ∨ v.toInt = 409
        omega
      rcases hb with h | h | h | h | h | h | h | h | h | h <;> (have h' := Int32.toInt_inj.mp h; subst h'; decide)
theorem own_pn0 : plainName "com/example/noctule/noctule/cli/ExitCodes" = true := by first | (simp [plainName, overriddenIn]; done) | decide +kernel
theorem own_dprog_18_method_2_code_0 : decode prog_18_method_2_code 0 = .ok (.iload_n 0, 1) := by decide +kernel
theorem own_dprog_18_method_2_code_1 : decode prog_18_method_2_code 1 = .ok (.tableswitch 71 400 409 #[55, 59, 71, 59, 63, 71, 71, 71, 71, 67], 55) := by decide +kernel
theorem own_dprog_18_method_2_code_72 : decode prog_18_method_2_code 72 = .ok (.iconst 1, 1) := by decide +kernel
theorem own_dprog_18_method_2_code_73 : decode prog_18_method_2_code 73 = .ok (.ireturn, 1) := by decide +kernel
theorem own_dprog_18_method_2_code_56 : decode prog_18_method_2_code 56 = .ok (.iconst 2, 1) := by decide +kernel
theorem own_dprog_18_method_2_code_57 : decode prog_18_method_2_code 57 = .ok (.goto 16, 3) := by decide +kernel
theorem own_dprog_18_method_2_code_60 : decode prog_18_method_2_code 60 = .ok (.iconst 5, 1) := by decide +kernel
theorem own_dprog_18_method_2_code_61 : decode prog_18_method_2_code 61 = .ok (.goto 12, 3) := by decide +kernel
theorem own_dprog_18_method_2_code_64 : decode prog_18_method_2_code 64 = .ok (.iconst 4, 1) := by decide +kernel
theorem own_dprog_18_method_2_code_65 : decode prog_18_method_2_code 65 = .ok (.goto 8, 3) := by decide +kernel
theorem own_dprog_18_method_2_code_68 : decode prog_18_method_2_code 68 = .ok (.iconst 3, 1) := by decide +kernel
theorem own_dprog_18_method_2_code_69 : decode prog_18_method_2_code 69 = .ok (.goto 4, 3) := by decide +kernel
theorem own_b1_ef (m : MethodId) (q1 : Int32) : entryFrame m #[(.int q1)] 1 = mkF m 0 #[.val (.int q1)] [] := by first | (simp [entryFrame, mkF, argsToLocals, Value.category]; done) | rfl
def own_b1_Q (Z : State) (q1 : Int32) (h0 : Heap) (n0 : Nat) (v : Option Value) (h : Heap) (L : List Loc) : Prop := v = some (.int (own_http q1)) ∧ Fr n0 L ∧ h = h0
set_option maxRecDepth 65536 in
set_option maxHeartbeats 40000000 in
theorem own_b1 (l : Launch) (Z : State) (a0 : Array Value) (hw : ∀ d ∈ tables_1, d.before a0 Z = true) (ws : List Jvm.Cond) (q1 : Int32) (h0 : Heap) (n0 : Nat) (Z0 : n0 ≤ h0.size) :
    MetFree l (⟨"com/example/noctule/noctule/cli/ExitCodes", "forHttpStatus", "(I)I"⟩ : MethodName) (head1 (Jvm.Cond.code (⟨"com/example/noctule/noctule/cli/ExitCodes", "forHttpStatus", "(I)I"⟩ : MethodName) prog_18_method_2_code 1 (some .int) :: ws) ({ frames := 0, cells := 0, slots := 0, locals := 0 } : Room)) (fun aa U => aa = #[(.int q1)] ∧ Z.Warmed39 U.vm ∧ U.heap = h0) (fun _ _ _ _ _ => True) (fun _ U o U' => ∃ v L, o = .returned v ∧ own_b1_Q Z q1 h0 n0 v U'.heap L ∧ FrameEnd U o U' L ({ frames := 0, cells := 0, slots := 0, locals := 0 } : Room).cells ({ frames := 0, cells := 0, slots := 0, locals := 0 } : Room).slots) := by
  refine MetFree.of_bodySF (plainFor_of_name own_pn0) hisR ?_
  intro p e s m args below meth c s₁ Bd hml0 hP hK
  obtain ⟨rfl, hZ, hh⟩ := hP
  have hx := Bd.exec
  have hby := Bd.bytes
  have hlk := Bd.notSynchronized
  have hml : c.maxLocals = 1 := hml0
  have hown : s.vm.findClass "com/example/noctule/noctule/cli/ExitCodes" = some m.cls := findClass_of_methodNamed Bd.named
  have hnm := (name_of_methodNamed Bd.named Bd.method).1
  have X0 : Stand p l e ({ frames := 0, cells := 0, slots := 0, locals := 0 } : Room) s m #[(.int q1)] below meth c s₁ [] 0 0 := Stand.of_body Bd
  have e0 : s₁.heap = h0 := by rw [← hh, Bd.state]; rfl
  have N0 := Fr.nil n0
  have K0 : Keep h0 h0 [] := Keep.refl h0 _
  show own_Goes p e below (own_Fin s (own_b1_Q Z q1 h0 n0) ({ frames := 0, cells := 0, slots := 0, locals := 0 } : Room).cells ({ frames := 0, cells := 0, slots := 0, locals := 0 } : Room).slots) _
  refine own_step (fun t k => castTop (own_b1_ef m q1) k) ?_
  show own_Goes p e below _ (s₁.setTop (mkF m 0 #[.val (.int q1)] []))
  refine own_step (fun t k => XS.iloadN X0.here hx rfl (hb hby own_dprog_18_method_2_code_0) rfl k) ?_
  show own_Goes p e below _ (s₁.setTop (mkF m 1 #[.val (.int q1)] [(.int q1)]))
  by_cases hs2 : (q1).toInt < 400 ∨ (q1).toInt > 409
  · --
    refine own_step (fun t k => XS.tswOut X0.here hx rfl (pc0 := 1) (pc' := 72) rfl (hb hby own_dprog_18_method_2_code_1) rfl hs2 (by decide) (by decide) k) ?_
    show own_Goes p e below _ (s₁.setTop (mkF m 72 #[.val (.int q1)] []))
    refine own_step (fun t k => XS.iconst X0.here hx rfl (hb hby own_dprog_18_method_2_code_72) k) ?_
    show own_Goes p e below _ (s₁.setTop (mkF m 73 #[.val (.int q1)] [(.int (1 : Int32))]))
    refine own_retV X0 hx hlk Bd.returns (w := (.int (1 : Int32))) rfl (Or.inl ⟨rfl, Or.inl rfl, _, rfl⟩) (hb hby own_dprog_18_method_2_code_73) ?_ (by decide) (by decide)
    show own_b1_Q Z q1 h0 n0 _ s₁.heap _
    rw [e0]
    exact ⟨(by unfold own_http; (repeat' split) <;> first | rfl | (exfalso; omega)), N0, rfl⟩
  · --
    have hbhs2 : (q1).toInt = 400 ∨ (q1).toInt = 401 ∨ (q1).toInt = 402 ∨ (q1).toInt = 403 ∨ (q1).toInt = 404 ∨ (q1).toInt = 405 ∨ (q1).toInt = 406 ∨ (q1).toInt = 407 ∨ (q1).toInt = 408 ∨ (q1).toInt = 409 := by omega
    rcases hbhs2 with hqhs2 | hqhs2 | hqhs2 | hqhs2 | hqhs2 | hqhs2 | hqhs2 | hqhs2 | hqhs2 | hqhs2
    · --
      refine own_step (fun t k => XS.tswIn X0.here hx rfl (pc0 := 1) (pc' := 56) (o := 55) rfl (hb hby own_dprog_18_method_2_code_1) rfl hs2 (by rw [hqhs2]; rfl) (by decide) (by decide) k) ?_
      show own_Goes p e below _ (s₁.setTop (mkF m 56 #[.val (.int q1)] []))
      refine own_step (fun t k => XS.iconst X0.here hx rfl (hb hby own_dprog_18_method_2_code_56) k) ?_
      show own_Goes p e below _ (s₁.setTop (mkF m 57 #[.val (.int q1)] [(.int (2 : Int32))]))
      refine own_step (fun t k => XS.goto X0.here hx rfl (pc0 := 57) (pc' := 73) rfl (hb hby own_dprog_18_method_2_code_57) (by decide) (by decide) k) ?_
      show own_Goes p e below _ (s₁.setTop (mkF m 73 #[.val (.int q1)] [(.int (2 : Int32))]))
      refine own_retV X0 hx hlk Bd.returns (w := (.int (2 : Int32))) rfl (Or.inl ⟨rfl, Or.inl rfl, _, rfl⟩) (hb hby own_dprog_18_method_2_code_73) ?_ (by decide) (by decide)
      show own_b1_Q Z q1 h0 n0 _ s₁.heap _
      rw [e0]
      exact ⟨(by unfold own_http; (repeat' split) <;> first | rfl | (exfalso; omega)), N0, rfl⟩
    · --
      refine own_step (fun t k => XS.tswIn X0.here hx rfl (pc0 := 1) (pc' := 60) (o := 59) rfl (hb hby own_dprog_18_method_2_code_1) rfl hs2 (by rw [hqhs2]; rfl) (by decide) (by decide) k) ?_
      show own_Goes p e below _ (s₁.setTop (mkF m 60 #[.val (.int q1)] []))
      refine own_step (fun t k => XS.iconst X0.here hx rfl (hb hby own_dprog_18_method_2_code_60) k) ?_
      show own_Goes p e below _ (s₁.setTop (mkF m 61 #[.val (.int q1)] [(.int (5 : Int32))]))
      refine own_step (fun t k => XS.goto X0.here hx rfl (pc0 := 61) (pc' := 73) rfl (hb hby own_dprog_18_method_2_code_61) (by decide) (by decide) k) ?_
      show own_Goes p e below _ (s₁.setTop (mkF m 73 #[.val (.int q1)] [(.int (5 : Int32))]))
      refine own_retV X0 hx hlk Bd.returns (w := (.int (5 : Int32))) rfl (Or.inl ⟨rfl, Or.inl rfl, _, rfl⟩) (hb hby own_dprog_18_method_2_code_73) ?_ (by decide) (by decide)
      show own_b1_Q Z q1 h0 n0 _ s₁.heap _
      rw [e0]
      exact ⟨(by unfold own_http; (repeat' split) <;> first | rfl | (exfalso; omega)), N0, rfl⟩
    · --
      refine own_step (fun t k => XS.tswIn X0.here hx rfl (pc0 := 1) (pc' := 72) (o := 71) rfl (hb hby own_dprog_18_method_2_code_1) rfl hs2 (by rw [hqhs2]; rfl) (by decide) (by decide) k) ?_
      show own_Goes p e below _ (s₁.setTop (mkF m 72 #[.val (.int q1)] []))
      refine own_step (fun t k => XS.iconst X0.here hx rfl (hb hby own_dprog_18_method_2_code_72) k) ?_
      show own_Goes p e below _ (s₁.setTop (mkF m 73 #[.val (.int q1)] [(.int (1 : Int32))]))
      refine own_retV X0 hx hlk Bd.returns (w := (.int (1 : Int32))) rfl (Or.inl ⟨rfl, Or.inl rfl, _, rfl⟩) (hb hby own_dprog_18_method_2_code_73) ?_ (by decide) (by decide)
      show own_b1_Q Z q1 h0 n0 _ s₁.heap _
      rw [e0]
      exact ⟨(by unfold own_http; (repeat' split) <;> first | rfl | (exfalso; omega)), N0, rfl⟩
    · --
      refine own_step (fun t k => XS.tswIn X0.here hx rfl (pc0 := 1) (pc' := 60) (o := 59) rfl (hb hby own_dprog_18_method_2_code_1) rfl hs2 (by rw [hqhs2]; rfl) (by decide) (by decide) k) ?_
      show own_Goes p e below _ (s₁.setTop (mkF m 60 #[.val (.int q1)] []))
      refine own_step (fun t k => XS.iconst X0.here hx rfl (hb hby own_dprog_18_method_2_code_60) k) ?_
      show own_Goes p e below _ (s₁.setTop (mkF m 61 #[.val (.int q1)] [(.int (5 : Int32))]))
      refine own_step (fun t k => XS.goto X0.here hx rfl (pc0 := 61) (pc' := 73) rfl (hb hby own_dprog_18_method_2_code_61) (by decide) (by decide) k) ?_
      show own_Goes p e below _ (s₁.setTop (mkF m 73 #[.val (.int q1)] [(.int (5 : Int32))]))
      refine own_retV X0 hx hlk Bd.returns (w := (.int (5 : Int32))) rfl (Or.inl ⟨rfl, Or.inl rfl, _, rfl⟩) (hb hby own_dprog_18_method_2_code_73) ?_ (by decide) (by decide)
      show own_b1_Q Z q1 h0 n0 _ s₁.heap _
      rw [e0]
      exact ⟨(by unfold own_http; (repeat' split) <;> first | rfl | (exfalso; omega)), N0, rfl⟩
    · --
      refine own_step (fun t k => XS.tswIn X0.here hx rfl (pc0 := 1) (pc' := 64) (o := 63) rfl (hb hby own_dprog_18_method_2_code_1) rfl hs2 (by rw [hqhs2]; rfl) (by decide) (by decide) k) ?_
      show own_Goes p e below _ (s₁.setTop (mkF m 64 #[.val (.int q1)] []))
      refine own_step (fun t k => XS.iconst X0.here hx rfl (hb hby own_dprog_18_method_2_code_64) k) ?_
      show own_Goes p e below _ (s₁.setTop (mkF m 65 #[.val (.int q1)] [(.int (4 : Int32))]))
      refine own_step (fun t k => XS.goto X0.here hx rfl (pc0 := 65) (pc' := 73) rfl (hb hby own_dprog_18_method_2_code_65) (by decide) (by decide) k) ?_
      show own_Goes p e below _ (s₁.setTop (mkF m 73 #[.val (.int q1)] [(.int (4 : Int32))]))
      refine own_retV X0 hx hlk Bd.returns (w := (.int (4 : Int32))) rfl (Or.inl ⟨rfl, Or.inl rfl, _, rfl⟩) (hb hby own_dprog_18_method_2_code_73) ?_ (by decide) (by decide)
      show own_b1_Q Z q1 h0 n0 _ s₁.heap _
      rw [e0]
      exact ⟨(by unfold own_http; (repeat' split) <;> first | rfl | (exfalso; omega)), N0, rfl⟩
    · --
      refine own_step (fun t k => XS.tswIn X0.here hx rfl (pc0 := 1) (pc' := 72) (o := 71) rfl (hb hby own_dprog_18_method_2_code_1) rfl hs2 (by rw [hqhs2]; rfl) (by decide) (by decide) k) ?_
      show own_Goes p e below _ (s₁.setTop (mkF m 72 #[.val (.int q1)] []))
      refine own_step (fun t k => XS.iconst X0.here hx rfl (hb hby own_dprog_18_method_2_code_72) k) ?_
      show own_Goes p e below _ (s₁.setTop (mkF m 73 #[.val (.int q1)] [(.int (1 : Int32))]))
      refine own_retV X0 hx hlk Bd.returns (w := (.int (1 : Int32))) rfl (Or.inl ⟨rfl, Or.inl rfl, _, rfl⟩) (hb hby own_dprog_18_method_2_code_73) ?_ (by decide) (by decide)
      show own_b1_Q Z q1 h0 n0 _ s₁.heap _
      rw [e0]
      exact ⟨(by unfold own_http; (repeat' split) <;> first | rfl | (exfalso; omega)), N0, rfl⟩
    · --
      refine own_step (fun t k => XS.tswIn X0.here hx rfl (pc0 := 1) (pc' := 72) (o := 71) rfl (hb hby own_dprog_18_method_2_code_1) rfl hs2 (by rw [hqhs2]; rfl) (by decide) (by decide) k) ?_
      show own_Goes p e below _ (s₁.setTop (mkF m 72 #[.val (.int q1)] []))
      refine own_step (fun t k => XS.iconst X0.here hx rfl (hb hby own_dprog_18_method_2_code_72) k) ?_
      show own_Goes p e below _ (s₁.setTop (mkF m 73 #[.val (.int q1)] [(.int (1 : Int32))]))
      refine own_retV X0 hx hlk Bd.returns (w := (.int (1 : Int32))) rfl (Or.inl ⟨rfl, Or.inl rfl, _, rfl⟩) (hb hby own_dprog_18_method_2_code_73) ?_ (by decide) (by decide)
      show own_b1_Q Z q1 h0 n0 _ s₁.heap _
      rw [e0]
      exact ⟨(by unfold own_http; (repeat' split) <;> first | rfl | (exfalso; omega)), N0, rfl⟩
    · --
      refine own_step (fun t k => XS.tswIn X0.here hx rfl (pc0 := 1) (pc' := 72) (o := 71) rfl (hb hby own_dprog_18_method_2_code_1) rfl hs2 (by rw [hqhs2]; rfl) (by decide) (by decide) k) ?_
      show own_Goes p e below _ (s₁.setTop (mkF m 72 #[.val (.int q1)] []))
      refine own_step (fun t k => XS.iconst X0.here hx rfl (hb hby own_dprog_18_method_2_code_72) k) ?_
      show own_Goes p e below _ (s₁.setTop (mkF m 73 #[.val (.int q1)] [(.int (1 : Int32))]))
      refine own_retV X0 hx hlk Bd.returns (w := (.int (1 : Int32))) rfl (Or.inl ⟨rfl, Or.inl rfl, _, rfl⟩) (hb hby own_dprog_18_method_2_code_73) ?_ (by decide) (by decide)
      show own_b1_Q Z q1 h0 n0 _ s₁.heap _
      rw [e0]
      exact ⟨(by unfold own_http; (repeat' split) <;> first | rfl | (exfalso; omega)), N0, rfl⟩
    · --
      refine own_step (fun t k => XS.tswIn X0.here hx rfl (pc0 := 1) (pc' := 72) (o := 71) rfl (hb hby own_dprog_18_method_2_code_1) rfl hs2 (by rw [hqhs2]; rfl) (by decide) (by decide) k) ?_
      show own_Goes p e below _ (s₁.setTop (mkF m 72 #[.val (.int q1)] []))
      refine own_step (fun t k => XS.iconst X0.here hx rfl (hb hby own_dprog_18_method_2_code_72) k) ?_
      show own_Goes p e below _ (s₁.setTop (mkF m 73 #[.val (.int q1)] [(.int (1 : Int32))]))
      refine own_retV X0 hx hlk Bd.returns (w := (.int (1 : Int32))) rfl (Or.inl ⟨rfl, Or.inl rfl, _, rfl⟩) (hb hby own_dprog_18_method_2_code_73) ?_ (by decide) (by decide)
      show own_b1_Q Z q1 h0 n0 _ s₁.heap _
      rw [e0]
      exact ⟨(by unfold own_http; (repeat' split) <;> first | rfl | (exfalso; omega)), N0, rfl⟩
    · --
      refine own_step (fun t k => XS.tswIn X0.here hx rfl (pc0 := 1) (pc' := 68) (o := 67) rfl (hb hby own_dprog_18_method_2_code_1) rfl hs2 (by rw [hqhs2]; rfl) (by decide) (by decide) k) ?_
      show own_Goes p e below _ (s₁.setTop (mkF m 68 #[.val (.int q1)] []))
      refine own_step (fun t k => XS.iconst X0.here hx rfl (hb hby own_dprog_18_method_2_code_68) k) ?_
      show own_Goes p e below _ (s₁.setTop (mkF m 69 #[.val (.int q1)] [(.int (3 : Int32))]))
      refine own_step (fun t k => XS.goto X0.here hx rfl (pc0 := 69) (pc' := 73) rfl (hb hby own_dprog_18_method_2_code_69) (by decide) (by decide) k) ?_
      show own_Goes p e below _ (s₁.setTop (mkF m 73 #[.val (.int q1)] [(.int (3 : Int32))]))
      refine own_retV X0 hx hlk Bd.returns (w := (.int (3 : Int32))) rfl (Or.inl ⟨rfl, Or.inl rfl, _, rfl⟩) (hb hby own_dprog_18_method_2_code_73) ?_ (by decide) (by decide)
      show own_b1_Q Z q1 h0 n0 _ s₁.heap _
      rw [e0]
      exact ⟨(by unfold own_http; (repeat' split) <;> first | rfl | (exfalso; omega)), N0, rfl⟩
theorem own_pn1 : plainName "com/example/noctule/noctule/cli/ExitCodesForHttpStatusPinLaw" = true := by first | (simp [plainName, overriddenIn]; done) | decide +kernel
theorem own_pd0 : parseMethodDescriptor "(I)I" = some ⟨[.int], some .int⟩ := by decide +kernel
theorem own_law_ef (m : MethodId) (p1 : Int32) (p2 : Int32) : entryFrame m #[(.int p1), (.int p2)] maxLocals = mkF m 0 #[.val (.int p1), .val (.int p2), .unset, .unset, .unset] [] := by first | (simp [entryFrame, mkF, argsToLocals, Value.category, maxLocals]; done) | rfl
set_option maxRecDepth 65536 in
set_option maxHeartbeats 40000000 in
theorem own_law (l : Launch) (Z : State) (a0 : Array Value) (hw : ∀ d ∈ tables_1, d.before a0 Z = true) (ws : List Jvm.Cond) (p1 : Int32) (p2 : Int32) (h0 : Heap) (n0 : Nat) (Z0 : n0 ≤ h0.size) :
    MetFree l x (head1 (Jvm.Cond.code x code maxLocals ret :: ws) room_1) (fun aa U => aa = #[(.int p1), (.int p2)] ∧ Z.Warmed39 U.vm ∧ U.heap = h0) (fun _ _ _ _ _ => True) (fun _ U o U' => ∃ v L, o = .returned v ∧ own_Q0 n0 v U'.heap L ∧ FrameEnd U o U' L 16 128) := by
  refine MetFree.of_bodySF (plainFor_of_name own_pn1) hisR ?_
  have w0 := hw _ (List.mem_of_getElem? (i := 0) rfl)
  have w1 := hw _ (List.mem_of_getElem? (i := 1) rfl)
  have w2 := hw _ (List.mem_of_getElem? (i := 2) rfl)
  have w3 := hw _ (List.mem_of_getElem? (i := 3) rfl)
  have w4 := hw _ (List.mem_of_getElem? (i := 4) rfl)
  intro p e s m args below meth c s₁ Bd hml0 hP hK
  obtain ⟨rfl, hZ, hh⟩ := hP
  have hx := Bd.exec
  have hby := Bd.bytes
  have hlk := Bd.notSynchronized
  have hml : c.maxLocals = 5 := hml0
  have hown : s.vm.findClass "com/example/noctule/noctule/cli/ExitCodesForHttpStatusPinLaw" = some m.cls := findClass_of_methodNamed Bd.named
  have hnm := (name_of_methodNamed Bd.named Bd.method).1
  have X0 : Stand p l e room_1 s m #[(.int p1), (.int p2)] below meth c s₁ [] 0 0 := Stand.of_body Bd
  have e0 : s₁.heap = h0 := by rw [← hh, Bd.state]; rfl
  have N0 := Fr.nil n0
  have K0 : Keep h0 h0 [] := Keep.refl h0 _
  show own_Goes p e below (own_Fin s (own_Q0 n0) 16 128) _
  refine own_step (fun t k => castTop (own_law_ef m p1 p2) k) ?_
  show own_Goes p e below _ (s₁.setTop (mkF m 0 #[.val (.int p1), .val (.int p2), .unset, .unset, .unset] []))
  refine own_step (fun t k => XS.iloadN X0.here hx rfl (hb hby at_0) rfl k) ?_
  show own_Goes p e below _ (s₁.setTop (mkF m 1 #[.val (.int p1), .val (.int p2), .unset, .unset, .unset] [(.int p2)]))
  refine own_step (fun t k => XS.iconst X0.here hx rfl (hb hby at_1) k) ?_
  show own_Goes p e below _ (s₁.setTop (mkF m 2 #[.val (.int p1), .val (.int p2), .unset, .unset, .unset] [(.int (1 : Int32)), (.int p2)]))
  refine own_step (fun t k => XS.iand X0.here hx rfl (hb hby at_2) rfl k) ?_
  show own_Goes p e below _ (s₁.setTop (mkF m 3 #[.val (.int p1), .val (.int p2), .unset, .unset, .unset] [(.int (p2 &&& (1 : Int32)))]))
  refine own_step (S' := s₁.setTop (mkF m 22 #[.val (.int p1), .val (.int p2), .val (.int (if (p2 &&& (1 : Int32)) = (0 : Int32) then p1 else ((396 : Int32) + (((p2.toUInt32 >>> ((1 : Int32) &&& 31).toUInt32).toInt32) &&& (31 : Int32))))), .unset, .unset] [])) (fun t k => ?_) ?_
  · show Steps p.tables e below (s₁.setTop (mkF m 3 #[.val (.int p1), .val (.int p2), .unset, .unset, .unset] [(.int (p2 &&& (1 : Int32)))])) _
    by_cases hc3 : (p2 &&& (1 : Int32)) = (0 : Int32)
    · --
      refine XS.ifNo X0.here hx rfl (hb hby at_3) rfl ((if0 _ _).trans (teq hc3).2) ?_
      show Steps p.tables e below (s₁.setTop (mkF m 6 #[.val (.int p1), .val (.int p2), .unset, .unset, .unset] [])) _
      refine XS.iloadN X0.here hx rfl (hb hby at_6) rfl ?_
      show Steps p.tables e below (s₁.setTop (mkF m 7 #[.val (.int p1), .val (.int p2), .unset, .unset, .unset] [(.int p1)])) _
      refine XS.istoreN X0.here hx rfl (hb hby at_7) rfl (l' := #[.val (.int p1), .val (.int p2), .val (.int p1), .unset, .unset]) rfl ?_
      show Steps p.tables e below (s₁.setTop (mkF m 8 #[.val (.int p1), .val (.int p2), .val (.int p1), .unset, .unset] [])) _
      refine XS.goto X0.here hx rfl (pc0 := 8) (pc' := 22) rfl (hb hby at_8) (by decide) (by decide) ?_
      show Steps p.tables e below (s₁.setTop (mkF m 22 #[.val (.int p1), .val (.int p2), .val (.int p1), .unset, .unset] [])) _
      simp only [if_pos hc3] at k
      exact k
    · --
      refine XS.ifYes X0.here hx rfl (pc0 := 3) (pc' := 11) rfl (hb hby at_3) rfl ((if0 _ _).trans (feq hc3).2) (by decide) (by decide) ?_
      show Steps p.tables e below (s₁.setTop (mkF m 11 #[.val (.int p1), .val (.int p2), .unset, .unset, .unset] [])) _
      refine XS.sipush X0.here hx rfl (hb hby at_11) ?_
      show Steps p.tables e below (s₁.setTop (mkF m 14 #[.val (.int p1), .val (.int p2), .unset, .unset, .unset] [(.int (396 : Int32))])) _
      refine XS.iloadN X0.here hx rfl (hb hby at_14) rfl ?_
      show Steps p.tables e below (s₁.setTop (mkF m 15 #[.val (.int p1), .val (.int p2), .unset, .unset, .unset] [(.int p2), (.int (396 : Int32))])) _
      refine XS.iconst X0.here hx rfl (hb hby at_15) ?_
      show Steps p.tables e below (s₁.setTop (mkF m 16 #[.val (.int p1), .val (.int p2), .unset, .unset, .unset] [(.int (1 : Int32)), (.int p2), (.int (396 : Int32))])) _
      refine XS.iushr X0.here hx rfl (hb hby at_16) rfl ?_
      show Steps p.tables e below (s₁.setTop (mkF m 17 #[.val (.int p1), .val (.int p2), .unset, .unset, .unset] [(.int ((p2.toUInt32 >>> ((1 : Int32) &&& 31).toUInt32).toInt32)), (.int (396 : Int32))])) _
      refine XS.bipush X0.here hx rfl (hb hby at_17) ?_
      show Steps p.tables e below (s₁.setTop (mkF m 19 #[.val (.int p1), .val (.int p2), .unset, .unset, .unset] [(.int (31 : Int32)), (.int ((p2.toUInt32 >>> ((1 : Int32) &&& 31).toUInt32).toInt32)), (.int (396 : Int32))])) _
      refine XS.iand X0.here hx rfl (hb hby at_19) rfl ?_
      show Steps p.tables e below (s₁.setTop (mkF m 20 #[.val (.int p1), .val (.int p2), .unset, .unset, .unset] [(.int (((p2.toUInt32 >>> ((1 : Int32) &&& 31).toUInt32).toInt32) &&& (31 : Int32))), (.int (396 : Int32))])) _
      refine XS.iadd X0.here hx rfl (hb hby at_20) rfl ?_
      show Steps p.tables e below (s₁.setTop (mkF m 21 #[.val (.int p1), .val (.int p2), .unset, .unset, .unset] [(.int ((396 : Int32) + (((p2.toUInt32 >>> ((1 : Int32) &&& 31).toUInt32).toInt32) &&& (31 : Int32))))])) _
      refine XS.istoreN X0.here hx rfl (hb hby at_21) rfl (l' := #[.val (.int p1), .val (.int p2), .val (.int ((396 : Int32) + (((p2.toUInt32 >>> ((1 : Int32) &&& 31).toUInt32).toInt32) &&& (31 : Int32)))), .unset, .unset]) rfl ?_
      show Steps p.tables e below (s₁.setTop (mkF m 22 #[.val (.int p1), .val (.int p2), .val (.int ((396 : Int32) + (((p2.toUInt32 >>> ((1 : Int32) &&& 31).toUInt32).toInt32) &&& (31 : Int32)))), .unset, .unset] [])) _
      simp only [if_neg hc3] at k
      exact k
  show own_Goes p e below _ (s₁.setTop (mkF m 22 #[.val (.int p1), .val (.int p2), .val (.int (if (p2 &&& (1 : Int32)) = (0 : Int32) then p1 else ((396 : Int32) + (((p2.toUInt32 >>> ((1 : Int32) &&& 31).toUInt32).toInt32) &&& (31 : Int32))))), .unset, .unset] []))
  generalize hv_vst : (if (p2 &&& (1 : Int32)) = (0 : Int32) then p1 else ((396 : Int32) + (((p2.toUInt32 >>> ((1 : Int32) &&& 31).toUInt32).toInt32) &&& (31 : Int32)))) = vst
  refine own_step (fun t k => XS.iloadN X0.here hx rfl (hb hby at_22) rfl k) ?_
  show own_Goes p e below _ (s₁.setTop (mkF m 23 #[.val (.int p1), .val (.int p2), .val (.int vst), .unset, .unset] [(.int vst)]))
  refine own_step (fun t k => XS.sipush X0.here hx rfl (hb hby at_23) k) ?_
  show own_Goes p e below _ (s₁.setTop (mkF m 26 #[.val (.int p1), .val (.int p2), .val (.int vst), .unset, .unset] [(.int (200 : Int32)), (.int vst)]))
  by_cases hc4 : vst < (200 : Int32)
  · --
    refine own_step (fun t k => XS.icmpYes X0.here hx rfl (pc0 := 26) (pc' := 38) rfl (hb hby at_26) rfl (tlt hc4).1 (by decide) (by decide) k) ?_
    show own_Goes p e below _ (s₁.setTop (mkF m 38 #[.val (.int p1), .val (.int p2), .val (.int vst), .unset, .unset] []))
    refine own_step (fun t k => XS.bipush X0.here hx rfl (hb hby at_38) k) ?_
    show own_Goes p e below _ (s₁.setTop (mkF m 40 #[.val (.int p1), .val (.int p2), .val (.int vst), .unset, .unset] [(.int (10 : Int32))]))
    obtain ⟨T5, h5, k5, X5, e5, E5, A5, st5⟩ := newP (aty := .int) X0 hx hZ w0 e0 (g := (mkF m 40 #[.val (.int p1), .val (.int p2), .val (.int vst), .unset, .unset] [(.int (10 : Int32))])) rfl (hb hby at_40) rfl (by decide) (cap := 10) (by decide) (by decide) (by decide) (by decide)
    obtain ⟨b5, g5⟩ : ∃ z, z = h0.size := ⟨_, rfl⟩
    rw [← g5] at A5 st5
    have g_b5 : n0 ≤ b5 := Nat.le_trans Z0 (Nat.le_of_eq g5.symm)
    have sz_b5 : h0.size ≤ b5 := Nat.le_trans K0.1 (Nat.le_of_eq g5.symm)
    have V5 : Arv Z h5 b5 k5 .int (10 : Int32) (([(0 : Int32), (0 : Int32), (0 : Int32), (0 : Int32), (0 : Int32), (0 : Int32), (0 : Int32), (0 : Int32), (0 : Int32), (0 : Int32)] : List Int32).map Value.int) (Value.int (0 : Int32)) := own_newI A5 (by decide) 10
    have K6 : Keep h0 h5 [] := K0.ext E5
    refine own_step st5 ?_
    show own_Goes p e below _ (T5.setTop (mkF m 42 #[.val (.int p1), .val (.int p2), .val (.int vst), .unset, .unset] [(.ref b5)]))
    refine own_step (fun t k => XS.dup X5.here hx rfl (hb hby at_42) rfl rfl k) ?_
    show own_Goes p e below _ (T5.setTop (mkF m 43 #[.val (.int p1), .val (.int p2), .val (.int vst), .unset, .unset] [(.ref b5), (.ref b5)]))
    refine own_step (fun t k => XS.iconst X5.here hx rfl (hb hby at_43) k) ?_
    show own_Goes p e below _ (T5.setTop (mkF m 44 #[.val (.int p1), .val (.int p2), .val (.int vst), .unset, .unset] [(.int (0 : Int32)), (.ref b5), (.ref b5)]))
    refine own_step (fun t k => XS.iconst X5.here hx rfl (hb hby at_44) k) ?_
    show own_Goes p e below _ (T5.setTop (mkF m 45 #[.val (.int p1), .val (.int p2), .val (.int vst), .unset, .unset] [(.int (2 : Int32)), (.int (0 : Int32)), (.ref b5), (.ref b5)]))
    obtain ⟨T7, h7, X7, e7, W7, V7, st7⟩ := own_ist X5 hx hZ e5 V5 (j := (0 : Int32)) ⟨by decide, by decide⟩ (0) rfl (Nat.le_of_ble_eq_true rfl) (g := (mkF m 45 #[.val (.int p1), .val (.int p2), .val (.int vst), .unset, .unset] [(.int (2 : Int32)), (.int (0 : Int32)), (.ref b5), (.ref b5)])) rfl rfl (hb hby at_45)
    have V7 : Arv Z h7 b5 k5 .int (10 : Int32) (([(2 : Int32), (0 : Int32), (0 : Int32), (0 : Int32), (0 : Int32), (0 : Int32), (0 : Int32), (0 : Int32), (0 : Int32), (0 : Int32)] : List Int32).map Value.int) (Value.int 0) := V7
    have N7 := Fr.snoc X7 N0 g_b5
    have K8 : Keep h0 h7 [] := K6.wr W7 (Or.inr sz_b5)
    refine own_step st7 ?_
    show own_Goes p e below _ (T7.setTop (mkF m 46 #[.val (.int p1), .val (.int p2), .val (.int vst), .unset, .unset] [(.ref b5)]))
    refine own_step (fun t k => XS.dup X7.here hx rfl (hb hby at_46) rfl rfl k) ?_
    show own_Goes p e below _ (T7.setTop (mkF m 47 #[.val (.int p1), .val (.int p2), .val (.int vst), .unset, .unset] [(.ref b5), (.ref b5)]))
    refine own_step (fun t k => XS.iconst X7.here hx rfl (hb hby at_47) k) ?_
    show own_Goes p e below _ (T7.setTop (mkF m 48 #[.val (.int p1), .val (.int p2), .val (.int vst), .unset, .unset] [(.int (1 : Int32)), (.ref b5), (.ref b5)]))
    refine own_step (fun t k => XS.iconst X7.here hx rfl (hb hby at_48) k) ?_
    show own_Goes p e below _ (T7.setTop (mkF m 49 #[.val (.int p1), .val (.int p2), .val (.int vst), .unset, .unset] [(.int (5 : Int32)), (.int (1 : Int32)), (.ref b5), (.ref b5)]))
    obtain ⟨T9, h9, X9, e9, W9, V9, st9⟩ := own_ist X7 hx hZ e7 V7 (j := (1 : Int32)) ⟨by decide, by decide⟩ (1) rfl (Nat.le_of_ble_eq_true rfl) (g := (mkF m 49 #[.val (.int p1), .val (.int p2), .val (.int vst), .unset, .unset] [(.int (5 : Int32)), (.int (1 : Int32)), (.ref b5), (.ref b5)])) rfl rfl (hb hby at_49)
    have V9 : Arv Z h9 b5 k5 .int (10 : Int32) (([(2 : Int32), (5 : Int32), (0 : Int32), (0 : Int32), (0 : Int32), (0 : Int32), (0 : Int32), (0 : Int32), (0 : Int32), (0 : Int32)] : List Int32).map Value.int) (Value.int 0) := V9
    have N9 := Fr.snoc X9 N7 g_b5
    have K10 : Keep h0 h9 [] := K8.wr W9 (Or.inr sz_b5)
    refine own_step st9 ?_
    show own_Goes p e below _ (T9.setTop (mkF m 50 #[.val (.int p1), .val (.int p2), .val (.int vst), .unset, .unset] [(.ref b5)]))
    refine own_step (fun t k => XS.dup X9.here hx rfl (hb hby at_50) rfl rfl k) ?_
    show own_Goes p e below _ (T9.setTop (mkF m 51 #[.val (.int p1), .val (.int p2), .val (.int vst), .unset, .unset] [(.ref b5), (.ref b5)]))
    refine own_step (fun t k => XS.iconst X9.here hx rfl (hb hby at_51) k) ?_
    show own_Goes p e below _ (T9.setTop (mkF m 52 #[.val (.int p1), .val (.int p2), .val (.int vst), .unset, .unset] [(.int (2 : Int32)), (.ref b5), (.ref b5)]))
    refine own_step (fun t k => XS.iconst X9.here hx rfl (hb hby at_52) k) ?_
    show own_Goes p e below _ (T9.setTop (mkF m 53 #[.val (.int p1), .val (.int p2), .val (.int vst), .unset, .unset] [(.int (1 : Int32)), (.int (2 : Int32)), (.ref b5), (.ref b5)]))
    obtain ⟨T11, h11, X11, e11, W11, V11, st11⟩ := own_ist X9 hx hZ e9 V9 (j := (2 : Int32)) ⟨by decide, by decide⟩ (2) rfl (Nat.le_of_ble_eq_true rfl) (g := (mkF m 53 #[.val (.int p1), .val (.int p2), .val (.int vst), .unset, .unset] [(.int (1 : Int32)), (.int (2 : Int32)), (.ref b5), (.ref b5)])) rfl rfl (hb hby at_53)
    have V11 : Arv Z h11 b5 k5 .int (10 : Int32) (([(2 : Int32), (5 : Int32), (1 : Int32), (0 : Int32), (0 : Int32), (0 : Int32), (0 : Int32), (0 : Int32), (0 : Int32), (0 : Int32)] : List Int32).map Value.int) (Value.int 0) := V11
    have N11 := Fr.snoc X11 N9 g_b5
    have K12 : Keep h0 h11 [] := K10.wr W11 (Or.inr sz_b5)
    refine own_step st11 ?_
    show own_Goes p e below _ (T11.setTop (mkF m 54 #[.val (.int p1), .val (.int p2), .val (.int vst), .unset, .unset] [(.ref b5)]))
    refine own_step (fun t k => XS.dup X11.here hx rfl (hb hby at_54) rfl rfl k) ?_
    show own_Goes p e below _ (T11.setTop (mkF m 55 #[.val (.int p1), .val (.int p2), .val (.int vst), .unset, .unset] [(.ref b5), (.ref b5)]))
    refine own_step (fun t k => XS.iconst X11.here hx rfl (hb hby at_55) k) ?_
    show own_Goes p e below _ (T11.setTop (mkF m 56 #[.val (.int p1), .val (.int p2), .val (.int vst), .unset, .unset] [(.int (3 : Int32)), (.ref b5), (.ref b5)]))
    refine own_step (fun t k => XS.iconst X11.here hx rfl (hb hby at_56) k) ?_
    show own_Goes p e below _ (T11.setTop (mkF m 57 #[.val (.int p1), .val (.int p2), .val (.int vst), .unset, .unset] [(.int (5 : Int32)), (.int (3 : Int32)), (.ref b5), (.ref b5)]))
    obtain ⟨T13, h13, X13, e13, W13, V13, st13⟩ := own_ist X11 hx hZ e11 V11 (j := (3 : Int32)) ⟨by decide, by decide⟩ (3) rfl (Nat.le_of_ble_eq_true rfl) (g := (mkF m 57 #[.val (.int p1), .val (.int p2), .val (.int vst), .unset, .unset] [(.int (5 : Int32)), (.int (3 : Int32)), (.ref b5), (.ref b5)])) rfl rfl (hb hby at_57)
    have V13 : Arv Z h13 b5 k5 .int (10 : Int32) (([(2 : Int32), (5 : Int32), (1 : Int32), (5 : Int32), (0 : Int32), (0 : Int32), (0 : Int32), (0 : Int32), (0 : Int32), (0 : Int32)] : List Int32).map Value.int) (Value.int 0) := V13
    have N13 := Fr.snoc X13 N11 g_b5
    have K14 : Keep h0 h13 [] := K12.wr W13 (Or.inr sz_b5)
    refine own_step st13 ?_
    show own_Goes p e below _ (T13.setTop (mkF m 58 #[.val (.int p1), .val (.int p2), .val (.int vst), .unset, .unset] [(.ref b5)]))
    refine own_step (fun t k => XS.dup X13.here hx rfl (hb hby at_58) rfl rfl k) ?_
    show own_Goes p e below _ (T13.setTop (mkF m 59 #[.val (.int p1), .val (.int p2), .val (.int vst), .unset, .unset] [(.ref b5), (.ref b5)]))
    refine own_step (fun t k => XS.iconst X13.here hx rfl (hb hby at_59) k) ?_
    show own_Goes p e below _ (T13.setTop (mkF m 60 #[.val (.int p1), .val (.int p2), .val (.int vst), .unset, .unset] [(.int (4 : Int32)), (.ref b5), (.ref b5)]))
    refine own_step (fun t k => XS.iconst X13.here hx rfl (hb hby at_60) k) ?_
    show own_Goes p e below _ (T13.setTop (mkF m 61 #[.val (.int p1), .val (.int p2), .val (.int vst), .unset, .unset] [(.int (4 : Int32)), (.int (4 : Int32)), (.ref b5), (.ref b5)]))
    obtain ⟨T15, h15, X15, e15, W15, V15, st15⟩ := own_ist X13 hx hZ e13 V13 (j := (4 : Int32)) ⟨by decide, by decide⟩ (4) rfl (Nat.le_of_ble_eq_true rfl) (g := (mkF m 61 #[.val (.int p1), .val (.int p2), .val (.int vst), .unset, .unset] [(.int (4 : Int32)), (.int (4 : Int32)), (.ref b5), (.ref b5)])) rfl rfl (hb hby at_61)
    have V15 : Arv Z h15 b5 k5 .int (10 : Int32) (([(2 : Int32), (5 : Int32), (1 : Int32), (5 : Int32), (4 : Int32), (0 : Int32), (0 : Int32), (0 : Int32), (0 : Int32), (0 : Int32)] : List Int32).map Value.int) (Value.int 0) := V15
    have N15 := Fr.snoc X15 N13 g_b5
    have K16 : Keep h0 h15 [] := K14.wr W15 (Or.inr sz_b5)
    refine own_step st15 ?_
    show own_Goes p e below _ (T15.setTop (mkF m 62 #[.val (.int p1), .val (.int p2), .val (.int vst), .unset, .unset] [(.ref b5)]))
    refine own_step (fun t k => XS.dup X15.here hx rfl (hb hby at_62) rfl rfl k) ?_
    show own_Goes p e below _ (T15.setTop (mkF m 63 #[.val (.int p1), .val (.int p2), .val (.int vst), .unset, .unset] [(.ref b5), (.ref b5)]))
    refine own_step (fun t k => XS.iconst X15.here hx rfl (hb hby at_63) k) ?_
    show own_Goes p e below _ (T15.setTop (mkF m 64 #[.val (.int p1), .val (.int p2), .val (.int vst), .unset, .unset] [(.int (5 : Int32)), (.ref b5), (.ref b5)]))
    refine own_step (fun t k => XS.iconst X15.here hx rfl (hb hby at_64) k) ?_
    show own_Goes p e below _ (T15.setTop (mkF m 65 #[.val (.int p1), .val (.int p2), .val (.int vst), .unset, .unset] [(.int (1 : Int32)), (.int (5 : Int32)), (.ref b5), (.ref b5)]))
    obtain ⟨T17, h17, X17, e17, W17, V17, st17⟩ := own_ist X15 hx hZ e15 V15 (j := (5 : Int32)) ⟨by decide, by decide⟩ (5) rfl (Nat.le_of_ble_eq_true rfl) (g := (mkF m 65 #[.val (.int p1), .val (.int p2), .val (.int vst), .unset, .unset] [(.int (1 : Int32)), (.int (5 : Int32)), (.ref b5), (.ref b5)])) rfl rfl (hb hby at_65)
    have V17 : Arv Z h17 b5 k5 .int (10 : Int32) (([(2 : Int32), (5 : Int32), (1 : Int32), (5 : Int32), (4 : Int32), (1 : Int32), (0 : Int32), (0 : Int32), (0 : Int32), (0 : Int32)] : List Int32).map Value.int) (Value.int 0) := V17
    have N17 := Fr.snoc X17 N15 g_b5
    have K18 : Keep h0 h17 [] := K16.wr W17 (Or.inr sz_b5)
    refine own_step st17 ?_
    show own_Goes p e below _ (T17.setTop (mkF m 66 #[.val (.int p1), .val (.int p2), .val (.int vst), .unset, .unset] [(.ref b5)]))
    refine own_step (fun t k => XS.dup X17.here hx rfl (hb hby at_66) rfl rfl k) ?_
    show own_Goes p e below _ (T17.setTop (mkF m 67 #[.val (.int p1), .val (.int p2), .val (.int vst), .unset, .unset] [(.ref b5), (.ref b5)]))
    refine own_step (fun t k => XS.bipush X17.here hx rfl (hb hby at_67) k) ?_
    show own_Goes p e below _ (T17.setTop (mkF m 69 #[.val (.int p1), .val (.int p2), .val (.int vst), .unset, .unset] [(.int (6 : Int32)), (.ref b5), (.ref b5)]))
    refine own_step (fun t k => XS.iconst X17.here hx rfl (hb hby at_69) k) ?_
    show own_Goes p e below _ (T17.setTop (mkF m 70 #[.val (.int p1), .val (.int p2), .val (.int vst), .unset, .unset] [(.int (1 : Int32)), (.int (6 : Int32)), (.ref b5), (.ref b5)]))
    obtain ⟨T19, h19, X19, e19, W19, V19, st19⟩ := own_ist X17 hx hZ e17 V17 (j := (6 : Int32)) ⟨by decide, by decide⟩ (6) rfl (Nat.le_of_ble_eq_true rfl) (g := (mkF m 70 #[.val (.int p1), .val (.int p2), .val (.int vst), .unset, .unset] [(.int (1 : Int32)), (.int (6 : Int32)), (.ref b5), (.ref b5)])) rfl rfl (hb hby at_70)
    have V19 : Arv Z h19 b5 k5 .int (10 : Int32) (([(2 : Int32), (5 : Int32), (1 : Int32), (5 : Int32), (4 : Int32), (1 : Int32), (1 : Int32), (0 : Int32), (0 : Int32), (0 : Int32)] : List Int32).map Value.int) (Value.int 0) := V19
    have N19 := Fr.snoc X19 N17 g_b5
    have K20 : Keep h0 h19 [] := K18.wr W19 (Or.inr sz_b5)
    refine own_step st19 ?_
    show own_Goes p e below _ (T19.setTop (mkF m 71 #[.val (.int p1), .val (.int p2), .val (.int vst), .unset, .unset] [(.ref b5)]))
    refine own_step (fun t k => XS.dup X19.here hx rfl (hb hby at_71) rfl rfl k) ?_
    show own_Goes p e below _ (T19.setTop (mkF m 72 #[.val (.int p1), .val (.int p2), .val (.int vst), .unset, .unset] [(.ref b5), (.ref b5)]))
    refine own_step (fun t k => XS.bipush X19.here hx rfl (hb hby at_72) k) ?_
    show own_Goes p e below _ (T19.setTop (mkF m 74 #[.val (.int p1), .val (.int p2), .val (.int vst), .unset, .unset] [(.int (7 : Int32)), (.ref b5), (.ref b5)]))
    refine own_step (fun t k => XS.iconst X19.here hx rfl (hb hby at_74) k) ?_
    show own_Goes p e below _ (T19.setTop (mkF m 75 #[.val (.int p1), .val (.int p2), .val (.int vst), .unset, .unset] [(.int (1 : Int32)), (.int (7 : Int32)), (.ref b5), (.ref b5)]))
    obtain ⟨T21, h21, X21, e21, W21, V21, st21⟩ := own_ist X19 hx hZ e19 V19 (j := (7 : Int32)) ⟨by decide, by decide⟩ (7) rfl (Nat.le_of_ble_eq_true rfl) (g := (mkF m 75 #[.val (.int p1), .val (.int p2), .val (.int vst), .unset, .unset] [(.int (1 : Int32)), (.int (7 : Int32)), (.ref b5), (.ref b5)])) rfl rfl (hb hby at_75)
    have V21 : Arv Z h21 b5 k5 .int (10 : Int32) (([(2 : Int32), (5 : Int32), (1 : Int32), (5 : Int32), (4 : Int32), (1 : Int32), (1 : Int32), (1 : Int32), (0 : Int32), (0 : Int32)] : List Int32).map Value.int) (Value.int 0) := V21
    have N21 := Fr.snoc X21 N19 g_b5
    have K22 : Keep h0 h21 [] := K20.wr W21 (Or.inr sz_b5)
    refine own_step st21 ?_
    show own_Goes p e below _ (T21.setTop (mkF m 76 #[.val (.int p1), .val (.int p2), .val (.int vst), .unset, .unset] [(.ref b5)]))
    refine own_step (fun t k => XS.dup X21.here hx rfl (hb hby at_76) rfl rfl k) ?_
    show own_Goes p e below _ (T21.setTop (mkF m 77 #[.val (.int p1), .val (.int p2), .val (.int vst), .unset, .unset] [(.ref b5), (.ref b5)]))
    refine own_step (fun t k => XS.bipush X21.here hx rfl (hb hby at_77) k) ?_
    show own_Goes p e below _ (T21.setTop (mkF m 79 #[.val (.int p1), .val (.int p2), .val (.int vst), .unset, .unset] [(.int (8 : Int32)), (.ref b5), (.ref b5)]))
    refine own_step (fun t k => XS.iconst X21.here hx rfl (hb hby at_79) k) ?_
    show own_Goes p e below _ (T21.setTop (mkF m 80 #[.val (.int p1), .val (.int p2), .val (.int vst), .unset, .unset] [(.int (1 : Int32)), (.int (8 : Int32)), (.ref b5), (.ref b5)]))
    obtain ⟨T23, h23, X23, e23, W23, V23, st23⟩ := own_ist X21 hx hZ e21 V21 (j := (8 : Int32)) ⟨by decide, by decide⟩ (8) rfl (Nat.le_of_ble_eq_true rfl) (g := (mkF m 80 #[.val (.int p1), .val (.int p2), .val (.int vst), .unset, .unset] [(.int (1 : Int32)), (.int (8 : Int32)), (.ref b5), (.ref b5)])) rfl rfl (hb hby at_80)
    have V23 : Arv Z h23 b5 k5 .int (10 : Int32) (([(2 : Int32), (5 : Int32), (1 : Int32), (5 : Int32), (4 : Int32), (1 : Int32), (1 : Int32), (1 : Int32), (1 : Int32), (0 : Int32)] : List Int32).map Value.int) (Value.int 0) := V23
    have N23 := Fr.snoc X23 N21 g_b5
    have K24 : Keep h0 h23 [] := K22.wr W23 (Or.inr sz_b5)
    refine own_step st23 ?_
    show own_Goes p e below _ (T23.setTop (mkF m 81 #[.val (.int p1), .val (.int p2), .val (.int vst), .unset, .unset] [(.ref b5)]))
    refine own_step (fun t k => XS.dup X23.here hx rfl (hb hby at_81) rfl rfl k) ?_
    show own_Goes p e below _ (T23.setTop (mkF m 82 #[.val (.int p1), .val (.int p2), .val (.int vst), .unset, .unset] [(.ref b5), (.ref b5)]))
    refine own_step (fun t k => XS.bipush X23.here hx rfl (hb hby at_82) k) ?_
    show own_Goes p e below _ (T23.setTop (mkF m 84 #[.val (.int p1), .val (.int p2), .val (.int vst), .unset, .unset] [(.int (9 : Int32)), (.ref b5), (.ref b5)]))
    refine own_step (fun t k => XS.iconst X23.here hx rfl (hb hby at_84) k) ?_
    show own_Goes p e below _ (T23.setTop (mkF m 85 #[.val (.int p1), .val (.int p2), .val (.int vst), .unset, .unset] [(.int (3 : Int32)), (.int (9 : Int32)), (.ref b5), (.ref b5)]))
    obtain ⟨T25, h25, X25, e25, W25, V25, st25⟩ := own_ist X23 hx hZ e23 V23 (j := (9 : Int32)) ⟨by decide, by decide⟩ (9) rfl (Nat.le_of_ble_eq_true rfl) (g := (mkF m 85 #[.val (.int p1), .val (.int p2), .val (.int vst), .unset, .unset] [(.int (3 : Int32)), (.int (9 : Int32)), (.ref b5), (.ref b5)])) rfl rfl (hb hby at_85)
    have V25 : Arv Z h25 b5 k5 .int (10 : Int32) (([(2 : Int32), (5 : Int32), (1 : Int32), (5 : Int32), (4 : Int32), (1 : Int32), (1 : Int32), (1 : Int32), (1 : Int32), (3 : Int32)] : List Int32).map Value.int) (Value.int 0) := V25
    have N25 := Fr.snoc X25 N23 g_b5
    have K26 : Keep h0 h25 [] := K24.wr W25 (Or.inr sz_b5)
    refine own_step st25 ?_
    show own_Goes p e below _ (T25.setTop (mkF m 86 #[.val (.int p1), .val (.int p2), .val (.int vst), .unset, .unset] [(.ref b5)]))
    refine own_step (fun t k => XS.astoreN X25.here hx rfl (hb hby at_86) rfl rfl (l' := #[.val (.int p1), .val (.int p2), .val (.int vst), .val (.ref b5), .unset]) rfl k) ?_
    show own_Goes p e below _ (T25.setTop (mkF m 87 #[.val (.int p1), .val (.int p2), .val (.int vst), .val (.ref b5), .unset] []))
    refine own_step (fun t k => XS.iconst X25.here hx rfl (hb hby at_87) k) ?_
    show own_Goes p e below _ (T25.setTop (mkF m 88 #[.val (.int p1), .val (.int p2), .val (.int vst), .val (.ref b5), .unset] [(.int (1 : Int32))]))
    refine own_step (fun t k => XS.istore X25.here hx rfl (hb hby at_88) rfl (l' := #[.val (.int p1), .val (.int p2), .val (.int vst), .val (.ref b5), .val (.int (1 : Int32))]) rfl k) ?_
    show own_Goes p e below _ (T25.setTop (mkF m 90 #[.val (.int p1), .val (.int p2), .val (.int vst), .val (.ref b5), .val (.int (1 : Int32))] []))
    refine own_step (fun t k => XS.iloadN X25.here hx rfl (hb hby at_90) rfl k) ?_
    show own_Goes p e below _ (T25.setTop (mkF m 91 #[.val (.int p1), .val (.int p2), .val (.int vst), .val (.ref b5), .val (.int (1 : Int32))] [(.int vst)]))
    refine own_step (fun t k => XS.sipush X25.here hx rfl (hb hby at_91) k) ?_
    show own_Goes p e below _ (T25.setTop (mkF m 94 #[.val (.int p1), .val (.int p2), .val (.int vst), .val (.ref b5), .val (.int (1 : Int32))] [(.int (400 : Int32)), (.int vst)]))
    refine own_step (S' := T25.setTop (mkF m 113 #[.val (.int p1), .val (.int p2), .val (.int vst), .val (.ref b5), .val (.int (if vst < (400 : Int32) then (1 : Int32) else (if (409 : Int32) < vst then (1 : Int32) else (([(2 : Int32), (5 : Int32), (1 : Int32), (5 : Int32), (4 : Int32), (1 : Int32), (1 : Int32), (1 : Int32), (1 : Int32), (3 : Int32)] : List Int32).getD (vst - (400 : Int32)).toNatClampNeg 0))))] [])) (fun t k => ?_) ?_
    · show Steps p.tables e below (T25.setTop (mkF m 94 #[.val (.int p1), .val (.int p2), .val (.int vst), .val (.ref b5), .val (.int (1 : Int32))] [(.int (400 : Int32)), (.int vst)])) _
      by_cases hc27 : vst < (400 : Int32)
      · --
        refine XS.icmpYes X25.here hx rfl (pc0 := 94) (pc' := 113) rfl (hb hby at_94) rfl (tlt hc27).1 (by decide) (by decide) ?_
        show Steps p.tables e below (T25.setTop (mkF m 113 #[.val (.int p1), .val (.int p2), .val (.int vst), .val (.ref b5), .val (.int (1 : Int32))] [])) _
        simp only [if_pos hc27] at k
        exact k
      · --
        refine XS.icmpNo X25.here hx rfl (hb hby at_94) rfl (flt hc27).1 ?_
        show Steps p.tables e below (T25.setTop (mkF m 97 #[.val (.int p1), .val (.int p2), .val (.int vst), .val (.ref b5), .val (.int (1 : Int32))] [])) _
        refine XS.iloadN X25.here hx rfl (hb hby at_97) rfl ?_
        show Steps p.tables e below (T25.setTop (mkF m 98 #[.val (.int p1), .val (.int p2), .val (.int vst), .val (.ref b5), .val (.int (1 : Int32))] [(.int vst)])) _
        refine XS.sipush X25.here hx rfl (hb hby at_98) ?_
        show Steps p.tables e below (T25.setTop (mkF m 101 #[.val (.int p1), .val (.int p2), .val (.int vst), .val (.ref b5), .val (.int (1 : Int32))] [(.int (409 : Int32)), (.int vst)])) _
        by_cases hc28 : (409 : Int32) < vst
        · --
          refine XS.icmpYes X25.here hx rfl (pc0 := 101) (pc' := 113) rfl (hb hby at_101) rfl (tlt hc28).2.2.1 (by decide) (by decide) ?_
          show Steps p.tables e below (T25.setTop (mkF m 113 #[.val (.int p1), .val (.int p2), .val (.int vst), .val (.ref b5), .val (.int (1 : Int32))] [])) _
          simp only [if_neg hc27, if_pos hc28] at k
          exact k
        · --
          refine XS.icmpNo X25.here hx rfl (hb hby at_101) rfl (flt hc28).2.2.1 ?_
          show Steps p.tables e below (T25.setTop (mkF m 104 #[.val (.int p1), .val (.int p2), .val (.int vst), .val (.ref b5), .val (.int (1 : Int32))] [])) _
          refine XS.aloadN X25.here hx rfl (hb hby at_104) rfl rfl ?_
          show Steps p.tables e below (T25.setTop (mkF m 105 #[.val (.int p1), .val (.int p2), .val (.int vst), .val (.ref b5), .val (.int (1 : Int32))] [(.ref b5)])) _
          refine XS.iloadN X25.here hx rfl (hb hby at_105) rfl ?_
          show Steps p.tables e below (T25.setTop (mkF m 106 #[.val (.int p1), .val (.int p2), .val (.int vst), .val (.ref b5), .val (.int (1 : Int32))] [(.int vst), (.ref b5)])) _
          refine XS.sipush X25.here hx rfl (hb hby at_106) ?_
          show Steps p.tables e below (T25.setTop (mkF m 109 #[.val (.int p1), .val (.int p2), .val (.int vst), .val (.ref b5), .val (.int (1 : Int32))] [(.int (400 : Int32)), (.int vst), (.ref b5)])) _
          refine XS.isub X25.here hx rfl (hb hby at_109) rfl ?_
          show Steps p.tables e below (T25.setTop (mkF m 110 #[.val (.int p1), .val (.int p2), .val (.int vst), .val (.ref b5), .val (.int (1 : Int32))] [(.int (vst - (400 : Int32))), (.ref b5)])) _
          refine own_ial X25 hx hZ e25 V25 (own_idx (by assumption) (by assumption)) (g := (mkF m 110 #[.val (.int p1), .val (.int p2), .val (.int vst), .val (.ref b5), .val (.int (1 : Int32))] [(.int (vst - (400 : Int32))), (.ref b5)])) rfl rfl (hb hby at_110) _ ?_
          show Steps p.tables e below (T25.setTop (mkF m 111 #[.val (.int p1), .val (.int p2), .val (.int vst), .val (.ref b5), .val (.int (1 : Int32))] [(.int (([(2 : Int32), (5 : Int32), (1 : Int32), (5 : Int32), (4 : Int32), (1 : Int32), (1 : Int32), (1 : Int32), (1 : Int32), (3 : Int32)] : List Int32).getD (vst - (400 : Int32)).toNatClampNeg 0))])) _
          refine XS.istore X25.here hx rfl (hb hby at_111) rfl (l' := #[.val (.int p1), .val (.int p2), .val (.int vst), .val (.ref b5), .val (.int (([(2 : Int32), (5 : Int32), (1 : Int32), (5 : Int32), (4 : Int32), (1 : Int32), (1 : Int32), (1 : Int32), (1 : Int32), (3 : Int32)] : List Int32).getD (vst - (400 : Int32)).toNatClampNeg 0))]) rfl ?_
          show Steps p.tables e below (T25.setTop (mkF m 113 #[.val (.int p1), .val (.int p2), .val (.int vst), .val (.ref b5), .val (.int (([(2 : Int32), (5 : Int32), (1 : Int32), (5 : Int32), (4 : Int32), (1 : Int32), (1 : Int32), (1 : Int32), (1 : Int32), (3 : Int32)] : List Int32).getD (vst - (400 : Int32)).toNatClampNeg 0))] [])) _
          simp only [if_neg hc27, if_neg hc28] at k
          exact k
    show own_Goes p e below _ (T25.setTop (mkF m 113 #[.val (.int p1), .val (.int p2), .val (.int vst), .val (.ref b5), .val (.int (if vst < (400 : Int32) then (1 : Int32) else (if (409 : Int32) < vst then (1 : Int32) else (([(2 : Int32), (5 : Int32), (1 : Int32), (5 : Int32), (4 : Int32), (1 : Int32), (1 : Int32), (1 : Int32), (1 : Int32), (3 : Int32)] : List Int32).getD (vst - (400 : Int32)).toNatClampNeg 0))))] []))
    refine own_step (fun t k => XS.iloadN X25.here hx rfl (hb hby at_113) rfl k) ?_
    show own_Goes p e below _ (T25.setTop (mkF m 114 #[.val (.int p1), .val (.int p2), .val (.int vst), .val (.ref b5), .val (.int (if vst < (400 : Int32) then (1 : Int32) else (if (409 : Int32) < vst then (1 : Int32) else (([(2 : Int32), (5 : Int32), (1 : Int32), (5 : Int32), (4 : Int32), (1 : Int32), (1 : Int32), (1 : Int32), (1 : Int32), (3 : Int32)] : List Int32).getD (vst - (400 : Int32)).toNatClampNeg 0))))] [(.int vst)]))
    obtain ⟨_, _, ⟨T29, L29, k29, n29⟩, -, X29, ⟨Lc29, hQ29, l29, y29, z29⟩, st29⟩ := Jvm.LawKit.callS X25 hx (y := (⟨"com/example/noctule/noctule/cli/ExitCodes", "forHttpStatus", "(I)I"⟩ : MethodName)) hown (mvT hZ w1) (mvT hZ w2) (mvT hZ w3) (mvT hZ w4) (by decide) (backOf (W := 0) (own_b1 l Z a0 hw [] vst  h25 n0 (Nat.le_trans (Nat.le_trans (Nat.le_trans (Nat.le_trans (Nat.le_trans (Nat.le_trans (Nat.le_trans (Nat.le_trans (Nat.le_trans (Nat.le_trans (Nat.le_trans Z0 E5.1) (Keep.of_wr W7).1) (Keep.of_wr W9).1) (Keep.of_wr W11).1) (Keep.of_wr W13).1) (Keep.of_wr W15).1) (Keep.of_wr W17).1) (Keep.of_wr W19).1) (Keep.of_wr W21).1) (Keep.of_wr W23).1) (Keep.of_wr W25).1) ) hZ w4 w3 (by decide) (by decide)) (g := (mkF m 114 #[.val (.int p1), .val (.int p2), .val (.int vst), .val (.ref b5), .val (.int (if vst < (400 : Int32) then (1 : Int32) else (if (409 : Int32) < vst then (1 : Int32) else (([(2 : Int32), (5 : Int32), (1 : Int32), (5 : Int32), (4 : Int32), (1 : Int32), (1 : Int32), (1 : Int32), (1 : Int32), (3 : Int32)] : List Int32).getD (vst - (400 : Int32)).toNatClampNeg 0))))] [(.int vst)])) rfl (by rw [hml]; rfl) (argsL := [(.int vst)]) (rest := []) (lenOf own_pd0 rfl) rfl (by show 2 * 0 + _ ≤ _; exact Nat.le_of_eq rfl) (hb hby at_114) (fun _ _ => ⟨rfl, e25, (by decide : 1 + 0 ≤ _), (by decide : 10 + 0 ≤ _)⟩)
    dsimp only [Pt.U, Pt.locs, Pt.cells, Pt.slots] at X29 l29 y29 z29 st29 hQ29
    subst l29 y29 z29
    obtain ⟨rfl, N29q, eh29⟩ := hQ29
    have N29 := Fr.app N25 N29q
    refine own_step st29 ?_
    show own_Goes p e below _ (T29.setTop (mkF m 117 #[.val (.int p1), .val (.int p2), .val (.int vst), .val (.ref b5), .val (.int (if vst < (400 : Int32) then (1 : Int32) else (if (409 : Int32) < vst then (1 : Int32) else (([(2 : Int32), (5 : Int32), (1 : Int32), (5 : Int32), (4 : Int32), (1 : Int32), (1 : Int32), (1 : Int32), (1 : Int32), (3 : Int32)] : List Int32).getD (vst - (400 : Int32)).toNatClampNeg 0))))] [(.int (own_http vst))]))
    refine own_step (fun t k => XS.iload X29.here hx rfl (hb hby at_117) rfl k) ?_
    show own_Goes p e below _ (T29.setTop (mkF m 119 #[.val (.int p1), .val (.int p2), .val (.int vst), .val (.ref b5), .val (.int (if vst < (400 : Int32) then (1 : Int32) else (if (409 : Int32) < vst then (1 : Int32) else (([(2 : Int32), (5 : Int32), (1 : Int32), (5 : Int32), (4 : Int32), (1 : Int32), (1 : Int32), (1 : Int32), (1 : Int32), (3 : Int32)] : List Int32).getD (vst - (400 : Int32)).toNatClampNeg 0))))] [(.int (if vst < (400 : Int32) then (1 : Int32) else (if (409 : Int32) < vst then (1 : Int32) else (([(2 : Int32), (5 : Int32), (1 : Int32), (5 : Int32), (4 : Int32), (1 : Int32), (1 : Int32), (1 : Int32), (1 : Int32), (3 : Int32)] : List Int32).getD (vst - (400 : Int32)).toNatClampNeg 0)))), (.int (own_http vst))]))
    refine own_step (S' := T29.setTop (mkF m 127 #[.val (.int p1), .val (.int p2), .val (.int vst), .val (.ref b5), .val (.int (if vst < (400 : Int32) then (1 : Int32) else (if (409 : Int32) < vst then (1 : Int32) else (([(2 : Int32), (5 : Int32), (1 : Int32), (5 : Int32), (4 : Int32), (1 : Int32), (1 : Int32), (1 : Int32), (1 : Int32), (3 : Int32)] : List Int32).getD (vst - (400 : Int32)).toNatClampNeg 0))))] [(.int (if (own_http vst) = (if vst < (400 : Int32) then (1 : Int32) else (if (409 : Int32) < vst then (1 : Int32) else (([(2 : Int32), (5 : Int32), (1 : Int32), (5 : Int32), (4 : Int32), (1 : Int32), (1 : Int32), (1 : Int32), (1 : Int32), (3 : Int32)] : List Int32).getD (vst - (400 : Int32)).toNatClampNeg 0))) then (1 : Int32) else (0 : Int32)))])) (fun t k => ?_) ?_
    · show Steps p.tables e below (T29.setTop (mkF m 119 #[.val (.int p1), .val (.int p2), .val (.int vst), .val (.ref b5), .val (.int (if vst < (400 : Int32) then (1 : Int32) else (if (409 : Int32) < vst then (1 : Int32) else (([(2 : Int32), (5 : Int32), (1 : Int32), (5 : Int32), (4 : Int32), (1 : Int32), (1 : Int32), (1 : Int32), (1 : Int32), (3 : Int32)] : List Int32).getD (vst - (400 : Int32)).toNatClampNeg 0))))] [(.int (if vst < (400 : Int32) then (1 : Int32) else (if (409 : Int32) < vst then (1 : Int32) else (([(2 : Int32), (5 : Int32), (1 : Int32), (5 : Int32), (4 : Int32), (1 : Int32), (1 : Int32), (1 : Int32), (1 : Int32), (3 : Int32)] : List Int32).getD (vst - (400 : Int32)).toNatClampNeg 0)))), (.int (own_http vst))])) _
      by_cases hc30 : (own_http vst) = (if vst < (400 : Int32) then (1 : Int32) else (if (409 : Int32) < vst then (1 : Int32) else (([(2 : Int32), (5 : Int32), (1 : Int32), (5 : Int32), (4 : Int32), (1 : Int32), (1 : Int32), (1 : Int32), (1 : Int32), (3 : Int32)] : List Int32).getD (vst - (400 : Int32)).toNatClampNeg 0)))
      · --
        refine XS.icmpNo X29.here hx rfl (hb hby at_119) rfl (teq hc30).2 ?_
        show Steps p.tables e below (T29.setTop (mkF m 122 #[.val (.int p1), .val (.int p2), .val (.int vst), .val (.ref b5), .val (.int (if vst < (400 : Int32) then (1 : Int32) else (if (409 : Int32) < vst then (1 : Int32) else (([(2 : Int32), (5 : Int32), (1 : Int32), (5 : Int32), (4 : Int32), (1 : Int32), (1 : Int32), (1 : Int32), (1 : Int32), (3 : Int32)] : List Int32).getD (vst - (400 : Int32)).toNatClampNeg 0))))] [])) _
        refine XS.iconst X29.here hx rfl (hb hby at_122) ?_
        show Steps p.tables e below (T29.setTop (mkF m 123 #[.val (.int p1), .val (.int p2), .val (.int vst), .val (.ref b5), .val (.int (if vst < (400 : Int32) then (1 : Int32) else (if (409 : Int32) < vst then (1 : Int32) else (([(2 : Int32), (5 : Int32), (1 : Int32), (5 : Int32), (4 : Int32), (1 : Int32), (1 : Int32), (1 : Int32), (1 : Int32), (3 : Int32)] : List Int32).getD (vst - (400 : Int32)).toNatClampNeg 0))))] [(.int (1 : Int32))])) _
        refine XS.goto X29.here hx rfl (pc0 := 123) (pc' := 127) rfl (hb hby at_123) (by decide) (by decide) ?_
        show Steps p.tables e below (T29.setTop (mkF m 127 #[.val (.int p1), .val (.int p2), .val (.int vst), .val (.ref b5), .val (.int (if vst < (400 : Int32) then (1 : Int32) else (if (409 : Int32) < vst then (1 : Int32) else (([(2 : Int32), (5 : Int32), (1 : Int32), (5 : Int32), (4 : Int32), (1 : Int32), (1 : Int32), (1 : Int32), (1 : Int32), (3 : Int32)] : List Int32).getD (vst - (400 : Int32)).toNatClampNeg 0))))] [(.int (1 : Int32))])) _
        simp only [if_pos hc30] at k
        exact k
      · --
        refine XS.icmpYes X29.here hx rfl (pc0 := 119) (pc' := 126) rfl (hb hby at_119) rfl (feq hc30).2 (by decide) (by decide) ?_
        show Steps p.tables e below (T29.setTop (mkF m 126 #[.val (.int p1), .val (.int p2), .val (.int vst), .val (.ref b5), .val (.int (if vst < (400 : Int32) then (1 : Int32) else (if (409 : Int32) < vst then (1 : Int32) else (([(2 : Int32), (5 : Int32), (1 : Int32), (5 : Int32), (4 : Int32), (1 : Int32), (1 : Int32), (1 : Int32), (1 : Int32), (3 : Int32)] : List Int32).getD (vst - (400 : Int32)).toNatClampNeg 0))))] [])) _
        refine XS.iconst X29.here hx rfl (hb hby at_126) ?_
        show Steps p.tables e below (T29.setTop (mkF m 127 #[.val (.int p1), .val (.int p2), .val (.int vst), .val (.ref b5), .val (.int (if vst < (400 : Int32) then (1 : Int32) else (if (409 : Int32) < vst then (1 : Int32) else (([(2 : Int32), (5 : Int32), (1 : Int32), (5 : Int32), (4 : Int32), (1 : Int32), (1 : Int32), (1 : Int32), (1 : Int32), (3 : Int32)] : List Int32).getD (vst - (400 : Int32)).toNatClampNeg 0))))] [(.int (0 : Int32))])) _
        simp only [if_neg hc30] at k
        exact k
    show own_Goes p e below _ (T29.setTop (mkF m 127 #[.val (.int p1), .val (.int p2), .val (.int vst), .val (.ref b5), .val (.int (if vst < (400 : Int32) then (1 : Int32) else (if (409 : Int32) < vst then (1 : Int32) else (([(2 : Int32), (5 : Int32), (1 : Int32), (5 : Int32), (4 : Int32), (1 : Int32), (1 : Int32), (1 : Int32), (1 : Int32), (3 : Int32)] : List Int32).getD (vst - (400 : Int32)).toNatClampNeg 0))))] [(.int (if (own_http vst) = (if vst < (400 : Int32) then (1 : Int32) else (if (409 : Int32) < vst then (1 : Int32) else (([(2 : Int32), (5 : Int32), (1 : Int32), (5 : Int32), (4 : Int32), (1 : Int32), (1 : Int32), (1 : Int32), (1 : Int32), (3 : Int32)] : List Int32).getD (vst - (400 : Int32)).toNatClampNeg 0))) then (1 : Int32) else (0 : Int32)))]))
    refine own_retL X29 hx hlk Bd.returns (hb hby at_127) (?_ : (if (own_http vst) = (if vst < (400 : Int32) then (1 : Int32) else (if (409 : Int32) < vst then (1 : Int32) else (([(2 : Int32), (5 : Int32), (1 : Int32), (5 : Int32), (4 : Int32), (1 : Int32), (1 : Int32), (1 : Int32), (1 : Int32), (3 : Int32)] : List Int32).getD (vst - (400 : Int32)).toNatClampNeg 0))) then (1 : Int32) else (0 : Int32)) = 1) N29 (by decide) (by decide)
    exact own_plain vst
  · --
    refine own_step (fun t k => XS.icmpNo X0.here hx rfl (hb hby at_26) rfl (flt hc4).1 k) ?_
    show own_Goes p e below _ (s₁.setTop (mkF m 29 #[.val (.int p1), .val (.int p2), .val (.int vst), .unset, .unset] []))
    refine own_step (fun t k => XS.iloadN X0.here hx rfl (hb hby at_29) rfl k) ?_
    show own_Goes p e below _ (s₁.setTop (mkF m 30 #[.val (.int p1), .val (.int p2), .val (.int vst), .unset, .unset] [(.int vst)]))
    refine own_step (fun t k => XS.sipush X0.here hx rfl (hb hby at_30) k) ?_
    show own_Goes p e below _ (s₁.setTop (mkF m 33 #[.val (.int p1), .val (.int p2), .val (.int vst), .unset, .unset] [(.int (299 : Int32)), (.int vst)]))
    by_cases hc31 : (299 : Int32) < vst
    · --
      refine own_step (fun t k => XS.icmpYes X0.here hx rfl (pc0 := 33) (pc' := 38) rfl (hb hby at_33) rfl (tlt hc31).2.2.1 (by decide) (by decide) k) ?_
      show own_Goes p e below _ (s₁.setTop (mkF m 38 #[.val (.int p1), .val (.int p2), .val (.int vst), .unset, .unset] []))
      refine own_step (fun t k => XS.bipush X0.here hx rfl (hb hby at_38) k) ?_
      show own_Goes p e below _ (s₁.setTop (mkF m 40 #[.val (.int p1), .val (.int p2), .val (.int vst), .unset, .unset] [(.int (10 : Int32))]))
      obtain ⟨T32, h32, k32, X32, e32, E32, A32, st32⟩ := newP (aty := .int) X0 hx hZ w0 e0 (g := (mkF m 40 #[.val (.int p1), .val (.int p2), .val (.int vst), .unset, .unset] [(.int (10 : Int32))])) rfl (hb hby at_40) rfl (by decide) (cap := 10) (by decide) (by decide) (by decide) (by decide)
      obtain ⟨b32, g32⟩ : ∃ z, z = h0.size := ⟨_, rfl⟩
      rw [← g32] at A32 st32
      have g_b32 : n0 ≤ b32 := Nat.le_trans Z0 (Nat.le_of_eq g32.symm)
      have sz_b32 : h0.size ≤ b32 := Nat.le_trans K0.1 (Nat.le_of_eq g32.symm)
      have V32 : Arv Z h32 b32 k32 .int (10 : Int32) (([(0 : Int32), (0 : Int32), (0 : Int32), (0 : Int32), (0 : Int32), (0 : Int32), (0 : Int32), (0 : Int32), (0 : Int32), (0 : Int32)] : List Int32).map Value.int) (Value.int (0 : Int32)) := own_newI A32 (by decide) 10
      have K33 : Keep h0 h32 [] := K0.ext E32
      refine own_step st32 ?_
      show own_Goes p e below _ (T32.setTop (mkF m 42 #[.val (.int p1), .val (.int p2), .val (.int vst), .unset, .unset] [(.ref b32)]))
      refine own_step (fun t k => XS.dup X32.here hx rfl (hb hby at_42) rfl rfl k) ?_
      show own_Goes p e below _ (T32.setTop (mkF m 43 #[.val (.int p1), .val (.int p2), .val (.int vst), .unset, .unset] [(.ref b32), (.ref b32)]))
      refine own_step (fun t k => XS.iconst X32.here hx rfl (hb hby at_43) k) ?_
      show own_Goes p e below _ (T32.setTop (mkF m 44 #[.val (.int p1), .val (.int p2), .val (.int vst), .unset, .unset] [(.int (0 : Int32)), (.ref b32), (.ref b32)]))
      refine own_step (fun t k => XS.iconst X32.here hx rfl (hb hby at_44) k) ?_
      show own_Goes p e below _ (T32.setTop (mkF m 45 #[.val (.int p1), .val (.int p2), .val (.int vst), .unset, .unset] [(.int (2 : Int32)), (.int (0 : Int32)), (.ref b32), (.ref b32)]))
      obtain ⟨T34, h34, X34, e34, W34, V34, st34⟩ := own_ist X32 hx hZ e32 V32 (j := (0 : Int32)) ⟨by decide, by decide⟩ (0) rfl (Nat.le_of_ble_eq_true rfl) (g := (mkF m 45 #[.val (.int p1), .val (.int p2), .val (.int vst), .unset, .unset] [(.int (2 : Int32)), (.int (0 : Int32)), (.ref b32), (.ref b32)])) rfl rfl (hb hby at_45)
      have V34 : Arv Z h34 b32 k32 .int (10 : Int32) (([(2 : Int32), (0 : Int32), (0 : Int32), (0 : Int32), (0 : Int32), (0 : Int32), (0 : Int32), (0 : Int32), (0 : Int32), (0 : Int32)] : List Int32).map Value.int) (Value.int 0) := V34
      have N34 := Fr.snoc X34 N0 g_b32
      have K35 : Keep h0 h34 [] := K33.wr W34 (Or.inr sz_b32)
      refine own_step st34 ?_
      show own_Goes p e below _ (T34.setTop (mkF m 46 #[.val (.int p1), .val (.int p2), .val (.int vst), .unset, .unset] [(.ref b32)]))
      refine own_step (fun t k => XS.dup X34.here hx rfl (hb hby at_46) rfl rfl k) ?_
      show own_Goes p e below _ (T34.setTop (mkF m 47 #[.val (.int p1), .val (.int p2), .val (.int vst), .unset, .unset] [(.ref b32), (.ref b32)]))
      refine own_step (fun t k => XS.iconst X34.here hx rfl (hb hby at_47) k) ?_
      show own_Goes p e below _ (T34.setTop (mkF m 48 #[.val (.int p1), .val (.int p2), .val (.int vst), .unset, .unset] [(.int (1 : Int32)), (.ref b32), (.ref b32)]))
      refine own_step (fun t k => XS.iconst X34.here hx rfl (hb hby at_48) k) ?_
      show own_Goes p e below _ (T34.setTop (mkF m 49 #[.val (.int p1), .val (.int p2), .val (.int vst), .unset, .unset] [(.int (5 : Int32)), (.int (1 : Int32)), (.ref b32), (.ref b32)]))
      obtain ⟨T36, h36, X36, e36, W36, V36, st36⟩ := own_ist X34 hx hZ e34 V34 (j := (1 : Int32)) ⟨by decide, by decide⟩ (1) rfl (Nat.le_of_ble_eq_true rfl) (g := (mkF m 49 #[.val (.int p1), .val (.int p2), .val (.int vst), .unset, .unset] [(.int (5 : Int32)), (.int (1 : Int32)), (.ref b32), (.ref b32)])) rfl rfl (hb hby at_49)
      have V36 : Arv Z h36 b32 k32 .int (10 : Int32) (([(2 : Int32), (5 : Int32), (0 : Int32), (0 : Int32), (0 : Int32), (0 : Int32), (0 : Int32), (0 : Int32), (0 : Int32), (0 : Int32)] : List Int32).map Value.int) (Value.int 0) := V36
      have N36 := Fr.snoc X36 N34 g_b32
      have K37 : Keep h0 h36 [] := K35.wr W36 (Or.inr sz_b32)
      refine own_step st36 ?_
      show own_Goes p e below _ (T36.setTop (mkF m 50 #[.val (.int p1), .val (.int p2), .val (.int vst), .unset, .unset] [(.ref b32)]))
      refine own_step (fun t k => XS.dup X36.here hx rfl (hb hby at_50) rfl rfl k) ?_
      show own_Goes p e below _ (T36.setTop (mkF m 51 #[.val (.int p1), .val (.int p2), .val (.int vst), .unset, .unset] [(.ref b32), (.ref b32)]))
      refine own_step (fun t k => XS.iconst X36.here hx rfl (hb hby at_51) k) ?_
      show own_Goes p e below _ (T36.setTop (mkF m 52 #[.val (.int p1), .val (.int p2), .val (.int vst), .unset, .unset] [(.int (2 : Int32)), (.ref b32), (.ref b32)]))
      refine own_step (fun t k => XS.iconst X36.here hx rfl (hb hby at_52) k) ?_
      show own_Goes p e below _ (T36.setTop (mkF m 53 #[.val (.int p1), .val (.int p2), .val (.int vst), .unset, .unset] [(.int (1 : Int32)), (.int (2 : Int32)), (.ref b32), (.ref b32)]))
      obtain ⟨T38, h38, X38, e38, W38, V38, st38⟩ := own_ist X36 hx hZ e36 V36 (j := (2 : Int32)) ⟨by decide, by decide⟩ (2) rfl (Nat.le_of_ble_eq_true rfl) (g := (mkF m 53 #[.val (.int p1), .val (.int p2), .val (.int vst), .unset, .unset] [(.int (1 : Int32)), (.int (2 : Int32)), (.ref b32), (.ref b32)])) rfl rfl (hb hby at_53)
      have V38 : Arv Z h38 b32 k32 .int (10 : Int32) (([(2 : Int32), (5 : Int32), (1 : Int32), (0 : Int32), (0 : Int32), (0 : Int32), (0 : Int32), (0 : Int32), (0 : Int32), (0 : Int32)] : List Int32).map Value.int) (Value.int 0) := V38
      have N38 := Fr.snoc X38 N36 g_b32
      have K39 : Keep h0 h38 [] := K37.wr W38 (Or.inr sz_b32)
      refine own_step st38 ?_
      show own_Goes p e below _ (T38.setTop (mkF m 54 #[.val (.int p1), .val (.int p2), .val (.int vst), .unset, .unset] [(.ref b32)]))
      refine own_step (fun t k => XS.dup X38.here hx rfl (hb hby at_54) rfl rfl k) ?_
      show own_Goes p e below _ (T38.setTop (mkF m 55 #[.val (.int p1), .val (.int p2), .val (.int vst), .unset, .unset] [(.ref b32), (.ref b32)]))
      refine own_step (fun t k => XS.iconst X38.here hx rfl (hb hby at_55) k) ?_
      show own_Goes p e below _ (T38.setTop (mkF m 56 #[.val (.int p1), .val (.int p2), .val (.int vst), .unset, .unset] [(.int (3 : Int32)), (.ref b32), (.ref b32)]))
      refine own_step (fun t k => XS.iconst X38.here hx rfl (hb hby at_56) k) ?_
      show own_Goes p e below _ (T38.setTop (mkF m 57 #[.val (.int p1), .val (.int p2), .val (.int vst), .unset, .unset] [(.int (5 : Int32)), (.int (3 : Int32)), (.ref b32), (.ref b32)]))
      obtain ⟨T40, h40, X40, e40, W40, V40, st40⟩ := own_ist X38 hx hZ e38 V38 (j := (3 : Int32)) ⟨by decide, by decide⟩ (3) rfl (Nat.le_of_ble_eq_true rfl) (g := (mkF m 57 #[.val (.int p1), .val (.int p2), .val (.int vst), .unset, .unset] [(.int (5 : Int32)), (.int (3 : Int32)), (.ref b32), (.ref b32)])) rfl rfl (hb hby at_57)
      have V40 : Arv Z h40 b32 k32 .int (10 : Int32) (([(2 : Int32), (5 : Int32), (1 : Int32), (5 : Int32), (0 : Int32), (0 : Int32), (0 : Int32), (0 : Int32), (0 : Int32), (0 : Int32)] : List Int32).map Value.int) (Value.int 0) := V40
      have N40 := Fr.snoc X40 N38 g_b32
      have K41 : Keep h0 h40 [] := K39.wr W40 (Or.inr sz_b32)
      refine own_step st40 ?_
      show own_Goes p e below _ (T40.setTop (mkF m 58 #[.val (.int p1), .val (.int p2), .val (.int vst), .unset, .unset] [(.ref b32)]))
      refine own_step (fun t k => XS.dup X40.here hx rfl (hb hby at_58) rfl rfl k) ?_
      show own_Goes p e below _ (T40.setTop (mkF m 59 #[.val (.int p1), .val (.int p2), .val (.int vst), .unset, .unset] [(.ref b32), (.ref b32)]))
      refine own_step (fun t k => XS.iconst X40.here hx rfl (hb hby at_59) k) ?_
      show own_Goes p e below _ (T40.setTop (mkF m 60 #[.val (.int p1), .val (.int p2), .val (.int vst), .unset, .unset] [(.int (4 : Int32)), (.ref b32), (.ref b32)]))
      refine own_step (fun t k => XS.iconst X40.here hx rfl (hb hby at_60) k) ?_
      show own_Goes p e below _ (T40.setTop (mkF m 61 #[.val (.int p1), .val (.int p2), .val (.int vst), .unset, .unset] [(.int (4 : Int32)), (.int (4 : Int32)), (.ref b32), (.ref b32)]))
      obtain ⟨T42, h42, X42, e42, W42, V42, st42⟩ := own_ist X40 hx hZ e40 V40 (j := (4 : Int32)) ⟨by decide, by decide⟩ (4) rfl (Nat.le_of_ble_eq_true rfl) (g := (mkF m 61 #[.val (.int p1), .val (.int p2), .val (.int vst), .unset, .unset] [(.int (4 : Int32)), (.int (4 : Int32)), (.ref b32), (.ref b32)])) rfl rfl (hb hby at_61)
      have V42 : Arv Z h42 b32 k32 .int (10 : Int32) (([(2 : Int32), (5 : Int32), (1 : Int32), (5 : Int32), (4 : Int32), (0 : Int32), (0 : Int32), (0 : Int32), (0 : Int32), (0 : Int32)] : List Int32).map Value.int) (Value.int 0) := V42
      have N42 := Fr.snoc X42 N40 g_b32
      have K43 : Keep h0 h42 [] := K41.wr W42 (Or.inr sz_b32)
      refine own_step st42 ?_
      show own_Goes p e below _ (T42.setTop (mkF m 62 #[.val (.int p1), .val (.int p2), .val (.int vst), .unset, .unset] [(.ref b32)]))
      refine own_step (fun t k => XS.dup X42.here hx rfl (hb hby at_62) rfl rfl k) ?_
      show own_Goes p e below _ (T42.setTop (mkF m 63 #[.val (.int p1), .val (.int p2), .val (.int vst), .unset, .unset] [(.ref b32), (.ref b32)]))
      refine own_step (fun t k => XS.iconst X42.here hx rfl (hb hby at_63) k) ?_
      show own_Goes p e below _ (T42.setTop (mkF m 64 #[.val (.int p1), .val (.int p2), .val (.int vst), .unset, .unset] [(.int (5 : Int32)), (.ref b32), (.ref b32)]))
      refine own_step (fun t k => XS.iconst X42.here hx rfl (hb hby at_64) k) ?_
      show own_Goes p e below _ (T42.setTop (mkF m 65 #[.val (.int p1), .val (.int p2), .val (.int vst), .unset, .unset] [(.int (1 : Int32)), (.int (5 : Int32)), (.ref b32), (.ref b32)]))
      obtain ⟨T44, h44, X44, e44, W44, V44, st44⟩ := own_ist X42 hx hZ e42 V42 (j := (5 : Int32)) ⟨by decide, by decide⟩ (5) rfl (Nat.le_of_ble_eq_true rfl) (g := (mkF m 65 #[.val (.int p1), .val (.int p2), .val (.int vst), .unset, .unset] [(.int (1 : Int32)), (.int (5 : Int32)), (.ref b32), (.ref b32)])) rfl rfl (hb hby at_65)
      have V44 : Arv Z h44 b32 k32 .int (10 : Int32) (([(2 : Int32), (5 : Int32), (1 : Int32), (5 : Int32), (4 : Int32), (1 : Int32), (0 : Int32), (0 : Int32), (0 : Int32), (0 : Int32)] : List Int32).map Value.int) (Value.int 0) := V44
      have N44 := Fr.snoc X44 N42 g_b32
      have K45 : Keep h0 h44 [] := K43.wr W44 (Or.inr sz_b32)
      refine own_step st44 ?_
      show own_Goes p e below _ (T44.setTop (mkF m 66 #[.val (.int p1), .val (.int p2), .val (.int vst), .unset, .unset] [(.ref b32)]))
      refine own_step (fun t k => XS.dup X44.here hx rfl (hb hby at_66) rfl rfl k) ?_
      show own_Goes p e below _ (T44.setTop (mkF m 67 #[.val (.int p1), .val (.int p2), .val (.int vst), .unset, .unset] [(.ref b32), (.ref b32)]))
      refine own_step (fun t k => XS.bipush X44.here hx rfl (hb hby at_67) k) ?_
      show own_Goes p e below _ (T44.setTop (mkF m 69 #[.val (.int p1), .val (.int p2), .val (.int vst), .unset, .unset] [(.int (6 : Int32)), (.ref b32), (.ref b32)]))
      refine own_step (fun t k => XS.iconst X44.here hx rfl (hb hby at_69) k) ?_
      show own_Goes p e below _ (T44.setTop (mkF m 70 #[.val (.int p1), .val (.int p2), .val (.int vst), .unset, .unset] [(.int (1 : Int32)), (.int (6 : Int32)), (.ref b32), (.ref b32)]))
      obtain ⟨T46, h46, X46, e46, W46, V46, st46⟩ := own_ist X44 hx hZ e44 V44 (j := (6 : Int32)) ⟨by decide, by decide⟩ (6) rfl (Nat.le_of_ble_eq_true rfl) (g := (mkF m 70 #[.val (.int p1), .val (.int p2), .val (.int vst), .unset, .unset] [(.int (1 : Int32)), (.int (6 : Int32)), (.ref b32), (.ref b32)])) rfl rfl (hb hby at_70)
      have V46 : Arv Z h46 b32 k32 .int (10 : Int32) (([(2 : Int32), (5 : Int32), (1 : Int32), (5 : Int32), (4 : Int32), (1 : Int32), (1 : Int32), (0 : Int32), (0 : Int32), (0 : Int32)] : List Int32).map Value.int) (Value.int 0) := V46
      have N46 := Fr.snoc X46 N44 g_b32
      have K47 : Keep h0 h46 [] := K45.wr W46 (Or.inr sz_b32)
      refine own_step st46 ?_
      show own_Goes p e below _ (T46.setTop (mkF m 71 #[.val (.int p1), .val (.int p2), .val (.int vst), .unset, .unset] [(.ref b32)]))
      refine own_step (fun t k => XS.dup X46.here hx rfl (hb hby at_71) rfl rfl k) ?_
      show own_Goes p e below _ (T46.setTop (mkF m 72 #[.val (.int p1), .val (.int p2), .val (.int vst), .unset, .unset] [(.ref b32), (.ref b32)]))
      refine own_step (fun t k => XS.bipush X46.here hx rfl (hb hby at_72) k) ?_
      show own_Goes p e below _ (T46.setTop (mkF m 74 #[.val (.int p1), .val (.int p2), .val (.int vst), .unset, .unset] [(.int (7 : Int32)), (.ref b32), (.ref b32)]))
      refine own_step (fun t k => XS.iconst X46.here hx rfl (hb hby at_74) k) ?_
      show own_Goes p e below _ (T46.setTop (mkF m 75 #[.val (.int p1), .val (.int p2), .val (.int vst), .unset, .unset] [(.int (1 : Int32)), (.int (7 : Int32)), (.ref b32), (.ref b32)]))
      obtain ⟨T48, h48, X48, e48, W48, V48, st48⟩ := own_ist X46 hx hZ e46 V46 (j := (7 : Int32)) ⟨by decide, by decide⟩ (7) rfl (Nat.le_of_ble_eq_true rfl) (g := (mkF m 75 #[.val (.int p1), .val (.int p2), .val (.int vst), .unset, .unset] [(.int (1 : Int32)), (.int (7 : Int32)), (.ref b32), (.ref b32)])) rfl rfl (hb hby at_75)
      have V48 : Arv Z h48 b32 k32 .int (10 : Int32) (([(2 : Int32), (5 : Int32), (1 : Int32), (5 : Int32), (4 : Int32), (1 : Int32), (1 : Int32), (1 : Int32), (0 : Int32), (0 : Int32)] : List Int32).map Value.int) (Value.int 0) := V48
      have N48 := Fr.snoc X48 N46 g_b32
      have K49 : Keep h0 h48 [] := K47.wr W48 (Or.inr sz_b32)
      refine own_step st48 ?_
      show own_Goes p e below _ (T48.setTop (mkF m 76 #[.val (.int p1), .val (.int p2), .val (.int vst), .unset, .unset] [(.ref b32)]))
      refine own_step (fun t k => XS.dup X48.here hx rfl (hb hby at_76) rfl rfl k) ?_
      show own_Goes p e below _ (T48.setTop (mkF m 77 #[.val (.int p1), .val (.int p2), .val (.int vst), .unset, .unset] [(.ref b32), (.ref b32)]))
      refine own_step (fun t k => XS.bipush X48.here hx rfl (hb hby at_77) k) ?_
      show own_Goes p e below _ (T48.setTop (mkF m 79 #[.val (.int p1), .val (.int p2), .val (.int vst), .unset, .unset] [(.int (8 : Int32)), (.ref b32), (.ref b32)]))
      refine own_step (fun t k => XS.iconst X48.here hx rfl (hb hby at_79) k) ?_
      show own_Goes p e below _ (T48.setTop (mkF m 80 #[.val (.int p1), .val (.int p2), .val (.int vst), .unset, .unset] [(.int (1 : Int32)), (.int (8 : Int32)), (.ref b32), (.ref b32)]))
      obtain ⟨T50, h50, X50, e50, W50, V50, st50⟩ := own_ist X48 hx hZ e48 V48 (j := (8 : Int32)) ⟨by decide, by decide⟩ (8) rfl (Nat.le_of_ble_eq_true rfl) (g := (mkF m 80 #[.val (.int p1), .val (.int p2), .val (.int vst), .unset, .unset] [(.int (1 : Int32)), (.int (8 : Int32)), (.ref b32), (.ref b32)])) rfl rfl (hb hby at_80)
      have V50 : Arv Z h50 b32 k32 .int (10 : Int32) (([(2 : Int32), (5 : Int32), (1 : Int32), (5 : Int32), (4 : Int32), (1 : Int32), (1 : Int32), (1 : Int32), (1 : Int32), (0 : Int32)] : List Int32).map Value.int) (Value.int 0) := V50
      have N50 := Fr.snoc X50 N48 g_b32
      have K51 : Keep h0 h50 [] := K49.wr W50 (Or.inr sz_b32)
      refine own_step st50 ?_
      show own_Goes p e below _ (T50.setTop (mkF m 81 #[.val (.int p1), .val (.int p2), .val (.int vst), .unset, .unset] [(.ref b32)]))
      refine own_step (fun t k => XS.dup X50.here hx rfl (hb hby at_81) rfl rfl k) ?_
      show own_Goes p e below _ (T50.setTop (mkF m 82 #[.val (.int p1), .val (.int p2), .val (.int vst), .unset, .unset] [(.ref b32), (.ref b32)]))
      refine own_step (fun t k => XS.bipush X50.here hx rfl (hb hby at_82) k) ?_
      show own_Goes p e below _ (T50.setTop (mkF m 84 #[.val (.int p1), .val (.int p2), .val (.int vst), .unset, .unset] [(.int (9 : Int32)), (.ref b32), (.ref b32)]))
      refine own_step (fun t k => XS.iconst X50.here hx rfl (hb hby at_84) k) ?_
      show own_Goes p e below _ (T50.setTop (mkF m 85 #[.val (.int p1), .val (.int p2), .val (.int vst), .unset, .unset] [(.int (3 : Int32)), (.int (9 : Int32)), (.ref b32), (.ref b32)]))
      obtain ⟨T52, h52, X52, e52, W52, V52, st52⟩ := own_ist X50 hx hZ e50 V50 (j := (9 : Int32)) ⟨by decide, by decide⟩ (9) rfl (Nat.le_of_ble_eq_true rfl) (g := (mkF m 85 #[.val (.int p1), .val (.int p2), .val (.int vst), .unset, .unset] [(.int (3 : Int32)), (.int (9 : Int32)), (.ref b32), (.ref b32)])) rfl rfl (hb hby at_85)
      have V52 : Arv Z h52 b32 k32 .int (10 : Int32) (([(2 : Int32), (5 : Int32), (1 : Int32), (5 : Int32), (4 : Int32), (1 : Int32), (1 : Int32), (1 : Int32), (1 : Int32), (3 : Int32)] : List Int32).map Value.int) (Value.int 0) := V52
      have N52 := Fr.snoc X52 N50 g_b32
      have K53 : Keep h0 h52 [] := K51.wr W52 (Or.inr sz_b32)
      refine own_step st52 ?_
      show own_Goes p e below _ (T52.setTop (mkF m 86 #[.val (.int p1), .val (.int p2), .val (.int vst), .unset, .unset] [(.ref b32)]))
      refine own_step (fun t k => XS.astoreN X52.here hx rfl (hb hby at_86) rfl rfl (l' := #[.val (.int p1), .val (.int p2), .val (.int vst), .val (.ref b32), .unset]) rfl k) ?_
      show own_Goes p e below _ (T52.setTop (mkF m 87 #[.val (.int p1), .val (.int p2), .val (.int vst), .val (.ref b32), .unset] []))
      refine own_step (fun t k => XS.iconst X52.here hx rfl (hb hby at_87) k) ?_
      show own_Goes p e below _ (T52.setTop (mkF m 88 #[.val (.int p1), .val (.int p2), .val (.int vst), .val (.ref b32), .unset] [(.int (1 : Int32))]))
      refine own_step (fun t k => XS.istore X52.here hx rfl (hb hby at_88) rfl (l' := #[.val (.int p1), .val (.int p2), .val (.int vst), .val (.ref b32), .val (.int (1 : Int32))]) rfl k) ?_
      show own_Goes p e below _ (T52.setTop (mkF m 90 #[.val (.int p1), .val (.int p2), .val (.int vst), .val (.ref b32), .val (.int (1 : Int32))] []))
      refine own_step (fun t k => XS.iloadN X52.here hx rfl (hb hby at_90) rfl k) ?_
      show own_Goes p e below _ (T52.setTop (mkF m 91 #[.val (.int p1), .val (.int p2), .val (.int vst), .val (.ref b32), .val (.int (1 : Int32))] [(.int vst)]))
      refine own_step (fun t k => XS.sipush X52.here hx rfl (hb hby at_91) k) ?_
      show own_Goes p e below _ (T52.setTop (mkF m 94 #[.val (.int p1), .val (.int p2), .val (.int vst), .val (.ref b32), .val (.int (1 : Int32))] [(.int (400 : Int32)), (.int vst)]))
      refine own_step (S' := T52.setTop (mkF m 113 #[.val (.int p1), .val (.int p2), .val (.int vst), .val (.ref b32), .val (.int (if vst < (400 : Int32) then (1 : Int32) else (if (409 : Int32) < vst then (1 : Int32) else (([(2 : Int32), (5 : Int32), (1 : Int32), (5 : Int32), (4 : Int32), (1 : Int32), (1 : Int32), (1 : Int32), (1 : Int32), (3 : Int32)] : List Int32).getD (vst - (400 : Int32)).toNatClampNeg 0))))] [])) (fun t k => ?_) ?_
      · show Steps p.tables e below (T52.setTop (mkF m 94 #[.val (.int p1), .val (.int p2), .val (.int vst), .val (.ref b32), .val (.int (1 : Int32))] [(.int (400 : Int32)), (.int vst)])) _
        by_cases hc54 : vst < (400 : Int32)
        · --
          refine XS.icmpYes X52.here hx rfl (pc0 := 94) (pc' := 113) rfl (hb hby at_94) rfl (tlt hc54).1 (by decide) (by decide) ?_
          show Steps p.tables e below (T52.setTop (mkF m 113 #[.val (.int p1), .val (.int p2), .val (.int vst), .val (.ref b32), .val (.int (1 : Int32))] [])) _
          simp only [if_pos hc54] at k
          exact k
        · --
          refine XS.icmpNo X52.here hx rfl (hb hby at_94) rfl (flt hc54).1 ?_
          show Steps p.tables e below (T52.setTop (mkF m 97 #[.val (.int p1), .val (.int p2), .val (.int vst), .val (.ref b32), .val (.int (1 : Int32))] [])) _
          refine XS.iloadN X52.here hx rfl (hb hby at_97) rfl ?_
          show Steps p.tables e below (T52.setTop (mkF m 98 #[.val (.int p1), .val (.int p2), .val (.int vst), .val (.ref b32), .val (.int (1 : Int32))] [(.int vst)])) _
          refine XS.sipush X52.here hx rfl (hb hby at_98) ?_
          show Steps p.tables e below (T52.setTop (mkF m 101 #[.val (.int p1), .val (.int p2), .val (.int vst), .val (.ref b32), .val (.int (1 : Int32))] [(.int (409 : Int32)), (.int vst)])) _
          by_cases hc55 : (409 : Int32) < vst
          · --
            refine XS.icmpYes X52.here hx rfl (pc0 := 101) (pc' := 113) rfl (hb hby at_101) rfl (tlt hc55).2.2.1 (by decide) (by decide) ?_
            show Steps p.tables e below (T52.setTop (mkF m 113 #[.val (.int p1), .val (.int p2), .val (.int vst), .val (.ref b32), .val (.int (1 : Int32))] [])) _
            simp only [if_neg hc54, if_pos hc55] at k
            exact k
          · --
            refine XS.icmpNo X52.here hx rfl (hb hby at_101) rfl (flt hc55).2.2.1 ?_
            show Steps p.tables e below (T52.setTop (mkF m 104 #[.val (.int p1), .val (.int p2), .val (.int vst), .val (.ref b32), .val (.int (1 : Int32))] [])) _
            refine XS.aloadN X52.here hx rfl (hb hby at_104) rfl rfl ?_
            show Steps p.tables e below (T52.setTop (mkF m 105 #[.val (.int p1), .val (.int p2), .val (.int vst), .val (.ref b32), .val (.int (1 : Int32))] [(.ref b32)])) _
            refine XS.iloadN X52.here hx rfl (hb hby at_105) rfl ?_
            show Steps p.tables e below (T52.setTop (mkF m 106 #[.val (.int p1), .val (.int p2), .val (.int vst), .val (.ref b32), .val (.int (1 : Int32))] [(.int vst), (.ref b32)])) _
            refine XS.sipush X52.here hx rfl (hb hby at_106) ?_
            show Steps p.tables e below (T52.setTop (mkF m 109 #[.val (.int p1), .val (.int p2), .val (.int vst), .val (.ref b32), .val (.int (1 : Int32))] [(.int (400 : Int32)), (.int vst), (.ref b32)])) _
            refine XS.isub X52.here hx rfl (hb hby at_109) rfl ?_
            show Steps p.tables e below (T52.setTop (mkF m 110 #[.val (.int p1), .val (.int p2), .val (.int vst), .val (.ref b32), .val (.int (1 : Int32))] [(.int (vst - (400 : Int32))), (.ref b32)])) _
            refine own_ial X52 hx hZ e52 V52 (own_idx (by assumption) (by assumption)) (g := (mkF m 110 #[.val (.int p1), .val (.int p2), .val (.int vst), .val (.ref b32), .val (.int (1 : Int32))] [(.int (vst - (400 : Int32))), (.ref b32)])) rfl rfl (hb hby at_110) _ ?_
            show Steps p.tables e below (T52.setTop (mkF m 111 #[.val (.int p1), .val (.int p2), .val (.int vst), .val (.ref b32), .val (.int (1 : Int32))] [(.int (([(2 : Int32), (5 : Int32), (1 : Int32), (5 : Int32), (4 : Int32), (1 : Int32), (1 : Int32), (1 : Int32), (1 : Int32), (3 : Int32)] : List Int32).getD (vst - (400 : Int32)).toNatClampNeg 0))])) _
            refine XS.istore X52.here hx rfl (hb hby at_111) rfl (l' := #[.val (.int p1), .val (.int p2), .val (.int vst), .val (.ref b32), .val (.int (([(2 : Int32), (5 : Int32), (1 : Int32), (5 : Int32), (4 : Int32), (1 : Int32), (1 : Int32), (1 : Int32), (1 : Int32), (3 : Int32)] : List Int32).getD (vst - (400 : Int32)).toNatClampNeg 0))]) rfl ?_
            show Steps p.tables e below (T52.setTop (mkF m 113 #[.val (.int p1), .val (.int p2), .val (.int vst), .val (.ref b32), .val (.int (([(2 : Int32), (5 : Int32), (1 : Int32), (5 : Int32), (4 : Int32), (1 : Int32), (1 : Int32), (1 : Int32), (1 : Int32), (3 : Int32)] : List Int32).getD (vst - (400 : Int32)).toNatClampNeg 0))] [])) _
            simp only [if_neg hc54, if_neg hc55] at k
            exact k
      show own_Goes p e below _ (T52.setTop (mkF m 113 #[.val (.int p1), .val (.int p2), .val (.int vst), .val (.ref b32), .val (.int (if vst < (400 : Int32) then (1 : Int32) else (if (409 : Int32) < vst then (1 : Int32) else (([(2 : Int32), (5 : Int32), (1 : Int32), (5 : Int32), (4 : Int32), (1 : Int32), (1 : Int32), (1 : Int32), (1 : Int32), (3 : Int32)] : List Int32).getD (vst - (400 : Int32)).toNatClampNeg 0))))] []))
      refine own_step (fun t k => XS.iloadN X52.here hx rfl (hb hby at_113) rfl k) ?_
      show own_Goes p e below _ (T52.setTop (mkF m 114 #[.val (.int p1), .val (.int p2), .val (.int vst), .val (.ref b32), .val (.int (if vst < (400 : Int32) then (1 : Int32) else (if (409 : Int32) < vst then (1 : Int32) else (([(2 : Int32), (5 : Int32), (1 : Int32), (5 : Int32), (4 : Int32), (1 : Int32), (1 : Int32), (1 : Int32), (1 : Int32), (3 : Int32)] : List Int32).getD (vst - (400 : Int32)).toNatClampNeg 0))))] [(.int vst)]))
      obtain ⟨_, _, ⟨T56, L56, k56, n56⟩, -, X56, ⟨Lc56, hQ56, l56, y56, z56⟩, st56⟩ := Jvm.LawKit.callS X52 hx (y := (⟨"com/example/noctule/noctule/cli/ExitCodes", "forHttpStatus", "(I)I"⟩ : MethodName)) hown (mvT hZ w1) (mvT hZ w2) (mvT hZ w3) (mvT hZ w4) (by decide) (backOf (W := 0) (own_b1 l Z a0 hw [] vst  h52 n0 (Nat.le_trans (Nat.le_trans (Nat.le_trans (Nat.le_trans (Nat.le_trans (Nat.le_trans (Nat.le_trans (Nat.le_trans (Nat.le_trans (Nat.le_trans (Nat.le_trans Z0 E32.1) (Keep.of_wr W34).1) (Keep.of_wr W36).1) (Keep.of_wr W38).1) (Keep.of_wr W40).1) (Keep.of_wr W42).1) (Keep.of_wr W44).1) (Keep.of_wr W46).1) (Keep.of_wr W48).1) (Keep.of_wr W50).1) (Keep.of_wr W52).1) ) hZ w4 w3 (by decide) (by decide)) (g := (mkF m 114 #[.val (.int p1), .val (.int p2), .val (.int vst), .val (.ref b32), .val (.int (if vst < (400 : Int32) then (1 : Int32) else (if (409 : Int32) < vst then (1 : Int32) else (([(2 : Int32), (5 : Int32), (1 : Int32), (5 : Int32), (4 : Int32), (1 : Int32), (1 : Int32), (1 : Int32), (1 : Int32), (3 : Int32)] : List Int32).getD (vst - (400 : Int32)).toNatClampNeg 0))))] [(.int vst)])) rfl (by rw [hml]; rfl) (argsL := [(.int vst)]) (rest := []) (lenOf own_pd0 rfl) rfl (by show 2 * 0 + _ ≤ _; exact Nat.le_of_eq rfl) (hb hby at_114) (fun _ _ => ⟨rfl, e52, (by decide : 1 + 0 ≤ _), (by decide : 10 + 0 ≤ _)⟩)
      dsimp only [Pt.U, Pt.locs, Pt.cells, Pt.slots] at X56 l56 y56 z56 st56 hQ56
      subst l56 y56 z56
      obtain ⟨rfl, N56q, eh56⟩ := hQ56
      have N56 := Fr.app N52 N56q
      refine own_step st56 ?_
      show own_Goes p e below _ (T56.setTop (mkF m 117 #[.val (.int p1), .val (.int p2), .val (.int vst), .val (.ref b32), .val (.int (if vst < (400 : Int32) then (1 : Int32) else (if (409 : Int32) < vst then (1 : Int32) else (([(2 : Int32), (5 : Int32), (1 : Int32), (5 : Int32), (4 : Int32), (1 : Int32), (1 : Int32), (1 : Int32), (1 : Int32), (3 : Int32)] : List Int32).getD (vst - (400 : Int32)).toNatClampNeg 0))))] [(.int (own_http vst))]))
      refine own_step (fun t k => XS.iload X56.here hx rfl (hb hby at_117) rfl k) ?_
      show own_Goes p e below _ (T56.setTop (mkF m 119 #[.val (.int p1), .val (.int p2), .val (.int vst), .val (.ref b32), .val (.int (if vst < (400 : Int32) then (1 : Int32) else (if (409 : Int32) < vst then (1 : Int32) else (([(2 : Int32), (5 : Int32), (1 : Int32), (5 : Int32), (4 : Int32), (1 : Int32), (1 : Int32), (1 : Int32), (1 : Int32), (3 : Int32)] : List Int32).getD (vst - (400 : Int32)).toNatClampNeg 0))))] [(.int (if vst < (400 : Int32) then (1 : Int32) else (if (409 : Int32) < vst then (1 : Int32) else (([(2 : Int32), (5 : Int32), (1 : Int32), (5 : Int32), (4 : Int32), (1 : Int32), (1 : Int32), (1 : Int32), (1 : Int32), (3 : Int32)] : List Int32).getD (vst - (400 : Int32)).toNatClampNeg 0)))), (.int (own_http vst))]))
      refine own_step (S' := T56.setTop (mkF m 127 #[.val (.int p1), .val (.int p2), .val (.int vst), .val (.ref b32), .val (.int (if vst < (400 : Int32) then (1 : Int32) else (if (409 : Int32) < vst then (1 : Int32) else (([(2 : Int32), (5 : Int32), (1 : Int32), (5 : Int32), (4 : Int32), (1 : Int32), (1 : Int32), (1 : Int32), (1 : Int32), (3 : Int32)] : List Int32).getD (vst - (400 : Int32)).toNatClampNeg 0))))] [(.int (if (own_http vst) = (if vst < (400 : Int32) then (1 : Int32) else (if (409 : Int32) < vst then (1 : Int32) else (([(2 : Int32), (5 : Int32), (1 : Int32), (5 : Int32), (4 : Int32), (1 : Int32), (1 : Int32), (1 : Int32), (1 : Int32), (3 : Int32)] : List Int32).getD (vst - (400 : Int32)).toNatClampNeg 0))) then (1 : Int32) else (0 : Int32)))])) (fun t k => ?_) ?_
      · show Steps p.tables e below (T56.setTop (mkF m 119 #[.val (.int p1), .val (.int p2), .val (.int vst), .val (.ref b32), .val (.int (if vst < (400 : Int32) then (1 : Int32) else (if (409 : Int32) < vst then (1 : Int32) else (([(2 : Int32), (5 : Int32), (1 : Int32), (5 : Int32), (4 : Int32), (1 : Int32), (1 : Int32), (1 : Int32), (1 : Int32), (3 : Int32)] : List Int32).getD (vst - (400 : Int32)).toNatClampNeg 0))))] [(.int (if vst < (400 : Int32) then (1 : Int32) else (if (409 : Int32) < vst then (1 : Int32) else (([(2 : Int32), (5 : Int32), (1 : Int32), (5 : Int32), (4 : Int32), (1 : Int32), (1 : Int32), (1 : Int32), (1 : Int32), (3 : Int32)] : List Int32).getD (vst - (400 : Int32)).toNatClampNeg 0)))), (.int (own_http vst))])) _
        by_cases hc57 : (own_http vst) = (if vst < (400 : Int32) then (1 : Int32) else (if (409 : Int32) < vst then (1 : Int32) else (([(2 : Int32), (5 : Int32), (1 : Int32), (5 : Int32), (4 : Int32), (1 : Int32), (1 : Int32), (1 : Int32), (1 : Int32), (3 : Int32)] : List Int32).getD (vst - (400 : Int32)).toNatClampNeg 0)))
        · --
          refine XS.icmpNo X56.here hx rfl (hb hby at_119) rfl (teq hc57).2 ?_
          show Steps p.tables e below (T56.setTop (mkF m 122 #[.val (.int p1), .val (.int p2), .val (.int vst), .val (.ref b32), .val (.int (if vst < (400 : Int32) then (1 : Int32) else (if (409 : Int32) < vst then (1 : Int32) else (([(2 : Int32), (5 : Int32), (1 : Int32), (5 : Int32), (4 : Int32), (1 : Int32), (1 : Int32), (1 : Int32), (1 : Int32), (3 : Int32)] : List Int32).getD (vst - (400 : Int32)).toNatClampNeg 0))))] [])) _
          refine XS.iconst X56.here hx rfl (hb hby at_122) ?_
          show Steps p.tables e below (T56.setTop (mkF m 123 #[.val (.int p1), .val (.int p2), .val (.int vst), .val (.ref b32), .val (.int (if vst < (400 : Int32) then (1 : Int32) else (if (409 : Int32) < vst then (1 : Int32) else (([(2 : Int32), (5 : Int32), (1 : Int32), (5 : Int32), (4 : Int32), (1 : Int32), (1 : Int32), (1 : Int32), (1 : Int32), (3 : Int32)] : List Int32).getD (vst - (400 : Int32)).toNatClampNeg 0))))] [(.int (1 : Int32))])) _
          refine XS.goto X56.here hx rfl (pc0 := 123) (pc' := 127) rfl (hb hby at_123) (by decide) (by decide) ?_
          show Steps p.tables e below (T56.setTop (mkF m 127 #[.val (.int p1), .val (.int p2), .val (.int vst), .val (.ref b32), .val (.int (if vst < (400 : Int32) then (1 : Int32) else (if (409 : Int32) < vst then (1 : Int32) else (([(2 : Int32), (5 : Int32), (1 : Int32), (5 : Int32), (4 : Int32), (1 : Int32), (1 : Int32), (1 : Int32), (1 : Int32), (3 : Int32)] : List Int32).getD (vst - (400 : Int32)).toNatClampNeg 0))))] [(.int (1 : Int32))])) _
          simp only [if_pos hc57] at k
          exact k
        · --
          refine XS.icmpYes X56.here hx rfl (pc0 := 119) (pc' := 126) rfl (hb hby at_119) rfl (feq hc57).2 (by decide) (by decide) ?_
          show Steps p.tables e below (T56.setTop (mkF m 126 #[.val (.int p1), .val (.int p2), .val (.int vst), .val (.ref b32), .val (.int (if vst < (400 : Int32) then (1 : Int32) else (if (409 : Int32) < vst then (1 : Int32) else (([(2 : Int32), (5 : Int32), (1 : Int32), (5 : Int32), (4 : Int32), (1 : Int32), (1 : Int32), (1 : Int32), (1 : Int32), (3 : Int32)] : List Int32).getD (vst - (400 : Int32)).toNatClampNeg 0))))] [])) _
          refine XS.iconst X56.here hx rfl (hb hby at_126) ?_
          show Steps p.tables e below (T56.setTop (mkF m 127 #[.val (.int p1), .val (.int p2), .val (.int vst), .val (.ref b32), .val (.int (if vst < (400 : Int32) then (1 : Int32) else (if (409 : Int32) < vst then (1 : Int32) else (([(2 : Int32), (5 : Int32), (1 : Int32), (5 : Int32), (4 : Int32), (1 : Int32), (1 : Int32), (1 : Int32), (1 : Int32), (3 : Int32)] : List Int32).getD (vst - (400 : Int32)).toNatClampNeg 0))))] [(.int (0 : Int32))])) _
          simp only [if_neg hc57] at k
          exact k
      show own_Goes p e below _ (T56.setTop (mkF m 127 #[.val (.int p1), .val (.int p2), .val (.int vst), .val (.ref b32), .val (.int (if vst < (400 : Int32) then (1 : Int32) else (if (409 : Int32) < vst then (1 : Int32) else (([(2 : Int32), (5 : Int32), (1 : Int32), (5 : Int32), (4 : Int32), (1 : Int32), (1 : Int32), (1 : Int32), (1 : Int32), (3 : Int32)] : List Int32).getD (vst - (400 : Int32)).toNatClampNeg 0))))] [(.int (if (own_http vst) = (if vst < (400 : Int32) then (1 : Int32) else (if (409 : Int32) < vst then (1 : Int32) else (([(2 : Int32), (5 : Int32), (1 : Int32), (5 : Int32), (4 : Int32), (1 : Int32), (1 : Int32), (1 : Int32), (1 : Int32), (3 : Int32)] : List Int32).getD (vst - (400 : Int32)).toNatClampNeg 0))) then (1 : Int32) else (0 : Int32)))]))
      refine own_retL X56 hx hlk Bd.returns (hb hby at_127) (?_ : (if (own_http vst) = (if vst < (400 : Int32) then (1 : Int32) else (if (409 : Int32) < vst then (1 : Int32) else (([(2 : Int32), (5 : Int32), (1 : Int32), (5 : Int32), (4 : Int32), (1 : Int32), (1 : Int32), (1 : Int32), (1 : Int32), (3 : Int32)] : List Int32).getD (vst - (400 : Int32)).toNatClampNeg 0))) then (1 : Int32) else (0 : Int32)) = 1) N56 (by decide) (by decide)
      exact own_plain vst
    · --
      refine own_step (fun t k => XS.icmpNo X0.here hx rfl (hb hby at_33) rfl (flt hc31).2.2.1 k) ?_
      show own_Goes p e below _ (s₁.setTop (mkF m 36 #[.val (.int p1), .val (.int p2), .val (.int vst), .unset, .unset] []))
      refine own_step (fun t k => XS.iconst X0.here hx rfl (hb hby at_36) k) ?_
      show own_Goes p e below _ (s₁.setTop (mkF m 37 #[.val (.int p1), .val (.int p2), .val (.int vst), .unset, .unset] [(.int (1 : Int32))]))
      refine own_retL X0 hx hlk Bd.returns (hb hby at_37) (?_ : (1 : Int32) = 1) N0 (by decide) (by decide)
      exact rfl
set_option maxRecDepth 65536 in
set_option maxHeartbeats 40000000 in
theorem comes_1 {Post : Tables → Env → Array Value → State → Outcome → State → Prop} (hpost : ∀ tb e args s v u, (limb_1_1.after args s (.returned v) u = true ∧ limb_1_2.after args s (.returned v) u = true ∧ True) → FrameEnd s (.returned v) u (Jvm.fieldLocs frame_1_writes args s ++ Jvm.arrayLocs frame_1_arrays args s ++ Jvm.staticLocs frame_1_statics s) 16 128 → Post tb e args s (.returned v) u) :
    ArmFor flags0 classFile x code maxLocals ret World_1 tables_1 room_1 Calls_1 rest_1 Pre_1 Post := by
  intro l hfl _ _ p e ha hc hk s m args below hf hA hF happ hP
  obtain ⟨hcalls, hrest, hpre⟩ := hP
  obtain ⟨-, -, -, hnamed, -, -, -, hat⟩ := (Spec.applies_iff hf).mp happ
  obtain ⟨hg, hn⟩ := and_e (Cond.before_iff.mp (show (Jvm.Cond.and given_1 narrow_1).before args s = true from hpre))
  obtain ⟨gg1, gg2⟩ := and_e hg
  obtain ⟨gg3, gg4⟩ := and_e gg2
  obtain ⟨w0, w1, rfl⟩ : ∃ w0 w1 : Value, args = #[w0, w1] := by
    have hs : args.size = 2 := by simpa [Cond.value, given_1] using gg1
    obtain ⟨L⟩ := args
    match L, hs with
    | [w0, w1], _ => exact ⟨w0, w1, rfl⟩
  have hw := fun d (hd : d ∈ tables_1) => atoms_spec (ws := Jvm.Cond.code x code maxLocals ret :: tables_1) hat d (List.mem_cons_of_mem _ hd)
  have hfit : Fit s := fun {y c} hc i hi => by
    obtain ⟨ha, rfl⟩ := Array.getElem?_eq_some_iff.mp hc
    have q := List.all_eq_true.mp ((Array.all_eq_true_iff_forall_mem.mp hF) _ (Array.getElem_mem ha)) i (List.mem_range.mpr hi)
    simpa [Array.getElem?_eq_getElem hi] using q
  obtain ⟨i0, ei0⟩ := is_v gg3
  obtain rfl : w0 = (.int i0) := Option.some.inj ei0
  obtain ⟨i1, ei1⟩ := is_v gg4
  obtain rfl : w1 = (.int i1) := Option.some.inj ei1
  obtain ⟨n, o, h1, h2, h3, _, L, rfl, ⟨rfl, N⟩, hq⟩ := own_law l s _ hw tables_1 i0 i1  s.heap s.heap.size (Nat.le_refl _)  p e ha hc hk s m _ below hf ((Spec.applies_iff_loose hf).mp happ).1 ⟨rfl, State.Warmed39.refl s, rfl⟩ trivial
  refine ⟨n, _, h1, h2, h3, hpost _ _ _ _ _ _ ⟨Cond.after_iff.mpr rfl, Cond.after_iff.mpr (eq_i res_at (Term.int_eval (1)) rfl), trivial⟩ ⟨hq.1, hq.2.1, (hq.2.2.sift fun y hy => Or.inr (N y hy)).mono (by decide) (by decide)⟩⟩
theorem main_1_1 : Claimed_1_1 := comes_1 fun _ _ _ _ _ _ h hF => ⟨h.1, hF⟩
theorem main_1_2 : Claimed_1_2 := comes_1 fun _ _ _ _ _ _ h hF => ⟨h.2.1, hF⟩
end Jvm.Pilot.@@N@@
namespace Jvm.Pilot.@@N@@
open Jvm Jvm.ClassFile Sem Op Lib Jvm.Free Jvm.Stand Jvm.Pilot.@@N@@.Jvm.D
/-! MADE BY PROGRAM (witnessworld.py) out of the Statement's table words and the real class files: 9 classes; the members and pool entries that the words name. The judged class is class 1, her method 1. -/
namespace start1
open Jvm.ClassFile
def u (s : String) : CpInfo := .utf8 (stringToUtf16 s)
/-- a pool by its gaps: so many unusable entries, then the entry; so many at the end -/
def gap : Nat → List CpInfo → List CpInfo
  | 0, r => r
  | n + 1, r => .unusable :: gap n r
def poolList (es : List (Nat × CpInfo)) (last : Nat) : List CpInfo := es.foldr (fun e r => gap e.1 (e.2 :: r)) (gap last [])
def pool (es : List (Nat × CpInfo)) (last : Nat) : Array CpInfo := ⟨poolList es last⟩
def fileOf (pool : Array CpInfo) (this : Nat) (attrs : Array Attribute := #[]) (ms : Array MethodInfo := #[]) (fl : Nat := 33) (sup : Nat := 0) (ifs : Array Nat := #[]) (fds : Array FieldInfo := #[]) : ClassFile where
  minorVersion := 0
  majorVersion := 65
  constantPool := pool
  accessFlags := fl
  thisClass := this
  superClass := sup
  interfaces := ifs
  fields := fds
  methods := ms
  attributes := attrs
def plain (name : String) (sup : Option ClassId) : Class where
  name := name
  kind := .ordinary
  loader := none
  accessFlags := 33
  super := sup
  interfaces := #[]
  cf := none
  fields := #[]
  methods := #[]
  instanceTypes := #[]
  staticTypes := #[]
  resolved := #[]
  callSites := []
  init := .initialized
  statics := none
  mirror := none

def pool0 : Array CpInfo := pool [(5, u "<init>"), (0, u "()V"), (1, .class_ 10), (1, u "java/lang/Object")] 113

def k0m0 : Method := { name := "<init>", desc := "()V", sig := { parameters := [], returnType := none }, accessFlags := 1, code := none }
/-- java/lang/Object -/
def k0 : Class := { plain "java/lang/Object" none with
  accessFlags := 33
  interfaces := #[]
  cf := some (fileOf pool0 8 #[] #[{ accessFlags := 1, nameIndex := 5, descriptorIndex := 6, attributes := #[] }] 33 0 #[] #[])
  fields := #[]
  methods := #[k0m0]
  instanceTypes := #[]
  staticTypes := #[]
  resolved := Array.replicate 124 none
  statics := none }

def pool1 : Array CpInfo := pool [(2, .class_ 4), (1, u "java/lang/Object"), (0, u "<init>"), (0, u "()V"), (0, .methodref 8 9), (0, .class_ 10), (0, .nameAndType 11 12), (0, u "com/example/noctule/noctule/cli/ExitCodes"), (0, u "forHttpStatus"), (0, u "(I)I"), (0, .class_ 14), (0, u "com/example/noctule/noctule/cli/ExitCodesForHttpStatusPinLaw"), (2, u "law"), (0, u "(II)Z")] 5

def k1m0 : Method := { name := "<init>", desc := "()V", sig := { parameters := [], returnType := none }, accessFlags := 1, code := none }
def k1c1 : Code := { maxStack := 4, maxLocals := 5, code := code, exceptionTable := #[], attributes := #[] }
def k1m1 : Method := { name := "law", desc := "(II)Z", sig := { parameters := [.int, .int], returnType := some .boolean }, accessFlags := 9, code := some k1c1 }
/-- com/example/noctule/noctule/cli/ExitCodesForHttpStatusPinLaw -/
def k1 : Class := { plain "com/example/noctule/noctule/cli/ExitCodesForHttpStatusPinLaw" (some 0) with
  accessFlags := 49
  interfaces := #[]
  cf := some (fileOf pool1 13 #[] #[{ accessFlags := 1, nameIndex := 5, descriptorIndex := 6, attributes := #[] }, { accessFlags := 9, nameIndex := 17, descriptorIndex := 18, attributes := #[] }] 49 2 #[] #[])
  fields := #[]
  methods := #[k1m0, k1m1]
  instanceTypes := #[]
  staticTypes := #[]
  resolved := Array.replicate 24 none
  statics := none }

def pool2 : Array CpInfo := pool [(2, .class_ 4), (1, u "java/lang/Object"), (0, u "<init>"), (0, u "()V"), (0, .class_ 8), (0, u "com/example/noctule/noctule/cli/ExitCodes"), (0, u "UNAVAILABLE"), (0, u "I"), (2, u "OUTPUT_LOST"), (0, u "INVALID_INPUT"), (1, u "CONFLICT"), (1, u "NOT_FOUND"), (1, u "TOKEN_REFUSED"), (3, u "forHttpStatus"), (0, u "(I)I")] 3

def k2m0 : Method := { name := "<init>", desc := "()V", sig := { parameters := [], returnType := none }, accessFlags := 2, code := none }
def k2c1 : Code := { maxStack := 1, maxLocals := 1, code := prog_18_method_2_code, exceptionTable := #[], attributes := #[] }
def k2m1 : Method := { name := "forHttpStatus", desc := "(I)I", sig := { parameters := [.int], returnType := some .int }, accessFlags := 8, code := some k2c1 }
/-- com/example/noctule/noctule/cli/ExitCodes -/
def k2 : Class := { plain "com/example/noctule/noctule/cli/ExitCodes" (some 0) with
  accessFlags := 32
  interfaces := #[]
  cf := some (fileOf pool2 7 #[] #[{ accessFlags := 2, nameIndex := 5, descriptorIndex := 6, attributes := #[] }, { accessFlags := 8, nameIndex := 24, descriptorIndex := 25, attributes := #[] }] 32 2 #[] #[{ accessFlags := 24, nameIndex := 9, descriptorIndex := 10, attributes := #[] }, { accessFlags := 24, nameIndex := 13, descriptorIndex := 10, attributes := #[] }, { accessFlags := 24, nameIndex := 14, descriptorIndex := 10, attributes := #[] }, { accessFlags := 24, nameIndex := 16, descriptorIndex := 10, attributes := #[] }, { accessFlags := 24, nameIndex := 18, descriptorIndex := 10, attributes := #[] }, { accessFlags := 24, nameIndex := 20, descriptorIndex := 10, attributes := #[] }])
  fields := #[{ name := "UNAVAILABLE", type := .int, accessFlags := 24, slot := 0, constantValue := 0 }, { name := "OUTPUT_LOST", type := .int, accessFlags := 24, slot := 1, constantValue := 0 }, { name := "INVALID_INPUT", type := .int, accessFlags := 24, slot := 2, constantValue := 0 }, { name := "CONFLICT", type := .int, accessFlags := 24, slot := 3, constantValue := 0 }, { name := "NOT_FOUND", type := .int, accessFlags := 24, slot := 4, constantValue := 0 }, { name := "TOKEN_REFUSED", type := .int, accessFlags := 24, slot := 5, constantValue := 0 }]
  methods := #[k2m0, k2m1]
  instanceTypes := #[]
  staticTypes := #[.int, .int, .int, .int, .int, .int]
  resolved := Array.replicate 29 none
  statics := none }

def pool3 : Array CpInfo := pool [(1, u "java/lang/Cloneable"), (0, .class_ 1), (0, u "java/lang/Object"), (0, .class_ 3)] 3

/-- java/lang/Cloneable -/
def k3 : Class := { plain "java/lang/Cloneable" (some 0) with
  accessFlags := 1537
  interfaces := #[]
  cf := some (fileOf pool3 2 #[] #[] 1537 4 #[] #[])
  fields := #[]
  methods := #[]
  instanceTypes := #[]
  staticTypes := #[]
  resolved := Array.replicate 8 none
  statics := none }

def pool4 : Array CpInfo := pool [(1, u "java/io/Serializable"), (0, .class_ 1), (0, u "java/lang/Object"), (0, .class_ 3)] 3

/-- java/io/Serializable -/
def k4 : Class := { plain "java/io/Serializable" (some 0) with
  accessFlags := 1537
  interfaces := #[]
  cf := some (fileOf pool4 2 #[] #[] 1537 4 #[] #[])
  fields := #[]
  methods := #[]
  instanceTypes := #[]
  staticTypes := #[]
  resolved := Array.replicate 8 none
  statics := none }

/-- the primitive byte -/
def k5 : Class := { plain "byte" none with kind := .primitive 'B', accessFlags := 0x411 }
/-- [B -/
def k6 : Class := { plain "[B" (some 0) with kind := .array 5 .byte, interfaces := #[3, 4], accessFlags := 1041 }

/-- the primitive int -/
def k7 : Class := { plain "int" none with kind := .primitive 'I', accessFlags := 0x411 }
/-- [I -/
def k8 : Class := { plain "[I" (some 0) with kind := .array 7 .int, interfaces := #[3, 4], accessFlags := 1041 }

def heap : Heap := #[]
def classes : Array Class := #[k0, k1, k2, k3, k4, k5, k6, k7, k8]
def interned : List (Array UInt16 × Addr) := []
def slotsUsed : Nat := 0
def theMethod : MethodId := ⟨1, 1⟩
def args0 : Array Value := #[.int 5, .int 3]
def aboutOver (below : List Frame) : State where
  vm := { classes := classes, interned := interned.toArray }
  heap := heap
  slotsUsed := slotsUsed
  threads := #[{ frames := .invoking theMethod args0 :: below }]
def below0 : List Frame := [.native { method := ⟨0, 0⟩, args := #[] }]
def about1 : State := aboutOver below0
def p0 : Program := .bare "" "" ""
def e0 : Env := launch0.env 0 0 0
theorem w_frames : about1.frames = Frame.invoking theMethod args0 :: below0 := rfl
set_option maxRecDepth 65536 in
theorem w_args : argsFit about1.vm theMethod args0 = true := by decide +kernel
set_option maxRecDepth 65536 in
theorem w_heap : heapFits about1 = true := by decide +kernel
set_option maxRecDepth 65536 in
theorem w_runnable : about1.curStatus? = some .runnable := by decide +kernel
set_option maxRecDepth 65536 in
theorem w_alone : about1.alone = true := by decide +kernel
set_option maxRecDepth 65536 in
theorem w_named : about1.methodNamed? x = some theMethod := by decide +kernel
set_option maxRecDepth 65536 in
theorem w_hears : about1.hears theMethod below0 = true := by decide +kernel
set_option maxRecDepth 65536 in
theorem w_ripe : about1.ripe theMethod args0 below0 = true := by decide +kernel
theorem w_running : about1.status = .running := rfl
set_option maxRecDepth 65536 in
theorem w_room : about1.hasRoom e0.platform room_1 = true :=
  launch0.hasRoom_least _ room_1 (by decide +kernel) (by decide +kernel) (by decide +kernel) (by decide +kernel) (by decide +kernel) (by decide +kernel)
theorem allAtoms_all (ts : List Jvm.Cond) (a : Array Jvm.Value) (st : Jvm.State) : (allAtoms ts).before a st = ts.all (fun c => c.before a st) := by
  induction ts with
  | nil => rfl
  | cons c t ih =>
    show (Jvm.Cond.and c (allAtoms t)).before a st = _
    rw [Jvm.Cond.before_and, ih, List.all_cons]
def words1 : List Jvm.Cond := Jvm.Cond.code x code maxLocals ret :: tables_1
/-- a 'code' word, met by the world's own term for the bytes: nothing is compared byte by byte -/
theorem code_word {y : MethodName} {bytes : ByteArray} {mx : Nat} {rt : Option FieldType} {a : Array Value} {s : State} {m : MethodId} {meth : Method} {c : Code} (h1 : s.methodNamed? y = some m) (h2 : s.vm.method? m = some meth) (h3 : meth.code = some c) (h4 : c.code = bytes)
    (h5 : (c.maxLocals == mx && c.exceptionTable.isEmpty && decide (c.maxStack ≤ mostOperands) && decide (meth.sig.returnType = rt) && !meth.locks && decide (parseMethodDescriptor y.desc = some meth.sig)) = true) : (Jvm.Cond.code y bytes mx rt).before a s = true := by
  simp only [Bool.and_eq_true, beq_iff_eq, Bool.not_eq_true', decide_eq_true_eq] at h5
  obtain ⟨⟨⟨⟨⟨g1, g2⟩, g3⟩, g4⟩, g5⟩, g6⟩ := h5
  simp [Cond.before, Cond.holds, Cond.value, h1, h2, h3, h4, g1, g2, g3, g4, g5, g6]
def isCode : Jvm.Cond → Bool
  | .code _ _ _ _ => true
  | _ => false
theorem all_split {L : List Jvm.Cond} {P : Jvm.Cond → Bool} (h1 : L.all (fun c => isCode c || P c) = true) (h2 : ∀ c ∈ L.filter isCode, P c = true) : L.all P = true := by
  refine List.all_eq_true.mpr fun c hc => ?_
  have h := List.all_eq_true.mp h1 c hc
  rcases Bool.eq_false_or_eq_true (isCode c) with hi | hi
  · exact h2 c (List.mem_filter.mpr ⟨hc, hi⟩)
  · simpa [hi] using h
set_option maxRecDepth 65536 in
theorem w_c0 : (Jvm.Cond.code x code maxLocals ret).before args0 about1 = true := code_word (m := ⟨1, 1⟩) (meth := k1m1) (c := k1c1) (by decide +kernel) rfl rfl rfl (by decide +kernel)
set_option maxRecDepth 65536 in
theorem w_c1 : (Jvm.Cond.code ({ cls := "com/example/noctule/noctule/cli/ExitCodes", name := "forHttpStatus", desc := "(I)I" } : Jvm.MethodName) prog_18_method_2_code (1 : Nat) (Option.some Jvm.ClassFile.FieldType.int)).before args0 about1 = true := code_word (m := ⟨2, 1⟩) (meth := k2m1) (c := k2c1) (by decide +kernel) rfl rfl rfl (by decide +kernel)
def codes1 : List Jvm.Cond := [Jvm.Cond.code x code maxLocals ret, Jvm.Cond.code ({ cls := "com/example/noctule/noctule/cli/ExitCodes", name := "forHttpStatus", desc := "(I)I" } : Jvm.MethodName) prog_18_method_2_code (1 : Nat) (Option.some Jvm.ClassFile.FieldType.int)]
set_option maxRecDepth 65536 in
theorem codes_eq : words1.filter isCode = codes1 := rfl
theorem w_codes : ∀ c ∈ words1.filter isCode, c.before args0 about1 = true := by
  rw [codes_eq]
  intro c hc
  simp only [codes1, List.mem_cons, List.not_mem_nil, or_false] at hc
  rcases hc with rfl | rfl
  · exact w_c0
  · exact w_c1
set_option maxRecDepth 65536 in
theorem w_t1 : words1.all (fun c => isCode c || c.before args0 about1) = true := by decide +kernel
theorem w_tables : (allAtoms (Jvm.Cond.code x code maxLocals ret :: tables_1)).before args0 about1 = true := by
  rw [allAtoms_all]
  show words1.all (fun c => c.before args0 about1) = true
  refine all_split ?_ w_codes
  rw [w_t1]
set_option maxRecDepth 65536 in
theorem w_case : (Jvm.Cond.and given_1 narrow_1).before args0 about1 = true := by decide +kernel
theorem w_applies : (headSpec (Jvm.Cond.code x code maxLocals ret :: tables_1) room_1).applies x e0.platform about1 = true :=
  (Spec.applies_iff w_frames).mpr ⟨w_running, w_runnable, w_alone, w_named, w_hears, w_ripe, w_room, w_tables⟩
theorem atStart : AtStart classFile x code maxLocals ret World_1 tables_1 room_1 Calls_1 rest_1 Pre_1 launch0 p0 e0 about1 theMethod args0 below0 :=
  ⟨lists_1, trivial, launch0.admits_env _ _ _, launch0.least_env, fairChoices_fair.cas, fairChoices_fair.clock, w_frames, w_args, w_heap, w_applies, trivial, trivial, w_case⟩
end start1
theorem witness_1 : WitnessClaimed_1 := ⟨start1.p0, start1.e0, start1.about1, start1.theMethod, start1.args0, start1.below0, start1.atStart⟩
end Jvm.Pilot.@@N@@
