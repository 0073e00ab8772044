import JvmDerived
import JvmDerived.Pilot.@@N@@Statement
import JvmDerived.Pilot.@@N@@Code
set_option linter.unusedVariables false
set_option linter.unusedSimpArgs false
namespace Jvm.Pilot.@@N@@
open Jvm Jvm.ClassFile Sem Op Lib Jvm.Free Jvm.Stand Jvm.LawKit Jvm.RoadKit Bundle Jvm.Pilot.@@N@@.Jvm.D
section Own
variable {p : Program} {l : Launch} {e : Env} {R : Room} {s : State} {m : MethodId} {args : Array Value} {below : List Frame} {meth : Method} {c : Code} {T : State} {locs : List Loc} {cells slots : Nat} {Z : State} {h h' : Heap} {a b : Addr} {G : State → Outcome → Prop} {Q : Option Value → Heap → List Loc → Prop} {C K : Nat}
/-- the run comes to an end of which G holds -/
def own_Goes (p : Program) (e : Env) (below : List Frame) (G : State → Outcome → Prop) (S : State) : Prop := ∃ s₂ o, Steps p.tables e below S s₂ ∧ s₂.status = .running ∧ Ended s₂ below o ∧ G s₂ o
theorem own_step {S S' : State} (k : ∀ t, Steps p.tables e below S' t → Steps p.tables e below S t) (h : own_Goes p e below G S') : own_Goes p e below G S := by
  obtain ⟨s₂, o, h1, h2⟩ := h
  exact ⟨s₂, o, k _ h1, h2⟩
theorem own_jump {S S' : State} (k : Steps p.tables e below S S') (h : own_Goes p e below G S') : own_Goes p e below G S := own_step (fun _ q => k.trans q) h
def own_Fin (s : State) (Q : Option Value → Heap → List Loc → Prop) (C K : Nat) : State → Outcome → Prop := fun U o => ∃ v L, o = .returned v ∧ Q v U.heap L ∧ FrameEnd s o U L C K
theorem own_ret0 (X : Stand p l e R s m args below meth c T locs cells slots) (hx : p.tables.exec = Jvm.exec) (hlk : meth.locks = false) (hret : meth.sig.returnType = none) {pc : Nat} {Ls : Array Slot} (hd : decode c.code pc = .ok (.return_, 1)) (hq : Q none T.heap locs) (hc : cells ≤ C) (hk : slots ≤ K) :
    own_Goes p e below (own_Fin s Q C K) (T.setTop (mkF m pc Ls [])) := by
  obtain ⟨fs, hr, hrun, hended, hW, hsame⟩ := X.leave (v := none) (fun _ => rfl)
  exact ⟨_, _, X.returnOut hx hret hd hr, hrun, hended, _, _, rfl, hq, ⟨_, rfl⟩, hW, hsame.mono hc hk⟩
theorem own_retV (X : Stand p l e R s m args below meth c T locs cells slots) (hx : p.tables.exec = Jvm.exec) (hlk : meth.locks = false) {t : FieldType} (hret : meth.sig.returnType = some t) {w : Value} (hn : narrow t w = w) {i : Instr}
    (hi : (i = .ireturn ∧ (t = .int ∨ t = .boolean ∨ t = .byte ∨ t = .char ∨ t = .short) ∧ ∃ z, w = .int z) ∨ (i = .lreturn ∧ t = .long ∧ ∃ z, w = .long z) ∨ (i = .dreturn ∧ t = .double ∧ ∃ z, w = .double z) ∨ (i = .freturn ∧ t = .float ∧ ∃ z, w = .float z) ∨ (i = .areturn ∧ t.isReference = true ∧ w.isRef = true))
    {pc : Nat} {Ls : Array Slot} {rest : List Value} (hd : decode c.code pc = .ok (i, 1)) (hq : Q (some w) T.heap locs) (hc : cells ≤ C) (hk : slots ≤ K) :
    own_Goes p e below (own_Fin s Q C K) (T.setTop (mkF m pc Ls (w :: rest))) := by
  obtain ⟨fs, hr, hrun, hended, hW, hsame⟩ := X.leave (v := some w) (fun h => by rw [hret] at h; cases h)
  exact ⟨_, _, retOut X hx hret hn hi hd hr, hrun, hended, _, _, rfl, hq, ⟨_, rfl⟩, hW, hsame.mono hc hk⟩
theorem own_nb {z : Int32} (h : z = 0 ∨ z = 1) : narrow .boolean (.int z) = .int z := by
  rcases h with rfl | rfl <;> rfl
theorem own_01 {q : Prop} [Decidable q] {x y : Int32} (hx : x = 0 ∨ x = 1) (hy : y = 0 ∨ y = 1) : (if q then x else y) = 0 ∨ (if q then x else y) = 1 := by
  split
  · exact hx
  · exact hy
/-- the law's own promise -/
def own_Q0 (n0 : Nat) (v : Option Value) (h : Heap) (L : List Loc) : Prop := v = some (.int 1) ∧ Fr n0 L
theorem own_retL {n0 : Nat} (X : Stand p l e R s m args below meth c T locs cells slots) (hx : p.tables.exec = Jvm.exec) (hlk : meth.locks = false) (hret : meth.sig.returnType = some .boolean) {pc : Nat} {Ls : Array Slot} {z : Int32} {rest : List Value} (hd : decode c.code pc = .ok (.ireturn, 1)) (hz : z = 1) (N : Fr n0 locs) (hc : cells ≤ C) (hk : slots ≤ K) :
    own_Goes p e below (own_Fin s (own_Q0 n0) C K) (T.setTop (mkF m pc Ls (.int z :: rest))) := by
  subst hz
  exact own_retV X hx hlk hret (own_nb (Or.inr rfl)) (Or.inl ⟨rfl, Or.inr (Or.inl rfl), _, rfl⟩) hd ⟨rfl, N⟩ hc hk
/-! arrays of ints and of longs, by their lists -/
theorem own_getI (xs : List Int32) (n : Nat) : (xs.map Value.int).getD n (Value.int 0) = Value.int (xs.getD n 0) := by
  simp only [List.getD_eq_getElem?_getD, List.getElem?_map]
  cases xs[n]? <;> rfl
theorem own_getJ (xs : List Int64) (n : Nat) : (xs.map Value.long).getD n (Value.long 0) = Value.long (xs.getD n 0) := by
  simp only [List.getD_eq_getElem?_getD, List.getElem?_map]
  cases xs[n]? <;> rfl
theorem own_newI {k : ClassId} {z : Int32} (A : Arr Z h a (newA k .int z) .int) (q : ¬ z < 0) (n : Nat) : Arv Z h a k .int z ((List.replicate n (0 : Int32)).map Value.int) (Value.int 0) :=
  (Arv.new A q).pad fun i => by rw [List.map_replicate]; exact pad_rep [] (Value.int 0) n i
theorem own_newJ {k : ClassId} {z : Int32} (A : Arr Z h a (newA k .long z) .long) (q : ¬ z < 0) (n : Nat) : Arv Z h a k .long z ((List.replicate n (0 : Int64)).map Value.long) (Value.long 0) :=
  (Arv.new A q).pad fun i => by rw [List.map_replicate]; exact pad_rep [] (Value.long 0) n i
theorem own_ial (X : Stand p l e R s m args below meth c T locs cells slots) (hx : p.tables.exec = Jvm.exec) (hZ : Z.Warmed39 s.vm) (eT : T.heap = h) {k : ClassId} {z j : Int32} {xs : List Int32} (F : Arv Z h a k .int z (xs.map Value.int) (Value.int 0)) (hj : ¬ j < 0 ∧ j < z)
    {g : JFrame} (hg : g.method = m) {rest : List Value} (hs : g.stack = .int j :: .ref a :: rest) (hd : decode c.code g.pc = .ok (.iaload, 1)) (t : State) (kk : Steps p.tables e below (T.setTop { g with pc := g.pc + 1, stack := .int (xs.getD j.toNatClampNeg 0) :: rest }) t) : Steps p.tables e below (T.setTop g) t := by
  obtain ⟨cl, Ar, -, S, -, H, -⟩ := F
  have hin := inb_of S hj
  exact X.iaload hx (j := j) (by rw [eT]; exact Ar.1) (State.isArrayOf_alike hZ.alike Ar.2.1) Ar.2.2 hin (H.at hin (own_getI _ _)) hg hs hd t kk
theorem own_lal (X : Stand p l e R s m args below meth c T locs cells slots) (hx : p.tables.exec = Jvm.exec) (hZ : Z.Warmed39 s.vm) (eT : T.heap = h) {k : ClassId} {z j : Int32} {xs : List Int64} (F : Arv Z h a k .long z (xs.map Value.long) (Value.long 0)) (hj : ¬ j < 0 ∧ j < z)
    {g : JFrame} (hg : g.method = m) {rest : List Value} (hs : g.stack = .int j :: .ref a :: rest) (hd : decode c.code g.pc = .ok (.laload, 1)) (t : State) (kk : Steps p.tables e below (T.setTop { g with pc := g.pc + 1, stack := .long (xs.getD j.toNatClampNeg 0) :: rest }) t) : Steps p.tables e below (T.setTop g) t := by
  obtain ⟨cl, Ar, -, S, -, H, -⟩ := F
  have hin := inb_of S hj
  exact X.laload hx (j := j) (by rw [eT]; exact Ar.1) (State.isArrayOf_alike hZ.alike Ar.2.1) Ar.2.2 hin (H.at hin (own_getJ _ _)) hg hs hd t kk
theorem own_len (X : Stand p l e R s m args below meth c T locs cells slots) (hx : p.tables.exec = Jvm.exec) (hZ : Z.Warmed39 s.vm) (eT : T.heap = h) {k : ClassId} {ty : FieldType} {z : Int32} {vs : List Value} {dv : Value} (F : Arv Z h a k ty z vs dv)
    {g : JFrame} (hg : g.method = m) {rest : List Value} (hs : g.stack = .ref a :: rest) (hd : decode c.code g.pc = .ok (.arraylength, 1)) (t : State) (kk : Steps p.tables e below (T.setTop { g with pc := g.pc + 1, stack := .int z :: rest }) t) : Steps p.tables e below (T.setTop g) t := by
  obtain ⟨cl, Ar, -, S, N, -, -⟩ := F
  refine X.arraylength hx (by rw [eT]; exact Ar.1) (State.isArrayOf_alike hZ.alike Ar.2.1) hg hs hd t ?_
  rw [len_of S N]
  exact kk
theorem own_ist (X : Stand p l e R s m args below meth c T locs cells slots) (hx : p.tables.exec = Jvm.exec) (hZ : Z.Warmed39 s.vm) (eT : T.heap = h) {k : ClassId} {z j y : Int32} {xs : List Int32} (F : Arv Z h a k .int z (xs.map Value.int) (Value.int 0)) (hj : ¬ j < 0 ∧ j < z) (n : Nat) (hn : j.toNatClampNeg = n) (hl : n < xs.length)
    {g : JFrame} (hg : g.method = m) {rest : List Value} (hs : g.stack = .int y :: .int j :: .ref a :: rest) (hd : decode c.code g.pc = .ok (.iastore, 1)) :
    ∃ T' h', Stand p l e R s m args below meth c T' (locs ++ [⟨a, j.toNatClampNeg⟩]) cells slots ∧ T'.heap = h' ∧ Wr h h' a j.toNatClampNeg (.int y) ∧ Arv Z h' a k .int z ((xs.set n y).map Value.int) (Value.int 0) ∧ ∀ t, Steps p.tables e below (T'.setTop { g with pc := g.pc + 1, stack := rest }) t → Steps p.tables e below (T.setTop g) t := by
  obtain ⟨cl, Ar, q, S, N, H, I⟩ := F
  obtain ⟨T', h', X', e', W, st⟩ := stI X hx hZ eT Ar (inb_of S hj) hg hs hd
  refine ⟨T', h', X', e', W, ?_, st⟩
  rw [List.map_set]
  exact Arv.set Ar q S N H I rfl W n hn (by rw [List.length_map]; exact hl)
theorem own_lst (X : Stand p l e R s m args below meth c T locs cells slots) (hx : p.tables.exec = Jvm.exec) (hZ : Z.Warmed39 s.vm) (eT : T.heap = h) {k : ClassId} {z j : Int32} {y : Int64} {xs : List Int64} (F : Arv Z h a k .long z (xs.map Value.long) (Value.long 0)) (hj : ¬ j < 0 ∧ j < z) (n : Nat) (hn : j.toNatClampNeg = n) (hl : n < xs.length)
    {g : JFrame} (hg : g.method = m) {rest : List Value} (hs : g.stack = .long y :: .int j :: .ref a :: rest) (hd : decode c.code g.pc = .ok (.lastore, 1)) :
    ∃ T' h', Stand p l e R s m args below meth c T' (locs ++ [⟨a, j.toNatClampNeg⟩]) cells slots ∧ T'.heap = h' ∧ Wr h h' a j.toNatClampNeg (.long y) ∧ Arv Z h' a k .long z ((xs.set n y).map Value.long) (Value.long 0) ∧ ∀ t, Steps p.tables e below (T'.setTop { g with pc := g.pc + 1, stack := rest }) t → Steps p.tables e below (T.setTop g) t := by
  obtain ⟨cl, Ar, q, S, N, H, I⟩ := F
  obtain ⟨T', h', X', e', W, st⟩ := stJ X hx hZ eT Ar (inb_of S hj) hg hs hd
  refine ⟨T', h', X', e', W, ?_, st⟩
  rw [List.map_set]
  exact Arv.set Ar q S N H I rfl W n hn (by rw [List.length_map]; exact hl)
end Own
theorem own_cases {x v : Int32} (h : (x &&& (3 : Int32)) = v) : v = (0 : Int32) ∨ v = (1 : Int32) ∨ v = (2 : Int32) ∨ v = (3 : Int32) := by
  have q := c_and x 3 (by decide)
  rw [h] at q
  have z : (3 : Int32).toInt = 3 := rfl
  have hb : v.toInt = (0 : Int32).toInt ∨ v.toInt = (1 : Int32).toInt ∨ v.toInt = (2 : Int32).toInt ∨ v.toInt = (3 : Int32).toInt := by
    show v.toInt = 0 ∨ v.toInt = 1 ∨ v.toInt = 2 ∨ v.toInt = 3
    omega
  exact hb.imp Int32.toInt_inj.mp (Or.imp Int32.toInt_inj.mp (Or.imp Int32.toInt_inj.mp Int32.toInt_inj.mp))
theorem own_pos {x v : Int64} (h : (x &&& (9223372036854775807 : Int64)) = v) : ¬ v < (0 : Int64) := by
  have q := (c_andSL x (9223372036854775807 : Int64)).2.2 (by decide)
  rw [h] at q
  rw [Int64.lt_iff_toInt_lt]
  have z : (0 : Int64).toInt = 0 := rfl
  omega
theorem own_plain0 (vx vy vz p5 : Int64) : (if (0 : Int32) = (((if (0 : Int32) = (0 : Int32) then (0 : Int32) else (if p5 < vx then (1 : Int32) else (0 : Int32))) + (if (0 : Int32) = (0 : Int32) then (0 : Int32) else (if p5 < vy then (1 : Int32) else (0 : Int32)))) + (if (0 : Int32) = (0 : Int32) then (0 : Int32) else (if p5 < vz then (1 : Int32) else (0 : Int32)))) then (1 : Int32) else (0 : Int32)) = 1 := by
  by_cases c0 : p5 < vx <;> by_cases c1 : p5 < vy <;> by_cases c2 : p5 < vz <;> simp only [c0, c1, c2, if_true, if_false] <;> decide
theorem own_plain1 (vx vy vz p5 : Int64) : (if (if p5 < (((List.replicate 64 (0 : Int64)).set ((0 : Int32).toNatClampNeg) vx).getD (0 : Int32).toNatClampNeg 0) then (1 : Int32) else (0 : Int32)) = (((if (1 : Int32) = (0 : Int32) then (0 : Int32) else (if p5 < vx then (1 : Int32) else (0 : Int32))) + (if (0 : Int32) = (0 : Int32) then (0 : Int32) else (if p5 < vy then (1 : Int32) else (0 : Int32)))) + (if (0 : Int32) = (0 : Int32) then (0 : Int32) else (if p5 < vz then (1 : Int32) else (0 : Int32)))) then (1 : Int32) else (0 : Int32)) = 1 := by
  have g0 : ((List.replicate 64 (0 : Int64)).set ((0 : Int32).toNatClampNeg) vx).getD (0 : Int32).toNatClampNeg 0 = vx := rfl
  simp only [g0]
  by_cases c0 : p5 < vx <;> by_cases c1 : p5 < vy <;> by_cases c2 : p5 < vz <;> simp only [c0, c1, c2, if_true, if_false] <;> decide
theorem own_plain2 (vx vy vz p5 : Int64) : (if (if p5 < ((((List.replicate 64 (0 : Int64)).set ((0 : Int32).toNatClampNeg) vx).set ((1 : Int32).toNatClampNeg) vy).getD (1 : Int32).toNatClampNeg 0) then ((if p5 < ((((List.replicate 64 (0 : Int64)).set ((0 : Int32).toNatClampNeg) vx).set ((1 : Int32).toNatClampNeg) vy).getD (0 : Int32).toNatClampNeg 0) then (1 : Int32) else (0 : Int32)) + (1 : Int32)) else (if p5 < ((((List.replicate 64 (0 : Int64)).set ((0 : Int32).toNatClampNeg) vx).set ((1 : Int32).toNatClampNeg) vy).getD (0 : Int32).toNatClampNeg 0) then (1 : Int32) else (0 : Int32))) = (((if (1 : Int32) = (0 : Int32) then (0 : Int32) else (if p5 < vx then (1 : Int32) else (0 : Int32))) + (if (1 : Int32) = (0 : Int32) then (0 : Int32) else (if p5 < vy then (1 : Int32) else (0 : Int32)))) + (if (0 : Int32) = (0 : Int32) then (0 : Int32) else (if p5 < vz then (1 : Int32) else (0 : Int32)))) then (1 : Int32) else (0 : Int32)) = 1 := by
  have g0 : (((List.replicate 64 (0 : Int64)).set ((0 : Int32).toNatClampNeg) vx).set ((1 : Int32).toNatClampNeg) vy).getD (0 : Int32).toNatClampNeg 0 = vx := rfl
  have g1 : (((List.replicate 64 (0 : Int64)).set ((0 : Int32).toNatClampNeg) vx).set ((1 : Int32).toNatClampNeg) vy).getD (1 : Int32).toNatClampNeg 0 = vy := rfl
  simp only [g0, g1]
  by_cases c0 : p5 < vx <;> by_cases c1 : p5 < vy <;> by_cases c2 : p5 < vz <;> simp only [c0, c1, c2, if_true, if_false] <;> decide
theorem own_plain3 (vx vy vz p5 : Int64) : (if (if p5 < (((((List.replicate 64 (0 : Int64)).set ((0 : Int32).toNatClampNeg) vx).set ((1 : Int32).toNatClampNeg) vy).set ((2 : Int32).toNatClampNeg) vz).getD (2 : Int32).toNatClampNeg 0) then ((if p5 < (((((List.replicate 64 (0 : Int64)).set ((0 : Int32).toNatClampNeg) vx).set ((1 : Int32).toNatClampNeg) vy).set ((2 : Int32).toNatClampNeg) vz).getD (1 : Int32).toNatClampNeg 0) then ((if p5 < (((((List.replicate 64 (0 : Int64)).set ((0 : Int32).toNatClampNeg) vx).set ((1 : Int32).toNatClampNeg) vy).set ((2 : Int32).toNatClampNeg) vz).getD (0 : Int32).toNatClampNeg 0) then (1 : Int32) else (0 : Int32)) + (1 : Int32)) else (if p5 < (((((List.replicate 64 (0 : Int64)).set ((0 : Int32).toNatClampNeg) vx).set ((1 : Int32).toNatClampNeg) vy).set ((2 : Int32).toNatClampNeg) vz).getD (0 : Int32).toNatClampNeg 0) then (1 : Int32) else (0 : Int32))) + (1 : Int32)) else (if p5 < (((((List.replicate 64 (0 : Int64)).set ((0 : Int32).toNatClampNeg) vx).set ((1 : Int32).toNatClampNeg) vy).set ((2 : Int32).toNatClampNeg) vz).getD (1 : Int32).toNatClampNeg 0) then ((if p5 < (((((List.replicate 64 (0 : Int64)).set ((0 : Int32).toNatClampNeg) vx).set ((1 : Int32).toNatClampNeg) vy).set ((2 : Int32).toNatClampNeg) vz).getD (0 : Int32).toNatClampNeg 0) then (1 : Int32) else (0 : Int32)) + (1 : Int32)) else (if p5 < (((((List.replicate 64 (0 : Int64)).set ((0 : Int32).toNatClampNeg) vx).set ((1 : Int32).toNatClampNeg) vy).set ((2 : Int32).toNatClampNeg) vz).getD (0 : Int32).toNatClampNeg 0) then (1 : Int32) else (0 : Int32)))) = (((if (1 : Int32) = (0 : Int32) then (0 : Int32) else (if p5 < vx then (1 : Int32) else (0 : Int32))) + (if (1 : Int32) = (0 : Int32) then (0 : Int32) else (if p5 < vy then (1 : Int32) else (0 : Int32)))) + (if (1 : Int32) = (0 : Int32) then (0 : Int32) else (if p5 < vz then (1 : Int32) else (0 : Int32)))) then (1 : Int32) else (0 : Int32)) = 1 := by
  have g0 : ((((List.replicate 64 (0 : Int64)).set ((0 : Int32).toNatClampNeg) vx).set ((1 : Int32).toNatClampNeg) vy).set ((2 : Int32).toNatClampNeg) vz).getD (0 : Int32).toNatClampNeg 0 = vx := rfl
  have g1 : ((((List.replicate 64 (0 : Int64)).set ((0 : Int32).toNatClampNeg) vx).set ((1 : Int32).toNatClampNeg) vy).set ((2 : Int32).toNatClampNeg) vz).getD (1 : Int32).toNatClampNeg 0 = vy := rfl
  have g2 : ((((List.replicate 64 (0 : Int64)).set ((0 : Int32).toNatClampNeg) vx).set ((1 : Int32).toNatClampNeg) vy).set ((2 : Int32).toNatClampNeg) vz).getD (2 : Int32).toNatClampNeg 0 = vz := rfl
  simp only [g0, g1, g2]
  by_cases c0 : p5 < vx <;> by_cases c1 : p5 < vy <;> by_cases c2 : p5 < vz <;> simp only [c0, c1, c2, if_true, if_false] <;> decide
theorem own_pn0 : plainName "com/example/battlement/battlement/bench/Timings" = true := by first | (simp [plainName, overriddenIn]; done) | decide +kernel
theorem own_dprog_41_method_1_code_0 : decode prog_41_method_1_code 0 = .ok (.aload_n 0, 1) := by decide +kernel
theorem own_dprog_41_method_1_code_1 : decode prog_41_method_1_code 1 = .ok (.invokespecial 1, 3) := by decide +kernel
theorem own_dprog_41_method_1_code_4 : decode prog_41_method_1_code 4 = .ok (.aload_n 0, 1) := by decide +kernel
theorem own_dprog_41_method_1_code_5 : decode prog_41_method_1_code 5 = .ok (.bipush 64, 2) := by decide +kernel
theorem own_dprog_41_method_1_code_7 : decode prog_41_method_1_code 7 = .ok (.newarray .long, 2) := by decide +kernel
theorem own_dprog_41_method_1_code_9 : decode prog_41_method_1_code 9 = .ok (.putfield 7, 3) := by decide +kernel
theorem own_dprog_41_method_1_code_12 : decode prog_41_method_1_code 12 = .ok (.return_, 1) := by decide +kernel
theorem own_b1_ef (m : MethodId) (a1 : Addr) : entryFrame m #[(.ref a1)] 1 = mkF m 0 #[.val (.ref a1)] [] := by first | (simp [entryFrame, mkF, argsToLocals, Value.category]; done) | rfl
def own_b1_Q (Z : State) (a1 : Addr) (u : Value) (h0 : Heap) (n0 : Nat) (v : Option Value) (h : Heap) (L : List Loc) : Prop := ∃ bb : Addr, ∃ kk : ClassId, v = none ∧ Fr n0 L ∧ Keep h0 h [a1] ∧ h0.size ≤ bb ∧ Exa Z h a1 "com/example/battlement/battlement/bench/Timings" ∧ Fld Z h a1 "com/example/battlement/battlement/bench/Timings" "nanos" "[J" (.ref bb) ∧ Fld Z h a1 "com/example/battlement/battlement/bench/Timings" "count" "I" (.int (0 : Int32)) ∧ Arv Z h bb kk .long (64 : Int32) ((List.replicate 64 (0 : Int64)).map Value.long) (Value.long 0)
set_option maxRecDepth 65536 in
set_option maxHeartbeats 40000000 in
theorem own_b1 (l : Launch) (Z : State) (a0 : Array Value) (hw : ∀ d ∈ tables_1, d.before a0 Z = true) (ws : List Jvm.Cond) (a1 : Addr) (u : Value) (h0 : Heap) (n0 : Nat) (Z0 : n0 ≤ h0.size) (E_a1 : Exa Z h0 a1 "com/example/battlement/battlement/bench/Timings") (g_a1 : n0 ≤ a1) (F_nanos_a1 : Fld Z h0 a1 "com/example/battlement/battlement/bench/Timings" "nanos" "[J" u) (F_count_a1 : Fld Z h0 a1 "com/example/battlement/battlement/bench/Timings" "count" "I" (.int (0 : Int32))) :
    MetFree l (⟨"com/example/battlement/battlement/bench/Timings", "<init>", "()V"⟩ : MethodName) (head1 (Jvm.Cond.code (⟨"com/example/battlement/battlement/bench/Timings", "<init>", "()V"⟩ : MethodName) prog_41_method_1_code 1 none :: ws) ({ frames := 1, cells := 1, slots := 64, locals := 12 } : Room)) (fun aa U => aa = #[(.ref a1)] ∧ Z.Warmed39 U.vm ∧ U.heap = h0) (fun _ _ _ _ _ => True) (fun _ U o U' => ∃ v L, o = .returned v ∧ own_b1_Q Z a1 u h0 n0 v U'.heap L ∧ FrameEnd U o U' L ({ frames := 1, cells := 1, slots := 64, locals := 12 } : Room).cells ({ frames := 1, cells := 1, slots := 64, locals := 12 } : Room).slots) := by
  refine MetFree.of_bodySF (plainFor_of_name own_pn0) hisR ?_
  have w2 := hw _ (List.mem_of_getElem? (i := 2) rfl)
  have w7 := hw _ (List.mem_of_getElem? (i := 7) rfl)
  have w8 := hw _ (List.mem_of_getElem? (i := 8) rfl)
  have w9 := hw _ (List.mem_of_getElem? (i := 9) rfl)
  have w10 := hw _ (List.mem_of_getElem? (i := 10) rfl)
  have w11 := hw _ (List.mem_of_getElem? (i := 11) rfl)
  have w12 := hw _ (List.mem_of_getElem? (i := 12) rfl)
  have w19 := hw _ (List.mem_of_getElem? (i := 19) rfl)
  intro p e s m args below meth c s₁ Bd hml0 hP hK
  obtain ⟨rfl, hZ, hh⟩ := hP
  have hx := Bd.exec
  have hby := Bd.bytes
  have hlk := Bd.notSynchronized
  have hml : c.maxLocals = 1 := hml0
  have hown : s.vm.findClass "com/example/battlement/battlement/bench/Timings" = some m.cls := findClass_of_methodNamed Bd.named
  have hnm := (name_of_methodNamed Bd.named Bd.method).1
  have X0 : Stand p l e ({ frames := 1, cells := 1, slots := 64, locals := 12 } : Room) s m #[(.ref a1)] below meth c s₁ [] 0 0 := Stand.of_body Bd
  have e0 : s₁.heap = h0 := by rw [← hh, Bd.state]; rfl
  have N0 := Fr.nil n0
  have K0 : Keep h0 h0 [a1] := Keep.refl h0 _
  show own_Goes p e below (own_Fin s (own_b1_Q Z a1 u h0 n0) ({ frames := 1, cells := 1, slots := 64, locals := 12 } : Room).cells ({ frames := 1, cells := 1, slots := 64, locals := 12 } : Room).slots) _
  refine own_step (fun t k => castTop (own_b1_ef m a1) k) ?_
  show own_Goes p e below _ (s₁.setTop (mkF m 0 #[.val (.ref a1)] []))
  refine own_step (fun t k => XS.aloadN X0.here hx rfl (hb hby own_dprog_41_method_1_code_0) rfl rfl k) ?_
  show own_Goes p e below _ (s₁.setTop (mkF m 1 #[.val (.ref a1)] [(.ref a1)]))
  obtain ⟨T6, X6, e6, st6⟩ := initO X0 hx hZ hown w7 w8 w9 e0 (g := (mkF m 1 #[.val (.ref a1)] [(.ref a1)])) rfl (by rw [hml]; rfl) rfl (hb hby own_dprog_41_method_1_code_1) (by decide) (W := 0) (by show 2 * 0 + _ ≤ _; exact Nat.le_of_eq rfl) (by decide)
  refine own_step st6 ?_
  show own_Goes p e below _ (T6.setTop (mkF m 4 #[.val (.ref a1)] []))
  refine own_step (fun t k => XS.aloadN X6.here hx rfl (hb hby own_dprog_41_method_1_code_4) rfl rfl k) ?_
  show own_Goes p e below _ (T6.setTop (mkF m 5 #[.val (.ref a1)] [(.ref a1)]))
  refine own_step (fun t k => XS.bipush X6.here hx rfl (hb hby own_dprog_41_method_1_code_5) k) ?_
  show own_Goes p e below _ (T6.setTop (mkF m 7 #[.val (.ref a1)] [(.int (64 : Int32)), (.ref a1)]))
  obtain ⟨T7, h7, k7, X7, e7, E7, A7, st7⟩ := newP (aty := .long) X6 hx hZ w10 e6 (g := (mkF m 7 #[.val (.ref a1)] [(.int (64 : Int32)), (.ref a1)])) rfl (hb hby own_dprog_41_method_1_code_7) rfl (by decide) (cap := 64) (by decide) (by decide) (by decide) (by decide)
  obtain ⟨b7, g7⟩ : ∃ z, z = h0.size := ⟨_, rfl⟩
  rw [← g7] at A7 st7
  have ne_a1_b7 : a1 ≠ b7 := Nat.ne_of_lt (Nat.lt_of_lt_of_le E_a1.lt (Nat.le_of_eq g7.symm))
  have g_b7 : n0 ≤ b7 := Nat.le_trans Z0 (Nat.le_of_eq g7.symm)
  have sz_b7 : h0.size ≤ b7 := Nat.le_trans K0.1 (Nat.le_of_eq g7.symm)
  have V7 : Arv Z h7 b7 k7 .long (64 : Int32) ((List.replicate 64 (0 : Int64)).map Value.long) (Value.long (0 : Int64)) := own_newJ A7 (by decide) 64
  have K8 : Keep h0 h7 [a1] := K0.ext E7
  refine own_step st7 ?_
  show own_Goes p e below _ (T7.setTop (mkF m 9 #[.val (.ref a1)] [(.ref b7), (.ref a1)]))
  obtain ⟨T9, h9, X9, e9, W9, st9⟩ := putF X7 hx hZ hown (host := "") (Or.inl w11) Via.refl e7 (F_nanos_a1.ext E7) (E_a1.ext E7) (Or.inl w12) w2 (ty := (.array .long)) (by decide) rfl rfl (g := (mkF m 9 #[.val (.ref a1)] [(.ref b7), (.ref a1)])) rfl rfl (hb hby own_dprog_41_method_1_code_9)
  have Fw9 := (F_nanos_a1.ext E7).same W9
  have N9 := Fr.snoc X9 N0 g_a1
  have K10 : Keep h0 h9 [a1] := K8.wr W9 (Or.inl (List.mem_of_getElem? (i := 0) rfl))
  refine own_step st9 ?_
  show own_Goes p e below _ (T9.setTop (mkF m 12 #[.val (.ref a1)] []))
  refine own_ret0 X9 hx hlk Bd.returns (hb hby own_dprog_41_method_1_code_12) ?_ (by decide) (by decide)
  show own_b1_Q Z a1 u h0 n0 _ T9.heap _
  rw [e9]
  exact ⟨b7, k7, rfl, N9, K10, sz_b7, ((E_a1.ext E7).wr W9), Fw9, ((F_count_a1.ext E7).other W9 (Or.inr (slot_ne (Or.inl w19) (Or.inl w12) (by decide) (t := .int) (t' := (.array .long)) (by decide) (by decide)))), (V7.other W9 (Ne.symm ne_a1_b7))⟩
theorem own_dprog_41_method_2_code_0 : decode prog_41_method_2_code 0 = .ok (.lload_n 1, 1) := by decide +kernel
theorem own_dprog_41_method_2_code_1 : decode prog_41_method_2_code 1 = .ok (.lconst 0, 1) := by decide +kernel
theorem own_dprog_41_method_2_code_2 : decode prog_41_method_2_code 2 = .ok (.lcmp, 1) := by decide +kernel
theorem own_dprog_41_method_2_code_3 : decode prog_41_method_2_code 3 = .ok (.ifCond .ge 17, 3) := by decide +kernel
theorem own_dprog_41_method_2_code_20 : decode prog_41_method_2_code 20 = .ok (.aload_n 0, 1) := by decide +kernel
theorem own_dprog_41_method_2_code_21 : decode prog_41_method_2_code 21 = .ok (.getfield 22, 3) := by decide +kernel
theorem own_dprog_41_method_2_code_24 : decode prog_41_method_2_code 24 = .ok (.aload_n 0, 1) := by decide +kernel
theorem own_dprog_41_method_2_code_25 : decode prog_41_method_2_code 25 = .ok (.getfield 7, 3) := by decide +kernel
theorem own_dprog_41_method_2_code_28 : decode prog_41_method_2_code 28 = .ok (.arraylength, 1) := by decide +kernel
theorem own_dprog_41_method_2_code_29 : decode prog_41_method_2_code 29 = .ok (.if_icmp .ne 20, 3) := by decide +kernel
theorem own_dprog_41_method_2_code_49 : decode prog_41_method_2_code 49 = .ok (.aload_n 0, 1) := by decide +kernel
theorem own_dprog_41_method_2_code_50 : decode prog_41_method_2_code 50 = .ok (.getfield 7, 3) := by decide +kernel
theorem own_dprog_41_method_2_code_53 : decode prog_41_method_2_code 53 = .ok (.aload_n 0, 1) := by decide +kernel
theorem own_dprog_41_method_2_code_54 : decode prog_41_method_2_code 54 = .ok (.dup, 1) := by decide +kernel
theorem own_dprog_41_method_2_code_55 : decode prog_41_method_2_code 55 = .ok (.getfield 22, 3) := by decide +kernel
theorem own_dprog_41_method_2_code_58 : decode prog_41_method_2_code 58 = .ok (.dup_x1, 1) := by decide +kernel
theorem own_dprog_41_method_2_code_59 : decode prog_41_method_2_code 59 = .ok (.iconst 1, 1) := by decide +kernel
theorem own_dprog_41_method_2_code_60 : decode prog_41_method_2_code 60 = .ok (.iadd, 1) := by decide +kernel
theorem own_dprog_41_method_2_code_61 : decode prog_41_method_2_code 61 = .ok (.putfield 22, 3) := by decide +kernel
theorem own_dprog_41_method_2_code_64 : decode prog_41_method_2_code 64 = .ok (.lload_n 1, 1) := by decide +kernel
theorem own_dprog_41_method_2_code_65 : decode prog_41_method_2_code 65 = .ok (.lastore, 1) := by decide +kernel
theorem own_dprog_41_method_2_code_66 : decode prog_41_method_2_code 66 = .ok (.return_, 1) := by decide +kernel
theorem own_b2_ef (m : MethodId) (a1 : Addr) (q1 : Int64) : entryFrame m #[(.ref a1), (.long q1)] 3 = mkF m 0 #[.val (.ref a1), .val (.long q1), .second] [] := by first | (simp [entryFrame, mkF, argsToLocals, Value.category]; done) | rfl
def own_b2_Q (Z : State) (a1 : Addr) (q1 : Int64) (w3 : Int32) (bb : Addr) (kk : ClassId) (xs1 : List Int64) (h0 : Heap) (n0 : Nat) (v : Option Value) (h : Heap) (L : List Loc) : Prop := v = none ∧ Fr n0 L ∧ Keep h0 h [a1, bb] ∧ Exa Z h a1 "com/example/battlement/battlement/bench/Timings" ∧ Fld Z h a1 "com/example/battlement/battlement/bench/Timings" "count" "I" (.int (w3 + (1 : Int32))) ∧ Fld Z h a1 "com/example/battlement/battlement/bench/Timings" "nanos" "[J" (.ref bb) ∧ Arv Z h bb kk .long (64 : Int32) ((xs1.set (w3.toNatClampNeg) q1).map Value.long) (Value.long 0)
set_option maxRecDepth 65536 in
set_option maxHeartbeats 40000000 in
theorem own_b2 (l : Launch) (Z : State) (a0 : Array Value) (hw : ∀ d ∈ tables_1, d.before a0 Z = true) (ws : List Jvm.Cond) (a1 : Addr) (q1 : Int64) (w3 : Int32) (bb : Addr) (kk : ClassId) (xs1 : List Int64) (h0 : Heap) (n0 : Nat) (Z0 : n0 ≤ h0.size) (E_a1 : Exa Z h0 a1 "com/example/battlement/battlement/bench/Timings") (g_a1 : n0 ≤ a1) (F_count_a1 : Fld Z h0 a1 "com/example/battlement/battlement/bench/Timings" "count" "I" (.int w3)) (F_nanos_a1 : Fld Z h0 a1 "com/example/battlement/battlement/bench/Timings" "nanos" "[J" (.ref bb)) (V_bb : Arv Z h0 bb kk .long (64 : Int32) (xs1.map Value.long) (Value.long 0)) (g_bb : n0 ≤ bb) (ne_a1_bb : a1 ≠ bb) (hq1 : ¬ q1 < (0 : Int64)) (hne : ¬ w3 = (64 : Int32)) (hin : ¬ w3 < 0 ∧ w3 < (64 : Int32)) (hln : w3.toNatClampNeg < xs1.length) :
    MetFree l (⟨"com/example/battlement/battlement/bench/Timings", "add", "(J)V"⟩ : MethodName) (head1 (Jvm.Cond.code (⟨"com/example/battlement/battlement/bench/Timings", "add", "(J)V"⟩ : MethodName) prog_41_method_2_code 3 none :: ws) ({ frames := 0, cells := 0, slots := 0, locals := 0 } : Room)) (fun aa U => aa = #[(.ref a1), (.long q1)] ∧ Z.Warmed39 U.vm ∧ U.heap = h0) (fun _ _ _ _ _ => True) (fun _ U o U' => ∃ v L, o = .returned v ∧ own_b2_Q Z a1 q1 w3 bb kk xs1 h0 n0 v U'.heap L ∧ FrameEnd U o U' L ({ frames := 0, cells := 0, slots := 0, locals := 0 } : Room).cells ({ frames := 0, cells := 0, slots := 0, locals := 0 } : Room).slots) := by
  refine MetFree.of_bodySF (plainFor_of_name own_pn0) hisR ?_
  have w2 := hw _ (List.mem_of_getElem? (i := 2) rfl)
  have w11 := hw _ (List.mem_of_getElem? (i := 11) rfl)
  have w12 := hw _ (List.mem_of_getElem? (i := 12) rfl)
  have w18 := hw _ (List.mem_of_getElem? (i := 18) rfl)
  have w19 := hw _ (List.mem_of_getElem? (i := 19) rfl)
  intro p e s m args below meth c s₁ Bd hml0 hP hK
  obtain ⟨rfl, hZ, hh⟩ := hP
  have hx := Bd.exec
  have hby := Bd.bytes
  have hlk := Bd.notSynchronized
  have hml : c.maxLocals = 3 := hml0
  have hown : s.vm.findClass "com/example/battlement/battlement/bench/Timings" = some m.cls := findClass_of_methodNamed Bd.named
  have hnm := (name_of_methodNamed Bd.named Bd.method).1
  have X0 : Stand p l e ({ frames := 0, cells := 0, slots := 0, locals := 0 } : Room) s m #[(.ref a1), (.long q1)] below meth c s₁ [] 0 0 := Stand.of_body Bd
  have e0 : s₁.heap = h0 := by rw [← hh, Bd.state]; rfl
  have N0 := Fr.nil n0
  have K0 : Keep h0 h0 [a1, bb] := Keep.refl h0 _
  show own_Goes p e below (own_Fin s (own_b2_Q Z a1 q1 w3 bb kk xs1 h0 n0) ({ frames := 0, cells := 0, slots := 0, locals := 0 } : Room).cells ({ frames := 0, cells := 0, slots := 0, locals := 0 } : Room).slots) _
  refine own_step (fun t k => castTop (own_b2_ef m a1 q1) k) ?_
  show own_Goes p e below _ (s₁.setTop (mkF m 0 #[.val (.ref a1), .val (.long q1), .second] []))
  refine own_step (fun t k => XS.lloadN X0.here hx rfl (hb hby own_dprog_41_method_2_code_0) rfl k) ?_
  show own_Goes p e below _ (s₁.setTop (mkF m 1 #[.val (.ref a1), .val (.long q1), .second] [(.long q1)]))
  refine own_step (fun t k => XS.lconst X0.here hx rfl (hb hby own_dprog_41_method_2_code_1) k) ?_
  show own_Goes p e below _ (s₁.setTop (mkF m 2 #[.val (.ref a1), .val (.long q1), .second] [(.long (0 : Int64)), (.long q1)]))
  refine own_step (fun t k => XS.lcmp X0.here hx rfl (hb hby own_dprog_41_method_2_code_2) rfl k) ?_
  show own_Goes p e below _ (s₁.setTop (mkF m 3 #[.val (.ref a1), .val (.long q1), .second] [(.int (lcmpW q1 (0 : Int64)))]))
  have hc21 : ¬ (q1 < (0 : Int64)) := hq1
  refine own_step (fun t k => XS.ifYes X0.here hx rfl (pc0 := 3) (pc' := 20) rfl (hb hby own_dprog_41_method_2_code_3) rfl ((if0 _ _).trans (flt (fun zq => hc21 ((lw_lt q1 (0 : Int64)).mp zq))).2.1) (by decide) (by decide) k) ?_
  show own_Goes p e below _ (s₁.setTop (mkF m 20 #[.val (.ref a1), .val (.long q1), .second] []))
  refine own_step (fun t k => XS.aloadN X0.here hx rfl (hb hby own_dprog_41_method_2_code_20) rfl rfl k) ?_
  show own_Goes p e below _ (s₁.setTop (mkF m 21 #[.val (.ref a1), .val (.long q1), .second] [(.ref a1)]))
  obtain ⟨T22, X22, e22, st22⟩ := getF X0 hx hZ hown (host := "") (Or.inl w18) Via.refl e0 F_count_a1 (g := (mkF m 21 #[.val (.ref a1), .val (.long q1), .second] [(.ref a1)])) rfl rfl (hb hby own_dprog_41_method_2_code_21)
  refine own_step st22 ?_
  show own_Goes p e below _ (T22.setTop (mkF m 24 #[.val (.ref a1), .val (.long q1), .second] [(.int w3)]))
  refine own_step (fun t k => XS.aloadN X22.here hx rfl (hb hby own_dprog_41_method_2_code_24) rfl rfl k) ?_
  show own_Goes p e below _ (T22.setTop (mkF m 25 #[.val (.ref a1), .val (.long q1), .second] [(.ref a1), (.int w3)]))
  obtain ⟨T23, X23, e23, st23⟩ := getF X22 hx hZ hown (host := "") (Or.inl w11) Via.refl e22 F_nanos_a1 (g := (mkF m 25 #[.val (.ref a1), .val (.long q1), .second] [(.ref a1), (.int w3)])) rfl rfl (hb hby own_dprog_41_method_2_code_25)
  refine own_step st23 ?_
  show own_Goes p e below _ (T23.setTop (mkF m 28 #[.val (.ref a1), .val (.long q1), .second] [(.ref bb), (.int w3)]))
  refine own_step (fun t k => own_len X23 hx hZ e23 V_bb (g := (mkF m 28 #[.val (.ref a1), .val (.long q1), .second] [(.ref bb), (.int w3)])) rfl rfl (hb hby own_dprog_41_method_2_code_28) _ k) ?_
  show own_Goes p e below _ (T23.setTop (mkF m 29 #[.val (.ref a1), .val (.long q1), .second] [(.int (64 : Int32)), (.int w3)]))
  have hc24 : ¬ (w3 = (64 : Int32)) := hne
  refine own_step (fun t k => XS.icmpYes X23.here hx rfl (pc0 := 29) (pc' := 49) rfl (hb hby own_dprog_41_method_2_code_29) rfl (feq hc24).2 (by decide) (by decide) k) ?_
  show own_Goes p e below _ (T23.setTop (mkF m 49 #[.val (.ref a1), .val (.long q1), .second] []))
  refine own_step (fun t k => XS.aloadN X23.here hx rfl (hb hby own_dprog_41_method_2_code_49) rfl rfl k) ?_
  show own_Goes p e below _ (T23.setTop (mkF m 50 #[.val (.ref a1), .val (.long q1), .second] [(.ref a1)]))
  obtain ⟨T25, X25, e25, st25⟩ := getF X23 hx hZ hown (host := "") (Or.inl w11) Via.refl e23 F_nanos_a1 (g := (mkF m 50 #[.val (.ref a1), .val (.long q1), .second] [(.ref a1)])) rfl rfl (hb hby own_dprog_41_method_2_code_50)
  refine own_step st25 ?_
  show own_Goes p e below _ (T25.setTop (mkF m 53 #[.val (.ref a1), .val (.long q1), .second] [(.ref bb)]))
  refine own_step (fun t k => XS.aloadN X25.here hx rfl (hb hby own_dprog_41_method_2_code_53) rfl rfl k) ?_
  show own_Goes p e below _ (T25.setTop (mkF m 54 #[.val (.ref a1), .val (.long q1), .second] [(.ref a1), (.ref bb)]))
  refine own_step (fun t k => XS.dup X25.here hx rfl (hb hby own_dprog_41_method_2_code_54) rfl rfl k) ?_
  show own_Goes p e below _ (T25.setTop (mkF m 55 #[.val (.ref a1), .val (.long q1), .second] [(.ref a1), (.ref a1), (.ref bb)]))
  obtain ⟨T26, X26, e26, st26⟩ := getF X25 hx hZ hown (host := "") (Or.inl w18) Via.refl e25 F_count_a1 (g := (mkF m 55 #[.val (.ref a1), .val (.long q1), .second] [(.ref a1), (.ref a1), (.ref bb)])) rfl rfl (hb hby own_dprog_41_method_2_code_55)
  refine own_step st26 ?_
  show own_Goes p e below _ (T26.setTop (mkF m 58 #[.val (.ref a1), .val (.long q1), .second] [(.int w3), (.ref a1), (.ref bb)]))
  refine own_step (fun t k => XS.dupX1 X26.here hx rfl (hb hby own_dprog_41_method_2_code_58) rfl rfl rfl k) ?_
  show own_Goes p e below _ (T26.setTop (mkF m 59 #[.val (.ref a1), .val (.long q1), .second] [(.int w3), (.ref a1), (.int w3), (.ref bb)]))
  refine own_step (fun t k => XS.iconst X26.here hx rfl (hb hby own_dprog_41_method_2_code_59) k) ?_
  show own_Goes p e below _ (T26.setTop (mkF m 60 #[.val (.ref a1), .val (.long q1), .second] [(.int (1 : Int32)), (.int w3), (.ref a1), (.int w3), (.ref bb)]))
  refine own_step (fun t k => XS.iadd X26.here hx rfl (hb hby own_dprog_41_method_2_code_60) rfl k) ?_
  show own_Goes p e below _ (T26.setTop (mkF m 61 #[.val (.ref a1), .val (.long q1), .second] [(.int (w3 + (1 : Int32))), (.ref a1), (.int w3), (.ref bb)]))
  obtain ⟨T27, h27, X27, e27, W27, st27⟩ := putF X26 hx hZ hown (host := "") (Or.inl w18) Via.refl e26 F_count_a1 E_a1 (Or.inl w19) w2 (ty := .int) (by decide) rfl rfl (g := (mkF m 61 #[.val (.ref a1), .val (.long q1), .second] [(.int (w3 + (1 : Int32))), (.ref a1), (.int w3), (.ref bb)])) rfl rfl (hb hby own_dprog_41_method_2_code_61)
  have Fw27 := F_count_a1.same W27
  have N27 := Fr.snoc X27 N0 g_a1
  have K28 : Keep h0 h27 [a1, bb] := K0.wr W27 (Or.inl (List.mem_of_getElem? (i := 0) rfl))
  refine own_step st27 ?_
  show own_Goes p e below _ (T27.setTop (mkF m 64 #[.val (.ref a1), .val (.long q1), .second] [(.int w3), (.ref bb)]))
  refine own_step (fun t k => XS.lloadN X27.here hx rfl (hb hby own_dprog_41_method_2_code_64) rfl k) ?_
  show own_Goes p e below _ (T27.setTop (mkF m 65 #[.val (.ref a1), .val (.long q1), .second] [(.long q1), (.int w3), (.ref bb)]))
  obtain ⟨T29, h29, X29, e29, W29, V29, st29⟩ := own_lst X27 hx hZ e27 (V_bb.other W27 (Ne.symm ne_a1_bb)) (j := w3) (hin) (w3.toNatClampNeg) rfl (hln) (g := (mkF m 65 #[.val (.ref a1), .val (.long q1), .second] [(.long q1), (.int w3), (.ref bb)])) rfl rfl (hb hby own_dprog_41_method_2_code_65)
  have V29 : Arv Z h29 bb kk .long (64 : Int32) ((xs1.set (w3.toNatClampNeg) q1).map Value.long) (Value.long 0) := V29
  have N29 := Fr.snoc X29 N27 g_bb
  have K30 : Keep h0 h29 [a1, bb] := K28.wr W29 (Or.inl (List.mem_of_getElem? (i := 1) rfl))
  refine own_step st29 ?_
  show own_Goes p e below _ (T29.setTop (mkF m 66 #[.val (.ref a1), .val (.long q1), .second] []))
  refine own_ret0 X29 hx hlk Bd.returns (hb hby own_dprog_41_method_2_code_66) ?_ (by decide) (by decide)
  show own_b2_Q Z a1 q1 w3 bb kk xs1 h0 n0 _ T29.heap _
  rw [e29]
  exact ⟨rfl, N29, K30, ((E_a1.wr W27).wr W29), (Fw27.other W29 (Or.inl ne_a1_bb)), ((F_nanos_a1.other W27 (Or.inr (slot_ne (Or.inl w12) (Or.inl w19) (by decide) (t := (.array .long)) (t' := .int) (by decide) (by decide)))).other W29 (Or.inl ne_a1_bb)), V29⟩
theorem own_pn1 : plainName "com/example/battlement/battlement/bench/TimingsOverPinLaw" = true := by first | (simp [plainName, overriddenIn]; done) | decide +kernel
theorem own_dmethod_2_code_0 : decode method_2_code 0 = .ok (.iload_n 0, 1) := by decide +kernel
theorem own_dmethod_2_code_1 : decode method_2_code 1 = .ok (.ifCond .eq 11, 3) := by decide +kernel
theorem own_dmethod_2_code_12 : decode method_2_code 12 = .ok (.iconst 0, 1) := by decide +kernel
theorem own_dmethod_2_code_13 : decode method_2_code 13 = .ok (.ireturn, 1) := by decide +kernel
theorem own_dmethod_2_code_4 : decode method_2_code 4 = .ok (.lload_n 1, 1) := by decide +kernel
theorem own_dmethod_2_code_5 : decode method_2_code 5 = .ok (.lload_n 3, 1) := by decide +kernel
theorem own_dmethod_2_code_6 : decode method_2_code 6 = .ok (.lcmp, 1) := by decide +kernel
theorem own_dmethod_2_code_7 : decode method_2_code 7 = .ok (.ifCond .le 5, 3) := by decide +kernel
theorem own_dmethod_2_code_10 : decode method_2_code 10 = .ok (.iconst 1, 1) := by decide +kernel
theorem own_dmethod_2_code_11 : decode method_2_code 11 = .ok (.ireturn, 1) := by decide +kernel
theorem own_b3_ef (m : MethodId) (p0 : Int32) (j1 : Int64) (j2 : Int64) : entryFrame m #[(.int p0), (.long j1), (.long j2)] 5 = mkF m 0 #[.val (.int p0), .val (.long j1), .second, .val (.long j2), .second] [] := by first | (simp [entryFrame, mkF, argsToLocals, Value.category]; done) | rfl
def own_b3_Q (Z : State) (p0 : Int32) (j1 : Int64) (j2 : Int64) (h0 : Heap) (n0 : Nat) (v : Option Value) (h : Heap) (L : List Loc) : Prop := v = some (.int (if p0 = (0 : Int32) then (0 : Int32) else (if j2 < j1 then (1 : Int32) else (0 : Int32)))) ∧ Fr n0 L ∧ h = h0
set_option maxRecDepth 65536 in
set_option maxHeartbeats 40000000 in
theorem own_b3 (l : Launch) (Z : State) (a0 : Array Value) (hw : ∀ d ∈ tables_1, d.before a0 Z = true) (ws : List Jvm.Cond) (p0 : Int32) (j1 : Int64) (j2 : Int64) (h0 : Heap) (n0 : Nat) (Z0 : n0 ≤ h0.size) :
    MetFree l (⟨"com/example/battlement/battlement/bench/TimingsOverPinLaw", "exceeds", "(ZJJ)I"⟩ : MethodName) (head1 (Jvm.Cond.code (⟨"com/example/battlement/battlement/bench/TimingsOverPinLaw", "exceeds", "(ZJJ)I"⟩ : MethodName) method_2_code 5 (some .int) :: ws) ({ frames := 0, cells := 0, slots := 0, locals := 0 } : Room)) (fun aa U => aa = #[(.int p0), (.long j1), (.long j2)] ∧ Z.Warmed39 U.vm ∧ U.heap = h0) (fun _ _ _ _ _ => True) (fun _ U o U' => ∃ v L, o = .returned v ∧ own_b3_Q Z p0 j1 j2 h0 n0 v U'.heap L ∧ FrameEnd U o U' L ({ frames := 0, cells := 0, slots := 0, locals := 0 } : Room).cells ({ frames := 0, cells := 0, slots := 0, locals := 0 } : Room).slots) := by
  refine MetFree.of_bodySF (plainFor_of_name own_pn1) hisR ?_
  intro p e s m args below meth c s₁ Bd hml0 hP hK
  obtain ⟨rfl, hZ, hh⟩ := hP
  have hx := Bd.exec
  have hby := Bd.bytes
  have hlk := Bd.notSynchronized
  have hml : c.maxLocals = 5 := hml0
  have hown : s.vm.findClass "com/example/battlement/battlement/bench/TimingsOverPinLaw" = some m.cls := findClass_of_methodNamed Bd.named
  have hnm := (name_of_methodNamed Bd.named Bd.method).1
  have X0 : Stand p l e ({ frames := 0, cells := 0, slots := 0, locals := 0 } : Room) s m #[(.int p0), (.long j1), (.long j2)] below meth c s₁ [] 0 0 := Stand.of_body Bd
  have e0 : s₁.heap = h0 := by rw [← hh, Bd.state]; rfl
  have N0 := Fr.nil n0
  have K0 : Keep h0 h0 [] := Keep.refl h0 _
  show own_Goes p e below (own_Fin s (own_b3_Q Z p0 j1 j2 h0 n0) ({ frames := 0, cells := 0, slots := 0, locals := 0 } : Room).cells ({ frames := 0, cells := 0, slots := 0, locals := 0 } : Room).slots) _
  refine own_step (fun t k => castTop (own_b3_ef m p0 j1 j2) k) ?_
  show own_Goes p e below _ (s₁.setTop (mkF m 0 #[.val (.int p0), .val (.long j1), .second, .val (.long j2), .second] []))
  refine own_step (fun t k => XS.iloadN X0.here hx rfl (hb hby own_dmethod_2_code_0) rfl k) ?_
  show own_Goes p e below _ (s₁.setTop (mkF m 1 #[.val (.int p0), .val (.long j1), .second, .val (.long j2), .second] [(.int p0)]))
  by_cases hc33 : p0 = (0 : Int32)
  · --
    refine own_step (fun t k => XS.ifYes X0.here hx rfl (pc0 := 1) (pc' := 12) rfl (hb hby own_dmethod_2_code_1) rfl ((if0 _ _).trans (teq hc33).1) (by decide) (by decide) k) ?_
    show own_Goes p e below _ (s₁.setTop (mkF m 12 #[.val (.int p0), .val (.long j1), .second, .val (.long j2), .second] []))
    refine own_step (fun t k => XS.iconst X0.here hx rfl (hb hby own_dmethod_2_code_12) k) ?_
    show own_Goes p e below _ (s₁.setTop (mkF m 13 #[.val (.int p0), .val (.long j1), .second, .val (.long j2), .second] [(.int (0 : Int32))]))
    refine own_retV X0 hx hlk Bd.returns (w := (.int (0 : Int32))) rfl (Or.inl ⟨rfl, Or.inl rfl, _, rfl⟩) (hb hby own_dmethod_2_code_13) ?_ (by decide) (by decide)
    show own_b3_Q Z p0 j1 j2 h0 n0 _ s₁.heap _
    rw [e0]
    exact ⟨(by simp only [if_pos hc33]), N0, rfl⟩
  · --
    refine own_step (fun t k => XS.ifNo X0.here hx rfl (hb hby own_dmethod_2_code_1) rfl ((if0 _ _).trans (feq hc33).1) k) ?_
    show own_Goes p e below _ (s₁.setTop (mkF m 4 #[.val (.int p0), .val (.long j1), .second, .val (.long j2), .second] []))
    refine own_step (fun t k => XS.lloadN X0.here hx rfl (hb hby own_dmethod_2_code_4) rfl k) ?_
    show own_Goes p e below _ (s₁.setTop (mkF m 5 #[.val (.int p0), .val (.long j1), .second, .val (.long j2), .second] [(.long j1)]))
    refine own_step (fun t k => XS.lloadN X0.here hx rfl (hb hby own_dmethod_2_code_5) rfl k) ?_
    show own_Goes p e below _ (s₁.setTop (mkF m 6 #[.val (.int p0), .val (.long j1), .second, .val (.long j2), .second] [(.long j2), (.long j1)]))
    refine own_step (fun t k => XS.lcmp X0.here hx rfl (hb hby own_dmethod_2_code_6) rfl k) ?_
    show own_Goes p e below _ (s₁.setTop (mkF m 7 #[.val (.int p0), .val (.long j1), .second, .val (.long j2), .second] [(.int (lcmpW j1 j2))]))
    by_cases hc34 : j2 < j1
    · --
      refine own_step (fun t k => XS.ifNo X0.here hx rfl (hb hby own_dmethod_2_code_7) rfl ((if0 _ _).trans (tlt ((lw_gt j1 j2).mpr hc34)).2.2.2) k) ?_
      show own_Goes p e below _ (s₁.setTop (mkF m 10 #[.val (.int p0), .val (.long j1), .second, .val (.long j2), .second] []))
      refine own_step (fun t k => XS.iconst X0.here hx rfl (hb hby own_dmethod_2_code_10) k) ?_
      show own_Goes p e below _ (s₁.setTop (mkF m 11 #[.val (.int p0), .val (.long j1), .second, .val (.long j2), .second] [(.int (1 : Int32))]))
      refine own_retV X0 hx hlk Bd.returns (w := (.int (1 : Int32))) rfl (Or.inl ⟨rfl, Or.inl rfl, _, rfl⟩) (hb hby own_dmethod_2_code_11) ?_ (by decide) (by decide)
      show own_b3_Q Z p0 j1 j2 h0 n0 _ s₁.heap _
      rw [e0]
      exact ⟨(by simp only [if_neg hc33, if_pos hc34]), N0, rfl⟩
    · --
      refine own_step (fun t k => XS.ifYes X0.here hx rfl (pc0 := 7) (pc' := 12) rfl (hb hby own_dmethod_2_code_7) rfl ((if0 _ _).trans (flt (fun zq => hc34 ((lw_gt j1 j2).mp zq))).2.2.2) (by decide) (by decide) k) ?_
      show own_Goes p e below _ (s₁.setTop (mkF m 12 #[.val (.int p0), .val (.long j1), .second, .val (.long j2), .second] []))
      refine own_step (fun t k => XS.iconst X0.here hx rfl (hb hby own_dmethod_2_code_12) k) ?_
      show own_Goes p e below _ (s₁.setTop (mkF m 13 #[.val (.int p0), .val (.long j1), .second, .val (.long j2), .second] [(.int (0 : Int32))]))
      refine own_retV X0 hx hlk Bd.returns (w := (.int (0 : Int32))) rfl (Or.inl ⟨rfl, Or.inl rfl, _, rfl⟩) (hb hby own_dmethod_2_code_13) ?_ (by decide) (by decide)
      show own_b3_Q Z p0 j1 j2 h0 n0 _ s₁.heap _
      rw [e0]
      exact ⟨(by simp only [if_neg hc33, if_neg hc34]), N0, rfl⟩
theorem own_dprog_41_method_6_code_0 : decode prog_41_method_6_code 0 = .ok (.iconst 0, 1) := by decide +kernel
theorem own_dprog_41_method_6_code_1 : decode prog_41_method_6_code 1 = .ok (.istore_n 3, 1) := by decide +kernel
theorem own_dprog_41_method_6_code_2 : decode prog_41_method_6_code 2 = .ok (.iconst 0, 1) := by decide +kernel
theorem own_dprog_41_method_6_code_3 : decode prog_41_method_6_code 3 = .ok (.istore 4, 2) := by decide +kernel
theorem own_dprog_41_method_6_code_5 : decode prog_41_method_6_code 5 = .ok (.iload 4, 2) := by decide +kernel
theorem own_dprog_41_method_6_code_7 : decode prog_41_method_6_code 7 = .ok (.aload_n 0, 1) := by decide +kernel
theorem own_dprog_41_method_6_code_8 : decode prog_41_method_6_code 8 = .ok (.getfield 22, 3) := by decide +kernel
theorem own_dprog_41_method_6_code_11 : decode prog_41_method_6_code 11 = .ok (.if_icmp .ge 24, 3) := by decide +kernel
theorem own_dprog_41_method_6_code_35 : decode prog_41_method_6_code 35 = .ok (.iload_n 3, 1) := by decide +kernel
theorem own_dprog_41_method_6_code_36 : decode prog_41_method_6_code 36 = .ok (.ireturn, 1) := by decide +kernel
theorem own_o0_ef (m : MethodId) (a1 : Addr) (q1 : Int64) : entryFrame m #[(.ref a1), (.long q1)] 5 = mkF m 0 #[.val (.ref a1), .val (.long q1), .second, .unset, .unset] [] := by first | (simp [entryFrame, mkF, argsToLocals, Value.category]; done) | rfl
def own_o0_Q (Z : State) (a1 : Addr) (q1 : Int64) (bb : Addr) (kk : ClassId) (xs1 : List Int64) (h0 : Heap) (n0 : Nat) (v : Option Value) (h : Heap) (L : List Loc) : Prop := v = some (.int (0 : Int32)) ∧ Fr n0 L ∧ h = h0
set_option maxRecDepth 65536 in
set_option maxHeartbeats 40000000 in
theorem own_o0 (l : Launch) (Z : State) (a0 : Array Value) (hw : ∀ d ∈ tables_1, d.before a0 Z = true) (ws : List Jvm.Cond) (a1 : Addr) (q1 : Int64) (bb : Addr) (kk : ClassId) (xs1 : List Int64) (h0 : Heap) (n0 : Nat) (Z0 : n0 ≤ h0.size) (F_nanos_a1 : Fld Z h0 a1 "com/example/battlement/battlement/bench/Timings" "nanos" "[J" (.ref bb)) (F_count_a1 : Fld Z h0 a1 "com/example/battlement/battlement/bench/Timings" "count" "I" (.int (0 : Int32))) (V_bb : Arv Z h0 bb kk .long (64 : Int32) (xs1.map Value.long) (Value.long 0)) :
    MetFree l (⟨"com/example/battlement/battlement/bench/Timings", "over", "(J)I"⟩ : MethodName) (head1 (Jvm.Cond.code (⟨"com/example/battlement/battlement/bench/Timings", "over", "(J)I"⟩ : MethodName) prog_41_method_6_code 5 (some .int) :: ws) ({ frames := 0, cells := 0, slots := 0, locals := 0 } : Room)) (fun aa U => aa = #[(.ref a1), (.long q1)] ∧ Z.Warmed39 U.vm ∧ U.heap = h0) (fun _ _ _ _ _ => True) (fun _ U o U' => ∃ v L, o = .returned v ∧ own_o0_Q Z a1 q1 bb kk xs1 h0 n0 v U'.heap L ∧ FrameEnd U o U' L ({ frames := 0, cells := 0, slots := 0, locals := 0 } : Room).cells ({ frames := 0, cells := 0, slots := 0, locals := 0 } : Room).slots) := by
  refine MetFree.of_bodySF (plainFor_of_name own_pn0) hisR ?_
  have w18 := hw _ (List.mem_of_getElem? (i := 18) rfl)
  intro p e s m args below meth c s₁ Bd hml0 hP hK
  obtain ⟨rfl, hZ, hh⟩ := hP
  have hx := Bd.exec
  have hby := Bd.bytes
  have hlk := Bd.notSynchronized
  have hml : c.maxLocals = 5 := hml0
  have hown : s.vm.findClass "com/example/battlement/battlement/bench/Timings" = some m.cls := findClass_of_methodNamed Bd.named
  have hnm := (name_of_methodNamed Bd.named Bd.method).1
  have X0 : Stand p l e ({ frames := 0, cells := 0, slots := 0, locals := 0 } : Room) s m #[(.ref a1), (.long q1)] below meth c s₁ [] 0 0 := Stand.of_body Bd
  have e0 : s₁.heap = h0 := by rw [← hh, Bd.state]; rfl
  have N0 := Fr.nil n0
  have K0 : Keep h0 h0 [] := Keep.refl h0 _
  show own_Goes p e below (own_Fin s (own_o0_Q Z a1 q1 bb kk xs1 h0 n0) ({ frames := 0, cells := 0, slots := 0, locals := 0 } : Room).cells ({ frames := 0, cells := 0, slots := 0, locals := 0 } : Room).slots) _
  refine own_step (fun t k => castTop (own_o0_ef m a1 q1) k) ?_
  show own_Goes p e below _ (s₁.setTop (mkF m 0 #[.val (.ref a1), .val (.long q1), .second, .unset, .unset] []))
  refine own_step (fun t k => XS.iconst X0.here hx rfl (hb hby own_dprog_41_method_6_code_0) k) ?_
  show own_Goes p e below _ (s₁.setTop (mkF m 1 #[.val (.ref a1), .val (.long q1), .second, .unset, .unset] [(.int (0 : Int32))]))
  refine own_step (fun t k => XS.istoreN X0.here hx rfl (hb hby own_dprog_41_method_6_code_1) rfl (l' := #[.val (.ref a1), .val (.long q1), .second, .val (.int (0 : Int32)), .unset]) rfl k) ?_
  show own_Goes p e below _ (s₁.setTop (mkF m 2 #[.val (.ref a1), .val (.long q1), .second, .val (.int (0 : Int32)), .unset] []))
  refine own_step (fun t k => XS.iconst X0.here hx rfl (hb hby own_dprog_41_method_6_code_2) k) ?_
  show own_Goes p e below _ (s₁.setTop (mkF m 3 #[.val (.ref a1), .val (.long q1), .second, .val (.int (0 : Int32)), .unset] [(.int (0 : Int32))]))
  refine own_step (fun t k => XS.istore X0.here hx rfl (hb hby own_dprog_41_method_6_code_3) rfl (l' := #[.val (.ref a1), .val (.long q1), .second, .val (.int (0 : Int32)), .val (.int (0 : Int32))]) rfl k) ?_
  show own_Goes p e below _ (s₁.setTop (mkF m 5 #[.val (.ref a1), .val (.long q1), .second, .val (.int (0 : Int32)), .val (.int (0 : Int32))] []))
  refine own_step (fun t k => XS.iload X0.here hx rfl (hb hby own_dprog_41_method_6_code_5) rfl k) ?_
  show own_Goes p e below _ (s₁.setTop (mkF m 7 #[.val (.ref a1), .val (.long q1), .second, .val (.int (0 : Int32)), .val (.int (0 : Int32))] [(.int (0 : Int32))]))
  refine own_step (fun t k => XS.aloadN X0.here hx rfl (hb hby own_dprog_41_method_6_code_7) rfl rfl k) ?_
  show own_Goes p e below _ (s₁.setTop (mkF m 8 #[.val (.ref a1), .val (.long q1), .second, .val (.int (0 : Int32)), .val (.int (0 : Int32))] [(.ref a1), (.int (0 : Int32))]))
  obtain ⟨T37, X37, e37, st37⟩ := getF X0 hx hZ hown (host := "") (Or.inl w18) Via.refl e0 F_count_a1 (g := (mkF m 8 #[.val (.ref a1), .val (.long q1), .second, .val (.int (0 : Int32)), .val (.int (0 : Int32))] [(.ref a1), (.int (0 : Int32))])) rfl rfl (hb hby own_dprog_41_method_6_code_8)
  refine own_step st37 ?_
  show own_Goes p e below _ (T37.setTop (mkF m 11 #[.val (.ref a1), .val (.long q1), .second, .val (.int (0 : Int32)), .val (.int (0 : Int32))] [(.int (0 : Int32)), (.int (0 : Int32))]))
  have hc38 : ¬ ((0 : Int32) < (0 : Int32)) := by decide
  refine own_step (fun t k => XS.icmpYes X37.here hx rfl (pc0 := 11) (pc' := 35) rfl (hb hby own_dprog_41_method_6_code_11) rfl (flt hc38).2.1 (by decide) (by decide) k) ?_
  show own_Goes p e below _ (T37.setTop (mkF m 35 #[.val (.ref a1), .val (.long q1), .second, .val (.int (0 : Int32)), .val (.int (0 : Int32))] []))
  refine own_step (fun t k => XS.iloadN X37.here hx rfl (hb hby own_dprog_41_method_6_code_35) rfl k) ?_
  show own_Goes p e below _ (T37.setTop (mkF m 36 #[.val (.ref a1), .val (.long q1), .second, .val (.int (0 : Int32)), .val (.int (0 : Int32))] [(.int (0 : Int32))]))
  refine own_retV X37 hx hlk Bd.returns (w := (.int (0 : Int32))) rfl (Or.inl ⟨rfl, Or.inl rfl, _, rfl⟩) (hb hby own_dprog_41_method_6_code_36) ?_ (by decide) (by decide)
  show own_o0_Q Z a1 q1 bb kk xs1 h0 n0 _ T37.heap _
  rw [e37]
  exact ⟨rfl, N0, rfl⟩
theorem own_dprog_41_method_6_code_14 : decode prog_41_method_6_code 14 = .ok (.aload_n 0, 1) := by decide +kernel
theorem own_dprog_41_method_6_code_15 : decode prog_41_method_6_code 15 = .ok (.getfield 7, 3) := by decide +kernel
theorem own_dprog_41_method_6_code_18 : decode prog_41_method_6_code 18 = .ok (.iload 4, 2) := by decide +kernel
theorem own_dprog_41_method_6_code_20 : decode prog_41_method_6_code 20 = .ok (.laload, 1) := by decide +kernel
theorem own_dprog_41_method_6_code_21 : decode prog_41_method_6_code 21 = .ok (.lload_n 1, 1) := by decide +kernel
theorem own_dprog_41_method_6_code_22 : decode prog_41_method_6_code 22 = .ok (.lcmp, 1) := by decide +kernel
theorem own_dprog_41_method_6_code_23 : decode prog_41_method_6_code 23 = .ok (.ifCond .le 6, 3) := by decide +kernel
theorem own_dprog_41_method_6_code_26 : decode prog_41_method_6_code 26 = .ok (.iinc 3 1, 3) := by decide +kernel
theorem own_dprog_41_method_6_code_29 : decode prog_41_method_6_code 29 = .ok (.iinc 4 1, 3) := by decide +kernel
theorem own_dprog_41_method_6_code_32 : decode prog_41_method_6_code 32 = .ok (.goto (-27), 3) := by decide +kernel
theorem own_o1_ef (m : MethodId) (a1 : Addr) (q1 : Int64) : entryFrame m #[(.ref a1), (.long q1)] 5 = mkF m 0 #[.val (.ref a1), .val (.long q1), .second, .unset, .unset] [] := by first | (simp [entryFrame, mkF, argsToLocals, Value.category]; done) | rfl
def own_o1_Q (Z : State) (a1 : Addr) (q1 : Int64) (bb : Addr) (kk : ClassId) (xs1 : List Int64) (h0 : Heap) (n0 : Nat) (v : Option Value) (h : Heap) (L : List Loc) : Prop := v = some (.int (if q1 < (xs1.getD (0 : Int32).toNatClampNeg 0) then (1 : Int32) else (0 : Int32))) ∧ Fr n0 L ∧ h = h0
set_option maxRecDepth 65536 in
set_option maxHeartbeats 40000000 in
theorem own_o1 (l : Launch) (Z : State) (a0 : Array Value) (hw : ∀ d ∈ tables_1, d.before a0 Z = true) (ws : List Jvm.Cond) (a1 : Addr) (q1 : Int64) (bb : Addr) (kk : ClassId) (xs1 : List Int64) (h0 : Heap) (n0 : Nat) (Z0 : n0 ≤ h0.size) (F_nanos_a1 : Fld Z h0 a1 "com/example/battlement/battlement/bench/Timings" "nanos" "[J" (.ref bb)) (F_count_a1 : Fld Z h0 a1 "com/example/battlement/battlement/bench/Timings" "count" "I" (.int (1 : Int32))) (V_bb : Arv Z h0 bb kk .long (64 : Int32) (xs1.map Value.long) (Value.long 0)) :
    MetFree l (⟨"com/example/battlement/battlement/bench/Timings", "over", "(J)I"⟩ : MethodName) (head1 (Jvm.Cond.code (⟨"com/example/battlement/battlement/bench/Timings", "over", "(J)I"⟩ : MethodName) prog_41_method_6_code 5 (some .int) :: ws) ({ frames := 0, cells := 0, slots := 0, locals := 0 } : Room)) (fun aa U => aa = #[(.ref a1), (.long q1)] ∧ Z.Warmed39 U.vm ∧ U.heap = h0) (fun _ _ _ _ _ => True) (fun _ U o U' => ∃ v L, o = .returned v ∧ own_o1_Q Z a1 q1 bb kk xs1 h0 n0 v U'.heap L ∧ FrameEnd U o U' L ({ frames := 0, cells := 0, slots := 0, locals := 0 } : Room).cells ({ frames := 0, cells := 0, slots := 0, locals := 0 } : Room).slots) := by
  refine MetFree.of_bodySF (plainFor_of_name own_pn0) hisR ?_
  have w11 := hw _ (List.mem_of_getElem? (i := 11) rfl)
  have w18 := hw _ (List.mem_of_getElem? (i := 18) rfl)
  intro p e s m args below meth c s₁ Bd hml0 hP hK
  obtain ⟨rfl, hZ, hh⟩ := hP
  have hx := Bd.exec
  have hby := Bd.bytes
  have hlk := Bd.notSynchronized
  have hml : c.maxLocals = 5 := hml0
  have hown : s.vm.findClass "com/example/battlement/battlement/bench/Timings" = some m.cls := findClass_of_methodNamed Bd.named
  have hnm := (name_of_methodNamed Bd.named Bd.method).1
  have X0 : Stand p l e ({ frames := 0, cells := 0, slots := 0, locals := 0 } : Room) s m #[(.ref a1), (.long q1)] below meth c s₁ [] 0 0 := Stand.of_body Bd
  have e0 : s₁.heap = h0 := by rw [← hh, Bd.state]; rfl
  have N0 := Fr.nil n0
  have K0 : Keep h0 h0 [] := Keep.refl h0 _
  show own_Goes p e below (own_Fin s (own_o1_Q Z a1 q1 bb kk xs1 h0 n0) ({ frames := 0, cells := 0, slots := 0, locals := 0 } : Room).cells ({ frames := 0, cells := 0, slots := 0, locals := 0 } : Room).slots) _
  refine own_step (fun t k => castTop (own_o1_ef m a1 q1) k) ?_
  show own_Goes p e below _ (s₁.setTop (mkF m 0 #[.val (.ref a1), .val (.long q1), .second, .unset, .unset] []))
  refine own_step (fun t k => XS.iconst X0.here hx rfl (hb hby own_dprog_41_method_6_code_0) k) ?_
  show own_Goes p e below _ (s₁.setTop (mkF m 1 #[.val (.ref a1), .val (.long q1), .second, .unset, .unset] [(.int (0 : Int32))]))
  refine own_step (fun t k => XS.istoreN X0.here hx rfl (hb hby own_dprog_41_method_6_code_1) rfl (l' := #[.val (.ref a1), .val (.long q1), .second, .val (.int (0 : Int32)), .unset]) rfl k) ?_
  show own_Goes p e below _ (s₁.setTop (mkF m 2 #[.val (.ref a1), .val (.long q1), .second, .val (.int (0 : Int32)), .unset] []))
  refine own_step (fun t k => XS.iconst X0.here hx rfl (hb hby own_dprog_41_method_6_code_2) k) ?_
  show own_Goes p e below _ (s₁.setTop (mkF m 3 #[.val (.ref a1), .val (.long q1), .second, .val (.int (0 : Int32)), .unset] [(.int (0 : Int32))]))
  refine own_step (fun t k => XS.istore X0.here hx rfl (hb hby own_dprog_41_method_6_code_3) rfl (l' := #[.val (.ref a1), .val (.long q1), .second, .val (.int (0 : Int32)), .val (.int (0 : Int32))]) rfl k) ?_
  show own_Goes p e below _ (s₁.setTop (mkF m 5 #[.val (.ref a1), .val (.long q1), .second, .val (.int (0 : Int32)), .val (.int (0 : Int32))] []))
  refine own_step (fun t k => XS.iload X0.here hx rfl (hb hby own_dprog_41_method_6_code_5) rfl k) ?_
  show own_Goes p e below _ (s₁.setTop (mkF m 7 #[.val (.ref a1), .val (.long q1), .second, .val (.int (0 : Int32)), .val (.int (0 : Int32))] [(.int (0 : Int32))]))
  refine own_step (fun t k => XS.aloadN X0.here hx rfl (hb hby own_dprog_41_method_6_code_7) rfl rfl k) ?_
  show own_Goes p e below _ (s₁.setTop (mkF m 8 #[.val (.ref a1), .val (.long q1), .second, .val (.int (0 : Int32)), .val (.int (0 : Int32))] [(.ref a1), (.int (0 : Int32))]))
  obtain ⟨T45, X45, e45, st45⟩ := getF X0 hx hZ hown (host := "") (Or.inl w18) Via.refl e0 F_count_a1 (g := (mkF m 8 #[.val (.ref a1), .val (.long q1), .second, .val (.int (0 : Int32)), .val (.int (0 : Int32))] [(.ref a1), (.int (0 : Int32))])) rfl rfl (hb hby own_dprog_41_method_6_code_8)
  refine own_step st45 ?_
  show own_Goes p e below _ (T45.setTop (mkF m 11 #[.val (.ref a1), .val (.long q1), .second, .val (.int (0 : Int32)), .val (.int (0 : Int32))] [(.int (1 : Int32)), (.int (0 : Int32))]))
  have hc46 : (0 : Int32) < (1 : Int32) := by decide
  refine own_step (fun t k => XS.icmpNo X45.here hx rfl (hb hby own_dprog_41_method_6_code_11) rfl (tlt hc46).2.1 k) ?_
  show own_Goes p e below _ (T45.setTop (mkF m 14 #[.val (.ref a1), .val (.long q1), .second, .val (.int (0 : Int32)), .val (.int (0 : Int32))] []))
  refine own_step (fun t k => XS.aloadN X45.here hx rfl (hb hby own_dprog_41_method_6_code_14) rfl rfl k) ?_
  show own_Goes p e below _ (T45.setTop (mkF m 15 #[.val (.ref a1), .val (.long q1), .second, .val (.int (0 : Int32)), .val (.int (0 : Int32))] [(.ref a1)]))
  obtain ⟨T47, X47, e47, st47⟩ := getF X45 hx hZ hown (host := "") (Or.inl w11) Via.refl e45 F_nanos_a1 (g := (mkF m 15 #[.val (.ref a1), .val (.long q1), .second, .val (.int (0 : Int32)), .val (.int (0 : Int32))] [(.ref a1)])) rfl rfl (hb hby own_dprog_41_method_6_code_15)
  refine own_step st47 ?_
  show own_Goes p e below _ (T47.setTop (mkF m 18 #[.val (.ref a1), .val (.long q1), .second, .val (.int (0 : Int32)), .val (.int (0 : Int32))] [(.ref bb)]))
  refine own_step (fun t k => XS.iload X47.here hx rfl (hb hby own_dprog_41_method_6_code_18) rfl k) ?_
  show own_Goes p e below _ (T47.setTop (mkF m 20 #[.val (.ref a1), .val (.long q1), .second, .val (.int (0 : Int32)), .val (.int (0 : Int32))] [(.int (0 : Int32)), (.ref bb)]))
  refine own_step (fun t k => own_lal X47 hx hZ e47 V_bb ⟨by decide, by decide⟩ (g := (mkF m 20 #[.val (.ref a1), .val (.long q1), .second, .val (.int (0 : Int32)), .val (.int (0 : Int32))] [(.int (0 : Int32)), (.ref bb)])) rfl rfl (hb hby own_dprog_41_method_6_code_20) _ k) ?_
  show own_Goes p e below _ (T47.setTop (mkF m 21 #[.val (.ref a1), .val (.long q1), .second, .val (.int (0 : Int32)), .val (.int (0 : Int32))] [(.long (xs1.getD (0 : Int32).toNatClampNeg 0))]))
  refine own_step (fun t k => XS.lloadN X47.here hx rfl (hb hby own_dprog_41_method_6_code_21) rfl k) ?_
  show own_Goes p e below _ (T47.setTop (mkF m 22 #[.val (.ref a1), .val (.long q1), .second, .val (.int (0 : Int32)), .val (.int (0 : Int32))] [(.long q1), (.long (xs1.getD (0 : Int32).toNatClampNeg 0))]))
  refine own_step (fun t k => XS.lcmp X47.here hx rfl (hb hby own_dprog_41_method_6_code_22) rfl k) ?_
  show own_Goes p e below _ (T47.setTop (mkF m 23 #[.val (.ref a1), .val (.long q1), .second, .val (.int (0 : Int32)), .val (.int (0 : Int32))] [(.int (lcmpW (xs1.getD (0 : Int32).toNatClampNeg 0) q1))]))
  refine own_step (S' := T47.setTop (mkF m 29 #[.val (.ref a1), .val (.long q1), .second, .val (.int (if q1 < (xs1.getD (0 : Int32).toNatClampNeg 0) then (1 : Int32) else (0 : Int32))), .val (.int (0 : Int32))] [])) (fun t k => ?_) ?_
  · show Steps p.tables e below (T47.setTop (mkF m 23 #[.val (.ref a1), .val (.long q1), .second, .val (.int (0 : Int32)), .val (.int (0 : Int32))] [(.int (lcmpW (xs1.getD (0 : Int32).toNatClampNeg 0) q1))])) _
    by_cases hc48 : q1 < (xs1.getD (0 : Int32).toNatClampNeg 0)
    · --
      refine XS.ifNo X47.here hx rfl (hb hby own_dprog_41_method_6_code_23) rfl ((if0 _ _).trans (tlt ((lw_gt (xs1.getD (0 : Int32).toNatClampNeg 0) q1).mpr hc48)).2.2.2) ?_
      show Steps p.tables e below (T47.setTop (mkF m 26 #[.val (.ref a1), .val (.long q1), .second, .val (.int (0 : Int32)), .val (.int (0 : Int32))] [])) _
      refine XS.iinc X47.here hx rfl (hb hby own_dprog_41_method_6_code_26) rfl (l' := #[.val (.ref a1), .val (.long q1), .second, .val (.int (1 : Int32)), .val (.int (0 : Int32))]) rfl ?_
      show Steps p.tables e below (T47.setTop (mkF m 29 #[.val (.ref a1), .val (.long q1), .second, .val (.int (1 : Int32)), .val (.int (0 : Int32))] [])) _
      simp only [if_pos hc48] at k
      exact k
    · --
      refine XS.ifYes X47.here hx rfl (pc0 := 23) (pc' := 29) rfl (hb hby own_dprog_41_method_6_code_23) rfl ((if0 _ _).trans (flt (fun zq => hc48 ((lw_gt (xs1.getD (0 : Int32).toNatClampNeg 0) q1).mp zq))).2.2.2) (by decide) (by decide) ?_
      show Steps p.tables e below (T47.setTop (mkF m 29 #[.val (.ref a1), .val (.long q1), .second, .val (.int (0 : Int32)), .val (.int (0 : Int32))] [])) _
      simp only [if_neg hc48] at k
      exact k
  show own_Goes p e below _ (T47.setTop (mkF m 29 #[.val (.ref a1), .val (.long q1), .second, .val (.int (if q1 < (xs1.getD (0 : Int32).toNatClampNeg 0) then (1 : Int32) else (0 : Int32))), .val (.int (0 : Int32))] []))
  refine own_step (fun t k => XS.iinc X47.here hx rfl (hb hby own_dprog_41_method_6_code_29) rfl (l' := #[.val (.ref a1), .val (.long q1), .second, .val (.int (if q1 < (xs1.getD (0 : Int32).toNatClampNeg 0) then (1 : Int32) else (0 : Int32))), .val (.int (1 : Int32))]) rfl k) ?_
  show own_Goes p e below _ (T47.setTop (mkF m 32 #[.val (.ref a1), .val (.long q1), .second, .val (.int (if q1 < (xs1.getD (0 : Int32).toNatClampNeg 0) then (1 : Int32) else (0 : Int32))), .val (.int (1 : Int32))] []))
  refine own_step (fun t k => XS.goto X47.here hx rfl (pc0 := 32) (pc' := 5) rfl (hb hby own_dprog_41_method_6_code_32) (by decide) (by decide) k) ?_
  show own_Goes p e below _ (T47.setTop (mkF m 5 #[.val (.ref a1), .val (.long q1), .second, .val (.int (if q1 < (xs1.getD (0 : Int32).toNatClampNeg 0) then (1 : Int32) else (0 : Int32))), .val (.int (1 : Int32))] []))
  refine own_step (fun t k => XS.iload X47.here hx rfl (hb hby own_dprog_41_method_6_code_5) rfl k) ?_
  show own_Goes p e below _ (T47.setTop (mkF m 7 #[.val (.ref a1), .val (.long q1), .second, .val (.int (if q1 < (xs1.getD (0 : Int32).toNatClampNeg 0) then (1 : Int32) else (0 : Int32))), .val (.int (1 : Int32))] [(.int (1 : Int32))]))
  refine own_step (fun t k => XS.aloadN X47.here hx rfl (hb hby own_dprog_41_method_6_code_7) rfl rfl k) ?_
  show own_Goes p e below _ (T47.setTop (mkF m 8 #[.val (.ref a1), .val (.long q1), .second, .val (.int (if q1 < (xs1.getD (0 : Int32).toNatClampNeg 0) then (1 : Int32) else (0 : Int32))), .val (.int (1 : Int32))] [(.ref a1), (.int (1 : Int32))]))
  obtain ⟨T49, X49, e49, st49⟩ := getF X47 hx hZ hown (host := "") (Or.inl w18) Via.refl e47 F_count_a1 (g := (mkF m 8 #[.val (.ref a1), .val (.long q1), .second, .val (.int (if q1 < (xs1.getD (0 : Int32).toNatClampNeg 0) then (1 : Int32) else (0 : Int32))), .val (.int (1 : Int32))] [(.ref a1), (.int (1 : Int32))])) rfl rfl (hb hby own_dprog_41_method_6_code_8)
  refine own_step st49 ?_
  show own_Goes p e below _ (T49.setTop (mkF m 11 #[.val (.ref a1), .val (.long q1), .second, .val (.int (if q1 < (xs1.getD (0 : Int32).toNatClampNeg 0) then (1 : Int32) else (0 : Int32))), .val (.int (1 : Int32))] [(.int (1 : Int32)), (.int (1 : Int32))]))
  have hc50 : ¬ ((1 : Int32) < (1 : Int32)) := by decide
  refine own_step (fun t k => XS.icmpYes X49.here hx rfl (pc0 := 11) (pc' := 35) rfl (hb hby own_dprog_41_method_6_code_11) rfl (flt hc50).2.1 (by decide) (by decide) k) ?_
  show own_Goes p e below _ (T49.setTop (mkF m 35 #[.val (.ref a1), .val (.long q1), .second, .val (.int (if q1 < (xs1.getD (0 : Int32).toNatClampNeg 0) then (1 : Int32) else (0 : Int32))), .val (.int (1 : Int32))] []))
  refine own_step (fun t k => XS.iloadN X49.here hx rfl (hb hby own_dprog_41_method_6_code_35) rfl k) ?_
  show own_Goes p e below _ (T49.setTop (mkF m 36 #[.val (.ref a1), .val (.long q1), .second, .val (.int (if q1 < (xs1.getD (0 : Int32).toNatClampNeg 0) then (1 : Int32) else (0 : Int32))), .val (.int (1 : Int32))] [(.int (if q1 < (xs1.getD (0 : Int32).toNatClampNeg 0) then (1 : Int32) else (0 : Int32)))]))
  refine own_retV X49 hx hlk Bd.returns (w := (.int (if q1 < (xs1.getD (0 : Int32).toNatClampNeg 0) then (1 : Int32) else (0 : Int32)))) rfl (Or.inl ⟨rfl, Or.inl rfl, _, rfl⟩) (hb hby own_dprog_41_method_6_code_36) ?_ (by decide) (by decide)
  show own_o1_Q Z a1 q1 bb kk xs1 h0 n0 _ T49.heap _
  rw [e49]
  exact ⟨rfl, N0, rfl⟩
theorem own_o2_ef (m : MethodId) (a1 : Addr) (q1 : Int64) : entryFrame m #[(.ref a1), (.long q1)] 5 = mkF m 0 #[.val (.ref a1), .val (.long q1), .second, .unset, .unset] [] := by first | (simp [entryFrame, mkF, argsToLocals, Value.category]; done) | rfl
def own_o2_Q (Z : State) (a1 : Addr) (q1 : Int64) (bb : Addr) (kk : ClassId) (xs1 : List Int64) (h0 : Heap) (n0 : Nat) (v : Option Value) (h : Heap) (L : List Loc) : Prop := v = some (.int (if q1 < (xs1.getD (1 : Int32).toNatClampNeg 0) then ((if q1 < (xs1.getD (0 : Int32).toNatClampNeg 0) then (1 : Int32) else (0 : Int32)) + (1 : Int32)) else (if q1 < (xs1.getD (0 : Int32).toNatClampNeg 0) then (1 : Int32) else (0 : Int32)))) ∧ Fr n0 L ∧ h = h0
set_option maxRecDepth 65536 in
set_option maxHeartbeats 40000000 in
theorem own_o2 (l : Launch) (Z : State) (a0 : Array Value) (hw : ∀ d ∈ tables_1, d.before a0 Z = true) (ws : List Jvm.Cond) (a1 : Addr) (q1 : Int64) (bb : Addr) (kk : ClassId) (xs1 : List Int64) (h0 : Heap) (n0 : Nat) (Z0 : n0 ≤ h0.size) (F_nanos_a1 : Fld Z h0 a1 "com/example/battlement/battlement/bench/Timings" "nanos" "[J" (.ref bb)) (F_count_a1 : Fld Z h0 a1 "com/example/battlement/battlement/bench/Timings" "count" "I" (.int (2 : Int32))) (V_bb : Arv Z h0 bb kk .long (64 : Int32) (xs1.map Value.long) (Value.long 0)) :
    MetFree l (⟨"com/example/battlement/battlement/bench/Timings", "over", "(J)I"⟩ : MethodName) (head1 (Jvm.Cond.code (⟨"com/example/battlement/battlement/bench/Timings", "over", "(J)I"⟩ : MethodName) prog_41_method_6_code 5 (some .int) :: ws) ({ frames := 0, cells := 0, slots := 0, locals := 0 } : Room)) (fun aa U => aa = #[(.ref a1), (.long q1)] ∧ Z.Warmed39 U.vm ∧ U.heap = h0) (fun _ _ _ _ _ => True) (fun _ U o U' => ∃ v L, o = .returned v ∧ own_o2_Q Z a1 q1 bb kk xs1 h0 n0 v U'.heap L ∧ FrameEnd U o U' L ({ frames := 0, cells := 0, slots := 0, locals := 0 } : Room).cells ({ frames := 0, cells := 0, slots := 0, locals := 0 } : Room).slots) := by
  refine MetFree.of_bodySF (plainFor_of_name own_pn0) hisR ?_
  have w11 := hw _ (List.mem_of_getElem? (i := 11) rfl)
  have w18 := hw _ (List.mem_of_getElem? (i := 18) rfl)
  intro p e s m args below meth c s₁ Bd hml0 hP hK
  obtain ⟨rfl, hZ, hh⟩ := hP
  have hx := Bd.exec
  have hby := Bd.bytes
  have hlk := Bd.notSynchronized
  have hml : c.maxLocals = 5 := hml0
  have hown : s.vm.findClass "com/example/battlement/battlement/bench/Timings" = some m.cls := findClass_of_methodNamed Bd.named
  have hnm := (name_of_methodNamed Bd.named Bd.method).1
  have X0 : Stand p l e ({ frames := 0, cells := 0, slots := 0, locals := 0 } : Room) s m #[(.ref a1), (.long q1)] below meth c s₁ [] 0 0 := Stand.of_body Bd
  have e0 : s₁.heap = h0 := by rw [← hh, Bd.state]; rfl
  have N0 := Fr.nil n0
  have K0 : Keep h0 h0 [] := Keep.refl h0 _
  show own_Goes p e below (own_Fin s (own_o2_Q Z a1 q1 bb kk xs1 h0 n0) ({ frames := 0, cells := 0, slots := 0, locals := 0 } : Room).cells ({ frames := 0, cells := 0, slots := 0, locals := 0 } : Room).slots) _
  refine own_step (fun t k => castTop (own_o2_ef m a1 q1) k) ?_
  show own_Goes p e below _ (s₁.setTop (mkF m 0 #[.val (.ref a1), .val (.long q1), .second, .unset, .unset] []))
  refine own_step (fun t k => XS.iconst X0.here hx rfl (hb hby own_dprog_41_method_6_code_0) k) ?_
  show own_Goes p e below _ (s₁.setTop (mkF m 1 #[.val (.ref a1), .val (.long q1), .second, .unset, .unset] [(.int (0 : Int32))]))
  refine own_step (fun t k => XS.istoreN X0.here hx rfl (hb hby own_dprog_41_method_6_code_1) rfl (l' := #[.val (.ref a1), .val (.long q1), .second, .val (.int (0 : Int32)), .unset]) rfl k) ?_
  show own_Goes p e below _ (s₁.setTop (mkF m 2 #[.val (.ref a1), .val (.long q1), .second, .val (.int (0 : Int32)), .unset] []))
  refine own_step (fun t k => XS.iconst X0.here hx rfl (hb hby own_dprog_41_method_6_code_2) k) ?_
  show own_Goes p e below _ (s₁.setTop (mkF m 3 #[.val (.ref a1), .val (.long q1), .second, .val (.int (0 : Int32)), .unset] [(.int (0 : Int32))]))
  refine own_step (fun t k => XS.istore X0.here hx rfl (hb hby own_dprog_41_method_6_code_3) rfl (l' := #[.val (.ref a1), .val (.long q1), .second, .val (.int (0 : Int32)), .val (.int (0 : Int32))]) rfl k) ?_
  show own_Goes p e below _ (s₁.setTop (mkF m 5 #[.val (.ref a1), .val (.long q1), .second, .val (.int (0 : Int32)), .val (.int (0 : Int32))] []))
  refine own_step (fun t k => XS.iload X0.here hx rfl (hb hby own_dprog_41_method_6_code_5) rfl k) ?_
  show own_Goes p e below _ (s₁.setTop (mkF m 7 #[.val (.ref a1), .val (.long q1), .second, .val (.int (0 : Int32)), .val (.int (0 : Int32))] [(.int (0 : Int32))]))
  refine own_step (fun t k => XS.aloadN X0.here hx rfl (hb hby own_dprog_41_method_6_code_7) rfl rfl k) ?_
  show own_Goes p e below _ (s₁.setTop (mkF m 8 #[.val (.ref a1), .val (.long q1), .second, .val (.int (0 : Int32)), .val (.int (0 : Int32))] [(.ref a1), (.int (0 : Int32))]))
  obtain ⟨T61, X61, e61, st61⟩ := getF X0 hx hZ hown (host := "") (Or.inl w18) Via.refl e0 F_count_a1 (g := (mkF m 8 #[.val (.ref a1), .val (.long q1), .second, .val (.int (0 : Int32)), .val (.int (0 : Int32))] [(.ref a1), (.int (0 : Int32))])) rfl rfl (hb hby own_dprog_41_method_6_code_8)
  refine own_step st61 ?_
  show own_Goes p e below _ (T61.setTop (mkF m 11 #[.val (.ref a1), .val (.long q1), .second, .val (.int (0 : Int32)), .val (.int (0 : Int32))] [(.int (2 : Int32)), (.int (0 : Int32))]))
  have hc62 : (0 : Int32) < (2 : Int32) := by decide
  refine own_step (fun t k => XS.icmpNo X61.here hx rfl (hb hby own_dprog_41_method_6_code_11) rfl (tlt hc62).2.1 k) ?_
  show own_Goes p e below _ (T61.setTop (mkF m 14 #[.val (.ref a1), .val (.long q1), .second, .val (.int (0 : Int32)), .val (.int (0 : Int32))] []))
  refine own_step (fun t k => XS.aloadN X61.here hx rfl (hb hby own_dprog_41_method_6_code_14) rfl rfl k) ?_
  show own_Goes p e below _ (T61.setTop (mkF m 15 #[.val (.ref a1), .val (.long q1), .second, .val (.int (0 : Int32)), .val (.int (0 : Int32))] [(.ref a1)]))
  obtain ⟨T63, X63, e63, st63⟩ := getF X61 hx hZ hown (host := "") (Or.inl w11) Via.refl e61 F_nanos_a1 (g := (mkF m 15 #[.val (.ref a1), .val (.long q1), .second, .val (.int (0 : Int32)), .val (.int (0 : Int32))] [(.ref a1)])) rfl rfl (hb hby own_dprog_41_method_6_code_15)
  refine own_step st63 ?_
  show own_Goes p e below _ (T63.setTop (mkF m 18 #[.val (.ref a1), .val (.long q1), .second, .val (.int (0 : Int32)), .val (.int (0 : Int32))] [(.ref bb)]))
  refine own_step (fun t k => XS.iload X63.here hx rfl (hb hby own_dprog_41_method_6_code_18) rfl k) ?_
  show own_Goes p e below _ (T63.setTop (mkF m 20 #[.val (.ref a1), .val (.long q1), .second, .val (.int (0 : Int32)), .val (.int (0 : Int32))] [(.int (0 : Int32)), (.ref bb)]))
  refine own_step (fun t k => own_lal X63 hx hZ e63 V_bb ⟨by decide, by decide⟩ (g := (mkF m 20 #[.val (.ref a1), .val (.long q1), .second, .val (.int (0 : Int32)), .val (.int (0 : Int32))] [(.int (0 : Int32)), (.ref bb)])) rfl rfl (hb hby own_dprog_41_method_6_code_20) _ k) ?_
  show own_Goes p e below _ (T63.setTop (mkF m 21 #[.val (.ref a1), .val (.long q1), .second, .val (.int (0 : Int32)), .val (.int (0 : Int32))] [(.long (xs1.getD (0 : Int32).toNatClampNeg 0))]))
  refine own_step (fun t k => XS.lloadN X63.here hx rfl (hb hby own_dprog_41_method_6_code_21) rfl k) ?_
  show own_Goes p e below _ (T63.setTop (mkF m 22 #[.val (.ref a1), .val (.long q1), .second, .val (.int (0 : Int32)), .val (.int (0 : Int32))] [(.long q1), (.long (xs1.getD (0 : Int32).toNatClampNeg 0))]))
  refine own_step (fun t k => XS.lcmp X63.here hx rfl (hb hby own_dprog_41_method_6_code_22) rfl k) ?_
  show own_Goes p e below _ (T63.setTop (mkF m 23 #[.val (.ref a1), .val (.long q1), .second, .val (.int (0 : Int32)), .val (.int (0 : Int32))] [(.int (lcmpW (xs1.getD (0 : Int32).toNatClampNeg 0) q1))]))
  refine own_step (S' := T63.setTop (mkF m 29 #[.val (.ref a1), .val (.long q1), .second, .val (.int (if q1 < (xs1.getD (0 : Int32).toNatClampNeg 0) then (1 : Int32) else (0 : Int32))), .val (.int (0 : Int32))] [])) (fun t k => ?_) ?_
  · show Steps p.tables e below (T63.setTop (mkF m 23 #[.val (.ref a1), .val (.long q1), .second, .val (.int (0 : Int32)), .val (.int (0 : Int32))] [(.int (lcmpW (xs1.getD (0 : Int32).toNatClampNeg 0) q1))])) _
    by_cases hc64 : q1 < (xs1.getD (0 : Int32).toNatClampNeg 0)
    · --
      refine XS.ifNo X63.here hx rfl (hb hby own_dprog_41_method_6_code_23) rfl ((if0 _ _).trans (tlt ((lw_gt (xs1.getD (0 : Int32).toNatClampNeg 0) q1).mpr hc64)).2.2.2) ?_
      show Steps p.tables e below (T63.setTop (mkF m 26 #[.val (.ref a1), .val (.long q1), .second, .val (.int (0 : Int32)), .val (.int (0 : Int32))] [])) _
      refine XS.iinc X63.here hx rfl (hb hby own_dprog_41_method_6_code_26) rfl (l' := #[.val (.ref a1), .val (.long q1), .second, .val (.int (1 : Int32)), .val (.int (0 : Int32))]) rfl ?_
      show Steps p.tables e below (T63.setTop (mkF m 29 #[.val (.ref a1), .val (.long q1), .second, .val (.int (1 : Int32)), .val (.int (0 : Int32))] [])) _
      simp only [if_pos hc64] at k
      exact k
    · --
      refine XS.ifYes X63.here hx rfl (pc0 := 23) (pc' := 29) rfl (hb hby own_dprog_41_method_6_code_23) rfl ((if0 _ _).trans (flt (fun zq => hc64 ((lw_gt (xs1.getD (0 : Int32).toNatClampNeg 0) q1).mp zq))).2.2.2) (by decide) (by decide) ?_
      show Steps p.tables e below (T63.setTop (mkF m 29 #[.val (.ref a1), .val (.long q1), .second, .val (.int (0 : Int32)), .val (.int (0 : Int32))] [])) _
      simp only [if_neg hc64] at k
      exact k
  show own_Goes p e below _ (T63.setTop (mkF m 29 #[.val (.ref a1), .val (.long q1), .second, .val (.int (if q1 < (xs1.getD (0 : Int32).toNatClampNeg 0) then (1 : Int32) else (0 : Int32))), .val (.int (0 : Int32))] []))
  refine own_step (fun t k => XS.iinc X63.here hx rfl (hb hby own_dprog_41_method_6_code_29) rfl (l' := #[.val (.ref a1), .val (.long q1), .second, .val (.int (if q1 < (xs1.getD (0 : Int32).toNatClampNeg 0) then (1 : Int32) else (0 : Int32))), .val (.int (1 : Int32))]) rfl k) ?_
  show own_Goes p e below _ (T63.setTop (mkF m 32 #[.val (.ref a1), .val (.long q1), .second, .val (.int (if q1 < (xs1.getD (0 : Int32).toNatClampNeg 0) then (1 : Int32) else (0 : Int32))), .val (.int (1 : Int32))] []))
  refine own_step (fun t k => XS.goto X63.here hx rfl (pc0 := 32) (pc' := 5) rfl (hb hby own_dprog_41_method_6_code_32) (by decide) (by decide) k) ?_
  show own_Goes p e below _ (T63.setTop (mkF m 5 #[.val (.ref a1), .val (.long q1), .second, .val (.int (if q1 < (xs1.getD (0 : Int32).toNatClampNeg 0) then (1 : Int32) else (0 : Int32))), .val (.int (1 : Int32))] []))
  refine own_step (fun t k => XS.iload X63.here hx rfl (hb hby own_dprog_41_method_6_code_5) rfl k) ?_
  show own_Goes p e below _ (T63.setTop (mkF m 7 #[.val (.ref a1), .val (.long q1), .second, .val (.int (if q1 < (xs1.getD (0 : Int32).toNatClampNeg 0) then (1 : Int32) else (0 : Int32))), .val (.int (1 : Int32))] [(.int (1 : Int32))]))
  refine own_step (fun t k => XS.aloadN X63.here hx rfl (hb hby own_dprog_41_method_6_code_7) rfl rfl k) ?_
  show own_Goes p e below _ (T63.setTop (mkF m 8 #[.val (.ref a1), .val (.long q1), .second, .val (.int (if q1 < (xs1.getD (0 : Int32).toNatClampNeg 0) then (1 : Int32) else (0 : Int32))), .val (.int (1 : Int32))] [(.ref a1), (.int (1 : Int32))]))
  obtain ⟨T65, X65, e65, st65⟩ := getF X63 hx hZ hown (host := "") (Or.inl w18) Via.refl e63 F_count_a1 (g := (mkF m 8 #[.val (.ref a1), .val (.long q1), .second, .val (.int (if q1 < (xs1.getD (0 : Int32).toNatClampNeg 0) then (1 : Int32) else (0 : Int32))), .val (.int (1 : Int32))] [(.ref a1), (.int (1 : Int32))])) rfl rfl (hb hby own_dprog_41_method_6_code_8)
  refine own_step st65 ?_
  show own_Goes p e below _ (T65.setTop (mkF m 11 #[.val (.ref a1), .val (.long q1), .second, .val (.int (if q1 < (xs1.getD (0 : Int32).toNatClampNeg 0) then (1 : Int32) else (0 : Int32))), .val (.int (1 : Int32))] [(.int (2 : Int32)), (.int (1 : Int32))]))
  have hc66 : (1 : Int32) < (2 : Int32) := by decide
  refine own_step (fun t k => XS.icmpNo X65.here hx rfl (hb hby own_dprog_41_method_6_code_11) rfl (tlt hc66).2.1 k) ?_
  show own_Goes p e below _ (T65.setTop (mkF m 14 #[.val (.ref a1), .val (.long q1), .second, .val (.int (if q1 < (xs1.getD (0 : Int32).toNatClampNeg 0) then (1 : Int32) else (0 : Int32))), .val (.int (1 : Int32))] []))
  refine own_step (fun t k => XS.aloadN X65.here hx rfl (hb hby own_dprog_41_method_6_code_14) rfl rfl k) ?_
  show own_Goes p e below _ (T65.setTop (mkF m 15 #[.val (.ref a1), .val (.long q1), .second, .val (.int (if q1 < (xs1.getD (0 : Int32).toNatClampNeg 0) then (1 : Int32) else (0 : Int32))), .val (.int (1 : Int32))] [(.ref a1)]))
  obtain ⟨T67, X67, e67, st67⟩ := getF X65 hx hZ hown (host := "") (Or.inl w11) Via.refl e65 F_nanos_a1 (g := (mkF m 15 #[.val (.ref a1), .val (.long q1), .second, .val (.int (if q1 < (xs1.getD (0 : Int32).toNatClampNeg 0) then (1 : Int32) else (0 : Int32))), .val (.int (1 : Int32))] [(.ref a1)])) rfl rfl (hb hby own_dprog_41_method_6_code_15)
  refine own_step st67 ?_
  show own_Goes p e below _ (T67.setTop (mkF m 18 #[.val (.ref a1), .val (.long q1), .second, .val (.int (if q1 < (xs1.getD (0 : Int32).toNatClampNeg 0) then (1 : Int32) else (0 : Int32))), .val (.int (1 : Int32))] [(.ref bb)]))
  refine own_step (fun t k => XS.iload X67.here hx rfl (hb hby own_dprog_41_method_6_code_18) rfl k) ?_
  show own_Goes p e below _ (T67.setTop (mkF m 20 #[.val (.ref a1), .val (.long q1), .second, .val (.int (if q1 < (xs1.getD (0 : Int32).toNatClampNeg 0) then (1 : Int32) else (0 : Int32))), .val (.int (1 : Int32))] [(.int (1 : Int32)), (.ref bb)]))
  refine own_step (fun t k => own_lal X67 hx hZ e67 V_bb ⟨by decide, by decide⟩ (g := (mkF m 20 #[.val (.ref a1), .val (.long q1), .second, .val (.int (if q1 < (xs1.getD (0 : Int32).toNatClampNeg 0) then (1 : Int32) else (0 : Int32))), .val (.int (1 : Int32))] [(.int (1 : Int32)), (.ref bb)])) rfl rfl (hb hby own_dprog_41_method_6_code_20) _ k) ?_
  show own_Goes p e below _ (T67.setTop (mkF m 21 #[.val (.ref a1), .val (.long q1), .second, .val (.int (if q1 < (xs1.getD (0 : Int32).toNatClampNeg 0) then (1 : Int32) else (0 : Int32))), .val (.int (1 : Int32))] [(.long (xs1.getD (1 : Int32).toNatClampNeg 0))]))
  refine own_step (fun t k => XS.lloadN X67.here hx rfl (hb hby own_dprog_41_method_6_code_21) rfl k) ?_
  show own_Goes p e below _ (T67.setTop (mkF m 22 #[.val (.ref a1), .val (.long q1), .second, .val (.int (if q1 < (xs1.getD (0 : Int32).toNatClampNeg 0) then (1 : Int32) else (0 : Int32))), .val (.int (1 : Int32))] [(.long q1), (.long (xs1.getD (1 : Int32).toNatClampNeg 0))]))
  refine own_step (fun t k => XS.lcmp X67.here hx rfl (hb hby own_dprog_41_method_6_code_22) rfl k) ?_
  show own_Goes p e below _ (T67.setTop (mkF m 23 #[.val (.ref a1), .val (.long q1), .second, .val (.int (if q1 < (xs1.getD (0 : Int32).toNatClampNeg 0) then (1 : Int32) else (0 : Int32))), .val (.int (1 : Int32))] [(.int (lcmpW (xs1.getD (1 : Int32).toNatClampNeg 0) q1))]))
  refine own_step (S' := T67.setTop (mkF m 29 #[.val (.ref a1), .val (.long q1), .second, .val (.int (if q1 < (xs1.getD (1 : Int32).toNatClampNeg 0) then ((if q1 < (xs1.getD (0 : Int32).toNatClampNeg 0) then (1 : Int32) else (0 : Int32)) + (1 : Int32)) else (if q1 < (xs1.getD (0 : Int32).toNatClampNeg 0) then (1 : Int32) else (0 : Int32)))), .val (.int (1 : Int32))] [])) (fun t k => ?_) ?_
  · show Steps p.tables e below (T67.setTop (mkF m 23 #[.val (.ref a1), .val (.long q1), .second, .val (.int (if q1 < (xs1.getD (0 : Int32).toNatClampNeg 0) then (1 : Int32) else (0 : Int32))), .val (.int (1 : Int32))] [(.int (lcmpW (xs1.getD (1 : Int32).toNatClampNeg 0) q1))])) _
    by_cases hc68 : q1 < (xs1.getD (1 : Int32).toNatClampNeg 0)
    · --
      refine XS.ifNo X67.here hx rfl (hb hby own_dprog_41_method_6_code_23) rfl ((if0 _ _).trans (tlt ((lw_gt (xs1.getD (1 : Int32).toNatClampNeg 0) q1).mpr hc68)).2.2.2) ?_
      show Steps p.tables e below (T67.setTop (mkF m 26 #[.val (.ref a1), .val (.long q1), .second, .val (.int (if q1 < (xs1.getD (0 : Int32).toNatClampNeg 0) then (1 : Int32) else (0 : Int32))), .val (.int (1 : Int32))] [])) _
      refine XS.iinc X67.here hx rfl (hb hby own_dprog_41_method_6_code_26) rfl (l' := #[.val (.ref a1), .val (.long q1), .second, .val (.int ((if q1 < (xs1.getD (0 : Int32).toNatClampNeg 0) then (1 : Int32) else (0 : Int32)) + (1 : Int32))), .val (.int (1 : Int32))]) rfl ?_
      show Steps p.tables e below (T67.setTop (mkF m 29 #[.val (.ref a1), .val (.long q1), .second, .val (.int ((if q1 < (xs1.getD (0 : Int32).toNatClampNeg 0) then (1 : Int32) else (0 : Int32)) + (1 : Int32))), .val (.int (1 : Int32))] [])) _
      simp only [if_pos hc68] at k
      exact k
    · --
      refine XS.ifYes X67.here hx rfl (pc0 := 23) (pc' := 29) rfl (hb hby own_dprog_41_method_6_code_23) rfl ((if0 _ _).trans (flt (fun zq => hc68 ((lw_gt (xs1.getD (1 : Int32).toNatClampNeg 0) q1).mp zq))).2.2.2) (by decide) (by decide) ?_
      show Steps p.tables e below (T67.setTop (mkF m 29 #[.val (.ref a1), .val (.long q1), .second, .val (.int (if q1 < (xs1.getD (0 : Int32).toNatClampNeg 0) then (1 : Int32) else (0 : Int32))), .val (.int (1 : Int32))] [])) _
      simp only [if_neg hc68] at k
      exact k
  show own_Goes p e below _ (T67.setTop (mkF m 29 #[.val (.ref a1), .val (.long q1), .second, .val (.int (if q1 < (xs1.getD (1 : Int32).toNatClampNeg 0) then ((if q1 < (xs1.getD (0 : Int32).toNatClampNeg 0) then (1 : Int32) else (0 : Int32)) + (1 : Int32)) else (if q1 < (xs1.getD (0 : Int32).toNatClampNeg 0) then (1 : Int32) else (0 : Int32)))), .val (.int (1 : Int32))] []))
  refine own_step (fun t k => XS.iinc X67.here hx rfl (hb hby own_dprog_41_method_6_code_29) rfl (l' := #[.val (.ref a1), .val (.long q1), .second, .val (.int (if q1 < (xs1.getD (1 : Int32).toNatClampNeg 0) then ((if q1 < (xs1.getD (0 : Int32).toNatClampNeg 0) then (1 : Int32) else (0 : Int32)) + (1 : Int32)) else (if q1 < (xs1.getD (0 : Int32).toNatClampNeg 0) then (1 : Int32) else (0 : Int32)))), .val (.int (2 : Int32))]) rfl k) ?_
  show own_Goes p e below _ (T67.setTop (mkF m 32 #[.val (.ref a1), .val (.long q1), .second, .val (.int (if q1 < (xs1.getD (1 : Int32).toNatClampNeg 0) then ((if q1 < (xs1.getD (0 : Int32).toNatClampNeg 0) then (1 : Int32) else (0 : Int32)) + (1 : Int32)) else (if q1 < (xs1.getD (0 : Int32).toNatClampNeg 0) then (1 : Int32) else (0 : Int32)))), .val (.int (2 : Int32))] []))
  refine own_step (fun t k => XS.goto X67.here hx rfl (pc0 := 32) (pc' := 5) rfl (hb hby own_dprog_41_method_6_code_32) (by decide) (by decide) k) ?_
  show own_Goes p e below _ (T67.setTop (mkF m 5 #[.val (.ref a1), .val (.long q1), .second, .val (.int (if q1 < (xs1.getD (1 : Int32).toNatClampNeg 0) then ((if q1 < (xs1.getD (0 : Int32).toNatClampNeg 0) then (1 : Int32) else (0 : Int32)) + (1 : Int32)) else (if q1 < (xs1.getD (0 : Int32).toNatClampNeg 0) then (1 : Int32) else (0 : Int32)))), .val (.int (2 : Int32))] []))
  refine own_step (fun t k => XS.iload X67.here hx rfl (hb hby own_dprog_41_method_6_code_5) rfl k) ?_
  show own_Goes p e below _ (T67.setTop (mkF m 7 #[.val (.ref a1), .val (.long q1), .second, .val (.int (if q1 < (xs1.getD (1 : Int32).toNatClampNeg 0) then ((if q1 < (xs1.getD (0 : Int32).toNatClampNeg 0) then (1 : Int32) else (0 : Int32)) + (1 : Int32)) else (if q1 < (xs1.getD (0 : Int32).toNatClampNeg 0) then (1 : Int32) else (0 : Int32)))), .val (.int (2 : Int32))] [(.int (2 : Int32))]))
  refine own_step (fun t k => XS.aloadN X67.here hx rfl (hb hby own_dprog_41_method_6_code_7) rfl rfl k) ?_
  show own_Goes p e below _ (T67.setTop (mkF m 8 #[.val (.ref a1), .val (.long q1), .second, .val (.int (if q1 < (xs1.getD (1 : Int32).toNatClampNeg 0) then ((if q1 < (xs1.getD (0 : Int32).toNatClampNeg 0) then (1 : Int32) else (0 : Int32)) + (1 : Int32)) else (if q1 < (xs1.getD (0 : Int32).toNatClampNeg 0) then (1 : Int32) else (0 : Int32)))), .val (.int (2 : Int32))] [(.ref a1), (.int (2 : Int32))]))
  obtain ⟨T69, X69, e69, st69⟩ := getF X67 hx hZ hown (host := "") (Or.inl w18) Via.refl e67 F_count_a1 (g := (mkF m 8 #[.val (.ref a1), .val (.long q1), .second, .val (.int (if q1 < (xs1.getD (1 : Int32).toNatClampNeg 0) then ((if q1 < (xs1.getD (0 : Int32).toNatClampNeg 0) then (1 : Int32) else (0 : Int32)) + (1 : Int32)) else (if q1 < (xs1.getD (0 : Int32).toNatClampNeg 0) then (1 : Int32) else (0 : Int32)))), .val (.int (2 : Int32))] [(.ref a1), (.int (2 : Int32))])) rfl rfl (hb hby own_dprog_41_method_6_code_8)
  refine own_step st69 ?_
  show own_Goes p e below _ (T69.setTop (mkF m 11 #[.val (.ref a1), .val (.long q1), .second, .val (.int (if q1 < (xs1.getD (1 : Int32).toNatClampNeg 0) then ((if q1 < (xs1.getD (0 : Int32).toNatClampNeg 0) then (1 : Int32) else (0 : Int32)) + (1 : Int32)) else (if q1 < (xs1.getD (0 : Int32).toNatClampNeg 0) then (1 : Int32) else (0 : Int32)))), .val (.int (2 : Int32))] [(.int (2 : Int32)), (.int (2 : Int32))]))
  have hc70 : ¬ ((2 : Int32) < (2 : Int32)) := by decide
  refine own_step (fun t k => XS.icmpYes X69.here hx rfl (pc0 := 11) (pc' := 35) rfl (hb hby own_dprog_41_method_6_code_11) rfl (flt hc70).2.1 (by decide) (by decide) k) ?_
  show own_Goes p e below _ (T69.setTop (mkF m 35 #[.val (.ref a1), .val (.long q1), .second, .val (.int (if q1 < (xs1.getD (1 : Int32).toNatClampNeg 0) then ((if q1 < (xs1.getD (0 : Int32).toNatClampNeg 0) then (1 : Int32) else (0 : Int32)) + (1 : Int32)) else (if q1 < (xs1.getD (0 : Int32).toNatClampNeg 0) then (1 : Int32) else (0 : Int32)))), .val (.int (2 : Int32))] []))
  refine own_step (fun t k => XS.iloadN X69.here hx rfl (hb hby own_dprog_41_method_6_code_35) rfl k) ?_
  show own_Goes p e below _ (T69.setTop (mkF m 36 #[.val (.ref a1), .val (.long q1), .second, .val (.int (if q1 < (xs1.getD (1 : Int32).toNatClampNeg 0) then ((if q1 < (xs1.getD (0 : Int32).toNatClampNeg 0) then (1 : Int32) else (0 : Int32)) + (1 : Int32)) else (if q1 < (xs1.getD (0 : Int32).toNatClampNeg 0) then (1 : Int32) else (0 : Int32)))), .val (.int (2 : Int32))] [(.int (if q1 < (xs1.getD (1 : Int32).toNatClampNeg 0) then ((if q1 < (xs1.getD (0 : Int32).toNatClampNeg 0) then (1 : Int32) else (0 : Int32)) + (1 : Int32)) else (if q1 < (xs1.getD (0 : Int32).toNatClampNeg 0) then (1 : Int32) else (0 : Int32))))]))
  refine own_retV X69 hx hlk Bd.returns (w := (.int (if q1 < (xs1.getD (1 : Int32).toNatClampNeg 0) then ((if q1 < (xs1.getD (0 : Int32).toNatClampNeg 0) then (1 : Int32) else (0 : Int32)) + (1 : Int32)) else (if q1 < (xs1.getD (0 : Int32).toNatClampNeg 0) then (1 : Int32) else (0 : Int32))))) rfl (Or.inl ⟨rfl, Or.inl rfl, _, rfl⟩) (hb hby own_dprog_41_method_6_code_36) ?_ (by decide) (by decide)
  show own_o2_Q Z a1 q1 bb kk xs1 h0 n0 _ T69.heap _
  rw [e69]
  exact ⟨rfl, N0, rfl⟩
theorem own_o3_ef (m : MethodId) (a1 : Addr) (q1 : Int64) : entryFrame m #[(.ref a1), (.long q1)] 5 = mkF m 0 #[.val (.ref a1), .val (.long q1), .second, .unset, .unset] [] := by first | (simp [entryFrame, mkF, argsToLocals, Value.category]; done) | rfl
def own_o3_Q (Z : State) (a1 : Addr) (q1 : Int64) (bb : Addr) (kk : ClassId) (xs1 : List Int64) (h0 : Heap) (n0 : Nat) (v : Option Value) (h : Heap) (L : List Loc) : Prop := v = some (.int (if q1 < (xs1.getD (2 : Int32).toNatClampNeg 0) then ((if q1 < (xs1.getD (1 : Int32).toNatClampNeg 0) then ((if q1 < (xs1.getD (0 : Int32).toNatClampNeg 0) then (1 : Int32) else (0 : Int32)) + (1 : Int32)) else (if q1 < (xs1.getD (0 : Int32).toNatClampNeg 0) then (1 : Int32) else (0 : Int32))) + (1 : Int32)) else (if q1 < (xs1.getD (1 : Int32).toNatClampNeg 0) then ((if q1 < (xs1.getD (0 : Int32).toNatClampNeg 0) then (1 : Int32) else (0 : Int32)) + (1 : Int32)) else (if q1 < (xs1.getD (0 : Int32).toNatClampNeg 0) then (1 : Int32) else (0 : Int32))))) ∧ Fr n0 L ∧ h = h0
set_option maxRecDepth 65536 in
set_option maxHeartbeats 40000000 in
theorem own_o3 (l : Launch) (Z : State) (a0 : Array Value) (hw : ∀ d ∈ tables_1, d.before a0 Z = true) (ws : List Jvm.Cond) (a1 : Addr) (q1 : Int64) (bb : Addr) (kk : ClassId) (xs1 : List Int64) (h0 : Heap) (n0 : Nat) (Z0 : n0 ≤ h0.size) (F_nanos_a1 : Fld Z h0 a1 "com/example/battlement/battlement/bench/Timings" "nanos" "[J" (.ref bb)) (F_count_a1 : Fld Z h0 a1 "com/example/battlement/battlement/bench/Timings" "count" "I" (.int (3 : Int32))) (V_bb : Arv Z h0 bb kk .long (64 : Int32) (xs1.map Value.long) (Value.long 0)) :
    MetFree l (⟨"com/example/battlement/battlement/bench/Timings", "over", "(J)I"⟩ : MethodName) (head1 (Jvm.Cond.code (⟨"com/example/battlement/battlement/bench/Timings", "over", "(J)I"⟩ : MethodName) prog_41_method_6_code 5 (some .int) :: ws) ({ frames := 0, cells := 0, slots := 0, locals := 0 } : Room)) (fun aa U => aa = #[(.ref a1), (.long q1)] ∧ Z.Warmed39 U.vm ∧ U.heap = h0) (fun _ _ _ _ _ => True) (fun _ U o U' => ∃ v L, o = .returned v ∧ own_o3_Q Z a1 q1 bb kk xs1 h0 n0 v U'.heap L ∧ FrameEnd U o U' L ({ frames := 0, cells := 0, slots := 0, locals := 0 } : Room).cells ({ frames := 0, cells := 0, slots := 0, locals := 0 } : Room).slots) := by
  refine MetFree.of_bodySF (plainFor_of_name own_pn0) hisR ?_
  have w11 := hw _ (List.mem_of_getElem? (i := 11) rfl)
  have w18 := hw _ (List.mem_of_getElem? (i := 18) rfl)
  intro p e s m args below meth c s₁ Bd hml0 hP hK
  obtain ⟨rfl, hZ, hh⟩ := hP
  have hx := Bd.exec
  have hby := Bd.bytes
  have hlk := Bd.notSynchronized
  have hml : c.maxLocals = 5 := hml0
  have hown : s.vm.findClass "com/example/battlement/battlement/bench/Timings" = some m.cls := findClass_of_methodNamed Bd.named
  have hnm := (name_of_methodNamed Bd.named Bd.method).1
  have X0 : Stand p l e ({ frames := 0, cells := 0, slots := 0, locals := 0 } : Room) s m #[(.ref a1), (.long q1)] below meth c s₁ [] 0 0 := Stand.of_body Bd
  have e0 : s₁.heap = h0 := by rw [← hh, Bd.state]; rfl
  have N0 := Fr.nil n0
  have K0 : Keep h0 h0 [] := Keep.refl h0 _
  show own_Goes p e below (own_Fin s (own_o3_Q Z a1 q1 bb kk xs1 h0 n0) ({ frames := 0, cells := 0, slots := 0, locals := 0 } : Room).cells ({ frames := 0, cells := 0, slots := 0, locals := 0 } : Room).slots) _
  refine own_step (fun t k => castTop (own_o3_ef m a1 q1) k) ?_
  show own_Goes p e below _ (s₁.setTop (mkF m 0 #[.val (.ref a1), .val (.long q1), .second, .unset, .unset] []))
  refine own_step (fun t k => XS.iconst X0.here hx rfl (hb hby own_dprog_41_method_6_code_0) k) ?_
  show own_Goes p e below _ (s₁.setTop (mkF m 1 #[.val (.ref a1), .val (.long q1), .second, .unset, .unset] [(.int (0 : Int32))]))
  refine own_step (fun t k => XS.istoreN X0.here hx rfl (hb hby own_dprog_41_method_6_code_1) rfl (l' := #[.val (.ref a1), .val (.long q1), .second, .val (.int (0 : Int32)), .unset]) rfl k) ?_
  show own_Goes p e below _ (s₁.setTop (mkF m 2 #[.val (.ref a1), .val (.long q1), .second, .val (.int (0 : Int32)), .unset] []))
  refine own_step (fun t k => XS.iconst X0.here hx rfl (hb hby own_dprog_41_method_6_code_2) k) ?_
  show own_Goes p e below _ (s₁.setTop (mkF m 3 #[.val (.ref a1), .val (.long q1), .second, .val (.int (0 : Int32)), .unset] [(.int (0 : Int32))]))
  refine own_step (fun t k => XS.istore X0.here hx rfl (hb hby own_dprog_41_method_6_code_3) rfl (l' := #[.val (.ref a1), .val (.long q1), .second, .val (.int (0 : Int32)), .val (.int (0 : Int32))]) rfl k) ?_
  show own_Goes p e below _ (s₁.setTop (mkF m 5 #[.val (.ref a1), .val (.long q1), .second, .val (.int (0 : Int32)), .val (.int (0 : Int32))] []))
  refine own_step (fun t k => XS.iload X0.here hx rfl (hb hby own_dprog_41_method_6_code_5) rfl k) ?_
  show own_Goes p e below _ (s₁.setTop (mkF m 7 #[.val (.ref a1), .val (.long q1), .second, .val (.int (0 : Int32)), .val (.int (0 : Int32))] [(.int (0 : Int32))]))
  refine own_step (fun t k => XS.aloadN X0.here hx rfl (hb hby own_dprog_41_method_6_code_7) rfl rfl k) ?_
  show own_Goes p e below _ (s₁.setTop (mkF m 8 #[.val (.ref a1), .val (.long q1), .second, .val (.int (0 : Int32)), .val (.int (0 : Int32))] [(.ref a1), (.int (0 : Int32))]))
  obtain ⟨T85, X85, e85, st85⟩ := getF X0 hx hZ hown (host := "") (Or.inl w18) Via.refl e0 F_count_a1 (g := (mkF m 8 #[.val (.ref a1), .val (.long q1), .second, .val (.int (0 : Int32)), .val (.int (0 : Int32))] [(.ref a1), (.int (0 : Int32))])) rfl rfl (hb hby own_dprog_41_method_6_code_8)
  refine own_step st85 ?_
  show own_Goes p e below _ (T85.setTop (mkF m 11 #[.val (.ref a1), .val (.long q1), .second, .val (.int (0 : Int32)), .val (.int (0 : Int32))] [(.int (3 : Int32)), (.int (0 : Int32))]))
  have hc86 : (0 : Int32) < (3 : Int32) := by decide
  refine own_step (fun t k => XS.icmpNo X85.here hx rfl (hb hby own_dprog_41_method_6_code_11) rfl (tlt hc86).2.1 k) ?_
  show own_Goes p e below _ (T85.setTop (mkF m 14 #[.val (.ref a1), .val (.long q1), .second, .val (.int (0 : Int32)), .val (.int (0 : Int32))] []))
  refine own_step (fun t k => XS.aloadN X85.here hx rfl (hb hby own_dprog_41_method_6_code_14) rfl rfl k) ?_
  show own_Goes p e below _ (T85.setTop (mkF m 15 #[.val (.ref a1), .val (.long q1), .second, .val (.int (0 : Int32)), .val (.int (0 : Int32))] [(.ref a1)]))
  obtain ⟨T87, X87, e87, st87⟩ := getF X85 hx hZ hown (host := "") (Or.inl w11) Via.refl e85 F_nanos_a1 (g := (mkF m 15 #[.val (.ref a1), .val (.long q1), .second, .val (.int (0 : Int32)), .val (.int (0 : Int32))] [(.ref a1)])) rfl rfl (hb hby own_dprog_41_method_6_code_15)
  refine own_step st87 ?_
  show own_Goes p e below _ (T87.setTop (mkF m 18 #[.val (.ref a1), .val (.long q1), .second, .val (.int (0 : Int32)), .val (.int (0 : Int32))] [(.ref bb)]))
  refine own_step (fun t k => XS.iload X87.here hx rfl (hb hby own_dprog_41_method_6_code_18) rfl k) ?_
  show own_Goes p e below _ (T87.setTop (mkF m 20 #[.val (.ref a1), .val (.long q1), .second, .val (.int (0 : Int32)), .val (.int (0 : Int32))] [(.int (0 : Int32)), (.ref bb)]))
  refine own_step (fun t k => own_lal X87 hx hZ e87 V_bb ⟨by decide, by decide⟩ (g := (mkF m 20 #[.val (.ref a1), .val (.long q1), .second, .val (.int (0 : Int32)), .val (.int (0 : Int32))] [(.int (0 : Int32)), (.ref bb)])) rfl rfl (hb hby own_dprog_41_method_6_code_20) _ k) ?_
  show own_Goes p e below _ (T87.setTop (mkF m 21 #[.val (.ref a1), .val (.long q1), .second, .val (.int (0 : Int32)), .val (.int (0 : Int32))] [(.long (xs1.getD (0 : Int32).toNatClampNeg 0))]))
  refine own_step (fun t k => XS.lloadN X87.here hx rfl (hb hby own_dprog_41_method_6_code_21) rfl k) ?_
  show own_Goes p e below _ (T87.setTop (mkF m 22 #[.val (.ref a1), .val (.long q1), .second, .val (.int (0 : Int32)), .val (.int (0 : Int32))] [(.long q1), (.long (xs1.getD (0 : Int32).toNatClampNeg 0))]))
  refine own_step (fun t k => XS.lcmp X87.here hx rfl (hb hby own_dprog_41_method_6_code_22) rfl k) ?_
  show own_Goes p e below _ (T87.setTop (mkF m 23 #[.val (.ref a1), .val (.long q1), .second, .val (.int (0 : Int32)), .val (.int (0 : Int32))] [(.int (lcmpW (xs1.getD (0 : Int32).toNatClampNeg 0) q1))]))
  refine own_step (S' := T87.setTop (mkF m 29 #[.val (.ref a1), .val (.long q1), .second, .val (.int (if q1 < (xs1.getD (0 : Int32).toNatClampNeg 0) then (1 : Int32) else (0 : Int32))), .val (.int (0 : Int32))] [])) (fun t k => ?_) ?_
  · show Steps p.tables e below (T87.setTop (mkF m 23 #[.val (.ref a1), .val (.long q1), .second, .val (.int (0 : Int32)), .val (.int (0 : Int32))] [(.int (lcmpW (xs1.getD (0 : Int32).toNatClampNeg 0) q1))])) _
    by_cases hc88 : q1 < (xs1.getD (0 : Int32).toNatClampNeg 0)
    · --
      refine XS.ifNo X87.here hx rfl (hb hby own_dprog_41_method_6_code_23) rfl ((if0 _ _).trans (tlt ((lw_gt (xs1.getD (0 : Int32).toNatClampNeg 0) q1).mpr hc88)).2.2.2) ?_
      show Steps p.tables e below (T87.setTop (mkF m 26 #[.val (.ref a1), .val (.long q1), .second, .val (.int (0 : Int32)), .val (.int (0 : Int32))] [])) _
      refine XS.iinc X87.here hx rfl (hb hby own_dprog_41_method_6_code_26) rfl (l' := #[.val (.ref a1), .val (.long q1), .second, .val (.int (1 : Int32)), .val (.int (0 : Int32))]) rfl ?_
      show Steps p.tables e below (T87.setTop (mkF m 29 #[.val (.ref a1), .val (.long q1), .second, .val (.int (1 : Int32)), .val (.int (0 : Int32))] [])) _
      simp only [if_pos hc88] at k
      exact k
    · --
      refine XS.ifYes X87.here hx rfl (pc0 := 23) (pc' := 29) rfl (hb hby own_dprog_41_method_6_code_23) rfl ((if0 _ _).trans (flt (fun zq => hc88 ((lw_gt (xs1.getD (0 : Int32).toNatClampNeg 0) q1).mp zq))).2.2.2) (by decide) (by decide) ?_
      show Steps p.tables e below (T87.setTop (mkF m 29 #[.val (.ref a1), .val (.long q1), .second, .val (.int (0 : Int32)), .val (.int (0 : Int32))] [])) _
      simp only [if_neg hc88] at k
      exact k
  show own_Goes p e below _ (T87.setTop (mkF m 29 #[.val (.ref a1), .val (.long q1), .second, .val (.int (if q1 < (xs1.getD (0 : Int32).toNatClampNeg 0) then (1 : Int32) else (0 : Int32))), .val (.int (0 : Int32))] []))
  refine own_step (fun t k => XS.iinc X87.here hx rfl (hb hby own_dprog_41_method_6_code_29) rfl (l' := #[.val (.ref a1), .val (.long q1), .second, .val (.int (if q1 < (xs1.getD (0 : Int32).toNatClampNeg 0) then (1 : Int32) else (0 : Int32))), .val (.int (1 : Int32))]) rfl k) ?_
  show own_Goes p e below _ (T87.setTop (mkF m 32 #[.val (.ref a1), .val (.long q1), .second, .val (.int (if q1 < (xs1.getD (0 : Int32).toNatClampNeg 0) then (1 : Int32) else (0 : Int32))), .val (.int (1 : Int32))] []))
  refine own_step (fun t k => XS.goto X87.here hx rfl (pc0 := 32) (pc' := 5) rfl (hb hby own_dprog_41_method_6_code_32) (by decide) (by decide) k) ?_
  show own_Goes p e below _ (T87.setTop (mkF m 5 #[.val (.ref a1), .val (.long q1), .second, .val (.int (if q1 < (xs1.getD (0 : Int32).toNatClampNeg 0) then (1 : Int32) else (0 : Int32))), .val (.int (1 : Int32))] []))
  refine own_step (fun t k => XS.iload X87.here hx rfl (hb hby own_dprog_41_method_6_code_5) rfl k) ?_
  show own_Goes p e below _ (T87.setTop (mkF m 7 #[.val (.ref a1), .val (.long q1), .second, .val (.int (if q1 < (xs1.getD (0 : Int32).toNatClampNeg 0) then (1 : Int32) else (0 : Int32))), .val (.int (1 : Int32))] [(.int (1 : Int32))]))
  refine own_step (fun t k => XS.aloadN X87.here hx rfl (hb hby own_dprog_41_method_6_code_7) rfl rfl k) ?_
  show own_Goes p e below _ (T87.setTop (mkF m 8 #[.val (.ref a1), .val (.long q1), .second, .val (.int (if q1 < (xs1.getD (0 : Int32).toNatClampNeg 0) then (1 : Int32) else (0 : Int32))), .val (.int (1 : Int32))] [(.ref a1), (.int (1 : Int32))]))
  obtain ⟨T89, X89, e89, st89⟩ := getF X87 hx hZ hown (host := "") (Or.inl w18) Via.refl e87 F_count_a1 (g := (mkF m 8 #[.val (.ref a1), .val (.long q1), .second, .val (.int (if q1 < (xs1.getD (0 : Int32).toNatClampNeg 0) then (1 : Int32) else (0 : Int32))), .val (.int (1 : Int32))] [(.ref a1), (.int (1 : Int32))])) rfl rfl (hb hby own_dprog_41_method_6_code_8)
  refine own_step st89 ?_
  show own_Goes p e below _ (T89.setTop (mkF m 11 #[.val (.ref a1), .val (.long q1), .second, .val (.int (if q1 < (xs1.getD (0 : Int32).toNatClampNeg 0) then (1 : Int32) else (0 : Int32))), .val (.int (1 : Int32))] [(.int (3 : Int32)), (.int (1 : Int32))]))
  have hc90 : (1 : Int32) < (3 : Int32) := by decide
  refine own_step (fun t k => XS.icmpNo X89.here hx rfl (hb hby own_dprog_41_method_6_code_11) rfl (tlt hc90).2.1 k) ?_
  show own_Goes p e below _ (T89.setTop (mkF m 14 #[.val (.ref a1), .val (.long q1), .second, .val (.int (if q1 < (xs1.getD (0 : Int32).toNatClampNeg 0) then (1 : Int32) else (0 : Int32))), .val (.int (1 : Int32))] []))
  refine own_step (fun t k => XS.aloadN X89.here hx rfl (hb hby own_dprog_41_method_6_code_14) rfl rfl k) ?_
  show own_Goes p e below _ (T89.setTop (mkF m 15 #[.val (.ref a1), .val (.long q1), .second, .val (.int (if q1 < (xs1.getD (0 : Int32).toNatClampNeg 0) then (1 : Int32) else (0 : Int32))), .val (.int (1 : Int32))] [(.ref a1)]))
  obtain ⟨T91, X91, e91, st91⟩ := getF X89 hx hZ hown (host := "") (Or.inl w11) Via.refl e89 F_nanos_a1 (g := (mkF m 15 #[.val (.ref a1), .val (.long q1), .second, .val (.int (if q1 < (xs1.getD (0 : Int32).toNatClampNeg 0) then (1 : Int32) else (0 : Int32))), .val (.int (1 : Int32))] [(.ref a1)])) rfl rfl (hb hby own_dprog_41_method_6_code_15)
  refine own_step st91 ?_
  show own_Goes p e below _ (T91.setTop (mkF m 18 #[.val (.ref a1), .val (.long q1), .second, .val (.int (if q1 < (xs1.getD (0 : Int32).toNatClampNeg 0) then (1 : Int32) else (0 : Int32))), .val (.int (1 : Int32))] [(.ref bb)]))
  refine own_step (fun t k => XS.iload X91.here hx rfl (hb hby own_dprog_41_method_6_code_18) rfl k) ?_
  show own_Goes p e below _ (T91.setTop (mkF m 20 #[.val (.ref a1), .val (.long q1), .second, .val (.int (if q1 < (xs1.getD (0 : Int32).toNatClampNeg 0) then (1 : Int32) else (0 : Int32))), .val (.int (1 : Int32))] [(.int (1 : Int32)), (.ref bb)]))
  refine own_step (fun t k => own_lal X91 hx hZ e91 V_bb ⟨by decide, by decide⟩ (g := (mkF m 20 #[.val (.ref a1), .val (.long q1), .second, .val (.int (if q1 < (xs1.getD (0 : Int32).toNatClampNeg 0) then (1 : Int32) else (0 : Int32))), .val (.int (1 : Int32))] [(.int (1 : Int32)), (.ref bb)])) rfl rfl (hb hby own_dprog_41_method_6_code_20) _ k) ?_
  show own_Goes p e below _ (T91.setTop (mkF m 21 #[.val (.ref a1), .val (.long q1), .second, .val (.int (if q1 < (xs1.getD (0 : Int32).toNatClampNeg 0) then (1 : Int32) else (0 : Int32))), .val (.int (1 : Int32))] [(.long (xs1.getD (1 : Int32).toNatClampNeg 0))]))
  refine own_step (fun t k => XS.lloadN X91.here hx rfl (hb hby own_dprog_41_method_6_code_21) rfl k) ?_
  show own_Goes p e below _ (T91.setTop (mkF m 22 #[.val (.ref a1), .val (.long q1), .second, .val (.int (if q1 < (xs1.getD (0 : Int32).toNatClampNeg 0) then (1 : Int32) else (0 : Int32))), .val (.int (1 : Int32))] [(.long q1), (.long (xs1.getD (1 : Int32).toNatClampNeg 0))]))
  refine own_step (fun t k => XS.lcmp X91.here hx rfl (hb hby own_dprog_41_method_6_code_22) rfl k) ?_
  show own_Goes p e below _ (T91.setTop (mkF m 23 #[.val (.ref a1), .val (.long q1), .second, .val (.int (if q1 < (xs1.getD (0 : Int32).toNatClampNeg 0) then (1 : Int32) else (0 : Int32))), .val (.int (1 : Int32))] [(.int (lcmpW (xs1.getD (1 : Int32).toNatClampNeg 0) q1))]))
  refine own_step (S' := T91.setTop (mkF m 29 #[.val (.ref a1), .val (.long q1), .second, .val (.int (if q1 < (xs1.getD (1 : Int32).toNatClampNeg 0) then ((if q1 < (xs1.getD (0 : Int32).toNatClampNeg 0) then (1 : Int32) else (0 : Int32)) + (1 : Int32)) else (if q1 < (xs1.getD (0 : Int32).toNatClampNeg 0) then (1 : Int32) else (0 : Int32)))), .val (.int (1 : Int32))] [])) (fun t k => ?_) ?_
  · show Steps p.tables e below (T91.setTop (mkF m 23 #[.val (.ref a1), .val (.long q1), .second, .val (.int (if q1 < (xs1.getD (0 : Int32).toNatClampNeg 0) then (1 : Int32) else (0 : Int32))), .val (.int (1 : Int32))] [(.int (lcmpW (xs1.getD (1 : Int32).toNatClampNeg 0) q1))])) _
    by_cases hc92 : q1 < (xs1.getD (1 : Int32).toNatClampNeg 0)
    · --
      refine XS.ifNo X91.here hx rfl (hb hby own_dprog_41_method_6_code_23) rfl ((if0 _ _).trans (tlt ((lw_gt (xs1.getD (1 : Int32).toNatClampNeg 0) q1).mpr hc92)).2.2.2) ?_
      show Steps p.tables e below (T91.setTop (mkF m 26 #[.val (.ref a1), .val (.long q1), .second, .val (.int (if q1 < (xs1.getD (0 : Int32).toNatClampNeg 0) then (1 : Int32) else (0 : Int32))), .val (.int (1 : Int32))] [])) _
      refine XS.iinc X91.here hx rfl (hb hby own_dprog_41_method_6_code_26) rfl (l' := #[.val (.ref a1), .val (.long q1), .second, .val (.int ((if q1 < (xs1.getD (0 : Int32).toNatClampNeg 0) then (1 : Int32) else (0 : Int32)) + (1 : Int32))), .val (.int (1 : Int32))]) rfl ?_
      show Steps p.tables e below (T91.setTop (mkF m 29 #[.val (.ref a1), .val (.long q1), .second, .val (.int ((if q1 < (xs1.getD (0 : Int32).toNatClampNeg 0) then (1 : Int32) else (0 : Int32)) + (1 : Int32))), .val (.int (1 : Int32))] [])) _
      simp only [if_pos hc92] at k
      exact k
    · --
      refine XS.ifYes X91.here hx rfl (pc0 := 23) (pc' := 29) rfl (hb hby own_dprog_41_method_6_code_23) rfl ((if0 _ _).trans (flt (fun zq => hc92 ((lw_gt (xs1.getD (1 : Int32).toNatClampNeg 0) q1).mp zq))).2.2.2) (by decide) (by decide) ?_
      show Steps p.tables e below (T91.setTop (mkF m 29 #[.val (.ref a1), .val (.long q1), .second, .val (.int (if q1 < (xs1.getD (0 : Int32).toNatClampNeg 0) then (1 : Int32) else (0 : Int32))), .val (.int (1 : Int32))] [])) _
      simp only [if_neg hc92] at k
      exact k
  show own_Goes p e below _ (T91.setTop (mkF m 29 #[.val (.ref a1), .val (.long q1), .second, .val (.int (if q1 < (xs1.getD (1 : Int32).toNatClampNeg 0) then ((if q1 < (xs1.getD (0 : Int32).toNatClampNeg 0) then (1 : Int32) else (0 : Int32)) + (1 : Int32)) else (if q1 < (xs1.getD (0 : Int32).toNatClampNeg 0) then (1 : Int32) else (0 : Int32)))), .val (.int (1 : Int32))] []))
  refine own_step (fun t k => XS.iinc X91.here hx rfl (hb hby own_dprog_41_method_6_code_29) rfl (l' := #[.val (.ref a1), .val (.long q1), .second, .val (.int (if q1 < (xs1.getD (1 : Int32).toNatClampNeg 0) then ((if q1 < (xs1.getD (0 : Int32).toNatClampNeg 0) then (1 : Int32) else (0 : Int32)) + (1 : Int32)) else (if q1 < (xs1.getD (0 : Int32).toNatClampNeg 0) then (1 : Int32) else (0 : Int32)))), .val (.int (2 : Int32))]) rfl k) ?_
  show own_Goes p e below _ (T91.setTop (mkF m 32 #[.val (.ref a1), .val (.long q1), .second, .val (.int (if q1 < (xs1.getD (1 : Int32).toNatClampNeg 0) then ((if q1 < (xs1.getD (0 : Int32).toNatClampNeg 0) then (1 : Int32) else (0 : Int32)) + (1 : Int32)) else (if q1 < (xs1.getD (0 : Int32).toNatClampNeg 0) then (1 : Int32) else (0 : Int32)))), .val (.int (2 : Int32))] []))
  refine own_step (fun t k => XS.goto X91.here hx rfl (pc0 := 32) (pc' := 5) rfl (hb hby own_dprog_41_method_6_code_32) (by decide) (by decide) k) ?_
  show own_Goes p e below _ (T91.setTop (mkF m 5 #[.val (.ref a1), .val (.long q1), .second, .val (.int (if q1 < (xs1.getD (1 : Int32).toNatClampNeg 0) then ((if q1 < (xs1.getD (0 : Int32).toNatClampNeg 0) then (1 : Int32) else (0 : Int32)) + (1 : Int32)) else (if q1 < (xs1.getD (0 : Int32).toNatClampNeg 0) then (1 : Int32) else (0 : Int32)))), .val (.int (2 : Int32))] []))
  refine own_step (fun t k => XS.iload X91.here hx rfl (hb hby own_dprog_41_method_6_code_5) rfl k) ?_
  show own_Goes p e below _ (T91.setTop (mkF m 7 #[.val (.ref a1), .val (.long q1), .second, .val (.int (if q1 < (xs1.getD (1 : Int32).toNatClampNeg 0) then ((if q1 < (xs1.getD (0 : Int32).toNatClampNeg 0) then (1 : Int32) else (0 : Int32)) + (1 : Int32)) else (if q1 < (xs1.getD (0 : Int32).toNatClampNeg 0) then (1 : Int32) else (0 : Int32)))), .val (.int (2 : Int32))] [(.int (2 : Int32))]))
  refine own_step (fun t k => XS.aloadN X91.here hx rfl (hb hby own_dprog_41_method_6_code_7) rfl rfl k) ?_
  show own_Goes p e below _ (T91.setTop (mkF m 8 #[.val (.ref a1), .val (.long q1), .second, .val (.int (if q1 < (xs1.getD (1 : Int32).toNatClampNeg 0) then ((if q1 < (xs1.getD (0 : Int32).toNatClampNeg 0) then (1 : Int32) else (0 : Int32)) + (1 : Int32)) else (if q1 < (xs1.getD (0 : Int32).toNatClampNeg 0) then (1 : Int32) else (0 : Int32)))), .val (.int (2 : Int32))] [(.ref a1), (.int (2 : Int32))]))
  obtain ⟨T93, X93, e93, st93⟩ := getF X91 hx hZ hown (host := "") (Or.inl w18) Via.refl e91 F_count_a1 (g := (mkF m 8 #[.val (.ref a1), .val (.long q1), .second, .val (.int (if q1 < (xs1.getD (1 : Int32).toNatClampNeg 0) then ((if q1 < (xs1.getD (0 : Int32).toNatClampNeg 0) then (1 : Int32) else (0 : Int32)) + (1 : Int32)) else (if q1 < (xs1.getD (0 : Int32).toNatClampNeg 0) then (1 : Int32) else (0 : Int32)))), .val (.int (2 : Int32))] [(.ref a1), (.int (2 : Int32))])) rfl rfl (hb hby own_dprog_41_method_6_code_8)
  refine own_step st93 ?_
  show own_Goes p e below _ (T93.setTop (mkF m 11 #[.val (.ref a1), .val (.long q1), .second, .val (.int (if q1 < (xs1.getD (1 : Int32).toNatClampNeg 0) then ((if q1 < (xs1.getD (0 : Int32).toNatClampNeg 0) then (1 : Int32) else (0 : Int32)) + (1 : Int32)) else (if q1 < (xs1.getD (0 : Int32).toNatClampNeg 0) then (1 : Int32) else (0 : Int32)))), .val (.int (2 : Int32))] [(.int (3 : Int32)), (.int (2 : Int32))]))
  have hc94 : (2 : Int32) < (3 : Int32) := by decide
  refine own_step (fun t k => XS.icmpNo X93.here hx rfl (hb hby own_dprog_41_method_6_code_11) rfl (tlt hc94).2.1 k) ?_
  show own_Goes p e below _ (T93.setTop (mkF m 14 #[.val (.ref a1), .val (.long q1), .second, .val (.int (if q1 < (xs1.getD (1 : Int32).toNatClampNeg 0) then ((if q1 < (xs1.getD (0 : Int32).toNatClampNeg 0) then (1 : Int32) else (0 : Int32)) + (1 : Int32)) else (if q1 < (xs1.getD (0 : Int32).toNatClampNeg 0) then (1 : Int32) else (0 : Int32)))), .val (.int (2 : Int32))] []))
  refine own_step (fun t k => XS.aloadN X93.here hx rfl (hb hby own_dprog_41_method_6_code_14) rfl rfl k) ?_
  show own_Goes p e below _ (T93.setTop (mkF m 15 #[.val (.ref a1), .val (.long q1), .second, .val (.int (if q1 < (xs1.getD (1 : Int32).toNatClampNeg 0) then ((if q1 < (xs1.getD (0 : Int32).toNatClampNeg 0) then (1 : Int32) else (0 : Int32)) + (1 : Int32)) else (if q1 < (xs1.getD (0 : Int32).toNatClampNeg 0) then (1 : Int32) else (0 : Int32)))), .val (.int (2 : Int32))] [(.ref a1)]))
  obtain ⟨T95, X95, e95, st95⟩ := getF X93 hx hZ hown (host := "") (Or.inl w11) Via.refl e93 F_nanos_a1 (g := (mkF m 15 #[.val (.ref a1), .val (.long q1), .second, .val (.int (if q1 < (xs1.getD (1 : Int32).toNatClampNeg 0) then ((if q1 < (xs1.getD (0 : Int32).toNatClampNeg 0) then (1 : Int32) else (0 : Int32)) + (1 : Int32)) else (if q1 < (xs1.getD (0 : Int32).toNatClampNeg 0) then (1 : Int32) else (0 : Int32)))), .val (.int (2 : Int32))] [(.ref a1)])) rfl rfl (hb hby own_dprog_41_method_6_code_15)
  refine own_step st95 ?_
  show own_Goes p e below _ (T95.setTop (mkF m 18 #[.val (.ref a1), .val (.long q1), .second, .val (.int (if q1 < (xs1.getD (1 : Int32).toNatClampNeg 0) then ((if q1 < (xs1.getD (0 : Int32).toNatClampNeg 0) then (1 : Int32) else (0 : Int32)) + (1 : Int32)) else (if q1 < (xs1.getD (0 : Int32).toNatClampNeg 0) then (1 : Int32) else (0 : Int32)))), .val (.int (2 : Int32))] [(.ref bb)]))
  refine own_step (fun t k => XS.iload X95.here hx rfl (hb hby own_dprog_41_method_6_code_18) rfl k) ?_
  show own_Goes p e below _ (T95.setTop (mkF m 20 #[.val (.ref a1), .val (.long q1), .second, .val (.int (if q1 < (xs1.getD (1 : Int32).toNatClampNeg 0) then ((if q1 < (xs1.getD (0 : Int32).toNatClampNeg 0) then (1 : Int32) else (0 : Int32)) + (1 : Int32)) else (if q1 < (xs1.getD (0 : Int32).toNatClampNeg 0) then (1 : Int32) else (0 : Int32)))), .val (.int (2 : Int32))] [(.int (2 : Int32)), (.ref bb)]))
  refine own_step (fun t k => own_lal X95 hx hZ e95 V_bb ⟨by decide, by decide⟩ (g := (mkF m 20 #[.val (.ref a1), .val (.long q1), .second, .val (.int (if q1 < (xs1.getD (1 : Int32).toNatClampNeg 0) then ((if q1 < (xs1.getD (0 : Int32).toNatClampNeg 0) then (1 : Int32) else (0 : Int32)) + (1 : Int32)) else (if q1 < (xs1.getD (0 : Int32).toNatClampNeg 0) then (1 : Int32) else (0 : Int32)))), .val (.int (2 : Int32))] [(.int (2 : Int32)), (.ref bb)])) rfl rfl (hb hby own_dprog_41_method_6_code_20) _ k) ?_
  show own_Goes p e below _ (T95.setTop (mkF m 21 #[.val (.ref a1), .val (.long q1), .second, .val (.int (if q1 < (xs1.getD (1 : Int32).toNatClampNeg 0) then ((if q1 < (xs1.getD (0 : Int32).toNatClampNeg 0) then (1 : Int32) else (0 : Int32)) + (1 : Int32)) else (if q1 < (xs1.getD (0 : Int32).toNatClampNeg 0) then (1 : Int32) else (0 : Int32)))), .val (.int (2 : Int32))] [(.long (xs1.getD (2 : Int32).toNatClampNeg 0))]))
  refine own_step (fun t k => XS.lloadN X95.here hx rfl (hb hby own_dprog_41_method_6_code_21) rfl k) ?_
  show own_Goes p e below _ (T95.setTop (mkF m 22 #[.val (.ref a1), .val (.long q1), .second, .val (.int (if q1 < (xs1.getD (1 : Int32).toNatClampNeg 0) then ((if q1 < (xs1.getD (0 : Int32).toNatClampNeg 0) then (1 : Int32) else (0 : Int32)) + (1 : Int32)) else (if q1 < (xs1.getD (0 : Int32).toNatClampNeg 0) then (1 : Int32) else (0 : Int32)))), .val (.int (2 : Int32))] [(.long q1), (.long (xs1.getD (2 : Int32).toNatClampNeg 0))]))
  refine own_step (fun t k => XS.lcmp X95.here hx rfl (hb hby own_dprog_41_method_6_code_22) rfl k) ?_
  show own_Goes p e below _ (T95.setTop (mkF m 23 #[.val (.ref a1), .val (.long q1), .second, .val (.int (if q1 < (xs1.getD (1 : Int32).toNatClampNeg 0) then ((if q1 < (xs1.getD (0 : Int32).toNatClampNeg 0) then (1 : Int32) else (0 : Int32)) + (1 : Int32)) else (if q1 < (xs1.getD (0 : Int32).toNatClampNeg 0) then (1 : Int32) else (0 : Int32)))), .val (.int (2 : Int32))] [(.int (lcmpW (xs1.getD (2 : Int32).toNatClampNeg 0) q1))]))
  refine own_step (S' := T95.setTop (mkF m 29 #[.val (.ref a1), .val (.long q1), .second, .val (.int (if q1 < (xs1.getD (2 : Int32).toNatClampNeg 0) then ((if q1 < (xs1.getD (1 : Int32).toNatClampNeg 0) then ((if q1 < (xs1.getD (0 : Int32).toNatClampNeg 0) then (1 : Int32) else (0 : Int32)) + (1 : Int32)) else (if q1 < (xs1.getD (0 : Int32).toNatClampNeg 0) then (1 : Int32) else (0 : Int32))) + (1 : Int32)) else (if q1 < (xs1.getD (1 : Int32).toNatClampNeg 0) then ((if q1 < (xs1.getD (0 : Int32).toNatClampNeg 0) then (1 : Int32) else (0 : Int32)) + (1 : Int32)) else (if q1 < (xs1.getD (0 : Int32).toNatClampNeg 0) then (1 : Int32) else (0 : Int32))))), .val (.int (2 : Int32))] [])) (fun t k => ?_) ?_
  · show Steps p.tables e below (T95.setTop (mkF m 23 #[.val (.ref a1), .val (.long q1), .second, .val (.int (if q1 < (xs1.getD (1 : Int32).toNatClampNeg 0) then ((if q1 < (xs1.getD (0 : Int32).toNatClampNeg 0) then (1 : Int32) else (0 : Int32)) + (1 : Int32)) else (if q1 < (xs1.getD (0 : Int32).toNatClampNeg 0) then (1 : Int32) else (0 : Int32)))), .val (.int (2 : Int32))] [(.int (lcmpW (xs1.getD (2 : Int32).toNatClampNeg 0) q1))])) _
    by_cases hc96 : q1 < (xs1.getD (2 : Int32).toNatClampNeg 0)
    · --
      refine XS.ifNo X95.here hx rfl (hb hby own_dprog_41_method_6_code_23) rfl ((if0 _ _).trans (tlt ((lw_gt (xs1.getD (2 : Int32).toNatClampNeg 0) q1).mpr hc96)).2.2.2) ?_
      show Steps p.tables e below (T95.setTop (mkF m 26 #[.val (.ref a1), .val (.long q1), .second, .val (.int (if q1 < (xs1.getD (1 : Int32).toNatClampNeg 0) then ((if q1 < (xs1.getD (0 : Int32).toNatClampNeg 0) then (1 : Int32) else (0 : Int32)) + (1 : Int32)) else (if q1 < (xs1.getD (0 : Int32).toNatClampNeg 0) then (1 : Int32) else (0 : Int32)))), .val (.int (2 : Int32))] [])) _
      refine XS.iinc X95.here hx rfl (hb hby own_dprog_41_method_6_code_26) rfl (l' := #[.val (.ref a1), .val (.long q1), .second, .val (.int ((if q1 < (xs1.getD (1 : Int32).toNatClampNeg 0) then ((if q1 < (xs1.getD (0 : Int32).toNatClampNeg 0) then (1 : Int32) else (0 : Int32)) + (1 : Int32)) else (if q1 < (xs1.getD (0 : Int32).toNatClampNeg 0) then (1 : Int32) else (0 : Int32))) + (1 : Int32))), .val (.int (2 : Int32))]) rfl ?_
      show Steps p.tables e below (T95.setTop (mkF m 29 #[.val (.ref a1), .val (.long q1), .second, .val (.int ((if q1 < (xs1.getD (1 : Int32).toNatClampNeg 0) then ((if q1 < (xs1.getD (0 : Int32).toNatClampNeg 0) then (1 : Int32) else (0 : Int32)) + (1 : Int32)) else (if q1 < (xs1.getD (0 : Int32).toNatClampNeg 0) then (1 : Int32) else (0 : Int32))) + (1 : Int32))), .val (.int (2 : Int32))] [])) _
      simp only [if_pos hc96] at k
      exact k
    · --
      refine XS.ifYes X95.here hx rfl (pc0 := 23) (pc' := 29) rfl (hb hby own_dprog_41_method_6_code_23) rfl ((if0 _ _).trans (flt (fun zq => hc96 ((lw_gt (xs1.getD (2 : Int32).toNatClampNeg 0) q1).mp zq))).2.2.2) (by decide) (by decide) ?_
      show Steps p.tables e below (T95.setTop (mkF m 29 #[.val (.ref a1), .val (.long q1), .second, .val (.int (if q1 < (xs1.getD (1 : Int32).toNatClampNeg 0) then ((if q1 < (xs1.getD (0 : Int32).toNatClampNeg 0) then (1 : Int32) else (0 : Int32)) + (1 : Int32)) else (if q1 < (xs1.getD (0 : Int32).toNatClampNeg 0) then (1 : Int32) else (0 : Int32)))), .val (.int (2 : Int32))] [])) _
      simp only [if_neg hc96] at k
      exact k
  show own_Goes p e below _ (T95.setTop (mkF m 29 #[.val (.ref a1), .val (.long q1), .second, .val (.int (if q1 < (xs1.getD (2 : Int32).toNatClampNeg 0) then ((if q1 < (xs1.getD (1 : Int32).toNatClampNeg 0) then ((if q1 < (xs1.getD (0 : Int32).toNatClampNeg 0) then (1 : Int32) else (0 : Int32)) + (1 : Int32)) else (if q1 < (xs1.getD (0 : Int32).toNatClampNeg 0) then (1 : Int32) else (0 : Int32))) + (1 : Int32)) else (if q1 < (xs1.getD (1 : Int32).toNatClampNeg 0) then ((if q1 < (xs1.getD (0 : Int32).toNatClampNeg 0) then (1 : Int32) else (0 : Int32)) + (1 : Int32)) else (if q1 < (xs1.getD (0 : Int32).toNatClampNeg 0) then (1 : Int32) else (0 : Int32))))), .val (.int (2 : Int32))] []))
  refine own_step (fun t k => XS.iinc X95.here hx rfl (hb hby own_dprog_41_method_6_code_29) rfl (l' := #[.val (.ref a1), .val (.long q1), .second, .val (.int (if q1 < (xs1.getD (2 : Int32).toNatClampNeg 0) then ((if q1 < (xs1.getD (1 : Int32).toNatClampNeg 0) then ((if q1 < (xs1.getD (0 : Int32).toNatClampNeg 0) then (1 : Int32) else (0 : Int32)) + (1 : Int32)) else (if q1 < (xs1.getD (0 : Int32).toNatClampNeg 0) then (1 : Int32) else (0 : Int32))) + (1 : Int32)) else (if q1 < (xs1.getD (1 : Int32).toNatClampNeg 0) then ((if q1 < (xs1.getD (0 : Int32).toNatClampNeg 0) then (1 : Int32) else (0 : Int32)) + (1 : Int32)) else (if q1 < (xs1.getD (0 : Int32).toNatClampNeg 0) then (1 : Int32) else (0 : Int32))))), .val (.int (3 : Int32))]) rfl k) ?_
  show own_Goes p e below _ (T95.setTop (mkF m 32 #[.val (.ref a1), .val (.long q1), .second, .val (.int (if q1 < (xs1.getD (2 : Int32).toNatClampNeg 0) then ((if q1 < (xs1.getD (1 : Int32).toNatClampNeg 0) then ((if q1 < (xs1.getD (0 : Int32).toNatClampNeg 0) then (1 : Int32) else (0 : Int32)) + (1 : Int32)) else (if q1 < (xs1.getD (0 : Int32).toNatClampNeg 0) then (1 : Int32) else (0 : Int32))) + (1 : Int32)) else (if q1 < (xs1.getD (1 : Int32).toNatClampNeg 0) then ((if q1 < (xs1.getD (0 : Int32).toNatClampNeg 0) then (1 : Int32) else (0 : Int32)) + (1 : Int32)) else (if q1 < (xs1.getD (0 : Int32).toNatClampNeg 0) then (1 : Int32) else (0 : Int32))))), .val (.int (3 : Int32))] []))
  refine own_step (fun t k => XS.goto X95.here hx rfl (pc0 := 32) (pc' := 5) rfl (hb hby own_dprog_41_method_6_code_32) (by decide) (by decide) k) ?_
  show own_Goes p e below _ (T95.setTop (mkF m 5 #[.val (.ref a1), .val (.long q1), .second, .val (.int (if q1 < (xs1.getD (2 : Int32).toNatClampNeg 0) then ((if q1 < (xs1.getD (1 : Int32).toNatClampNeg 0) then ((if q1 < (xs1.getD (0 : Int32).toNatClampNeg 0) then (1 : Int32) else (0 : Int32)) + (1 : Int32)) else (if q1 < (xs1.getD (0 : Int32).toNatClampNeg 0) then (1 : Int32) else (0 : Int32))) + (1 : Int32)) else (if q1 < (xs1.getD (1 : Int32).toNatClampNeg 0) then ((if q1 < (xs1.getD (0 : Int32).toNatClampNeg 0) then (1 : Int32) else (0 : Int32)) + (1 : Int32)) else (if q1 < (xs1.getD (0 : Int32).toNatClampNeg 0) then (1 : Int32) else (0 : Int32))))), .val (.int (3 : Int32))] []))
  refine own_step (fun t k => XS.iload X95.here hx rfl (hb hby own_dprog_41_method_6_code_5) rfl k) ?_
  show own_Goes p e below _ (T95.setTop (mkF m 7 #[.val (.ref a1), .val (.long q1), .second, .val (.int (if q1 < (xs1.getD (2 : Int32).toNatClampNeg 0) then ((if q1 < (xs1.getD (1 : Int32).toNatClampNeg 0) then ((if q1 < (xs1.getD (0 : Int32).toNatClampNeg 0) then (1 : Int32) else (0 : Int32)) + (1 : Int32)) else (if q1 < (xs1.getD (0 : Int32).toNatClampNeg 0) then (1 : Int32) else (0 : Int32))) + (1 : Int32)) else (if q1 < (xs1.getD (1 : Int32).toNatClampNeg 0) then ((if q1 < (xs1.getD (0 : Int32).toNatClampNeg 0) then (1 : Int32) else (0 : Int32)) + (1 : Int32)) else (if q1 < (xs1.getD (0 : Int32).toNatClampNeg 0) then (1 : Int32) else (0 : Int32))))), .val (.int (3 : Int32))] [(.int (3 : Int32))]))
  refine own_step (fun t k => XS.aloadN X95.here hx rfl (hb hby own_dprog_41_method_6_code_7) rfl rfl k) ?_
  show own_Goes p e below _ (T95.setTop (mkF m 8 #[.val (.ref a1), .val (.long q1), .second, .val (.int (if q1 < (xs1.getD (2 : Int32).toNatClampNeg 0) then ((if q1 < (xs1.getD (1 : Int32).toNatClampNeg 0) then ((if q1 < (xs1.getD (0 : Int32).toNatClampNeg 0) then (1 : Int32) else (0 : Int32)) + (1 : Int32)) else (if q1 < (xs1.getD (0 : Int32).toNatClampNeg 0) then (1 : Int32) else (0 : Int32))) + (1 : Int32)) else (if q1 < (xs1.getD (1 : Int32).toNatClampNeg 0) then ((if q1 < (xs1.getD (0 : Int32).toNatClampNeg 0) then (1 : Int32) else (0 : Int32)) + (1 : Int32)) else (if q1 < (xs1.getD (0 : Int32).toNatClampNeg 0) then (1 : Int32) else (0 : Int32))))), .val (.int (3 : Int32))] [(.ref a1), (.int (3 : Int32))]))
  obtain ⟨T97, X97, e97, st97⟩ := getF X95 hx hZ hown (host := "") (Or.inl w18) Via.refl e95 F_count_a1 (g := (mkF m 8 #[.val (.ref a1), .val (.long q1), .second, .val (.int (if q1 < (xs1.getD (2 : Int32).toNatClampNeg 0) then ((if q1 < (xs1.getD (1 : Int32).toNatClampNeg 0) then ((if q1 < (xs1.getD (0 : Int32).toNatClampNeg 0) then (1 : Int32) else (0 : Int32)) + (1 : Int32)) else (if q1 < (xs1.getD (0 : Int32).toNatClampNeg 0) then (1 : Int32) else (0 : Int32))) + (1 : Int32)) else (if q1 < (xs1.getD (1 : Int32).toNatClampNeg 0) then ((if q1 < (xs1.getD (0 : Int32).toNatClampNeg 0) then (1 : Int32) else (0 : Int32)) + (1 : Int32)) else (if q1 < (xs1.getD (0 : Int32).toNatClampNeg 0) then (1 : Int32) else (0 : Int32))))), .val (.int (3 : Int32))] [(.ref a1), (.int (3 : Int32))])) rfl rfl (hb hby own_dprog_41_method_6_code_8)
  refine own_step st97 ?_
  show own_Goes p e below _ (T97.setTop (mkF m 11 #[.val (.ref a1), .val (.long q1), .second, .val (.int (if q1 < (xs1.getD (2 : Int32).toNatClampNeg 0) then ((if q1 < (xs1.getD (1 : Int32).toNatClampNeg 0) then ((if q1 < (xs1.getD (0 : Int32).toNatClampNeg 0) then (1 : Int32) else (0 : Int32)) + (1 : Int32)) else (if q1 < (xs1.getD (0 : Int32).toNatClampNeg 0) then (1 : Int32) else (0 : Int32))) + (1 : Int32)) else (if q1 < (xs1.getD (1 : Int32).toNatClampNeg 0) then ((if q1 < (xs1.getD (0 : Int32).toNatClampNeg 0) then (1 : Int32) else (0 : Int32)) + (1 : Int32)) else (if q1 < (xs1.getD (0 : Int32).toNatClampNeg 0) then (1 : Int32) else (0 : Int32))))), .val (.int (3 : Int32))] [(.int (3 : Int32)), (.int (3 : Int32))]))
  have hc98 : ¬ ((3 : Int32) < (3 : Int32)) := by decide
  refine own_step (fun t k => XS.icmpYes X97.here hx rfl (pc0 := 11) (pc' := 35) rfl (hb hby own_dprog_41_method_6_code_11) rfl (flt hc98).2.1 (by decide) (by decide) k) ?_
  show own_Goes p e below _ (T97.setTop (mkF m 35 #[.val (.ref a1), .val (.long q1), .second, .val (.int (if q1 < (xs1.getD (2 : Int32).toNatClampNeg 0) then ((if q1 < (xs1.getD (1 : Int32).toNatClampNeg 0) then ((if q1 < (xs1.getD (0 : Int32).toNatClampNeg 0) then (1 : Int32) else (0 : Int32)) + (1 : Int32)) else (if q1 < (xs1.getD (0 : Int32).toNatClampNeg 0) then (1 : Int32) else (0 : Int32))) + (1 : Int32)) else (if q1 < (xs1.getD (1 : Int32).toNatClampNeg 0) then ((if q1 < (xs1.getD (0 : Int32).toNatClampNeg 0) then (1 : Int32) else (0 : Int32)) + (1 : Int32)) else (if q1 < (xs1.getD (0 : Int32).toNatClampNeg 0) then (1 : Int32) else (0 : Int32))))), .val (.int (3 : Int32))] []))
  refine own_step (fun t k => XS.iloadN X97.here hx rfl (hb hby own_dprog_41_method_6_code_35) rfl k) ?_
  show own_Goes p e below _ (T97.setTop (mkF m 36 #[.val (.ref a1), .val (.long q1), .second, .val (.int (if q1 < (xs1.getD (2 : Int32).toNatClampNeg 0) then ((if q1 < (xs1.getD (1 : Int32).toNatClampNeg 0) then ((if q1 < (xs1.getD (0 : Int32).toNatClampNeg 0) then (1 : Int32) else (0 : Int32)) + (1 : Int32)) else (if q1 < (xs1.getD (0 : Int32).toNatClampNeg 0) then (1 : Int32) else (0 : Int32))) + (1 : Int32)) else (if q1 < (xs1.getD (1 : Int32).toNatClampNeg 0) then ((if q1 < (xs1.getD (0 : Int32).toNatClampNeg 0) then (1 : Int32) else (0 : Int32)) + (1 : Int32)) else (if q1 < (xs1.getD (0 : Int32).toNatClampNeg 0) then (1 : Int32) else (0 : Int32))))), .val (.int (3 : Int32))] [(.int (if q1 < (xs1.getD (2 : Int32).toNatClampNeg 0) then ((if q1 < (xs1.getD (1 : Int32).toNatClampNeg 0) then ((if q1 < (xs1.getD (0 : Int32).toNatClampNeg 0) then (1 : Int32) else (0 : Int32)) + (1 : Int32)) else (if q1 < (xs1.getD (0 : Int32).toNatClampNeg 0) then (1 : Int32) else (0 : Int32))) + (1 : Int32)) else (if q1 < (xs1.getD (1 : Int32).toNatClampNeg 0) then ((if q1 < (xs1.getD (0 : Int32).toNatClampNeg 0) then (1 : Int32) else (0 : Int32)) + (1 : Int32)) else (if q1 < (xs1.getD (0 : Int32).toNatClampNeg 0) then (1 : Int32) else (0 : Int32)))))]))
  refine own_retV X97 hx hlk Bd.returns (w := (.int (if q1 < (xs1.getD (2 : Int32).toNatClampNeg 0) then ((if q1 < (xs1.getD (1 : Int32).toNatClampNeg 0) then ((if q1 < (xs1.getD (0 : Int32).toNatClampNeg 0) then (1 : Int32) else (0 : Int32)) + (1 : Int32)) else (if q1 < (xs1.getD (0 : Int32).toNatClampNeg 0) then (1 : Int32) else (0 : Int32))) + (1 : Int32)) else (if q1 < (xs1.getD (1 : Int32).toNatClampNeg 0) then ((if q1 < (xs1.getD (0 : Int32).toNatClampNeg 0) then (1 : Int32) else (0 : Int32)) + (1 : Int32)) else (if q1 < (xs1.getD (0 : Int32).toNatClampNeg 0) then (1 : Int32) else (0 : Int32)))))) rfl (Or.inl ⟨rfl, Or.inl rfl, _, rfl⟩) (hb hby own_dprog_41_method_6_code_36) ?_ (by decide) (by decide)
  show own_o3_Q Z a1 q1 bb kk xs1 h0 n0 _ T97.heap _
  rw [e97]
  exact ⟨rfl, N0, rfl⟩
theorem own_pd0 : parseMethodDescriptor "()V" = some ⟨[], none⟩ := by decide +kernel
theorem own_pd1 : parseMethodDescriptor "(ZJJ)I" = some ⟨[.boolean, .long, .long], some .int⟩ := by decide +kernel
theorem own_pd2 : parseMethodDescriptor "(J)I" = some ⟨[.long], some .int⟩ := by decide +kernel
theorem own_pd3 : parseMethodDescriptor "(J)V" = some ⟨[.long], none⟩ := by decide +kernel
theorem own_law_ef (m : MethodId) (p1 : Int64) (p2 : Int64) (p3 : Int64) (p4 : Int32) (p5 : Int64) : entryFrame m #[(.long p1), (.long p2), (.long p3), (.int p4), (.long p5)] maxLocals = mkF m 0 #[.val (.long p1), .second, .val (.long p2), .second, .val (.long p3), .second, .val (.int p4), .val (.long p5), .second, .unset, .unset, .unset, .unset, .unset, .unset, .unset, .unset, .unset] [] := by first | (simp [entryFrame, mkF, argsToLocals, Value.category, maxLocals]; done) | rfl
set_option maxRecDepth 65536 in
set_option maxHeartbeats 40000000 in
theorem own_law (l : Launch) (Z : State) (a0 : Array Value) (hw : ∀ d ∈ tables_1, d.before a0 Z = true) (ws : List Jvm.Cond) (p1 : Int64) (p2 : Int64) (p3 : Int64) (p4 : Int32) (p5 : Int64) (h0 : Heap) (n0 : Nat) (Z0 : n0 ≤ h0.size) :
    MetFree l x (head1 (Jvm.Cond.code x code maxLocals ret :: ws) room_1) (fun aa U => aa = #[(.long p1), (.long p2), (.long p3), (.int p4), (.long p5)] ∧ Z.Warmed39 U.vm ∧ U.heap = h0) (fun _ _ _ _ _ => True) (fun _ U o U' => ∃ v L, o = .returned v ∧ own_Q0 n0 v U'.heap L ∧ FrameEnd U o U' L 16 256) := by
  refine MetFree.of_bodySF (plainFor_of_name own_pn1) hisR ?_
  have w0 := hw _ (List.mem_of_getElem? (i := 0) rfl)
  have w1 := hw _ (List.mem_of_getElem? (i := 1) rfl)
  have w2 := hw _ (List.mem_of_getElem? (i := 2) rfl)
  have w3 := hw _ (List.mem_of_getElem? (i := 3) rfl)
  have w4 := hw _ (List.mem_of_getElem? (i := 4) rfl)
  have w5 := hw _ (List.mem_of_getElem? (i := 5) rfl)
  have w6 := hw _ (List.mem_of_getElem? (i := 6) rfl)
  have w12 := hw _ (List.mem_of_getElem? (i := 12) rfl)
  have w13 := hw _ (List.mem_of_getElem? (i := 13) rfl)
  have w14 := hw _ (List.mem_of_getElem? (i := 14) rfl)
  have w15 := hw _ (List.mem_of_getElem? (i := 15) rfl)
  have w16 := hw _ (List.mem_of_getElem? (i := 16) rfl)
  have w17 := hw _ (List.mem_of_getElem? (i := 17) rfl)
  have w19 := hw _ (List.mem_of_getElem? (i := 19) rfl)
  have w20 := hw _ (List.mem_of_getElem? (i := 20) rfl)
  have w21 := hw _ (List.mem_of_getElem? (i := 21) rfl)
  have w22 := hw _ (List.mem_of_getElem? (i := 22) rfl)
  have w23 := hw _ (List.mem_of_getElem? (i := 23) rfl)
  have w24 := hw _ (List.mem_of_getElem? (i := 24) rfl)
  have w25 := hw _ (List.mem_of_getElem? (i := 25) rfl)
  have w26 := hw _ (List.mem_of_getElem? (i := 26) rfl)
  have w27 := hw _ (List.mem_of_getElem? (i := 27) rfl)
  have w28 := hw _ (List.mem_of_getElem? (i := 28) rfl)
  intro p e s m args below meth c s₁ Bd hml0 hP hK
  obtain ⟨rfl, hZ, hh⟩ := hP
  have hx := Bd.exec
  have hby := Bd.bytes
  have hlk := Bd.notSynchronized
  have hml : c.maxLocals = 18 := hml0
  have hown : s.vm.findClass "com/example/battlement/battlement/bench/TimingsOverPinLaw" = some m.cls := findClass_of_methodNamed Bd.named
  have hnm := (name_of_methodNamed Bd.named Bd.method).1
  have X0 : Stand p l e room_1 s m #[(.long p1), (.long p2), (.long p3), (.int p4), (.long p5)] below meth c s₁ [] 0 0 := Stand.of_body Bd
  have e0 : s₁.heap = h0 := by rw [← hh, Bd.state]; rfl
  have N0 := Fr.nil n0
  have K0 : Keep h0 h0 [] := Keep.refl h0 _
  show own_Goes p e below (own_Fin s (own_Q0 n0) 16 256) _
  refine own_step (fun t k => castTop (own_law_ef m p1 p2 p3 p4 p5) k) ?_
  show own_Goes p e below _ (s₁.setTop (mkF m 0 #[.val (.long p1), .second, .val (.long p2), .second, .val (.long p3), .second, .val (.int p4), .val (.long p5), .second, .unset, .unset, .unset, .unset, .unset, .unset, .unset, .unset, .unset] []))
  refine own_step (fun t k => XS.iload X0.here hx rfl (hb hby at_0) rfl k) ?_
  show own_Goes p e below _ (s₁.setTop (mkF m 2 #[.val (.long p1), .second, .val (.long p2), .second, .val (.long p3), .second, .val (.int p4), .val (.long p5), .second, .unset, .unset, .unset, .unset, .unset, .unset, .unset, .unset, .unset] [(.int p4)]))
  refine own_step (fun t k => XS.iconst X0.here hx rfl (hb hby at_2) k) ?_
  show own_Goes p e below _ (s₁.setTop (mkF m 3 #[.val (.long p1), .second, .val (.long p2), .second, .val (.long p3), .second, .val (.int p4), .val (.long p5), .second, .unset, .unset, .unset, .unset, .unset, .unset, .unset, .unset, .unset] [(.int (3 : Int32)), (.int p4)]))
  refine own_step (fun t k => XS.iand X0.here hx rfl (hb hby at_3) rfl k) ?_
  show own_Goes p e below _ (s₁.setTop (mkF m 4 #[.val (.long p1), .second, .val (.long p2), .second, .val (.long p3), .second, .val (.int p4), .val (.long p5), .second, .unset, .unset, .unset, .unset, .unset, .unset, .unset, .unset, .unset] [(.int (p4 &&& (3 : Int32)))]))
  refine own_step (fun t k => XS.istore X0.here hx rfl (hb hby at_4) rfl (l' := #[.val (.long p1), .second, .val (.long p2), .second, .val (.long p3), .second, .val (.int p4), .val (.long p5), .second, .val (.int (p4 &&& (3 : Int32))), .unset, .unset, .unset, .unset, .unset, .unset, .unset, .unset]) rfl k) ?_
  show own_Goes p e below _ (s₁.setTop (mkF m 6 #[.val (.long p1), .second, .val (.long p2), .second, .val (.long p3), .second, .val (.int p4), .val (.long p5), .second, .val (.int (p4 &&& (3 : Int32))), .unset, .unset, .unset, .unset, .unset, .unset, .unset, .unset] []))
  generalize hv_vi : (p4 &&& (3 : Int32)) = vi
  have hvi : vi = (0 : Int32) ∨ vi = (1 : Int32) ∨ vi = (2 : Int32) ∨ vi = (3 : Int32) := own_cases hv_vi
  clear hv_vi
  rcases hvi with rfl | rfl | rfl | rfl
  · --
    show own_Goes p e below _ (s₁.setTop (mkF m 6 #[.val (.long p1), .second, .val (.long p2), .second, .val (.long p3), .second, .val (.int p4), .val (.long p5), .second, .val (.int (0 : Int32)), .unset, .unset, .unset, .unset, .unset, .unset, .unset, .unset] []))
    refine own_step (fun t k => XS.lloadN X0.here hx rfl (hb hby at_6) rfl k) ?_
    show own_Goes p e below _ (s₁.setTop (mkF m 7 #[.val (.long p1), .second, .val (.long p2), .second, .val (.long p3), .second, .val (.int p4), .val (.long p5), .second, .val (.int (0 : Int32)), .unset, .unset, .unset, .unset, .unset, .unset, .unset, .unset] [(.long p1)]))
    refine own_step (fun t k => X0.ldc2Long hx hown (mvT hZ w0) (g := (mkF m 7 #[.val (.long p1), .second, .val (.long p2), .second, .val (.long p3), .second, .val (.int p4), .val (.long p5), .second, .val (.int (0 : Int32)), .unset, .unset, .unset, .unset, .unset, .unset, .unset, .unset] [(.long p1)])) rfl (hb hby at_7) _ k) ?_
    show own_Goes p e below _ (s₁.setTop (mkF m 10 #[.val (.long p1), .second, .val (.long p2), .second, .val (.long p3), .second, .val (.int p4), .val (.long p5), .second, .val (.int (0 : Int32)), .unset, .unset, .unset, .unset, .unset, .unset, .unset, .unset] [(.long (9223372036854775807 : Int64)), (.long p1)]))
    refine own_step (fun t k => XS.land X0.here hx rfl (hb hby at_10) rfl k) ?_
    show own_Goes p e below _ (s₁.setTop (mkF m 11 #[.val (.long p1), .second, .val (.long p2), .second, .val (.long p3), .second, .val (.int p4), .val (.long p5), .second, .val (.int (0 : Int32)), .unset, .unset, .unset, .unset, .unset, .unset, .unset, .unset] [(.long (p1 &&& (9223372036854775807 : Int64)))]))
    refine own_step (fun t k => XS.lstore X0.here hx rfl (hb hby at_11) rfl (l' := #[.val (.long p1), .second, .val (.long p2), .second, .val (.long p3), .second, .val (.int p4), .val (.long p5), .second, .val (.int (0 : Int32)), .val (.long (p1 &&& (9223372036854775807 : Int64))), .second, .unset, .unset, .unset, .unset, .unset, .unset]) rfl k) ?_
    show own_Goes p e below _ (s₁.setTop (mkF m 13 #[.val (.long p1), .second, .val (.long p2), .second, .val (.long p3), .second, .val (.int p4), .val (.long p5), .second, .val (.int (0 : Int32)), .val (.long (p1 &&& (9223372036854775807 : Int64))), .second, .unset, .unset, .unset, .unset, .unset, .unset] []))
    generalize hv_vx : (p1 &&& (9223372036854775807 : Int64)) = vx
    refine own_step (fun t k => XS.lloadN X0.here hx rfl (hb hby at_13) rfl k) ?_
    show own_Goes p e below _ (s₁.setTop (mkF m 14 #[.val (.long p1), .second, .val (.long p2), .second, .val (.long p3), .second, .val (.int p4), .val (.long p5), .second, .val (.int (0 : Int32)), .val (.long vx), .second, .unset, .unset, .unset, .unset, .unset, .unset] [(.long p2)]))
    refine own_step (fun t k => X0.ldc2Long hx hown (mvT hZ w0) (g := (mkF m 14 #[.val (.long p1), .second, .val (.long p2), .second, .val (.long p3), .second, .val (.int p4), .val (.long p5), .second, .val (.int (0 : Int32)), .val (.long vx), .second, .unset, .unset, .unset, .unset, .unset, .unset] [(.long p2)])) rfl (hb hby at_14) _ k) ?_
    show own_Goes p e below _ (s₁.setTop (mkF m 17 #[.val (.long p1), .second, .val (.long p2), .second, .val (.long p3), .second, .val (.int p4), .val (.long p5), .second, .val (.int (0 : Int32)), .val (.long vx), .second, .unset, .unset, .unset, .unset, .unset, .unset] [(.long (9223372036854775807 : Int64)), (.long p2)]))
    refine own_step (fun t k => XS.land X0.here hx rfl (hb hby at_17) rfl k) ?_
    show own_Goes p e below _ (s₁.setTop (mkF m 18 #[.val (.long p1), .second, .val (.long p2), .second, .val (.long p3), .second, .val (.int p4), .val (.long p5), .second, .val (.int (0 : Int32)), .val (.long vx), .second, .unset, .unset, .unset, .unset, .unset, .unset] [(.long (p2 &&& (9223372036854775807 : Int64)))]))
    refine own_step (fun t k => XS.lstore X0.here hx rfl (hb hby at_18) rfl (l' := #[.val (.long p1), .second, .val (.long p2), .second, .val (.long p3), .second, .val (.int p4), .val (.long p5), .second, .val (.int (0 : Int32)), .val (.long vx), .second, .val (.long (p2 &&& (9223372036854775807 : Int64))), .second, .unset, .unset, .unset, .unset]) rfl k) ?_
    show own_Goes p e below _ (s₁.setTop (mkF m 20 #[.val (.long p1), .second, .val (.long p2), .second, .val (.long p3), .second, .val (.int p4), .val (.long p5), .second, .val (.int (0 : Int32)), .val (.long vx), .second, .val (.long (p2 &&& (9223372036854775807 : Int64))), .second, .unset, .unset, .unset, .unset] []))
    generalize hv_vy : (p2 &&& (9223372036854775807 : Int64)) = vy
    refine own_step (fun t k => XS.lload X0.here hx rfl (hb hby at_20) rfl k) ?_
    show own_Goes p e below _ (s₁.setTop (mkF m 22 #[.val (.long p1), .second, .val (.long p2), .second, .val (.long p3), .second, .val (.int p4), .val (.long p5), .second, .val (.int (0 : Int32)), .val (.long vx), .second, .val (.long vy), .second, .unset, .unset, .unset, .unset] [(.long p3)]))
    refine own_step (fun t k => X0.ldc2Long hx hown (mvT hZ w0) (g := (mkF m 22 #[.val (.long p1), .second, .val (.long p2), .second, .val (.long p3), .second, .val (.int p4), .val (.long p5), .second, .val (.int (0 : Int32)), .val (.long vx), .second, .val (.long vy), .second, .unset, .unset, .unset, .unset] [(.long p3)])) rfl (hb hby at_22) _ k) ?_
    show own_Goes p e below _ (s₁.setTop (mkF m 25 #[.val (.long p1), .second, .val (.long p2), .second, .val (.long p3), .second, .val (.int p4), .val (.long p5), .second, .val (.int (0 : Int32)), .val (.long vx), .second, .val (.long vy), .second, .unset, .unset, .unset, .unset] [(.long (9223372036854775807 : Int64)), (.long p3)]))
    refine own_step (fun t k => XS.land X0.here hx rfl (hb hby at_25) rfl k) ?_
    show own_Goes p e below _ (s₁.setTop (mkF m 26 #[.val (.long p1), .second, .val (.long p2), .second, .val (.long p3), .second, .val (.int p4), .val (.long p5), .second, .val (.int (0 : Int32)), .val (.long vx), .second, .val (.long vy), .second, .unset, .unset, .unset, .unset] [(.long (p3 &&& (9223372036854775807 : Int64)))]))
    refine own_step (fun t k => XS.lstore X0.here hx rfl (hb hby at_26) rfl (l' := #[.val (.long p1), .second, .val (.long p2), .second, .val (.long p3), .second, .val (.int p4), .val (.long p5), .second, .val (.int (0 : Int32)), .val (.long vx), .second, .val (.long vy), .second, .val (.long (p3 &&& (9223372036854775807 : Int64))), .second, .unset, .unset]) rfl k) ?_
    show own_Goes p e below _ (s₁.setTop (mkF m 28 #[.val (.long p1), .second, .val (.long p2), .second, .val (.long p3), .second, .val (.int p4), .val (.long p5), .second, .val (.int (0 : Int32)), .val (.long vx), .second, .val (.long vy), .second, .val (.long (p3 &&& (9223372036854775807 : Int64))), .second, .unset, .unset] []))
    generalize hv_vz : (p3 &&& (9223372036854775807 : Int64)) = vz
    obtain ⟨T99, h99, X99, e99, E99, A99, D99, -, st99⟩ := newO X0 hx hZ hown w1 w2 w3 e0 (g := (mkF m 28 #[.val (.long p1), .second, .val (.long p2), .second, .val (.long p3), .second, .val (.int p4), .val (.long p5), .second, .val (.int (0 : Int32)), .val (.long vx), .second, .val (.long vy), .second, .val (.long vz), .second, .unset, .unset] [])) rfl (hb hby at_28) (by decide) (by decide)
    obtain ⟨b99, g99⟩ : ∃ z, z = h0.size := ⟨_, rfl⟩
    rw [← g99] at A99 D99 st99
    have g_b99 : n0 ≤ b99 := Nat.le_trans Z0 (Nat.le_of_eq g99.symm)
    have sz_b99 : h0.size ≤ b99 := Nat.le_trans K0.1 (Nat.le_of_eq g99.symm)
    have K100 : Keep h0 h99 [] := K0.ext E99
    have F_nanos_b99 : Fld Z h99 b99 "com/example/battlement/battlement/bench/Timings" "nanos" "[J" .null := D99 (Or.inl w12) (ty := (.array .long)) (by decide)
    have F_count_b99 : Fld Z h99 b99 "com/example/battlement/battlement/bench/Timings" "count" "I" (.int (0 : Int32)) := D99 (Or.inl w19) (ty := .int) (by decide)
    refine own_step st99 ?_
    show own_Goes p e below _ (T99.setTop (mkF m 31 #[.val (.long p1), .second, .val (.long p2), .second, .val (.long p3), .second, .val (.int p4), .val (.long p5), .second, .val (.int (0 : Int32)), .val (.long vx), .second, .val (.long vy), .second, .val (.long vz), .second, .unset, .unset] [(.ref b99)]))
    refine own_step (fun t k => XS.dup X99.here hx rfl (hb hby at_31) rfl rfl k) ?_
    show own_Goes p e below _ (T99.setTop (mkF m 32 #[.val (.long p1), .second, .val (.long p2), .second, .val (.long p3), .second, .val (.int p4), .val (.long p5), .second, .val (.int (0 : Int32)), .val (.long vx), .second, .val (.long vy), .second, .val (.long vz), .second, .unset, .unset] [(.ref b99), (.ref b99)]))
    obtain ⟨_, _, ⟨T101, L101, k101, n101⟩, -, X101, ⟨Lc101, hQ101, l101, y101, z101⟩, st101⟩ := X99.specialBack hx (y := (⟨"com/example/battlement/battlement/bench/Timings", "<init>", "()V"⟩ : MethodName)) rfl hown (mvT hZ w4) (mvT hZ w5) (mvT hZ w6) (by decide) (backOf (W := 1) (own_b1 l Z a0 hw [] b99 (.null) h99 n0 (Nat.le_trans Z0 E99.1) A99 g_b99 F_nanos_b99 F_count_b99) hZ w6 w3 (by decide) (by decide)) (g := (mkF m 32 #[.val (.long p1), .second, .val (.long p2), .second, .val (.long p3), .second, .val (.int p4), .val (.long p5), .second, .val (.int (0 : Int32)), .val (.long vx), .second, .val (.long vy), .second, .val (.long vz), .second, .unset, .unset] [(.ref b99), (.ref b99)])) rfl (by rw [hml]; rfl) (Steps.refl _) (a := b99) (argsL := []) (rest := [(.ref b99)]) (lenOf own_pd0 rfl) rfl (by show 2 * 0 + _ ≤ _; exact Nat.le_of_eq rfl) (hb hby at_32) (fun _ _ => ⟨rfl, e99, (by decide : 1 + 1 ≤ _), (by decide : 2 + 64 ≤ _)⟩)
    dsimp only [Pt.U, Pt.locs, Pt.cells, Pt.slots] at X101 l101 y101 z101 st101 hQ101
    subst l101 y101 z101
    obtain ⟨bb_101, kk_101, rfl, N101q, K101c, f101_0, f101_1, f101_2, f101_3, f101_4⟩ := hQ101
    have N101 := Fr.app N0 N101q
    refine own_jump st101 ?_
    have K102 : Keep h0 T101.heap [] := K100.trans K101c (allS (Or.inr sz_b99) all0)
    have sz_bb_101 : h0.size ≤ bb_101 := Nat.le_trans K100.1 f101_0
    have g_bb_101 : n0 ≤ bb_101 := Nat.le_trans Z0 sz_bb_101
    have ne_b99_bb_101 : b99 ≠ bb_101 := Nat.ne_of_lt (Nat.lt_of_lt_of_le A99.lt f101_0)
    show own_Goes p e below _ (T101.setTop (mkF m 35 #[.val (.long p1), .second, .val (.long p2), .second, .val (.long p3), .second, .val (.int p4), .val (.long p5), .second, .val (.int (0 : Int32)), .val (.long vx), .second, .val (.long vy), .second, .val (.long vz), .second, .unset, .unset] [(.ref b99)]))
    refine own_step (fun t k => XS.astore X101.here hx rfl (hb hby at_35) rfl rfl (l' := #[.val (.long p1), .second, .val (.long p2), .second, .val (.long p3), .second, .val (.int p4), .val (.long p5), .second, .val (.int (0 : Int32)), .val (.long vx), .second, .val (.long vy), .second, .val (.long vz), .second, .val (.ref b99), .unset]) rfl k) ?_
    show own_Goes p e below _ (T101.setTop (mkF m 37 #[.val (.long p1), .second, .val (.long p2), .second, .val (.long p3), .second, .val (.int p4), .val (.long p5), .second, .val (.int (0 : Int32)), .val (.long vx), .second, .val (.long vy), .second, .val (.long vz), .second, .val (.ref b99), .unset] []))
    refine own_step (fun t k => XS.iload X101.here hx rfl (hb hby at_37) rfl k) ?_
    show own_Goes p e below _ (T101.setTop (mkF m 39 #[.val (.long p1), .second, .val (.long p2), .second, .val (.long p3), .second, .val (.int p4), .val (.long p5), .second, .val (.int (0 : Int32)), .val (.long vx), .second, .val (.long vy), .second, .val (.long vz), .second, .val (.ref b99), .unset] [(.int (0 : Int32))]))
    refine own_step (fun t k => XS.iconst X101.here hx rfl (hb hby at_39) k) ?_
    show own_Goes p e below _ (T101.setTop (mkF m 40 #[.val (.long p1), .second, .val (.long p2), .second, .val (.long p3), .second, .val (.int p4), .val (.long p5), .second, .val (.int (0 : Int32)), .val (.long vx), .second, .val (.long vy), .second, .val (.long vz), .second, .val (.ref b99), .unset] [(.int (1 : Int32)), (.int (0 : Int32))]))
    have hc103 : (0 : Int32) < (1 : Int32) := by decide
    refine own_step (fun t k => XS.icmpYes X101.here hx rfl (pc0 := 40) (pc' := 50) rfl (hb hby at_40) rfl (tlt hc103).1 (by decide) (by decide) k) ?_
    show own_Goes p e below _ (T101.setTop (mkF m 50 #[.val (.long p1), .second, .val (.long p2), .second, .val (.long p3), .second, .val (.int p4), .val (.long p5), .second, .val (.int (0 : Int32)), .val (.long vx), .second, .val (.long vy), .second, .val (.long vz), .second, .val (.ref b99), .unset] []))
    refine own_step (fun t k => XS.iload X101.here hx rfl (hb hby at_50) rfl k) ?_
    show own_Goes p e below _ (T101.setTop (mkF m 52 #[.val (.long p1), .second, .val (.long p2), .second, .val (.long p3), .second, .val (.int p4), .val (.long p5), .second, .val (.int (0 : Int32)), .val (.long vx), .second, .val (.long vy), .second, .val (.long vz), .second, .val (.ref b99), .unset] [(.int (0 : Int32))]))
    refine own_step (fun t k => XS.iconst X101.here hx rfl (hb hby at_52) k) ?_
    show own_Goes p e below _ (T101.setTop (mkF m 53 #[.val (.long p1), .second, .val (.long p2), .second, .val (.long p3), .second, .val (.int p4), .val (.long p5), .second, .val (.int (0 : Int32)), .val (.long vx), .second, .val (.long vy), .second, .val (.long vz), .second, .val (.ref b99), .unset] [(.int (2 : Int32)), (.int (0 : Int32))]))
    have hc104 : (0 : Int32) < (2 : Int32) := by decide
    refine own_step (fun t k => XS.icmpYes X101.here hx rfl (pc0 := 53) (pc' := 63) rfl (hb hby at_53) rfl (tlt hc104).1 (by decide) (by decide) k) ?_
    show own_Goes p e below _ (T101.setTop (mkF m 63 #[.val (.long p1), .second, .val (.long p2), .second, .val (.long p3), .second, .val (.int p4), .val (.long p5), .second, .val (.int (0 : Int32)), .val (.long vx), .second, .val (.long vy), .second, .val (.long vz), .second, .val (.ref b99), .unset] []))
    refine own_step (fun t k => XS.iload X101.here hx rfl (hb hby at_63) rfl k) ?_
    show own_Goes p e below _ (T101.setTop (mkF m 65 #[.val (.long p1), .second, .val (.long p2), .second, .val (.long p3), .second, .val (.int p4), .val (.long p5), .second, .val (.int (0 : Int32)), .val (.long vx), .second, .val (.long vy), .second, .val (.long vz), .second, .val (.ref b99), .unset] [(.int (0 : Int32))]))
    refine own_step (fun t k => XS.iconst X101.here hx rfl (hb hby at_65) k) ?_
    show own_Goes p e below _ (T101.setTop (mkF m 66 #[.val (.long p1), .second, .val (.long p2), .second, .val (.long p3), .second, .val (.int p4), .val (.long p5), .second, .val (.int (0 : Int32)), .val (.long vx), .second, .val (.long vy), .second, .val (.long vz), .second, .val (.ref b99), .unset] [(.int (3 : Int32)), (.int (0 : Int32))]))
    have hc105 : (0 : Int32) < (3 : Int32) := by decide
    refine own_step (fun t k => XS.icmpYes X101.here hx rfl (pc0 := 66) (pc' := 76) rfl (hb hby at_66) rfl (tlt hc105).1 (by decide) (by decide) k) ?_
    show own_Goes p e below _ (T101.setTop (mkF m 76 #[.val (.long p1), .second, .val (.long p2), .second, .val (.long p3), .second, .val (.int p4), .val (.long p5), .second, .val (.int (0 : Int32)), .val (.long vx), .second, .val (.long vy), .second, .val (.long vz), .second, .val (.ref b99), .unset] []))
    refine own_step (fun t k => XS.iload X101.here hx rfl (hb hby at_76) rfl k) ?_
    show own_Goes p e below _ (T101.setTop (mkF m 78 #[.val (.long p1), .second, .val (.long p2), .second, .val (.long p3), .second, .val (.int p4), .val (.long p5), .second, .val (.int (0 : Int32)), .val (.long vx), .second, .val (.long vy), .second, .val (.long vz), .second, .val (.ref b99), .unset] [(.int (0 : Int32))]))
    refine own_step (fun t k => XS.iconst X101.here hx rfl (hb hby at_78) k) ?_
    show own_Goes p e below _ (T101.setTop (mkF m 79 #[.val (.long p1), .second, .val (.long p2), .second, .val (.long p3), .second, .val (.int p4), .val (.long p5), .second, .val (.int (0 : Int32)), .val (.long vx), .second, .val (.long vy), .second, .val (.long vz), .second, .val (.ref b99), .unset] [(.int (1 : Int32)), (.int (0 : Int32))]))
    have hc106 : (0 : Int32) < (1 : Int32) := by decide
    refine own_step (fun t k => XS.icmpYes X101.here hx rfl (pc0 := 79) (pc' := 86) rfl (hb hby at_79) rfl (tlt hc106).1 (by decide) (by decide) k) ?_
    show own_Goes p e below _ (T101.setTop (mkF m 86 #[.val (.long p1), .second, .val (.long p2), .second, .val (.long p3), .second, .val (.int p4), .val (.long p5), .second, .val (.int (0 : Int32)), .val (.long vx), .second, .val (.long vy), .second, .val (.long vz), .second, .val (.ref b99), .unset] []))
    refine own_step (fun t k => XS.iconst X101.here hx rfl (hb hby at_86) k) ?_
    show own_Goes p e below _ (T101.setTop (mkF m 87 #[.val (.long p1), .second, .val (.long p2), .second, .val (.long p3), .second, .val (.int p4), .val (.long p5), .second, .val (.int (0 : Int32)), .val (.long vx), .second, .val (.long vy), .second, .val (.long vz), .second, .val (.ref b99), .unset] [(.int (0 : Int32))]))
    refine own_step (fun t k => XS.lload X101.here hx rfl (hb hby at_87) rfl k) ?_
    show own_Goes p e below _ (T101.setTop (mkF m 89 #[.val (.long p1), .second, .val (.long p2), .second, .val (.long p3), .second, .val (.int p4), .val (.long p5), .second, .val (.int (0 : Int32)), .val (.long vx), .second, .val (.long vy), .second, .val (.long vz), .second, .val (.ref b99), .unset] [(.long vx), (.int (0 : Int32))]))
    refine own_step (fun t k => XS.lload X101.here hx rfl (hb hby at_89) rfl k) ?_
    show own_Goes p e below _ (T101.setTop (mkF m 91 #[.val (.long p1), .second, .val (.long p2), .second, .val (.long p3), .second, .val (.int p4), .val (.long p5), .second, .val (.int (0 : Int32)), .val (.long vx), .second, .val (.long vy), .second, .val (.long vz), .second, .val (.ref b99), .unset] [(.long p5), (.long vx), (.int (0 : Int32))]))
    obtain ⟨_, _, ⟨T107, L107, k107, n107⟩, -, X107, ⟨Lc107, hQ107, l107, y107, z107⟩, st107⟩ := Jvm.LawKit.callS X101 hx (y := (⟨"com/example/battlement/battlement/bench/TimingsOverPinLaw", "exceeds", "(ZJJ)I"⟩ : MethodName)) hown (mvT hZ w20) (mvT hZ w21) (mvT hZ w22) (mvT hZ w23) (by decide) (backOf (W := 0) (own_b3 l Z a0 hw [] (0 : Int32) vx p5  T101.heap n0 (Nat.le_trans (Nat.le_trans Z0 E99.1) K101c.1) ) hZ w23 w22 (by decide) (by decide)) (g := (mkF m 91 #[.val (.long p1), .second, .val (.long p2), .second, .val (.long p3), .second, .val (.int p4), .val (.long p5), .second, .val (.int (0 : Int32)), .val (.long vx), .second, .val (.long vy), .second, .val (.long vz), .second, .val (.ref b99), .unset] [(.long p5), (.long vx), (.int (0 : Int32))])) rfl (by rw [hml]; rfl) (argsL := [(.int (0 : Int32)), (.long vx), (.long p5)]) (rest := []) (lenOf own_pd1 rfl) rfl (by show 2 * 0 + _ ≤ _; exact Nat.le_of_eq rfl) (hb hby at_91) (fun _ _ => ⟨rfl, rfl, (by decide : 2 + 0 ≤ _), (by decide : 66 + 0 ≤ _)⟩)
    dsimp only [Pt.U, Pt.locs, Pt.cells, Pt.slots] at X107 l107 y107 z107 st107 hQ107
    subst l107 y107 z107
    obtain ⟨rfl, N107q, eh107⟩ := hQ107
    have N107 := Fr.app N101 N107q
    refine own_step st107 ?_
    show own_Goes p e below _ (T107.setTop (mkF m 94 #[.val (.long p1), .second, .val (.long p2), .second, .val (.long p3), .second, .val (.int p4), .val (.long p5), .second, .val (.int (0 : Int32)), .val (.long vx), .second, .val (.long vy), .second, .val (.long vz), .second, .val (.ref b99), .unset] [(.int (if (0 : Int32) = (0 : Int32) then (0 : Int32) else (if p5 < vx then (1 : Int32) else (0 : Int32))))]))
    refine own_step (fun t k => XS.iload X107.here hx rfl (hb hby at_94) rfl k) ?_
    show own_Goes p e below _ (T107.setTop (mkF m 96 #[.val (.long p1), .second, .val (.long p2), .second, .val (.long p3), .second, .val (.int p4), .val (.long p5), .second, .val (.int (0 : Int32)), .val (.long vx), .second, .val (.long vy), .second, .val (.long vz), .second, .val (.ref b99), .unset] [(.int (0 : Int32)), (.int (if (0 : Int32) = (0 : Int32) then (0 : Int32) else (if p5 < vx then (1 : Int32) else (0 : Int32))))]))
    refine own_step (fun t k => XS.iconst X107.here hx rfl (hb hby at_96) k) ?_
    show own_Goes p e below _ (T107.setTop (mkF m 97 #[.val (.long p1), .second, .val (.long p2), .second, .val (.long p3), .second, .val (.int p4), .val (.long p5), .second, .val (.int (0 : Int32)), .val (.long vx), .second, .val (.long vy), .second, .val (.long vz), .second, .val (.ref b99), .unset] [(.int (2 : Int32)), (.int (0 : Int32)), (.int (if (0 : Int32) = (0 : Int32) then (0 : Int32) else (if p5 < vx then (1 : Int32) else (0 : Int32))))]))
    have hc108 : (0 : Int32) < (2 : Int32) := by decide
    refine own_step (fun t k => XS.icmpYes X107.here hx rfl (pc0 := 97) (pc' := 104) rfl (hb hby at_97) rfl (tlt hc108).1 (by decide) (by decide) k) ?_
    show own_Goes p e below _ (T107.setTop (mkF m 104 #[.val (.long p1), .second, .val (.long p2), .second, .val (.long p3), .second, .val (.int p4), .val (.long p5), .second, .val (.int (0 : Int32)), .val (.long vx), .second, .val (.long vy), .second, .val (.long vz), .second, .val (.ref b99), .unset] [(.int (if (0 : Int32) = (0 : Int32) then (0 : Int32) else (if p5 < vx then (1 : Int32) else (0 : Int32))))]))
    refine own_step (fun t k => XS.iconst X107.here hx rfl (hb hby at_104) k) ?_
    show own_Goes p e below _ (T107.setTop (mkF m 105 #[.val (.long p1), .second, .val (.long p2), .second, .val (.long p3), .second, .val (.int p4), .val (.long p5), .second, .val (.int (0 : Int32)), .val (.long vx), .second, .val (.long vy), .second, .val (.long vz), .second, .val (.ref b99), .unset] [(.int (0 : Int32)), (.int (if (0 : Int32) = (0 : Int32) then (0 : Int32) else (if p5 < vx then (1 : Int32) else (0 : Int32))))]))
    refine own_step (fun t k => XS.lload X107.here hx rfl (hb hby at_105) rfl k) ?_
    show own_Goes p e below _ (T107.setTop (mkF m 107 #[.val (.long p1), .second, .val (.long p2), .second, .val (.long p3), .second, .val (.int p4), .val (.long p5), .second, .val (.int (0 : Int32)), .val (.long vx), .second, .val (.long vy), .second, .val (.long vz), .second, .val (.ref b99), .unset] [(.long vy), (.int (0 : Int32)), (.int (if (0 : Int32) = (0 : Int32) then (0 : Int32) else (if p5 < vx then (1 : Int32) else (0 : Int32))))]))
    refine own_step (fun t k => XS.lload X107.here hx rfl (hb hby at_107) rfl k) ?_
    show own_Goes p e below _ (T107.setTop (mkF m 109 #[.val (.long p1), .second, .val (.long p2), .second, .val (.long p3), .second, .val (.int p4), .val (.long p5), .second, .val (.int (0 : Int32)), .val (.long vx), .second, .val (.long vy), .second, .val (.long vz), .second, .val (.ref b99), .unset] [(.long p5), (.long vy), (.int (0 : Int32)), (.int (if (0 : Int32) = (0 : Int32) then (0 : Int32) else (if p5 < vx then (1 : Int32) else (0 : Int32))))]))
    obtain ⟨_, _, ⟨T109, L109, k109, n109⟩, -, X109, ⟨Lc109, hQ109, l109, y109, z109⟩, st109⟩ := Jvm.LawKit.callS X107 hx (y := (⟨"com/example/battlement/battlement/bench/TimingsOverPinLaw", "exceeds", "(ZJJ)I"⟩ : MethodName)) hown (mvT hZ w20) (mvT hZ w21) (mvT hZ w22) (mvT hZ w23) (by decide) (backOf (W := 1) (own_b3 l Z a0 hw [] (0 : Int32) vy p5  T101.heap n0 (Nat.le_trans (Nat.le_trans Z0 E99.1) K101c.1) ) hZ w23 w22 (by decide) (by decide)) (g := (mkF m 109 #[.val (.long p1), .second, .val (.long p2), .second, .val (.long p3), .second, .val (.int p4), .val (.long p5), .second, .val (.int (0 : Int32)), .val (.long vx), .second, .val (.long vy), .second, .val (.long vz), .second, .val (.ref b99), .unset] [(.long p5), (.long vy), (.int (0 : Int32)), (.int (if (0 : Int32) = (0 : Int32) then (0 : Int32) else (if p5 < vx then (1 : Int32) else (0 : Int32))))])) rfl (by rw [hml]; rfl) (argsL := [(.int (0 : Int32)), (.long vy), (.long p5)]) (rest := [(.int (if (0 : Int32) = (0 : Int32) then (0 : Int32) else (if p5 < vx then (1 : Int32) else (0 : Int32))))]) (lenOf own_pd1 rfl) rfl (by show 2 * 0 + _ ≤ _; exact Nat.le_of_eq rfl) (hb hby at_109) (fun _ _ => ⟨rfl, eh107, (by decide : 2 + 0 ≤ _), (by decide : 66 + 0 ≤ _)⟩)
    dsimp only [Pt.U, Pt.locs, Pt.cells, Pt.slots] at X109 l109 y109 z109 st109 hQ109
    subst l109 y109 z109
    obtain ⟨rfl, N109q, eh109⟩ := hQ109
    have N109 := Fr.app N107 N109q
    refine own_step st109 ?_
    show own_Goes p e below _ (T109.setTop (mkF m 112 #[.val (.long p1), .second, .val (.long p2), .second, .val (.long p3), .second, .val (.int p4), .val (.long p5), .second, .val (.int (0 : Int32)), .val (.long vx), .second, .val (.long vy), .second, .val (.long vz), .second, .val (.ref b99), .unset] [(.int (if (0 : Int32) = (0 : Int32) then (0 : Int32) else (if p5 < vy then (1 : Int32) else (0 : Int32)))), (.int (if (0 : Int32) = (0 : Int32) then (0 : Int32) else (if p5 < vx then (1 : Int32) else (0 : Int32))))]))
    refine own_step (fun t k => XS.iadd X109.here hx rfl (hb hby at_112) rfl k) ?_
    show own_Goes p e below _ (T109.setTop (mkF m 113 #[.val (.long p1), .second, .val (.long p2), .second, .val (.long p3), .second, .val (.int p4), .val (.long p5), .second, .val (.int (0 : Int32)), .val (.long vx), .second, .val (.long vy), .second, .val (.long vz), .second, .val (.ref b99), .unset] [(.int ((if (0 : Int32) = (0 : Int32) then (0 : Int32) else (if p5 < vx then (1 : Int32) else (0 : Int32))) + (if (0 : Int32) = (0 : Int32) then (0 : Int32) else (if p5 < vy then (1 : Int32) else (0 : Int32)))))]))
    refine own_step (fun t k => XS.iload X109.here hx rfl (hb hby at_113) rfl k) ?_
    show own_Goes p e below _ (T109.setTop (mkF m 115 #[.val (.long p1), .second, .val (.long p2), .second, .val (.long p3), .second, .val (.int p4), .val (.long p5), .second, .val (.int (0 : Int32)), .val (.long vx), .second, .val (.long vy), .second, .val (.long vz), .second, .val (.ref b99), .unset] [(.int (0 : Int32)), (.int ((if (0 : Int32) = (0 : Int32) then (0 : Int32) else (if p5 < vx then (1 : Int32) else (0 : Int32))) + (if (0 : Int32) = (0 : Int32) then (0 : Int32) else (if p5 < vy then (1 : Int32) else (0 : Int32)))))]))
    refine own_step (fun t k => XS.iconst X109.here hx rfl (hb hby at_115) k) ?_
    show own_Goes p e below _ (T109.setTop (mkF m 116 #[.val (.long p1), .second, .val (.long p2), .second, .val (.long p3), .second, .val (.int p4), .val (.long p5), .second, .val (.int (0 : Int32)), .val (.long vx), .second, .val (.long vy), .second, .val (.long vz), .second, .val (.ref b99), .unset] [(.int (3 : Int32)), (.int (0 : Int32)), (.int ((if (0 : Int32) = (0 : Int32) then (0 : Int32) else (if p5 < vx then (1 : Int32) else (0 : Int32))) + (if (0 : Int32) = (0 : Int32) then (0 : Int32) else (if p5 < vy then (1 : Int32) else (0 : Int32)))))]))
    have hc110 : (0 : Int32) < (3 : Int32) := by decide
    refine own_step (fun t k => XS.icmpYes X109.here hx rfl (pc0 := 116) (pc' := 123) rfl (hb hby at_116) rfl (tlt hc110).1 (by decide) (by decide) k) ?_
    show own_Goes p e below _ (T109.setTop (mkF m 123 #[.val (.long p1), .second, .val (.long p2), .second, .val (.long p3), .second, .val (.int p4), .val (.long p5), .second, .val (.int (0 : Int32)), .val (.long vx), .second, .val (.long vy), .second, .val (.long vz), .second, .val (.ref b99), .unset] [(.int ((if (0 : Int32) = (0 : Int32) then (0 : Int32) else (if p5 < vx then (1 : Int32) else (0 : Int32))) + (if (0 : Int32) = (0 : Int32) then (0 : Int32) else (if p5 < vy then (1 : Int32) else (0 : Int32)))))]))
    refine own_step (fun t k => XS.iconst X109.here hx rfl (hb hby at_123) k) ?_
    show own_Goes p e below _ (T109.setTop (mkF m 124 #[.val (.long p1), .second, .val (.long p2), .second, .val (.long p3), .second, .val (.int p4), .val (.long p5), .second, .val (.int (0 : Int32)), .val (.long vx), .second, .val (.long vy), .second, .val (.long vz), .second, .val (.ref b99), .unset] [(.int (0 : Int32)), (.int ((if (0 : Int32) = (0 : Int32) then (0 : Int32) else (if p5 < vx then (1 : Int32) else (0 : Int32))) + (if (0 : Int32) = (0 : Int32) then (0 : Int32) else (if p5 < vy then (1 : Int32) else (0 : Int32)))))]))
    refine own_step (fun t k => XS.lload X109.here hx rfl (hb hby at_124) rfl k) ?_
    show own_Goes p e below _ (T109.setTop (mkF m 126 #[.val (.long p1), .second, .val (.long p2), .second, .val (.long p3), .second, .val (.int p4), .val (.long p5), .second, .val (.int (0 : Int32)), .val (.long vx), .second, .val (.long vy), .second, .val (.long vz), .second, .val (.ref b99), .unset] [(.long vz), (.int (0 : Int32)), (.int ((if (0 : Int32) = (0 : Int32) then (0 : Int32) else (if p5 < vx then (1 : Int32) else (0 : Int32))) + (if (0 : Int32) = (0 : Int32) then (0 : Int32) else (if p5 < vy then (1 : Int32) else (0 : Int32)))))]))
    refine own_step (fun t k => XS.lload X109.here hx rfl (hb hby at_126) rfl k) ?_
    show own_Goes p e below _ (T109.setTop (mkF m 128 #[.val (.long p1), .second, .val (.long p2), .second, .val (.long p3), .second, .val (.int p4), .val (.long p5), .second, .val (.int (0 : Int32)), .val (.long vx), .second, .val (.long vy), .second, .val (.long vz), .second, .val (.ref b99), .unset] [(.long p5), (.long vz), (.int (0 : Int32)), (.int ((if (0 : Int32) = (0 : Int32) then (0 : Int32) else (if p5 < vx then (1 : Int32) else (0 : Int32))) + (if (0 : Int32) = (0 : Int32) then (0 : Int32) else (if p5 < vy then (1 : Int32) else (0 : Int32)))))]))
    obtain ⟨_, _, ⟨T111, L111, k111, n111⟩, -, X111, ⟨Lc111, hQ111, l111, y111, z111⟩, st111⟩ := Jvm.LawKit.callS X109 hx (y := (⟨"com/example/battlement/battlement/bench/TimingsOverPinLaw", "exceeds", "(ZJJ)I"⟩ : MethodName)) hown (mvT hZ w20) (mvT hZ w21) (mvT hZ w22) (mvT hZ w23) (by decide) (backOf (W := 1) (own_b3 l Z a0 hw [] (0 : Int32) vz p5  T101.heap n0 (Nat.le_trans (Nat.le_trans Z0 E99.1) K101c.1) ) hZ w23 w22 (by decide) (by decide)) (g := (mkF m 128 #[.val (.long p1), .second, .val (.long p2), .second, .val (.long p3), .second, .val (.int p4), .val (.long p5), .second, .val (.int (0 : Int32)), .val (.long vx), .second, .val (.long vy), .second, .val (.long vz), .second, .val (.ref b99), .unset] [(.long p5), (.long vz), (.int (0 : Int32)), (.int ((if (0 : Int32) = (0 : Int32) then (0 : Int32) else (if p5 < vx then (1 : Int32) else (0 : Int32))) + (if (0 : Int32) = (0 : Int32) then (0 : Int32) else (if p5 < vy then (1 : Int32) else (0 : Int32)))))])) rfl (by rw [hml]; rfl) (argsL := [(.int (0 : Int32)), (.long vz), (.long p5)]) (rest := [(.int ((if (0 : Int32) = (0 : Int32) then (0 : Int32) else (if p5 < vx then (1 : Int32) else (0 : Int32))) + (if (0 : Int32) = (0 : Int32) then (0 : Int32) else (if p5 < vy then (1 : Int32) else (0 : Int32)))))]) (lenOf own_pd1 rfl) rfl (by show 2 * 0 + _ ≤ _; exact Nat.le_of_eq rfl) (hb hby at_128) (fun _ _ => ⟨rfl, eh109, (by decide : 2 + 0 ≤ _), (by decide : 66 + 0 ≤ _)⟩)
    dsimp only [Pt.U, Pt.locs, Pt.cells, Pt.slots] at X111 l111 y111 z111 st111 hQ111
    subst l111 y111 z111
    obtain ⟨rfl, N111q, eh111⟩ := hQ111
    have N111 := Fr.app N109 N111q
    refine own_step st111 ?_
    show own_Goes p e below _ (T111.setTop (mkF m 131 #[.val (.long p1), .second, .val (.long p2), .second, .val (.long p3), .second, .val (.int p4), .val (.long p5), .second, .val (.int (0 : Int32)), .val (.long vx), .second, .val (.long vy), .second, .val (.long vz), .second, .val (.ref b99), .unset] [(.int (if (0 : Int32) = (0 : Int32) then (0 : Int32) else (if p5 < vz then (1 : Int32) else (0 : Int32)))), (.int ((if (0 : Int32) = (0 : Int32) then (0 : Int32) else (if p5 < vx then (1 : Int32) else (0 : Int32))) + (if (0 : Int32) = (0 : Int32) then (0 : Int32) else (if p5 < vy then (1 : Int32) else (0 : Int32)))))]))
    refine own_step (fun t k => XS.iadd X111.here hx rfl (hb hby at_131) rfl k) ?_
    show own_Goes p e below _ (T111.setTop (mkF m 132 #[.val (.long p1), .second, .val (.long p2), .second, .val (.long p3), .second, .val (.int p4), .val (.long p5), .second, .val (.int (0 : Int32)), .val (.long vx), .second, .val (.long vy), .second, .val (.long vz), .second, .val (.ref b99), .unset] [(.int (((if (0 : Int32) = (0 : Int32) then (0 : Int32) else (if p5 < vx then (1 : Int32) else (0 : Int32))) + (if (0 : Int32) = (0 : Int32) then (0 : Int32) else (if p5 < vy then (1 : Int32) else (0 : Int32)))) + (if (0 : Int32) = (0 : Int32) then (0 : Int32) else (if p5 < vz then (1 : Int32) else (0 : Int32)))))]))
    refine own_step (fun t k => XS.istore X111.here hx rfl (hb hby at_132) rfl (l' := #[.val (.long p1), .second, .val (.long p2), .second, .val (.long p3), .second, .val (.int p4), .val (.long p5), .second, .val (.int (0 : Int32)), .val (.long vx), .second, .val (.long vy), .second, .val (.long vz), .second, .val (.ref b99), .val (.int (((if (0 : Int32) = (0 : Int32) then (0 : Int32) else (if p5 < vx then (1 : Int32) else (0 : Int32))) + (if (0 : Int32) = (0 : Int32) then (0 : Int32) else (if p5 < vy then (1 : Int32) else (0 : Int32)))) + (if (0 : Int32) = (0 : Int32) then (0 : Int32) else (if p5 < vz then (1 : Int32) else (0 : Int32)))))]) rfl k) ?_
    show own_Goes p e below _ (T111.setTop (mkF m 134 #[.val (.long p1), .second, .val (.long p2), .second, .val (.long p3), .second, .val (.int p4), .val (.long p5), .second, .val (.int (0 : Int32)), .val (.long vx), .second, .val (.long vy), .second, .val (.long vz), .second, .val (.ref b99), .val (.int (((if (0 : Int32) = (0 : Int32) then (0 : Int32) else (if p5 < vx then (1 : Int32) else (0 : Int32))) + (if (0 : Int32) = (0 : Int32) then (0 : Int32) else (if p5 < vy then (1 : Int32) else (0 : Int32)))) + (if (0 : Int32) = (0 : Int32) then (0 : Int32) else (if p5 < vz then (1 : Int32) else (0 : Int32)))))] []))
    refine own_step (fun t k => XS.aload X111.here hx rfl (hb hby at_134) rfl rfl k) ?_
    show own_Goes p e below _ (T111.setTop (mkF m 136 #[.val (.long p1), .second, .val (.long p2), .second, .val (.long p3), .second, .val (.int p4), .val (.long p5), .second, .val (.int (0 : Int32)), .val (.long vx), .second, .val (.long vy), .second, .val (.long vz), .second, .val (.ref b99), .val (.int (((if (0 : Int32) = (0 : Int32) then (0 : Int32) else (if p5 < vx then (1 : Int32) else (0 : Int32))) + (if (0 : Int32) = (0 : Int32) then (0 : Int32) else (if p5 < vy then (1 : Int32) else (0 : Int32)))) + (if (0 : Int32) = (0 : Int32) then (0 : Int32) else (if p5 < vz then (1 : Int32) else (0 : Int32)))))] [(.ref b99)]))
    refine own_step (fun t k => XS.lload X111.here hx rfl (hb hby at_136) rfl k) ?_
    show own_Goes p e below _ (T111.setTop (mkF m 138 #[.val (.long p1), .second, .val (.long p2), .second, .val (.long p3), .second, .val (.int p4), .val (.long p5), .second, .val (.int (0 : Int32)), .val (.long vx), .second, .val (.long vy), .second, .val (.long vz), .second, .val (.ref b99), .val (.int (((if (0 : Int32) = (0 : Int32) then (0 : Int32) else (if p5 < vx then (1 : Int32) else (0 : Int32))) + (if (0 : Int32) = (0 : Int32) then (0 : Int32) else (if p5 < vy then (1 : Int32) else (0 : Int32)))) + (if (0 : Int32) = (0 : Int32) then (0 : Int32) else (if p5 < vz then (1 : Int32) else (0 : Int32)))))] [(.long p5), (.ref b99)]))
    obtain ⟨cq112, kq112, q112a, q112b, q112c⟩ := isOf hZ eh111 f101_1
    obtain ⟨_, _, ⟨T112, L112, k112, n112⟩, -, X112, ⟨Lc112, hQ112, l112, y112, z112⟩, st112⟩ := X111.virtualBack hx (y := (⟨"com/example/battlement/battlement/bench/Timings", "over", "(J)I"⟩ : MethodName)) (z := (⟨"com/example/battlement/battlement/bench/Timings", "over", "(J)I"⟩ : MethodName)) hown (mvT hZ w24) (mvT hZ w25) (notFace_of_selects (args := #[]) (mvT hZ w27)) (mvT hZ w27) (mvT hZ w26) (by decide) (backOf (W := 0) (own_o0 l Z a0 hw [] b99 p5 (bb_101) (kk_101) ((List.replicate 64 (0 : Int64))) T101.heap n0 (Nat.le_trans (Nat.le_trans Z0 E99.1) K101c.1) f101_2 f101_3 f101_4) hZ w28 w3 (by decide) (by decide)) q112a q112c (g := (mkF m 138 #[.val (.long p1), .second, .val (.long p2), .second, .val (.long p3), .second, .val (.int p4), .val (.long p5), .second, .val (.int (0 : Int32)), .val (.long vx), .second, .val (.long vy), .second, .val (.long vz), .second, .val (.ref b99), .val (.int (((if (0 : Int32) = (0 : Int32) then (0 : Int32) else (if p5 < vx then (1 : Int32) else (0 : Int32))) + (if (0 : Int32) = (0 : Int32) then (0 : Int32) else (if p5 < vy then (1 : Int32) else (0 : Int32)))) + (if (0 : Int32) = (0 : Int32) then (0 : Int32) else (if p5 < vz then (1 : Int32) else (0 : Int32)))))] [(.long p5), (.ref b99)])) rfl (by rw [hml]; rfl) (Steps.refl _) (argsL := [(.long p5)]) (rest := []) (lenOf own_pd2 rfl) rfl (by show 2 * 0 + _ ≤ _; exact Nat.le_of_eq rfl) (hb hby at_138) (fun _ _ => ⟨rfl, eh111, (by decide : 2 + 0 ≤ _), (by decide : 66 + 0 ≤ _)⟩)
    dsimp only [Pt.U, Pt.locs, Pt.cells, Pt.slots] at X112 l112 y112 z112 st112 hQ112
    subst l112 y112 z112
    obtain ⟨rfl, N112q, eh112⟩ := hQ112
    have N112 := Fr.app N111 N112q
    refine own_jump st112 ?_
    show own_Goes p e below _ (T112.setTop (mkF m 141 #[.val (.long p1), .second, .val (.long p2), .second, .val (.long p3), .second, .val (.int p4), .val (.long p5), .second, .val (.int (0 : Int32)), .val (.long vx), .second, .val (.long vy), .second, .val (.long vz), .second, .val (.ref b99), .val (.int (((if (0 : Int32) = (0 : Int32) then (0 : Int32) else (if p5 < vx then (1 : Int32) else (0 : Int32))) + (if (0 : Int32) = (0 : Int32) then (0 : Int32) else (if p5 < vy then (1 : Int32) else (0 : Int32)))) + (if (0 : Int32) = (0 : Int32) then (0 : Int32) else (if p5 < vz then (1 : Int32) else (0 : Int32)))))] [(.int (0 : Int32))]))
    refine own_step (fun t k => XS.iload X112.here hx rfl (hb hby at_141) rfl k) ?_
    show own_Goes p e below _ (T112.setTop (mkF m 143 #[.val (.long p1), .second, .val (.long p2), .second, .val (.long p3), .second, .val (.int p4), .val (.long p5), .second, .val (.int (0 : Int32)), .val (.long vx), .second, .val (.long vy), .second, .val (.long vz), .second, .val (.ref b99), .val (.int (((if (0 : Int32) = (0 : Int32) then (0 : Int32) else (if p5 < vx then (1 : Int32) else (0 : Int32))) + (if (0 : Int32) = (0 : Int32) then (0 : Int32) else (if p5 < vy then (1 : Int32) else (0 : Int32)))) + (if (0 : Int32) = (0 : Int32) then (0 : Int32) else (if p5 < vz then (1 : Int32) else (0 : Int32)))))] [(.int (((if (0 : Int32) = (0 : Int32) then (0 : Int32) else (if p5 < vx then (1 : Int32) else (0 : Int32))) + (if (0 : Int32) = (0 : Int32) then (0 : Int32) else (if p5 < vy then (1 : Int32) else (0 : Int32)))) + (if (0 : Int32) = (0 : Int32) then (0 : Int32) else (if p5 < vz then (1 : Int32) else (0 : Int32))))), (.int (0 : Int32))]))
    refine own_step (S' := T112.setTop (mkF m 151 #[.val (.long p1), .second, .val (.long p2), .second, .val (.long p3), .second, .val (.int p4), .val (.long p5), .second, .val (.int (0 : Int32)), .val (.long vx), .second, .val (.long vy), .second, .val (.long vz), .second, .val (.ref b99), .val (.int (((if (0 : Int32) = (0 : Int32) then (0 : Int32) else (if p5 < vx then (1 : Int32) else (0 : Int32))) + (if (0 : Int32) = (0 : Int32) then (0 : Int32) else (if p5 < vy then (1 : Int32) else (0 : Int32)))) + (if (0 : Int32) = (0 : Int32) then (0 : Int32) else (if p5 < vz then (1 : Int32) else (0 : Int32)))))] [(.int (if (0 : Int32) = (((if (0 : Int32) = (0 : Int32) then (0 : Int32) else (if p5 < vx then (1 : Int32) else (0 : Int32))) + (if (0 : Int32) = (0 : Int32) then (0 : Int32) else (if p5 < vy then (1 : Int32) else (0 : Int32)))) + (if (0 : Int32) = (0 : Int32) then (0 : Int32) else (if p5 < vz then (1 : Int32) else (0 : Int32)))) then (1 : Int32) else (0 : Int32)))])) (fun t k => ?_) ?_
    · show Steps p.tables e below (T112.setTop (mkF m 143 #[.val (.long p1), .second, .val (.long p2), .second, .val (.long p3), .second, .val (.int p4), .val (.long p5), .second, .val (.int (0 : Int32)), .val (.long vx), .second, .val (.long vy), .second, .val (.long vz), .second, .val (.ref b99), .val (.int (((if (0 : Int32) = (0 : Int32) then (0 : Int32) else (if p5 < vx then (1 : Int32) else (0 : Int32))) + (if (0 : Int32) = (0 : Int32) then (0 : Int32) else (if p5 < vy then (1 : Int32) else (0 : Int32)))) + (if (0 : Int32) = (0 : Int32) then (0 : Int32) else (if p5 < vz then (1 : Int32) else (0 : Int32)))))] [(.int (((if (0 : Int32) = (0 : Int32) then (0 : Int32) else (if p5 < vx then (1 : Int32) else (0 : Int32))) + (if (0 : Int32) = (0 : Int32) then (0 : Int32) else (if p5 < vy then (1 : Int32) else (0 : Int32)))) + (if (0 : Int32) = (0 : Int32) then (0 : Int32) else (if p5 < vz then (1 : Int32) else (0 : Int32))))), (.int (0 : Int32))])) _
      by_cases hc113 : (0 : Int32) = (((if (0 : Int32) = (0 : Int32) then (0 : Int32) else (if p5 < vx then (1 : Int32) else (0 : Int32))) + (if (0 : Int32) = (0 : Int32) then (0 : Int32) else (if p5 < vy then (1 : Int32) else (0 : Int32)))) + (if (0 : Int32) = (0 : Int32) then (0 : Int32) else (if p5 < vz then (1 : Int32) else (0 : Int32))))
      · --
        refine XS.icmpNo X112.here hx rfl (hb hby at_143) rfl (teq hc113).2 ?_
        show Steps p.tables e below (T112.setTop (mkF m 146 #[.val (.long p1), .second, .val (.long p2), .second, .val (.long p3), .second, .val (.int p4), .val (.long p5), .second, .val (.int (0 : Int32)), .val (.long vx), .second, .val (.long vy), .second, .val (.long vz), .second, .val (.ref b99), .val (.int (((if (0 : Int32) = (0 : Int32) then (0 : Int32) else (if p5 < vx then (1 : Int32) else (0 : Int32))) + (if (0 : Int32) = (0 : Int32) then (0 : Int32) else (if p5 < vy then (1 : Int32) else (0 : Int32)))) + (if (0 : Int32) = (0 : Int32) then (0 : Int32) else (if p5 < vz then (1 : Int32) else (0 : Int32)))))] [])) _
        refine XS.iconst X112.here hx rfl (hb hby at_146) ?_
        show Steps p.tables e below (T112.setTop (mkF m 147 #[.val (.long p1), .second, .val (.long p2), .second, .val (.long p3), .second, .val (.int p4), .val (.long p5), .second, .val (.int (0 : Int32)), .val (.long vx), .second, .val (.long vy), .second, .val (.long vz), .second, .val (.ref b99), .val (.int (((if (0 : Int32) = (0 : Int32) then (0 : Int32) else (if p5 < vx then (1 : Int32) else (0 : Int32))) + (if (0 : Int32) = (0 : Int32) then (0 : Int32) else (if p5 < vy then (1 : Int32) else (0 : Int32)))) + (if (0 : Int32) = (0 : Int32) then (0 : Int32) else (if p5 < vz then (1 : Int32) else (0 : Int32)))))] [(.int (1 : Int32))])) _
        refine XS.goto X112.here hx rfl (pc0 := 147) (pc' := 151) rfl (hb hby at_147) (by decide) (by decide) ?_
        show Steps p.tables e below (T112.setTop (mkF m 151 #[.val (.long p1), .second, .val (.long p2), .second, .val (.long p3), .second, .val (.int p4), .val (.long p5), .second, .val (.int (0 : Int32)), .val (.long vx), .second, .val (.long vy), .second, .val (.long vz), .second, .val (.ref b99), .val (.int (((if (0 : Int32) = (0 : Int32) then (0 : Int32) else (if p5 < vx then (1 : Int32) else (0 : Int32))) + (if (0 : Int32) = (0 : Int32) then (0 : Int32) else (if p5 < vy then (1 : Int32) else (0 : Int32)))) + (if (0 : Int32) = (0 : Int32) then (0 : Int32) else (if p5 < vz then (1 : Int32) else (0 : Int32)))))] [(.int (1 : Int32))])) _
        first | (simp only [if_pos hc113] at k; exact k) | ((repeat (first | rw [if_pos hc113] at k)); exact k)
      · --
        refine XS.icmpYes X112.here hx rfl (pc0 := 143) (pc' := 150) rfl (hb hby at_143) rfl (feq hc113).2 (by decide) (by decide) ?_
        show Steps p.tables e below (T112.setTop (mkF m 150 #[.val (.long p1), .second, .val (.long p2), .second, .val (.long p3), .second, .val (.int p4), .val (.long p5), .second, .val (.int (0 : Int32)), .val (.long vx), .second, .val (.long vy), .second, .val (.long vz), .second, .val (.ref b99), .val (.int (((if (0 : Int32) = (0 : Int32) then (0 : Int32) else (if p5 < vx then (1 : Int32) else (0 : Int32))) + (if (0 : Int32) = (0 : Int32) then (0 : Int32) else (if p5 < vy then (1 : Int32) else (0 : Int32)))) + (if (0 : Int32) = (0 : Int32) then (0 : Int32) else (if p5 < vz then (1 : Int32) else (0 : Int32)))))] [])) _
        refine XS.iconst X112.here hx rfl (hb hby at_150) ?_
        show Steps p.tables e below (T112.setTop (mkF m 151 #[.val (.long p1), .second, .val (.long p2), .second, .val (.long p3), .second, .val (.int p4), .val (.long p5), .second, .val (.int (0 : Int32)), .val (.long vx), .second, .val (.long vy), .second, .val (.long vz), .second, .val (.ref b99), .val (.int (((if (0 : Int32) = (0 : Int32) then (0 : Int32) else (if p5 < vx then (1 : Int32) else (0 : Int32))) + (if (0 : Int32) = (0 : Int32) then (0 : Int32) else (if p5 < vy then (1 : Int32) else (0 : Int32)))) + (if (0 : Int32) = (0 : Int32) then (0 : Int32) else (if p5 < vz then (1 : Int32) else (0 : Int32)))))] [(.int (0 : Int32))])) _
        first | (simp only [if_neg hc113] at k; exact k) | ((repeat (first | rw [if_neg hc113] at k)); exact k)
    show own_Goes p e below _ (T112.setTop (mkF m 151 #[.val (.long p1), .second, .val (.long p2), .second, .val (.long p3), .second, .val (.int p4), .val (.long p5), .second, .val (.int (0 : Int32)), .val (.long vx), .second, .val (.long vy), .second, .val (.long vz), .second, .val (.ref b99), .val (.int (((if (0 : Int32) = (0 : Int32) then (0 : Int32) else (if p5 < vx then (1 : Int32) else (0 : Int32))) + (if (0 : Int32) = (0 : Int32) then (0 : Int32) else (if p5 < vy then (1 : Int32) else (0 : Int32)))) + (if (0 : Int32) = (0 : Int32) then (0 : Int32) else (if p5 < vz then (1 : Int32) else (0 : Int32)))))] [(.int (if (0 : Int32) = (((if (0 : Int32) = (0 : Int32) then (0 : Int32) else (if p5 < vx then (1 : Int32) else (0 : Int32))) + (if (0 : Int32) = (0 : Int32) then (0 : Int32) else (if p5 < vy then (1 : Int32) else (0 : Int32)))) + (if (0 : Int32) = (0 : Int32) then (0 : Int32) else (if p5 < vz then (1 : Int32) else (0 : Int32)))) then (1 : Int32) else (0 : Int32)))]))
    refine own_retL X112 hx hlk Bd.returns (hb hby at_151) (?_ : (if (0 : Int32) = (((if (0 : Int32) = (0 : Int32) then (0 : Int32) else (if p5 < vx then (1 : Int32) else (0 : Int32))) + (if (0 : Int32) = (0 : Int32) then (0 : Int32) else (if p5 < vy then (1 : Int32) else (0 : Int32)))) + (if (0 : Int32) = (0 : Int32) then (0 : Int32) else (if p5 < vz then (1 : Int32) else (0 : Int32)))) then (1 : Int32) else (0 : Int32)) = 1) N112 (by decide) (by decide)
    exact own_plain0 _ _ _ _
  · --
    show own_Goes p e below _ (s₁.setTop (mkF m 6 #[.val (.long p1), .second, .val (.long p2), .second, .val (.long p3), .second, .val (.int p4), .val (.long p5), .second, .val (.int (1 : Int32)), .unset, .unset, .unset, .unset, .unset, .unset, .unset, .unset] []))
    refine own_step (fun t k => XS.lloadN X0.here hx rfl (hb hby at_6) rfl k) ?_
    show own_Goes p e below _ (s₁.setTop (mkF m 7 #[.val (.long p1), .second, .val (.long p2), .second, .val (.long p3), .second, .val (.int p4), .val (.long p5), .second, .val (.int (1 : Int32)), .unset, .unset, .unset, .unset, .unset, .unset, .unset, .unset] [(.long p1)]))
    refine own_step (fun t k => X0.ldc2Long hx hown (mvT hZ w0) (g := (mkF m 7 #[.val (.long p1), .second, .val (.long p2), .second, .val (.long p3), .second, .val (.int p4), .val (.long p5), .second, .val (.int (1 : Int32)), .unset, .unset, .unset, .unset, .unset, .unset, .unset, .unset] [(.long p1)])) rfl (hb hby at_7) _ k) ?_
    show own_Goes p e below _ (s₁.setTop (mkF m 10 #[.val (.long p1), .second, .val (.long p2), .second, .val (.long p3), .second, .val (.int p4), .val (.long p5), .second, .val (.int (1 : Int32)), .unset, .unset, .unset, .unset, .unset, .unset, .unset, .unset] [(.long (9223372036854775807 : Int64)), (.long p1)]))
    refine own_step (fun t k => XS.land X0.here hx rfl (hb hby at_10) rfl k) ?_
    show own_Goes p e below _ (s₁.setTop (mkF m 11 #[.val (.long p1), .second, .val (.long p2), .second, .val (.long p3), .second, .val (.int p4), .val (.long p5), .second, .val (.int (1 : Int32)), .unset, .unset, .unset, .unset, .unset, .unset, .unset, .unset] [(.long (p1 &&& (9223372036854775807 : Int64)))]))
    refine own_step (fun t k => XS.lstore X0.here hx rfl (hb hby at_11) rfl (l' := #[.val (.long p1), .second, .val (.long p2), .second, .val (.long p3), .second, .val (.int p4), .val (.long p5), .second, .val (.int (1 : Int32)), .val (.long (p1 &&& (9223372036854775807 : Int64))), .second, .unset, .unset, .unset, .unset, .unset, .unset]) rfl k) ?_
    show own_Goes p e below _ (s₁.setTop (mkF m 13 #[.val (.long p1), .second, .val (.long p2), .second, .val (.long p3), .second, .val (.int p4), .val (.long p5), .second, .val (.int (1 : Int32)), .val (.long (p1 &&& (9223372036854775807 : Int64))), .second, .unset, .unset, .unset, .unset, .unset, .unset] []))
    generalize hv_vx : (p1 &&& (9223372036854775807 : Int64)) = vx
    refine own_step (fun t k => XS.lloadN X0.here hx rfl (hb hby at_13) rfl k) ?_
    show own_Goes p e below _ (s₁.setTop (mkF m 14 #[.val (.long p1), .second, .val (.long p2), .second, .val (.long p3), .second, .val (.int p4), .val (.long p5), .second, .val (.int (1 : Int32)), .val (.long vx), .second, .unset, .unset, .unset, .unset, .unset, .unset] [(.long p2)]))
    refine own_step (fun t k => X0.ldc2Long hx hown (mvT hZ w0) (g := (mkF m 14 #[.val (.long p1), .second, .val (.long p2), .second, .val (.long p3), .second, .val (.int p4), .val (.long p5), .second, .val (.int (1 : Int32)), .val (.long vx), .second, .unset, .unset, .unset, .unset, .unset, .unset] [(.long p2)])) rfl (hb hby at_14) _ k) ?_
    show own_Goes p e below _ (s₁.setTop (mkF m 17 #[.val (.long p1), .second, .val (.long p2), .second, .val (.long p3), .second, .val (.int p4), .val (.long p5), .second, .val (.int (1 : Int32)), .val (.long vx), .second, .unset, .unset, .unset, .unset, .unset, .unset] [(.long (9223372036854775807 : Int64)), (.long p2)]))
    refine own_step (fun t k => XS.land X0.here hx rfl (hb hby at_17) rfl k) ?_
    show own_Goes p e below _ (s₁.setTop (mkF m 18 #[.val (.long p1), .second, .val (.long p2), .second, .val (.long p3), .second, .val (.int p4), .val (.long p5), .second, .val (.int (1 : Int32)), .val (.long vx), .second, .unset, .unset, .unset, .unset, .unset, .unset] [(.long (p2 &&& (9223372036854775807 : Int64)))]))
    refine own_step (fun t k => XS.lstore X0.here hx rfl (hb hby at_18) rfl (l' := #[.val (.long p1), .second, .val (.long p2), .second, .val (.long p3), .second, .val (.int p4), .val (.long p5), .second, .val (.int (1 : Int32)), .val (.long vx), .second, .val (.long (p2 &&& (9223372036854775807 : Int64))), .second, .unset, .unset, .unset, .unset]) rfl k) ?_
    show own_Goes p e below _ (s₁.setTop (mkF m 20 #[.val (.long p1), .second, .val (.long p2), .second, .val (.long p3), .second, .val (.int p4), .val (.long p5), .second, .val (.int (1 : Int32)), .val (.long vx), .second, .val (.long (p2 &&& (9223372036854775807 : Int64))), .second, .unset, .unset, .unset, .unset] []))
    generalize hv_vy : (p2 &&& (9223372036854775807 : Int64)) = vy
    refine own_step (fun t k => XS.lload X0.here hx rfl (hb hby at_20) rfl k) ?_
    show own_Goes p e below _ (s₁.setTop (mkF m 22 #[.val (.long p1), .second, .val (.long p2), .second, .val (.long p3), .second, .val (.int p4), .val (.long p5), .second, .val (.int (1 : Int32)), .val (.long vx), .second, .val (.long vy), .second, .unset, .unset, .unset, .unset] [(.long p3)]))
    refine own_step (fun t k => X0.ldc2Long hx hown (mvT hZ w0) (g := (mkF m 22 #[.val (.long p1), .second, .val (.long p2), .second, .val (.long p3), .second, .val (.int p4), .val (.long p5), .second, .val (.int (1 : Int32)), .val (.long vx), .second, .val (.long vy), .second, .unset, .unset, .unset, .unset] [(.long p3)])) rfl (hb hby at_22) _ k) ?_
    show own_Goes p e below _ (s₁.setTop (mkF m 25 #[.val (.long p1), .second, .val (.long p2), .second, .val (.long p3), .second, .val (.int p4), .val (.long p5), .second, .val (.int (1 : Int32)), .val (.long vx), .second, .val (.long vy), .second, .unset, .unset, .unset, .unset] [(.long (9223372036854775807 : Int64)), (.long p3)]))
    refine own_step (fun t k => XS.land X0.here hx rfl (hb hby at_25) rfl k) ?_
    show own_Goes p e below _ (s₁.setTop (mkF m 26 #[.val (.long p1), .second, .val (.long p2), .second, .val (.long p3), .second, .val (.int p4), .val (.long p5), .second, .val (.int (1 : Int32)), .val (.long vx), .second, .val (.long vy), .second, .unset, .unset, .unset, .unset] [(.long (p3 &&& (9223372036854775807 : Int64)))]))
    refine own_step (fun t k => XS.lstore X0.here hx rfl (hb hby at_26) rfl (l' := #[.val (.long p1), .second, .val (.long p2), .second, .val (.long p3), .second, .val (.int p4), .val (.long p5), .second, .val (.int (1 : Int32)), .val (.long vx), .second, .val (.long vy), .second, .val (.long (p3 &&& (9223372036854775807 : Int64))), .second, .unset, .unset]) rfl k) ?_
    show own_Goes p e below _ (s₁.setTop (mkF m 28 #[.val (.long p1), .second, .val (.long p2), .second, .val (.long p3), .second, .val (.int p4), .val (.long p5), .second, .val (.int (1 : Int32)), .val (.long vx), .second, .val (.long vy), .second, .val (.long (p3 &&& (9223372036854775807 : Int64))), .second, .unset, .unset] []))
    generalize hv_vz : (p3 &&& (9223372036854775807 : Int64)) = vz
    obtain ⟨T114, h114, X114, e114, E114, A114, D114, -, st114⟩ := newO X0 hx hZ hown w1 w2 w3 e0 (g := (mkF m 28 #[.val (.long p1), .second, .val (.long p2), .second, .val (.long p3), .second, .val (.int p4), .val (.long p5), .second, .val (.int (1 : Int32)), .val (.long vx), .second, .val (.long vy), .second, .val (.long vz), .second, .unset, .unset] [])) rfl (hb hby at_28) (by decide) (by decide)
    obtain ⟨b114, g114⟩ : ∃ z, z = h0.size := ⟨_, rfl⟩
    rw [← g114] at A114 D114 st114
    have g_b114 : n0 ≤ b114 := Nat.le_trans Z0 (Nat.le_of_eq g114.symm)
    have sz_b114 : h0.size ≤ b114 := Nat.le_trans K0.1 (Nat.le_of_eq g114.symm)
    have K115 : Keep h0 h114 [] := K0.ext E114
    have F_nanos_b114 : Fld Z h114 b114 "com/example/battlement/battlement/bench/Timings" "nanos" "[J" .null := D114 (Or.inl w12) (ty := (.array .long)) (by decide)
    have F_count_b114 : Fld Z h114 b114 "com/example/battlement/battlement/bench/Timings" "count" "I" (.int (0 : Int32)) := D114 (Or.inl w19) (ty := .int) (by decide)
    refine own_step st114 ?_
    show own_Goes p e below _ (T114.setTop (mkF m 31 #[.val (.long p1), .second, .val (.long p2), .second, .val (.long p3), .second, .val (.int p4), .val (.long p5), .second, .val (.int (1 : Int32)), .val (.long vx), .second, .val (.long vy), .second, .val (.long vz), .second, .unset, .unset] [(.ref b114)]))
    refine own_step (fun t k => XS.dup X114.here hx rfl (hb hby at_31) rfl rfl k) ?_
    show own_Goes p e below _ (T114.setTop (mkF m 32 #[.val (.long p1), .second, .val (.long p2), .second, .val (.long p3), .second, .val (.int p4), .val (.long p5), .second, .val (.int (1 : Int32)), .val (.long vx), .second, .val (.long vy), .second, .val (.long vz), .second, .unset, .unset] [(.ref b114), (.ref b114)]))
    obtain ⟨_, _, ⟨T116, L116, k116, n116⟩, -, X116, ⟨Lc116, hQ116, l116, y116, z116⟩, st116⟩ := X114.specialBack hx (y := (⟨"com/example/battlement/battlement/bench/Timings", "<init>", "()V"⟩ : MethodName)) rfl hown (mvT hZ w4) (mvT hZ w5) (mvT hZ w6) (by decide) (backOf (W := 1) (own_b1 l Z a0 hw [] b114 (.null) h114 n0 (Nat.le_trans Z0 E114.1) A114 g_b114 F_nanos_b114 F_count_b114) hZ w6 w3 (by decide) (by decide)) (g := (mkF m 32 #[.val (.long p1), .second, .val (.long p2), .second, .val (.long p3), .second, .val (.int p4), .val (.long p5), .second, .val (.int (1 : Int32)), .val (.long vx), .second, .val (.long vy), .second, .val (.long vz), .second, .unset, .unset] [(.ref b114), (.ref b114)])) rfl (by rw [hml]; rfl) (Steps.refl _) (a := b114) (argsL := []) (rest := [(.ref b114)]) (lenOf own_pd0 rfl) rfl (by show 2 * 0 + _ ≤ _; exact Nat.le_of_eq rfl) (hb hby at_32) (fun _ _ => ⟨rfl, e114, (by decide : 1 + 1 ≤ _), (by decide : 2 + 64 ≤ _)⟩)
    dsimp only [Pt.U, Pt.locs, Pt.cells, Pt.slots] at X116 l116 y116 z116 st116 hQ116
    subst l116 y116 z116
    obtain ⟨bb_116, kk_116, rfl, N116q, K116c, f116_0, f116_1, f116_2, f116_3, f116_4⟩ := hQ116
    have N116 := Fr.app N0 N116q
    refine own_jump st116 ?_
    have K117 : Keep h0 T116.heap [] := K115.trans K116c (allS (Or.inr sz_b114) all0)
    have sz_bb_116 : h0.size ≤ bb_116 := Nat.le_trans K115.1 f116_0
    have g_bb_116 : n0 ≤ bb_116 := Nat.le_trans Z0 sz_bb_116
    have ne_b114_bb_116 : b114 ≠ bb_116 := Nat.ne_of_lt (Nat.lt_of_lt_of_le A114.lt f116_0)
    show own_Goes p e below _ (T116.setTop (mkF m 35 #[.val (.long p1), .second, .val (.long p2), .second, .val (.long p3), .second, .val (.int p4), .val (.long p5), .second, .val (.int (1 : Int32)), .val (.long vx), .second, .val (.long vy), .second, .val (.long vz), .second, .unset, .unset] [(.ref b114)]))
    refine own_step (fun t k => XS.astore X116.here hx rfl (hb hby at_35) rfl rfl (l' := #[.val (.long p1), .second, .val (.long p2), .second, .val (.long p3), .second, .val (.int p4), .val (.long p5), .second, .val (.int (1 : Int32)), .val (.long vx), .second, .val (.long vy), .second, .val (.long vz), .second, .val (.ref b114), .unset]) rfl k) ?_
    show own_Goes p e below _ (T116.setTop (mkF m 37 #[.val (.long p1), .second, .val (.long p2), .second, .val (.long p3), .second, .val (.int p4), .val (.long p5), .second, .val (.int (1 : Int32)), .val (.long vx), .second, .val (.long vy), .second, .val (.long vz), .second, .val (.ref b114), .unset] []))
    refine own_step (fun t k => XS.iload X116.here hx rfl (hb hby at_37) rfl k) ?_
    show own_Goes p e below _ (T116.setTop (mkF m 39 #[.val (.long p1), .second, .val (.long p2), .second, .val (.long p3), .second, .val (.int p4), .val (.long p5), .second, .val (.int (1 : Int32)), .val (.long vx), .second, .val (.long vy), .second, .val (.long vz), .second, .val (.ref b114), .unset] [(.int (1 : Int32))]))
    refine own_step (fun t k => XS.iconst X116.here hx rfl (hb hby at_39) k) ?_
    show own_Goes p e below _ (T116.setTop (mkF m 40 #[.val (.long p1), .second, .val (.long p2), .second, .val (.long p3), .second, .val (.int p4), .val (.long p5), .second, .val (.int (1 : Int32)), .val (.long vx), .second, .val (.long vy), .second, .val (.long vz), .second, .val (.ref b114), .unset] [(.int (1 : Int32)), (.int (1 : Int32))]))
    have hc118 : ¬ ((1 : Int32) < (1 : Int32)) := by decide
    refine own_step (fun t k => XS.icmpNo X116.here hx rfl (hb hby at_40) rfl (flt hc118).1 k) ?_
    show own_Goes p e below _ (T116.setTop (mkF m 43 #[.val (.long p1), .second, .val (.long p2), .second, .val (.long p3), .second, .val (.int p4), .val (.long p5), .second, .val (.int (1 : Int32)), .val (.long vx), .second, .val (.long vy), .second, .val (.long vz), .second, .val (.ref b114), .unset] []))
    refine own_step (fun t k => XS.aload X116.here hx rfl (hb hby at_43) rfl rfl k) ?_
    show own_Goes p e below _ (T116.setTop (mkF m 45 #[.val (.long p1), .second, .val (.long p2), .second, .val (.long p3), .second, .val (.int p4), .val (.long p5), .second, .val (.int (1 : Int32)), .val (.long vx), .second, .val (.long vy), .second, .val (.long vz), .second, .val (.ref b114), .unset] [(.ref b114)]))
    refine own_step (fun t k => XS.lload X116.here hx rfl (hb hby at_45) rfl k) ?_
    show own_Goes p e below _ (T116.setTop (mkF m 47 #[.val (.long p1), .second, .val (.long p2), .second, .val (.long p3), .second, .val (.int p4), .val (.long p5), .second, .val (.int (1 : Int32)), .val (.long vx), .second, .val (.long vy), .second, .val (.long vz), .second, .val (.ref b114), .unset] [(.long vx), (.ref b114)]))
    obtain ⟨cq119, kq119, q119a, q119b, q119c⟩ := isOf hZ rfl f116_1
    obtain ⟨_, _, ⟨T119, L119, k119, n119⟩, -, X119, ⟨Lc119, hQ119, l119, y119, z119⟩, st119⟩ := X116.virtualBack hx (y := (⟨"com/example/battlement/battlement/bench/Timings", "add", "(J)V"⟩ : MethodName)) (z := (⟨"com/example/battlement/battlement/bench/Timings", "add", "(J)V"⟩ : MethodName)) hown (mvT hZ w13) (mvT hZ w14) (notFace_of_selects (args := #[]) (mvT hZ w16)) (mvT hZ w16) (mvT hZ w15) (by decide) (backOf (W := 0) (own_b2 l Z a0 hw [] b114 vx ((0 : Int32)) (bb_116) (kk_116) ((List.replicate 64 (0 : Int64))) T116.heap n0 (Nat.le_trans (Nat.le_trans Z0 E114.1) K116c.1) f116_1 g_b114 f116_3 f116_2 f116_4 g_bb_116 ne_b114_bb_116 (own_pos hv_vx) (by decide) (by decide) (by simp only [List.length_set, List.length_replicate]; decide)) hZ w17 w3 (by decide) (by decide)) q119a q119c (g := (mkF m 47 #[.val (.long p1), .second, .val (.long p2), .second, .val (.long p3), .second, .val (.int p4), .val (.long p5), .second, .val (.int (1 : Int32)), .val (.long vx), .second, .val (.long vy), .second, .val (.long vz), .second, .val (.ref b114), .unset] [(.long vx), (.ref b114)])) rfl (by rw [hml]; rfl) (Steps.refl _) (argsL := [(.long vx)]) (rest := []) (lenOf own_pd3 rfl) rfl (by show 2 * 0 + _ ≤ _; exact Nat.le_of_eq rfl) (hb hby at_47) (fun _ _ => ⟨rfl, rfl, (by decide : 2 + 0 ≤ _), (by decide : 66 + 0 ≤ _)⟩)
    dsimp only [Pt.U, Pt.locs, Pt.cells, Pt.slots] at X119 l119 y119 z119 st119 hQ119
    subst l119 y119 z119
    obtain ⟨rfl, N119q, K119c, f119_0, f119_1, f119_2, f119_3⟩ := hQ119
    have N119 := Fr.app N116 N119q
    refine own_jump st119 ?_
    have K120 : Keep h0 T119.heap [] := K117.trans K119c (allS (Or.inr sz_b114) (allS (Or.inr sz_bb_116) all0))
    show own_Goes p e below _ (T119.setTop (mkF m 50 #[.val (.long p1), .second, .val (.long p2), .second, .val (.long p3), .second, .val (.int p4), .val (.long p5), .second, .val (.int (1 : Int32)), .val (.long vx), .second, .val (.long vy), .second, .val (.long vz), .second, .val (.ref b114), .unset] []))
    have fc121 : Fld Z T119.heap b114 "com/example/battlement/battlement/bench/Timings" "count" "I" (.int (1 : Int32)) := f119_1
    refine own_step (fun t k => XS.iload X119.here hx rfl (hb hby at_50) rfl k) ?_
    show own_Goes p e below _ (T119.setTop (mkF m 52 #[.val (.long p1), .second, .val (.long p2), .second, .val (.long p3), .second, .val (.int p4), .val (.long p5), .second, .val (.int (1 : Int32)), .val (.long vx), .second, .val (.long vy), .second, .val (.long vz), .second, .val (.ref b114), .unset] [(.int (1 : Int32))]))
    refine own_step (fun t k => XS.iconst X119.here hx rfl (hb hby at_52) k) ?_
    show own_Goes p e below _ (T119.setTop (mkF m 53 #[.val (.long p1), .second, .val (.long p2), .second, .val (.long p3), .second, .val (.int p4), .val (.long p5), .second, .val (.int (1 : Int32)), .val (.long vx), .second, .val (.long vy), .second, .val (.long vz), .second, .val (.ref b114), .unset] [(.int (2 : Int32)), (.int (1 : Int32))]))
    have hc122 : (1 : Int32) < (2 : Int32) := by decide
    refine own_step (fun t k => XS.icmpYes X119.here hx rfl (pc0 := 53) (pc' := 63) rfl (hb hby at_53) rfl (tlt hc122).1 (by decide) (by decide) k) ?_
    show own_Goes p e below _ (T119.setTop (mkF m 63 #[.val (.long p1), .second, .val (.long p2), .second, .val (.long p3), .second, .val (.int p4), .val (.long p5), .second, .val (.int (1 : Int32)), .val (.long vx), .second, .val (.long vy), .second, .val (.long vz), .second, .val (.ref b114), .unset] []))
    refine own_step (fun t k => XS.iload X119.here hx rfl (hb hby at_63) rfl k) ?_
    show own_Goes p e below _ (T119.setTop (mkF m 65 #[.val (.long p1), .second, .val (.long p2), .second, .val (.long p3), .second, .val (.int p4), .val (.long p5), .second, .val (.int (1 : Int32)), .val (.long vx), .second, .val (.long vy), .second, .val (.long vz), .second, .val (.ref b114), .unset] [(.int (1 : Int32))]))
    refine own_step (fun t k => XS.iconst X119.here hx rfl (hb hby at_65) k) ?_
    show own_Goes p e below _ (T119.setTop (mkF m 66 #[.val (.long p1), .second, .val (.long p2), .second, .val (.long p3), .second, .val (.int p4), .val (.long p5), .second, .val (.int (1 : Int32)), .val (.long vx), .second, .val (.long vy), .second, .val (.long vz), .second, .val (.ref b114), .unset] [(.int (3 : Int32)), (.int (1 : Int32))]))
    have hc123 : (1 : Int32) < (3 : Int32) := by decide
    refine own_step (fun t k => XS.icmpYes X119.here hx rfl (pc0 := 66) (pc' := 76) rfl (hb hby at_66) rfl (tlt hc123).1 (by decide) (by decide) k) ?_
    show own_Goes p e below _ (T119.setTop (mkF m 76 #[.val (.long p1), .second, .val (.long p2), .second, .val (.long p3), .second, .val (.int p4), .val (.long p5), .second, .val (.int (1 : Int32)), .val (.long vx), .second, .val (.long vy), .second, .val (.long vz), .second, .val (.ref b114), .unset] []))
    refine own_step (fun t k => XS.iload X119.here hx rfl (hb hby at_76) rfl k) ?_
    show own_Goes p e below _ (T119.setTop (mkF m 78 #[.val (.long p1), .second, .val (.long p2), .second, .val (.long p3), .second, .val (.int p4), .val (.long p5), .second, .val (.int (1 : Int32)), .val (.long vx), .second, .val (.long vy), .second, .val (.long vz), .second, .val (.ref b114), .unset] [(.int (1 : Int32))]))
    refine own_step (fun t k => XS.iconst X119.here hx rfl (hb hby at_78) k) ?_
    show own_Goes p e below _ (T119.setTop (mkF m 79 #[.val (.long p1), .second, .val (.long p2), .second, .val (.long p3), .second, .val (.int p4), .val (.long p5), .second, .val (.int (1 : Int32)), .val (.long vx), .second, .val (.long vy), .second, .val (.long vz), .second, .val (.ref b114), .unset] [(.int (1 : Int32)), (.int (1 : Int32))]))
    have hc124 : ¬ ((1 : Int32) < (1 : Int32)) := by decide
    refine own_step (fun t k => XS.icmpNo X119.here hx rfl (hb hby at_79) rfl (flt hc124).1 k) ?_
    show own_Goes p e below _ (T119.setTop (mkF m 82 #[.val (.long p1), .second, .val (.long p2), .second, .val (.long p3), .second, .val (.int p4), .val (.long p5), .second, .val (.int (1 : Int32)), .val (.long vx), .second, .val (.long vy), .second, .val (.long vz), .second, .val (.ref b114), .unset] []))
    refine own_step (fun t k => XS.iconst X119.here hx rfl (hb hby at_82) k) ?_
    show own_Goes p e below _ (T119.setTop (mkF m 83 #[.val (.long p1), .second, .val (.long p2), .second, .val (.long p3), .second, .val (.int p4), .val (.long p5), .second, .val (.int (1 : Int32)), .val (.long vx), .second, .val (.long vy), .second, .val (.long vz), .second, .val (.ref b114), .unset] [(.int (1 : Int32))]))
    refine own_step (fun t k => XS.goto X119.here hx rfl (pc0 := 83) (pc' := 87) rfl (hb hby at_83) (by decide) (by decide) k) ?_
    show own_Goes p e below _ (T119.setTop (mkF m 87 #[.val (.long p1), .second, .val (.long p2), .second, .val (.long p3), .second, .val (.int p4), .val (.long p5), .second, .val (.int (1 : Int32)), .val (.long vx), .second, .val (.long vy), .second, .val (.long vz), .second, .val (.ref b114), .unset] [(.int (1 : Int32))]))
    refine own_step (fun t k => XS.lload X119.here hx rfl (hb hby at_87) rfl k) ?_
    show own_Goes p e below _ (T119.setTop (mkF m 89 #[.val (.long p1), .second, .val (.long p2), .second, .val (.long p3), .second, .val (.int p4), .val (.long p5), .second, .val (.int (1 : Int32)), .val (.long vx), .second, .val (.long vy), .second, .val (.long vz), .second, .val (.ref b114), .unset] [(.long vx), (.int (1 : Int32))]))
    refine own_step (fun t k => XS.lload X119.here hx rfl (hb hby at_89) rfl k) ?_
    show own_Goes p e below _ (T119.setTop (mkF m 91 #[.val (.long p1), .second, .val (.long p2), .second, .val (.long p3), .second, .val (.int p4), .val (.long p5), .second, .val (.int (1 : Int32)), .val (.long vx), .second, .val (.long vy), .second, .val (.long vz), .second, .val (.ref b114), .unset] [(.long p5), (.long vx), (.int (1 : Int32))]))
    obtain ⟨_, _, ⟨T125, L125, k125, n125⟩, -, X125, ⟨Lc125, hQ125, l125, y125, z125⟩, st125⟩ := Jvm.LawKit.callS X119 hx (y := (⟨"com/example/battlement/battlement/bench/TimingsOverPinLaw", "exceeds", "(ZJJ)I"⟩ : MethodName)) hown (mvT hZ w20) (mvT hZ w21) (mvT hZ w22) (mvT hZ w23) (by decide) (backOf (W := 0) (own_b3 l Z a0 hw [] (1 : Int32) vx p5  T119.heap n0 (Nat.le_trans (Nat.le_trans (Nat.le_trans Z0 E114.1) K116c.1) K119c.1) ) hZ w23 w22 (by decide) (by decide)) (g := (mkF m 91 #[.val (.long p1), .second, .val (.long p2), .second, .val (.long p3), .second, .val (.int p4), .val (.long p5), .second, .val (.int (1 : Int32)), .val (.long vx), .second, .val (.long vy), .second, .val (.long vz), .second, .val (.ref b114), .unset] [(.long p5), (.long vx), (.int (1 : Int32))])) rfl (by rw [hml]; rfl) (argsL := [(.int (1 : Int32)), (.long vx), (.long p5)]) (rest := []) (lenOf own_pd1 rfl) rfl (by show 2 * 0 + _ ≤ _; exact Nat.le_of_eq rfl) (hb hby at_91) (fun _ _ => ⟨rfl, rfl, (by decide : 2 + 0 ≤ _), (by decide : 66 + 0 ≤ _)⟩)
    dsimp only [Pt.U, Pt.locs, Pt.cells, Pt.slots] at X125 l125 y125 z125 st125 hQ125
    subst l125 y125 z125
    obtain ⟨rfl, N125q, eh125⟩ := hQ125
    have N125 := Fr.app N119 N125q
    refine own_step st125 ?_
    show own_Goes p e below _ (T125.setTop (mkF m 94 #[.val (.long p1), .second, .val (.long p2), .second, .val (.long p3), .second, .val (.int p4), .val (.long p5), .second, .val (.int (1 : Int32)), .val (.long vx), .second, .val (.long vy), .second, .val (.long vz), .second, .val (.ref b114), .unset] [(.int (if (1 : Int32) = (0 : Int32) then (0 : Int32) else (if p5 < vx then (1 : Int32) else (0 : Int32))))]))
    refine own_step (fun t k => XS.iload X125.here hx rfl (hb hby at_94) rfl k) ?_
    show own_Goes p e below _ (T125.setTop (mkF m 96 #[.val (.long p1), .second, .val (.long p2), .second, .val (.long p3), .second, .val (.int p4), .val (.long p5), .second, .val (.int (1 : Int32)), .val (.long vx), .second, .val (.long vy), .second, .val (.long vz), .second, .val (.ref b114), .unset] [(.int (1 : Int32)), (.int (if (1 : Int32) = (0 : Int32) then (0 : Int32) else (if p5 < vx then (1 : Int32) else (0 : Int32))))]))
    refine own_step (fun t k => XS.iconst X125.here hx rfl (hb hby at_96) k) ?_
    show own_Goes p e below _ (T125.setTop (mkF m 97 #[.val (.long p1), .second, .val (.long p2), .second, .val (.long p3), .second, .val (.int p4), .val (.long p5), .second, .val (.int (1 : Int32)), .val (.long vx), .second, .val (.long vy), .second, .val (.long vz), .second, .val (.ref b114), .unset] [(.int (2 : Int32)), (.int (1 : Int32)), (.int (if (1 : Int32) = (0 : Int32) then (0 : Int32) else (if p5 < vx then (1 : Int32) else (0 : Int32))))]))
    have hc126 : (1 : Int32) < (2 : Int32) := by decide
    refine own_step (fun t k => XS.icmpYes X125.here hx rfl (pc0 := 97) (pc' := 104) rfl (hb hby at_97) rfl (tlt hc126).1 (by decide) (by decide) k) ?_
    show own_Goes p e below _ (T125.setTop (mkF m 104 #[.val (.long p1), .second, .val (.long p2), .second, .val (.long p3), .second, .val (.int p4), .val (.long p5), .second, .val (.int (1 : Int32)), .val (.long vx), .second, .val (.long vy), .second, .val (.long vz), .second, .val (.ref b114), .unset] [(.int (if (1 : Int32) = (0 : Int32) then (0 : Int32) else (if p5 < vx then (1 : Int32) else (0 : Int32))))]))
    refine own_step (fun t k => XS.iconst X125.here hx rfl (hb hby at_104) k) ?_
    show own_Goes p e below _ (T125.setTop (mkF m 105 #[.val (.long p1), .second, .val (.long p2), .second, .val (.long p3), .second, .val (.int p4), .val (.long p5), .second, .val (.int (1 : Int32)), .val (.long vx), .second, .val (.long vy), .second, .val (.long vz), .second, .val (.ref b114), .unset] [(.int (0 : Int32)), (.int (if (1 : Int32) = (0 : Int32) then (0 : Int32) else (if p5 < vx then (1 : Int32) else (0 : Int32))))]))
    refine own_step (fun t k => XS.lload X125.here hx rfl (hb hby at_105) rfl k) ?_
    show own_Goes p e below _ (T125.setTop (mkF m 107 #[.val (.long p1), .second, .val (.long p2), .second, .val (.long p3), .second, .val (.int p4), .val (.long p5), .second, .val (.int (1 : Int32)), .val (.long vx), .second, .val (.long vy), .second, .val (.long vz), .second, .val (.ref b114), .unset] [(.long vy), (.int (0 : Int32)), (.int (if (1 : Int32) = (0 : Int32) then (0 : Int32) else (if p5 < vx then (1 : Int32) else (0 : Int32))))]))
    refine own_step (fun t k => XS.lload X125.here hx rfl (hb hby at_107) rfl k) ?_
    show own_Goes p e below _ (T125.setTop (mkF m 109 #[.val (.long p1), .second, .val (.long p2), .second, .val (.long p3), .second, .val (.int p4), .val (.long p5), .second, .val (.int (1 : Int32)), .val (.long vx), .second, .val (.long vy), .second, .val (.long vz), .second, .val (.ref b114), .unset] [(.long p5), (.long vy), (.int (0 : Int32)), (.int (if (1 : Int32) = (0 : Int32) then (0 : Int32) else (if p5 < vx then (1 : Int32) else (0 : Int32))))]))
    obtain ⟨_, _, ⟨T127, L127, k127, n127⟩, -, X127, ⟨Lc127, hQ127, l127, y127, z127⟩, st127⟩ := Jvm.LawKit.callS X125 hx (y := (⟨"com/example/battlement/battlement/bench/TimingsOverPinLaw", "exceeds", "(ZJJ)I"⟩ : MethodName)) hown (mvT hZ w20) (mvT hZ w21) (mvT hZ w22) (mvT hZ w23) (by decide) (backOf (W := 1) (own_b3 l Z a0 hw [] (0 : Int32) vy p5  T119.heap n0 (Nat.le_trans (Nat.le_trans (Nat.le_trans Z0 E114.1) K116c.1) K119c.1) ) hZ w23 w22 (by decide) (by decide)) (g := (mkF m 109 #[.val (.long p1), .second, .val (.long p2), .second, .val (.long p3), .second, .val (.int p4), .val (.long p5), .second, .val (.int (1 : Int32)), .val (.long vx), .second, .val (.long vy), .second, .val (.long vz), .second, .val (.ref b114), .unset] [(.long p5), (.long vy), (.int (0 : Int32)), (.int (if (1 : Int32) = (0 : Int32) then (0 : Int32) else (if p5 < vx then (1 : Int32) else (0 : Int32))))])) rfl (by rw [hml]; rfl) (argsL := [(.int (0 : Int32)), (.long vy), (.long p5)]) (rest := [(.int (if (1 : Int32) = (0 : Int32) then (0 : Int32) else (if p5 < vx then (1 : Int32) else (0 : Int32))))]) (lenOf own_pd1 rfl) rfl (by show 2 * 0 + _ ≤ _; exact Nat.le_of_eq rfl) (hb hby at_109) (fun _ _ => ⟨rfl, eh125, (by decide : 2 + 0 ≤ _), (by decide : 66 + 0 ≤ _)⟩)
    dsimp only [Pt.U, Pt.locs, Pt.cells, Pt.slots] at X127 l127 y127 z127 st127 hQ127
    subst l127 y127 z127
    obtain ⟨rfl, N127q, eh127⟩ := hQ127
    have N127 := Fr.app N125 N127q
    refine own_step st127 ?_
    show own_Goes p e below _ (T127.setTop (mkF m 112 #[.val (.long p1), .second, .val (.long p2), .second, .val (.long p3), .second, .val (.int p4), .val (.long p5), .second, .val (.int (1 : Int32)), .val (.long vx), .second, .val (.long vy), .second, .val (.long vz), .second, .val (.ref b114), .unset] [(.int (if (0 : Int32) = (0 : Int32) then (0 : Int32) else (if p5 < vy then (1 : Int32) else (0 : Int32)))), (.int (if (1 : Int32) = (0 : Int32) then (0 : Int32) else (if p5 < vx then (1 : Int32) else (0 : Int32))))]))
    refine own_step (fun t k => XS.iadd X127.here hx rfl (hb hby at_112) rfl k) ?_
    show own_Goes p e below _ (T127.setTop (mkF m 113 #[.val (.long p1), .second, .val (.long p2), .second, .val (.long p3), .second, .val (.int p4), .val (.long p5), .second, .val (.int (1 : Int32)), .val (.long vx), .second, .val (.long vy), .second, .val (.long vz), .second, .val (.ref b114), .unset] [(.int ((if (1 : Int32) = (0 : Int32) then (0 : Int32) else (if p5 < vx then (1 : Int32) else (0 : Int32))) + (if (0 : Int32) = (0 : Int32) then (0 : Int32) else (if p5 < vy then (1 : Int32) else (0 : Int32)))))]))
    refine own_step (fun t k => XS.iload X127.here hx rfl (hb hby at_113) rfl k) ?_
    show own_Goes p e below _ (T127.setTop (mkF m 115 #[.val (.long p1), .second, .val (.long p2), .second, .val (.long p3), .second, .val (.int p4), .val (.long p5), .second, .val (.int (1 : Int32)), .val (.long vx), .second, .val (.long vy), .second, .val (.long vz), .second, .val (.ref b114), .unset] [(.int (1 : Int32)), (.int ((if (1 : Int32) = (0 : Int32) then (0 : Int32) else (if p5 < vx then (1 : Int32) else (0 : Int32))) + (if (0 : Int32) = (0 : Int32) then (0 : Int32) else (if p5 < vy then (1 : Int32) else (0 : Int32)))))]))
    refine own_step (fun t k => XS.iconst X127.here hx rfl (hb hby at_115) k) ?_
    show own_Goes p e below _ (T127.setTop (mkF m 116 #[.val (.long p1), .second, .val (.long p2), .second, .val (.long p3), .second, .val (.int p4), .val (.long p5), .second, .val (.int (1 : Int32)), .val (.long vx), .second, .val (.long vy), .second, .val (.long vz), .second, .val (.ref b114), .unset] [(.int (3 : Int32)), (.int (1 : Int32)), (.int ((if (1 : Int32) = (0 : Int32) then (0 : Int32) else (if p5 < vx then (1 : Int32) else (0 : Int32))) + (if (0 : Int32) = (0 : Int32) then (0 : Int32) else (if p5 < vy then (1 : Int32) else (0 : Int32)))))]))
    have hc128 : (1 : Int32) < (3 : Int32) := by decide
    refine own_step (fun t k => XS.icmpYes X127.here hx rfl (pc0 := 116) (pc' := 123) rfl (hb hby at_116) rfl (tlt hc128).1 (by decide) (by decide) k) ?_
    show own_Goes p e below _ (T127.setTop (mkF m 123 #[.val (.long p1), .second, .val (.long p2), .second, .val (.long p3), .second, .val (.int p4), .val (.long p5), .second, .val (.int (1 : Int32)), .val (.long vx), .second, .val (.long vy), .second, .val (.long vz), .second, .val (.ref b114), .unset] [(.int ((if (1 : Int32) = (0 : Int32) then (0 : Int32) else (if p5 < vx then (1 : Int32) else (0 : Int32))) + (if (0 : Int32) = (0 : Int32) then (0 : Int32) else (if p5 < vy then (1 : Int32) else (0 : Int32)))))]))
    refine own_step (fun t k => XS.iconst X127.here hx rfl (hb hby at_123) k) ?_
    show own_Goes p e below _ (T127.setTop (mkF m 124 #[.val (.long p1), .second, .val (.long p2), .second, .val (.long p3), .second, .val (.int p4), .val (.long p5), .second, .val (.int (1 : Int32)), .val (.long vx), .second, .val (.long vy), .second, .val (.long vz), .second, .val (.ref b114), .unset] [(.int (0 : Int32)), (.int ((if (1 : Int32) = (0 : Int32) then (0 : Int32) else (if p5 < vx then (1 : Int32) else (0 : Int32))) + (if (0 : Int32) = (0 : Int32) then (0 : Int32) else (if p5 < vy then (1 : Int32) else (0 : Int32)))))]))
    refine own_step (fun t k => XS.lload X127.here hx rfl (hb hby at_124) rfl k) ?_
    show own_Goes p e below _ (T127.setTop (mkF m 126 #[.val (.long p1), .second, .val (.long p2), .second, .val (.long p3), .second, .val (.int p4), .val (.long p5), .second, .val (.int (1 : Int32)), .val (.long vx), .second, .val (.long vy), .second, .val (.long vz), .second, .val (.ref b114), .unset] [(.long vz), (.int (0 : Int32)), (.int ((if (1 : Int32) = (0 : Int32) then (0 : Int32) else (if p5 < vx then (1 : Int32) else (0 : Int32))) + (if (0 : Int32) = (0 : Int32) then (0 : Int32) else (if p5 < vy then (1 : Int32) else (0 : Int32)))))]))
    refine own_step (fun t k => XS.lload X127.here hx rfl (hb hby at_126) rfl k) ?_
    show own_Goes p e below _ (T127.setTop (mkF m 128 #[.val (.long p1), .second, .val (.long p2), .second, .val (.long p3), .second, .val (.int p4), .val (.long p5), .second, .val (.int (1 : Int32)), .val (.long vx), .second, .val (.long vy), .second, .val (.long vz), .second, .val (.ref b114), .unset] [(.long p5), (.long vz), (.int (0 : Int32)), (.int ((if (1 : Int32) = (0 : Int32) then (0 : Int32) else (if p5 < vx then (1 : Int32) else (0 : Int32))) + (if (0 : Int32) = (0 : Int32) then (0 : Int32) else (if p5 < vy then (1 : Int32) else (0 : Int32)))))]))
    obtain ⟨_, _, ⟨T129, L129, k129, n129⟩, -, X129, ⟨Lc129, hQ129, l129, y129, z129⟩, st129⟩ := Jvm.LawKit.callS X127 hx (y := (⟨"com/example/battlement/battlement/bench/TimingsOverPinLaw", "exceeds", "(ZJJ)I"⟩ : MethodName)) hown (mvT hZ w20) (mvT hZ w21) (mvT hZ w22) (mvT hZ w23) (by decide) (backOf (W := 1) (own_b3 l Z a0 hw [] (0 : Int32) vz p5  T119.heap n0 (Nat.le_trans (Nat.le_trans (Nat.le_trans Z0 E114.1) K116c.1) K119c.1) ) hZ w23 w22 (by decide) (by decide)) (g := (mkF m 128 #[.val (.long p1), .second, .val (.long p2), .second, .val (.long p3), .second, .val (.int p4), .val (.long p5), .second, .val (.int (1 : Int32)), .val (.long vx), .second, .val (.long vy), .second, .val (.long vz), .second, .val (.ref b114), .unset] [(.long p5), (.long vz), (.int (0 : Int32)), (.int ((if (1 : Int32) = (0 : Int32) then (0 : Int32) else (if p5 < vx then (1 : Int32) else (0 : Int32))) + (if (0 : Int32) = (0 : Int32) then (0 : Int32) else (if p5 < vy then (1 : Int32) else (0 : Int32)))))])) rfl (by rw [hml]; rfl) (argsL := [(.int (0 : Int32)), (.long vz), (.long p5)]) (rest := [(.int ((if (1 : Int32) = (0 : Int32) then (0 : Int32) else (if p5 < vx then (1 : Int32) else (0 : Int32))) + (if (0 : Int32) = (0 : Int32) then (0 : Int32) else (if p5 < vy then (1 : Int32) else (0 : Int32)))))]) (lenOf own_pd1 rfl) rfl (by show 2 * 0 + _ ≤ _; exact Nat.le_of_eq rfl) (hb hby at_128) (fun _ _ => ⟨rfl, eh127, (by decide : 2 + 0 ≤ _), (by decide : 66 + 0 ≤ _)⟩)
    dsimp only [Pt.U, Pt.locs, Pt.cells, Pt.slots] at X129 l129 y129 z129 st129 hQ129
    subst l129 y129 z129
    obtain ⟨rfl, N129q, eh129⟩ := hQ129
    have N129 := Fr.app N127 N129q
    refine own_step st129 ?_
    show own_Goes p e below _ (T129.setTop (mkF m 131 #[.val (.long p1), .second, .val (.long p2), .second, .val (.long p3), .second, .val (.int p4), .val (.long p5), .second, .val (.int (1 : Int32)), .val (.long vx), .second, .val (.long vy), .second, .val (.long vz), .second, .val (.ref b114), .unset] [(.int (if (0 : Int32) = (0 : Int32) then (0 : Int32) else (if p5 < vz then (1 : Int32) else (0 : Int32)))), (.int ((if (1 : Int32) = (0 : Int32) then (0 : Int32) else (if p5 < vx then (1 : Int32) else (0 : Int32))) + (if (0 : Int32) = (0 : Int32) then (0 : Int32) else (if p5 < vy then (1 : Int32) else (0 : Int32)))))]))
    refine own_step (fun t k => XS.iadd X129.here hx rfl (hb hby at_131) rfl k) ?_
    show own_Goes p e below _ (T129.setTop (mkF m 132 #[.val (.long p1), .second, .val (.long p2), .second, .val (.long p3), .second, .val (.int p4), .val (.long p5), .second, .val (.int (1 : Int32)), .val (.long vx), .second, .val (.long vy), .second, .val (.long vz), .second, .val (.ref b114), .unset] [(.int (((if (1 : Int32) = (0 : Int32) then (0 : Int32) else (if p5 < vx then (1 : Int32) else (0 : Int32))) + (if (0 : Int32) = (0 : Int32) then (0 : Int32) else (if p5 < vy then (1 : Int32) else (0 : Int32)))) + (if (0 : Int32) = (0 : Int32) then (0 : Int32) else (if p5 < vz then (1 : Int32) else (0 : Int32)))))]))
    refine own_step (fun t k => XS.istore X129.here hx rfl (hb hby at_132) rfl (l' := #[.val (.long p1), .second, .val (.long p2), .second, .val (.long p3), .second, .val (.int p4), .val (.long p5), .second, .val (.int (1 : Int32)), .val (.long vx), .second, .val (.long vy), .second, .val (.long vz), .second, .val (.ref b114), .val (.int (((if (1 : Int32) = (0 : Int32) then (0 : Int32) else (if p5 < vx then (1 : Int32) else (0 : Int32))) + (if (0 : Int32) = (0 : Int32) then (0 : Int32) else (if p5 < vy then (1 : Int32) else (0 : Int32)))) + (if (0 : Int32) = (0 : Int32) then (0 : Int32) else (if p5 < vz then (1 : Int32) else (0 : Int32)))))]) rfl k) ?_
    show own_Goes p e below _ (T129.setTop (mkF m 134 #[.val (.long p1), .second, .val (.long p2), .second, .val (.long p3), .second, .val (.int p4), .val (.long p5), .second, .val (.int (1 : Int32)), .val (.long vx), .second, .val (.long vy), .second, .val (.long vz), .second, .val (.ref b114), .val (.int (((if (1 : Int32) = (0 : Int32) then (0 : Int32) else (if p5 < vx then (1 : Int32) else (0 : Int32))) + (if (0 : Int32) = (0 : Int32) then (0 : Int32) else (if p5 < vy then (1 : Int32) else (0 : Int32)))) + (if (0 : Int32) = (0 : Int32) then (0 : Int32) else (if p5 < vz then (1 : Int32) else (0 : Int32)))))] []))
    refine own_step (fun t k => XS.aload X129.here hx rfl (hb hby at_134) rfl rfl k) ?_
    show own_Goes p e below _ (T129.setTop (mkF m 136 #[.val (.long p1), .second, .val (.long p2), .second, .val (.long p3), .second, .val (.int p4), .val (.long p5), .second, .val (.int (1 : Int32)), .val (.long vx), .second, .val (.long vy), .second, .val (.long vz), .second, .val (.ref b114), .val (.int (((if (1 : Int32) = (0 : Int32) then (0 : Int32) else (if p5 < vx then (1 : Int32) else (0 : Int32))) + (if (0 : Int32) = (0 : Int32) then (0 : Int32) else (if p5 < vy then (1 : Int32) else (0 : Int32)))) + (if (0 : Int32) = (0 : Int32) then (0 : Int32) else (if p5 < vz then (1 : Int32) else (0 : Int32)))))] [(.ref b114)]))
    refine own_step (fun t k => XS.lload X129.here hx rfl (hb hby at_136) rfl k) ?_
    show own_Goes p e below _ (T129.setTop (mkF m 138 #[.val (.long p1), .second, .val (.long p2), .second, .val (.long p3), .second, .val (.int p4), .val (.long p5), .second, .val (.int (1 : Int32)), .val (.long vx), .second, .val (.long vy), .second, .val (.long vz), .second, .val (.ref b114), .val (.int (((if (1 : Int32) = (0 : Int32) then (0 : Int32) else (if p5 < vx then (1 : Int32) else (0 : Int32))) + (if (0 : Int32) = (0 : Int32) then (0 : Int32) else (if p5 < vy then (1 : Int32) else (0 : Int32)))) + (if (0 : Int32) = (0 : Int32) then (0 : Int32) else (if p5 < vz then (1 : Int32) else (0 : Int32)))))] [(.long p5), (.ref b114)]))
    obtain ⟨cq130, kq130, q130a, q130b, q130c⟩ := isOf hZ eh129 f119_0
    obtain ⟨_, _, ⟨T130, L130, k130, n130⟩, -, X130, ⟨Lc130, hQ130, l130, y130, z130⟩, st130⟩ := X129.virtualBack hx (y := (⟨"com/example/battlement/battlement/bench/Timings", "over", "(J)I"⟩ : MethodName)) (z := (⟨"com/example/battlement/battlement/bench/Timings", "over", "(J)I"⟩ : MethodName)) hown (mvT hZ w24) (mvT hZ w25) (notFace_of_selects (args := #[]) (mvT hZ w27)) (mvT hZ w27) (mvT hZ w26) (by decide) (backOf (W := 0) (own_o1 l Z a0 hw [] b114 p5 (bb_116) (kk_116) (((List.replicate 64 (0 : Int64)).set ((0 : Int32).toNatClampNeg) vx)) T119.heap n0 (Nat.le_trans (Nat.le_trans (Nat.le_trans Z0 E114.1) K116c.1) K119c.1) f119_2 fc121 f119_3) hZ w28 w3 (by decide) (by decide)) q130a q130c (g := (mkF m 138 #[.val (.long p1), .second, .val (.long p2), .second, .val (.long p3), .second, .val (.int p4), .val (.long p5), .second, .val (.int (1 : Int32)), .val (.long vx), .second, .val (.long vy), .second, .val (.long vz), .second, .val (.ref b114), .val (.int (((if (1 : Int32) = (0 : Int32) then (0 : Int32) else (if p5 < vx then (1 : Int32) else (0 : Int32))) + (if (0 : Int32) = (0 : Int32) then (0 : Int32) else (if p5 < vy then (1 : Int32) else (0 : Int32)))) + (if (0 : Int32) = (0 : Int32) then (0 : Int32) else (if p5 < vz then (1 : Int32) else (0 : Int32)))))] [(.long p5), (.ref b114)])) rfl (by rw [hml]; rfl) (Steps.refl _) (argsL := [(.long p5)]) (rest := []) (lenOf own_pd2 rfl) rfl (by show 2 * 0 + _ ≤ _; exact Nat.le_of_eq rfl) (hb hby at_138) (fun _ _ => ⟨rfl, eh129, (by decide : 2 + 0 ≤ _), (by decide : 66 + 0 ≤ _)⟩)
    dsimp only [Pt.U, Pt.locs, Pt.cells, Pt.slots] at X130 l130 y130 z130 st130 hQ130
    subst l130 y130 z130
    obtain ⟨rfl, N130q, eh130⟩ := hQ130
    have N130 := Fr.app N129 N130q
    refine own_jump st130 ?_
    show own_Goes p e below _ (T130.setTop (mkF m 141 #[.val (.long p1), .second, .val (.long p2), .second, .val (.long p3), .second, .val (.int p4), .val (.long p5), .second, .val (.int (1 : Int32)), .val (.long vx), .second, .val (.long vy), .second, .val (.long vz), .second, .val (.ref b114), .val (.int (((if (1 : Int32) = (0 : Int32) then (0 : Int32) else (if p5 < vx then (1 : Int32) else (0 : Int32))) + (if (0 : Int32) = (0 : Int32) then (0 : Int32) else (if p5 < vy then (1 : Int32) else (0 : Int32)))) + (if (0 : Int32) = (0 : Int32) then (0 : Int32) else (if p5 < vz then (1 : Int32) else (0 : Int32)))))] [(.int (if p5 < (((List.replicate 64 (0 : Int64)).set ((0 : Int32).toNatClampNeg) vx).getD (0 : Int32).toNatClampNeg 0) then (1 : Int32) else (0 : Int32)))]))
    refine own_step (fun t k => XS.iload X130.here hx rfl (hb hby at_141) rfl k) ?_
    show own_Goes p e below _ (T130.setTop (mkF m 143 #[.val (.long p1), .second, .val (.long p2), .second, .val (.long p3), .second, .val (.int p4), .val (.long p5), .second, .val (.int (1 : Int32)), .val (.long vx), .second, .val (.long vy), .second, .val (.long vz), .second, .val (.ref b114), .val (.int (((if (1 : Int32) = (0 : Int32) then (0 : Int32) else (if p5 < vx then (1 : Int32) else (0 : Int32))) + (if (0 : Int32) = (0 : Int32) then (0 : Int32) else (if p5 < vy then (1 : Int32) else (0 : Int32)))) + (if (0 : Int32) = (0 : Int32) then (0 : Int32) else (if p5 < vz then (1 : Int32) else (0 : Int32)))))] [(.int (((if (1 : Int32) = (0 : Int32) then (0 : Int32) else (if p5 < vx then (1 : Int32) else (0 : Int32))) + (if (0 : Int32) = (0 : Int32) then (0 : Int32) else (if p5 < vy then (1 : Int32) else (0 : Int32)))) + (if (0 : Int32) = (0 : Int32) then (0 : Int32) else (if p5 < vz then (1 : Int32) else (0 : Int32))))), (.int (if p5 < (((List.replicate 64 (0 : Int64)).set ((0 : Int32).toNatClampNeg) vx).getD (0 : Int32).toNatClampNeg 0) then (1 : Int32) else (0 : Int32)))]))
    refine own_step (S' := T130.setTop (mkF m 151 #[.val (.long p1), .second, .val (.long p2), .second, .val (.long p3), .second, .val (.int p4), .val (.long p5), .second, .val (.int (1 : Int32)), .val (.long vx), .second, .val (.long vy), .second, .val (.long vz), .second, .val (.ref b114), .val (.int (((if (1 : Int32) = (0 : Int32) then (0 : Int32) else (if p5 < vx then (1 : Int32) else (0 : Int32))) + (if (0 : Int32) = (0 : Int32) then (0 : Int32) else (if p5 < vy then (1 : Int32) else (0 : Int32)))) + (if (0 : Int32) = (0 : Int32) then (0 : Int32) else (if p5 < vz then (1 : Int32) else (0 : Int32)))))] [(.int (if (if p5 < (((List.replicate 64 (0 : Int64)).set ((0 : Int32).toNatClampNeg) vx).getD (0 : Int32).toNatClampNeg 0) then (1 : Int32) else (0 : Int32)) = (((if (1 : Int32) = (0 : Int32) then (0 : Int32) else (if p5 < vx then (1 : Int32) else (0 : Int32))) + (if (0 : Int32) = (0 : Int32) then (0 : Int32) else (if p5 < vy then (1 : Int32) else (0 : Int32)))) + (if (0 : Int32) = (0 : Int32) then (0 : Int32) else (if p5 < vz then (1 : Int32) else (0 : Int32)))) then (1 : Int32) else (0 : Int32)))])) (fun t k => ?_) ?_
    · show Steps p.tables e below (T130.setTop (mkF m 143 #[.val (.long p1), .second, .val (.long p2), .second, .val (.long p3), .second, .val (.int p4), .val (.long p5), .second, .val (.int (1 : Int32)), .val (.long vx), .second, .val (.long vy), .second, .val (.long vz), .second, .val (.ref b114), .val (.int (((if (1 : Int32) = (0 : Int32) then (0 : Int32) else (if p5 < vx then (1 : Int32) else (0 : Int32))) + (if (0 : Int32) = (0 : Int32) then (0 : Int32) else (if p5 < vy then (1 : Int32) else (0 : Int32)))) + (if (0 : Int32) = (0 : Int32) then (0 : Int32) else (if p5 < vz then (1 : Int32) else (0 : Int32)))))] [(.int (((if (1 : Int32) = (0 : Int32) then (0 : Int32) else (if p5 < vx then (1 : Int32) else (0 : Int32))) + (if (0 : Int32) = (0 : Int32) then (0 : Int32) else (if p5 < vy then (1 : Int32) else (0 : Int32)))) + (if (0 : Int32) = (0 : Int32) then (0 : Int32) else (if p5 < vz then (1 : Int32) else (0 : Int32))))), (.int (if p5 < (((List.replicate 64 (0 : Int64)).set ((0 : Int32).toNatClampNeg) vx).getD (0 : Int32).toNatClampNeg 0) then (1 : Int32) else (0 : Int32)))])) _
      by_cases hc131 : (if p5 < (((List.replicate 64 (0 : Int64)).set ((0 : Int32).toNatClampNeg) vx).getD (0 : Int32).toNatClampNeg 0) then (1 : Int32) else (0 : Int32)) = (((if (1 : Int32) = (0 : Int32) then (0 : Int32) else (if p5 < vx then (1 : Int32) else (0 : Int32))) + (if (0 : Int32) = (0 : Int32) then (0 : Int32) else (if p5 < vy then (1 : Int32) else (0 : Int32)))) + (if (0 : Int32) = (0 : Int32) then (0 : Int32) else (if p5 < vz then (1 : Int32) else (0 : Int32))))
      · --
        refine XS.icmpNo X130.here hx rfl (hb hby at_143) rfl (teq hc131).2 ?_
        show Steps p.tables e below (T130.setTop (mkF m 146 #[.val (.long p1), .second, .val (.long p2), .second, .val (.long p3), .second, .val (.int p4), .val (.long p5), .second, .val (.int (1 : Int32)), .val (.long vx), .second, .val (.long vy), .second, .val (.long vz), .second, .val (.ref b114), .val (.int (((if (1 : Int32) = (0 : Int32) then (0 : Int32) else (if p5 < vx then (1 : Int32) else (0 : Int32))) + (if (0 : Int32) = (0 : Int32) then (0 : Int32) else (if p5 < vy then (1 : Int32) else (0 : Int32)))) + (if (0 : Int32) = (0 : Int32) then (0 : Int32) else (if p5 < vz then (1 : Int32) else (0 : Int32)))))] [])) _
        refine XS.iconst X130.here hx rfl (hb hby at_146) ?_
        show Steps p.tables e below (T130.setTop (mkF m 147 #[.val (.long p1), .second, .val (.long p2), .second, .val (.long p3), .second, .val (.int p4), .val (.long p5), .second, .val (.int (1 : Int32)), .val (.long vx), .second, .val (.long vy), .second, .val (.long vz), .second, .val (.ref b114), .val (.int (((if (1 : Int32) = (0 : Int32) then (0 : Int32) else (if p5 < vx then (1 : Int32) else (0 : Int32))) + (if (0 : Int32) = (0 : Int32) then (0 : Int32) else (if p5 < vy then (1 : Int32) else (0 : Int32)))) + (if (0 : Int32) = (0 : Int32) then (0 : Int32) else (if p5 < vz then (1 : Int32) else (0 : Int32)))))] [(.int (1 : Int32))])) _
        refine XS.goto X130.here hx rfl (pc0 := 147) (pc' := 151) rfl (hb hby at_147) (by decide) (by decide) ?_
        show Steps p.tables e below (T130.setTop (mkF m 151 #[.val (.long p1), .second, .val (.long p2), .second, .val (.long p3), .second, .val (.int p4), .val (.long p5), .second, .val (.int (1 : Int32)), .val (.long vx), .second, .val (.long vy), .second, .val (.long vz), .second, .val (.ref b114), .val (.int (((if (1 : Int32) = (0 : Int32) then (0 : Int32) else (if p5 < vx then (1 : Int32) else (0 : Int32))) + (if (0 : Int32) = (0 : Int32) then (0 : Int32) else (if p5 < vy then (1 : Int32) else (0 : Int32)))) + (if (0 : Int32) = (0 : Int32) then (0 : Int32) else (if p5 < vz then (1 : Int32) else (0 : Int32)))))] [(.int (1 : Int32))])) _
        first | (simp only [if_pos hc131] at k; exact k) | ((repeat (first | rw [if_pos hc131] at k)); exact k)
      · --
        refine XS.icmpYes X130.here hx rfl (pc0 := 143) (pc' := 150) rfl (hb hby at_143) rfl (feq hc131).2 (by decide) (by decide) ?_
        show Steps p.tables e below (T130.setTop (mkF m 150 #[.val (.long p1), .second, .val (.long p2), .second, .val (.long p3), .second, .val (.int p4), .val (.long p5), .second, .val (.int (1 : Int32)), .val (.long vx), .second, .val (.long vy), .second, .val (.long vz), .second, .val (.ref b114), .val (.int (((if (1 : Int32) = (0 : Int32) then (0 : Int32) else (if p5 < vx then (1 : Int32) else (0 : Int32))) + (if (0 : Int32) = (0 : Int32) then (0 : Int32) else (if p5 < vy then (1 : Int32) else (0 : Int32)))) + (if (0 : Int32) = (0 : Int32) then (0 : Int32) else (if p5 < vz then (1 : Int32) else (0 : Int32)))))] [])) _
        refine XS.iconst X130.here hx rfl (hb hby at_150) ?_
        show Steps p.tables e below (T130.setTop (mkF m 151 #[.val (.long p1), .second, .val (.long p2), .second, .val (.long p3), .second, .val (.int p4), .val (.long p5), .second, .val (.int (1 : Int32)), .val (.long vx), .second, .val (.long vy), .second, .val (.long vz), .second, .val (.ref b114), .val (.int (((if (1 : Int32) = (0 : Int32) then (0 : Int32) else (if p5 < vx then (1 : Int32) else (0 : Int32))) + (if (0 : Int32) = (0 : Int32) then (0 : Int32) else (if p5 < vy then (1 : Int32) else (0 : Int32)))) + (if (0 : Int32) = (0 : Int32) then (0 : Int32) else (if p5 < vz then (1 : Int32) else (0 : Int32)))))] [(.int (0 : Int32))])) _
        first | (simp only [if_neg hc131] at k; exact k) | ((repeat (first | rw [if_neg hc131] at k)); exact k)
    show own_Goes p e below _ (T130.setTop (mkF m 151 #[.val (.long p1), .second, .val (.long p2), .second, .val (.long p3), .second, .val (.int p4), .val (.long p5), .second, .val (.int (1 : Int32)), .val (.long vx), .second, .val (.long vy), .second, .val (.long vz), .second, .val (.ref b114), .val (.int (((if (1 : Int32) = (0 : Int32) then (0 : Int32) else (if p5 < vx then (1 : Int32) else (0 : Int32))) + (if (0 : Int32) = (0 : Int32) then (0 : Int32) else (if p5 < vy then (1 : Int32) else (0 : Int32)))) + (if (0 : Int32) = (0 : Int32) then (0 : Int32) else (if p5 < vz then (1 : Int32) else (0 : Int32)))))] [(.int (if (if p5 < (((List.replicate 64 (0 : Int64)).set ((0 : Int32).toNatClampNeg) vx).getD (0 : Int32).toNatClampNeg 0) then (1 : Int32) else (0 : Int32)) = (((if (1 : Int32) = (0 : Int32) then (0 : Int32) else (if p5 < vx then (1 : Int32) else (0 : Int32))) + (if (0 : Int32) = (0 : Int32) then (0 : Int32) else (if p5 < vy then (1 : Int32) else (0 : Int32)))) + (if (0 : Int32) = (0 : Int32) then (0 : Int32) else (if p5 < vz then (1 : Int32) else (0 : Int32)))) then (1 : Int32) else (0 : Int32)))]))
    refine own_retL X130 hx hlk Bd.returns (hb hby at_151) (?_ : (if (if p5 < (((List.replicate 64 (0 : Int64)).set ((0 : Int32).toNatClampNeg) vx).getD (0 : Int32).toNatClampNeg 0) then (1 : Int32) else (0 : Int32)) = (((if (1 : Int32) = (0 : Int32) then (0 : Int32) else (if p5 < vx then (1 : Int32) else (0 : Int32))) + (if (0 : Int32) = (0 : Int32) then (0 : Int32) else (if p5 < vy then (1 : Int32) else (0 : Int32)))) + (if (0 : Int32) = (0 : Int32) then (0 : Int32) else (if p5 < vz then (1 : Int32) else (0 : Int32)))) then (1 : Int32) else (0 : Int32)) = 1) N130 (by decide) (by decide)
    exact own_plain1 _ _ _ _
  · --
    show own_Goes p e below _ (s₁.setTop (mkF m 6 #[.val (.long p1), .second, .val (.long p2), .second, .val (.long p3), .second, .val (.int p4), .val (.long p5), .second, .val (.int (2 : Int32)), .unset, .unset, .unset, .unset, .unset, .unset, .unset, .unset] []))
    refine own_step (fun t k => XS.lloadN X0.here hx rfl (hb hby at_6) rfl k) ?_
    show own_Goes p e below _ (s₁.setTop (mkF m 7 #[.val (.long p1), .second, .val (.long p2), .second, .val (.long p3), .second, .val (.int p4), .val (.long p5), .second, .val (.int (2 : Int32)), .unset, .unset, .unset, .unset, .unset, .unset, .unset, .unset] [(.long p1)]))
    refine own_step (fun t k => X0.ldc2Long hx hown (mvT hZ w0) (g := (mkF m 7 #[.val (.long p1), .second, .val (.long p2), .second, .val (.long p3), .second, .val (.int p4), .val (.long p5), .second, .val (.int (2 : Int32)), .unset, .unset, .unset, .unset, .unset, .unset, .unset, .unset] [(.long p1)])) rfl (hb hby at_7) _ k) ?_
    show own_Goes p e below _ (s₁.setTop (mkF m 10 #[.val (.long p1), .second, .val (.long p2), .second, .val (.long p3), .second, .val (.int p4), .val (.long p5), .second, .val (.int (2 : Int32)), .unset, .unset, .unset, .unset, .unset, .unset, .unset, .unset] [(.long (9223372036854775807 : Int64)), (.long p1)]))
    refine own_step (fun t k => XS.land X0.here hx rfl (hb hby at_10) rfl k) ?_
    show own_Goes p e below _ (s₁.setTop (mkF m 11 #[.val (.long p1), .second, .val (.long p2), .second, .val (.long p3), .second, .val (.int p4), .val (.long p5), .second, .val (.int (2 : Int32)), .unset, .unset, .unset, .unset, .unset, .unset, .unset, .unset] [(.long (p1 &&& (9223372036854775807 : Int64)))]))
    refine own_step (fun t k => XS.lstore X0.here hx rfl (hb hby at_11) rfl (l' := #[.val (.long p1), .second, .val (.long p2), .second, .val (.long p3), .second, .val (.int p4), .val (.long p5), .second, .val (.int (2 : Int32)), .val (.long (p1 &&& (9223372036854775807 : Int64))), .second, .unset, .unset, .unset, .unset, .unset, .unset]) rfl k) ?_
    show own_Goes p e below _ (s₁.setTop (mkF m 13 #[.val (.long p1), .second, .val (.long p2), .second, .val (.long p3), .second, .val (.int p4), .val (.long p5), .second, .val (.int (2 : Int32)), .val (.long (p1 &&& (9223372036854775807 : Int64))), .second, .unset, .unset, .unset, .unset, .unset, .unset] []))
    generalize hv_vx : (p1 &&& (9223372036854775807 : Int64)) = vx
    refine own_step (fun t k => XS.lloadN X0.here hx rfl (hb hby at_13) rfl k) ?_
    show own_Goes p e below _ (s₁.setTop (mkF m 14 #[.val (.long p1), .second, .val (.long p2), .second, .val (.long p3), .second, .val (.int p4), .val (.long p5), .second, .val (.int (2 : Int32)), .val (.long vx), .second, .unset, .unset, .unset, .unset, .unset, .unset] [(.long p2)]))
    refine own_step (fun t k => X0.ldc2Long hx hown (mvT hZ w0) (g := (mkF m 14 #[.val (.long p1), .second, .val (.long p2), .second, .val (.long p3), .second, .val (.int p4), .val (.long p5), .second, .val (.int (2 : Int32)), .val (.long vx), .second, .unset, .unset, .unset, .unset, .unset, .unset] [(.long p2)])) rfl (hb hby at_14) _ k) ?_
    show own_Goes p e below _ (s₁.setTop (mkF m 17 #[.val (.long p1), .second, .val (.long p2), .second, .val (.long p3), .second, .val (.int p4), .val (.long p5), .second, .val (.int (2 : Int32)), .val (.long vx), .second, .unset, .unset, .unset, .unset, .unset, .unset] [(.long (9223372036854775807 : Int64)), (.long p2)]))
    refine own_step (fun t k => XS.land X0.here hx rfl (hb hby at_17) rfl k) ?_
    show own_Goes p e below _ (s₁.setTop (mkF m 18 #[.val (.long p1), .second, .val (.long p2), .second, .val (.long p3), .second, .val (.int p4), .val (.long p5), .second, .val (.int (2 : Int32)), .val (.long vx), .second, .unset, .unset, .unset, .unset, .unset, .unset] [(.long (p2 &&& (9223372036854775807 : Int64)))]))
    refine own_step (fun t k => XS.lstore X0.here hx rfl (hb hby at_18) rfl (l' := #[.val (.long p1), .second, .val (.long p2), .second, .val (.long p3), .second, .val (.int p4), .val (.long p5), .second, .val (.int (2 : Int32)), .val (.long vx), .second, .val (.long (p2 &&& (9223372036854775807 : Int64))), .second, .unset, .unset, .unset, .unset]) rfl k) ?_
    show own_Goes p e below _ (s₁.setTop (mkF m 20 #[.val (.long p1), .second, .val (.long p2), .second, .val (.long p3), .second, .val (.int p4), .val (.long p5), .second, .val (.int (2 : Int32)), .val (.long vx), .second, .val (.long (p2 &&& (9223372036854775807 : Int64))), .second, .unset, .unset, .unset, .unset] []))
    generalize hv_vy : (p2 &&& (9223372036854775807 : Int64)) = vy
    refine own_step (fun t k => XS.lload X0.here hx rfl (hb hby at_20) rfl k) ?_
    show own_Goes p e below _ (s₁.setTop (mkF m 22 #[.val (.long p1), .second, .val (.long p2), .second, .val (.long p3), .second, .val (.int p4), .val (.long p5), .second, .val (.int (2 : Int32)), .val (.long vx), .second, .val (.long vy), .second, .unset, .unset, .unset, .unset] [(.long p3)]))
    refine own_step (fun t k => X0.ldc2Long hx hown (mvT hZ w0) (g := (mkF m 22 #[.val (.long p1), .second, .val (.long p2), .second, .val (.long p3), .second, .val (.int p4), .val (.long p5), .second, .val (.int (2 : Int32)), .val (.long vx), .second, .val (.long vy), .second, .unset, .unset, .unset, .unset] [(.long p3)])) rfl (hb hby at_22) _ k) ?_
    show own_Goes p e below _ (s₁.setTop (mkF m 25 #[.val (.long p1), .second, .val (.long p2), .second, .val (.long p3), .second, .val (.int p4), .val (.long p5), .second, .val (.int (2 : Int32)), .val (.long vx), .second, .val (.long vy), .second, .unset, .unset, .unset, .unset] [(.long (9223372036854775807 : Int64)), (.long p3)]))
    refine own_step (fun t k => XS.land X0.here hx rfl (hb hby at_25) rfl k) ?_
    show own_Goes p e below _ (s₁.setTop (mkF m 26 #[.val (.long p1), .second, .val (.long p2), .second, .val (.long p3), .second, .val (.int p4), .val (.long p5), .second, .val (.int (2 : Int32)), .val (.long vx), .second, .val (.long vy), .second, .unset, .unset, .unset, .unset] [(.long (p3 &&& (9223372036854775807 : Int64)))]))
    refine own_step (fun t k => XS.lstore X0.here hx rfl (hb hby at_26) rfl (l' := #[.val (.long p1), .second, .val (.long p2), .second, .val (.long p3), .second, .val (.int p4), .val (.long p5), .second, .val (.int (2 : Int32)), .val (.long vx), .second, .val (.long vy), .second, .val (.long (p3 &&& (9223372036854775807 : Int64))), .second, .unset, .unset]) rfl k) ?_
    show own_Goes p e below _ (s₁.setTop (mkF m 28 #[.val (.long p1), .second, .val (.long p2), .second, .val (.long p3), .second, .val (.int p4), .val (.long p5), .second, .val (.int (2 : Int32)), .val (.long vx), .second, .val (.long vy), .second, .val (.long (p3 &&& (9223372036854775807 : Int64))), .second, .unset, .unset] []))
    generalize hv_vz : (p3 &&& (9223372036854775807 : Int64)) = vz
    obtain ⟨T132, h132, X132, e132, E132, A132, D132, -, st132⟩ := newO X0 hx hZ hown w1 w2 w3 e0 (g := (mkF m 28 #[.val (.long p1), .second, .val (.long p2), .second, .val (.long p3), .second, .val (.int p4), .val (.long p5), .second, .val (.int (2 : Int32)), .val (.long vx), .second, .val (.long vy), .second, .val (.long vz), .second, .unset, .unset] [])) rfl (hb hby at_28) (by decide) (by decide)
    obtain ⟨b132, g132⟩ : ∃ z, z = h0.size := ⟨_, rfl⟩
    rw [← g132] at A132 D132 st132
    have g_b132 : n0 ≤ b132 := Nat.le_trans Z0 (Nat.le_of_eq g132.symm)
    have sz_b132 : h0.size ≤ b132 := Nat.le_trans K0.1 (Nat.le_of_eq g132.symm)
    have K133 : Keep h0 h132 [] := K0.ext E132
    have F_nanos_b132 : Fld Z h132 b132 "com/example/battlement/battlement/bench/Timings" "nanos" "[J" .null := D132 (Or.inl w12) (ty := (.array .long)) (by decide)
    have F_count_b132 : Fld Z h132 b132 "com/example/battlement/battlement/bench/Timings" "count" "I" (.int (0 : Int32)) := D132 (Or.inl w19) (ty := .int) (by decide)
    refine own_step st132 ?_
    show own_Goes p e below _ (T132.setTop (mkF m 31 #[.val (.long p1), .second, .val (.long p2), .second, .val (.long p3), .second, .val (.int p4), .val (.long p5), .second, .val (.int (2 : Int32)), .val (.long vx), .second, .val (.long vy), .second, .val (.long vz), .second, .unset, .unset] [(.ref b132)]))
    refine own_step (fun t k => XS.dup X132.here hx rfl (hb hby at_31) rfl rfl k) ?_
    show own_Goes p e below _ (T132.setTop (mkF m 32 #[.val (.long p1), .second, .val (.long p2), .second, .val (.long p3), .second, .val (.int p4), .val (.long p5), .second, .val (.int (2 : Int32)), .val (.long vx), .second, .val (.long vy), .second, .val (.long vz), .second, .unset, .unset] [(.ref b132), (.ref b132)]))
    obtain ⟨_, _, ⟨T134, L134, k134, n134⟩, -, X134, ⟨Lc134, hQ134, l134, y134, z134⟩, st134⟩ := X132.specialBack hx (y := (⟨"com/example/battlement/battlement/bench/Timings", "<init>", "()V"⟩ : MethodName)) rfl hown (mvT hZ w4) (mvT hZ w5) (mvT hZ w6) (by decide) (backOf (W := 1) (own_b1 l Z a0 hw [] b132 (.null) h132 n0 (Nat.le_trans Z0 E132.1) A132 g_b132 F_nanos_b132 F_count_b132) hZ w6 w3 (by decide) (by decide)) (g := (mkF m 32 #[.val (.long p1), .second, .val (.long p2), .second, .val (.long p3), .second, .val (.int p4), .val (.long p5), .second, .val (.int (2 : Int32)), .val (.long vx), .second, .val (.long vy), .second, .val (.long vz), .second, .unset, .unset] [(.ref b132), (.ref b132)])) rfl (by rw [hml]; rfl) (Steps.refl _) (a := b132) (argsL := []) (rest := [(.ref b132)]) (lenOf own_pd0 rfl) rfl (by show 2 * 0 + _ ≤ _; exact Nat.le_of_eq rfl) (hb hby at_32) (fun _ _ => ⟨rfl, e132, (by decide : 1 + 1 ≤ _), (by decide : 2 + 64 ≤ _)⟩)
    dsimp only [Pt.U, Pt.locs, Pt.cells, Pt.slots] at X134 l134 y134 z134 st134 hQ134
    subst l134 y134 z134
    obtain ⟨bb_134, kk_134, rfl, N134q, K134c, f134_0, f134_1, f134_2, f134_3, f134_4⟩ := hQ134
    have N134 := Fr.app N0 N134q
    refine own_jump st134 ?_
    have K135 : Keep h0 T134.heap [] := K133.trans K134c (allS (Or.inr sz_b132) all0)
    have sz_bb_134 : h0.size ≤ bb_134 := Nat.le_trans K133.1 f134_0
    have g_bb_134 : n0 ≤ bb_134 := Nat.le_trans Z0 sz_bb_134
    have ne_b132_bb_134 : b132 ≠ bb_134 := Nat.ne_of_lt (Nat.lt_of_lt_of_le A132.lt f134_0)
    show own_Goes p e below _ (T134.setTop (mkF m 35 #[.val (.long p1), .second, .val (.long p2), .second, .val (.long p3), .second, .val (.int p4), .val (.long p5), .second, .val (.int (2 : Int32)), .val (.long vx), .second, .val (.long vy), .second, .val (.long vz), .second, .unset, .unset] [(.ref b132)]))
    refine own_step (fun t k => XS.astore X134.here hx rfl (hb hby at_35) rfl rfl (l' := #[.val (.long p1), .second, .val (.long p2), .second, .val (.long p3), .second, .val (.int p4), .val (.long p5), .second, .val (.int (2 : Int32)), .val (.long vx), .second, .val (.long vy), .second, .val (.long vz), .second, .val (.ref b132), .unset]) rfl k) ?_
    show own_Goes p e below _ (T134.setTop (mkF m 37 #[.val (.long p1), .second, .val (.long p2), .second, .val (.long p3), .second, .val (.int p4), .val (.long p5), .second, .val (.int (2 : Int32)), .val (.long vx), .second, .val (.long vy), .second, .val (.long vz), .second, .val (.ref b132), .unset] []))
    refine own_step (fun t k => XS.iload X134.here hx rfl (hb hby at_37) rfl k) ?_
    show own_Goes p e below _ (T134.setTop (mkF m 39 #[.val (.long p1), .second, .val (.long p2), .second, .val (.long p3), .second, .val (.int p4), .val (.long p5), .second, .val (.int (2 : Int32)), .val (.long vx), .second, .val (.long vy), .second, .val (.long vz), .second, .val (.ref b132), .unset] [(.int (2 : Int32))]))
    refine own_step (fun t k => XS.iconst X134.here hx rfl (hb hby at_39) k) ?_
    show own_Goes p e below _ (T134.setTop (mkF m 40 #[.val (.long p1), .second, .val (.long p2), .second, .val (.long p3), .second, .val (.int p4), .val (.long p5), .second, .val (.int (2 : Int32)), .val (.long vx), .second, .val (.long vy), .second, .val (.long vz), .second, .val (.ref b132), .unset] [(.int (1 : Int32)), (.int (2 : Int32))]))
    have hc136 : ¬ ((2 : Int32) < (1 : Int32)) := by decide
    refine own_step (fun t k => XS.icmpNo X134.here hx rfl (hb hby at_40) rfl (flt hc136).1 k) ?_
    show own_Goes p e below _ (T134.setTop (mkF m 43 #[.val (.long p1), .second, .val (.long p2), .second, .val (.long p3), .second, .val (.int p4), .val (.long p5), .second, .val (.int (2 : Int32)), .val (.long vx), .second, .val (.long vy), .second, .val (.long vz), .second, .val (.ref b132), .unset] []))
    refine own_step (fun t k => XS.aload X134.here hx rfl (hb hby at_43) rfl rfl k) ?_
    show own_Goes p e below _ (T134.setTop (mkF m 45 #[.val (.long p1), .second, .val (.long p2), .second, .val (.long p3), .second, .val (.int p4), .val (.long p5), .second, .val (.int (2 : Int32)), .val (.long vx), .second, .val (.long vy), .second, .val (.long vz), .second, .val (.ref b132), .unset] [(.ref b132)]))
    refine own_step (fun t k => XS.lload X134.here hx rfl (hb hby at_45) rfl k) ?_
    show own_Goes p e below _ (T134.setTop (mkF m 47 #[.val (.long p1), .second, .val (.long p2), .second, .val (.long p3), .second, .val (.int p4), .val (.long p5), .second, .val (.int (2 : Int32)), .val (.long vx), .second, .val (.long vy), .second, .val (.long vz), .second, .val (.ref b132), .unset] [(.long vx), (.ref b132)]))
    obtain ⟨cq137, kq137, q137a, q137b, q137c⟩ := isOf hZ rfl f134_1
    obtain ⟨_, _, ⟨T137, L137, k137, n137⟩, -, X137, ⟨Lc137, hQ137, l137, y137, z137⟩, st137⟩ := X134.virtualBack hx (y := (⟨"com/example/battlement/battlement/bench/Timings", "add", "(J)V"⟩ : MethodName)) (z := (⟨"com/example/battlement/battlement/bench/Timings", "add", "(J)V"⟩ : MethodName)) hown (mvT hZ w13) (mvT hZ w14) (notFace_of_selects (args := #[]) (mvT hZ w16)) (mvT hZ w16) (mvT hZ w15) (by decide) (backOf (W := 0) (own_b2 l Z a0 hw [] b132 vx ((0 : Int32)) (bb_134) (kk_134) ((List.replicate 64 (0 : Int64))) T134.heap n0 (Nat.le_trans (Nat.le_trans Z0 E132.1) K134c.1) f134_1 g_b132 f134_3 f134_2 f134_4 g_bb_134 ne_b132_bb_134 (own_pos hv_vx) (by decide) (by decide) (by simp only [List.length_set, List.length_replicate]; decide)) hZ w17 w3 (by decide) (by decide)) q137a q137c (g := (mkF m 47 #[.val (.long p1), .second, .val (.long p2), .second, .val (.long p3), .second, .val (.int p4), .val (.long p5), .second, .val (.int (2 : Int32)), .val (.long vx), .second, .val (.long vy), .second, .val (.long vz), .second, .val (.ref b132), .unset] [(.long vx), (.ref b132)])) rfl (by rw [hml]; rfl) (Steps.refl _) (argsL := [(.long vx)]) (rest := []) (lenOf own_pd3 rfl) rfl (by show 2 * 0 + _ ≤ _; exact Nat.le_of_eq rfl) (hb hby at_47) (fun _ _ => ⟨rfl, rfl, (by decide : 2 + 0 ≤ _), (by decide : 66 + 0 ≤ _)⟩)
    dsimp only [Pt.U, Pt.locs, Pt.cells, Pt.slots] at X137 l137 y137 z137 st137 hQ137
    subst l137 y137 z137
    obtain ⟨rfl, N137q, K137c, f137_0, f137_1, f137_2, f137_3⟩ := hQ137
    have N137 := Fr.app N134 N137q
    refine own_jump st137 ?_
    have K138 : Keep h0 T137.heap [] := K135.trans K137c (allS (Or.inr sz_b132) (allS (Or.inr sz_bb_134) all0))
    show own_Goes p e below _ (T137.setTop (mkF m 50 #[.val (.long p1), .second, .val (.long p2), .second, .val (.long p3), .second, .val (.int p4), .val (.long p5), .second, .val (.int (2 : Int32)), .val (.long vx), .second, .val (.long vy), .second, .val (.long vz), .second, .val (.ref b132), .unset] []))
    have fc139 : Fld Z T137.heap b132 "com/example/battlement/battlement/bench/Timings" "count" "I" (.int (1 : Int32)) := f137_1
    refine own_step (fun t k => XS.iload X137.here hx rfl (hb hby at_50) rfl k) ?_
    show own_Goes p e below _ (T137.setTop (mkF m 52 #[.val (.long p1), .second, .val (.long p2), .second, .val (.long p3), .second, .val (.int p4), .val (.long p5), .second, .val (.int (2 : Int32)), .val (.long vx), .second, .val (.long vy), .second, .val (.long vz), .second, .val (.ref b132), .unset] [(.int (2 : Int32))]))
    refine own_step (fun t k => XS.iconst X137.here hx rfl (hb hby at_52) k) ?_
    show own_Goes p e below _ (T137.setTop (mkF m 53 #[.val (.long p1), .second, .val (.long p2), .second, .val (.long p3), .second, .val (.int p4), .val (.long p5), .second, .val (.int (2 : Int32)), .val (.long vx), .second, .val (.long vy), .second, .val (.long vz), .second, .val (.ref b132), .unset] [(.int (2 : Int32)), (.int (2 : Int32))]))
    have hc140 : ¬ ((2 : Int32) < (2 : Int32)) := by decide
    refine own_step (fun t k => XS.icmpNo X137.here hx rfl (hb hby at_53) rfl (flt hc140).1 k) ?_
    show own_Goes p e below _ (T137.setTop (mkF m 56 #[.val (.long p1), .second, .val (.long p2), .second, .val (.long p3), .second, .val (.int p4), .val (.long p5), .second, .val (.int (2 : Int32)), .val (.long vx), .second, .val (.long vy), .second, .val (.long vz), .second, .val (.ref b132), .unset] []))
    refine own_step (fun t k => XS.aload X137.here hx rfl (hb hby at_56) rfl rfl k) ?_
    show own_Goes p e below _ (T137.setTop (mkF m 58 #[.val (.long p1), .second, .val (.long p2), .second, .val (.long p3), .second, .val (.int p4), .val (.long p5), .second, .val (.int (2 : Int32)), .val (.long vx), .second, .val (.long vy), .second, .val (.long vz), .second, .val (.ref b132), .unset] [(.ref b132)]))
    refine own_step (fun t k => XS.lload X137.here hx rfl (hb hby at_58) rfl k) ?_
    show own_Goes p e below _ (T137.setTop (mkF m 60 #[.val (.long p1), .second, .val (.long p2), .second, .val (.long p3), .second, .val (.int p4), .val (.long p5), .second, .val (.int (2 : Int32)), .val (.long vx), .second, .val (.long vy), .second, .val (.long vz), .second, .val (.ref b132), .unset] [(.long vy), (.ref b132)]))
    obtain ⟨cq141, kq141, q141a, q141b, q141c⟩ := isOf hZ rfl f137_0
    obtain ⟨_, _, ⟨T141, L141, k141, n141⟩, -, X141, ⟨Lc141, hQ141, l141, y141, z141⟩, st141⟩ := X137.virtualBack hx (y := (⟨"com/example/battlement/battlement/bench/Timings", "add", "(J)V"⟩ : MethodName)) (z := (⟨"com/example/battlement/battlement/bench/Timings", "add", "(J)V"⟩ : MethodName)) hown (mvT hZ w13) (mvT hZ w14) (notFace_of_selects (args := #[]) (mvT hZ w16)) (mvT hZ w16) (mvT hZ w15) (by decide) (backOf (W := 0) (own_b2 l Z a0 hw [] b132 vy ((1 : Int32)) (bb_134) (kk_134) (((List.replicate 64 (0 : Int64)).set ((0 : Int32).toNatClampNeg) vx)) T137.heap n0 (Nat.le_trans (Nat.le_trans (Nat.le_trans Z0 E132.1) K134c.1) K137c.1) f137_0 g_b132 fc139 f137_2 f137_3 g_bb_134 ne_b132_bb_134 (own_pos hv_vy) (by decide) (by decide) (by simp only [List.length_set, List.length_replicate]; decide)) hZ w17 w3 (by decide) (by decide)) q141a q141c (g := (mkF m 60 #[.val (.long p1), .second, .val (.long p2), .second, .val (.long p3), .second, .val (.int p4), .val (.long p5), .second, .val (.int (2 : Int32)), .val (.long vx), .second, .val (.long vy), .second, .val (.long vz), .second, .val (.ref b132), .unset] [(.long vy), (.ref b132)])) rfl (by rw [hml]; rfl) (Steps.refl _) (argsL := [(.long vy)]) (rest := []) (lenOf own_pd3 rfl) rfl (by show 2 * 0 + _ ≤ _; exact Nat.le_of_eq rfl) (hb hby at_60) (fun _ _ => ⟨rfl, rfl, (by decide : 2 + 0 ≤ _), (by decide : 66 + 0 ≤ _)⟩)
    dsimp only [Pt.U, Pt.locs, Pt.cells, Pt.slots] at X141 l141 y141 z141 st141 hQ141
    subst l141 y141 z141
    obtain ⟨rfl, N141q, K141c, f141_0, f141_1, f141_2, f141_3⟩ := hQ141
    have N141 := Fr.app N137 N141q
    refine own_jump st141 ?_
    have K142 : Keep h0 T141.heap [] := K138.trans K141c (allS (Or.inr sz_b132) (allS (Or.inr sz_bb_134) all0))
    show own_Goes p e below _ (T141.setTop (mkF m 63 #[.val (.long p1), .second, .val (.long p2), .second, .val (.long p3), .second, .val (.int p4), .val (.long p5), .second, .val (.int (2 : Int32)), .val (.long vx), .second, .val (.long vy), .second, .val (.long vz), .second, .val (.ref b132), .unset] []))
    have fc143 : Fld Z T141.heap b132 "com/example/battlement/battlement/bench/Timings" "count" "I" (.int (2 : Int32)) := f141_1
    refine own_step (fun t k => XS.iload X141.here hx rfl (hb hby at_63) rfl k) ?_
    show own_Goes p e below _ (T141.setTop (mkF m 65 #[.val (.long p1), .second, .val (.long p2), .second, .val (.long p3), .second, .val (.int p4), .val (.long p5), .second, .val (.int (2 : Int32)), .val (.long vx), .second, .val (.long vy), .second, .val (.long vz), .second, .val (.ref b132), .unset] [(.int (2 : Int32))]))
    refine own_step (fun t k => XS.iconst X141.here hx rfl (hb hby at_65) k) ?_
    show own_Goes p e below _ (T141.setTop (mkF m 66 #[.val (.long p1), .second, .val (.long p2), .second, .val (.long p3), .second, .val (.int p4), .val (.long p5), .second, .val (.int (2 : Int32)), .val (.long vx), .second, .val (.long vy), .second, .val (.long vz), .second, .val (.ref b132), .unset] [(.int (3 : Int32)), (.int (2 : Int32))]))
    have hc144 : (2 : Int32) < (3 : Int32) := by decide
    refine own_step (fun t k => XS.icmpYes X141.here hx rfl (pc0 := 66) (pc' := 76) rfl (hb hby at_66) rfl (tlt hc144).1 (by decide) (by decide) k) ?_
    show own_Goes p e below _ (T141.setTop (mkF m 76 #[.val (.long p1), .second, .val (.long p2), .second, .val (.long p3), .second, .val (.int p4), .val (.long p5), .second, .val (.int (2 : Int32)), .val (.long vx), .second, .val (.long vy), .second, .val (.long vz), .second, .val (.ref b132), .unset] []))
    refine own_step (fun t k => XS.iload X141.here hx rfl (hb hby at_76) rfl k) ?_
    show own_Goes p e below _ (T141.setTop (mkF m 78 #[.val (.long p1), .second, .val (.long p2), .second, .val (.long p3), .second, .val (.int p4), .val (.long p5), .second, .val (.int (2 : Int32)), .val (.long vx), .second, .val (.long vy), .second, .val (.long vz), .second, .val (.ref b132), .unset] [(.int (2 : Int32))]))
    refine own_step (fun t k => XS.iconst X141.here hx rfl (hb hby at_78) k) ?_
    show own_Goes p e below _ (T141.setTop (mkF m 79 #[.val (.long p1), .second, .val (.long p2), .second, .val (.long p3), .second, .val (.int p4), .val (.long p5), .second, .val (.int (2 : Int32)), .val (.long vx), .second, .val (.long vy), .second, .val (.long vz), .second, .val (.ref b132), .unset] [(.int (1 : Int32)), (.int (2 : Int32))]))
    have hc145 : ¬ ((2 : Int32) < (1 : Int32)) := by decide
    refine own_step (fun t k => XS.icmpNo X141.here hx rfl (hb hby at_79) rfl (flt hc145).1 k) ?_
    show own_Goes p e below _ (T141.setTop (mkF m 82 #[.val (.long p1), .second, .val (.long p2), .second, .val (.long p3), .second, .val (.int p4), .val (.long p5), .second, .val (.int (2 : Int32)), .val (.long vx), .second, .val (.long vy), .second, .val (.long vz), .second, .val (.ref b132), .unset] []))
    refine own_step (fun t k => XS.iconst X141.here hx rfl (hb hby at_82) k) ?_
    show own_Goes p e below _ (T141.setTop (mkF m 83 #[.val (.long p1), .second, .val (.long p2), .second, .val (.long p3), .second, .val (.int p4), .val (.long p5), .second, .val (.int (2 : Int32)), .val (.long vx), .second, .val (.long vy), .second, .val (.long vz), .second, .val (.ref b132), .unset] [(.int (1 : Int32))]))
    refine own_step (fun t k => XS.goto X141.here hx rfl (pc0 := 83) (pc' := 87) rfl (hb hby at_83) (by decide) (by decide) k) ?_
    show own_Goes p e below _ (T141.setTop (mkF m 87 #[.val (.long p1), .second, .val (.long p2), .second, .val (.long p3), .second, .val (.int p4), .val (.long p5), .second, .val (.int (2 : Int32)), .val (.long vx), .second, .val (.long vy), .second, .val (.long vz), .second, .val (.ref b132), .unset] [(.int (1 : Int32))]))
    refine own_step (fun t k => XS.lload X141.here hx rfl (hb hby at_87) rfl k) ?_
    show own_Goes p e below _ (T141.setTop (mkF m 89 #[.val (.long p1), .second, .val (.long p2), .second, .val (.long p3), .second, .val (.int p4), .val (.long p5), .second, .val (.int (2 : Int32)), .val (.long vx), .second, .val (.long vy), .second, .val (.long vz), .second, .val (.ref b132), .unset] [(.long vx), (.int (1 : Int32))]))
    refine own_step (fun t k => XS.lload X141.here hx rfl (hb hby at_89) rfl k) ?_
    show own_Goes p e below _ (T141.setTop (mkF m 91 #[.val (.long p1), .second, .val (.long p2), .second, .val (.long p3), .second, .val (.int p4), .val (.long p5), .second, .val (.int (2 : Int32)), .val (.long vx), .second, .val (.long vy), .second, .val (.long vz), .second, .val (.ref b132), .unset] [(.long p5), (.long vx), (.int (1 : Int32))]))
    obtain ⟨_, _, ⟨T146, L146, k146, n146⟩, -, X146, ⟨Lc146, hQ146, l146, y146, z146⟩, st146⟩ := Jvm.LawKit.callS X141 hx (y := (⟨"com/example/battlement/battlement/bench/TimingsOverPinLaw", "exceeds", "(ZJJ)I"⟩ : MethodName)) hown (mvT hZ w20) (mvT hZ w21) (mvT hZ w22) (mvT hZ w23) (by decide) (backOf (W := 0) (own_b3 l Z a0 hw [] (1 : Int32) vx p5  T141.heap n0 (Nat.le_trans (Nat.le_trans (Nat.le_trans (Nat.le_trans Z0 E132.1) K134c.1) K137c.1) K141c.1) ) hZ w23 w22 (by decide) (by decide)) (g := (mkF m 91 #[.val (.long p1), .second, .val (.long p2), .second, .val (.long p3), .second, .val (.int p4), .val (.long p5), .second, .val (.int (2 : Int32)), .val (.long vx), .second, .val (.long vy), .second, .val (.long vz), .second, .val (.ref b132), .unset] [(.long p5), (.long vx), (.int (1 : Int32))])) rfl (by rw [hml]; rfl) (argsL := [(.int (1 : Int32)), (.long vx), (.long p5)]) (rest := []) (lenOf own_pd1 rfl) rfl (by show 2 * 0 + _ ≤ _; exact Nat.le_of_eq rfl) (hb hby at_91) (fun _ _ => ⟨rfl, rfl, (by decide : 2 + 0 ≤ _), (by decide : 66 + 0 ≤ _)⟩)
    dsimp only [Pt.U, Pt.locs, Pt.cells, Pt.slots] at X146 l146 y146 z146 st146 hQ146
    subst l146 y146 z146
    obtain ⟨rfl, N146q, eh146⟩ := hQ146
    have N146 := Fr.app N141 N146q
    refine own_step st146 ?_
    show own_Goes p e below _ (T146.setTop (mkF m 94 #[.val (.long p1), .second, .val (.long p2), .second, .val (.long p3), .second, .val (.int p4), .val (.long p5), .second, .val (.int (2 : Int32)), .val (.long vx), .second, .val (.long vy), .second, .val (.long vz), .second, .val (.ref b132), .unset] [(.int (if (1 : Int32) = (0 : Int32) then (0 : Int32) else (if p5 < vx then (1 : Int32) else (0 : Int32))))]))
    refine own_step (fun t k => XS.iload X146.here hx rfl (hb hby at_94) rfl k) ?_
    show own_Goes p e below _ (T146.setTop (mkF m 96 #[.val (.long p1), .second, .val (.long p2), .second, .val (.long p3), .second, .val (.int p4), .val (.long p5), .second, .val (.int (2 : Int32)), .val (.long vx), .second, .val (.long vy), .second, .val (.long vz), .second, .val (.ref b132), .unset] [(.int (2 : Int32)), (.int (if (1 : Int32) = (0 : Int32) then (0 : Int32) else (if p5 < vx then (1 : Int32) else (0 : Int32))))]))
    refine own_step (fun t k => XS.iconst X146.here hx rfl (hb hby at_96) k) ?_
    show own_Goes p e below _ (T146.setTop (mkF m 97 #[.val (.long p1), .second, .val (.long p2), .second, .val (.long p3), .second, .val (.int p4), .val (.long p5), .second, .val (.int (2 : Int32)), .val (.long vx), .second, .val (.long vy), .second, .val (.long vz), .second, .val (.ref b132), .unset] [(.int (2 : Int32)), (.int (2 : Int32)), (.int (if (1 : Int32) = (0 : Int32) then (0 : Int32) else (if p5 < vx then (1 : Int32) else (0 : Int32))))]))
    have hc147 : ¬ ((2 : Int32) < (2 : Int32)) := by decide
    refine own_step (fun t k => XS.icmpNo X146.here hx rfl (hb hby at_97) rfl (flt hc147).1 k) ?_
    show own_Goes p e below _ (T146.setTop (mkF m 100 #[.val (.long p1), .second, .val (.long p2), .second, .val (.long p3), .second, .val (.int p4), .val (.long p5), .second, .val (.int (2 : Int32)), .val (.long vx), .second, .val (.long vy), .second, .val (.long vz), .second, .val (.ref b132), .unset] [(.int (if (1 : Int32) = (0 : Int32) then (0 : Int32) else (if p5 < vx then (1 : Int32) else (0 : Int32))))]))
    refine own_step (fun t k => XS.iconst X146.here hx rfl (hb hby at_100) k) ?_
    show own_Goes p e below _ (T146.setTop (mkF m 101 #[.val (.long p1), .second, .val (.long p2), .second, .val (.long p3), .second, .val (.int p4), .val (.long p5), .second, .val (.int (2 : Int32)), .val (.long vx), .second, .val (.long vy), .second, .val (.long vz), .second, .val (.ref b132), .unset] [(.int (1 : Int32)), (.int (if (1 : Int32) = (0 : Int32) then (0 : Int32) else (if p5 < vx then (1 : Int32) else (0 : Int32))))]))
    refine own_step (fun t k => XS.goto X146.here hx rfl (pc0 := 101) (pc' := 105) rfl (hb hby at_101) (by decide) (by decide) k) ?_
    show own_Goes p e below _ (T146.setTop (mkF m 105 #[.val (.long p1), .second, .val (.long p2), .second, .val (.long p3), .second, .val (.int p4), .val (.long p5), .second, .val (.int (2 : Int32)), .val (.long vx), .second, .val (.long vy), .second, .val (.long vz), .second, .val (.ref b132), .unset] [(.int (1 : Int32)), (.int (if (1 : Int32) = (0 : Int32) then (0 : Int32) else (if p5 < vx then (1 : Int32) else (0 : Int32))))]))
    refine own_step (fun t k => XS.lload X146.here hx rfl (hb hby at_105) rfl k) ?_
    show own_Goes p e below _ (T146.setTop (mkF m 107 #[.val (.long p1), .second, .val (.long p2), .second, .val (.long p3), .second, .val (.int p4), .val (.long p5), .second, .val (.int (2 : Int32)), .val (.long vx), .second, .val (.long vy), .second, .val (.long vz), .second, .val (.ref b132), .unset] [(.long vy), (.int (1 : Int32)), (.int (if (1 : Int32) = (0 : Int32) then (0 : Int32) else (if p5 < vx then (1 : Int32) else (0 : Int32))))]))
    refine own_step (fun t k => XS.lload X146.here hx rfl (hb hby at_107) rfl k) ?_
    show own_Goes p e below _ (T146.setTop (mkF m 109 #[.val (.long p1), .second, .val (.long p2), .second, .val (.long p3), .second, .val (.int p4), .val (.long p5), .second, .val (.int (2 : Int32)), .val (.long vx), .second, .val (.long vy), .second, .val (.long vz), .second, .val (.ref b132), .unset] [(.long p5), (.long vy), (.int (1 : Int32)), (.int (if (1 : Int32) = (0 : Int32) then (0 : Int32) else (if p5 < vx then (1 : Int32) else (0 : Int32))))]))
    obtain ⟨_, _, ⟨T148, L148, k148, n148⟩, -, X148, ⟨Lc148, hQ148, l148, y148, z148⟩, st148⟩ := Jvm.LawKit.callS X146 hx (y := (⟨"com/example/battlement/battlement/bench/TimingsOverPinLaw", "exceeds", "(ZJJ)I"⟩ : MethodName)) hown (mvT hZ w20) (mvT hZ w21) (mvT hZ w22) (mvT hZ w23) (by decide) (backOf (W := 1) (own_b3 l Z a0 hw [] (1 : Int32) vy p5  T141.heap n0 (Nat.le_trans (Nat.le_trans (Nat.le_trans (Nat.le_trans Z0 E132.1) K134c.1) K137c.1) K141c.1) ) hZ w23 w22 (by decide) (by decide)) (g := (mkF m 109 #[.val (.long p1), .second, .val (.long p2), .second, .val (.long p3), .second, .val (.int p4), .val (.long p5), .second, .val (.int (2 : Int32)), .val (.long vx), .second, .val (.long vy), .second, .val (.long vz), .second, .val (.ref b132), .unset] [(.long p5), (.long vy), (.int (1 : Int32)), (.int (if (1 : Int32) = (0 : Int32) then (0 : Int32) else (if p5 < vx then (1 : Int32) else (0 : Int32))))])) rfl (by rw [hml]; rfl) (argsL := [(.int (1 : Int32)), (.long vy), (.long p5)]) (rest := [(.int (if (1 : Int32) = (0 : Int32) then (0 : Int32) else (if p5 < vx then (1 : Int32) else (0 : Int32))))]) (lenOf own_pd1 rfl) rfl (by show 2 * 0 + _ ≤ _; exact Nat.le_of_eq rfl) (hb hby at_109) (fun _ _ => ⟨rfl, eh146, (by decide : 2 + 0 ≤ _), (by decide : 66 + 0 ≤ _)⟩)
    dsimp only [Pt.U, Pt.locs, Pt.cells, Pt.slots] at X148 l148 y148 z148 st148 hQ148
    subst l148 y148 z148
    obtain ⟨rfl, N148q, eh148⟩ := hQ148
    have N148 := Fr.app N146 N148q
    refine own_step st148 ?_
    show own_Goes p e below _ (T148.setTop (mkF m 112 #[.val (.long p1), .second, .val (.long p2), .second, .val (.long p3), .second, .val (.int p4), .val (.long p5), .second, .val (.int (2 : Int32)), .val (.long vx), .second, .val (.long vy), .second, .val (.long vz), .second, .val (.ref b132), .unset] [(.int (if (1 : Int32) = (0 : Int32) then (0 : Int32) else (if p5 < vy then (1 : Int32) else (0 : Int32)))), (.int (if (1 : Int32) = (0 : Int32) then (0 : Int32) else (if p5 < vx then (1 : Int32) else (0 : Int32))))]))
    refine own_step (fun t k => XS.iadd X148.here hx rfl (hb hby at_112) rfl k) ?_
    show own_Goes p e below _ (T148.setTop (mkF m 113 #[.val (.long p1), .second, .val (.long p2), .second, .val (.long p3), .second, .val (.int p4), .val (.long p5), .second, .val (.int (2 : Int32)), .val (.long vx), .second, .val (.long vy), .second, .val (.long vz), .second, .val (.ref b132), .unset] [(.int ((if (1 : Int32) = (0 : Int32) then (0 : Int32) else (if p5 < vx then (1 : Int32) else (0 : Int32))) + (if (1 : Int32) = (0 : Int32) then (0 : Int32) else (if p5 < vy then (1 : Int32) else (0 : Int32)))))]))
    refine own_step (fun t k => XS.iload X148.here hx rfl (hb hby at_113) rfl k) ?_
    show own_Goes p e below _ (T148.setTop (mkF m 115 #[.val (.long p1), .second, .val (.long p2), .second, .val (.long p3), .second, .val (.int p4), .val (.long p5), .second, .val (.int (2 : Int32)), .val (.long vx), .second, .val (.long vy), .second, .val (.long vz), .second, .val (.ref b132), .unset] [(.int (2 : Int32)), (.int ((if (1 : Int32) = (0 : Int32) then (0 : Int32) else (if p5 < vx then (1 : Int32) else (0 : Int32))) + (if (1 : Int32) = (0 : Int32) then (0 : Int32) else (if p5 < vy then (1 : Int32) else (0 : Int32)))))]))
    refine own_step (fun t k => XS.iconst X148.here hx rfl (hb hby at_115) k) ?_
    show own_Goes p e below _ (T148.setTop (mkF m 116 #[.val (.long p1), .second, .val (.long p2), .second, .val (.long p3), .second, .val (.int p4), .val (.long p5), .second, .val (.int (2 : Int32)), .val (.long vx), .second, .val (.long vy), .second, .val (.long vz), .second, .val (.ref b132), .unset] [(.int (3 : Int32)), (.int (2 : Int32)), (.int ((if (1 : Int32) = (0 : Int32) then (0 : Int32) else (if p5 < vx then (1 : Int32) else (0 : Int32))) + (if (1 : Int32) = (0 : Int32) then (0 : Int32) else (if p5 < vy then (1 : Int32) else (0 : Int32)))))]))
    have hc149 : (2 : Int32) < (3 : Int32) := by decide
    refine own_step (fun t k => XS.icmpYes X148.here hx rfl (pc0 := 116) (pc' := 123) rfl (hb hby at_116) rfl (tlt hc149).1 (by decide) (by decide) k) ?_
    show own_Goes p e below _ (T148.setTop (mkF m 123 #[.val (.long p1), .second, .val (.long p2), .second, .val (.long p3), .second, .val (.int p4), .val (.long p5), .second, .val (.int (2 : Int32)), .val (.long vx), .second, .val (.long vy), .second, .val (.long vz), .second, .val (.ref b132), .unset] [(.int ((if (1 : Int32) = (0 : Int32) then (0 : Int32) else (if p5 < vx then (1 : Int32) else (0 : Int32))) + (if (1 : Int32) = (0 : Int32) then (0 : Int32) else (if p5 < vy then (1 : Int32) else (0 : Int32)))))]))
    refine own_step (fun t k => XS.iconst X148.here hx rfl (hb hby at_123) k) ?_
    show own_Goes p e below _ (T148.setTop (mkF m 124 #[.val (.long p1), .second, .val (.long p2), .second, .val (.long p3), .second, .val (.int p4), .val (.long p5), .second, .val (.int (2 : Int32)), .val (.long vx), .second, .val (.long vy), .second, .val (.long vz), .second, .val (.ref b132), .unset] [(.int (0 : Int32)), (.int ((if (1 : Int32) = (0 : Int32) then (0 : Int32) else (if p5 < vx then (1 : Int32) else (0 : Int32))) + (if (1 : Int32) = (0 : Int32) then (0 : Int32) else (if p5 < vy then (1 : Int32) else (0 : Int32)))))]))
    refine own_step (fun t k => XS.lload X148.here hx rfl (hb hby at_124) rfl k) ?_
    show own_Goes p e below _ (T148.setTop (mkF m 126 #[.val (.long p1), .second, .val (.long p2), .second, .val (.long p3), .second, .val (.int p4), .val (.long p5), .second, .val (.int (2 : Int32)), .val (.long vx), .second, .val (.long vy), .second, .val (.long vz), .second, .val (.ref b132), .unset] [(.long vz), (.int (0 : Int32)), (.int ((if (1 : Int32) = (0 : Int32) then (0 : Int32) else (if p5 < vx then (1 : Int32) else (0 : Int32))) + (if (1 : Int32) = (0 : Int32) then (0 : Int32) else (if p5 < vy then (1 : Int32) else (0 : Int32)))))]))
    refine own_step (fun t k => XS.lload X148.here hx rfl (hb hby at_126) rfl k) ?_
    show own_Goes p e below _ (T148.setTop (mkF m 128 #[.val (.long p1), .second, .val (.long p2), .second, .val (.long p3), .second, .val (.int p4), .val (.long p5), .second, .val (.int (2 : Int32)), .val (.long vx), .second, .val (.long vy), .second, .val (.long vz), .second, .val (.ref b132), .unset] [(.long p5), (.long vz), (.int (0 : Int32)), (.int ((if (1 : Int32) = (0 : Int32) then (0 : Int32) else (if p5 < vx then (1 : Int32) else (0 : Int32))) + (if (1 : Int32) = (0 : Int32) then (0 : Int32) else (if p5 < vy then (1 : Int32) else (0 : Int32)))))]))
    obtain ⟨_, _, ⟨T150, L150, k150, n150⟩, -, X150, ⟨Lc150, hQ150, l150, y150, z150⟩, st150⟩ := Jvm.LawKit.callS X148 hx (y := (⟨"com/example/battlement/battlement/bench/TimingsOverPinLaw", "exceeds", "(ZJJ)I"⟩ : MethodName)) hown (mvT hZ w20) (mvT hZ w21) (mvT hZ w22) (mvT hZ w23) (by decide) (backOf (W := 1) (own_b3 l Z a0 hw [] (0 : Int32) vz p5  T141.heap n0 (Nat.le_trans (Nat.le_trans (Nat.le_trans (Nat.le_trans Z0 E132.1) K134c.1) K137c.1) K141c.1) ) hZ w23 w22 (by decide) (by decide)) (g := (mkF m 128 #[.val (.long p1), .second, .val (.long p2), .second, .val (.long p3), .second, .val (.int p4), .val (.long p5), .second, .val (.int (2 : Int32)), .val (.long vx), .second, .val (.long vy), .second, .val (.long vz), .second, .val (.ref b132), .unset] [(.long p5), (.long vz), (.int (0 : Int32)), (.int ((if (1 : Int32) = (0 : Int32) then (0 : Int32) else (if p5 < vx then (1 : Int32) else (0 : Int32))) + (if (1 : Int32) = (0 : Int32) then (0 : Int32) else (if p5 < vy then (1 : Int32) else (0 : Int32)))))])) rfl (by rw [hml]; rfl) (argsL := [(.int (0 : Int32)), (.long vz), (.long p5)]) (rest := [(.int ((if (1 : Int32) = (0 : Int32) then (0 : Int32) else (if p5 < vx then (1 : Int32) else (0 : Int32))) + (if (1 : Int32) = (0 : Int32) then (0 : Int32) else (if p5 < vy then (1 : Int32) else (0 : Int32)))))]) (lenOf own_pd1 rfl) rfl (by show 2 * 0 + _ ≤ _; exact Nat.le_of_eq rfl) (hb hby at_128) (fun _ _ => ⟨rfl, eh148, (by decide : 2 + 0 ≤ _), (by decide : 66 + 0 ≤ _)⟩)
    dsimp only [Pt.U, Pt.locs, Pt.cells, Pt.slots] at X150 l150 y150 z150 st150 hQ150
    subst l150 y150 z150
    obtain ⟨rfl, N150q, eh150⟩ := hQ150
    have N150 := Fr.app N148 N150q
    refine own_step st150 ?_
    show own_Goes p e below _ (T150.setTop (mkF m 131 #[.val (.long p1), .second, .val (.long p2), .second, .val (.long p3), .second, .val (.int p4), .val (.long p5), .second, .val (.int (2 : Int32)), .val (.long vx), .second, .val (.long vy), .second, .val (.long vz), .second, .val (.ref b132), .unset] [(.int (if (0 : Int32) = (0 : Int32) then (0 : Int32) else (if p5 < vz then (1 : Int32) else (0 : Int32)))), (.int ((if (1 : Int32) = (0 : Int32) then (0 : Int32) else (if p5 < vx then (1 : Int32) else (0 : Int32))) + (if (1 : Int32) = (0 : Int32) then (0 : Int32) else (if p5 < vy then (1 : Int32) else (0 : Int32)))))]))
    refine own_step (fun t k => XS.iadd X150.here hx rfl (hb hby at_131) rfl k) ?_
    show own_Goes p e below _ (T150.setTop (mkF m 132 #[.val (.long p1), .second, .val (.long p2), .second, .val (.long p3), .second, .val (.int p4), .val (.long p5), .second, .val (.int (2 : Int32)), .val (.long vx), .second, .val (.long vy), .second, .val (.long vz), .second, .val (.ref b132), .unset] [(.int (((if (1 : Int32) = (0 : Int32) then (0 : Int32) else (if p5 < vx then (1 : Int32) else (0 : Int32))) + (if (1 : Int32) = (0 : Int32) then (0 : Int32) else (if p5 < vy then (1 : Int32) else (0 : Int32)))) + (if (0 : Int32) = (0 : Int32) then (0 : Int32) else (if p5 < vz then (1 : Int32) else (0 : Int32)))))]))
    refine own_step (fun t k => XS.istore X150.here hx rfl (hb hby at_132) rfl (l' := #[.val (.long p1), .second, .val (.long p2), .second, .val (.long p3), .second, .val (.int p4), .val (.long p5), .second, .val (.int (2 : Int32)), .val (.long vx), .second, .val (.long vy), .second, .val (.long vz), .second, .val (.ref b132), .val (.int (((if (1 : Int32) = (0 : Int32) then (0 : Int32) else (if p5 < vx then (1 : Int32) else (0 : Int32))) + (if (1 : Int32) = (0 : Int32) then (0 : Int32) else (if p5 < vy then (1 : Int32) else (0 : Int32)))) + (if (0 : Int32) = (0 : Int32) then (0 : Int32) else (if p5 < vz then (1 : Int32) else (0 : Int32)))))]) rfl k) ?_
    show own_Goes p e below _ (T150.setTop (mkF m 134 #[.val (.long p1), .second, .val (.long p2), .second, .val (.long p3), .second, .val (.int p4), .val (.long p5), .second, .val (.int (2 : Int32)), .val (.long vx), .second, .val (.long vy), .second, .val (.long vz), .second, .val (.ref b132), .val (.int (((if (1 : Int32) = (0 : Int32) then (0 : Int32) else (if p5 < vx then (1 : Int32) else (0 : Int32))) + (if (1 : Int32) = (0 : Int32) then (0 : Int32) else (if p5 < vy then (1 : Int32) else (0 : Int32)))) + (if (0 : Int32) = (0 : Int32) then (0 : Int32) else (if p5 < vz then (1 : Int32) else (0 : Int32)))))] []))
    refine own_step (fun t k => XS.aload X150.here hx rfl (hb hby at_134) rfl rfl k) ?_
    show own_Goes p e below _ (T150.setTop (mkF m 136 #[.val (.long p1), .second, .val (.long p2), .second, .val (.long p3), .second, .val (.int p4), .val (.long p5), .second, .val (.int (2 : Int32)), .val (.long vx), .second, .val (.long vy), .second, .val (.long vz), .second, .val (.ref b132), .val (.int (((if (1 : Int32) = (0 : Int32) then (0 : Int32) else (if p5 < vx then (1 : Int32) else (0 : Int32))) + (if (1 : Int32) = (0 : Int32) then (0 : Int32) else (if p5 < vy then (1 : Int32) else (0 : Int32)))) + (if (0 : Int32) = (0 : Int32) then (0 : Int32) else (if p5 < vz then (1 : Int32) else (0 : Int32)))))] [(.ref b132)]))
    refine own_step (fun t k => XS.lload X150.here hx rfl (hb hby at_136) rfl k) ?_
    show own_Goes p e below _ (T150.setTop (mkF m 138 #[.val (.long p1), .second, .val (.long p2), .second, .val (.long p3), .second, .val (.int p4), .val (.long p5), .second, .val (.int (2 : Int32)), .val (.long vx), .second, .val (.long vy), .second, .val (.long vz), .second, .val (.ref b132), .val (.int (((if (1 : Int32) = (0 : Int32) then (0 : Int32) else (if p5 < vx then (1 : Int32) else (0 : Int32))) + (if (1 : Int32) = (0 : Int32) then (0 : Int32) else (if p5 < vy then (1 : Int32) else (0 : Int32)))) + (if (0 : Int32) = (0 : Int32) then (0 : Int32) else (if p5 < vz then (1 : Int32) else (0 : Int32)))))] [(.long p5), (.ref b132)]))
    obtain ⟨cq151, kq151, q151a, q151b, q151c⟩ := isOf hZ eh150 f141_0
    obtain ⟨_, _, ⟨T151, L151, k151, n151⟩, -, X151, ⟨Lc151, hQ151, l151, y151, z151⟩, st151⟩ := X150.virtualBack hx (y := (⟨"com/example/battlement/battlement/bench/Timings", "over", "(J)I"⟩ : MethodName)) (z := (⟨"com/example/battlement/battlement/bench/Timings", "over", "(J)I"⟩ : MethodName)) hown (mvT hZ w24) (mvT hZ w25) (notFace_of_selects (args := #[]) (mvT hZ w27)) (mvT hZ w27) (mvT hZ w26) (by decide) (backOf (W := 0) (own_o2 l Z a0 hw [] b132 p5 (bb_134) (kk_134) ((((List.replicate 64 (0 : Int64)).set ((0 : Int32).toNatClampNeg) vx).set ((1 : Int32).toNatClampNeg) vy)) T141.heap n0 (Nat.le_trans (Nat.le_trans (Nat.le_trans (Nat.le_trans Z0 E132.1) K134c.1) K137c.1) K141c.1) f141_2 fc143 f141_3) hZ w28 w3 (by decide) (by decide)) q151a q151c (g := (mkF m 138 #[.val (.long p1), .second, .val (.long p2), .second, .val (.long p3), .second, .val (.int p4), .val (.long p5), .second, .val (.int (2 : Int32)), .val (.long vx), .second, .val (.long vy), .second, .val (.long vz), .second, .val (.ref b132), .val (.int (((if (1 : Int32) = (0 : Int32) then (0 : Int32) else (if p5 < vx then (1 : Int32) else (0 : Int32))) + (if (1 : Int32) = (0 : Int32) then (0 : Int32) else (if p5 < vy then (1 : Int32) else (0 : Int32)))) + (if (0 : Int32) = (0 : Int32) then (0 : Int32) else (if p5 < vz then (1 : Int32) else (0 : Int32)))))] [(.long p5), (.ref b132)])) rfl (by rw [hml]; rfl) (Steps.refl _) (argsL := [(.long p5)]) (rest := []) (lenOf own_pd2 rfl) rfl (by show 2 * 0 + _ ≤ _; exact Nat.le_of_eq rfl) (hb hby at_138) (fun _ _ => ⟨rfl, eh150, (by decide : 2 + 0 ≤ _), (by decide : 66 + 0 ≤ _)⟩)
    dsimp only [Pt.U, Pt.locs, Pt.cells, Pt.slots] at X151 l151 y151 z151 st151 hQ151
    subst l151 y151 z151
    obtain ⟨rfl, N151q, eh151⟩ := hQ151
    have N151 := Fr.app N150 N151q
    refine own_jump st151 ?_
    show own_Goes p e below _ (T151.setTop (mkF m 141 #[.val (.long p1), .second, .val (.long p2), .second, .val (.long p3), .second, .val (.int p4), .val (.long p5), .second, .val (.int (2 : Int32)), .val (.long vx), .second, .val (.long vy), .second, .val (.long vz), .second, .val (.ref b132), .val (.int (((if (1 : Int32) = (0 : Int32) then (0 : Int32) else (if p5 < vx then (1 : Int32) else (0 : Int32))) + (if (1 : Int32) = (0 : Int32) then (0 : Int32) else (if p5 < vy then (1 : Int32) else (0 : Int32)))) + (if (0 : Int32) = (0 : Int32) then (0 : Int32) else (if p5 < vz then (1 : Int32) else (0 : Int32)))))] [(.int (if p5 < ((((List.replicate 64 (0 : Int64)).set ((0 : Int32).toNatClampNeg) vx).set ((1 : Int32).toNatClampNeg) vy).getD (1 : Int32).toNatClampNeg 0) then ((if p5 < ((((List.replicate 64 (0 : Int64)).set ((0 : Int32).toNatClampNeg) vx).set ((1 : Int32).toNatClampNeg) vy).getD (0 : Int32).toNatClampNeg 0) then (1 : Int32) else (0 : Int32)) + (1 : Int32)) else (if p5 < ((((List.replicate 64 (0 : Int64)).set ((0 : Int32).toNatClampNeg) vx).set ((1 : Int32).toNatClampNeg) vy).getD (0 : Int32).toNatClampNeg 0) then (1 : Int32) else (0 : Int32))))]))
    refine own_step (fun t k => XS.iload X151.here hx rfl (hb hby at_141) rfl k) ?_
    show own_Goes p e below _ (T151.setTop (mkF m 143 #[.val (.long p1), .second, .val (.long p2), .second, .val (.long p3), .second, .val (.int p4), .val (.long p5), .second, .val (.int (2 : Int32)), .val (.long vx), .second, .val (.long vy), .second, .val (.long vz), .second, .val (.ref b132), .val (.int (((if (1 : Int32) = (0 : Int32) then (0 : Int32) else (if p5 < vx then (1 : Int32) else (0 : Int32))) + (if (1 : Int32) = (0 : Int32) then (0 : Int32) else (if p5 < vy then (1 : Int32) else (0 : Int32)))) + (if (0 : Int32) = (0 : Int32) then (0 : Int32) else (if p5 < vz then (1 : Int32) else (0 : Int32)))))] [(.int (((if (1 : Int32) = (0 : Int32) then (0 : Int32) else (if p5 < vx then (1 : Int32) else (0 : Int32))) + (if (1 : Int32) = (0 : Int32) then (0 : Int32) else (if p5 < vy then (1 : Int32) else (0 : Int32)))) + (if (0 : Int32) = (0 : Int32) then (0 : Int32) else (if p5 < vz then (1 : Int32) else (0 : Int32))))), (.int (if p5 < ((((List.replicate 64 (0 : Int64)).set ((0 : Int32).toNatClampNeg) vx).set ((1 : Int32).toNatClampNeg) vy).getD (1 : Int32).toNatClampNeg 0) then ((if p5 < ((((List.replicate 64 (0 : Int64)).set ((0 : Int32).toNatClampNeg) vx).set ((1 : Int32).toNatClampNeg) vy).getD (0 : Int32).toNatClampNeg 0) then (1 : Int32) else (0 : Int32)) + (1 : Int32)) else (if p5 < ((((List.replicate 64 (0 : Int64)).set ((0 : Int32).toNatClampNeg) vx).set ((1 : Int32).toNatClampNeg) vy).getD (0 : Int32).toNatClampNeg 0) then (1 : Int32) else (0 : Int32))))]))
    refine own_step (S' := T151.setTop (mkF m 151 #[.val (.long p1), .second, .val (.long p2), .second, .val (.long p3), .second, .val (.int p4), .val (.long p5), .second, .val (.int (2 : Int32)), .val (.long vx), .second, .val (.long vy), .second, .val (.long vz), .second, .val (.ref b132), .val (.int (((if (1 : Int32) = (0 : Int32) then (0 : Int32) else (if p5 < vx then (1 : Int32) else (0 : Int32))) + (if (1 : Int32) = (0 : Int32) then (0 : Int32) else (if p5 < vy then (1 : Int32) else (0 : Int32)))) + (if (0 : Int32) = (0 : Int32) then (0 : Int32) else (if p5 < vz then (1 : Int32) else (0 : Int32)))))] [(.int (if (if p5 < ((((List.replicate 64 (0 : Int64)).set ((0 : Int32).toNatClampNeg) vx).set ((1 : Int32).toNatClampNeg) vy).getD (1 : Int32).toNatClampNeg 0) then ((if p5 < ((((List.replicate 64 (0 : Int64)).set ((0 : Int32).toNatClampNeg) vx).set ((1 : Int32).toNatClampNeg) vy).getD (0 : Int32).toNatClampNeg 0) then (1 : Int32) else (0 : Int32)) + (1 : Int32)) else (if p5 < ((((List.replicate 64 (0 : Int64)).set ((0 : Int32).toNatClampNeg) vx).set ((1 : Int32).toNatClampNeg) vy).getD (0 : Int32).toNatClampNeg 0) then (1 : Int32) else (0 : Int32))) = (((if (1 : Int32) = (0 : Int32) then (0 : Int32) else (if p5 < vx then (1 : Int32) else (0 : Int32))) + (if (1 : Int32) = (0 : Int32) then (0 : Int32) else (if p5 < vy then (1 : Int32) else (0 : Int32)))) + (if (0 : Int32) = (0 : Int32) then (0 : Int32) else (if p5 < vz then (1 : Int32) else (0 : Int32)))) then (1 : Int32) else (0 : Int32)))])) (fun t k => ?_) ?_
    · show Steps p.tables e below (T151.setTop (mkF m 143 #[.val (.long p1), .second, .val (.long p2), .second, .val (.long p3), .second, .val (.int p4), .val (.long p5), .second, .val (.int (2 : Int32)), .val (.long vx), .second, .val (.long vy), .second, .val (.long vz), .second, .val (.ref b132), .val (.int (((if (1 : Int32) = (0 : Int32) then (0 : Int32) else (if p5 < vx then (1 : Int32) else (0 : Int32))) + (if (1 : Int32) = (0 : Int32) then (0 : Int32) else (if p5 < vy then (1 : Int32) else (0 : Int32)))) + (if (0 : Int32) = (0 : Int32) then (0 : Int32) else (if p5 < vz then (1 : Int32) else (0 : Int32)))))] [(.int (((if (1 : Int32) = (0 : Int32) then (0 : Int32) else (if p5 < vx then (1 : Int32) else (0 : Int32))) + (if (1 : Int32) = (0 : Int32) then (0 : Int32) else (if p5 < vy then (1 : Int32) else (0 : Int32)))) + (if (0 : Int32) = (0 : Int32) then (0 : Int32) else (if p5 < vz then (1 : Int32) else (0 : Int32))))), (.int (if p5 < ((((List.replicate 64 (0 : Int64)).set ((0 : Int32).toNatClampNeg) vx).set ((1 : Int32).toNatClampNeg) vy).getD (1 : Int32).toNatClampNeg 0) then ((if p5 < ((((List.replicate 64 (0 : Int64)).set ((0 : Int32).toNatClampNeg) vx).set ((1 : Int32).toNatClampNeg) vy).getD (0 : Int32).toNatClampNeg 0) then (1 : Int32) else (0 : Int32)) + (1 : Int32)) else (if p5 < ((((List.replicate 64 (0 : Int64)).set ((0 : Int32).toNatClampNeg) vx).set ((1 : Int32).toNatClampNeg) vy).getD (0 : Int32).toNatClampNeg 0) then (1 : Int32) else (0 : Int32))))])) _
      by_cases hc152 : (if p5 < ((((List.replicate 64 (0 : Int64)).set ((0 : Int32).toNatClampNeg) vx).set ((1 : Int32).toNatClampNeg) vy).getD (1 : Int32).toNatClampNeg 0) then ((if p5 < ((((List.replicate 64 (0 : Int64)).set ((0 : Int32).toNatClampNeg) vx).set ((1 : Int32).toNatClampNeg) vy).getD (0 : Int32).toNatClampNeg 0) then (1 : Int32) else (0 : Int32)) + (1 : Int32)) else (if p5 < ((((List.replicate 64 (0 : Int64)).set ((0 : Int32).toNatClampNeg) vx).set ((1 : Int32).toNatClampNeg) vy).getD (0 : Int32).toNatClampNeg 0) then (1 : Int32) else (0 : Int32))) = (((if (1 : Int32) = (0 : Int32) then (0 : Int32) else (if p5 < vx then (1 : Int32) else (0 : Int32))) + (if (1 : Int32) = (0 : Int32) then (0 : Int32) else (if p5 < vy then (1 : Int32) else (0 : Int32)))) + (if (0 : Int32) = (0 : Int32) then (0 : Int32) else (if p5 < vz then (1 : Int32) else (0 : Int32))))
      · --
        refine XS.icmpNo X151.here hx rfl (hb hby at_143) rfl (teq hc152).2 ?_
        show Steps p.tables e below (T151.setTop (mkF m 146 #[.val (.long p1), .second, .val (.long p2), .second, .val (.long p3), .second, .val (.int p4), .val (.long p5), .second, .val (.int (2 : Int32)), .val (.long vx), .second, .val (.long vy), .second, .val (.long vz), .second, .val (.ref b132), .val (.int (((if (1 : Int32) = (0 : Int32) then (0 : Int32) else (if p5 < vx then (1 : Int32) else (0 : Int32))) + (if (1 : Int32) = (0 : Int32) then (0 : Int32) else (if p5 < vy then (1 : Int32) else (0 : Int32)))) + (if (0 : Int32) = (0 : Int32) then (0 : Int32) else (if p5 < vz then (1 : Int32) else (0 : Int32)))))] [])) _
        refine XS.iconst X151.here hx rfl (hb hby at_146) ?_
        show Steps p.tables e below (T151.setTop (mkF m 147 #[.val (.long p1), .second, .val (.long p2), .second, .val (.long p3), .second, .val (.int p4), .val (.long p5), .second, .val (.int (2 : Int32)), .val (.long vx), .second, .val (.long vy), .second, .val (.long vz), .second, .val (.ref b132), .val (.int (((if (1 : Int32) = (0 : Int32) then (0 : Int32) else (if p5 < vx then (1 : Int32) else (0 : Int32))) + (if (1 : Int32) = (0 : Int32) then (0 : Int32) else (if p5 < vy then (1 : Int32) else (0 : Int32)))) + (if (0 : Int32) = (0 : Int32) then (0 : Int32) else (if p5 < vz then (1 : Int32) else (0 : Int32)))))] [(.int (1 : Int32))])) _
        refine XS.goto X151.here hx rfl (pc0 := 147) (pc' := 151) rfl (hb hby at_147) (by decide) (by decide) ?_
        show Steps p.tables e below (T151.setTop (mkF m 151 #[.val (.long p1), .second, .val (.long p2), .second, .val (.long p3), .second, .val (.int p4), .val (.long p5), .second, .val (.int (2 : Int32)), .val (.long vx), .second, .val (.long vy), .second, .val (.long vz), .second, .val (.ref b132), .val (.int (((if (1 : Int32) = (0 : Int32) then (0 : Int32) else (if p5 < vx then (1 : Int32) else (0 : Int32))) + (if (1 : Int32) = (0 : Int32) then (0 : Int32) else (if p5 < vy then (1 : Int32) else (0 : Int32)))) + (if (0 : Int32) = (0 : Int32) then (0 : Int32) else (if p5 < vz then (1 : Int32) else (0 : Int32)))))] [(.int (1 : Int32))])) _
        first | (simp only [if_pos hc152] at k; exact k) | ((repeat (first | rw [if_pos hc152] at k)); exact k)
      · --
        refine XS.icmpYes X151.here hx rfl (pc0 := 143) (pc' := 150) rfl (hb hby at_143) rfl (feq hc152).2 (by decide) (by decide) ?_
        show Steps p.tables e below (T151.setTop (mkF m 150 #[.val (.long p1), .second, .val (.long p2), .second, .val (.long p3), .second, .val (.int p4), .val (.long p5), .second, .val (.int (2 : Int32)), .val (.long vx), .second, .val (.long vy), .second, .val (.long vz), .second, .val (.ref b132), .val (.int (((if (1 : Int32) = (0 : Int32) then (0 : Int32) else (if p5 < vx then (1 : Int32) else (0 : Int32))) + (if (1 : Int32) = (0 : Int32) then (0 : Int32) else (if p5 < vy then (1 : Int32) else (0 : Int32)))) + (if (0 : Int32) = (0 : Int32) then (0 : Int32) else (if p5 < vz then (1 : Int32) else (0 : Int32)))))] [])) _
        refine XS.iconst X151.here hx rfl (hb hby at_150) ?_
        show Steps p.tables e below (T151.setTop (mkF m 151 #[.val (.long p1), .second, .val (.long p2), .second, .val (.long p3), .second, .val (.int p4), .val (.long p5), .second, .val (.int (2 : Int32)), .val (.long vx), .second, .val (.long vy), .second, .val (.long vz), .second, .val (.ref b132), .val (.int (((if (1 : Int32) = (0 : Int32) then (0 : Int32) else (if p5 < vx then (1 : Int32) else (0 : Int32))) + (if (1 : Int32) = (0 : Int32) then (0 : Int32) else (if p5 < vy then (1 : Int32) else (0 : Int32)))) + (if (0 : Int32) = (0 : Int32) then (0 : Int32) else (if p5 < vz then (1 : Int32) else (0 : Int32)))))] [(.int (0 : Int32))])) _
        first | (simp only [if_neg hc152] at k; exact k) | ((repeat (first | rw [if_neg hc152] at k)); exact k)
    show own_Goes p e below _ (T151.setTop (mkF m 151 #[.val (.long p1), .second, .val (.long p2), .second, .val (.long p3), .second, .val (.int p4), .val (.long p5), .second, .val (.int (2 : Int32)), .val (.long vx), .second, .val (.long vy), .second, .val (.long vz), .second, .val (.ref b132), .val (.int (((if (1 : Int32) = (0 : Int32) then (0 : Int32) else (if p5 < vx then (1 : Int32) else (0 : Int32))) + (if (1 : Int32) = (0 : Int32) then (0 : Int32) else (if p5 < vy then (1 : Int32) else (0 : Int32)))) + (if (0 : Int32) = (0 : Int32) then (0 : Int32) else (if p5 < vz then (1 : Int32) else (0 : Int32)))))] [(.int (if (if p5 < ((((List.replicate 64 (0 : Int64)).set ((0 : Int32).toNatClampNeg) vx).set ((1 : Int32).toNatClampNeg) vy).getD (1 : Int32).toNatClampNeg 0) then ((if p5 < ((((List.replicate 64 (0 : Int64)).set ((0 : Int32).toNatClampNeg) vx).set ((1 : Int32).toNatClampNeg) vy).getD (0 : Int32).toNatClampNeg 0) then (1 : Int32) else (0 : Int32)) + (1 : Int32)) else (if p5 < ((((List.replicate 64 (0 : Int64)).set ((0 : Int32).toNatClampNeg) vx).set ((1 : Int32).toNatClampNeg) vy).getD (0 : Int32).toNatClampNeg 0) then (1 : Int32) else (0 : Int32))) = (((if (1 : Int32) = (0 : Int32) then (0 : Int32) else (if p5 < vx then (1 : Int32) else (0 : Int32))) + (if (1 : Int32) = (0 : Int32) then (0 : Int32) else (if p5 < vy then (1 : Int32) else (0 : Int32)))) + (if (0 : Int32) = (0 : Int32) then (0 : Int32) else (if p5 < vz then (1 : Int32) else (0 : Int32)))) then (1 : Int32) else (0 : Int32)))]))
    refine own_retL X151 hx hlk Bd.returns (hb hby at_151) (?_ : (if (if p5 < ((((List.replicate 64 (0 : Int64)).set ((0 : Int32).toNatClampNeg) vx).set ((1 : Int32).toNatClampNeg) vy).getD (1 : Int32).toNatClampNeg 0) then ((if p5 < ((((List.replicate 64 (0 : Int64)).set ((0 : Int32).toNatClampNeg) vx).set ((1 : Int32).toNatClampNeg) vy).getD (0 : Int32).toNatClampNeg 0) then (1 : Int32) else (0 : Int32)) + (1 : Int32)) else (if p5 < ((((List.replicate 64 (0 : Int64)).set ((0 : Int32).toNatClampNeg) vx).set ((1 : Int32).toNatClampNeg) vy).getD (0 : Int32).toNatClampNeg 0) then (1 : Int32) else (0 : Int32))) = (((if (1 : Int32) = (0 : Int32) then (0 : Int32) else (if p5 < vx then (1 : Int32) else (0 : Int32))) + (if (1 : Int32) = (0 : Int32) then (0 : Int32) else (if p5 < vy then (1 : Int32) else (0 : Int32)))) + (if (0 : Int32) = (0 : Int32) then (0 : Int32) else (if p5 < vz then (1 : Int32) else (0 : Int32)))) then (1 : Int32) else (0 : Int32)) = 1) N151 (by decide) (by decide)
    exact own_plain2 _ _ _ _
  · --
    show own_Goes p e below _ (s₁.setTop (mkF m 6 #[.val (.long p1), .second, .val (.long p2), .second, .val (.long p3), .second, .val (.int p4), .val (.long p5), .second, .val (.int (3 : Int32)), .unset, .unset, .unset, .unset, .unset, .unset, .unset, .unset] []))
    refine own_step (fun t k => XS.lloadN X0.here hx rfl (hb hby at_6) rfl k) ?_
    show own_Goes p e below _ (s₁.setTop (mkF m 7 #[.val (.long p1), .second, .val (.long p2), .second, .val (.long p3), .second, .val (.int p4), .val (.long p5), .second, .val (.int (3 : Int32)), .unset, .unset, .unset, .unset, .unset, .unset, .unset, .unset] [(.long p1)]))
    refine own_step (fun t k => X0.ldc2Long hx hown (mvT hZ w0) (g := (mkF m 7 #[.val (.long p1), .second, .val (.long p2), .second, .val (.long p3), .second, .val (.int p4), .val (.long p5), .second, .val (.int (3 : Int32)), .unset, .unset, .unset, .unset, .unset, .unset, .unset, .unset] [(.long p1)])) rfl (hb hby at_7) _ k) ?_
    show own_Goes p e below _ (s₁.setTop (mkF m 10 #[.val (.long p1), .second, .val (.long p2), .second, .val (.long p3), .second, .val (.int p4), .val (.long p5), .second, .val (.int (3 : Int32)), .unset, .unset, .unset, .unset, .unset, .unset, .unset, .unset] [(.long (9223372036854775807 : Int64)), (.long p1)]))
    refine own_step (fun t k => XS.land X0.here hx rfl (hb hby at_10) rfl k) ?_
    show own_Goes p e below _ (s₁.setTop (mkF m 11 #[.val (.long p1), .second, .val (.long p2), .second, .val (.long p3), .second, .val (.int p4), .val (.long p5), .second, .val (.int (3 : Int32)), .unset, .unset, .unset, .unset, .unset, .unset, .unset, .unset] [(.long (p1 &&& (9223372036854775807 : Int64)))]))
    refine own_step (fun t k => XS.lstore X0.here hx rfl (hb hby at_11) rfl (l' := #[.val (.long p1), .second, .val (.long p2), .second, .val (.long p3), .second, .val (.int p4), .val (.long p5), .second, .val (.int (3 : Int32)), .val (.long (p1 &&& (9223372036854775807 : Int64))), .second, .unset, .unset, .unset, .unset, .unset, .unset]) rfl k) ?_
    show own_Goes p e below _ (s₁.setTop (mkF m 13 #[.val (.long p1), .second, .val (.long p2), .second, .val (.long p3), .second, .val (.int p4), .val (.long p5), .second, .val (.int (3 : Int32)), .val (.long (p1 &&& (9223372036854775807 : Int64))), .second, .unset, .unset, .unset, .unset, .unset, .unset] []))
    generalize hv_vx : (p1 &&& (9223372036854775807 : Int64)) = vx
    refine own_step (fun t k => XS.lloadN X0.here hx rfl (hb hby at_13) rfl k) ?_
    show own_Goes p e below _ (s₁.setTop (mkF m 14 #[.val (.long p1), .second, .val (.long p2), .second, .val (.long p3), .second, .val (.int p4), .val (.long p5), .second, .val (.int (3 : Int32)), .val (.long vx), .second, .unset, .unset, .unset, .unset, .unset, .unset] [(.long p2)]))
    refine own_step (fun t k => X0.ldc2Long hx hown (mvT hZ w0) (g := (mkF m 14 #[.val (.long p1), .second, .val (.long p2), .second, .val (.long p3), .second, .val (.int p4), .val (.long p5), .second, .val (.int (3 : Int32)), .val (.long vx), .second, .unset, .unset, .unset, .unset, .unset, .unset] [(.long p2)])) rfl (hb hby at_14) _ k) ?_
    show own_Goes p e below _ (s₁.setTop (mkF m 17 #[.val (.long p1), .second, .val (.long p2), .second, .val (.long p3), .second, .val (.int p4), .val (.long p5), .second, .val (.int (3 : Int32)), .val (.long vx), .second, .unset, .unset, .unset, .unset, .unset, .unset] [(.long (9223372036854775807 : Int64)), (.long p2)]))
    refine own_step (fun t k => XS.land X0.here hx rfl (hb hby at_17) rfl k) ?_
    show own_Goes p e below _ (s₁.setTop (mkF m 18 #[.val (.long p1), .second, .val (.long p2), .second, .val (.long p3), .second, .val (.int p4), .val (.long p5), .second, .val (.int (3 : Int32)), .val (.long vx), .second, .unset, .unset, .unset, .unset, .unset, .unset] [(.long (p2 &&& (9223372036854775807 : Int64)))]))
    refine own_step (fun t k => XS.lstore X0.here hx rfl (hb hby at_18) rfl (l' := #[.val (.long p1), .second, .val (.long p2), .second, .val (.long p3), .second, .val (.int p4), .val (.long p5), .second, .val (.int (3 : Int32)), .val (.long vx), .second, .val (.long (p2 &&& (9223372036854775807 : Int64))), .second, .unset, .unset, .unset, .unset]) rfl k) ?_
    show own_Goes p e below _ (s₁.setTop (mkF m 20 #[.val (.long p1), .second, .val (.long p2), .second, .val (.long p3), .second, .val (.int p4), .val (.long p5), .second, .val (.int (3 : Int32)), .val (.long vx), .second, .val (.long (p2 &&& (9223372036854775807 : Int64))), .second, .unset, .unset, .unset, .unset] []))
    generalize hv_vy : (p2 &&& (9223372036854775807 : Int64)) = vy
    refine own_step (fun t k => XS.lload X0.here hx rfl (hb hby at_20) rfl k) ?_
    show own_Goes p e below _ (s₁.setTop (mkF m 22 #[.val (.long p1), .second, .val (.long p2), .second, .val (.long p3), .second, .val (.int p4), .val (.long p5), .second, .val (.int (3 : Int32)), .val (.long vx), .second, .val (.long vy), .second, .unset, .unset, .unset, .unset] [(.long p3)]))
    refine own_step (fun t k => X0.ldc2Long hx hown (mvT hZ w0) (g := (mkF m 22 #[.val (.long p1), .second, .val (.long p2), .second, .val (.long p3), .second, .val (.int p4), .val (.long p5), .second, .val (.int (3 : Int32)), .val (.long vx), .second, .val (.long vy), .second, .unset, .unset, .unset, .unset] [(.long p3)])) rfl (hb hby at_22) _ k) ?_
    show own_Goes p e below _ (s₁.setTop (mkF m 25 #[.val (.long p1), .second, .val (.long p2), .second, .val (.long p3), .second, .val (.int p4), .val (.long p5), .second, .val (.int (3 : Int32)), .val (.long vx), .second, .val (.long vy), .second, .unset, .unset, .unset, .unset] [(.long (9223372036854775807 : Int64)), (.long p3)]))
    refine own_step (fun t k => XS.land X0.here hx rfl (hb hby at_25) rfl k) ?_
    show own_Goes p e below _ (s₁.setTop (mkF m 26 #[.val (.long p1), .second, .val (.long p2), .second, .val (.long p3), .second, .val (.int p4), .val (.long p5), .second, .val (.int (3 : Int32)), .val (.long vx), .second, .val (.long vy), .second, .unset, .unset, .unset, .unset] [(.long (p3 &&& (9223372036854775807 : Int64)))]))
    refine own_step (fun t k => XS.lstore X0.here hx rfl (hb hby at_26) rfl (l' := #[.val (.long p1), .second, .val (.long p2), .second, .val (.long p3), .second, .val (.int p4), .val (.long p5), .second, .val (.int (3 : Int32)), .val (.long vx), .second, .val (.long vy), .second, .val (.long (p3 &&& (9223372036854775807 : Int64))), .second, .unset, .unset]) rfl k) ?_
    show own_Goes p e below _ (s₁.setTop (mkF m 28 #[.val (.long p1), .second, .val (.long p2), .second, .val (.long p3), .second, .val (.int p4), .val (.long p5), .second, .val (.int (3 : Int32)), .val (.long vx), .second, .val (.long vy), .second, .val (.long (p3 &&& (9223372036854775807 : Int64))), .second, .unset, .unset] []))
    generalize hv_vz : (p3 &&& (9223372036854775807 : Int64)) = vz
    obtain ⟨T153, h153, X153, e153, E153, A153, D153, -, st153⟩ := newO X0 hx hZ hown w1 w2 w3 e0 (g := (mkF m 28 #[.val (.long p1), .second, .val (.long p2), .second, .val (.long p3), .second, .val (.int p4), .val (.long p5), .second, .val (.int (3 : Int32)), .val (.long vx), .second, .val (.long vy), .second, .val (.long vz), .second, .unset, .unset] [])) rfl (hb hby at_28) (by decide) (by decide)
    obtain ⟨b153, g153⟩ : ∃ z, z = h0.size := ⟨_, rfl⟩
    rw [← g153] at A153 D153 st153
    have g_b153 : n0 ≤ b153 := Nat.le_trans Z0 (Nat.le_of_eq g153.symm)
    have sz_b153 : h0.size ≤ b153 := Nat.le_trans K0.1 (Nat.le_of_eq g153.symm)
    have K154 : Keep h0 h153 [] := K0.ext E153
    have F_nanos_b153 : Fld Z h153 b153 "com/example/battlement/battlement/bench/Timings" "nanos" "[J" .null := D153 (Or.inl w12) (ty := (.array .long)) (by decide)
    have F_count_b153 : Fld Z h153 b153 "com/example/battlement/battlement/bench/Timings" "count" "I" (.int (0 : Int32)) := D153 (Or.inl w19) (ty := .int) (by decide)
    refine own_step st153 ?_
    show own_Goes p e below _ (T153.setTop (mkF m 31 #[.val (.long p1), .second, .val (.long p2), .second, .val (.long p3), .second, .val (.int p4), .val (.long p5), .second, .val (.int (3 : Int32)), .val (.long vx), .second, .val (.long vy), .second, .val (.long vz), .second, .unset, .unset] [(.ref b153)]))
    refine own_step (fun t k => XS.dup X153.here hx rfl (hb hby at_31) rfl rfl k) ?_
    show own_Goes p e below _ (T153.setTop (mkF m 32 #[.val (.long p1), .second, .val (.long p2), .second, .val (.long p3), .second, .val (.int p4), .val (.long p5), .second, .val (.int (3 : Int32)), .val (.long vx), .second, .val (.long vy), .second, .val (.long vz), .second, .unset, .unset] [(.ref b153), (.ref b153)]))
    obtain ⟨_, _, ⟨T155, L155, k155, n155⟩, -, X155, ⟨Lc155, hQ155, l155, y155, z155⟩, st155⟩ := X153.specialBack hx (y := (⟨"com/example/battlement/battlement/bench/Timings", "<init>", "()V"⟩ : MethodName)) rfl hown (mvT hZ w4) (mvT hZ w5) (mvT hZ w6) (by decide) (backOf (W := 1) (own_b1 l Z a0 hw [] b153 (.null) h153 n0 (Nat.le_trans Z0 E153.1) A153 g_b153 F_nanos_b153 F_count_b153) hZ w6 w3 (by decide) (by decide)) (g := (mkF m 32 #[.val (.long p1), .second, .val (.long p2), .second, .val (.long p3), .second, .val (.int p4), .val (.long p5), .second, .val (.int (3 : Int32)), .val (.long vx), .second, .val (.long vy), .second, .val (.long vz), .second, .unset, .unset] [(.ref b153), (.ref b153)])) rfl (by rw [hml]; rfl) (Steps.refl _) (a := b153) (argsL := []) (rest := [(.ref b153)]) (lenOf own_pd0 rfl) rfl (by show 2 * 0 + _ ≤ _; exact Nat.le_of_eq rfl) (hb hby at_32) (fun _ _ => ⟨rfl, e153, (by decide : 1 + 1 ≤ _), (by decide : 2 + 64 ≤ _)⟩)
    dsimp only [Pt.U, Pt.locs, Pt.cells, Pt.slots] at X155 l155 y155 z155 st155 hQ155
    subst l155 y155 z155
    obtain ⟨bb_155, kk_155, rfl, N155q, K155c, f155_0, f155_1, f155_2, f155_3, f155_4⟩ := hQ155
    have N155 := Fr.app N0 N155q
    refine own_jump st155 ?_
    have K156 : Keep h0 T155.heap [] := K154.trans K155c (allS (Or.inr sz_b153) all0)
    have sz_bb_155 : h0.size ≤ bb_155 := Nat.le_trans K154.1 f155_0
    have g_bb_155 : n0 ≤ bb_155 := Nat.le_trans Z0 sz_bb_155
    have ne_b153_bb_155 : b153 ≠ bb_155 := Nat.ne_of_lt (Nat.lt_of_lt_of_le A153.lt f155_0)
    show own_Goes p e below _ (T155.setTop (mkF m 35 #[.val (.long p1), .second, .val (.long p2), .second, .val (.long p3), .second, .val (.int p4), .val (.long p5), .second, .val (.int (3 : Int32)), .val (.long vx), .second, .val (.long vy), .second, .val (.long vz), .second, .unset, .unset] [(.ref b153)]))
    refine own_step (fun t k => XS.astore X155.here hx rfl (hb hby at_35) rfl rfl (l' := #[.val (.long p1), .second, .val (.long p2), .second, .val (.long p3), .second, .val (.int p4), .val (.long p5), .second, .val (.int (3 : Int32)), .val (.long vx), .second, .val (.long vy), .second, .val (.long vz), .second, .val (.ref b153), .unset]) rfl k) ?_
    show own_Goes p e below _ (T155.setTop (mkF m 37 #[.val (.long p1), .second, .val (.long p2), .second, .val (.long p3), .second, .val (.int p4), .val (.long p5), .second, .val (.int (3 : Int32)), .val (.long vx), .second, .val (.long vy), .second, .val (.long vz), .second, .val (.ref b153), .unset] []))
    refine own_step (fun t k => XS.iload X155.here hx rfl (hb hby at_37) rfl k) ?_
    show own_Goes p e below _ (T155.setTop (mkF m 39 #[.val (.long p1), .second, .val (.long p2), .second, .val (.long p3), .second, .val (.int p4), .val (.long p5), .second, .val (.int (3 : Int32)), .val (.long vx), .second, .val (.long vy), .second, .val (.long vz), .second, .val (.ref b153), .unset] [(.int (3 : Int32))]))
    refine own_step (fun t k => XS.iconst X155.here hx rfl (hb hby at_39) k) ?_
    show own_Goes p e below _ (T155.setTop (mkF m 40 #[.val (.long p1), .second, .val (.long p2), .second, .val (.long p3), .second, .val (.int p4), .val (.long p5), .second, .val (.int (3 : Int32)), .val (.long vx), .second, .val (.long vy), .second, .val (.long vz), .second, .val (.ref b153), .unset] [(.int (1 : Int32)), (.int (3 : Int32))]))
    have hc157 : ¬ ((3 : Int32) < (1 : Int32)) := by decide
    refine own_step (fun t k => XS.icmpNo X155.here hx rfl (hb hby at_40) rfl (flt hc157).1 k) ?_
    show own_Goes p e below _ (T155.setTop (mkF m 43 #[.val (.long p1), .second, .val (.long p2), .second, .val (.long p3), .second, .val (.int p4), .val (.long p5), .second, .val (.int (3 : Int32)), .val (.long vx), .second, .val (.long vy), .second, .val (.long vz), .second, .val (.ref b153), .unset] []))
    refine own_step (fun t k => XS.aload X155.here hx rfl (hb hby at_43) rfl rfl k) ?_
    show own_Goes p e below _ (T155.setTop (mkF m 45 #[.val (.long p1), .second, .val (.long p2), .second, .val (.long p3), .second, .val (.int p4), .val (.long p5), .second, .val (.int (3 : Int32)), .val (.long vx), .second, .val (.long vy), .second, .val (.long vz), .second, .val (.ref b153), .unset] [(.ref b153)]))
    refine own_step (fun t k => XS.lload X155.here hx rfl (hb hby at_45) rfl k) ?_
    show own_Goes p e below _ (T155.setTop (mkF m 47 #[.val (.long p1), .second, .val (.long p2), .second, .val (.long p3), .second, .val (.int p4), .val (.long p5), .second, .val (.int (3 : Int32)), .val (.long vx), .second, .val (.long vy), .second, .val (.long vz), .second, .val (.ref b153), .unset] [(.long vx), (.ref b153)]))
    obtain ⟨cq158, kq158, q158a, q158b, q158c⟩ := isOf hZ rfl f155_1
    obtain ⟨_, _, ⟨T158, L158, k158, n158⟩, -, X158, ⟨Lc158, hQ158, l158, y158, z158⟩, st158⟩ := X155.virtualBack hx (y := (⟨"com/example/battlement/battlement/bench/Timings", "add", "(J)V"⟩ : MethodName)) (z := (⟨"com/example/battlement/battlement/bench/Timings", "add", "(J)V"⟩ : MethodName)) hown (mvT hZ w13) (mvT hZ w14) (notFace_of_selects (args := #[]) (mvT hZ w16)) (mvT hZ w16) (mvT hZ w15) (by decide) (backOf (W := 0) (own_b2 l Z a0 hw [] b153 vx ((0 : Int32)) (bb_155) (kk_155) ((List.replicate 64 (0 : Int64))) T155.heap n0 (Nat.le_trans (Nat.le_trans Z0 E153.1) K155c.1) f155_1 g_b153 f155_3 f155_2 f155_4 g_bb_155 ne_b153_bb_155 (own_pos hv_vx) (by decide) (by decide) (by simp only [List.length_set, List.length_replicate]; decide)) hZ w17 w3 (by decide) (by decide)) q158a q158c (g := (mkF m 47 #[.val (.long p1), .second, .val (.long p2), .second, .val (.long p3), .second, .val (.int p4), .val (.long p5), .second, .val (.int (3 : Int32)), .val (.long vx), .second, .val (.long vy), .second, .val (.long vz), .second, .val (.ref b153), .unset] [(.long vx), (.ref b153)])) rfl (by rw [hml]; rfl) (Steps.refl _) (argsL := [(.long vx)]) (rest := []) (lenOf own_pd3 rfl) rfl (by show 2 * 0 + _ ≤ _; exact Nat.le_of_eq rfl) (hb hby at_47) (fun _ _ => ⟨rfl, rfl, (by decide : 2 + 0 ≤ _), (by decide : 66 + 0 ≤ _)⟩)
    dsimp only [Pt.U, Pt.locs, Pt.cells, Pt.slots] at X158 l158 y158 z158 st158 hQ158
    subst l158 y158 z158
    obtain ⟨rfl, N158q, K158c, f158_0, f158_1, f158_2, f158_3⟩ := hQ158
    have N158 := Fr.app N155 N158q
    refine own_jump st158 ?_
    have K159 : Keep h0 T158.heap [] := K156.trans K158c (allS (Or.inr sz_b153) (allS (Or.inr sz_bb_155) all0))
    show own_Goes p e below _ (T158.setTop (mkF m 50 #[.val (.long p1), .second, .val (.long p2), .second, .val (.long p3), .second, .val (.int p4), .val (.long p5), .second, .val (.int (3 : Int32)), .val (.long vx), .second, .val (.long vy), .second, .val (.long vz), .second, .val (.ref b153), .unset] []))
    have fc160 : Fld Z T158.heap b153 "com/example/battlement/battlement/bench/Timings" "count" "I" (.int (1 : Int32)) := f158_1
    refine own_step (fun t k => XS.iload X158.here hx rfl (hb hby at_50) rfl k) ?_
    show own_Goes p e below _ (T158.setTop (mkF m 52 #[.val (.long p1), .second, .val (.long p2), .second, .val (.long p3), .second, .val (.int p4), .val (.long p5), .second, .val (.int (3 : Int32)), .val (.long vx), .second, .val (.long vy), .second, .val (.long vz), .second, .val (.ref b153), .unset] [(.int (3 : Int32))]))
    refine own_step (fun t k => XS.iconst X158.here hx rfl (hb hby at_52) k) ?_
    show own_Goes p e below _ (T158.setTop (mkF m 53 #[.val (.long p1), .second, .val (.long p2), .second, .val (.long p3), .second, .val (.int p4), .val (.long p5), .second, .val (.int (3 : Int32)), .val (.long vx), .second, .val (.long vy), .second, .val (.long vz), .second, .val (.ref b153), .unset] [(.int (2 : Int32)), (.int (3 : Int32))]))
    have hc161 : ¬ ((3 : Int32) < (2 : Int32)) := by decide
    refine own_step (fun t k => XS.icmpNo X158.here hx rfl (hb hby at_53) rfl (flt hc161).1 k) ?_
    show own_Goes p e below _ (T158.setTop (mkF m 56 #[.val (.long p1), .second, .val (.long p2), .second, .val (.long p3), .second, .val (.int p4), .val (.long p5), .second, .val (.int (3 : Int32)), .val (.long vx), .second, .val (.long vy), .second, .val (.long vz), .second, .val (.ref b153), .unset] []))
    refine own_step (fun t k => XS.aload X158.here hx rfl (hb hby at_56) rfl rfl k) ?_
    show own_Goes p e below _ (T158.setTop (mkF m 58 #[.val (.long p1), .second, .val (.long p2), .second, .val (.long p3), .second, .val (.int p4), .val (.long p5), .second, .val (.int (3 : Int32)), .val (.long vx), .second, .val (.long vy), .second, .val (.long vz), .second, .val (.ref b153), .unset] [(.ref b153)]))
    refine own_step (fun t k => XS.lload X158.here hx rfl (hb hby at_58) rfl k) ?_
    show own_Goes p e below _ (T158.setTop (mkF m 60 #[.val (.long p1), .second, .val (.long p2), .second, .val (.long p3), .second, .val (.int p4), .val (.long p5), .second, .val (.int (3 : Int32)), .val (.long vx), .second, .val (.long vy), .second, .val (.long vz), .second, .val (.ref b153), .unset] [(.long vy), (.ref b153)]))
    obtain ⟨cq162, kq162, q162a, q162b, q162c⟩ := isOf hZ rfl f158_0
    obtain ⟨_, _, ⟨T162, L162, k162, n162⟩, -, X162, ⟨Lc162, hQ162, l162, y162, z162⟩, st162⟩ := X158.virtualBack hx (y := (⟨"com/example/battlement/battlement/bench/Timings", "add", "(J)V"⟩ : MethodName)) (z := (⟨"com/example/battlement/battlement/bench/Timings", "add", "(J)V"⟩ : MethodName)) hown (mvT hZ w13) (mvT hZ w14) (notFace_of_selects (args := #[]) (mvT hZ w16)) (mvT hZ w16) (mvT hZ w15) (by decide) (backOf (W := 0) (own_b2 l Z a0 hw [] b153 vy ((1 : Int32)) (bb_155) (kk_155) (((List.replicate 64 (0 : Int64)).set ((0 : Int32).toNatClampNeg) vx)) T158.heap n0 (Nat.le_trans (Nat.le_trans (Nat.le_trans Z0 E153.1) K155c.1) K158c.1) f158_0 g_b153 fc160 f158_2 f158_3 g_bb_155 ne_b153_bb_155 (own_pos hv_vy) (by decide) (by decide) (by simp only [List.length_set, List.length_replicate]; decide)) hZ w17 w3 (by decide) (by decide)) q162a q162c (g := (mkF m 60 #[.val (.long p1), .second, .val (.long p2), .second, .val (.long p3), .second, .val (.int p4), .val (.long p5), .second, .val (.int (3 : Int32)), .val (.long vx), .second, .val (.long vy), .second, .val (.long vz), .second, .val (.ref b153), .unset] [(.long vy), (.ref b153)])) rfl (by rw [hml]; rfl) (Steps.refl _) (argsL := [(.long vy)]) (rest := []) (lenOf own_pd3 rfl) rfl (by show 2 * 0 + _ ≤ _; exact Nat.le_of_eq rfl) (hb hby at_60) (fun _ _ => ⟨rfl, rfl, (by decide : 2 + 0 ≤ _), (by decide : 66 + 0 ≤ _)⟩)
    dsimp only [Pt.U, Pt.locs, Pt.cells, Pt.slots] at X162 l162 y162 z162 st162 hQ162
    subst l162 y162 z162
    obtain ⟨rfl, N162q, K162c, f162_0, f162_1, f162_2, f162_3⟩ := hQ162
    have N162 := Fr.app N158 N162q
    refine own_jump st162 ?_
    have K163 : Keep h0 T162.heap [] := K159.trans K162c (allS (Or.inr sz_b153) (allS (Or.inr sz_bb_155) all0))
    show own_Goes p e below _ (T162.setTop (mkF m 63 #[.val (.long p1), .second, .val (.long p2), .second, .val (.long p3), .second, .val (.int p4), .val (.long p5), .second, .val (.int (3 : Int32)), .val (.long vx), .second, .val (.long vy), .second, .val (.long vz), .second, .val (.ref b153), .unset] []))
    have fc164 : Fld Z T162.heap b153 "com/example/battlement/battlement/bench/Timings" "count" "I" (.int (2 : Int32)) := f162_1
    refine own_step (fun t k => XS.iload X162.here hx rfl (hb hby at_63) rfl k) ?_
    show own_Goes p e below _ (T162.setTop (mkF m 65 #[.val (.long p1), .second, .val (.long p2), .second, .val (.long p3), .second, .val (.int p4), .val (.long p5), .second, .val (.int (3 : Int32)), .val (.long vx), .second, .val (.long vy), .second, .val (.long vz), .second, .val (.ref b153), .unset] [(.int (3 : Int32))]))
    refine own_step (fun t k => XS.iconst X162.here hx rfl (hb hby at_65) k) ?_
    show own_Goes p e below _ (T162.setTop (mkF m 66 #[.val (.long p1), .second, .val (.long p2), .second, .val (.long p3), .second, .val (.int p4), .val (.long p5), .second, .val (.int (3 : Int32)), .val (.long vx), .second, .val (.long vy), .second, .val (.long vz), .second, .val (.ref b153), .unset] [(.int (3 : Int32)), (.int (3 : Int32))]))
    have hc165 : ¬ ((3 : Int32) < (3 : Int32)) := by decide
    refine own_step (fun t k => XS.icmpNo X162.here hx rfl (hb hby at_66) rfl (flt hc165).1 k) ?_
    show own_Goes p e below _ (T162.setTop (mkF m 69 #[.val (.long p1), .second, .val (.long p2), .second, .val (.long p3), .second, .val (.int p4), .val (.long p5), .second, .val (.int (3 : Int32)), .val (.long vx), .second, .val (.long vy), .second, .val (.long vz), .second, .val (.ref b153), .unset] []))
    refine own_step (fun t k => XS.aload X162.here hx rfl (hb hby at_69) rfl rfl k) ?_
    show own_Goes p e below _ (T162.setTop (mkF m 71 #[.val (.long p1), .second, .val (.long p2), .second, .val (.long p3), .second, .val (.int p4), .val (.long p5), .second, .val (.int (3 : Int32)), .val (.long vx), .second, .val (.long vy), .second, .val (.long vz), .second, .val (.ref b153), .unset] [(.ref b153)]))
    refine own_step (fun t k => XS.lload X162.here hx rfl (hb hby at_71) rfl k) ?_
    show own_Goes p e below _ (T162.setTop (mkF m 73 #[.val (.long p1), .second, .val (.long p2), .second, .val (.long p3), .second, .val (.int p4), .val (.long p5), .second, .val (.int (3 : Int32)), .val (.long vx), .second, .val (.long vy), .second, .val (.long vz), .second, .val (.ref b153), .unset] [(.long vz), (.ref b153)]))
    obtain ⟨cq166, kq166, q166a, q166b, q166c⟩ := isOf hZ rfl f162_0
    obtain ⟨_, _, ⟨T166, L166, k166, n166⟩, -, X166, ⟨Lc166, hQ166, l166, y166, z166⟩, st166⟩ := X162.virtualBack hx (y := (⟨"com/example/battlement/battlement/bench/Timings", "add", "(J)V"⟩ : MethodName)) (z := (⟨"com/example/battlement/battlement/bench/Timings", "add", "(J)V"⟩ : MethodName)) hown (mvT hZ w13) (mvT hZ w14) (notFace_of_selects (args := #[]) (mvT hZ w16)) (mvT hZ w16) (mvT hZ w15) (by decide) (backOf (W := 0) (own_b2 l Z a0 hw [] b153 vz ((2 : Int32)) (bb_155) (kk_155) ((((List.replicate 64 (0 : Int64)).set ((0 : Int32).toNatClampNeg) vx).set ((1 : Int32).toNatClampNeg) vy)) T162.heap n0 (Nat.le_trans (Nat.le_trans (Nat.le_trans (Nat.le_trans Z0 E153.1) K155c.1) K158c.1) K162c.1) f162_0 g_b153 fc164 f162_2 f162_3 g_bb_155 ne_b153_bb_155 (own_pos hv_vz) (by decide) (by decide) (by simp only [List.length_set, List.length_replicate]; decide)) hZ w17 w3 (by decide) (by decide)) q166a q166c (g := (mkF m 73 #[.val (.long p1), .second, .val (.long p2), .second, .val (.long p3), .second, .val (.int p4), .val (.long p5), .second, .val (.int (3 : Int32)), .val (.long vx), .second, .val (.long vy), .second, .val (.long vz), .second, .val (.ref b153), .unset] [(.long vz), (.ref b153)])) rfl (by rw [hml]; rfl) (Steps.refl _) (argsL := [(.long vz)]) (rest := []) (lenOf own_pd3 rfl) rfl (by show 2 * 0 + _ ≤ _; exact Nat.le_of_eq rfl) (hb hby at_73) (fun _ _ => ⟨rfl, rfl, (by decide : 2 + 0 ≤ _), (by decide : 66 + 0 ≤ _)⟩)
    dsimp only [Pt.U, Pt.locs, Pt.cells, Pt.slots] at X166 l166 y166 z166 st166 hQ166
    subst l166 y166 z166
    obtain ⟨rfl, N166q, K166c, f166_0, f166_1, f166_2, f166_3⟩ := hQ166
    have N166 := Fr.app N162 N166q
    refine own_jump st166 ?_
    have K167 : Keep h0 T166.heap [] := K163.trans K166c (allS (Or.inr sz_b153) (allS (Or.inr sz_bb_155) all0))
    show own_Goes p e below _ (T166.setTop (mkF m 76 #[.val (.long p1), .second, .val (.long p2), .second, .val (.long p3), .second, .val (.int p4), .val (.long p5), .second, .val (.int (3 : Int32)), .val (.long vx), .second, .val (.long vy), .second, .val (.long vz), .second, .val (.ref b153), .unset] []))
    have fc168 : Fld Z T166.heap b153 "com/example/battlement/battlement/bench/Timings" "count" "I" (.int (3 : Int32)) := f166_1
    refine own_step (fun t k => XS.iload X166.here hx rfl (hb hby at_76) rfl k) ?_
    show own_Goes p e below _ (T166.setTop (mkF m 78 #[.val (.long p1), .second, .val (.long p2), .second, .val (.long p3), .second, .val (.int p4), .val (.long p5), .second, .val (.int (3 : Int32)), .val (.long vx), .second, .val (.long vy), .second, .val (.long vz), .second, .val (.ref b153), .unset] [(.int (3 : Int32))]))
    refine own_step (fun t k => XS.iconst X166.here hx rfl (hb hby at_78) k) ?_
    show own_Goes p e below _ (T166.setTop (mkF m 79 #[.val (.long p1), .second, .val (.long p2), .second, .val (.long p3), .second, .val (.int p4), .val (.long p5), .second, .val (.int (3 : Int32)), .val (.long vx), .second, .val (.long vy), .second, .val (.long vz), .second, .val (.ref b153), .unset] [(.int (1 : Int32)), (.int (3 : Int32))]))
    have hc169 : ¬ ((3 : Int32) < (1 : Int32)) := by decide
    refine own_step (fun t k => XS.icmpNo X166.here hx rfl (hb hby at_79) rfl (flt hc169).1 k) ?_
    show own_Goes p e below _ (T166.setTop (mkF m 82 #[.val (.long p1), .second, .val (.long p2), .second, .val (.long p3), .second, .val (.int p4), .val (.long p5), .second, .val (.int (3 : Int32)), .val (.long vx), .second, .val (.long vy), .second, .val (.long vz), .second, .val (.ref b153), .unset] []))
    refine own_step (fun t k => XS.iconst X166.here hx rfl (hb hby at_82) k) ?_
    show own_Goes p e below _ (T166.setTop (mkF m 83 #[.val (.long p1), .second, .val (.long p2), .second, .val (.long p3), .second, .val (.int p4), .val (.long p5), .second, .val (.int (3 : Int32)), .val (.long vx), .second, .val (.long vy), .second, .val (.long vz), .second, .val (.ref b153), .unset] [(.int (1 : Int32))]))
    refine own_step (fun t k => XS.goto X166.here hx rfl (pc0 := 83) (pc' := 87) rfl (hb hby at_83) (by decide) (by decide) k) ?_
    show own_Goes p e below _ (T166.setTop (mkF m 87 #[.val (.long p1), .second, .val (.long p2), .second, .val (.long p3), .second, .val (.int p4), .val (.long p5), .second, .val (.int (3 : Int32)), .val (.long vx), .second, .val (.long vy), .second, .val (.long vz), .second, .val (.ref b153), .unset] [(.int (1 : Int32))]))
    refine own_step (fun t k => XS.lload X166.here hx rfl (hb hby at_87) rfl k) ?_
    show own_Goes p e below _ (T166.setTop (mkF m 89 #[.val (.long p1), .second, .val (.long p2), .second, .val (.long p3), .second, .val (.int p4), .val (.long p5), .second, .val (.int (3 : Int32)), .val (.long vx), .second, .val (.long vy), .second, .val (.long vz), .second, .val (.ref b153), .unset] [(.long vx), (.int (1 : Int32))]))
    refine own_step (fun t k => XS.lload X166.here hx rfl (hb hby at_89) rfl k) ?_
    show own_Goes p e below _ (T166.setTop (mkF m 91 #[.val (.long p1), .second, .val (.long p2), .second, .val (.long p3), .second, .val (.int p4), .val (.long p5), .second, .val (.int (3 : Int32)), .val (.long vx), .second, .val (.long vy), .second, .val (.long vz), .second, .val (.ref b153), .unset] [(.long p5), (.long vx), (.int (1 : Int32))]))
    obtain ⟨_, _, ⟨T170, L170, k170, n170⟩, -, X170, ⟨Lc170, hQ170, l170, y170, z170⟩, st170⟩ := Jvm.LawKit.callS X166 hx (y := (⟨"com/example/battlement/battlement/bench/TimingsOverPinLaw", "exceeds", "(ZJJ)I"⟩ : MethodName)) hown (mvT hZ w20) (mvT hZ w21) (mvT hZ w22) (mvT hZ w23) (by decide) (backOf (W := 0) (own_b3 l Z a0 hw [] (1 : Int32) vx p5  T166.heap n0 (Nat.le_trans (Nat.le_trans (Nat.le_trans (Nat.le_trans (Nat.le_trans Z0 E153.1) K155c.1) K158c.1) K162c.1) K166c.1) ) hZ w23 w22 (by decide) (by decide)) (g := (mkF m 91 #[.val (.long p1), .second, .val (.long p2), .second, .val (.long p3), .second, .val (.int p4), .val (.long p5), .second, .val (.int (3 : Int32)), .val (.long vx), .second, .val (.long vy), .second, .val (.long vz), .second, .val (.ref b153), .unset] [(.long p5), (.long vx), (.int (1 : Int32))])) rfl (by rw [hml]; rfl) (argsL := [(.int (1 : Int32)), (.long vx), (.long p5)]) (rest := []) (lenOf own_pd1 rfl) rfl (by show 2 * 0 + _ ≤ _; exact Nat.le_of_eq rfl) (hb hby at_91) (fun _ _ => ⟨rfl, rfl, (by decide : 2 + 0 ≤ _), (by decide : 66 + 0 ≤ _)⟩)
    dsimp only [Pt.U, Pt.locs, Pt.cells, Pt.slots] at X170 l170 y170 z170 st170 hQ170
    subst l170 y170 z170
    obtain ⟨rfl, N170q, eh170⟩ := hQ170
    have N170 := Fr.app N166 N170q
    refine own_step st170 ?_
    show own_Goes p e below _ (T170.setTop (mkF m 94 #[.val (.long p1), .second, .val (.long p2), .second, .val (.long p3), .second, .val (.int p4), .val (.long p5), .second, .val (.int (3 : Int32)), .val (.long vx), .second, .val (.long vy), .second, .val (.long vz), .second, .val (.ref b153), .unset] [(.int (if (1 : Int32) = (0 : Int32) then (0 : Int32) else (if p5 < vx then (1 : Int32) else (0 : Int32))))]))
    refine own_step (fun t k => XS.iload X170.here hx rfl (hb hby at_94) rfl k) ?_
    show own_Goes p e below _ (T170.setTop (mkF m 96 #[.val (.long p1), .second, .val (.long p2), .second, .val (.long p3), .second, .val (.int p4), .val (.long p5), .second, .val (.int (3 : Int32)), .val (.long vx), .second, .val (.long vy), .second, .val (.long vz), .second, .val (.ref b153), .unset] [(.int (3 : Int32)), (.int (if (1 : Int32) = (0 : Int32) then (0 : Int32) else (if p5 < vx then (1 : Int32) else (0 : Int32))))]))
    refine own_step (fun t k => XS.iconst X170.here hx rfl (hb hby at_96) k) ?_
    show own_Goes p e below _ (T170.setTop (mkF m 97 #[.val (.long p1), .second, .val (.long p2), .second, .val (.long p3), .second, .val (.int p4), .val (.long p5), .second, .val (.int (3 : Int32)), .val (.long vx), .second, .val (.long vy), .second, .val (.long vz), .second, .val (.ref b153), .unset] [(.int (2 : Int32)), (.int (3 : Int32)), (.int (if (1 : Int32) = (0 : Int32) then (0 : Int32) else (if p5 < vx then (1 : Int32) else (0 : Int32))))]))
    have hc171 : ¬ ((3 : Int32) < (2 : Int32)) := by decide
    refine own_step (fun t k => XS.icmpNo X170.here hx rfl (hb hby at_97) rfl (flt hc171).1 k) ?_
    show own_Goes p e below _ (T170.setTop (mkF m 100 #[.val (.long p1), .second, .val (.long p2), .second, .val (.long p3), .second, .val (.int p4), .val (.long p5), .second, .val (.int (3 : Int32)), .val (.long vx), .second, .val (.long vy), .second, .val (.long vz), .second, .val (.ref b153), .unset] [(.int (if (1 : Int32) = (0 : Int32) then (0 : Int32) else (if p5 < vx then (1 : Int32) else (0 : Int32))))]))
    refine own_step (fun t k => XS.iconst X170.here hx rfl (hb hby at_100) k) ?_
    show own_Goes p e below _ (T170.setTop (mkF m 101 #[.val (.long p1), .second, .val (.long p2), .second, .val (.long p3), .second, .val (.int p4), .val (.long p5), .second, .val (.int (3 : Int32)), .val (.long vx), .second, .val (.long vy), .second, .val (.long vz), .second, .val (.ref b153), .unset] [(.int (1 : Int32)), (.int (if (1 : Int32) = (0 : Int32) then (0 : Int32) else (if p5 < vx then (1 : Int32) else (0 : Int32))))]))
    refine own_step (fun t k => XS.goto X170.here hx rfl (pc0 := 101) (pc' := 105) rfl (hb hby at_101) (by decide) (by decide) k) ?_
    show own_Goes p e below _ (T170.setTop (mkF m 105 #[.val (.long p1), .second, .val (.long p2), .second, .val (.long p3), .second, .val (.int p4), .val (.long p5), .second, .val (.int (3 : Int32)), .val (.long vx), .second, .val (.long vy), .second, .val (.long vz), .second, .val (.ref b153), .unset] [(.int (1 : Int32)), (.int (if (1 : Int32) = (0 : Int32) then (0 : Int32) else (if p5 < vx then (1 : Int32) else (0 : Int32))))]))
    refine own_step (fun t k => XS.lload X170.here hx rfl (hb hby at_105) rfl k) ?_
    show own_Goes p e below _ (T170.setTop (mkF m 107 #[.val (.long p1), .second, .val (.long p2), .second, .val (.long p3), .second, .val (.int p4), .val (.long p5), .second, .val (.int (3 : Int32)), .val (.long vx), .second, .val (.long vy), .second, .val (.long vz), .second, .val (.ref b153), .unset] [(.long vy), (.int (1 : Int32)), (.int (if (1 : Int32) = (0 : Int32) then (0 : Int32) else (if p5 < vx then (1 : Int32) else (0 : Int32))))]))
    refine own_step (fun t k => XS.lload X170.here hx rfl (hb hby at_107) rfl k) ?_
    show own_Goes p e below _ (T170.setTop (mkF m 109 #[.val (.long p1), .second, .val (.long p2), .second, .val (.long p3), .second, .val (.int p4), .val (.long p5), .second, .val (.int (3 : Int32)), .val (.long vx), .second, .val (.long vy), .second, .val (.long vz), .second, .val (.ref b153), .unset] [(.long p5), (.long vy), (.int (1 : Int32)), (.int (if (1 : Int32) = (0 : Int32) then (0 : Int32) else (if p5 < vx then (1 : Int32) else (0 : Int32))))]))
    obtain ⟨_, _, ⟨T172, L172, k172, n172⟩, -, X172, ⟨Lc172, hQ172, l172, y172, z172⟩, st172⟩ := Jvm.LawKit.callS X170 hx (y := (⟨"com/example/battlement/battlement/bench/TimingsOverPinLaw", "exceeds", "(ZJJ)I"⟩ : MethodName)) hown (mvT hZ w20) (mvT hZ w21) (mvT hZ w22) (mvT hZ w23) (by decide) (backOf (W := 1) (own_b3 l Z a0 hw [] (1 : Int32) vy p5  T166.heap n0 (Nat.le_trans (Nat.le_trans (Nat.le_trans (Nat.le_trans (Nat.le_trans Z0 E153.1) K155c.1) K158c.1) K162c.1) K166c.1) ) hZ w23 w22 (by decide) (by decide)) (g := (mkF m 109 #[.val (.long p1), .second, .val (.long p2), .second, .val (.long p3), .second, .val (.int p4), .val (.long p5), .second, .val (.int (3 : Int32)), .val (.long vx), .second, .val (.long vy), .second, .val (.long vz), .second, .val (.ref b153), .unset] [(.long p5), (.long vy), (.int (1 : Int32)), (.int (if (1 : Int32) = (0 : Int32) then (0 : Int32) else (if p5 < vx then (1 : Int32) else (0 : Int32))))])) rfl (by rw [hml]; rfl) (argsL := [(.int (1 : Int32)), (.long vy), (.long p5)]) (rest := [(.int (if (1 : Int32) = (0 : Int32) then (0 : Int32) else (if p5 < vx then (1 : Int32) else (0 : Int32))))]) (lenOf own_pd1 rfl) rfl (by show 2 * 0 + _ ≤ _; exact Nat.le_of_eq rfl) (hb hby at_109) (fun _ _ => ⟨rfl, eh170, (by decide : 2 + 0 ≤ _), (by decide : 66 + 0 ≤ _)⟩)
    dsimp only [Pt.U, Pt.locs, Pt.cells, Pt.slots] at X172 l172 y172 z172 st172 hQ172
    subst l172 y172 z172
    obtain ⟨rfl, N172q, eh172⟩ := hQ172
    have N172 := Fr.app N170 N172q
    refine own_step st172 ?_
    show own_Goes p e below _ (T172.setTop (mkF m 112 #[.val (.long p1), .second, .val (.long p2), .second, .val (.long p3), .second, .val (.int p4), .val (.long p5), .second, .val (.int (3 : Int32)), .val (.long vx), .second, .val (.long vy), .second, .val (.long vz), .second, .val (.ref b153), .unset] [(.int (if (1 : Int32) = (0 : Int32) then (0 : Int32) else (if p5 < vy then (1 : Int32) else (0 : Int32)))), (.int (if (1 : Int32) = (0 : Int32) then (0 : Int32) else (if p5 < vx then (1 : Int32) else (0 : Int32))))]))
    refine own_step (fun t k => XS.iadd X172.here hx rfl (hb hby at_112) rfl k) ?_
    show own_Goes p e below _ (T172.setTop (mkF m 113 #[.val (.long p1), .second, .val (.long p2), .second, .val (.long p3), .second, .val (.int p4), .val (.long p5), .second, .val (.int (3 : Int32)), .val (.long vx), .second, .val (.long vy), .second, .val (.long vz), .second, .val (.ref b153), .unset] [(.int ((if (1 : Int32) = (0 : Int32) then (0 : Int32) else (if p5 < vx then (1 : Int32) else (0 : Int32))) + (if (1 : Int32) = (0 : Int32) then (0 : Int32) else (if p5 < vy then (1 : Int32) else (0 : Int32)))))]))
    refine own_step (fun t k => XS.iload X172.here hx rfl (hb hby at_113) rfl k) ?_
    show own_Goes p e below _ (T172.setTop (mkF m 115 #[.val (.long p1), .second, .val (.long p2), .second, .val (.long p3), .second, .val (.int p4), .val (.long p5), .second, .val (.int (3 : Int32)), .val (.long vx), .second, .val (.long vy), .second, .val (.long vz), .second, .val (.ref b153), .unset] [(.int (3 : Int32)), (.int ((if (1 : Int32) = (0 : Int32) then (0 : Int32) else (if p5 < vx then (1 : Int32) else (0 : Int32))) + (if (1 : Int32) = (0 : Int32) then (0 : Int32) else (if p5 < vy then (1 : Int32) else (0 : Int32)))))]))
    refine own_step (fun t k => XS.iconst X172.here hx rfl (hb hby at_115) k) ?_
    show own_Goes p e below _ (T172.setTop (mkF m 116 #[.val (.long p1), .second, .val (.long p2), .second, .val (.long p3), .second, .val (.int p4), .val (.long p5), .second, .val (.int (3 : Int32)), .val (.long vx), .second, .val (.long vy), .second, .val (.long vz), .second, .val (.ref b153), .unset] [(.int (3 : Int32)), (.int (3 : Int32)), (.int ((if (1 : Int32) = (0 : Int32) then (0 : Int32) else (if p5 < vx then (1 : Int32) else (0 : Int32))) + (if (1 : Int32) = (0 : Int32) then (0 : Int32) else (if p5 < vy then (1 : Int32) else (0 : Int32)))))]))
    have hc173 : ¬ ((3 : Int32) < (3 : Int32)) := by decide
    refine own_step (fun t k => XS.icmpNo X172.here hx rfl (hb hby at_116) rfl (flt hc173).1 k) ?_
    show own_Goes p e below _ (T172.setTop (mkF m 119 #[.val (.long p1), .second, .val (.long p2), .second, .val (.long p3), .second, .val (.int p4), .val (.long p5), .second, .val (.int (3 : Int32)), .val (.long vx), .second, .val (.long vy), .second, .val (.long vz), .second, .val (.ref b153), .unset] [(.int ((if (1 : Int32) = (0 : Int32) then (0 : Int32) else (if p5 < vx then (1 : Int32) else (0 : Int32))) + (if (1 : Int32) = (0 : Int32) then (0 : Int32) else (if p5 < vy then (1 : Int32) else (0 : Int32)))))]))
    refine own_step (fun t k => XS.iconst X172.here hx rfl (hb hby at_119) k) ?_
    show own_Goes p e below _ (T172.setTop (mkF m 120 #[.val (.long p1), .second, .val (.long p2), .second, .val (.long p3), .second, .val (.int p4), .val (.long p5), .second, .val (.int (3 : Int32)), .val (.long vx), .second, .val (.long vy), .second, .val (.long vz), .second, .val (.ref b153), .unset] [(.int (1 : Int32)), (.int ((if (1 : Int32) = (0 : Int32) then (0 : Int32) else (if p5 < vx then (1 : Int32) else (0 : Int32))) + (if (1 : Int32) = (0 : Int32) then (0 : Int32) else (if p5 < vy then (1 : Int32) else (0 : Int32)))))]))
    refine own_step (fun t k => XS.goto X172.here hx rfl (pc0 := 120) (pc' := 124) rfl (hb hby at_120) (by decide) (by decide) k) ?_
    show own_Goes p e below _ (T172.setTop (mkF m 124 #[.val (.long p1), .second, .val (.long p2), .second, .val (.long p3), .second, .val (.int p4), .val (.long p5), .second, .val (.int (3 : Int32)), .val (.long vx), .second, .val (.long vy), .second, .val (.long vz), .second, .val (.ref b153), .unset] [(.int (1 : Int32)), (.int ((if (1 : Int32) = (0 : Int32) then (0 : Int32) else (if p5 < vx then (1 : Int32) else (0 : Int32))) + (if (1 : Int32) = (0 : Int32) then (0 : Int32) else (if p5 < vy then (1 : Int32) else (0 : Int32)))))]))
    refine own_step (fun t k => XS.lload X172.here hx rfl (hb hby at_124) rfl k) ?_
    show own_Goes p e below _ (T172.setTop (mkF m 126 #[.val (.long p1), .second, .val (.long p2), .second, .val (.long p3), .second, .val (.int p4), .val (.long p5), .second, .val (.int (3 : Int32)), .val (.long vx), .second, .val (.long vy), .second, .val (.long vz), .second, .val (.ref b153), .unset] [(.long vz), (.int (1 : Int32)), (.int ((if (1 : Int32) = (0 : Int32) then (0 : Int32) else (if p5 < vx then (1 : Int32) else (0 : Int32))) + (if (1 : Int32) = (0 : Int32) then (0 : Int32) else (if p5 < vy then (1 : Int32) else (0 : Int32)))))]))
    refine own_step (fun t k => XS.lload X172.here hx rfl (hb hby at_126) rfl k) ?_
    show own_Goes p e below _ (T172.setTop (mkF m 128 #[.val (.long p1), .second, .val (.long p2), .second, .val (.long p3), .second, .val (.int p4), .val (.long p5), .second, .val (.int (3 : Int32)), .val (.long vx), .second, .val (.long vy), .second, .val (.long vz), .second, .val (.ref b153), .unset] [(.long p5), (.long vz), (.int (1 : Int32)), (.int ((if (1 : Int32) = (0 : Int32) then (0 : Int32) else (if p5 < vx then (1 : Int32) else (0 : Int32))) + (if (1 : Int32) = (0 : Int32) then (0 : Int32) else (if p5 < vy then (1 : Int32) else (0 : Int32)))))]))
    obtain ⟨_, _, ⟨T174, L174, k174, n174⟩, -, X174, ⟨Lc174, hQ174, l174, y174, z174⟩, st174⟩ := Jvm.LawKit.callS X172 hx (y := (⟨"com/example/battlement/battlement/bench/TimingsOverPinLaw", "exceeds", "(ZJJ)I"⟩ : MethodName)) hown (mvT hZ w20) (mvT hZ w21) (mvT hZ w22) (mvT hZ w23) (by decide) (backOf (W := 1) (own_b3 l Z a0 hw [] (1 : Int32) vz p5  T166.heap n0 (Nat.le_trans (Nat.le_trans (Nat.le_trans (Nat.le_trans (Nat.le_trans Z0 E153.1) K155c.1) K158c.1) K162c.1) K166c.1) ) hZ w23 w22 (by decide) (by decide)) (g := (mkF m 128 #[.val (.long p1), .second, .val (.long p2), .second, .val (.long p3), .second, .val (.int p4), .val (.long p5), .second, .val (.int (3 : Int32)), .val (.long vx), .second, .val (.long vy), .second, .val (.long vz), .second, .val (.ref b153), .unset] [(.long p5), (.long vz), (.int (1 : Int32)), (.int ((if (1 : Int32) = (0 : Int32) then (0 : Int32) else (if p5 < vx then (1 : Int32) else (0 : Int32))) + (if (1 : Int32) = (0 : Int32) then (0 : Int32) else (if p5 < vy then (1 : Int32) else (0 : Int32)))))])) rfl (by rw [hml]; rfl) (argsL := [(.int (1 : Int32)), (.long vz), (.long p5)]) (rest := [(.int ((if (1 : Int32) = (0 : Int32) then (0 : Int32) else (if p5 < vx then (1 : Int32) else (0 : Int32))) + (if (1 : Int32) = (0 : Int32) then (0 : Int32) else (if p5 < vy then (1 : Int32) else (0 : Int32)))))]) (lenOf own_pd1 rfl) rfl (by show 2 * 0 + _ ≤ _; exact Nat.le_of_eq rfl) (hb hby at_128) (fun _ _ => ⟨rfl, eh172, (by decide : 2 + 0 ≤ _), (by decide : 66 + 0 ≤ _)⟩)
    dsimp only [Pt.U, Pt.locs, Pt.cells, Pt.slots] at X174 l174 y174 z174 st174 hQ174
    subst l174 y174 z174
    obtain ⟨rfl, N174q, eh174⟩ := hQ174
    have N174 := Fr.app N172 N174q
    refine own_step st174 ?_
    show own_Goes p e below _ (T174.setTop (mkF m 131 #[.val (.long p1), .second, .val (.long p2), .second, .val (.long p3), .second, .val (.int p4), .val (.long p5), .second, .val (.int (3 : Int32)), .val (.long vx), .second, .val (.long vy), .second, .val (.long vz), .second, .val (.ref b153), .unset] [(.int (if (1 : Int32) = (0 : Int32) then (0 : Int32) else (if p5 < vz then (1 : Int32) else (0 : Int32)))), (.int ((if (1 : Int32) = (0 : Int32) then (0 : Int32) else (if p5 < vx then (1 : Int32) else (0 : Int32))) + (if (1 : Int32) = (0 : Int32) then (0 : Int32) else (if p5 < vy then (1 : Int32) else (0 : Int32)))))]))
    refine own_step (fun t k => XS.iadd X174.here hx rfl (hb hby at_131) rfl k) ?_
    show own_Goes p e below _ (T174.setTop (mkF m 132 #[.val (.long p1), .second, .val (.long p2), .second, .val (.long p3), .second, .val (.int p4), .val (.long p5), .second, .val (.int (3 : Int32)), .val (.long vx), .second, .val (.long vy), .second, .val (.long vz), .second, .val (.ref b153), .unset] [(.int (((if (1 : Int32) = (0 : Int32) then (0 : Int32) else (if p5 < vx then (1 : Int32) else (0 : Int32))) + (if (1 : Int32) = (0 : Int32) then (0 : Int32) else (if p5 < vy then (1 : Int32) else (0 : Int32)))) + (if (1 : Int32) = (0 : Int32) then (0 : Int32) else (if p5 < vz then (1 : Int32) else (0 : Int32)))))]))
    refine own_step (fun t k => XS.istore X174.here hx rfl (hb hby at_132) rfl (l' := #[.val (.long p1), .second, .val (.long p2), .second, .val (.long p3), .second, .val (.int p4), .val (.long p5), .second, .val (.int (3 : Int32)), .val (.long vx), .second, .val (.long vy), .second, .val (.long vz), .second, .val (.ref b153), .val (.int (((if (1 : Int32) = (0 : Int32) then (0 : Int32) else (if p5 < vx then (1 : Int32) else (0 : Int32))) + (if (1 : Int32) = (0 : Int32) then (0 : Int32) else (if p5 < vy then (1 : Int32) else (0 : Int32)))) + (if (1 : Int32) = (0 : Int32) then (0 : Int32) else (if p5 < vz then (1 : Int32) else (0 : Int32)))))]) rfl k) ?_
    show own_Goes p e below _ (T174.setTop (mkF m 134 #[.val (.long p1), .second, .val (.long p2), .second, .val (.long p3), .second, .val (.int p4), .val (.long p5), .second, .val (.int (3 : Int32)), .val (.long vx), .second, .val (.long vy), .second, .val (.long vz), .second, .val (.ref b153), .val (.int (((if (1 : Int32) = (0 : Int32) then (0 : Int32) else (if p5 < vx then (1 : Int32) else (0 : Int32))) + (if (1 : Int32) = (0 : Int32) then (0 : Int32) else (if p5 < vy then (1 : Int32) else (0 : Int32)))) + (if (1 : Int32) = (0 : Int32) then (0 : Int32) else (if p5 < vz then (1 : Int32) else (0 : Int32)))))] []))
    refine own_step (fun t k => XS.aload X174.here hx rfl (hb hby at_134) rfl rfl k) ?_
    show own_Goes p e below _ (T174.setTop (mkF m 136 #[.val (.long p1), .second, .val (.long p2), .second, .val (.long p3), .second, .val (.int p4), .val (.long p5), .second, .val (.int (3 : Int32)), .val (.long vx), .second, .val (.long vy), .second, .val (.long vz), .second, .val (.ref b153), .val (.int (((if (1 : Int32) = (0 : Int32) then (0 : Int32) else (if p5 < vx then (1 : Int32) else (0 : Int32))) + (if (1 : Int32) = (0 : Int32) then (0 : Int32) else (if p5 < vy then (1 : Int32) else (0 : Int32)))) + (if (1 : Int32) = (0 : Int32) then (0 : Int32) else (if p5 < vz then (1 : Int32) else (0 : Int32)))))] [(.ref b153)]))
    refine own_step (fun t k => XS.lload X174.here hx rfl (hb hby at_136) rfl k) ?_
    show own_Goes p e below _ (T174.setTop (mkF m 138 #[.val (.long p1), .second, .val (.long p2), .second, .val (.long p3), .second, .val (.int p4), .val (.long p5), .second, .val (.int (3 : Int32)), .val (.long vx), .second, .val (.long vy), .second, .val (.long vz), .second, .val (.ref b153), .val (.int (((if (1 : Int32) = (0 : Int32) then (0 : Int32) else (if p5 < vx then (1 : Int32) else (0 : Int32))) + (if (1 : Int32) = (0 : Int32) then (0 : Int32) else (if p5 < vy then (1 : Int32) else (0 : Int32)))) + (if (1 : Int32) = (0 : Int32) then (0 : Int32) else (if p5 < vz then (1 : Int32) else (0 : Int32)))))] [(.long p5), (.ref b153)]))
    obtain ⟨cq175, kq175, q175a, q175b, q175c⟩ := isOf hZ eh174 f166_0
    obtain ⟨_, _, ⟨T175, L175, k175, n175⟩, -, X175, ⟨Lc175, hQ175, l175, y175, z175⟩, st175⟩ := X174.virtualBack hx (y := (⟨"com/example/battlement/battlement/bench/Timings", "over", "(J)I"⟩ : MethodName)) (z := (⟨"com/example/battlement/battlement/bench/Timings", "over", "(J)I"⟩ : MethodName)) hown (mvT hZ w24) (mvT hZ w25) (notFace_of_selects (args := #[]) (mvT hZ w27)) (mvT hZ w27) (mvT hZ w26) (by decide) (backOf (W := 0) (own_o3 l Z a0 hw [] b153 p5 (bb_155) (kk_155) (((((List.replicate 64 (0 : Int64)).set ((0 : Int32).toNatClampNeg) vx).set ((1 : Int32).toNatClampNeg) vy).set ((2 : Int32).toNatClampNeg) vz)) T166.heap n0 (Nat.le_trans (Nat.le_trans (Nat.le_trans (Nat.le_trans (Nat.le_trans Z0 E153.1) K155c.1) K158c.1) K162c.1) K166c.1) f166_2 fc168 f166_3) hZ w28 w3 (by decide) (by decide)) q175a q175c (g := (mkF m 138 #[.val (.long p1), .second, .val (.long p2), .second, .val (.long p3), .second, .val (.int p4), .val (.long p5), .second, .val (.int (3 : Int32)), .val (.long vx), .second, .val (.long vy), .second, .val (.long vz), .second, .val (.ref b153), .val (.int (((if (1 : Int32) = (0 : Int32) then (0 : Int32) else (if p5 < vx then (1 : Int32) else (0 : Int32))) + (if (1 : Int32) = (0 : Int32) then (0 : Int32) else (if p5 < vy then (1 : Int32) else (0 : Int32)))) + (if (1 : Int32) = (0 : Int32) then (0 : Int32) else (if p5 < vz then (1 : Int32) else (0 : Int32)))))] [(.long p5), (.ref b153)])) rfl (by rw [hml]; rfl) (Steps.refl _) (argsL := [(.long p5)]) (rest := []) (lenOf own_pd2 rfl) rfl (by show 2 * 0 + _ ≤ _; exact Nat.le_of_eq rfl) (hb hby at_138) (fun _ _ => ⟨rfl, eh174, (by decide : 2 + 0 ≤ _), (by decide : 66 + 0 ≤ _)⟩)
    dsimp only [Pt.U, Pt.locs, Pt.cells, Pt.slots] at X175 l175 y175 z175 st175 hQ175
    subst l175 y175 z175
    obtain ⟨rfl, N175q, eh175⟩ := hQ175
    have N175 := Fr.app N174 N175q
    refine own_jump st175 ?_
    show own_Goes p e below _ (T175.setTop (mkF m 141 #[.val (.long p1), .second, .val (.long p2), .second, .val (.long p3), .second, .val (.int p4), .val (.long p5), .second, .val (.int (3 : Int32)), .val (.long vx), .second, .val (.long vy), .second, .val (.long vz), .second, .val (.ref b153), .val (.int (((if (1 : Int32) = (0 : Int32) then (0 : Int32) else (if p5 < vx then (1 : Int32) else (0 : Int32))) + (if (1 : Int32) = (0 : Int32) then (0 : Int32) else (if p5 < vy then (1 : Int32) else (0 : Int32)))) + (if (1 : Int32) = (0 : Int32) then (0 : Int32) else (if p5 < vz then (1 : Int32) else (0 : Int32)))))] [(.int (if p5 < (((((List.replicate 64 (0 : Int64)).set ((0 : Int32).toNatClampNeg) vx).set ((1 : Int32).toNatClampNeg) vy).set ((2 : Int32).toNatClampNeg) vz).getD (2 : Int32).toNatClampNeg 0) then ((if p5 < (((((List.replicate 64 (0 : Int64)).set ((0 : Int32).toNatClampNeg) vx).set ((1 : Int32).toNatClampNeg) vy).set ((2 : Int32).toNatClampNeg) vz).getD (1 : Int32).toNatClampNeg 0) then ((if p5 < (((((List.replicate 64 (0 : Int64)).set ((0 : Int32).toNatClampNeg) vx).set ((1 : Int32).toNatClampNeg) vy).set ((2 : Int32).toNatClampNeg) vz).getD (0 : Int32).toNatClampNeg 0) then (1 : Int32) else (0 : Int32)) + (1 : Int32)) else (if p5 < (((((List.replicate 64 (0 : Int64)).set ((0 : Int32).toNatClampNeg) vx).set ((1 : Int32).toNatClampNeg) vy).set ((2 : Int32).toNatClampNeg) vz).getD (0 : Int32).toNatClampNeg 0) then (1 : Int32) else (0 : Int32))) + (1 : Int32)) else (if p5 < (((((List.replicate 64 (0 : Int64)).set ((0 : Int32).toNatClampNeg) vx).set ((1 : Int32).toNatClampNeg) vy).set ((2 : Int32).toNatClampNeg) vz).getD (1 : Int32).toNatClampNeg 0) then ((if p5 < (((((List.replicate 64 (0 : Int64)).set ((0 : Int32).toNatClampNeg) vx).set ((1 : Int32).toNatClampNeg) vy).set ((2 : Int32).toNatClampNeg) vz).getD (0 : Int32).toNatClampNeg 0) then (1 : Int32) else (0 : Int32)) + (1 : Int32)) else (if p5 < (((((List.replicate 64 (0 : Int64)).set ((0 : Int32).toNatClampNeg) vx).set ((1 : Int32).toNatClampNeg) vy).set ((2 : Int32).toNatClampNeg) vz).getD (0 : Int32).toNatClampNeg 0) then (1 : Int32) else (0 : Int32)))))]))
    refine own_step (fun t k => XS.iload X175.here hx rfl (hb hby at_141) rfl k) ?_
    show own_Goes p e below _ (T175.setTop (mkF m 143 #[.val (.long p1), .second, .val (.long p2), .second, .val (.long p3), .second, .val (.int p4), .val (.long p5), .second, .val (.int (3 : Int32)), .val (.long vx), .second, .val (.long vy), .second, .val (.long vz), .second, .val (.ref b153), .val (.int (((if (1 : Int32) = (0 : Int32) then (0 : Int32) else (if p5 < vx then (1 : Int32) else (0 : Int32))) + (if (1 : Int32) = (0 : Int32) then (0 : Int32) else (if p5 < vy then (1 : Int32) else (0 : Int32)))) + (if (1 : Int32) = (0 : Int32) then (0 : Int32) else (if p5 < vz then (1 : Int32) else (0 : Int32)))))] [(.int (((if (1 : Int32) = (0 : Int32) then (0 : Int32) else (if p5 < vx then (1 : Int32) else (0 : Int32))) + (if (1 : Int32) = (0 : Int32) then (0 : Int32) else (if p5 < vy then (1 : Int32) else (0 : Int32)))) + (if (1 : Int32) = (0 : Int32) then (0 : Int32) else (if p5 < vz then (1 : Int32) else (0 : Int32))))), (.int (if p5 < (((((List.replicate 64 (0 : Int64)).set ((0 : Int32).toNatClampNeg) vx).set ((1 : Int32).toNatClampNeg) vy).set ((2 : Int32).toNatClampNeg) vz).getD (2 : Int32).toNatClampNeg 0) then ((if p5 < (((((List.replicate 64 (0 : Int64)).set ((0 : Int32).toNatClampNeg) vx).set ((1 : Int32).toNatClampNeg) vy).set ((2 : Int32).toNatClampNeg) vz).getD (1 : Int32).toNatClampNeg 0) then ((if p5 < (((((List.replicate 64 (0 : Int64)).set ((0 : Int32).toNatClampNeg) vx).set ((1 : Int32).toNatClampNeg) vy).set ((2 : Int32).toNatClampNeg) vz).getD (0 : Int32).toNatClampNeg 0) then (1 : Int32) else (0 : Int32)) + (1 : Int32)) else (if p5 < (((((List.replicate 64 (0 : Int64)).set ((0 : Int32).toNatClampNeg) vx).set ((1 : Int32).toNatClampNeg) vy).set ((2 : Int32).toNatClampNeg) vz).getD (0 : Int32).toNatClampNeg 0) then (1 : Int32) else (0 : Int32))) + (1 : Int32)) else (if p5 < (((((List.replicate 64 (0 : Int64)).set ((0 : Int32).toNatClampNeg) vx).set ((1 : Int32).toNatClampNeg) vy).set ((2 : Int32).toNatClampNeg) vz).getD (1 : Int32).toNatClampNeg 0) then ((if p5 < (((((List.replicate 64 (0 : Int64)).set ((0 : Int32).toNatClampNeg) vx).set ((1 : Int32).toNatClampNeg) vy).set ((2 : Int32).toNatClampNeg) vz).getD (0 : Int32).toNatClampNeg 0) then (1 : Int32) else (0 : Int32)) + (1 : Int32)) else (if p5 < (((((List.replicate 64 (0 : Int64)).set ((0 : Int32).toNatClampNeg) vx).set ((1 : Int32).toNatClampNeg) vy).set ((2 : Int32).toNatClampNeg) vz).getD (0 : Int32).toNatClampNeg 0) then (1 : Int32) else (0 : Int32)))))]))
    refine own_step (S' := T175.setTop (mkF m 151 #[.val (.long p1), .second, .val (.long p2), .second, .val (.long p3), .second, .val (.int p4), .val (.long p5), .second, .val (.int (3 : Int32)), .val (.long vx), .second, .val (.long vy), .second, .val (.long vz), .second, .val (.ref b153), .val (.int (((if (1 : Int32) = (0 : Int32) then (0 : Int32) else (if p5 < vx then (1 : Int32) else (0 : Int32))) + (if (1 : Int32) = (0 : Int32) then (0 : Int32) else (if p5 < vy then (1 : Int32) else (0 : Int32)))) + (if (1 : Int32) = (0 : Int32) then (0 : Int32) else (if p5 < vz then (1 : Int32) else (0 : Int32)))))] [(.int (if (if p5 < (((((List.replicate 64 (0 : Int64)).set ((0 : Int32).toNatClampNeg) vx).set ((1 : Int32).toNatClampNeg) vy).set ((2 : Int32).toNatClampNeg) vz).getD (2 : Int32).toNatClampNeg 0) then ((if p5 < (((((List.replicate 64 (0 : Int64)).set ((0 : Int32).toNatClampNeg) vx).set ((1 : Int32).toNatClampNeg) vy).set ((2 : Int32).toNatClampNeg) vz).getD (1 : Int32).toNatClampNeg 0) then ((if p5 < (((((List.replicate 64 (0 : Int64)).set ((0 : Int32).toNatClampNeg) vx).set ((1 : Int32).toNatClampNeg) vy).set ((2 : Int32).toNatClampNeg) vz).getD (0 : Int32).toNatClampNeg 0) then (1 : Int32) else (0 : Int32)) + (1 : Int32)) else (if p5 < (((((List.replicate 64 (0 : Int64)).set ((0 : Int32).toNatClampNeg) vx).set ((1 : Int32).toNatClampNeg) vy).set ((2 : Int32).toNatClampNeg) vz).getD (0 : Int32).toNatClampNeg 0) then (1 : Int32) else (0 : Int32))) + (1 : Int32)) else (if p5 < (((((List.replicate 64 (0 : Int64)).set ((0 : Int32).toNatClampNeg) vx).set ((1 : Int32).toNatClampNeg) vy).set ((2 : Int32).toNatClampNeg) vz).getD (1 : Int32).toNatClampNeg 0) then ((if p5 < (((((List.replicate 64 (0 : Int64)).set ((0 : Int32).toNatClampNeg) vx).set ((1 : Int32).toNatClampNeg) vy).set ((2 : Int32).toNatClampNeg) vz).getD (0 : Int32).toNatClampNeg 0) then (1 : Int32) else (0 : Int32)) + (1 : Int32)) else (if p5 < (((((List.replicate 64 (0 : Int64)).set ((0 : Int32).toNatClampNeg) vx).set ((1 : Int32).toNatClampNeg) vy).set ((2 : Int32).toNatClampNeg) vz).getD (0 : Int32).toNatClampNeg 0) then (1 : Int32) else (0 : Int32)))) = (((if (1 : Int32) = (0 : Int32) then (0 : Int32) else (if p5 < vx then (1 : Int32) else (0 : Int32))) + (if (1 : Int32) = (0 : Int32) then (0 : Int32) else (if p5 < vy then (1 : Int32) else (0 : Int32)))) + (if (1 : Int32) = (0 : Int32) then (0 : Int32) else (if p5 < vz then (1 : Int32) else (0 : Int32)))) then (1 : Int32) else (0 : Int32)))])) (fun t k => ?_) ?_
    · show Steps p.tables e below (T175.setTop (mkF m 143 #[.val (.long p1), .second, .val (.long p2), .second, .val (.long p3), .second, .val (.int p4), .val (.long p5), .second, .val (.int (3 : Int32)), .val (.long vx), .second, .val (.long vy), .second, .val (.long vz), .second, .val (.ref b153), .val (.int (((if (1 : Int32) = (0 : Int32) then (0 : Int32) else (if p5 < vx then (1 : Int32) else (0 : Int32))) + (if (1 : Int32) = (0 : Int32) then (0 : Int32) else (if p5 < vy then (1 : Int32) else (0 : Int32)))) + (if (1 : Int32) = (0 : Int32) then (0 : Int32) else (if p5 < vz then (1 : Int32) else (0 : Int32)))))] [(.int (((if (1 : Int32) = (0 : Int32) then (0 : Int32) else (if p5 < vx then (1 : Int32) else (0 : Int32))) + (if (1 : Int32) = (0 : Int32) then (0 : Int32) else (if p5 < vy then (1 : Int32) else (0 : Int32)))) + (if (1 : Int32) = (0 : Int32) then (0 : Int32) else (if p5 < vz then (1 : Int32) else (0 : Int32))))), (.int (if p5 < (((((List.replicate 64 (0 : Int64)).set ((0 : Int32).toNatClampNeg) vx).set ((1 : Int32).toNatClampNeg) vy).set ((2 : Int32).toNatClampNeg) vz).getD (2 : Int32).toNatClampNeg 0) then ((if p5 < (((((List.replicate 64 (0 : Int64)).set ((0 : Int32).toNatClampNeg) vx).set ((1 : Int32).toNatClampNeg) vy).set ((2 : Int32).toNatClampNeg) vz).getD (1 : Int32).toNatClampNeg 0) then ((if p5 < (((((List.replicate 64 (0 : Int64)).set ((0 : Int32).toNatClampNeg) vx).set ((1 : Int32).toNatClampNeg) vy).set ((2 : Int32).toNatClampNeg) vz).getD (0 : Int32).toNatClampNeg 0) then (1 : Int32) else (0 : Int32)) + (1 : Int32)) else (if p5 < (((((List.replicate 64 (0 : Int64)).set ((0 : Int32).toNatClampNeg) vx).set ((1 : Int32).toNatClampNeg) vy).set ((2 : Int32).toNatClampNeg) vz).getD (0 : Int32).toNatClampNeg 0) then (1 : Int32) else (0 : Int32))) + (1 : Int32)) else (if p5 < (((((List.replicate 64 (0 : Int64)).set ((0 : Int32).toNatClampNeg) vx).set ((1 : Int32).toNatClampNeg) vy).set ((2 : Int32).toNatClampNeg) vz).getD (1 : Int32).toNatClampNeg 0) then ((if p5 < (((((List.replicate 64 (0 : Int64)).set ((0 : Int32).toNatClampNeg) vx).set ((1 : Int32).toNatClampNeg) vy).set ((2 : Int32).toNatClampNeg) vz).getD (0 : Int32).toNatClampNeg 0) then (1 : Int32) else (0 : Int32)) + (1 : Int32)) else (if p5 < (((((List.replicate 64 (0 : Int64)).set ((0 : Int32).toNatClampNeg) vx).set ((1 : Int32).toNatClampNeg) vy).set ((2 : Int32).toNatClampNeg) vz).getD (0 : Int32).toNatClampNeg 0) then (1 : Int32) else (0 : Int32)))))])) _
      by_cases hc176 : (if p5 < (((((List.replicate 64 (0 : Int64)).set ((0 : Int32).toNatClampNeg) vx).set ((1 : Int32).toNatClampNeg) vy).set ((2 : Int32).toNatClampNeg) vz).getD (2 : Int32).toNatClampNeg 0) then ((if p5 < (((((List.replicate 64 (0 : Int64)).set ((0 : Int32).toNatClampNeg) vx).set ((1 : Int32).toNatClampNeg) vy).set ((2 : Int32).toNatClampNeg) vz).getD (1 : Int32).toNatClampNeg 0) then ((if p5 < (((((List.replicate 64 (0 : Int64)).set ((0 : Int32).toNatClampNeg) vx).set ((1 : Int32).toNatClampNeg) vy).set ((2 : Int32).toNatClampNeg) vz).getD (0 : Int32).toNatClampNeg 0) then (1 : Int32) else (0 : Int32)) + (1 : Int32)) else (if p5 < (((((List.replicate 64 (0 : Int64)).set ((0 : Int32).toNatClampNeg) vx).set ((1 : Int32).toNatClampNeg) vy).set ((2 : Int32).toNatClampNeg) vz).getD (0 : Int32).toNatClampNeg 0) then (1 : Int32) else (0 : Int32))) + (1 : Int32)) else (if p5 < (((((List.replicate 64 (0 : Int64)).set ((0 : Int32).toNatClampNeg) vx).set ((1 : Int32).toNatClampNeg) vy).set ((2 : Int32).toNatClampNeg) vz).getD (1 : Int32).toNatClampNeg 0) then ((if p5 < (((((List.replicate 64 (0 : Int64)).set ((0 : Int32).toNatClampNeg) vx).set ((1 : Int32).toNatClampNeg) vy).set ((2 : Int32).toNatClampNeg) vz).getD (0 : Int32).toNatClampNeg 0) then (1 : Int32) else (0 : Int32)) + (1 : Int32)) else (if p5 < (((((List.replicate 64 (0 : Int64)).set ((0 : Int32).toNatClampNeg) vx).set ((1 : Int32).toNatClampNeg) vy).set ((2 : Int32).toNatClampNeg) vz).getD (0 : Int32).toNatClampNeg 0) then (1 : Int32) else (0 : Int32)))) = (((if (1 : Int32) = (0 : Int32) then (0 : Int32) else (if p5 < vx then (1 : Int32) else (0 : Int32))) + (if (1 : Int32) = (0 : Int32) then (0 : Int32) else (if p5 < vy then (1 : Int32) else (0 : Int32)))) + (if (1 : Int32) = (0 : Int32) then (0 : Int32) else (if p5 < vz then (1 : Int32) else (0 : Int32))))
      · --
        refine XS.icmpNo X175.here hx rfl (hb hby at_143) rfl (teq hc176).2 ?_
        show Steps p.tables e below (T175.setTop (mkF m 146 #[.val (.long p1), .second, .val (.long p2), .second, .val (.long p3), .second, .val (.int p4), .val (.long p5), .second, .val (.int (3 : Int32)), .val (.long vx), .second, .val (.long vy), .second, .val (.long vz), .second, .val (.ref b153), .val (.int (((if (1 : Int32) = (0 : Int32) then (0 : Int32) else (if p5 < vx then (1 : Int32) else (0 : Int32))) + (if (1 : Int32) = (0 : Int32) then (0 : Int32) else (if p5 < vy then (1 : Int32) else (0 : Int32)))) + (if (1 : Int32) = (0 : Int32) then (0 : Int32) else (if p5 < vz then (1 : Int32) else (0 : Int32)))))] [])) _
        refine XS.iconst X175.here hx rfl (hb hby at_146) ?_
        show Steps p.tables e below (T175.setTop (mkF m 147 #[.val (.long p1), .second, .val (.long p2), .second, .val (.long p3), .second, .val (.int p4), .val (.long p5), .second, .val (.int (3 : Int32)), .val (.long vx), .second, .val (.long vy), .second, .val (.long vz), .second, .val (.ref b153), .val (.int (((if (1 : Int32) = (0 : Int32) then (0 : Int32) else (if p5 < vx then (1 : Int32) else (0 : Int32))) + (if (1 : Int32) = (0 : Int32) then (0 : Int32) else (if p5 < vy then (1 : Int32) else (0 : Int32)))) + (if (1 : Int32) = (0 : Int32) then (0 : Int32) else (if p5 < vz then (1 : Int32) else (0 : Int32)))))] [(.int (1 : Int32))])) _
        refine XS.goto X175.here hx rfl (pc0 := 147) (pc' := 151) rfl (hb hby at_147) (by decide) (by decide) ?_
        show Steps p.tables e below (T175.setTop (mkF m 151 #[.val (.long p1), .second, .val (.long p2), .second, .val (.long p3), .second, .val (.int p4), .val (.long p5), .second, .val (.int (3 : Int32)), .val (.long vx), .second, .val (.long vy), .second, .val (.long vz), .second, .val (.ref b153), .val (.int (((if (1 : Int32) = (0 : Int32) then (0 : Int32) else (if p5 < vx then (1 : Int32) else (0 : Int32))) + (if (1 : Int32) = (0 : Int32) then (0 : Int32) else (if p5 < vy then (1 : Int32) else (0 : Int32)))) + (if (1 : Int32) = (0 : Int32) then (0 : Int32) else (if p5 < vz then (1 : Int32) else (0 : Int32)))))] [(.int (1 : Int32))])) _
        simp only [if_pos hc176] at k
        exact k
      · --
        refine XS.icmpYes X175.here hx rfl (pc0 := 143) (pc' := 150) rfl (hb hby at_143) rfl (feq hc176).2 (by decide) (by decide) ?_
        show Steps p.tables e below (T175.setTop (mkF m 150 #[.val (.long p1), .second, .val (.long p2), .second, .val (.long p3), .second, .val (.int p4), .val (.long p5), .second, .val (.int (3 : Int32)), .val (.long vx), .second, .val (.long vy), .second, .val (.long vz), .second, .val (.ref b153), .val (.int (((if (1 : Int32) = (0 : Int32) then (0 : Int32) else (if p5 < vx then (1 : Int32) else (0 : Int32))) + (if (1 : Int32) = (0 : Int32) then (0 : Int32) else (if p5 < vy then (1 : Int32) else (0 : Int32)))) + (if (1 : Int32) = (0 : Int32) then (0 : Int32) else (if p5 < vz then (1 : Int32) else (0 : Int32)))))] [])) _
        refine XS.iconst X175.here hx rfl (hb hby at_150) ?_
        show Steps p.tables e below (T175.setTop (mkF m 151 #[.val (.long p1), .second, .val (.long p2), .second, .val (.long p3), .second, .val (.int p4), .val (.long p5), .second, .val (.int (3 : Int32)), .val (.long vx), .second, .val (.long vy), .second, .val (.long vz), .second, .val (.ref b153), .val (.int (((if (1 : Int32) = (0 : Int32) then (0 : Int32) else (if p5 < vx then (1 : Int32) else (0 : Int32))) + (if (1 : Int32) = (0 : Int32) then (0 : Int32) else (if p5 < vy then (1 : Int32) else (0 : Int32)))) + (if (1 : Int32) = (0 : Int32) then (0 : Int32) else (if p5 < vz then (1 : Int32) else (0 : Int32)))))] [(.int (0 : Int32))])) _
        simp only [if_neg hc176] at k
        exact k
    show own_Goes p e below _ (T175.setTop (mkF m 151 #[.val (.long p1), .second, .val (.long p2), .second, .val (.long p3), .second, .val (.int p4), .val (.long p5), .second, .val (.int (3 : Int32)), .val (.long vx), .second, .val (.long vy), .second, .val (.long vz), .second, .val (.ref b153), .val (.int (((if (1 : Int32) = (0 : Int32) then (0 : Int32) else (if p5 < vx then (1 : Int32) else (0 : Int32))) + (if (1 : Int32) = (0 : Int32) then (0 : Int32) else (if p5 < vy then (1 : Int32) else (0 : Int32)))) + (if (1 : Int32) = (0 : Int32) then (0 : Int32) else (if p5 < vz then (1 : Int32) else (0 : Int32)))))] [(.int (if (if p5 < (((((List.replicate 64 (0 : Int64)).set ((0 : Int32).toNatClampNeg) vx).set ((1 : Int32).toNatClampNeg) vy).set ((2 : Int32).toNatClampNeg) vz).getD (2 : Int32).toNatClampNeg 0) then ((if p5 < (((((List.replicate 64 (0 : Int64)).set ((0 : Int32).toNatClampNeg) vx).set ((1 : Int32).toNatClampNeg) vy).set ((2 : Int32).toNatClampNeg) vz).getD (1 : Int32).toNatClampNeg 0) then ((if p5 < (((((List.replicate 64 (0 : Int64)).set ((0 : Int32).toNatClampNeg) vx).set ((1 : Int32).toNatClampNeg) vy).set ((2 : Int32).toNatClampNeg) vz).getD (0 : Int32).toNatClampNeg 0) then (1 : Int32) else (0 : Int32)) + (1 : Int32)) else (if p5 < (((((List.replicate 64 (0 : Int64)).set ((0 : Int32).toNatClampNeg) vx).set ((1 : Int32).toNatClampNeg) vy).set ((2 : Int32).toNatClampNeg) vz).getD (0 : Int32).toNatClampNeg 0) then (1 : Int32) else (0 : Int32))) + (1 : Int32)) else (if p5 < (((((List.replicate 64 (0 : Int64)).set ((0 : Int32).toNatClampNeg) vx).set ((1 : Int32).toNatClampNeg) vy).set ((2 : Int32).toNatClampNeg) vz).getD (1 : Int32).toNatClampNeg 0) then ((if p5 < (((((List.replicate 64 (0 : Int64)).set ((0 : Int32).toNatClampNeg) vx).set ((1 : Int32).toNatClampNeg) vy).set ((2 : Int32).toNatClampNeg) vz).getD (0 : Int32).toNatClampNeg 0) then (1 : Int32) else (0 : Int32)) + (1 : Int32)) else (if p5 < (((((List.replicate 64 (0 : Int64)).set ((0 : Int32).toNatClampNeg) vx).set ((1 : Int32).toNatClampNeg) vy).set ((2 : Int32).toNatClampNeg) vz).getD (0 : Int32).toNatClampNeg 0) then (1 : Int32) else (0 : Int32)))) = (((if (1 : Int32) = (0 : Int32) then (0 : Int32) else (if p5 < vx then (1 : Int32) else (0 : Int32))) + (if (1 : Int32) = (0 : Int32) then (0 : Int32) else (if p5 < vy then (1 : Int32) else (0 : Int32)))) + (if (1 : Int32) = (0 : Int32) then (0 : Int32) else (if p5 < vz then (1 : Int32) else (0 : Int32)))) then (1 : Int32) else (0 : Int32)))]))
    refine own_retL X175 hx hlk Bd.returns (hb hby at_151) (?_ : (if (if p5 < (((((List.replicate 64 (0 : Int64)).set ((0 : Int32).toNatClampNeg) vx).set ((1 : Int32).toNatClampNeg) vy).set ((2 : Int32).toNatClampNeg) vz).getD (2 : Int32).toNatClampNeg 0) then ((if p5 < (((((List.replicate 64 (0 : Int64)).set ((0 : Int32).toNatClampNeg) vx).set ((1 : Int32).toNatClampNeg) vy).set ((2 : Int32).toNatClampNeg) vz).getD (1 : Int32).toNatClampNeg 0) then ((if p5 < (((((List.replicate 64 (0 : Int64)).set ((0 : Int32).toNatClampNeg) vx).set ((1 : Int32).toNatClampNeg) vy).set ((2 : Int32).toNatClampNeg) vz).getD (0 : Int32).toNatClampNeg 0) then (1 : Int32) else (0 : Int32)) + (1 : Int32)) else (if p5 < (((((List.replicate 64 (0 : Int64)).set ((0 : Int32).toNatClampNeg) vx).set ((1 : Int32).toNatClampNeg) vy).set ((2 : Int32).toNatClampNeg) vz).getD (0 : Int32).toNatClampNeg 0) then (1 : Int32) else (0 : Int32))) + (1 : Int32)) else (if p5 < (((((List.replicate 64 (0 : Int64)).set ((0 : Int32).toNatClampNeg) vx).set ((1 : Int32).toNatClampNeg) vy).set ((2 : Int32).toNatClampNeg) vz).getD (1 : Int32).toNatClampNeg 0) then ((if p5 < (((((List.replicate 64 (0 : Int64)).set ((0 : Int32).toNatClampNeg) vx).set ((1 : Int32).toNatClampNeg) vy).set ((2 : Int32).toNatClampNeg) vz).getD (0 : Int32).toNatClampNeg 0) then (1 : Int32) else (0 : Int32)) + (1 : Int32)) else (if p5 < (((((List.replicate 64 (0 : Int64)).set ((0 : Int32).toNatClampNeg) vx).set ((1 : Int32).toNatClampNeg) vy).set ((2 : Int32).toNatClampNeg) vz).getD (0 : Int32).toNatClampNeg 0) then (1 : Int32) else (0 : Int32)))) = (((if (1 : Int32) = (0 : Int32) then (0 : Int32) else (if p5 < vx then (1 : Int32) else (0 : Int32))) + (if (1 : Int32) = (0 : Int32) then (0 : Int32) else (if p5 < vy then (1 : Int32) else (0 : Int32)))) + (if (1 : Int32) = (0 : Int32) then (0 : Int32) else (if p5 < vz then (1 : Int32) else (0 : Int32)))) then (1 : Int32) else (0 : Int32)) = 1) N175 (by decide) (by decide)
    exact own_plain3 _ _ _ _
set_option maxRecDepth 65536 in
set_option maxHeartbeats 40000000 in
theorem comes_1 {Post : Tables → Env → Array Value → State → Outcome → State → Prop} (hpost : ∀ tb e args s v u, (limb_1_1.after args s (.returned v) u = true ∧ limb_1_2.after args s (.returned v) u = true ∧ True) → FrameEnd s (.returned v) u (Jvm.fieldLocs frame_1_writes args s ++ Jvm.arrayLocs frame_1_arrays args s ++ Jvm.staticLocs frame_1_statics s) 16 256 → Post tb e args s (.returned v) u) :
    ArmFor flags0 classFile x code maxLocals ret World_1 tables_1 room_1 Calls_1 rest_1 Pre_1 Post := by
  intro l hfl _ _ p e ha hc hk s m args below hf hA hF happ hP
  obtain ⟨hcalls, hrest, hpre⟩ := hP
  obtain ⟨-, -, -, hnamed, -, -, -, hat⟩ := (Spec.applies_iff hf).mp happ
  obtain ⟨hg, hn⟩ := and_e (Cond.before_iff.mp (show (Jvm.Cond.and given_1 narrow_1).before args s = true from hpre))
  obtain ⟨gg1, gg2⟩ := and_e hg
  obtain ⟨gg3, gg4⟩ := and_e gg2
  obtain ⟨gg5, gg6⟩ := and_e gg4
  obtain ⟨gg7, gg8⟩ := and_e gg6
  obtain ⟨gg9, gg10⟩ := and_e gg8
  obtain ⟨w0, w1, w2, w3, w4, rfl⟩ : ∃ w0 w1 w2 w3 w4 : Value, args = #[w0, w1, w2, w3, w4] := by
    have hs : args.size = 5 := by simpa [Cond.value, given_1] using gg1
    obtain ⟨L⟩ := args
    match L, hs with
    | [w0, w1, w2, w3, w4], _ => exact ⟨w0, w1, w2, w3, w4, rfl⟩
  have hw := fun d (hd : d ∈ tables_1) => atoms_spec (ws := Jvm.Cond.code x code maxLocals ret :: tables_1) hat d (List.mem_cons_of_mem _ hd)
  have hfit : Fit s := fun {y c} hc i hi => by
    obtain ⟨ha, rfl⟩ := Array.getElem?_eq_some_iff.mp hc
    have q := List.all_eq_true.mp ((Array.all_eq_true_iff_forall_mem.mp hF) _ (Array.getElem_mem ha)) i (List.mem_range.mpr hi)
    simpa [Array.getElem?_eq_getElem hi] using q
  obtain ⟨i0, ei0⟩ := isL_v gg3
  obtain rfl : w0 = (.long i0) := Option.some.inj ei0
  obtain ⟨i1, ei1⟩ := isL_v gg5
  obtain rfl : w1 = (.long i1) := Option.some.inj ei1
  obtain ⟨i2, ei2⟩ := isL_v gg7
  obtain rfl : w2 = (.long i2) := Option.some.inj ei2
  obtain ⟨i3, ei3⟩ := is_v gg9
  obtain rfl : w3 = (.int i3) := Option.some.inj ei3
  obtain ⟨i4, ei4⟩ := isL_v gg10
  obtain rfl : w4 = (.long i4) := Option.some.inj ei4
  obtain ⟨n, o, h1, h2, h3, _, L, rfl, ⟨rfl, N⟩, hq⟩ := own_law l s _ hw tables_1 i0 i1 i2 i3 i4  s.heap s.heap.size (Nat.le_refl _)  p e ha hc hk s m _ below hf ((Spec.applies_iff_loose hf).mp happ).1 ⟨rfl, State.Warmed39.refl s, rfl⟩ trivial
  refine ⟨n, _, h1, h2, h3, hpost _ _ _ _ _ _ ⟨Cond.after_iff.mpr rfl, Cond.after_iff.mpr (eq_i res_at (Term.int_eval (1)) rfl), trivial⟩ ⟨hq.1, hq.2.1, (hq.2.2.sift fun y hy => Or.inr (N y hy)).mono (by decide) (by decide)⟩⟩
theorem main_1_1 : Claimed_1_1 := comes_1 fun _ _ _ _ _ _ h hF => ⟨h.1, hF⟩
theorem main_1_2 : Claimed_1_2 := comes_1 fun _ _ _ _ _ _ h hF => ⟨h.2.1, hF⟩
end Jvm.Pilot.@@N@@
namespace Jvm.Pilot.@@N@@
open Jvm Jvm.ClassFile Sem Op Lib Jvm.Free Jvm.Stand Jvm.Pilot.@@N@@.Jvm.D
/-! MADE BY PROGRAM (witnessworld.py) out of the Statement's table words and the real class files: 11 classes; the members and pool entries that the words name. The judged class is class 1, her method 2. -/
namespace start1
open Jvm.ClassFile
def u (s : String) : CpInfo := .utf8 (stringToUtf16 s)
/-- a pool by its gaps: so many unusable entries, then the entry; so many at the end -/
def gap : Nat → List CpInfo → List CpInfo
  | 0, r => r
  | n + 1, r => .unusable :: gap n r
def poolList (es : List (Nat × CpInfo)) (last : Nat) : List CpInfo := es.foldr (fun e r => gap e.1 (e.2 :: r)) (gap last [])
def pool (es : List (Nat × CpInfo)) (last : Nat) : Array CpInfo := ⟨poolList es last⟩
def fileOf (pool : Array CpInfo) (this : Nat) (attrs : Array Attribute := #[]) (ms : Array MethodInfo := #[]) (fl : Nat := 33) (sup : Nat := 0) (ifs : Array Nat := #[]) (fds : Array FieldInfo := #[]) : ClassFile where
  minorVersion := 0
  majorVersion := 65
  constantPool := pool
  accessFlags := fl
  thisClass := this
  superClass := sup
  interfaces := ifs
  fields := fds
  methods := ms
  attributes := attrs
def plain (name : String) (sup : Option ClassId) : Class where
  name := name
  kind := .ordinary
  loader := none
  accessFlags := 33
  super := sup
  interfaces := #[]
  cf := none
  fields := #[]
  methods := #[]
  instanceTypes := #[]
  staticTypes := #[]
  resolved := #[]
  callSites := []
  init := .initialized
  statics := none
  mirror := none

def pool0 : Array CpInfo := pool [(5, u "<init>"), (0, u "()V"), (1, .class_ 10), (1, u "java/lang/Object")] 113

def k0c0 : Code := { maxStack := 0, maxLocals := 1, code := object_method_1_code, exceptionTable := #[], attributes := #[] }
def k0m0 : Method := { name := "<init>", desc := "()V", sig := { parameters := [], returnType := none }, accessFlags := 1, code := some k0c0 }
/-- java/lang/Object -/
def k0 : Class := { plain "java/lang/Object" none with
  accessFlags := 33
  interfaces := #[]
  cf := some (fileOf pool0 8 #[] #[{ accessFlags := 1, nameIndex := 5, descriptorIndex := 6, attributes := #[] }] 33 0 #[] #[])
  fields := #[]
  methods := #[k0m0]
  instanceTypes := #[]
  staticTypes := #[]
  resolved := Array.replicate 124 none
  statics := none }

def pool1 : Array CpInfo := pool [(2, .class_ 4), (0, .nameAndType 5 6), (0, u "java/lang/Object"), (0, u "<init>"), (0, u "()V"), (2, .long 9223372036854775807), (1, .class_ 12), (0, u "com/example/battlement/battlement/bench/Timings"), (0, .methodref 11 3), (0, .methodref 11 15), (0, .nameAndType 16 17), (0, u "add"), (0, u "(J)V"), (0, .methodref 19 20), (0, .class_ 21), (0, .nameAndType 22 23), (0, u "com/example/battlement/battlement/bench/TimingsOverPinLaw"), (0, u "exceeds"), (0, u "(ZJJ)I"), (0, .methodref 11 25), (0, .nameAndType 26 27), (0, u "over"), (0, u "(J)I"), (3, u "law"), (0, u "(JJJIJ)Z")] 2

def k1m0 : Method := { name := "<init>", desc := "()V", sig := { parameters := [], returnType := none }, accessFlags := 1, code := none }
def k1c1 : Code := { maxStack := 4, maxLocals := 5, code := method_2_code, exceptionTable := #[], attributes := #[] }
def k1m1 : Method := { name := "exceeds", desc := "(ZJJ)I", sig := { parameters := [.boolean, .long, .long], returnType := some .int }, accessFlags := 10, code := some k1c1 }
def k1c2 : Code := { maxStack := 6, maxLocals := 18, code := code, exceptionTable := #[], attributes := #[] }
def k1m2 : Method := { name := "law", desc := "(JJJIJ)Z", sig := { parameters := [.long, .long, .long, .int, .long], returnType := some .boolean }, accessFlags := 9, code := some k1c2 }
/-- com/example/battlement/battlement/bench/TimingsOverPinLaw -/
def k1 : Class := { plain "com/example/battlement/battlement/bench/TimingsOverPinLaw" (some 0) with
  accessFlags := 49
  interfaces := #[]
  cf := some (fileOf pool1 19 #[] #[{ accessFlags := 1, nameIndex := 5, descriptorIndex := 6, attributes := #[] }, { accessFlags := 10, nameIndex := 22, descriptorIndex := 23, attributes := #[] }, { accessFlags := 9, nameIndex := 31, descriptorIndex := 32, attributes := #[] }] 49 2 #[] #[])
  fields := #[]
  methods := #[k1m0, k1m1, k1m2]
  instanceTypes := #[]
  staticTypes := #[]
  resolved := Array.replicate 35 none
  statics := none }

def pool2 : Array CpInfo := pool [(1, .methodref 2 3), (0, .class_ 4), (0, .nameAndType 5 6), (0, u "java/lang/Object"), (0, u "<init>"), (0, u "()V"), (0, .fieldref 8 9), (0, .class_ 10), (0, .nameAndType 11 12), (0, u "com/example/battlement/battlement/bench/Timings"), (0, u "nanos"), (0, u "[J"), (9, .fieldref 8 23), (0, .nameAndType 24 25), (0, u "count"), (0, u "I"), (20, u "add"), (0, u "(J)V"), (6, u "over"), (0, u "(J)I")] 17

def k2c0 : Code := { maxStack := 2, maxLocals := 1, code := prog_41_method_1_code, exceptionTable := #[], attributes := #[] }
def k2m0 : Method := { name := "<init>", desc := "()V", sig := { parameters := [], returnType := none }, accessFlags := 1, code := some k2c0 }
def k2c1 : Code := { maxStack := 5, maxLocals := 3, code := prog_41_method_2_code, exceptionTable := #[], attributes := #[] }
def k2m1 : Method := { name := "add", desc := "(J)V", sig := { parameters := [.long], returnType := none }, accessFlags := 1, code := some k2c1 }
def k2c2 : Code := { maxStack := 4, maxLocals := 5, code := prog_41_method_6_code, exceptionTable := #[], attributes := #[] }
def k2m2 : Method := { name := "over", desc := "(J)I", sig := { parameters := [.long], returnType := some .int }, accessFlags := 1, code := some k2c2 }
/-- com/example/battlement/battlement/bench/Timings -/
def k2 : Class := { plain "com/example/battlement/battlement/bench/Timings" (some 0) with
  accessFlags := 49
  interfaces := #[]
  cf := some (fileOf pool2 8 #[] #[{ accessFlags := 1, nameIndex := 5, descriptorIndex := 6, attributes := #[] }, { accessFlags := 1, nameIndex := 46, descriptorIndex := 47, attributes := #[] }, { accessFlags := 1, nameIndex := 54, descriptorIndex := 55, attributes := #[] }] 49 2 #[] #[{ accessFlags := 2, nameIndex := 11, descriptorIndex := 12, attributes := #[] }, { accessFlags := 2, nameIndex := 24, descriptorIndex := 25, attributes := #[] }])
  fields := #[{ name := "nanos", type := (.array .long), accessFlags := 2, slot := 0, constantValue := 0 }, { name := "count", type := .int, accessFlags := 2, slot := 1, constantValue := 0 }]
  methods := #[k2m0, k2m1, k2m2]
  instanceTypes := #[(.array .long), .int]
  staticTypes := #[]
  resolved := Array.replicate 73 none
  statics := none }

def pool3 : Array CpInfo := pool [(1, u "java/lang/Cloneable"), (0, .class_ 1), (0, u "java/lang/Object"), (0, .class_ 3)] 3

/-- java/lang/Cloneable -/
def k3 : Class := { plain "java/lang/Cloneable" (some 0) with
  accessFlags := 1537
  interfaces := #[]
  cf := some (fileOf pool3 2 #[] #[] 1537 4 #[] #[])
  fields := #[]
  methods := #[]
  instanceTypes := #[]
  staticTypes := #[]
  resolved := Array.replicate 8 none
  statics := none }

def pool4 : Array CpInfo := pool [(1, u "java/io/Serializable"), (0, .class_ 1), (0, u "java/lang/Object"), (0, .class_ 3)] 3

/-- java/io/Serializable -/
def k4 : Class := { plain "java/io/Serializable" (some 0) with
  accessFlags := 1537
  interfaces := #[]
  cf := some (fileOf pool4 2 #[] #[] 1537 4 #[] #[])
  fields := #[]
  methods := #[]
  instanceTypes := #[]
  staticTypes := #[]
  resolved := Array.replicate 8 none
  statics := none }

/-- the primitive byte -/
def k5 : Class := { plain "byte" none with kind := .primitive 'B', accessFlags := 0x411 }
/-- [B -/
def k6 : Class := { plain "[B" (some 0) with kind := .array 5 .byte, interfaces := #[3, 4], accessFlags := 1041 }

/-- the primitive int -/
def k7 : Class := { plain "int" none with kind := .primitive 'I', accessFlags := 0x411 }
/-- [I -/
def k8 : Class := { plain "[I" (some 0) with kind := .array 7 .int, interfaces := #[3, 4], accessFlags := 1041 }

/-- the primitive long -/
def k9 : Class := { plain "long" none with kind := .primitive 'J', accessFlags := 0x411 }
/-- [J -/
def k10 : Class := { plain "[J" (some 0) with kind := .array 9 .long, interfaces := #[3, 4], accessFlags := 1041 }

def heap : Heap := #[]
def classes : Array Class := #[k0, k1, k2, k3, k4, k5, k6, k7, k8, k9, k10]
def interned : List (Array UInt16 × Addr) := []
def slotsUsed : Nat := 0
def theMethod : MethodId := ⟨1, 2⟩
def args0 : Array Value := #[.long 1, .long 1, .long 1, .int 1, .long 1]
def aboutOver (below : List Frame) : State where
  vm := { classes := classes, interned := interned.toArray }
  heap := heap
  slotsUsed := slotsUsed
  threads := #[{ frames := .invoking theMethod args0 :: below }]
def below0 : List Frame := [.native { method := ⟨0, 0⟩, args := #[] }]
def about1 : State := aboutOver below0
def p0 : Program := .bare "" "" ""
def e0 : Env := launch0.env 0 0 0
theorem w_frames : about1.frames = Frame.invoking theMethod args0 :: below0 := rfl
set_option maxRecDepth 65536 in
theorem w_args : argsFit about1.vm theMethod args0 = true := by decide +kernel
set_option maxRecDepth 65536 in
theorem w_heap : heapFits about1 = true := by decide +kernel
set_option maxRecDepth 65536 in
theorem w_runnable : about1.curStatus? = some .runnable := by decide +kernel
set_option maxRecDepth 65536 in
theorem w_alone : about1.alone = true := by decide +kernel
set_option maxRecDepth 65536 in
theorem w_named : about1.methodNamed? x = some theMethod := by decide +kernel
set_option maxRecDepth 65536 in
theorem w_hears : about1.hears theMethod below0 = true := by decide +kernel
set_option maxRecDepth 65536 in
theorem w_ripe : about1.ripe theMethod args0 below0 = true := by decide +kernel
theorem w_running : about1.status = .running := rfl
set_option maxRecDepth 65536 in
theorem w_room : about1.hasRoom e0.platform room_1 = true :=
  launch0.hasRoom_least _ room_1 (by decide +kernel) (by decide +kernel) (by decide +kernel) (by decide +kernel) (by decide +kernel) (by decide +kernel)
theorem allAtoms_all (ts : List Jvm.Cond) (a : Array Jvm.Value) (st : Jvm.State) : (allAtoms ts).before a st = ts.all (fun c => c.before a st) := by
  induction ts with
  | nil => rfl
  | cons c t ih =>
    show (Jvm.Cond.and c (allAtoms t)).before a st = _
    rw [Jvm.Cond.before_and, ih, List.all_cons]
def words1 : List Jvm.Cond := Jvm.Cond.code x code maxLocals ret :: tables_1
/-- a 'code' word, met by the world's own term for the bytes: nothing is compared byte by byte -/
theorem code_word {y : MethodName} {bytes : ByteArray} {mx : Nat} {rt : Option FieldType} {a : Array Value} {s : State} {m : MethodId} {meth : Method} {c : Code} (h1 : s.methodNamed? y = some m) (h2 : s.vm.method? m = some meth) (h3 : meth.code = some c) (h4 : c.code = bytes)
    (h5 : (c.maxLocals == mx && c.exceptionTable.isEmpty && decide (c.maxStack ≤ mostOperands) && decide (meth.sig.returnType = rt) && !meth.locks && decide (parseMethodDescriptor y.desc = some meth.sig)) = true) : (Jvm.Cond.code y bytes mx rt).before a s = true := by
  simp only [Bool.and_eq_true, beq_iff_eq, Bool.not_eq_true', decide_eq_true_eq] at h5
  obtain ⟨⟨⟨⟨⟨g1, g2⟩, g3⟩, g4⟩, g5⟩, g6⟩ := h5
  simp [Cond.before, Cond.holds, Cond.value, h1, h2, h3, h4, g1, g2, g3, g4, g5, g6]
def isCode : Jvm.Cond → Bool
  | .code _ _ _ _ => true
  | _ => false
theorem all_split {L : List Jvm.Cond} {P : Jvm.Cond → Bool} (h1 : L.all (fun c => isCode c || P c) = true) (h2 : ∀ c ∈ L.filter isCode, P c = true) : L.all P = true := by
  refine List.all_eq_true.mpr fun c hc => ?_
  have h := List.all_eq_true.mp h1 c hc
  rcases Bool.eq_false_or_eq_true (isCode c) with hi | hi
  · exact h2 c (List.mem_filter.mpr ⟨hc, hi⟩)
  · simpa [hi] using h
set_option maxRecDepth 65536 in
theorem w_c0 : (Jvm.Cond.code x code maxLocals ret).before args0 about1 = true := code_word (m := ⟨1, 2⟩) (meth := k1m2) (c := k1c2) (by decide +kernel) rfl rfl rfl (by decide +kernel)
set_option maxRecDepth 65536 in
theorem w_c1 : (Jvm.Cond.code ({ cls := "com/example/battlement/battlement/bench/Timings", name := "<init>", desc := "()V" } : Jvm.MethodName) prog_41_method_1_code (1 : Nat) (Option.none : Option Jvm.ClassFile.FieldType)).before args0 about1 = true := code_word (m := ⟨2, 0⟩) (meth := k2m0) (c := k2c0) (by decide +kernel) rfl rfl rfl (by decide +kernel)
set_option maxRecDepth 65536 in
theorem w_c2 : (Jvm.Cond.code ({ cls := "java/lang/Object", name := "<init>", desc := "()V" } : Jvm.MethodName) object_method_1_code (1 : Nat) (Option.none : Option Jvm.ClassFile.FieldType)).before args0 about1 = true := code_word (m := ⟨0, 0⟩) (meth := k0m0) (c := k0c0) (by decide +kernel) rfl rfl rfl (by decide +kernel)
set_option maxRecDepth 65536 in
theorem w_c3 : (Jvm.Cond.code ({ cls := "com/example/battlement/battlement/bench/Timings", name := "add", desc := "(J)V" } : Jvm.MethodName) prog_41_method_2_code (3 : Nat) (Option.none : Option Jvm.ClassFile.FieldType)).before args0 about1 = true := code_word (m := ⟨2, 1⟩) (meth := k2m1) (c := k2c1) (by decide +kernel) rfl rfl rfl (by decide +kernel)
set_option maxRecDepth 65536 in
theorem w_c4 : (Jvm.Cond.code ({ cls := "com/example/battlement/battlement/bench/TimingsOverPinLaw", name := "exceeds", desc := "(ZJJ)I" } : Jvm.MethodName) method_2_code (5 : Nat) (Option.some Jvm.ClassFile.FieldType.int)).before args0 about1 = true := code_word (m := ⟨1, 1⟩) (meth := k1m1) (c := k1c1) (by decide +kernel) rfl rfl rfl (by decide +kernel)
set_option maxRecDepth 65536 in
theorem w_c5 : (Jvm.Cond.code ({ cls := "com/example/battlement/battlement/bench/Timings", name := "over", desc := "(J)I" } : Jvm.MethodName) prog_41_method_6_code (5 : Nat) (Option.some Jvm.ClassFile.FieldType.int)).before args0 about1 = true := code_word (m := ⟨2, 2⟩) (meth := k2m2) (c := k2c2) (by decide +kernel) rfl rfl rfl (by decide +kernel)
def codes1 : List Jvm.Cond := [Jvm.Cond.code x code maxLocals ret, Jvm.Cond.code ({ cls := "com/example/battlement/battlement/bench/Timings", name := "<init>", desc := "()V" } : Jvm.MethodName) prog_41_method_1_code (1 : Nat) (Option.none : Option Jvm.ClassFile.FieldType), Jvm.Cond.code ({ cls := "java/lang/Object", name := "<init>", desc := "()V" } : Jvm.MethodName) object_method_1_code (1 : Nat) (Option.none : Option Jvm.ClassFile.FieldType), Jvm.Cond.code ({ cls := "com/example/battlement/battlement/bench/Timings", name := "add", desc := "(J)V" } : Jvm.MethodName) prog_41_method_2_code (3 : Nat) (Option.none : Option Jvm.ClassFile.FieldType), Jvm.Cond.code ({ cls := "com/example/battlement/battlement/bench/TimingsOverPinLaw", name := "exceeds", desc := "(ZJJ)I" } : Jvm.MethodName) method_2_code (5 : Nat) (Option.some Jvm.ClassFile.FieldType.int), Jvm.Cond.code ({ cls := "com/example/battlement/battlement/bench/Timings", name := "over", desc := "(J)I" } : Jvm.MethodName) prog_41_method_6_code (5 : Nat) (Option.some Jvm.ClassFile.FieldType.int)]
set_option maxRecDepth 65536 in
theorem codes_eq : words1.filter isCode = codes1 := rfl
theorem w_codes : ∀ c ∈ words1.filter isCode, c.before args0 about1 = true := by
  rw [codes_eq]
  intro c hc
  simp only [codes1, List.mem_cons, List.not_mem_nil, or_false] at hc
  rcases hc with rfl | rfl | rfl | rfl | rfl | rfl
  · exact w_c0
  · exact w_c1
  · exact w_c2
  · exact w_c3
  · exact w_c4
  · exact w_c5
set_option maxRecDepth 65536 in
theorem w_t1 : (words1.take 24).all (fun c => isCode c || c.before args0 about1) = true := by decide +kernel
set_option maxRecDepth 65536 in
theorem w_t2 : (words1.drop 24).all (fun c => isCode c || c.before args0 about1) = true := by decide +kernel
theorem w_tables : (allAtoms (Jvm.Cond.code x code maxLocals ret :: tables_1)).before args0 about1 = true := by
  rw [allAtoms_all]
  show words1.all (fun c => c.before args0 about1) = true
  refine all_split ?_ w_codes
  rw [← List.take_append_drop 24 words1, List.all_append, w_t1, w_t2]
  rfl
set_option maxRecDepth 65536 in
theorem w_case : (Jvm.Cond.and given_1 narrow_1).before args0 about1 = true := by decide +kernel
theorem w_applies : (headSpec (Jvm.Cond.code x code maxLocals ret :: tables_1) room_1).applies x e0.platform about1 = true :=
  (Spec.applies_iff w_frames).mpr ⟨w_running, w_runnable, w_alone, w_named, w_hears, w_ripe, w_room, w_tables⟩
theorem atStart : AtStart classFile x code maxLocals ret World_1 tables_1 room_1 Calls_1 rest_1 Pre_1 launch0 p0 e0 about1 theMethod args0 below0 :=
  ⟨lists_1, trivial, launch0.admits_env _ _ _, launch0.least_env, fairChoices_fair.cas, fairChoices_fair.clock, w_frames, w_args, w_heap, w_applies, trivial, trivial, w_case⟩
end start1
theorem witness_1 : WitnessClaimed_1 := ⟨start1.p0, start1.e0, start1.about1, start1.theMethod, start1.args0, start1.below0, start1.atStart⟩
end Jvm.Pilot.@@N@@
